import JvmDerived
import JvmDerived.Pilot.@@N@@Statement
import JvmDerived.Pilot.@@N@@Code
set_option linter.unusedVariables false
set_option linter.unusedSimpArgs false
set_option maxHeartbeats 2000000
namespace Jvm.Pilot.@@N@@
open Jvm Jvm.ClassFile Sem Op Lib Jvm.Free Jvm.Stand Jvm.LawKit Jvm.RoadKit Bundle Jvm.Pilot.@@N@@.Jvm.D
section OwnKit
variable {p : Program} {l : Launch} {e : Env} {R : Room} {s : State} {m : MethodId} {args : Array Value} {below : List Frame} {meth : Method} {c : Code} {T : State} {locs : List Loc} {cells slots : Nat} {Z : State} {h h' : Heap} {a b : Addr}
def OwnWp (p : Program) (e : Env) (below : List Frame) (s : State) (C S : Nat) (Q : Option Value → Heap → List Loc → Prop) (U : State) : Prop :=
  ∃ s₂ o, Steps p.tables e below U s₂ ∧ s₂.status = .running ∧ Ended s₂ below o ∧ ∃ v L, o = .returned v ∧ Q v s₂.heap L ∧ FrameEnd s o s₂ L C S
variable {C S : Nat} {Q : Option Value → Heap → List Loc → Prop}
theorem OwnWp.step {U U' : State} (hs : ∀ t, Steps p.tables e below U' t → Steps p.tables e below U t) (k : OwnWp p e below s C S Q U') : OwnWp p e below s C S Q U := by
  obtain ⟨s2, o, h1, r⟩ := k
  exact ⟨s2, o, hs _ h1, r⟩
theorem OwnWp.go {U U' : State} (hs : Steps p.tables e below U U') (k : OwnWp p e below s C S Q U') : OwnWp p e below s C S Q U := k.step fun _ q => hs.trans q
theorem OwnWp.cast {g g' : JFrame} (q : g = g') (k : OwnWp p e below s C S Q (T.setTop g')) : OwnWp p e below s C S Q (T.setTop g) := q ▸ k
theorem OwnWp.retI (X : Stand p l e R s m args below meth c T locs cells slots) (hx : p.tables.exec = Jvm.exec) (hlk : meth.locks = false) (hret : meth.sig.returnType = some .int) {pc : Nat} {Ls : Array Slot} {z : Int32} {rest : List Value} (hd : decode c.code pc = .ok (.ireturn, 1)) (hC : cells ≤ C) (hS : slots ≤ S) (hQ : Q (some (.int z)) T.heap locs) :
    OwnWp p e below s C S Q (T.setTop (mkF m pc Ls (.int z :: rest))) := by
  obtain ⟨fs, hr, hrun, hended, hW, hsame⟩ := X.leave (v := some (.int z)) (fun h => by rw [hret] at h; cases h) hlk
  exact ⟨_, _, retOut X hx hret rfl (Or.inl ⟨rfl, Or.inl rfl, z, rfl⟩) hd hr, hrun, hended, _, _, rfl, hQ, ⟨_, rfl⟩, hW, hsame.mono hC hS⟩
theorem OwnWp.retJ (X : Stand p l e R s m args below meth c T locs cells slots) (hx : p.tables.exec = Jvm.exec) (hlk : meth.locks = false) (hret : meth.sig.returnType = some .long) {pc : Nat} {Ls : Array Slot} {z : Int64} {rest : List Value} (hd : decode c.code pc = .ok (.lreturn, 1)) (hC : cells ≤ C) (hS : slots ≤ S) (hQ : Q (some (.long z)) T.heap locs) :
    OwnWp p e below s C S Q (T.setTop (mkF m pc Ls (.long z :: rest))) := by
  obtain ⟨fs, hr, hrun, hended, hW, hsame⟩ := X.leave (v := some (.long z)) (fun h => by rw [hret] at h; cases h) hlk
  exact ⟨_, _, retOut X hx hret rfl (Or.inr (Or.inl ⟨rfl, rfl, z, rfl⟩)) hd hr, hrun, hended, _, _, rfl, hQ, ⟨_, rfl⟩, hW, hsame.mono hC hS⟩
theorem OwnWp.retA (X : Stand p l e R s m args below meth c T locs cells slots) (hx : p.tables.exec = Jvm.exec) (hlk : meth.locks = false) {t : FieldType} (hret : meth.sig.returnType = some t) (ht : t.isReference = true) {pc : Nat} {Ls : Array Slot} {z : Addr} {rest : List Value} (hn : narrow t (.ref z) = .ref z) (hd : decode c.code pc = .ok (.areturn, 1)) (hC : cells ≤ C) (hS : slots ≤ S) (hQ : Q (some (.ref z)) T.heap locs) :
    OwnWp p e below s C S Q (T.setTop (mkF m pc Ls (.ref z :: rest))) := by
  obtain ⟨fs, hr, hrun, hended, hW, hsame⟩ := X.leave (v := some (.ref z)) (fun h => by rw [hret] at h; cases h) hlk
  exact ⟨_, _, retOut X hx hret hn (Or.inr (Or.inr (Or.inr (Or.inr ⟨rfl, ht, rfl⟩)))) hd hr, hrun, hended, _, _, rfl, hQ, ⟨_, rfl⟩, hW, hsame.mono hC hS⟩
theorem OwnWp.retZ (X : Stand p l e R s m args below meth c T locs cells slots) (hx : p.tables.exec = Jvm.exec) (hlk : meth.locks = false) (hret : meth.sig.returnType = some .boolean) {pc : Nat} {Ls : Array Slot} {z : Int32} {rest : List Value} (hd : decode c.code pc = .ok (.ireturn, 1)) (hC : cells ≤ C) (hS : slots ≤ S) (hz : z = 0 ∨ z = 1) (hQ : Q (some (.int z)) T.heap locs) :
    OwnWp p e below s C S Q (T.setTop (mkF m pc Ls (.int z :: rest))) := by
  have hn : nar .boolean z = z := by rcases hz with rfl | rfl <;> rfl
  obtain ⟨fs, hr, hrun, hended, hW, hsame⟩ := X.leave (v := some (.int (nar .boolean z))) (fun h => by rw [hret] at h; cases h) hlk
  exact ⟨_, _, retN X hx hret (Or.inl rfl) hd hr, hrun, hended, _, _, rfl, by rw [hn]; exact hQ, ⟨_, rfl⟩, hW, hsame.mono hC hS⟩
theorem OwnWp.retV (X : Stand p l e R s m args below meth c T locs cells slots) (hx : p.tables.exec = Jvm.exec) (hlk : meth.locks = false) (hret : meth.sig.returnType = none) {pc : Nat} {Ls : Array Slot} (hd : decode c.code pc = .ok (.return_, 1)) (hC : cells ≤ C) (hS : slots ≤ S) (hQ : Q none T.heap locs) :
    OwnWp p e below s C S Q (T.setTop (mkF m pc Ls [])) := by
  obtain ⟨fs, hr, hrun, hended, hW, hsame⟩ := X.leave (v := none) (fun _ => rfl) hlk
  exact ⟨_, _, X.returnOut hx hret hd hr, hrun, hended, _, _, rfl, hQ, ⟨_, rfl⟩, hW, hsame.mono hC hS⟩
theorem own_widen {cells' slots' : Nat} (X : Stand p l e R s m args below meth c T locs cells slots) (h1 : cells ≤ cells') (h2 : slots ≤ slots') : Stand p l e R s m args below meth c T locs cells' slots' := { X with same := X.same.mono h1 h2 }
theorem own_fold {n0 c' s' : Nat} (X : Stand p l e R s m args below meth c T locs cells slots) (N : Fr n0 locs) (h1 : cells ≤ c') (h2 : slots ≤ s') : ∃ L', Stand p l e R s m args below meth c T L' c' s' ∧ Fr n0 L' := ⟨locs, own_widen X h1 h2, N⟩
theorem own_lrem {g : JFrame} {target : State} (X : Stand p l e R s m args below meth c T locs cells slots) (hx : p.tables.exec = Jvm.exec) (hg : g.method = m) {x y : Int64} {rest : List Value} (hd : decode c.code g.pc = .ok (.lrem, 1)) (hs : g.stack = .long y :: .long x :: rest) (hy : y ≠ 0)
    (hr : Steps p.tables e below (T.setTop { g with pc := g.pc + 1, stack := .long (x % y) :: rest }) target) : Steps p.tables e below (T.setTop g) target :=
  XT.lrem X.here hx hg hd hs hy (by rw [lrem_mod]; exact hr)
/-- an array: its kind, its length, what place i holds -/
def OwnA (Z : State) (h : Heap) (a : Addr) (ty : FieldType) (n : Int32) (f : Int → Value) : Prop :=
  ∃ cl : Cell, Arr Z h a cl ty ∧ (cl.slots.size : Int) = n.toInt ∧ ∀ i : Int, 0 ≤ i → i < n.toInt → cl.slots[i.toNat]? = some (f i)
def ownUpd {α : Type} (f : Int → α) (j : Int) (x : α) : Int → α := fun i => if i = j then x else f i
theorem ownUpd_same {α : Type} (f : Int → α) (j : Int) (x : α) : ownUpd f j x j = x := if_pos rfl
theorem ownUpd_ne {α : Type} (f : Int → α) (j : Int) (x : α) {i : Int} (q : i ≠ j) : ownUpd f j x i = f i := if_neg q
theorem ownUpd_int (f : Int → Int32) (j : Int) (x : Int32) (i : Int) : ownUpd (fun i => Value.int (f i)) j (Value.int x) i = Value.int (ownUpd f j x i) := by unfold ownUpd; split <;> rfl
theorem ownUpd_long (f : Int → Int64) (j : Int) (x : Int64) (i : Int) : ownUpd (fun i => Value.long (f i)) j (Value.long x) i = Value.long (ownUpd f j x i) := by unfold ownUpd; split <;> rfl
variable {ty : FieldType} {n : Int32} {f : Int → Value} {ws : List Addr}
theorem OwnA.lt (F : OwnA Z h a ty n f) : a < h.size := by obtain ⟨_, A, -⟩ := F; exact A.lt
theorem OwnA.ext (F : OwnA Z h a ty n f) (E : Ext h h') : OwnA Z h' a ty n f := by obtain ⟨cl, A, r⟩ := F; exact ⟨cl, A.ext E, r⟩
theorem OwnA.keep (F : OwnA Z h a ty n f) (K : Keep h h' ws) (q : a ∉ ws) : OwnA Z h' a ty n f := by obtain ⟨cl, A, r⟩ := F; exact ⟨cl, ⟨K.2.1 a cl A.1 q, A.2⟩, r⟩
theorem OwnA.other {sl : Nat} {v : Value} (F : OwnA Z h b ty n f) (W : Wr h h' a sl v) (q : b ≠ a) : OwnA Z h' b ty n f := by obtain ⟨cl, A, r⟩ := F; exact ⟨cl, A.other W q, r⟩
theorem OwnA.len (F : OwnA Z h a ty n f) : 0 ≤ n.toInt := by obtain ⟨cl, _, r, _⟩ := F; omega
theorem OwnA.congr {f' : Int → Value} (F : OwnA Z h a ty n f) (q : ∀ i, 0 ≤ i → i < n.toInt → f i = f' i) : OwnA Z h a ty n f' := by obtain ⟨cl, A, r1, r2⟩ := F; exact ⟨cl, A, r1, fun i h1 h2 => by rw [← q i h1 h2]; exact r2 i h1 h2⟩
theorem own_clamp (j : Int32) : j.toNatClampNeg = j.toInt.toNat := rfl
theorem own_in {cl : Cell} {j : Int32} (r : (cl.slots.size : Int) = n.toInt) (h1 : 0 ≤ j.toInt) (h2 : j.toInt < n.toInt) : ¬ (j < 0 ∨ cl.slots.size ≤ j.toNatClampNeg) := by
  rw [own_clamp, Int32.lt_iff_toInt_lt, Int32.toInt_zero]; omega
theorem OwnA.new {k : ClassId} {z : Int32} (A : Arr Z h a (newA k ty z) ty) (q : 0 ≤ z.toInt) : OwnA Z h a ty z (fun _ => defaultValue ty) := by
  refine ⟨_, A, ?_, fun i h1 h2 => ?_⟩
  · rw [sz_new, own_clamp]; omega
  · have hi : i.toNat < z.toNatClampNeg := by rw [own_clamp]; omega
    show (Array.replicate z.toNatClampNeg (defaultValue ty))[i.toNat]? = _
    rw [Array.getElem?_replicate, if_pos hi]
theorem OwnA.set {j : Int32} {v : Value} (F : OwnA Z h a ty n f) (h1 : 0 ≤ j.toInt) (h2 : j.toInt < n.toInt) (W : Wr h h' a j.toNatClampNeg v) : OwnA Z h' a ty n (ownUpd f j.toInt v) := by
  obtain ⟨cl, A, r1, r2⟩ := F
  refine ⟨_, A.same W, by rw [sz_set]; exact r1, fun i g1 g2 => ?_⟩
  by_cases q : i = j.toInt
  · subst q
    rw [ownUpd_same]
    have hi : j.toNatClampNeg < cl.slots.size := by rw [own_clamp]; omega
    exact Array.getElem?_setIfInBounds_self_of_lt hi
  · rw [ownUpd_ne _ _ _ q, ← r2 i g1 g2, own_clamp]
    exact Array.getElem?_setIfInBounds_ne (by omega)
variable {g : JFrame} {target : State} {rest : List Value} {j : Int32}
theorem OwnA.alen (X : Stand p l e R s m args below meth c T locs cells slots) (hx : p.tables.exec = Jvm.exec) (hZ : Z.Warmed39 s.vm) (eT : T.heap = h) (F : OwnA Z h a ty n f) (hg : g.method = m) (hs : g.stack = .ref a :: rest) (hd : decode c.code g.pc = .ok (.arraylength, 1))
    (hr : Steps p.tables e below (T.setTop { g with pc := g.pc + 1, stack := .int n :: rest }) target) : Steps p.tables e below (T.setTop g) target := by
  obtain ⟨cl, A, r1, r2⟩ := F
  subst eT
  refine X.arraylength hx A.1 (State.isArrayOf_alike hZ.alike A.2.1) hg hs hd target ?_
  have q : cl.slots.size.toInt32 = n := by
    have q0 : cl.slots.size = n.toNatClampNeg := by rw [own_clamp]; omega
    exact len_of q0 (by rw [Int32.lt_iff_toInt_lt, Int32.toInt_zero]; omega)
  rw [q]; exact hr
theorem OwnA.ldI (X : Stand p l e R s m args below meth c T locs cells slots) (hx : p.tables.exec = Jvm.exec) (hZ : Z.Warmed39 s.vm) (eT : T.heap = h) (F : OwnA Z h a .int n f) (h1 : 0 ≤ j.toInt) (h2 : j.toInt < n.toInt) (hg : g.method = m) (hs : g.stack = .int j :: .ref a :: rest) (hd : decode c.code g.pc = .ok (.iaload, 1))
    (hr : Steps p.tables e below (T.setTop { g with pc := g.pc + 1, stack := f j.toInt :: rest }) target) : Steps p.tables e below (T.setTop g) target := by
  obtain ⟨cl, A, r1, r2⟩ := F
  subst eT
  exact X.iaload hx A.1 (State.isArrayOf_alike hZ.alike A.2.1) A.2.2 (own_in r1 h1 h2) (r2 _ h1 h2) hg hs hd target hr
theorem OwnA.ldJ (X : Stand p l e R s m args below meth c T locs cells slots) (hx : p.tables.exec = Jvm.exec) (hZ : Z.Warmed39 s.vm) (eT : T.heap = h) (F : OwnA Z h a .long n f) (h1 : 0 ≤ j.toInt) (h2 : j.toInt < n.toInt) (hg : g.method = m) (hs : g.stack = .int j :: .ref a :: rest) (hd : decode c.code g.pc = .ok (.laload, 1))
    (hr : Steps p.tables e below (T.setTop { g with pc := g.pc + 1, stack := f j.toInt :: rest }) target) : Steps p.tables e below (T.setTop g) target := by
  obtain ⟨cl, A, r1, r2⟩ := F
  subst eT
  exact X.laload hx A.1 (State.isArrayOf_alike hZ.alike A.2.1) A.2.2 (own_in r1 h1 h2) (r2 _ h1 h2) hg hs hd target hr
theorem OwnA.ldC (X : Stand p l e R s m args below meth c T locs cells slots) (hx : p.tables.exec = Jvm.exec) (hZ : Z.Warmed39 s.vm) (eT : T.heap = h) (F : OwnA Z h a .char n f) (h1 : 0 ≤ j.toInt) (h2 : j.toInt < n.toInt) (hg : g.method = m) (hs : g.stack = .int j :: .ref a :: rest) (hd : decode c.code g.pc = .ok (.caload, 1))
    (hr : Steps p.tables e below (T.setTop { g with pc := g.pc + 1, stack := f j.toInt :: rest }) target) : Steps p.tables e below (T.setTop g) target := by
  obtain ⟨cl, A, r1, r2⟩ := F
  subst eT
  exact X.caload hx A.1 (State.isArrayOf_alike hZ.alike A.2.1) A.2.2 (own_in r1 h1 h2) (r2 _ h1 h2) hg hs hd target hr
theorem OwnA.ldB (X : Stand p l e R s m args below meth c T locs cells slots) (hx : p.tables.exec = Jvm.exec) (hZ : Z.Warmed39 s.vm) (eT : T.heap = h) (F : OwnA Z h a .byte n f) (h1 : 0 ≤ j.toInt) (h2 : j.toInt < n.toInt) (hg : g.method = m) (hs : g.stack = .int j :: .ref a :: rest) (hd : decode c.code g.pc = .ok (.baload, 1))
    (hr : Steps p.tables e below (T.setTop { g with pc := g.pc + 1, stack := f j.toInt :: rest }) target) : Steps p.tables e below (T.setTop g) target := by
  obtain ⟨cl, A, r1, r2⟩ := F
  subst eT
  exact X.baloadBytes hx A.1 (State.isArrayOf_alike hZ.alike A.2.1) A.2.2 (own_in r1 h1 h2) (r2 _ h1 h2) hg hs hd target hr
theorem OwnA.ldZ (X : Stand p l e R s m args below meth c T locs cells slots) (hx : p.tables.exec = Jvm.exec) (hZ : Z.Warmed39 s.vm) (eT : T.heap = h) (F : OwnA Z h a .boolean n f) (h1 : 0 ≤ j.toInt) (h2 : j.toInt < n.toInt) (hg : g.method = m) (hs : g.stack = .int j :: .ref a :: rest) (hd : decode c.code g.pc = .ok (.baload, 1))
    (hr : Steps p.tables e below (T.setTop { g with pc := g.pc + 1, stack := f j.toInt :: rest }) target) : Steps p.tables e below (T.setTop g) target := by
  obtain ⟨cl, A, r1, r2⟩ := F
  subst eT
  exact X.baloadBooleans hx A.1 (State.isArrayOf_alike hZ.alike A.2.1) A.2.2 (own_in r1 h1 h2) (r2 _ h1 h2) hg hs hd target hr
theorem own_frs {k : Nat} {sl : Nat} (N : Fr k locs) (q : k ≤ a) : Fr k (locs ++ [⟨a, sl⟩]) := N.app fun y hy => by cases List.mem_singleton.mp hy; exact q
theorem OwnA.stI {n0 : Nat} {x : Int32} (X : Stand p l e R s m args below meth c T locs cells slots) (hx : p.tables.exec = Jvm.exec) (hZ : Z.Warmed39 s.vm) (eT : T.heap = h) (N : Fr n0 locs) (q : n0 ≤ a) (F : OwnA Z h a .int n f) (h1 : 0 ≤ j.toInt) (h2 : j.toInt < n.toInt) (hg : g.method = m) (hs : g.stack = .int x :: .int j :: .ref a :: rest) (hd : decode c.code g.pc = .ok (.iastore, 1)) :
    ∃ T' h' L', Stand p l e R s m args below meth c T' L' cells slots ∧ T'.heap = h' ∧ Fr n0 L' ∧ Keep h h' [a] ∧ OwnA Z h' a .int n (ownUpd f j.toInt (.int x)) ∧ ∀ target, Steps p.tables e below (T'.setTop { g with pc := g.pc + 1, stack := rest }) target → Steps p.tables e below (T.setTop g) target := by
  obtain ⟨cl, A, r1, r2⟩ := id F
  obtain ⟨T', h', X', e', W, st⟩ := RoadKit.stI X hx hZ eT A (own_in r1 h1 h2) hg hs hd
  exact ⟨T', h', _, X', e', own_frs N q, Keep.of_wr W, F.set h1 h2 W, st⟩
theorem OwnA.stJ {n0 : Nat} {x : Int64} (X : Stand p l e R s m args below meth c T locs cells slots) (hx : p.tables.exec = Jvm.exec) (hZ : Z.Warmed39 s.vm) (eT : T.heap = h) (N : Fr n0 locs) (q : n0 ≤ a) (F : OwnA Z h a .long n f) (h1 : 0 ≤ j.toInt) (h2 : j.toInt < n.toInt) (hg : g.method = m) (hs : g.stack = .long x :: .int j :: .ref a :: rest) (hd : decode c.code g.pc = .ok (.lastore, 1)) :
    ∃ T' h' L', Stand p l e R s m args below meth c T' L' cells slots ∧ T'.heap = h' ∧ Fr n0 L' ∧ Keep h h' [a] ∧ OwnA Z h' a .long n (ownUpd f j.toInt (.long x)) ∧ ∀ target, Steps p.tables e below (T'.setTop { g with pc := g.pc + 1, stack := rest }) target → Steps p.tables e below (T.setTop g) target := by
  obtain ⟨cl, A, r1, r2⟩ := id F
  obtain ⟨T', h', X', e', W, st⟩ := RoadKit.stJ X hx hZ eT A (own_in r1 h1 h2) hg hs hd
  exact ⟨T', h', _, X', e', own_frs N q, Keep.of_wr W, F.set h1 h2 W, st⟩
theorem OwnA.stC {n0 : Nat} {x : Int32} (X : Stand p l e R s m args below meth c T locs cells slots) (hx : p.tables.exec = Jvm.exec) (hZ : Z.Warmed39 s.vm) (eT : T.heap = h) (N : Fr n0 locs) (q : n0 ≤ a) (F : OwnA Z h a .char n f) (h1 : 0 ≤ j.toInt) (h2 : j.toInt < n.toInt) (hg : g.method = m) (hs : g.stack = .int x :: .int j :: .ref a :: rest) (hd : decode c.code g.pc = .ok (.castore, 1)) :
    ∃ T' h' L', Stand p l e R s m args below meth c T' L' cells slots ∧ T'.heap = h' ∧ Fr n0 L' ∧ Keep h h' [a] ∧ OwnA Z h' a .char n (ownUpd f j.toInt (.int (nar .char x))) ∧ ∀ target, Steps p.tables e below (T'.setTop { g with pc := g.pc + 1, stack := rest }) target → Steps p.tables e below (T.setTop g) target := by
  obtain ⟨cl, A, r1, r2⟩ := id F
  obtain ⟨T', h', X', e', W, st⟩ := RoadKit.stC X hx hZ eT A (own_in r1 h1 h2) hg hs hd
  exact ⟨T', h', _, X', e', own_frs N q, Keep.of_wr W, F.set h1 h2 W, st⟩
theorem OwnA.stB {n0 : Nat} {x : Int32} (X : Stand p l e R s m args below meth c T locs cells slots) (hx : p.tables.exec = Jvm.exec) (hZ : Z.Warmed39 s.vm) (eT : T.heap = h) (N : Fr n0 locs) (q : n0 ≤ a) (F : OwnA Z h a .byte n f) (h1 : 0 ≤ j.toInt) (h2 : j.toInt < n.toInt) (hg : g.method = m) (hs : g.stack = .int x :: .int j :: .ref a :: rest) (hd : decode c.code g.pc = .ok (.bastore, 1)) :
    ∃ T' h' L', Stand p l e R s m args below meth c T' L' cells slots ∧ T'.heap = h' ∧ Fr n0 L' ∧ Keep h h' [a] ∧ OwnA Z h' a .byte n (ownUpd f j.toInt (.int (nar .byte x))) ∧ ∀ target, Steps p.tables e below (T'.setTop { g with pc := g.pc + 1, stack := rest }) target → Steps p.tables e below (T.setTop g) target := by
  obtain ⟨cl, A, r1, r2⟩ := id F
  obtain ⟨T', h', X', e', W, st⟩ := RoadKit.stB X hx hZ eT A (own_in r1 h1 h2) hg hs hd
  exact ⟨T', h', _, X', e', own_frs N q, Keep.of_wr W, F.set h1 h2 W, st⟩
theorem OwnA.stZ {n0 : Nat} {x : Int32} (X : Stand p l e R s m args below meth c T locs cells slots) (hx : p.tables.exec = Jvm.exec) (hZ : Z.Warmed39 s.vm) (eT : T.heap = h) (N : Fr n0 locs) (q : n0 ≤ a) (F : OwnA Z h a .boolean n f) (h1 : 0 ≤ j.toInt) (h2 : j.toInt < n.toInt) (hg : g.method = m) (hs : g.stack = .int x :: .int j :: .ref a :: rest) (hd : decode c.code g.pc = .ok (.bastore, 1)) :
    ∃ T' h' L', Stand p l e R s m args below meth c T' L' cells slots ∧ T'.heap = h' ∧ Fr n0 L' ∧ Keep h h' [a] ∧ OwnA Z h' a .boolean n (ownUpd f j.toInt (.int (nar .boolean x))) ∧ ∀ target, Steps p.tables e below (T'.setTop { g with pc := g.pc + 1, stack := rest }) target → Steps p.tables e below (T.setTop g) target := by
  obtain ⟨cl, A, r1, r2⟩ := id F
  obtain ⟨T', h', X', e', W, st⟩ := RoadKit.stZ X hx hZ eT A (own_in r1 h1 h2) hg hs hd
  exact ⟨T', h', _, X', e', own_frs N q, Keep.of_wr W, F.set h1 h2 W, st⟩
end OwnKit
theorem own_ofi {n : Int} (h1 : -2147483648 ≤ n) (h2 : n < 2147483648) : (Int32.ofInt n).toInt = n := by
  rw [Int32.toInt_ofInt, show Int32.size = 4294967296 from rfl, Int.bmod_eq_of_le (by omega) (by omega)]
theorem own_ofj {n : Int} (h1 : -9223372036854775808 ≤ n) (h2 : n < 9223372036854775808) : (Int64.ofInt n).toInt = n := by
  rw [Int64.toInt_ofInt, show Int64.size = 18446744073709551616 from rfl, Int.bmod_eq_of_le (by omega) (by omega)]
/-- an int between 0 and n is one of finitely many -/
theorem own_fin {x : Int32} {n : Nat} (h1 : 0 ≤ x.toInt) (h2 : x.toInt < n) : ∃ k : Fin n, x = Int32.ofInt (k.1 : Int) := by
  have h3 := x.toInt_lt
  refine ⟨⟨x.toInt.toNat, by omega⟩, Int32.toInt_inj.mp ?_⟩
  show _ = (Int32.ofInt ((x.toInt.toNat : Nat) : Int)).toInt
  rw [own_ofi (by omega) (by omega)]; omega
abbrev sI (x : Int32) : Slot := .val (.int x)
abbrev sA (x : Addr) : Slot := .val (.ref x)
abbrev sJ (x : Int64) : Slot := .val (.long x)
abbrev sN : Slot := .val .null
abbrev sU : Slot := .unset
abbrev sS : Slot := .second
theorem own_s {p : Program} {e : Env} {below : List Frame} {s : State} {C S : Nat} {Q : Option Value → Heap → List Loc → Prop} {U : State} (T : State) (g : JFrame) (hs : ∀ t, Steps p.tables e below (T.setTop g) t → Steps p.tables e below U t) (k : OwnWp p e below s C S Q (T.setTop g)) : OwnWp p e below s C S Q U := k.step hs
theorem own_hw {a0 : Array Value} {Z : State} (hw : ∀ d ∈ tables_1, d.before a0 Z = true) (i : Nat) {d : Jvm.Cond} (h : tables_1[i]? = some d) : d.before a0 Z = true := hw d (List.mem_of_getElem? h)
abbrev DTn : String := "com/example/leafcode/leafcode/DecodingTable"
abbrev Rm1 : Room := ({ frames := 0, cells := 0, slots := 0, locals := 0 } : Room)
abbrev Rm2 : Room := ({ frames := 1, cells := 0, slots := 0, locals := 14 } : Room)
abbrev Rm3 : Room := ({ frames := 1, cells := 1, slots := 16, locals := 40 } : Room)
abbrev Rm4 : Room := ({ frames := 1, cells := 1, slots := 16, locals := 20 } : Room)
abbrev Rm5 : Room := ({ frames := 2, cells := 1, slots := 16, locals := 54 } : Room)
abbrev Rm6 : Room := ({ frames := 2, cells := 0, slots := 0, locals := 30 } : Room)
abbrev Rm7 : Room := ({ frames := 3, cells := 0, slots := 0, locals := 59 } : Room)
abbrev Rm8 : Room := ({ frames := 4, cells := 5, slots := 45088, locals := 77 } : Room)
abbrev Rm9 : Room := ({ frames := 1, cells := 6, slots := 337, locals := 12 } : Room)
abbrev Mn1 : MethodName := (⟨"java/lang/Math", "min", "(II)I"⟩ : MethodName)
abbrev Mn2 : MethodName := (⟨"java/lang/Math", "max", "(II)I"⟩ : MethodName)
abbrev Mn3 : MethodName := (⟨"java/util/Arrays", "rangeCheck", "(III)V"⟩ : MethodName)
abbrev Mn4 : MethodName := (⟨"java/util/Arrays", "fill", "([IIII)V"⟩ : MethodName)
abbrev Mn5 : MethodName := (⟨"java/util/Arrays", "fill", "([II)V"⟩ : MethodName)
abbrev Mn6 : MethodName := (⟨"java/util/Arrays", "copyOf", "([II)[I"⟩ : MethodName)
abbrev Mn7 : MethodName := (⟨"com/example/leafcode/leafcode/DecodingTableSymbolPinLaw", "put", "([IIIII)V"⟩ : MethodName)
abbrev Mn8 : MethodName := (⟨"com/example/leafcode/leafcode/DecodingTable", "code", "(III)I"⟩ : MethodName)
abbrev Mn9 : MethodName := (⟨"com/example/leafcode/leafcode/DecodingTable", "countByLane", "([I)[I"⟩ : MethodName)
abbrev Mn10 : MethodName := (⟨"com/example/leafcode/leafcode/PrefixCode", "checkLengthCounts", "([I)[I"⟩ : MethodName)
abbrev Mn11 : MethodName := (⟨"com/example/leafcode/leafcode/DecodingTable", "sortByCode", "([I[I)V"⟩ : MethodName)
abbrev Mn12 : MethodName := (⟨"com/example/leafcode/leafcode/DecodingTable", "fillCodes", "([IIII[I)I"⟩ : MethodName)
abbrev Mn13 : MethodName := (⟨"com/example/leafcode/leafcode/DecodingTable", "fill", "([III)Lcom/example/leafcode/leafcode/DecodingTable;"⟩ : MethodName)
abbrev Mn14 : MethodName := (⟨"com/example/leafcode/leafcode/DecodingTable", "fillFollowing", "([III[I)V"⟩ : MethodName)
abbrev Mn15 : MethodName := (⟨"com/example/leafcode/leafcode/DecodingTable", "<init>", "()V"⟩ : MethodName)
abbrev Mn16 : MethodName := (⟨"com/example/leafcode/leafcode/DecodingTable", "symbol", "(J)I"⟩ : MethodName)
abbrev Mn17 : MethodName := (⟨"com/example/leafcode/leafcode/DecodingTableSymbolPinLaw", "law", "(IIIIJ)Z"⟩ : MethodName)

theorem own_selpriv {s : State} {args : Array Value} {y z : MethodName} {own C : String} {mc : ClassId} (e : y.cls = z.cls) (_hown : s.vm.findClass own = some mc) (sel : (Cond.selects C z z).before args s = true)
    (hpriv : s.PrivateAt y) (hinst : (Cond.instanceMethod y).before args s = true) (hy : y.cls ≠ "java/lang/invoke/MethodHandle" ∧ y.cls ≠ "java/lang/invoke/VarHandle") : (Cond.selects y.cls y y).before args s = true := by
  obtain ⟨c, r, mz, -, -, hn, -, k, hk, hni⟩ := Cond.selects_spec sel
  have hc := findClass_of_methodNamed hn
  exact Jvm.Stand.selects_self_of_private (by rw [e]; exact hc) hk hni hpriv hinst hy

section OwnMore
variable {p : Program} {l : Launch} {e : Env} {R : Room} {s : State} {m : MethodId} {args : Array Value} {below : List Frame} {meth : Method} {c : Code} {T : State} {locs : List Loc} {cells slots : Nat} {Z : State} {h h' : Heap} {a b : Addr}
theorem own_dupX2 {tb : Tables} [Ours tb] {e : Env} {below : List Frame} {T target : State} {m : MethodId} {c : Code} {g : JFrame} (h : At T m c below) (hx : tb.exec = Jvm.exec) (hg : g.method = m) {x y z : Value} {rest : List Value} (hd : decode c.code g.pc = .ok (.dup_x2, 1)) (hs : g.stack = x :: y :: z :: rest) (hc : x.category = 1) (hc' : y.category = 1) (hc2 : z.category = 1)
    (hr : Steps tb e below (T.setTop { g with pc := g.pc + 1, stack := x :: y :: z :: x :: rest }) target) : Steps tb e below (T.setTop g) target := by
  subst hg
  have hn : ¬ y.category = 2 := by omega
  jvm_step h [h.top, hx, hd, hs, hc, hc', hc2, hn]
  exact hr
/-- the values of an array of ints as a list -/
def own_vals (n : Int32) (f : Int → Int32) : List Value := (List.range n.toNatClampNeg).map fun (i : Nat) => Value.int (f (i : Int))
theorem own_vals_len (n : Int32) (f : Int → Int32) : (own_vals n f).length = n.toNatClampNeg := by unfold own_vals; rw [List.length_map, List.length_range]
theorem own_vals_at (n : Int32) (f : Int → Int32) {i : Nat} (hi : i < n.toNatClampNeg) : (own_vals n f)[i]? = some (.int (f (i : Int))) := by
  unfold own_vals
  rw [List.getElem?_map, List.getElem?_range hi]
  rfl
theorem own_arv {n : Int32} {f : Int → Int32} (F : OwnA Z h a .int n (fun i => .int (f i))) : ∃ k, Arv Z h a k .int n (own_vals n f) (.int 0) := by
  obtain ⟨cl, A, r1, r2⟩ := F
  have S : cl.slots.size = n.toNatClampNeg := by rw [own_clamp]; omega
  refine ⟨cl.cls, cl, A, rfl, S, by rw [Int32.lt_iff_toInt_lt, Int32.toInt_zero]; omega, fun j hj => ?_, fun j hj => ?_⟩
  · rw [List.getD_eq_getElem?_getD, own_vals_at n f (by omega)]
    have := r2 (j : Int) (by omega) (by omega)
    rw [show ((j : Int)).toNat = j from rfl] at this
    exact this
  · rw [List.getD_eq_getElem?_getD, own_vals_at n f (by omega)]
    rfl
theorem own_copyL {n n' sp dp nn : Int32} {f f' : Int → Int32} (h1 : 0 ≤ sp.toInt) (h2 : 0 ≤ dp.toInt) (h3 : 0 ≤ nn.toInt) (h4 : sp.toInt + nn.toInt ≤ n.toInt) (h5 : dp.toInt + nn.toInt ≤ n'.toInt) {i : Nat} (hi : i < n'.toNatClampNeg) :
    ((own_vals n' f').take dp.toNatClampNeg ++ ((List.range nn.toNatClampNeg).map fun i => (own_vals n f).getD (sp.toNatClampNeg + i) (.int 0)) ++ (own_vals n' f').drop (dp.toNatClampNeg + nn.toNatClampNeg)).getD i (.int 0)
      = .int (if dp.toInt ≤ (i : Int) ∧ (i : Int) < dp.toInt + nn.toInt then f (sp.toInt + ((i : Int) - dp.toInt)) else f' (i : Int)) := by
  have e1 := own_clamp sp
  have e2 := own_clamp dp
  have e3 := own_clamp nn
  have e4 := own_clamp n
  have e5 := own_clamp n'
  have lt : ((own_vals n' f').take dp.toNatClampNeg).length = dp.toNatClampNeg := by rw [List.length_take, own_vals_len]; omega
  have ul : ((List.range nn.toNatClampNeg).map fun i => (own_vals n f).getD (sp.toNatClampNeg + i) (.int 0)).length = nn.toNatClampNeg := by rw [List.length_map, List.length_range]
  rw [List.getD_eq_getElem?_getD]
  by_cases c1 : i < dp.toNatClampNeg
  · rw [if_neg (by omega), List.append_assoc, List.getElem?_append_left (by omega), List.getElem?_take_of_lt c1, own_vals_at n' f' hi]
    rfl
  · by_cases c2 : i < dp.toNatClampNeg + nn.toNatClampNeg
    · rw [if_pos (by omega), List.getElem?_append_left (by rw [List.length_append]; omega), List.getElem?_append_right (by omega), lt, List.getElem?_map, List.getElem?_range (by omega)]
      show ((own_vals n f).getD (sp.toNatClampNeg + (i - dp.toNatClampNeg)) (.int 0)) = _
      rw [List.getD_eq_getElem?_getD, own_vals_at n f (by omega)]
      show Value.int (f _) = _
      rw [show ((sp.toNatClampNeg + (i - dp.toNatClampNeg) : Nat) : Int) = sp.toInt + ((i : Int) - dp.toInt) from by omega]
    · rw [if_neg (by omega), List.getElem?_append_right (by rw [List.length_append]; omega), List.length_append, lt, ul, List.getElem?_drop, show dp.toNatClampNeg + nn.toNatClampNeg + (i - (dp.toNatClampNeg + nn.toNatClampNeg)) = i from by omega, own_vals_at n' f' hi]
      rfl
theorem OwnA.copy (X : Stand p l e R s m args below meth c T locs cells slots) (hx : p.tables.exec = Jvm.exec) (hZ : Z.Warmed39 s.vm) {a0 : Array Value} {own : String} {index : Nat} (hown : s.vm.findClass own = some m.cls)
    (w1 : (Cond.methodLink own index Jvm.Stand.acN).before a0 Z = true) (w2 : (Cond.native Jvm.Stand.acN).before a0 Z = true) (w3 : (Cond.static Jvm.Stand.acN).before a0 Z = true) (w4 : (Cond.initialized "java/lang/System").before a0 Z = true) (eT : T.heap = h)
    {n n' sp dp nn : Int32} {f f' : Int → Int32} {n0 : Nat} (N : Fr n0 locs) (ge : n0 ≤ b) (A : OwnA Z h a .int n (fun i => .int (f i))) (B : OwnA Z h b .int n' (fun i => .int (f' i)))
    (h1 : 0 ≤ sp.toInt) (h2 : 0 ≤ dp.toInt) (h3 : 0 ≤ nn.toInt) (h4 : sp.toInt + nn.toInt ≤ n.toInt) (h5 : dp.toInt + nn.toInt ≤ n'.toInt)
    {g : JFrame} (hg : g.method = m) (hsize : g.locals.size = c.maxLocals) {rest : List Value} (hs : g.stack = .int nn :: .int dp :: .ref b :: .int sp :: .ref a :: rest) (hd : decode c.code g.pc = .ok (.invokestatic index, 3))
    (hf : 1 ≤ R.frames) {W : Nat} (hW : 2 * g.monitorRoom + (rest.map fun v => v.category).sum ≤ W) (hlo : W + (nativeFrameWords "java/lang/System" "arraycopy" 5 + 11) ≤ R.locals) :
    ∃ T' h' L, Stand p l e R s m args below meth c T' L cells slots ∧ T'.heap = h' ∧ Fr n0 L ∧ Keep h h' [b] ∧ OwnA Z h' b .int n' (fun i => .int (if dp.toInt ≤ i ∧ i < dp.toInt + nn.toInt then f (sp.toInt + (i - dp.toInt)) else f' i)) ∧
      ∀ target, Steps p.tables e below (T'.setTop { g with pc := g.pc + 3, stack := rest }) target → Steps p.tables e below (T.setTop g) target := by
  obtain ⟨k, A'⟩ := own_arv A
  obtain ⟨k', B'⟩ := own_arv B
  have lA := A.len
  have lB := B.len
  have e1 := own_clamp sp
  have e2 := own_clamp dp
  have e3 := own_clamp nn
  have e4 := own_clamp n
  have e5 := own_clamp n'
  have z : ∀ {x : Int32}, 0 ≤ x.toInt → ¬ x < 0 := fun {x} q => by rw [Int32.lt_iff_toInt_lt, Int32.toInt_zero]; omega
  obtain ⟨T', h', L, X', e', N', K, D, st⟩ := cpA X hx hZ hown w1 w2 w3 w4 eT A' B' (Or.inl ⟨rfl, rfl⟩) (z h1) (z h2) (z h3) (by omega) (by omega) rfl (by rw [own_vals_len]; omega) N ge hg hsize hs hd hf hW hlo
  refine ⟨T', h', L, X', e', N', K, ?_, st⟩
  obtain ⟨cl, Ar, -, S, -, H, -⟩ := D
  refine ⟨cl, Ar, by omega, fun i g1 g2 => ?_⟩
  have hi : i.toNat < n'.toNatClampNeg := by omega
  rw [H i.toNat (by omega), own_copyL (n := n) (n' := n') (f := f) (f' := f') h1 h2 h3 h4 h5 hi, show ((i.toNat : Nat) : Int) = i from by omega]
theorem OwnA.cloned (X : Stand p l e R s m args below meth c T locs cells slots) (hx : p.tables.exec = Jvm.exec) (hZ : Z.Warmed39 s.vm) {a0 : Array Value} {own ad : String} {index : Nat} (hown : s.vm.findClass own = some m.cls)
    (w1 : (Cond.methodLink own index ⟨ad, "clone", "()Ljava/lang/Object;"⟩).before a0 Z = true) (w2 : (Cond.sameMethod ad "java/lang/Object" "clone" "()Ljava/lang/Object;").before a0 Z = true) (w3 : (Cond.native ⟨"java/lang/Object", "clone", "()Ljava/lang/Object;"⟩).before a0 Z = true)
    (w4 : (Cond.instanceMethod ⟨"java/lang/Object", "clone", "()Ljava/lang/Object;"⟩).before a0 Z = true) (w5 : (Cond.selects ad ⟨ad, "clone", "()Ljava/lang/Object;"⟩ ⟨"java/lang/Object", "clone", "()Ljava/lang/Object;"⟩).before a0 Z = true) (w6 : (Cond.castable ad "java/lang/Cloneable").before a0 Z = true)
    (eT : T.heap = h) {n : Int32} {f : Int → Int32} (F : OwnA Z h a .int n (fun i => .int (f i))) (E : Exa Z h a ad) {g : JFrame} (hg : g.method = m) (hsize : g.locals.size = c.maxLocals) {rest : List Value} (hst : g.stack = .ref a :: rest) (hd : decode c.code g.pc = .ok (.invokevirtual index, 3))
    (hf : 1 ≤ R.frames) {W cap : Nat} (hW : 2 * g.monitorRoom + (rest.map fun v => v.category).sum ≤ W) (hl : W + 14 ≤ R.locals) (hcap : n.toNatClampNeg ≤ cap) (hc : cells + 1 ≤ R.cells) (hsl : slots + cap ≤ R.slots) :
    ∃ T' h', Stand p l e R s m args below meth c T' locs (cells + 1) (slots + cap) ∧ T'.heap = h' ∧ Ext h h' ∧ OwnA Z h' h.size .int n (fun i => .int (f i)) ∧ Exa Z h' h.size ad ∧
      ∀ target, Steps p.tables e below (T'.setTop { g with pc := g.pc + 3, stack := .ref h.size :: rest }) target → Steps p.tables e below (T.setTop g) target := by
  obtain ⟨k, A'⟩ := own_arv F
  have lA := F.len
  have e4 := own_clamp n
  obtain ⟨T', h', X', e', ex, G, E', st⟩ := cloneH X hx hZ hown w1 w2 w3 w4 w5 w6 eT A'.arh E hg hsize hst hd hf hW hl hcap hc hsl
  refine ⟨T', h', X', e', ex, ?_, E', st⟩
  obtain ⟨cl, Ar, -, S, -, H, -⟩ := G
  refine ⟨cl, Ar, by omega, fun i g1 g2 => ?_⟩
  rw [H i.toNat (by omega)]
  show some ((own_vals n f).getD i.toNat (.int 0)) = _
  rw [List.getD_eq_getElem?_getD, own_vals_at n f (by omega), show ((i.toNat : Nat) : Int) = i from by omega]
  rfl
end OwnMore

/-! counting: how many of the first m symbols have the length l -/
def own_num (L : Int → Int) : Nat → Int → Int
  | 0, _ => 0
  | m + 1, l => own_num L m l + (if L (m : Int) = l then 1 else 0)
theorem own_num_nonneg (L : Int → Int) : ∀ (m : Nat) (l : Int), 0 ≤ own_num L m l
  | 0, _ => Int.le_refl _
  | m + 1, l => by
    show 0 ≤ own_num L m l + _
    have := own_num_nonneg L m l
    split <;> omega
theorem own_num_mono (L : Int → Int) (l : Int) : ∀ (m j : Nat), own_num L m l ≤ own_num L (m + j) l
  | m, 0 => Int.le_refl _
  | m, j + 1 => by
    show _ ≤ own_num L (m + j) l + _
    have := own_num_mono L l m j
    split <;> omega
theorem own_num_le (L : Int → Int) (l : Int) : ∀ (m : Nat), own_num L m l ≤ m
  | 0 => Int.le_refl _
  | m + 1 => by
    show own_num L m l + _ ≤ _
    have := own_num_le L l m
    split <;> omega
/-- the places of the lengths: how many symbols have a length from 1 to l - 1 -/
def own_A (C : Int → Int) : Nat → Int
  | 0 => 0
  | l + 1 => own_A C l + (if l = 0 then 0 else C (l : Int))
theorem own_A1 (C : Int → Int) : own_A C 1 = 0 := rfl
theorem own_A_succ (C : Int → Int) {l : Nat} (h : 1 ≤ l) : own_A C (l + 1) = own_A C l + C (l : Int) := by
  show own_A C l + _ = _
  rw [if_neg (by omega)]
theorem own_A_mono (C : Int → Int) (hC : ∀ l, 0 ≤ C l) : ∀ (l j : Nat), own_A C l ≤ own_A C (l + j)
  | l, 0 => Int.le_refl _
  | l, j + 1 => by
    have a := own_A_mono C hC l j
    have b := hC ((l + j : Nat) : Int)
    have d : own_A C (l + (j + 1)) = own_A C (l + j) + (if l + j = 0 then 0 else C ((l + j : Nat) : Int)) := rfl
    rw [d]
    split <;> omega
/-- where a symbol stands in the order: behind the shorter ones, behind those of its length that come before it -/
def own_pos (L : Int → Int) (s : Nat) : Int := own_A (own_num L 256) (L (s : Int)).toNat + own_num L s (L (s : Int))
theorem own_num_lt (L : Int → Int) {s s' : Nat} (h : s < s') : own_num L s (L (s : Int)) < own_num L s' (L (s : Int)) := by
  have a := own_num_mono L (L (s : Int)) (s + 1) (s' - (s + 1))
  rw [show s + 1 + (s' - (s + 1)) = s' from by omega] at a
  have b : own_num L (s + 1) (L (s : Int)) = own_num L s (L (s : Int)) + 1 := by
    show own_num L s _ + _ = _
    rw [if_pos rfl]
  omega
theorem own_pos_rng (L : Int → Int) {s : Nat} (hs : s < 256) (h1 : 1 ≤ L (s : Int)) : own_A (own_num L 256) (L (s : Int)).toNat ≤ own_pos L s ∧ own_pos L s < own_A (own_num L 256) ((L (s : Int)).toNat + 1) := by
  have a := own_num_nonneg L s (L (s : Int))
  have b := own_num_lt L (s := s) (s' := 256) hs
  rw [own_A_succ _ (by omega), show (((L (s : Int)).toNat : Nat) : Int) = L (s : Int) from by omega]
  unfold own_pos
  omega
theorem own_pos_inj (L : Int → Int) {s s' : Nat} (hs : s < 256) (hs' : s' < 256) (h1 : 1 ≤ L (s : Int)) (h2 : 1 ≤ L (s' : Int)) (h : own_pos L s = own_pos L s') : s = s' := by
  have hC : ∀ l, 0 ≤ own_num L 256 l := fun l => own_num_nonneg L 256 l
  have a := own_pos_rng L hs h1
  have b := own_pos_rng L hs' h2
  rcases Int.lt_trichotomy (L (s : Int)) (L (s' : Int)) with q | q | q
  · have m := own_A_mono (own_num L 256) hC ((L (s : Int)).toNat + 1) ((L (s' : Int)).toNat - ((L (s : Int)).toNat + 1))
    rw [show (L (s : Int)).toNat + 1 + ((L (s' : Int)).toNat - ((L (s : Int)).toNat + 1)) = (L (s' : Int)).toNat from by omega] at m
    omega
  · rcases Nat.lt_trichotomy s s' with r | r | r
    · have := own_num_lt L r
      unfold own_pos at h
      rw [← q] at h
      omega
    · exact r
    · have := own_num_lt L r
      unfold own_pos at h
      rw [q] at h
      omega
  · have m := own_A_mono (own_num L 256) hC ((L (s' : Int)).toNat + 1) ((L (s : Int)).toNat - ((L (s' : Int)).toNat + 1))
    rw [show (L (s' : Int)).toNat + 1 + ((L (s : Int)).toNat - ((L (s' : Int)).toNat + 1)) = (L (s : Int)).toNat from by omega] at m
    omega
/-- the values of b bits that the codes shorter than l begin -/
def own_Sum (C : Int → Int) (b : Nat) : Nat → Int
  | 0 => 0
  | l + 1 => own_Sum C b l + (if l = 0 then 0 else C (l : Int) * 2 ^ (b - l))
theorem own_Sum1 (C : Int → Int) (b : Nat) : own_Sum C b 1 = 0 := rfl
theorem own_Sum_succ (C : Int → Int) (b : Nat) {l : Nat} (h : 1 ≤ l) : own_Sum C b (l + 1) = own_Sum C b l + C (l : Int) * 2 ^ (b - l) := by
  show own_Sum C b l + _ = _
  rw [if_neg (by omega)]
/-- one bit more: twice as many, for the lengths that fit -/
theorem own_Sum_shift (C : Int → Int) (b j : Nat) : ∀ l : Nat, l ≤ b + 1 → own_Sum C (b + j) l = own_Sum C b l * 2 ^ j
  | 0, _ => by show (0 : Int) = 0 * _; rw [Int.zero_mul]
  | l + 1, h => by
    show own_Sum C (b + j) l + _ = (own_Sum C b l + _) * 2 ^ j
    rw [own_Sum_shift C b j l (by omega), Int.add_mul]
    congr 1
    split
    · rw [Int.zero_mul]
    · rw [show b + j - l = (b - l) + j from by omega, Int.pow_add, Int.mul_assoc]

/-- an array in which the places from a to b hold x -/
def own_rng (f : Int → Int32) (a b : Int) (x : Int32) (j : Int) : Int32 := if a ≤ j ∧ j < b then x else f j
theorem own_rng_nil (f : Int → Int32) (a : Int) (x : Int32) (j : Int) : f j = own_rng f a a x j := (if_neg (by omega)).symm
theorem own_rng_upd (f : Int → Int32) (a i i2 : Int) (x : Int32) (hi : i2 = i + 1) (ha : a ≤ i) (j : Int) : ownUpd (own_rng f a i x) i x j = own_rng f a i2 x j := by
  unfold ownUpd own_rng
  by_cases q : j = i
  · rw [if_pos q, if_pos (by omega)]
  · rw [if_neg q]
    by_cases r : a ≤ j ∧ j < i
    · rw [if_pos r, if_pos (by omega)]
    · rw [if_neg r, if_neg (by omega)]
theorem own_rng_in {f : Int → Int32} {a b j : Int} {x : Int32} (h1 : a ≤ j) (h2 : j < b) : own_rng f a b x j = x := if_pos ⟨h1, h2⟩
theorem own_rng_out {f : Int → Int32} {a b j : Int} {x : Int32} (h : j < a ∨ b ≤ j) : own_rng f a b x j = f j := if_neg (by omega)
theorem own_copy0 {gc f : Int → Int32} {p1 mm : Int32} (h : gc = fun (zi : Int) => if (0 : Int32).toInt ≤ zi ∧ zi < (0 : Int32).toInt + mm.toInt then f ((0 : Int32).toInt + (zi - (0 : Int32).toInt)) else (fun _ => (0 : Int32)) zi) (hm : mm.toInt = p1.toInt) {j : Int} (h1 : 0 ≤ j) (h2 : j < p1.toInt) : gc j = f j := by
  rw [h]
  show (if _ then _ else _) = _
  rw [show (0 : Int32).toInt = 0 from rfl, if_pos (by omega), show 0 + (j - 0) = j from by omega]
def own_put (f : Int → Int32) (p1 p2 p3 p4 : Int32) : Int → Int32 := if p2 < p3 then ownUpd f ((p1 + p2) &&& (255 : Int32)).toInt p4 else f
theorem own_m255 (x : Int32) : 0 ≤ (x &&& (255 : Int32)).toInt ∧ (x &&& (255 : Int32)).toInt < (256 : Int32).toInt := by
  have a := c_mask x 255 8 (by decide) (by decide)
  rw [show (256 : Int32).toInt = 256 from rfl]
  omega
def own_code (o p2 p3 : Int32) : Int32 := ((p2 ||| (64 : Int32)) ||| (o <<< (((8 : Int32) * (p3 + (1 : Int32))) &&& 31)))
/-! counting by lanes -/
def own_L (Lf : Int → Int32) (i : Int) : Int := (Lf i).toInt
def own_cnt (L : Int → Int) (fb : Int → Int32) : Prop := ∀ t : Int, 0 ≤ t → t < 16 → (fb t).toInt = own_num L 256 t
def own_lanes (L : Int → Int) (P : Nat → Nat) (g : Int → Int32) : Prop := ∀ a : Nat, a < 4 → ∀ l : Int, 0 ≤ l → l < 16 → (g (16 * (a : Int) + l)).toInt = own_num L (64 * a + P a) l - own_num L (64 * a) l
theorem own_inc {i : Int32} {m : Nat} (h : i.toInt = (m : Int)) (hm : m < 100000) : (i + (1 : Int32)).toInt = ((m + 1 : Nat) : Int) := by
  have a1 := c_iadd i 1
  rw [show (1 : Int32).toInt = 1 from rfl] at a1
  have a2 := rng32 (i + 1)
  omega
theorem own_inc1 {i : Int32} (h0 : -100000 ≤ i.toInt) (hm : i.toInt < 100000) : (i + (1 : Int32)).toInt = i.toInt + 1 := by
  have a1 := c_iadd i 1
  rw [show (1 : Int32).toInt = 1 from rfl] at a1
  have a2 := rng32 (i + 1)
  omega
theorem own_off {j : Int32} (o : Int32) (h0 : 0 ≤ j.toInt) (h1 : j.toInt < 16) (ho : 0 ≤ o.toInt ∧ o.toInt ≤ 48) : 0 ≤ (o + j).toInt ∧ (o + j).toInt < (64 : Int32).toInt := by
  have a1 := c_iadd o j
  have a2 := rng32 (o + j)
  rw [show (64 : Int32).toInt = 64 from rfl]
  omega
theorem own_add {x y : Int32} (h1 : -1000000000 ≤ x.toInt + y.toInt) (h2 : x.toInt + y.toInt ≤ 1000000000) : (x + y).toInt = x.toInt + y.toInt := by
  have a1 := c_iadd x y
  have a2 := rng32 (x + y)
  have a3 := rng32 x
  have a4 := rng32 y
  omega
theorem own_sub {x y : Int32} (h1 : -1000000000 ≤ x.toInt - y.toInt) (h2 : x.toInt - y.toInt ≤ 1000000000) : (x - y).toInt = x.toInt - y.toInt := by
  have a1 := c_isub x y
  have a2 := rng32 (x - y)
  have a3 := rng32 x
  have a4 := rng32 y
  omega
theorem own_ix0 {i : Int32} {m k : Nat} (hi : i.toInt = (m : Int)) (hk : m + (k + 1) = 64) : 0 ≤ i.toInt ∧ i.toInt < (256 : Int32).toInt := by
  rw [show (256 : Int32).toInt = 256 from rfl]; omega
theorem own_ix1 {i : Int32} {m k : Nat} (hi : i.toInt = (m : Int)) (hk : m + (k + 1) = 64) : 0 ≤ ((64 : Int32) + i).toInt ∧ ((64 : Int32) + i).toInt < (256 : Int32).toInt := by
  have a := own_add (x := 64) (y := i) (by rw [show (64 : Int32).toInt = 64 from rfl]; omega) (by rw [show (64 : Int32).toInt = 64 from rfl]; omega)
  rw [show (64 : Int32).toInt = 64 from rfl] at a
  rw [show (256 : Int32).toInt = 256 from rfl]; omega
theorem own_ix2 {i : Int32} {m k : Nat} (hi : i.toInt = (m : Int)) (hk : m + (k + 1) = 64) : 0 ≤ ((128 : Int32) + i).toInt ∧ ((128 : Int32) + i).toInt < (256 : Int32).toInt := by
  have a := own_add (x := 128) (y := i) (by rw [show (128 : Int32).toInt = 128 from rfl]; omega) (by rw [show (128 : Int32).toInt = 128 from rfl]; omega)
  rw [show (128 : Int32).toInt = 128 from rfl] at a
  rw [show (256 : Int32).toInt = 256 from rfl]; omega
theorem own_ix3 {i : Int32} {m k : Nat} (hi : i.toInt = (m : Int)) (hk : m + (k + 1) = 64) : 0 ≤ ((192 : Int32) + i).toInt ∧ ((192 : Int32) + i).toInt < (256 : Int32).toInt := by
  have a := own_add (x := 192) (y := i) (by rw [show (192 : Int32).toInt = 192 from rfl]; omega) (by rw [show (192 : Int32).toInt = 192 from rfl]; omega)
  rw [show (192 : Int32).toInt = 192 from rfl] at a
  rw [show (256 : Int32).toInt = 256 from rfl]; omega
theorem own_jx {Lf : Int → Int32} (hL : ∀ i : Int, 0 ≤ i → i < 256 → 0 ≤ (Lf i).toInt ∧ (Lf i).toInt < 16) {i : Int32} {m k : Nat} (hi : i.toInt = (m : Int)) (hk : m + (k + 1) = 64) (a : Nat) (ha : a < 4) (o q : Int32) (ho : o.toInt = 16 * a) (hq : q.toInt = 64 * a) :
    0 ≤ (o + Lf (q + i).toInt).toInt ∧ (o + Lf (q + i).toInt).toInt < (64 : Int32).toInt ∧ (o + Lf (q + i).toInt).toInt = 16 * (a : Int) + own_L Lf ((64 * a + m : Nat) : Int) := by
  have e := own_add (x := q) (y := i) (by omega) (by omega)
  have e2 : (q + i).toInt = ((64 * a + m : Nat) : Int) := by omega
  rw [e2]
  have b := hL ((64 * a + m : Nat) : Int) (by omega) (by omega)
  have e3 := own_add (x := o) (y := Lf ((64 * a + m : Nat) : Int)) (by omega) (by omega)
  rw [show (64 : Int32).toInt = 64 from rfl]
  unfold own_L
  omega
theorem own_jx0 {Lf : Int → Int32} (hL : ∀ i : Int, 0 ≤ i → i < 256 → 0 ≤ (Lf i).toInt ∧ (Lf i).toInt < 16) {i : Int32} {m k : Nat} (hi : i.toInt = (m : Int)) (hk : m + (k + 1) = 64) :
    0 ≤ (Lf i.toInt).toInt ∧ (Lf i.toInt).toInt < (64 : Int32).toInt ∧ (Lf i.toInt).toInt = 16 * ((0 : Nat) : Int) + own_L Lf ((64 * 0 + m : Nat) : Int) := by
  have b := hL i.toInt (by omega) (by omega)
  rw [show (64 : Int32).toInt = 64 from rfl]
  unfold own_L
  rw [show ((64 * 0 + m : Nat) : Int) = i.toInt from by omega]
  omega
theorem own_jx1 {Lf : Int → Int32} (hL : ∀ i : Int, 0 ≤ i → i < 256 → 0 ≤ (Lf i).toInt ∧ (Lf i).toInt < 16) {i : Int32} {m k : Nat} (hi : i.toInt = (m : Int)) (hk : m + (k + 1) = 64) :
    0 ≤ ((16 : Int32) + Lf ((64 : Int32) + i).toInt).toInt ∧ ((16 : Int32) + Lf ((64 : Int32) + i).toInt).toInt < (64 : Int32).toInt ∧ ((16 : Int32) + Lf ((64 : Int32) + i).toInt).toInt = 16 * ((1 : Nat) : Int) + own_L Lf ((64 * 1 + m : Nat) : Int) :=
  own_jx hL hi hk 1 (by decide) 16 64 rfl rfl
theorem own_jx2 {Lf : Int → Int32} (hL : ∀ i : Int, 0 ≤ i → i < 256 → 0 ≤ (Lf i).toInt ∧ (Lf i).toInt < 16) {i : Int32} {m k : Nat} (hi : i.toInt = (m : Int)) (hk : m + (k + 1) = 64) :
    0 ≤ ((32 : Int32) + Lf ((128 : Int32) + i).toInt).toInt ∧ ((32 : Int32) + Lf ((128 : Int32) + i).toInt).toInt < (64 : Int32).toInt ∧ ((32 : Int32) + Lf ((128 : Int32) + i).toInt).toInt = 16 * ((2 : Nat) : Int) + own_L Lf ((64 * 2 + m : Nat) : Int) :=
  own_jx hL hi hk 2 (by decide) 32 128 rfl rfl
theorem own_jx3 {Lf : Int → Int32} (hL : ∀ i : Int, 0 ≤ i → i < 256 → 0 ≤ (Lf i).toInt ∧ (Lf i).toInt < 16) {i : Int32} {m k : Nat} (hi : i.toInt = (m : Int)) (hk : m + (k + 1) = 64) :
    0 ≤ ((48 : Int32) + Lf ((192 : Int32) + i).toInt).toInt ∧ ((48 : Int32) + Lf ((192 : Int32) + i).toInt).toInt < (64 : Int32).toInt ∧ ((48 : Int32) + Lf ((192 : Int32) + i).toInt).toInt = 16 * ((3 : Nat) : Int) + own_L Lf ((64 * 3 + m : Nat) : Int) :=
  own_jx hL hi hk 3 (by decide) 48 192 rfl rfl
theorem own_num_step (L : Int → Int) (m : Nat) (l : Int) : own_num L (m + 1) l = own_num L m l + (if L (m : Int) = l then 1 else 0) := rfl
theorem own_num_dif (L : Int → Int) (m j : Nat) (l : Int) : 0 ≤ own_num L (m + j) l - own_num L m l ∧ own_num L (m + j) l - own_num L m l ≤ j := by
  induction j with
  | zero => rw [Nat.add_zero]; omega
  | succ j ih => rw [← Nat.add_assoc, own_num_step]; split <;> omega
theorem own_lane1 {L : Int → Int} {P : Nat → Nat} {g : Int → Int32} (H : own_lanes L P g) (hL : ∀ i : Int, 0 ≤ i → i < 256 → 0 ≤ L i ∧ L i < 16) (a : Nat) (ha : a < 4) (hP : P a < 64) {j : Int} (hj : j = 16 * (a : Int) + L ((64 * a + P a : Nat) : Int)) {P' : Nat → Nat} (hP' : ∀ b : Nat, b < 4 → P' b = if b = a then P a + 1 else P b) :
    own_lanes L P' (ownUpd g j (g j + (1 : Int32))) := by
  intro b hb l h1 h2
  have hs := hL ((64 * a + P a : Nat) : Int) (by omega) (by omega)
  rw [hP' b hb]
  by_cases q : b = a
  · subst q
    rw [if_pos rfl, ← Nat.add_assoc, own_num_step]
    by_cases r : L ((64 * b + P b : Nat) : Int) = l
    · rw [if_pos r, show 16 * (b : Int) + l = j from by omega, ownUpd_same]
      have e := H b hb l h1 h2
      rw [show 16 * (b : Int) + l = j from by omega] at e
      have d := own_num_dif L (64 * b) (P b) l
      rw [own_inc1 (by omega) (by omega)]
      omega
    · rw [if_neg r, ownUpd_ne _ _ _ (by omega), H b hb l h1 h2]
      omega
  · rw [if_neg q, ownUpd_ne _ _ _ (by omega), H b hb l h1 h2]
theorem own_lanes0 (L : Int → Int) {g : Int → Int32} (h : ∀ i : Int, 0 ≤ i → i < (64 : Int32).toInt → g i = 0) : own_lanes L (fun _ => 0) g := by
  intro a ha l h1 h2
  rw [h _ (by omega) (by rw [show (64 : Int32).toInt = 64 from rfl]; omega)]
  show (0 : Int32).toInt = own_num L (64 * a) l - own_num L (64 * a) l
  rw [show (0 : Int32).toInt = 0 from rfl]; omega
def own_P (m : Nat) (t : Nat) (b : Nat) : Nat := if b < t then m + 1 else m
theorem own_Pt (m b t : Nat) (hb : b < 4) (ht : t < 4) : own_P m (t + 1) b = if b = t then own_P m t t + 1 else own_P m t b := by
  unfold own_P
  by_cases q : b = t
  · rw [if_pos q, if_pos (by omega), if_neg (by omega)]
  · rw [if_neg q]
    by_cases r : b < t
    · rw [if_pos r, if_pos (by omega)]
    · rw [if_neg r, if_neg (by omega)]
theorem own_lanesP {L : Int → Int} {P P' : Nat → Nat} {g : Int → Int32} (H : own_lanes L P g) (h : ∀ b : Nat, b < 4 → P' b = P b) : own_lanes L P' g := fun a ha l h1 h2 => by rw [h a ha]; exact H a ha l h1 h2
theorem own_turn4 {Lf : Int → Int32} (hL : ∀ i : Int, 0 ≤ i → i < 256 → 0 ≤ (Lf i).toInt ∧ (Lf i).toInt < 16) {i : Int32} {m k : Nat} (hi : i.toInt = (m : Int)) (hk : m + (k + 1) = 64) {g g0 g1 g2 g3 : Int → Int32} (hg : own_lanes (own_L Lf) (fun _ => m) g)
    (h0 : g0 = ownUpd g (Lf i.toInt).toInt ((g (Lf i.toInt).toInt) + (1 : Int32)))
    (h1 : g1 = ownUpd g0 ((16 : Int32) + (Lf ((64 : Int32) + i).toInt)).toInt ((g0 ((16 : Int32) + (Lf ((64 : Int32) + i).toInt)).toInt) + (1 : Int32)))
    (h2 : g2 = ownUpd g1 ((32 : Int32) + (Lf ((128 : Int32) + i).toInt)).toInt ((g1 ((32 : Int32) + (Lf ((128 : Int32) + i).toInt)).toInt) + (1 : Int32)))
    (h3 : g3 = ownUpd g2 ((48 : Int32) + (Lf ((192 : Int32) + i).toInt)).toInt ((g2 ((48 : Int32) + (Lf ((192 : Int32) + i).toInt)).toInt) + (1 : Int32))) : own_lanes (own_L Lf) (fun _ => m + 1) g3 := by
  have hg' : own_lanes (own_L Lf) (own_P m 0) g := own_lanesP hg (fun b hb => if_neg (by omega))
  have e0 : own_lanes (own_L Lf) (own_P m 1) g0 := by rw [h0]; exact own_lane1 hg' hL 0 (by decide) (by unfold own_P; split <;> omega) (own_jx0 hL hi hk).2.2 (fun b hb => own_Pt m b _ hb (by decide))
  have e1 : own_lanes (own_L Lf) (own_P m 2) g1 := by rw [h1]; exact own_lane1 e0 hL 1 (by decide) (by unfold own_P; split <;> omega) (own_jx1 hL hi hk).2.2 (fun b hb => own_Pt m b _ hb (by decide))
  have e2 : own_lanes (own_L Lf) (own_P m 3) g2 := by rw [h2]; exact own_lane1 e1 hL 2 (by decide) (by unfold own_P; split <;> omega) (own_jx2 hL hi hk).2.2 (fun b hb => own_Pt m b _ hb (by decide))
  have e3 : own_lanes (own_L Lf) (own_P m 4) g3 := by rw [h3]; exact own_lane1 e2 hL 3 (by decide) (by unfold own_P; split <;> omega) (own_jx3 hL hi hk).2.2 (fun b hb => own_Pt m b _ hb (by decide))
  exact own_lanesP e3 (fun b hb => (if_pos hb).symm)
theorem own_tot {L : Int → Int} {g : Int → Int32} (hg : own_lanes L (fun _ => 64) g) {l : Int} (h1 : 0 ≤ l) (h2 : l < 16) : (g l).toInt + (g (16 + l)).toInt + (g (32 + l)).toInt + (g (48 + l)).toInt = own_num L 256 l ∧ 0 ≤ (g l).toInt ∧ 0 ≤ (g (16 + l)).toInt ∧ 0 ≤ (g (32 + l)).toInt ∧ 0 ≤ (g (48 + l)).toInt := by
  have a0 := hg 0 (by decide) l h1 h2
  have a1 := hg 1 (by decide) l h1 h2
  have a2 := hg 2 (by decide) l h1 h2
  have a3 := hg 3 (by decide) l h1 h2
  have d0 := own_num_dif L (64 * 0) 64 l
  have d1 := own_num_dif L (64 * 1) 64 l
  have d2 := own_num_dif L (64 * 2) 64 l
  have d3 := own_num_dif L (64 * 3) 64 l
  have z : own_num L (64 * 0) l = 0 := rfl
  rw [show 16 * ((0 : Nat) : Int) + l = l from by omega] at a0
  rw [show 16 * ((1 : Nat) : Int) + l = 16 + l from by omega] at a1
  rw [show 16 * ((2 : Nat) : Int) + l = 32 + l from by omega] at a2
  rw [show 16 * ((3 : Nat) : Int) + l = 48 + l from by omega] at a3
  rw [show 64 * 3 + 64 = 256 from rfl] at a3 d3
  rw [show 64 * 2 + 64 = 64 * 3 from rfl] at a2 d2
  rw [show 64 * 1 + 64 = 64 * 2 from rfl] at a1 d1
  rw [show 64 * 0 + 64 = 64 * 1 from rfl] at a0 d0
  omega
theorem own_sum4 {L : Int → Int} {g fb : Int → Int32} (hg : own_lanes L (fun _ => 64) g) {j j2 : Int32} (h1 : 0 ≤ j.toInt) (h2 : j.toInt < 16) (hb : ∀ t : Int, 0 ≤ t → t < j.toInt → (fb t).toInt = own_num L 256 t) (hj : j2.toInt = j.toInt + 1) {x : Int32} (hx : x = ((((g j.toInt) + (g ((16 : Int32) + j).toInt)) + (g ((32 : Int32) + j).toInt)) + (g ((48 : Int32) + j).toInt))) :
    ∀ t : Int, 0 ≤ t → t < j2.toInt → (ownUpd fb j.toInt x t).toInt = own_num L 256 t := by
  intro t t1 t2
  subst hx
  by_cases q : t = j.toInt
  · subst q
    rw [ownUpd_same]
    have e1 := own_add (x := 16) (y := j) (by rw [show (16 : Int32).toInt = 16 from rfl]; omega) (by rw [show (16 : Int32).toInt = 16 from rfl]; omega)
    have e2 := own_add (x := 32) (y := j) (by rw [show (32 : Int32).toInt = 32 from rfl]; omega) (by rw [show (32 : Int32).toInt = 32 from rfl]; omega)
    have e3 := own_add (x := 48) (y := j) (by rw [show (48 : Int32).toInt = 48 from rfl]; omega) (by rw [show (48 : Int32).toInt = 48 from rfl]; omega)
    rw [show (16 : Int32).toInt = 16 from rfl] at e1
    rw [show (32 : Int32).toInt = 32 from rfl] at e2
    rw [show (48 : Int32).toInt = 48 from rfl] at e3
    rw [e1, e2, e3]
    obtain ⟨s, s0, s1, s2, s3⟩ := own_tot hg h1 h2
    have n1 := own_num_le L j.toInt 256
    have f1 := own_add (x := g j.toInt) (y := g (16 + j.toInt)) (by omega) (by omega)
    have f2 := own_add (x := g j.toInt + g (16 + j.toInt)) (y := g (32 + j.toInt)) (by omega) (by omega)
    have f3 := own_add (x := g j.toInt + g (16 + j.toInt) + g (32 + j.toInt)) (y := g (48 + j.toInt)) (by omega) (by omega)
    omega
  · rw [ownUpd_ne _ _ _ q]
    exact hb t t1 (by omega)

def dl8 : List (Nat × Instr × Nat) := [(0, .iload_n 0, 1), (1, .iload_n 1, 1), (2, .if_icmp .gt 7, 3), (5, .iload_n 0, 1), (6, .goto 4, 3), (9, .iload_n 1, 1), (10, .ireturn, 1)]
theorem da8 : ∀ x ∈ dl8, decode jdk_29_method_69_code x.1 = .ok x.2 := by decide +kernel
theorem D8 {c : Code} (h : c.code = jdk_29_method_69_code) (i : Nat) {pc : Nat} {ins : Instr} {n : Nat} (e : dl8[i]? = some (pc, ins, n)) : decode c.code pc = .ok (ins, n) := by rw [h]; exact da8 (pc, ins, n) (List.mem_of_getElem? e)
theorem pn_8 : plainFor Mn1 = true := Jvm.Free.JP.mathPlain rfl (by decide +kernel)
theorem pd_8 : parseMethodDescriptor "(II)I" = some ⟨[.int, .int], some .int⟩ := by decide +kernel
theorem ef_8 (m : MethodId) (x0 : Int32) (x1 : Int32) : entryFrame m #[(.int x0), (.int x1)] 2 = mkF m 0 #[.val (.int x0), .val (.int x1)] [] := by first | (simp [entryFrame, mkF, argsToLocals, Value.category, maxLocals]; done) | rfl
def own_min_w1 (p1 : Int32) (p2 : Int32) : Int32 := (if p2 < p1 then p2 else p1)
def own_min (p1 : Int32) (p2 : Int32) : Int32 := (own_min_w1 p1 p2)
def Q8 (Z : State) (p1 : Int32) (p2 : Int32)  (h0 : Heap) (n0 : Nat) (v : Option Value) (h : Heap) (L : List Loc) : Prop := v = some (.int (own_min p1 p2)) ∧ Fr n0 L ∧ h = h0
set_option maxRecDepth 65536 in
set_option maxHeartbeats 40000000 in
theorem rm8 (l : Launch) (Z : State) (a0 : Array Value) (hw : ∀ d ∈ tables_1, d.before a0 Z = true) (ws : List Jvm.Cond) (p1 : Int32) (p2 : Int32)  (h0 : Heap) (n0 : Nat) (Z0 : n0 ≤ h0.size)  :
  MetFree l Mn1 (head1 (Jvm.Cond.code Mn1 jdk_29_method_69_code 2 (some .int) :: ws) Rm1) (fun a U => a = #[(.int p1), (.int p2)] ∧ Z.Warmed39 U.vm ∧ U.heap = h0) (fun _ _ _ _ _ => True) (fun _ U oc U' => ∃ v L, oc = .returned v ∧ Q8 Z p1 p2  h0 n0 v U'.heap L ∧ FrameEnd U oc U' L Rm1.cells Rm1.slots) := by
 refine MetFree.of_bodySF pn_8 hisR ?_
 intro p e s m args below meth c s₁ Bd hml0 hP hK
 obtain ⟨rfl, hZ, hh⟩ := hP
 have hx := Bd.exec
 have hby := Bd.bytes
 have hlk := BodyLoose.notSynchronized Bd
 have hml : c.maxLocals = 2 := hml0
 have hown : s.vm.findClass "java/lang/Math" = some m.cls := findClass_of_methodNamed Bd.named
 have hnm := (name_of_methodNamed Bd.named Bd.method).1
 have X0 : Stand p l e Rm1 s m #[(.int p1), (.int p2)] below meth c s₁ [] 0 0 := Stand.of_body Bd
 have e0 : s₁.heap = h0 := by rw [← hh, Bd.state]; rfl
 have N0 := Fr.nil n0
 show OwnWp p e below s Rm1.cells Rm1.slots (Q8 Z p1 p2  h0 n0) (s₁.setTop (entryFrame m #[(.int p1), (.int p2)] 2))
 refine OwnWp.cast (ef_8 m p1 p2) ?_
 refine own_s s₁ (mkF m 2 #[sI p1, sI p2] [(.int p2), (.int p1)]) (fun t k => ?_) ?_
 ·refine XS.iloadN X0.here hx rfl (D8 hby 0 rfl) rfl ?_
  exact XS.iloadN X0.here hx rfl (D8 hby 1 rfl) rfl k
 obtain ⟨w1, qw1⟩ : ∃ z : Int32, z = (if p2 < p1 then p2 else p1) := ⟨_, rfl⟩
 refine own_s s₁ (mkF m 10 #[sI p1, sI p2] [(.int w1)]) (fun t k => ?_) ?_
 ·by_cases c2_1 : p2 < p1
  ·refine XS.icmpYes X0.here hx rfl (pc0 := 2) (pc' := 9) rfl (D8 hby 2 rfl) rfl (XT.ii_gt_t c2_1) (by decide) (by decide) ?_
   refine XS.iloadN X0.here hx rfl (D8 hby 5 rfl) rfl ?_
   rw [show w1 = p2 from by rw [qw1, if_pos c2_1]] at k
   exact k
  ·refine XS.icmpNo X0.here hx rfl (D8 hby 2 rfl) rfl (XT.ii_gt_f c2_1) ?_
   refine XS.iloadN X0.here hx rfl (D8 hby 3 rfl) rfl ?_
   refine XS.goto X0.here hx rfl (pc0 := 6) (pc' := 10) rfl (D8 hby 4 rfl) (by decide) (by decide) ?_
   rw [show w1 = p1 from by rw [qw1, if_neg c2_1]] at k
   exact k
 refine OwnWp.retI X0 hx hlk Bd.returns (D8 hby 6 rfl) (by decide) (by decide) ?_
 refine ⟨?_, N0, e0⟩
 show some (Value.int w1) = some (.int (own_min p1 p2))
 subst qw1
 unfold own_min own_min_w1
 rfl
def dl9 : List (Nat × Instr × Nat) := [(0, .iload_n 0, 1), (1, .iload_n 1, 1), (2, .if_icmp .lt 7, 3), (5, .iload_n 0, 1), (6, .goto 4, 3), (9, .iload_n 1, 1), (10, .ireturn, 1)]
theorem da9 : ∀ x ∈ dl9, decode jdk_29_method_65_code x.1 = .ok x.2 := by decide +kernel
theorem D9 {c : Code} (h : c.code = jdk_29_method_65_code) (i : Nat) {pc : Nat} {ins : Instr} {n : Nat} (e : dl9[i]? = some (pc, ins, n)) : decode c.code pc = .ok (ins, n) := by rw [h]; exact da9 (pc, ins, n) (List.mem_of_getElem? e)
theorem pn_9 : plainFor Mn2 = true := Jvm.Free.JP.mathPlain rfl (by decide +kernel)
theorem pd_9 : parseMethodDescriptor "(II)I" = some ⟨[.int, .int], some .int⟩ := by decide +kernel
theorem ef_9 (m : MethodId) (x0 : Int32) (x1 : Int32) : entryFrame m #[(.int x0), (.int x1)] 2 = mkF m 0 #[.val (.int x0), .val (.int x1)] [] := by first | (simp [entryFrame, mkF, argsToLocals, Value.category, maxLocals]; done) | rfl
def own_max_w1 (p1 : Int32) (p2 : Int32) : Int32 := (if p1 < p2 then p2 else p1)
def own_max (p1 : Int32) (p2 : Int32) : Int32 := (own_max_w1 p1 p2)
def Q9 (Z : State) (p1 : Int32) (p2 : Int32)  (h0 : Heap) (n0 : Nat) (v : Option Value) (h : Heap) (L : List Loc) : Prop := v = some (.int (own_max p1 p2)) ∧ Fr n0 L ∧ h = h0
set_option maxRecDepth 65536 in
set_option maxHeartbeats 40000000 in
theorem rm9 (l : Launch) (Z : State) (a0 : Array Value) (hw : ∀ d ∈ tables_1, d.before a0 Z = true) (ws : List Jvm.Cond) (p1 : Int32) (p2 : Int32)  (h0 : Heap) (n0 : Nat) (Z0 : n0 ≤ h0.size)  :
  MetFree l Mn2 (head1 (Jvm.Cond.code Mn2 jdk_29_method_65_code 2 (some .int) :: ws) Rm1) (fun a U => a = #[(.int p1), (.int p2)] ∧ Z.Warmed39 U.vm ∧ U.heap = h0) (fun _ _ _ _ _ => True) (fun _ U oc U' => ∃ v L, oc = .returned v ∧ Q9 Z p1 p2  h0 n0 v U'.heap L ∧ FrameEnd U oc U' L Rm1.cells Rm1.slots) := by
 refine MetFree.of_bodySF pn_9 hisR ?_
 intro p e s m args below meth c s₁ Bd hml0 hP hK
 obtain ⟨rfl, hZ, hh⟩ := hP
 have hx := Bd.exec
 have hby := Bd.bytes
 have hlk := BodyLoose.notSynchronized Bd
 have hml : c.maxLocals = 2 := hml0
 have hown : s.vm.findClass "java/lang/Math" = some m.cls := findClass_of_methodNamed Bd.named
 have hnm := (name_of_methodNamed Bd.named Bd.method).1
 have X0 : Stand p l e Rm1 s m #[(.int p1), (.int p2)] below meth c s₁ [] 0 0 := Stand.of_body Bd
 have e0 : s₁.heap = h0 := by rw [← hh, Bd.state]; rfl
 have N0 := Fr.nil n0
 show OwnWp p e below s Rm1.cells Rm1.slots (Q9 Z p1 p2  h0 n0) (s₁.setTop (entryFrame m #[(.int p1), (.int p2)] 2))
 refine OwnWp.cast (ef_9 m p1 p2) ?_
 refine own_s s₁ (mkF m 2 #[sI p1, sI p2] [(.int p2), (.int p1)]) (fun t k => ?_) ?_
 ·refine XS.iloadN X0.here hx rfl (D9 hby 0 rfl) rfl ?_
  exact XS.iloadN X0.here hx rfl (D9 hby 1 rfl) rfl k
 obtain ⟨w1, qw1⟩ : ∃ z : Int32, z = (if p1 < p2 then p2 else p1) := ⟨_, rfl⟩
 refine own_s s₁ (mkF m 10 #[sI p1, sI p2] [(.int w1)]) (fun t k => ?_) ?_
 ·by_cases c2_2 : p1 < p2
  ·refine XS.icmpYes X0.here hx rfl (pc0 := 2) (pc' := 9) rfl (D9 hby 2 rfl) rfl (XT.ii_lt_t c2_2) (by decide) (by decide) ?_
   refine XS.iloadN X0.here hx rfl (D9 hby 5 rfl) rfl ?_
   rw [show w1 = p2 from by rw [qw1, if_pos c2_2]] at k
   exact k
  ·refine XS.icmpNo X0.here hx rfl (D9 hby 2 rfl) rfl (XT.ii_lt_f c2_2) ?_
   refine XS.iloadN X0.here hx rfl (D9 hby 3 rfl) rfl ?_
   refine XS.goto X0.here hx rfl (pc0 := 6) (pc' := 10) rfl (D9 hby 4 rfl) (by decide) (by decide) ?_
   rw [show w1 = p1 from by rw [qw1, if_neg c2_2]] at k
   exact k
 refine OwnWp.retI X0 hx hlk Bd.returns (D9 hby 6 rfl) (by decide) (by decide) ?_
 refine ⟨?_, N0, e0⟩
 show some (Value.int w1) = some (.int (own_max p1 p2))
 subst qw1
 unfold own_max own_max_w1
 rfl
theorem own_min_eq (x y : Int32) : (own_min x y).toInt = if y.toInt < x.toInt then y.toInt else x.toInt := by
  unfold own_min own_min_w1
  by_cases c : y < x
  · rw [if_pos c, if_pos (Int32.lt_iff_toInt_lt.mp c)]
  · rw [if_neg c, if_neg (fun q => c (Int32.lt_iff_toInt_lt.mpr q))]
theorem own_max_eq (x y : Int32) : (own_max x y).toInt = if x.toInt < y.toInt then y.toInt else x.toInt := by
  unfold own_max own_max_w1
  by_cases c : x < y
  · rw [if_pos c, if_pos (Int32.lt_iff_toInt_lt.mp c)]
  · rw [if_neg c, if_neg (fun q => c (Int32.lt_iff_toInt_lt.mpr q))]
theorem own_min16 (p1 mm : Int32) (h1 : 1 ≤ p1.toInt) (h2 : p1.toInt ≤ 16) (q : mm = own_min (16 : Int32) p1) : mm.toInt = p1.toInt := by
  have a := own_min_eq 16 p1
  rw [← q, show (16 : Int32).toInt = 16 from rfl] at a
  split at a <;> omega
def dl12 : List (Nat × Instr × Nat) := [(0, .iload_n 1, 1), (1, .iload_n 2, 1), (2, .if_icmp .le 44, 3), (46, .iload_n 1, 1), (47, .ifCond .ge 12, 3), (59, .iload_n 2, 1), (60, .iload_n 0, 1), (61, .if_icmp .le 12, 3), (73, .return_, 1)]
theorem da12 : ∀ x ∈ dl12, decode jdk_65_method_30_code x.1 = .ok x.2 := by decide +kernel
theorem D12 {c : Code} (h : c.code = jdk_65_method_30_code) (i : Nat) {pc : Nat} {ins : Instr} {n : Nat} (e : dl12[i]? = some (pc, ins, n)) : decode c.code pc = .ok (ins, n) := by rw [h]; exact da12 (pc, ins, n) (List.mem_of_getElem? e)
theorem pn_12 : plainFor Mn3 = true := plainFor_of_name (by first | (simp [plainName, overriddenIn]; done) | decide +kernel)
theorem pd_12 : parseMethodDescriptor "(III)V" = some ⟨[.int, .int, .int], none⟩ := by decide +kernel
theorem ef_12 (m : MethodId) (x0 : Int32) (x1 : Int32) (x2 : Int32) : entryFrame m #[(.int x0), (.int x1), (.int x2)] 3 = mkF m 0 #[.val (.int x0), .val (.int x1), .val (.int x2)] [] := by first | (simp [entryFrame, mkF, argsToLocals, Value.category, maxLocals]; done) | rfl
def Q12 (Z : State) (p1 : Int32) (p2 : Int32) (p3 : Int32)  (h0 : Heap) (n0 : Nat) (v : Option Value) (h : Heap) (L : List Loc) : Prop := v = none ∧ Fr n0 L ∧ h = h0
set_option maxRecDepth 65536 in
set_option maxHeartbeats 40000000 in
theorem rm12 (l : Launch) (Z : State) (a0 : Array Value) (hw : ∀ d ∈ tables_1, d.before a0 Z = true) (ws : List Jvm.Cond) (p1 : Int32) (p2 : Int32) (p3 : Int32)  (h0 : Heap) (n0 : Nat) (Z0 : n0 ≤ h0.size) (q1 : ¬ p3 < p2) (q2 : ¬ p2 < (0 : Int32)) (q3 : ¬ p1 < p3) :
  MetFree l Mn3 (head1 (Jvm.Cond.code Mn3 jdk_65_method_30_code 3 none :: ws) Rm1) (fun a U => a = #[(.int p1), (.int p2), (.int p3)] ∧ Z.Warmed39 U.vm ∧ U.heap = h0) (fun _ _ _ _ _ => True) (fun _ U oc U' => ∃ v L, oc = .returned v ∧ Q12 Z p1 p2 p3  h0 n0 v U'.heap L ∧ FrameEnd U oc U' L Rm1.cells Rm1.slots) := by
 refine MetFree.of_bodySF pn_12 hisR ?_
 intro p e s m args below meth c s₁ Bd hml0 hP hK
 obtain ⟨rfl, hZ, hh⟩ := hP
 have hx := Bd.exec
 have hby := Bd.bytes
 have hlk := BodyLoose.notSynchronized Bd
 have hml : c.maxLocals = 3 := hml0
 have hown : s.vm.findClass "java/util/Arrays" = some m.cls := findClass_of_methodNamed Bd.named
 have hnm := (name_of_methodNamed Bd.named Bd.method).1
 have X0 : Stand p l e Rm1 s m #[(.int p1), (.int p2), (.int p3)] below meth c s₁ [] 0 0 := Stand.of_body Bd
 have e0 : s₁.heap = h0 := by rw [← hh, Bd.state]; rfl
 have N0 := Fr.nil n0
 show OwnWp p e below s Rm1.cells Rm1.slots (Q12 Z p1 p2 p3  h0 n0) (s₁.setTop (entryFrame m #[(.int p1), (.int p2), (.int p3)] 3))
 refine OwnWp.cast (ef_12 m p1 p2 p3) ?_
 refine own_s s₁ (mkF m 73 #[sI p1, sI p2, sI p3] []) (fun t k => ?_) ?_
 ·refine XS.iloadN X0.here hx rfl (D12 hby 0 rfl) rfl ?_
  refine XS.iloadN X0.here hx rfl (D12 hby 1 rfl) rfl ?_
  refine XS.icmpYes X0.here hx rfl (pc0 := 2) (pc' := 46) rfl (D12 hby 2 rfl) rfl (XT.ii_le_t q1) (by decide) (by decide) ?_
  refine XS.iloadN X0.here hx rfl (D12 hby 3 rfl) rfl ?_
  refine XS.ifYes X0.here hx rfl (pc0 := 47) (pc' := 59) rfl (D12 hby 4 rfl) rfl (XT.i0_ge_t q2) (by decide) (by decide) ?_
  refine XS.iloadN X0.here hx rfl (D12 hby 5 rfl) rfl ?_
  refine XS.iloadN X0.here hx rfl (D12 hby 6 rfl) rfl ?_
  exact XS.icmpYes X0.here hx rfl (pc0 := 61) (pc' := 73) rfl (D12 hby 7 rfl) rfl (XT.ii_le_t q3) (by decide) (by decide) k
 refine OwnWp.retV X0 hx hlk Bd.returns (D12 hby 8 rfl) (by decide) (by decide) ?_
 exact ⟨rfl, N0, e0⟩
def dl11 : List (Nat × Instr × Nat) := [(0, .aload_n 0, 1), (1, .arraylength, 1), (2, .iload_n 1, 1), (3, .iload_n 2, 1), (4, .invokestatic 13, 3), (7, .iload_n 1, 1), (8, .istore 4, 2), (10, .iload 4, 2), (12, .iload_n 2, 1), (13, .if_icmp .ge 14, 3), (16, .aload_n 0, 1), (17, .iload 4, 2), (19, .iload_n 3, 1), (20, .iastore, 1), (21, .iinc 4 1, 3), (24, .goto (-14), 3), (27, .return_, 1)]
theorem da11 : ∀ x ∈ dl11, decode jdk_65_method_104_code x.1 = .ok x.2 := by decide +kernel
theorem D11 {c : Code} (h : c.code = jdk_65_method_104_code) (i : Nat) {pc : Nat} {ins : Instr} {n : Nat} (e : dl11[i]? = some (pc, ins, n)) : decode c.code pc = .ok (ins, n) := by rw [h]; exact da11 (pc, ins, n) (List.mem_of_getElem? e)
theorem pn_11 : plainFor Mn4 = true := plainFor_of_name (by first | (simp [plainName, overriddenIn]; done) | decide +kernel)
theorem pd_11 : parseMethodDescriptor "([IIII)V" = some ⟨[(.array .int), .int, .int, .int], none⟩ := by decide +kernel
theorem ef_11 (m : MethodId) (x0 : Addr) (x1 : Int32) (x2 : Int32) (x3 : Int32) : entryFrame m #[(.ref x0), (.int x1), (.int x2), (.int x3)] 5 = mkF m 0 #[.val (.ref x0), .val (.int x1), .val (.int x2), .val (.int x3), .unset] [] := by first | (simp [entryFrame, mkF, argsToLocals, Value.category, maxLocals]; done) | rfl
def Q11 (Z : State) (a1 : Addr) (p1 : Int32) (p2 : Int32) (p3 : Int32) (nn : Int32) (f : Int → Int32) (h0 : Heap) (n0 : Nat) (v : Option Value) (h : Heap) (L : List Loc) : Prop := v = none ∧ Fr n0 L ∧ Keep h0 h [a1] ∧ OwnA Z h a1 .int nn (fun i => .int ((own_rng f p1.toInt p2.toInt p3) i))
set_option maxRecDepth 65536 in
set_option maxHeartbeats 40000000 in
theorem rm11 (l : Launch) (Z : State) (a0 : Array Value) (hw : ∀ d ∈ tables_1, d.before a0 Z = true) (ws : List Jvm.Cond) (a1 : Addr) (p1 : Int32) (p2 : Int32) (p3 : Int32) (nn : Int32) (f : Int → Int32) (h0 : Heap) (n0 : Nat) (Z0 : n0 ≤ h0.size) (g0 : n0 ≤ a1) (A0 : OwnA Z h0 a1 .int nn (fun i => .int (f i))) (h1 : 0 ≤ p1.toInt) (h2 : p1.toInt ≤ p2.toInt) (h3 : p2.toInt ≤ nn.toInt) :
  MetFree l Mn4 (head1 (Jvm.Cond.code Mn4 jdk_65_method_104_code 5 none :: ws) Rm2) (fun a U => a = #[(.ref a1), (.int p1), (.int p2), (.int p3)] ∧ Z.Warmed39 U.vm ∧ U.heap = h0) (fun _ _ _ _ _ => True) (fun _ U oc U' => ∃ v L, oc = .returned v ∧ Q11 Z a1 p1 p2 p3 nn f h0 n0 v U'.heap L ∧ FrameEnd U oc U' L Rm2.cells Rm2.slots) := by
 refine MetFree.of_bodySF pn_11 hisR ?_
 intro p e s m args below meth c s₁ Bd hml0 hP hK
 obtain ⟨rfl, hZ, hh⟩ := hP
 have hx := Bd.exec
 have hby := Bd.bytes
 have hlk := BodyLoose.notSynchronized Bd
 have hml : c.maxLocals = 5 := hml0
 have hown : s.vm.findClass "java/util/Arrays" = some m.cls := findClass_of_methodNamed Bd.named
 have hnm := (name_of_methodNamed Bd.named Bd.method).1
 have X0 : Stand p l e Rm2 s m #[(.ref a1), (.int p1), (.int p2), (.int p3)] below meth c s₁ [] 0 0 := Stand.of_body Bd
 have e0 : s₁.heap = h0 := by rw [← hh, Bd.state]; rfl
 have N0 := Fr.nil n0
 show OwnWp p e below s Rm2.cells Rm2.slots (Q11 Z a1 p1 p2 p3 nn f h0 n0) (s₁.setTop (entryFrame m #[(.ref a1), (.int p1), (.int p2), (.int p3)] 5))
 refine OwnWp.cast (ef_11 m a1 p1 p2 p3) ?_
 show OwnWp p e below s _ _ _ (s₁.setTop (mkF m 0 #[sA a1, sI p1, sI p2, sI p3, sU] []))
 have K0 := Keep.refl h0 [a1]
 refine own_s s₁ (mkF m 4 #[sA a1, sI p1, sI p2, sI p3, sU] [(.int p2), (.int p1), (.int nn)]) (fun t k => ?_) ?_
 ·refine XS.aloadN X0.here hx rfl (D11 hby 0 rfl) rfl rfl ?_
  refine OwnA.alen X0 hx hZ e0 A0 rfl rfl (D11 hby 1 rfl) ?_
  refine XS.iloadN X0.here hx rfl (D11 hby 2 rfl) rfl ?_
  exact XS.iloadN X0.here hx rfl (D11 hby 3 rfl) rfl k
 obtain ⟨_, _, ⟨T3, L3, k3, n3⟩, -, X3, ⟨Lc3, hQ3, l3, y3, z3⟩, st3⟩ := Jvm.LawKit.callS X0 hx (y := Mn3) hown (mvT hZ (own_hw hw 71 rfl)) (mvT hZ (own_hw hw 72 rfl)) (mvT hZ (own_hw hw 34 rfl)) (mvT hZ (own_hw hw 73 rfl)) (by decide) (backOf (W := 0) (rm12 l Z a0 hw [] nn p1 p2 h0 n0 Z0 (by rw [Int32.lt_iff_toInt_lt]; omega) (by rw [Int32.lt_iff_toInt_lt, Int32.toInt_zero]; omega) (by rw [Int32.lt_iff_toInt_lt]; omega)) hZ (own_hw hw 73 rfl) (own_hw hw 34 rfl) (by decide) (by decide)) (g := (mkF m 4 #[sA a1, sI p1, sI p2, sI p3, sU] [(.int p2), (.int p1), (.int nn)])) rfl (by rw [hml]; rfl) (argsL := [(.int nn), (.int p1), (.int p2)]) (rest := []) (lenOf pd_12 rfl) rfl (by show 2 * 0 + _ ≤ _; exact Nat.le_of_eq rfl) (D11 hby 4 rfl) (fun _ _ => ⟨rfl, e0, (by dsimp only [Pt.cells]; decide), (by dsimp only [Pt.slots]; decide)⟩)
 dsimp only [Pt.U, Pt.locs, Pt.cells, Pt.slots] at X3 l3 y3 z3 st3 hQ3
 subst l3 y3 z3
 obtain ⟨rfl, Nc3, hp3⟩ := hQ3
 have N3 := Fr.app N0 Nc3
 refine OwnWp.step st3 ?_
 have eh3 : T3.heap = h0 := hp3
 refine own_s T3 (mkF m 10 #[sA a1, sI p1, sI p2, sI p3, sI p1] []) (fun t k => ?_) ?_
 ·refine XS.iloadN X3.here hx rfl (D11 hby 5 rfl) rfl ?_
  exact XS.istore X3.here hx rfl (D11 hby 6 rfl) rfl (l' := #[sA a1, sI p1, sI p2, sI p3, sI p1]) rfl k
 have A1 := OwnA.congr A0 (fun zi _ _ => congrArg Value.int (own_rng_nil f p1.toInt p3 zi))
 have hloop : ∀ (k : Nat) (T4 : State) (h4 : Heap) (L4 : List Loc) (i : Int32) (X4 : Stand p l e Rm2 s m #[(.ref a1), (.int p1), (.int p2), (.int p3)] below meth c T4 L4 0 0) (e4 : T4.heap = h4) (N4 : Fr n0 L4) (Z4 : n0 ≤ h4.size) (f5 : OwnA Z h4 a1 .int nn (fun zi => .int ((own_rng f p1.toInt i.toInt p3) zi))) (K6 : Keep h0 h4 [a1]) (hi : i.toInt + (k : Int) = p2.toInt) (hlo : p1.toInt ≤ i.toInt), OwnWp p e below s Rm2.cells Rm2.slots (Q11 Z a1 p1 p2 p3 nn f h0 n0) (T4.setTop (mkF m 10 #[sA a1, sI p1, sI p2, sI p3, sI i] [])) := by
  intro k
  induction k with
  | zero =>
   intro T4 h4 L4 i X4 e4 N4 Z4 f5 K6 hi hlo
   refine own_s T4 (mkF m 13 #[sA a1, sI p1, sI p2, sI p3, sI i] [(.int p2), (.int i)]) (fun t k => ?_) ?_
   ·refine XS.iload X4.here hx rfl (D11 hby 7 rfl) rfl ?_
    exact XS.iloadN X4.here hx rfl (D11 hby 8 rfl) rfl k
   by_cases c13_7 : i < p2
   ·refine own_s T4 (mkF m 16 #[sA a1, sI p1, sI p2, sI p3, sI i] []) (fun t k => ?_) ?_
    ·exact XS.icmpNo X4.here hx rfl (D11 hby 9 rfl) rfl (XT.ii_ge_f c13_7) k
    rw [Int32.lt_iff_toInt_lt] at c13_7
    exact absurd hi (by omega)
   ·refine own_s T4 (mkF m 27 #[sA a1, sI p1, sI p2, sI p3, sI i] []) (fun t k => ?_) ?_
    ·exact XS.icmpYes X4.here hx rfl (pc0 := 13) (pc' := 27) rfl (D11 hby 9 rfl) rfl (XT.ii_ge_t c13_7) (by decide) (by decide) k
    rw [Int32.lt_iff_toInt_lt] at c13_7
    refine OwnWp.retV X4 hx hlk Bd.returns (D11 hby 16 rfl) (by decide) (by decide) ?_
    rw [e4]
    exact ⟨rfl, N4, K6, by rw [show p2.toInt = i.toInt from by omega]; exact f5⟩
  | succ k ih =>
   intro T4 h4 L4 i X4 e4 N4 Z4 f5 K6 hi hlo
   refine own_s T4 (mkF m 13 #[sA a1, sI p1, sI p2, sI p3, sI i] [(.int p2), (.int i)]) (fun t k => ?_) ?_
   ·refine XS.iload X4.here hx rfl (D11 hby 7 rfl) rfl ?_
    exact XS.iloadN X4.here hx rfl (D11 hby 8 rfl) rfl k
   by_cases c13_8 : i < p2
   ·refine own_s T4 (mkF m 16 #[sA a1, sI p1, sI p2, sI p3, sI i] []) (fun t k => ?_) ?_
    ·exact XS.icmpNo X4.here hx rfl (D11 hby 9 rfl) rfl (XT.ii_ge_f c13_8) k
    rw [Int32.lt_iff_toInt_lt] at c13_8
    refine own_s T4 (mkF m 20 #[sA a1, sI p1, sI p2, sI p3, sI i] [(.int p3), (.int i), (.ref a1)]) (fun t k => ?_) ?_
    ·refine XS.aloadN X4.here hx rfl (D11 hby 10 rfl) rfl rfl ?_
     refine XS.iload X4.here hx rfl (D11 hby 11 rfl) rfl ?_
     exact XS.iloadN X4.here hx rfl (D11 hby 12 rfl) rfl k
    obtain ⟨T9, h9, L9, X9, e9, N9, K9, F9, st9⟩ := OwnA.stI X4 hx hZ e4 N4 g0 f5 (by omega) (by omega) (g := (mkF m 20 #[sA a1, sI p1, sI p2, sI p3, sI i] [(.int p3), (.int i), (.ref a1)])) rfl rfl (D11 hby 13 rfl)
    refine OwnWp.step st9 ?_
    have Z9 : n0 ≤ h9.size := Nat.le_trans Z4 K9.1
    have F10 : OwnA Z h9 a1 .int nn (fun zi => .int ((ownUpd (own_rng f p1.toInt i.toInt p3) i.toInt p3) zi)) := F9.congr (fun zi _ _ => by exact ownUpd_int (own_rng f p1.toInt i.toInt p3) _ _ zi)
    have K11 := Keep.trans K6 K9 (allS (Or.inl (List.mem_of_getElem? (i := 0) rfl)) all0)
    show OwnWp p e below s _ _ _ (T9.setTop (mkF m 21 #[sA a1, sI p1, sI p2, sI p3, sI i] []))
    obtain ⟨w1, qw1⟩ : ∃ z : Int32, z = (i + (1 : Int32)) := ⟨_, rfl⟩
    refine own_s T9 (mkF m 24 #[sA a1, sI p1, sI p2, sI p3, sI w1] []) (fun t k => ?_) ?_
    ·refine XT.iincV X9.here hx rfl (1 : Int32) (D11 hby 14 rfl) rfl rfl (l' := #[sA a1, sI p1, sI p2, sI p3, sI (i + (1 : Int32))]) rfl ?_
     rw [qw1] at k
     exact k
    refine own_s T9 (mkF m 10 #[sA a1, sI p1, sI p2, sI p3, sI w1] []) (fun t k => ?_) ?_
    ·exact XS.goto X9.here hx rfl (pc0 := 24) (pc' := 10) rfl (D11 hby 15 rfl) (by decide) (by decide) k
    have hi2 : w1.toInt = i.toInt + 1 := by rw [qw1]; have a1 := c_iadd i 1; rw [show (1 : Int32).toInt = 1 from rfl] at a1; have a2 := rng32 (i + 1); have a3 := rng32 nn; omega
    have Ff := OwnA.congr F10 (fun zi _ _ => congrArg Value.int (own_rng_upd f p1.toInt i.toInt w1.toInt p3 hi2 hlo zi))
    exact ih  T9 h9 _ w1 X9 e9 N9 Z9 Ff K11 (by omega) (by omega)
   ·refine own_s T4 (mkF m 27 #[sA a1, sI p1, sI p2, sI p3, sI i] []) (fun t k => ?_) ?_
    ·exact XS.icmpYes X4.here hx rfl (pc0 := 13) (pc' := 27) rfl (D11 hby 9 rfl) rfl (XT.ii_ge_t c13_8) (by decide) (by decide) k
    rw [Int32.lt_iff_toInt_lt] at c13_8
    exact absurd hi (by omega)
 exact hloop (p2.toInt - p1.toInt).toNat T3 h0 _ p1 X3 eh3 N3 Z0 A1 K0 (by omega) (by omega)
def dl5 : List (Nat × Instr × Nat) := [(0, .iconst 0, 1), (1, .istore_n 2, 1), (2, .aload_n 0, 1), (3, .arraylength, 1), (4, .istore_n 3, 1), (5, .iload_n 2, 1), (6, .iload_n 3, 1), (7, .if_icmp .ge 13, 3), (10, .aload_n 0, 1), (11, .iload_n 2, 1), (12, .iload_n 1, 1), (13, .iastore, 1), (14, .iinc 2 1, 3), (17, .goto (-12), 3), (20, .return_, 1)]
theorem da5 : ∀ x ∈ dl5, decode jdk_65_method_103_code x.1 = .ok x.2 := by decide +kernel
theorem D5 {c : Code} (h : c.code = jdk_65_method_103_code) (i : Nat) {pc : Nat} {ins : Instr} {n : Nat} (e : dl5[i]? = some (pc, ins, n)) : decode c.code pc = .ok (ins, n) := by rw [h]; exact da5 (pc, ins, n) (List.mem_of_getElem? e)
theorem pn_5 : plainFor Mn5 = true := plainFor_of_name (by first | (simp [plainName, overriddenIn]; done) | decide +kernel)
theorem pd_5 : parseMethodDescriptor "([II)V" = some ⟨[(.array .int), .int], none⟩ := by decide +kernel
theorem ef_5 (m : MethodId) (x0 : Addr) (x1 : Int32) : entryFrame m #[(.ref x0), (.int x1)] 4 = mkF m 0 #[.val (.ref x0), .val (.int x1), .unset, .unset] [] := by first | (simp [entryFrame, mkF, argsToLocals, Value.category, maxLocals]; done) | rfl
def Q5 (Z : State) (a1 : Addr) (p1 : Int32) (nn : Int32) (f : Int → Int32) (h0 : Heap) (n0 : Nat) (v : Option Value) (h : Heap) (L : List Loc) : Prop := v = none ∧ Fr n0 L ∧ Keep h0 h [a1] ∧ OwnA Z h a1 .int nn (fun i => .int ((own_rng f 0 nn.toInt p1) i))
set_option maxRecDepth 65536 in
set_option maxHeartbeats 40000000 in
theorem rm5 (l : Launch) (Z : State) (a0 : Array Value) (hw : ∀ d ∈ tables_1, d.before a0 Z = true) (ws : List Jvm.Cond) (a1 : Addr) (p1 : Int32) (nn : Int32) (f : Int → Int32) (h0 : Heap) (n0 : Nat) (Z0 : n0 ≤ h0.size) (g0 : n0 ≤ a1) (A0 : OwnA Z h0 a1 .int nn (fun i => .int (f i))) :
  MetFree l Mn5 (head1 (Jvm.Cond.code Mn5 jdk_65_method_103_code 4 none :: ws) Rm1) (fun a U => a = #[(.ref a1), (.int p1)] ∧ Z.Warmed39 U.vm ∧ U.heap = h0) (fun _ _ _ _ _ => True) (fun _ U oc U' => ∃ v L, oc = .returned v ∧ Q5 Z a1 p1 nn f h0 n0 v U'.heap L ∧ FrameEnd U oc U' L Rm1.cells Rm1.slots) := by
 refine MetFree.of_bodySF pn_5 hisR ?_
 intro p e s m args below meth c s₁ Bd hml0 hP hK
 obtain ⟨rfl, hZ, hh⟩ := hP
 have hx := Bd.exec
 have hby := Bd.bytes
 have hlk := BodyLoose.notSynchronized Bd
 have hml : c.maxLocals = 4 := hml0
 have hown : s.vm.findClass "java/util/Arrays" = some m.cls := findClass_of_methodNamed Bd.named
 have hnm := (name_of_methodNamed Bd.named Bd.method).1
 have X0 : Stand p l e Rm1 s m #[(.ref a1), (.int p1)] below meth c s₁ [] 0 0 := Stand.of_body Bd
 have e0 : s₁.heap = h0 := by rw [← hh, Bd.state]; rfl
 have N0 := Fr.nil n0
 show OwnWp p e below s Rm1.cells Rm1.slots (Q5 Z a1 p1 nn f h0 n0) (s₁.setTop (entryFrame m #[(.ref a1), (.int p1)] 4))
 refine OwnWp.cast (ef_5 m a1 p1) ?_
 show OwnWp p e below s _ _ _ (s₁.setTop (mkF m 0 #[sA a1, sI p1, sU, sU] []))
 have K0 := Keep.refl h0 [a1]
 refine own_s s₁ (mkF m 5 #[sA a1, sI p1, sI (0 : Int32), sI nn] []) (fun t k => ?_) ?_
 ·refine XT.iconstV X0.here hx rfl (0 : Int32) (D5 hby 0 rfl) rfl ?_
  refine XS.istoreN X0.here hx rfl (D5 hby 1 rfl) rfl (l' := #[sA a1, sI p1, sI (0 : Int32), sU]) rfl ?_
  refine XS.aloadN X0.here hx rfl (D5 hby 2 rfl) rfl rfl ?_
  refine OwnA.alen X0 hx hZ e0 A0 rfl rfl (D5 hby 3 rfl) ?_
  exact XS.istoreN X0.here hx rfl (D5 hby 4 rfl) rfl (l' := #[sA a1, sI p1, sI (0 : Int32), sI nn]) rfl k
 have hnn := A0.len
 have A1 := OwnA.congr A0 (fun zi _ _ => congrArg Value.int (own_rng_nil f 0 p1 zi))
 have hloop : ∀ (k : Nat) (T12 : State) (h12 : Heap) (L12 : List Loc) (i : Int32) (X12 : Stand p l e Rm1 s m #[(.ref a1), (.int p1)] below meth c T12 L12 0 0) (e12 : T12.heap = h12) (N12 : Fr n0 L12) (Z12 : n0 ≤ h12.size) (f13 : OwnA Z h12 a1 .int nn (fun zi => .int ((own_rng f 0 i.toInt p1) zi))) (K14 : Keep h0 h12 [a1]) (hi : i.toInt + (k : Int) = nn.toInt) (hlo : 0 ≤ i.toInt), OwnWp p e below s Rm1.cells Rm1.slots (Q5 Z a1 p1 nn f h0 n0) (T12.setTop (mkF m 5 #[sA a1, sI p1, sI i, sI nn] [])) := by
  intro k
  induction k with
  | zero =>
   intro T12 h12 L12 i X12 e12 N12 Z12 f13 K14 hi hlo
   refine own_s T12 (mkF m 7 #[sA a1, sI p1, sI i, sI nn] [(.int nn), (.int i)]) (fun t k => ?_) ?_
   ·refine XS.iloadN X12.here hx rfl (D5 hby 5 rfl) rfl ?_
    exact XS.iloadN X12.here hx rfl (D5 hby 6 rfl) rfl k
   by_cases c7_15 : i < nn
   ·refine own_s T12 (mkF m 10 #[sA a1, sI p1, sI i, sI nn] []) (fun t k => ?_) ?_
    ·exact XS.icmpNo X12.here hx rfl (D5 hby 7 rfl) rfl (XT.ii_ge_f c7_15) k
    rw [Int32.lt_iff_toInt_lt] at c7_15
    exact absurd hi (by omega)
   ·refine own_s T12 (mkF m 20 #[sA a1, sI p1, sI i, sI nn] []) (fun t k => ?_) ?_
    ·exact XS.icmpYes X12.here hx rfl (pc0 := 7) (pc' := 20) rfl (D5 hby 7 rfl) rfl (XT.ii_ge_t c7_15) (by decide) (by decide) k
    rw [Int32.lt_iff_toInt_lt] at c7_15
    refine OwnWp.retV X12 hx hlk Bd.returns (D5 hby 14 rfl) (by decide) (by decide) ?_
    rw [e12]
    exact ⟨rfl, N12, K14, by rw [show nn.toInt = i.toInt from by omega]; exact f13⟩
  | succ k ih =>
   intro T12 h12 L12 i X12 e12 N12 Z12 f13 K14 hi hlo
   refine own_s T12 (mkF m 7 #[sA a1, sI p1, sI i, sI nn] [(.int nn), (.int i)]) (fun t k => ?_) ?_
   ·refine XS.iloadN X12.here hx rfl (D5 hby 5 rfl) rfl ?_
    exact XS.iloadN X12.here hx rfl (D5 hby 6 rfl) rfl k
   by_cases c7_16 : i < nn
   ·refine own_s T12 (mkF m 10 #[sA a1, sI p1, sI i, sI nn] []) (fun t k => ?_) ?_
    ·exact XS.icmpNo X12.here hx rfl (D5 hby 7 rfl) rfl (XT.ii_ge_f c7_16) k
    rw [Int32.lt_iff_toInt_lt] at c7_16
    refine own_s T12 (mkF m 13 #[sA a1, sI p1, sI i, sI nn] [(.int p1), (.int i), (.ref a1)]) (fun t k => ?_) ?_
    ·refine XS.aloadN X12.here hx rfl (D5 hby 8 rfl) rfl rfl ?_
     refine XS.iloadN X12.here hx rfl (D5 hby 9 rfl) rfl ?_
     exact XS.iloadN X12.here hx rfl (D5 hby 10 rfl) rfl k
    obtain ⟨T17, h17, L17, X17, e17, N17, K17, F17, st17⟩ := OwnA.stI X12 hx hZ e12 N12 g0 f13 (by omega) (by omega) (g := (mkF m 13 #[sA a1, sI p1, sI i, sI nn] [(.int p1), (.int i), (.ref a1)])) rfl rfl (D5 hby 11 rfl)
    refine OwnWp.step st17 ?_
    have Z17 : n0 ≤ h17.size := Nat.le_trans Z12 K17.1
    have F18 : OwnA Z h17 a1 .int nn (fun zi => .int ((ownUpd (own_rng f 0 i.toInt p1) i.toInt p1) zi)) := F17.congr (fun zi _ _ => by exact ownUpd_int (own_rng f 0 i.toInt p1) _ _ zi)
    have K19 := Keep.trans K14 K17 (allS (Or.inl (List.mem_of_getElem? (i := 0) rfl)) all0)
    show OwnWp p e below s _ _ _ (T17.setTop (mkF m 14 #[sA a1, sI p1, sI i, sI nn] []))
    obtain ⟨w1, qw1⟩ : ∃ z : Int32, z = (i + (1 : Int32)) := ⟨_, rfl⟩
    refine own_s T17 (mkF m 17 #[sA a1, sI p1, sI w1, sI nn] []) (fun t k => ?_) ?_
    ·refine XT.iincV X17.here hx rfl (1 : Int32) (D5 hby 12 rfl) rfl rfl (l' := #[sA a1, sI p1, sI (i + (1 : Int32)), sI nn]) rfl ?_
     rw [qw1] at k
     exact k
    refine own_s T17 (mkF m 5 #[sA a1, sI p1, sI w1, sI nn] []) (fun t k => ?_) ?_
    ·exact XS.goto X17.here hx rfl (pc0 := 17) (pc' := 5) rfl (D5 hby 13 rfl) (by decide) (by decide) k
    have hi2 : w1.toInt = i.toInt + 1 := by rw [qw1]; have a1 := c_iadd i 1; rw [show (1 : Int32).toInt = 1 from rfl] at a1; have a2 := rng32 (i + 1); have a3 := rng32 nn; omega
    have Ff := OwnA.congr F18 (fun zi _ _ => congrArg Value.int (own_rng_upd f 0 i.toInt w1.toInt p1 hi2 hlo zi))
    exact ih  T17 h17 _ w1 X17 e17 N17 Z17 Ff K19 (by omega) (by omega)
   ·refine own_s T12 (mkF m 20 #[sA a1, sI p1, sI i, sI nn] []) (fun t k => ?_) ?_
    ·exact XS.icmpYes X12.here hx rfl (pc0 := 7) (pc' := 20) rfl (D5 hby 7 rfl) rfl (XT.ii_ge_t c7_16) (by decide) (by decide) k
    rw [Int32.lt_iff_toInt_lt] at c7_16
    exact absurd hi (by omega)
 exact hloop nn.toInt.toNat s₁ h0 _ (0 : Int32) X0 e0 N0 Z0 A1 K0 (by rw [Int32.toInt_zero]; omega) (by decide)
def dl7 : List (Nat × Instr × Nat) := [(0, .iload_n 1, 1), (1, .aload_n 0, 1), (2, .arraylength, 1), (3, .if_icmp .ne 11, 3), (6, .aload_n 0, 1), (7, .invokevirtual 316, 3), (10, .checkcast 317, 3), (13, .areturn, 1), (14, .iload_n 1, 1), (15, .newarray .int, 2), (17, .astore_n 2, 1), (18, .aload_n 0, 1), (19, .iconst 0, 1), (20, .aload_n 2, 1), (21, .iconst 0, 1), (22, .aload_n 0, 1), (23, .arraylength, 1), (24, .iload_n 1, 1), (25, .invokestatic 304, 3), (28, .invokestatic 150, 3), (31, .aload_n 2, 1), (32, .areturn, 1)]
theorem da7 : ∀ x ∈ dl7, decode jdk_65_method_123_code x.1 = .ok x.2 := by decide +kernel
theorem D7 {c : Code} (h : c.code = jdk_65_method_123_code) (i : Nat) {pc : Nat} {ins : Instr} {n : Nat} (e : dl7[i]? = some (pc, ins, n)) : decode c.code pc = .ok (ins, n) := by rw [h]; exact da7 (pc, ins, n) (List.mem_of_getElem? e)
theorem pn_7 : plainFor Mn6 = true := plainFor_of_name (by first | (simp [plainName, overriddenIn]; done) | decide +kernel)
theorem pd_7 : parseMethodDescriptor "([II)[I" = some ⟨[(.array .int), .int], some (.array .int)⟩ := by decide +kernel
theorem ef_7 (m : MethodId) (x0 : Addr) (x1 : Int32) : entryFrame m #[(.ref x0), (.int x1)] 3 = mkF m 0 #[.val (.ref x0), .val (.int x1), .unset] [] := by first | (simp [entryFrame, mkF, argsToLocals, Value.category, maxLocals]; done) | rfl
def Q7 (Z : State) (a1 : Addr) (p1 : Int32) (f : Int → Int32) (h0 : Heap) (n0 : Nat) (v : Option Value) (h : Heap) (L : List Loc) : Prop := ∃ b : Addr, v = some (.ref b) ∧ Fr n0 L ∧ n0 ≤ b ∧ h0.size ≤ b ∧ Keep h0 h [] ∧ OwnA Z h b .int p1 (fun i => .int (f i))
set_option maxRecDepth 65536 in
set_option maxHeartbeats 40000000 in
theorem rm7 (l : Launch) (Z : State) (a0 : Array Value) (hw : ∀ d ∈ tables_1, d.before a0 Z = true) (ws : List Jvm.Cond) (a1 : Addr) (p1 : Int32) (f : Int → Int32) (h0 : Heap) (n0 : Nat) (Z0 : n0 ≤ h0.size) (A0 : OwnA Z h0 a1 .int (16 : Int32) (fun i => .int (f i))) (E0 : Exa Z h0 a1 "[I") (h1 : 1 ≤ p1.toInt) (h2 : p1.toInt ≤ 16) :
  MetFree l Mn6 (head1 (Jvm.Cond.code Mn6 jdk_65_method_123_code 3 (some (.array .int)) :: ws) Rm3) (fun a U => a = #[(.ref a1), (.int p1)] ∧ Z.Warmed39 U.vm ∧ U.heap = h0) (fun _ _ _ _ _ => True) (fun _ U oc U' => ∃ v L, oc = .returned v ∧ Q7 Z a1 p1 f h0 n0 v U'.heap L ∧ FrameEnd U oc U' L Rm3.cells Rm3.slots) := by
 refine MetFree.of_bodySF pn_7 hisR ?_
 intro p e s m args below meth c s₁ Bd hml0 hP hK
 obtain ⟨rfl, hZ, hh⟩ := hP
 have hx := Bd.exec
 have hby := Bd.bytes
 have hlk := BodyLoose.notSynchronized Bd
 have hml : c.maxLocals = 3 := hml0
 have hown : s.vm.findClass "java/util/Arrays" = some m.cls := findClass_of_methodNamed Bd.named
 have hnm := (name_of_methodNamed Bd.named Bd.method).1
 have X0 : Stand p l e Rm3 s m #[(.ref a1), (.int p1)] below meth c s₁ [] 0 0 := Stand.of_body Bd
 have e0 : s₁.heap = h0 := by rw [← hh, Bd.state]; rfl
 have N0 := Fr.nil n0
 show OwnWp p e below s Rm3.cells Rm3.slots (Q7 Z a1 p1 f h0 n0) (s₁.setTop (entryFrame m #[(.ref a1), (.int p1)] 3))
 refine OwnWp.cast (ef_7 m a1 p1) ?_
 show OwnWp p e below s _ _ _ (s₁.setTop (mkF m 0 #[sA a1, sI p1, sU] []))
 have K0 := Keep.refl h0 []
 refine own_s s₁ (mkF m 3 #[sA a1, sI p1, sU] [(.int (16 : Int32)), (.int p1)]) (fun t k => ?_) ?_
 ·refine XS.iloadN X0.here hx rfl (D7 hby 0 rfl) rfl ?_
  refine XS.aloadN X0.here hx rfl (D7 hby 1 rfl) rfl rfl ?_
  exact OwnA.alen X0 hx hZ e0 A0 rfl rfl (D7 hby 2 rfl) k
 by_cases c3_20 : p1 = (16 : Int32)
 ·refine own_s s₁ (mkF m 6 #[sA a1, sI p1, sU] []) (fun t k => ?_) ?_
  ·exact XS.icmpNo X0.here hx rfl (D7 hby 3 rfl) rfl (XT.ii_ne_f c3_20) k
  refine own_s s₁ (mkF m 7 #[sA a1, sI p1, sU] [(.ref a1)]) (fun t k => ?_) ?_
  ·exact XS.aloadN X0.here hx rfl (D7 hby 4 rfl) rfl rfl k
  obtain ⟨T21, h21, X21, e21, E21, F21, Ex21, st21⟩ := OwnA.cloned X0 hx hZ hown (own_hw hw 103 rfl) (own_hw hw 104 rfl) (own_hw hw 108 rfl) (own_hw hw 106 rfl) (own_hw hw 107 rfl) (own_hw hw 109 rfl) e0 A0 E0 (g := (mkF m 7 #[sA a1, sI p1, sU] [(.ref a1)])) rfl (by rw [hml]; rfl) rfl (D7 hby 5 rfl) (by decide) (W := 0) (cap := 16) (by show 2 * 0 + _ ≤ _; exact Nat.le_of_eq rfl) (by decide) (by decide) (by decide) (by decide)
  obtain ⟨ad21, ga21⟩ : ∃ z, z = h0.size := ⟨_, rfl⟩
  rw [← ga21] at F21 Ex21 st21
  refine OwnWp.step st21 ?_
  have ne21_22 : a1 ≠ ad21 := Nat.ne_of_lt (by rw [ga21]; exact E0.lt)
  have Z21 : n0 ≤ h21.size := Nat.le_trans Z0 E21.1
  have b21 : n0 ≤ ad21 := Nat.le_trans Z0 (Nat.le_of_eq ga21.symm)
  have bk21 : h0.size ≤ ad21 := by rw [ga21]; exact K0.1
  have K23 := Keep.ext K0 E21
  have f24 := OwnA.ext A0 E21
  have f25 := Exa.ext E21 E0
  obtain ⟨T26, X26, e26, st26⟩ := castY X21 hx hZ hown (own_hw hw 110 rfl) e21 (Ins.self Ex21) (g := (mkF m 10 #[sA a1, sI p1, sU] [(.ref ad21)])) rfl rfl (D7 hby 6 rfl)
  refine OwnWp.step st26 ?_
  show OwnWp p e below s _ _ _ (T26.setTop (mkF m 13 #[sA a1, sI p1, sU] [(.ref ad21)]))
  refine OwnWp.retA X26 hx hlk Bd.returns rfl rfl (D7 hby 7 rfl) (by decide) (by decide) ?_
  rw [e26]
  exact ⟨ad21, rfl, N0, b21, bk21, K23, by rw [c3_20]; exact F21⟩
 ·refine own_s s₁ (mkF m 14 #[sA a1, sI p1, sU] []) (fun t k => ?_) ?_
  ·exact XS.icmpYes X0.here hx rfl (pc0 := 3) (pc' := 14) rfl (D7 hby 3 rfl) rfl (XT.ii_ne_t c3_20) (by decide) (by decide) k
  refine own_s s₁ (mkF m 15 #[sA a1, sI p1, sU] [(.int p1)]) (fun t k => ?_) ?_
  ·exact XS.iloadN X0.here hx rfl (D7 hby 8 rfl) rfl k
  obtain ⟨T27, h27, cA27, X27, e27, E27, Ar27, st27⟩ := newP X0 hx hZ (aty := .int) (own_hw hw 1 rfl) e0 (g := (mkF m 15 #[sA a1, sI p1, sU] [(.int p1)])) rfl (D7 hby 9 rfl) rfl (by rw [Int32.lt_iff_toInt_lt, Int32.toInt_zero]; omega) (cap := 16) (by rw [own_clamp]; omega) (by decide) (by decide) (by decide)
  obtain ⟨ad27, ga27⟩ : ∃ z, z = h0.size := ⟨_, rfl⟩
  rw [← ga27] at Ar27 st27
  refine OwnWp.step st27 ?_
  have ne27_28 : a1 ≠ ad27 := Nat.ne_of_lt (by rw [ga27]; exact E0.lt)
  have Z27 : n0 ≤ h27.size := Nat.le_trans Z0 E27.1
  have b27 : n0 ≤ ad27 := Nat.le_trans Z0 (Nat.le_of_eq ga27.symm)
  have bk27 : h0.size ≤ ad27 := by rw [ga27]; exact K0.1
  have K29 := Keep.ext K0 E27
  have f30 := OwnA.ext A0 E27
  have f31 := Exa.ext E27 E0
  have F32 : OwnA Z h27 ad27 .int p1 (fun _ => (.int (0 : Int32))) := OwnA.new Ar27 (by omega)
  refine own_s T27 (mkF m 25 #[sA a1, sI p1, sA ad27] [(.int p1), (.int (16 : Int32)), (.int (0 : Int32)), (.ref ad27), (.int (0 : Int32)), (.ref a1)]) (fun t k => ?_) ?_
  ·refine XS.astoreN X27.here hx rfl (D7 hby 10 rfl) rfl rfl (l' := #[sA a1, sI p1, sA ad27]) rfl ?_
   refine XS.aloadN X27.here hx rfl (D7 hby 11 rfl) rfl rfl ?_
   refine XT.iconstV X27.here hx rfl (0 : Int32) (D7 hby 12 rfl) rfl ?_
   refine XS.aloadN X27.here hx rfl (D7 hby 13 rfl) rfl rfl ?_
   refine XT.iconstV X27.here hx rfl (0 : Int32) (D7 hby 14 rfl) rfl ?_
   refine XS.aloadN X27.here hx rfl (D7 hby 15 rfl) rfl rfl ?_
   refine OwnA.alen X27 hx hZ e27 f30 rfl rfl (D7 hby 16 rfl) ?_
   exact XS.iloadN X27.here hx rfl (D7 hby 17 rfl) rfl k
  obtain ⟨_, _, ⟨T33, L33, k33, n33⟩, -, X33, ⟨Lc33, hQ33, l33, y33, z33⟩, st33⟩ := Jvm.LawKit.callS X27 hx (y := Mn1) hown (mvT hZ (own_hw hw 43 rfl)) (mvT hZ (own_hw hw 44 rfl)) (mvT hZ (own_hw hw 45 rfl)) (mvT hZ (own_hw hw 46 rfl)) (by decide) (backOf (W := 4) (rm8 l Z a0 hw [] (16 : Int32) p1 h27 n0 Z27 ) hZ (own_hw hw 46 rfl) (own_hw hw 45 rfl) (by decide) (by decide)) (g := (mkF m 25 #[sA a1, sI p1, sA ad27] [(.int p1), (.int (16 : Int32)), (.int (0 : Int32)), (.ref ad27), (.int (0 : Int32)), (.ref a1)])) rfl (by rw [hml]; rfl) (argsL := [(.int (16 : Int32)), (.int p1)]) (rest := [(.int (0 : Int32)), (.ref ad27), (.int (0 : Int32)), (.ref a1)]) (lenOf pd_8 rfl) rfl (by show 2 * 0 + _ ≤ _; exact Nat.le_of_eq rfl) (D7 hby 18 rfl) (fun _ _ => ⟨rfl, e27, (by dsimp only [Pt.cells]; decide), (by dsimp only [Pt.slots]; decide)⟩)
  dsimp only [Pt.U, Pt.locs, Pt.cells, Pt.slots] at X33 l33 y33 z33 st33 hQ33
  subst l33 y33 z33
  obtain ⟨rfl, Nc33, hp33⟩ := hQ33
  have N33 := Fr.app N0 Nc33
  refine OwnWp.step st33 ?_
  have eh33 : T33.heap = h27 := hp33
  show OwnWp p e below s _ _ _ (T33.setTop (mkF m 28 #[sA a1, sI p1, sA ad27] [(.int (own_min (16 : Int32) p1)), (.int (0 : Int32)), (.ref ad27), (.int (0 : Int32)), (.ref a1)]))
  obtain ⟨w1, qw1⟩ : ∃ z : Int32, z = (own_min (16 : Int32) p1) := ⟨_, rfl⟩
  rw [← qw1]
  show OwnWp p e below s _ _ _ (T33.setTop (mkF m 28 #[sA a1, sI p1, sA ad27] [(.int w1), (.int (0 : Int32)), (.ref ad27), (.int (0 : Int32)), (.ref a1)]))
  have hmm := own_min16 p1 w1 h1 h2 qw1
  obtain ⟨T34, h34, L34, X34, e34, N34, K34, F34, st34⟩ := OwnA.copy X33 hx hZ hown (own_hw hw 47 rfl) (own_hw hw 50 rfl) (own_hw hw 48 rfl) (own_hw hw 49 rfl) eh33 N33 b27 f30 F32 (by decide) (by decide) (by omega) (by rw [show (0 : Int32).toInt = 0 from rfl, show (16 : Int32).toInt = 16 from rfl]; omega) (by rw [show (0 : Int32).toInt = 0 from rfl]; omega) (g := (mkF m 28 #[sA a1, sI p1, sA ad27] [(.int w1), (.int (0 : Int32)), (.ref ad27), (.int (0 : Int32)), (.ref a1)])) rfl (by rw [hml]; rfl) rfl (D7 hby 19 rfl) (by decide) (W := 0) (by show 2 * 0 + _ ≤ _; exact Nat.le_of_eq rfl) (by decide)
  refine OwnWp.step st34 ?_
  have Z34 : n0 ≤ h34.size := Nat.le_trans Z27 K34.1
  have f35 := OwnA.keep f30 K34 (ninS ne27_28 nin0)
  have f36 := Exa.keep f31 K34
  have K37 := Keep.trans K29 K34 (allS (Or.inr bk27) all0)
  obtain ⟨gc, hgc⟩ : ∃ z : Int → Int32, z = (fun (zi : Int) => if (0 : Int32).toInt ≤ zi ∧ zi < (0 : Int32).toInt + w1.toInt then f ((0 : Int32).toInt + (zi - (0 : Int32).toInt)) else (fun _ => (0 : Int32)) zi) := ⟨_, rfl⟩
  have f38 : OwnA Z h34 ad27 .int p1 (fun zi => .int (gc zi)) := by rw [hgc]; exact F34
  show OwnWp p e below s _ _ _ (T34.setTop (mkF m 31 #[sA a1, sI p1, sA ad27] []))
  have FF := OwnA.congr f38 (fun zi z1 z2 => congrArg Value.int (own_copy0 hgc hmm z1 z2))
  refine own_s T34 (mkF m 32 #[sA a1, sI p1, sA ad27] [(.ref ad27)]) (fun t k => ?_) ?_
  ·exact XS.aloadN X34.here hx rfl (D7 hby 20 rfl) rfl rfl k
  refine OwnWp.retA X34 hx hlk Bd.returns rfl rfl (D7 hby 21 rfl) (by decide) (by decide) ?_
  rw [e34]
  exact ⟨ad27, rfl, N34, b27, bk27, K37, FF⟩
def dl14 : List (Nat × Instr × Nat) := [(0, .iload_n 2, 1), (1, .iload_n 3, 1), (2, .if_icmp .ge 14, 3), (5, .aload_n 0, 1), (6, .iload_n 1, 1), (7, .iload_n 2, 1), (8, .iadd, 1), (9, .sipush 255, 3), (12, .iand, 1), (13, .iload 4, 2), (15, .iastore, 1), (16, .return_, 1)]
theorem da14 : ∀ x ∈ dl14, decode method_2_code x.1 = .ok x.2 := by decide +kernel
theorem D14 {c : Code} (h : c.code = method_2_code) (i : Nat) {pc : Nat} {ins : Instr} {n : Nat} (e : dl14[i]? = some (pc, ins, n)) : decode c.code pc = .ok (ins, n) := by rw [h]; exact da14 (pc, ins, n) (List.mem_of_getElem? e)
theorem pn_14 : plainFor Mn7 = true := plainFor_of_name (by first | (simp [plainName, overriddenIn]; done) | decide +kernel)
theorem pd_14 : parseMethodDescriptor "([IIIII)V" = some ⟨[(.array .int), .int, .int, .int, .int], none⟩ := by decide +kernel
theorem ef_14 (m : MethodId) (x0 : Addr) (x1 : Int32) (x2 : Int32) (x3 : Int32) (x4 : Int32) : entryFrame m #[(.ref x0), (.int x1), (.int x2), (.int x3), (.int x4)] 5 = mkF m 0 #[.val (.ref x0), .val (.int x1), .val (.int x2), .val (.int x3), .val (.int x4)] [] := by first | (simp [entryFrame, mkF, argsToLocals, Value.category, maxLocals]; done) | rfl
def Q14 (Z : State) (a1 : Addr) (p1 : Int32) (p2 : Int32) (p3 : Int32) (p4 : Int32) (f : Int → Int32) (h0 : Heap) (n0 : Nat) (v : Option Value) (h : Heap) (L : List Loc) : Prop := v = none ∧ Fr n0 L ∧ Keep h0 h [a1] ∧ OwnA Z h a1 .int (256 : Int32) (fun i => .int ((own_put f p1 p2 p3 p4) i))
set_option maxRecDepth 65536 in
set_option maxHeartbeats 40000000 in
theorem rm14 (l : Launch) (Z : State) (a0 : Array Value) (hw : ∀ d ∈ tables_1, d.before a0 Z = true) (ws : List Jvm.Cond) (a1 : Addr) (p1 : Int32) (p2 : Int32) (p3 : Int32) (p4 : Int32) (f : Int → Int32) (h0 : Heap) (n0 : Nat) (Z0 : n0 ≤ h0.size) (g0 : n0 ≤ a1) (A0 : OwnA Z h0 a1 .int (256 : Int32) (fun i => .int (f i))) :
  MetFree l Mn7 (head1 (Jvm.Cond.code Mn7 method_2_code 5 none :: ws) Rm1) (fun a U => a = #[(.ref a1), (.int p1), (.int p2), (.int p3), (.int p4)] ∧ Z.Warmed39 U.vm ∧ U.heap = h0) (fun _ _ _ _ _ => True) (fun _ U oc U' => ∃ v L, oc = .returned v ∧ Q14 Z a1 p1 p2 p3 p4 f h0 n0 v U'.heap L ∧ FrameEnd U oc U' L Rm1.cells Rm1.slots) := by
 refine MetFree.of_bodySF pn_14 hisR ?_
 intro p e s m args below meth c s₁ Bd hml0 hP hK
 obtain ⟨rfl, hZ, hh⟩ := hP
 have hx := Bd.exec
 have hby := Bd.bytes
 have hlk := BodyLoose.notSynchronized Bd
 have hml : c.maxLocals = 5 := hml0
 have hown : s.vm.findClass "com/example/leafcode/leafcode/DecodingTableSymbolPinLaw" = some m.cls := findClass_of_methodNamed Bd.named
 have hnm := (name_of_methodNamed Bd.named Bd.method).1
 have X0 : Stand p l e Rm1 s m #[(.ref a1), (.int p1), (.int p2), (.int p3), (.int p4)] below meth c s₁ [] 0 0 := Stand.of_body Bd
 have e0 : s₁.heap = h0 := by rw [← hh, Bd.state]; rfl
 have N0 := Fr.nil n0
 show OwnWp p e below s Rm1.cells Rm1.slots (Q14 Z a1 p1 p2 p3 p4 f h0 n0) (s₁.setTop (entryFrame m #[(.ref a1), (.int p1), (.int p2), (.int p3), (.int p4)] 5))
 refine OwnWp.cast (ef_14 m a1 p1 p2 p3 p4) ?_
 show OwnWp p e below s _ _ _ (s₁.setTop (mkF m 0 #[sA a1, sI p1, sI p2, sI p3, sI p4] []))
 have K0 := Keep.refl h0 [a1]
 refine own_s s₁ (mkF m 2 #[sA a1, sI p1, sI p2, sI p3, sI p4] [(.int p3), (.int p2)]) (fun t k => ?_) ?_
 ·refine XS.iloadN X0.here hx rfl (D14 hby 0 rfl) rfl ?_
  exact XS.iloadN X0.here hx rfl (D14 hby 1 rfl) rfl k
 by_cases c2_39 : p2 < p3
 ·refine own_s s₁ (mkF m 5 #[sA a1, sI p1, sI p2, sI p3, sI p4] []) (fun t k => ?_) ?_
  ·exact XS.icmpNo X0.here hx rfl (D14 hby 2 rfl) rfl (XT.ii_ge_f c2_39) k
  refine own_s s₁ (mkF m 15 #[sA a1, sI p1, sI p2, sI p3, sI p4] [(.int p4), (.int ((p1 + p2) &&& (255 : Int32))), (.ref a1)]) (fun t k => ?_) ?_
  ·refine XS.aloadN X0.here hx rfl (D14 hby 3 rfl) rfl rfl ?_
   refine XS.iloadN X0.here hx rfl (D14 hby 4 rfl) rfl ?_
   refine XS.iloadN X0.here hx rfl (D14 hby 5 rfl) rfl ?_
   refine XS.iadd X0.here hx rfl (D14 hby 6 rfl) rfl ?_
   refine XT.sipushV X0.here hx rfl (255 : Int32) (D14 hby 7 rfl) rfl ?_
   refine XS.iand X0.here hx rfl (D14 hby 8 rfl) rfl ?_
   exact XS.iload X0.here hx rfl (D14 hby 9 rfl) rfl k
  obtain ⟨T40, h40, L40, X40, e40, N40, K40, F40, st40⟩ := OwnA.stI X0 hx hZ e0 N0 g0 A0 (own_m255 _).1 (own_m255 _).2 (g := (mkF m 15 #[sA a1, sI p1, sI p2, sI p3, sI p4] [(.int p4), (.int ((p1 + p2) &&& (255 : Int32))), (.ref a1)])) rfl rfl (D14 hby 10 rfl)
  refine OwnWp.step st40 ?_
  have Z40 : n0 ≤ h40.size := Nat.le_trans Z0 K40.1
  have F41 : OwnA Z h40 a1 .int (256 : Int32) (fun zi => .int ((ownUpd f ((p1 + p2) &&& (255 : Int32)).toInt p4) zi)) := F40.congr (fun zi _ _ => by exact ownUpd_int f _ _ zi)
  have K42 := Keep.trans K0 K40 (allS (Or.inl (List.mem_of_getElem? (i := 0) rfl)) all0)
  show OwnWp p e below s _ _ _ (T40.setTop (mkF m 16 #[sA a1, sI p1, sI p2, sI p3, sI p4] []))
  refine OwnWp.retV X40 hx hlk Bd.returns (D14 hby 11 rfl) (by decide) (by decide) ?_
  rw [e40]
  refine ⟨rfl, N40, K42, ?_⟩
  unfold own_put
  rw [if_pos c2_39]
  exact F41
 ·refine own_s s₁ (mkF m 16 #[sA a1, sI p1, sI p2, sI p3, sI p4] []) (fun t k => ?_) ?_
  ·exact XS.icmpYes X0.here hx rfl (pc0 := 2) (pc' := 16) rfl (D14 hby 2 rfl) rfl (XT.ii_ge_t c2_39) (by decide) (by decide) k
  refine OwnWp.retV X0 hx hlk Bd.returns (D14 hby 11 rfl) (by decide) (by decide) ?_
  rw [e0]
  refine ⟨rfl, N0, K0, ?_⟩
  unfold own_put
  rw [if_neg c2_39]
  exact A0
def dl17 : List (Nat × Instr × Nat) := [(0, .iload_n 2, 1), (1, .bipush 64, 2), (3, .ior, 1), (4, .aload_n 0, 1), (5, .getfield 15, 3), (8, .iload_n 1, 1), (9, .iaload, 1), (10, .bipush 8, 2), (12, .iload_n 3, 1), (13, .iconst 1, 1), (14, .iadd, 1), (15, .imul, 1), (16, .ishl, 1), (17, .ior, 1), (18, .ireturn, 1)]
theorem da17 : ∀ x ∈ dl17, decode prog_6_method_7_code x.1 = .ok x.2 := by decide +kernel
theorem D17 {c : Code} (h : c.code = prog_6_method_7_code) (i : Nat) {pc : Nat} {ins : Instr} {n : Nat} (e : dl17[i]? = some (pc, ins, n)) : decode c.code pc = .ok (ins, n) := by rw [h]; exact da17 (pc, ins, n) (List.mem_of_getElem? e)
theorem pn_17 : plainFor Mn8 = true := plainFor_of_name (by first | (simp [plainName, overriddenIn]; done) | decide +kernel)
theorem pd_17 : parseMethodDescriptor "(III)I" = some ⟨[.int, .int, .int], some .int⟩ := by decide +kernel
theorem ef_17 (m : MethodId) (x0 : Addr) (x1 : Int32) (x2 : Int32) (x3 : Int32) : entryFrame m #[(.ref x0), (.int x1), (.int x2), (.int x3)] 4 = mkF m 0 #[.val (.ref x0), .val (.int x1), .val (.int x2), .val (.int x3)] [] := by first | (simp [entryFrame, mkF, argsToLocals, Value.category, maxLocals]; done) | rfl
def Q17 (Z : State) (a1 : Addr) (p1 : Int32) (p2 : Int32) (p3 : Int32) (od : Addr) (o : Int → Int32) (h0 : Heap) (n0 : Nat) (v : Option Value) (h : Heap) (L : List Loc) : Prop := v = some (.int (own_code (o p1.toInt) p2 p3)) ∧ Fr n0 L ∧ h = h0
set_option maxRecDepth 65536 in
set_option maxHeartbeats 40000000 in
theorem rm17 (l : Launch) (Z : State) (a0 : Array Value) (hw : ∀ d ∈ tables_1, d.before a0 Z = true) (ws : List Jvm.Cond) (a1 : Addr) (p1 : Int32) (p2 : Int32) (p3 : Int32) (od : Addr) (o : Int → Int32) (h0 : Heap) (n0 : Nat) (Z0 : n0 ≤ h0.size) (F0 : Fld Z h0 a1 DTn "order" "[I" (.ref od)) (A0 : OwnA Z h0 od .int (256 : Int32) (fun i => .int (o i))) (h1 : 0 ≤ p1.toInt) (h2 : p1.toInt < 256) :
  MetFree l Mn8 (head1 (Jvm.Cond.code Mn8 prog_6_method_7_code 4 (some .int) :: ws) Rm1) (fun a U => a = #[(.ref a1), (.int p1), (.int p2), (.int p3)] ∧ Z.Warmed39 U.vm ∧ U.heap = h0) (fun _ _ _ _ _ => True) (fun _ U oc U' => ∃ v L, oc = .returned v ∧ Q17 Z a1 p1 p2 p3 od o h0 n0 v U'.heap L ∧ FrameEnd U oc U' L Rm1.cells Rm1.slots) := by
 refine MetFree.of_bodySF pn_17 hisR ?_
 intro p e s m args below meth c s₁ Bd hml0 hP hK
 obtain ⟨rfl, hZ, hh⟩ := hP
 have hx := Bd.exec
 have hby := Bd.bytes
 have hlk := BodyLoose.notSynchronized Bd
 have hml : c.maxLocals = 4 := hml0
 have hown : s.vm.findClass DTn = some m.cls := findClass_of_methodNamed Bd.named
 have hnm := (name_of_methodNamed Bd.named Bd.method).1
 have X0 : Stand p l e Rm1 s m #[(.ref a1), (.int p1), (.int p2), (.int p3)] below meth c s₁ [] 0 0 := Stand.of_body Bd
 have e0 : s₁.heap = h0 := by rw [← hh, Bd.state]; rfl
 have N0 := Fr.nil n0
 show OwnWp p e below s Rm1.cells Rm1.slots (Q17 Z a1 p1 p2 p3 od o h0 n0) (s₁.setTop (entryFrame m #[(.ref a1), (.int p1), (.int p2), (.int p3)] 4))
 refine OwnWp.cast (ef_17 m a1 p1 p2 p3) ?_
 refine own_s s₁ (mkF m 5 #[sA a1, sI p1, sI p2, sI p3] [(.ref a1), (.int (p2 ||| (64 : Int32)))]) (fun t k => ?_) ?_
 ·refine XS.iloadN X0.here hx rfl (D17 hby 0 rfl) rfl ?_
  refine XT.bipushV X0.here hx rfl (64 : Int32) (D17 hby 1 rfl) rfl ?_
  refine XT.ior X0.here hx rfl (D17 hby 2 rfl) rfl ?_
  exact XS.aloadN X0.here hx rfl (D17 hby 3 rfl) rfl rfl k
 obtain ⟨T43, X43, e43, st43⟩ := getF X0 hx hZ hown (host := "") (Or.inl (own_hw hw 13 rfl)) Via.refl e0 F0 (g := (mkF m 5 #[sA a1, sI p1, sI p2, sI p3] [(.ref a1), (.int (p2 ||| (64 : Int32)))])) rfl rfl (D17 hby 4 rfl)
 refine OwnWp.step st43 ?_
 refine own_s T43 (mkF m 18 #[sA a1, sI p1, sI p2, sI p3] [(.int ((p2 ||| (64 : Int32)) ||| ((o p1.toInt) <<< (((8 : Int32) * (p3 + (1 : Int32))) &&& 31))))]) (fun t k => ?_) ?_
 ·refine XS.iloadN X43.here hx rfl (D17 hby 5 rfl) rfl ?_
  refine OwnA.ldI X43 hx hZ e43 A0 h1 (by rw [show (256 : Int32).toInt = 256 from rfl]; exact h2) rfl rfl (D17 hby 6 rfl) ?_
  refine XT.bipushV X43.here hx rfl (8 : Int32) (D17 hby 7 rfl) rfl ?_
  refine XS.iloadN X43.here hx rfl (D17 hby 8 rfl) rfl ?_
  refine XT.iconstV X43.here hx rfl (1 : Int32) (D17 hby 9 rfl) rfl ?_
  refine XS.iadd X43.here hx rfl (D17 hby 10 rfl) rfl ?_
  refine XS.imul X43.here hx rfl (D17 hby 11 rfl) rfl ?_
  refine XT.ishl X43.here hx rfl (D17 hby 12 rfl) rfl ?_
  exact XT.ior X43.here hx rfl (D17 hby 13 rfl) rfl k
 refine OwnWp.retI X43 hx hlk Bd.returns (D17 hby 14 rfl) (by decide) (by decide) ?_
 exact ⟨rfl, N0, e43⟩
def dl4 : List (Nat × Instr × Nat) := [(0, .aload_n 0, 1), (1, .getfield 18, 3), (4, .astore_n 2, 1), (5, .aload_n 2, 1), (6, .iconst 0, 1), (7, .invokestatic 101, 3), (10, .aload_n 1, 1), (11, .arraylength, 1), (12, .iconst 4, 1), (13, .idiv, 1), (14, .istore_n 3, 1), (15, .iconst 0, 1), (16, .istore 4, 2), (18, .iload 4, 2), (20, .iload_n 3, 1), (21, .if_icmp .ge 68, 3), (24, .aload_n 2, 1), (25, .aload_n 1, 1), (26, .iload 4, 2), (28, .iaload, 1), (29, .dup2, 1), (30, .iaload, 1), (31, .iconst 1, 1), (32, .iadd, 1), (33, .iastore, 1), (34, .aload_n 2, 1), (35, .bipush 16, 2), (37, .aload_n 1, 1), (38, .iload_n 3, 1), (39, .iload 4, 2), (41, .iadd, 1), (42, .iaload, 1), (43, .iadd, 1), (44, .dup2, 1), (45, .iaload, 1), (46, .iconst 1, 1), (47, .iadd, 1), (48, .iastore, 1), (49, .aload_n 2, 1), (50, .bipush 32, 2), (52, .aload_n 1, 1), (53, .iconst 2, 1), (54, .iload_n 3, 1), (55, .imul, 1), (56, .iload 4, 2), (58, .iadd, 1), (59, .iaload, 1), (60, .iadd, 1), (61, .dup2, 1), (62, .iaload, 1), (63, .iconst 1, 1), (64, .iadd, 1), (65, .iastore, 1), (66, .aload_n 2, 1), (67, .bipush 48, 2), (69, .aload_n 1, 1), (70, .iconst 3, 1), (71, .iload_n 3, 1), (72, .imul, 1), (73, .iload 4, 2), (75, .iadd, 1), (76, .iaload, 1), (77, .iadd, 1), (78, .dup2, 1), (79, .iaload, 1), (80, .iconst 1, 1), (81, .iadd, 1), (82, .iastore, 1), (83, .iinc 4 1, 3), (86, .goto (-68), 3), (89, .iconst 4, 1), (90, .iload_n 3, 1), (91, .imul, 1), (92, .istore 4, 2), (94, .iload 4, 2), (96, .aload_n 1, 1), (97, .arraylength, 1), (98, .if_icmp .ge 22, 3), (120, .bipush 16, 2), (122, .newarray .int, 2), (124, .astore 4, 2), (126, .iconst 0, 1), (127, .istore 5, 2), (129, .iload 5, 2), (131, .bipush 16, 2), (133, .if_icmp .ge 42, 3), (136, .aload 4, 2), (138, .iload 5, 2), (140, .aload_n 2, 1), (141, .iload 5, 2), (143, .iaload, 1), (144, .aload_n 2, 1), (145, .bipush 16, 2), (147, .iload 5, 2), (149, .iadd, 1), (150, .iaload, 1), (151, .iadd, 1), (152, .aload_n 2, 1), (153, .bipush 32, 2), (155, .iload 5, 2), (157, .iadd, 1), (158, .iaload, 1), (159, .iadd, 1), (160, .aload_n 2, 1), (161, .bipush 48, 2), (163, .iload 5, 2), (165, .iadd, 1), (166, .iaload, 1), (167, .iadd, 1), (168, .iastore, 1), (169, .iinc 5 1, 3), (172, .goto (-43), 3), (175, .aload 4, 2), (177, .areturn, 1)]
theorem da4 : ∀ x ∈ dl4, decode prog_6_method_3_code x.1 = .ok x.2 := by decide +kernel
theorem D4 {c : Code} (h : c.code = prog_6_method_3_code) (i : Nat) {pc : Nat} {ins : Instr} {n : Nat} (e : dl4[i]? = some (pc, ins, n)) : decode c.code pc = .ok (ins, n) := by rw [h]; exact da4 (pc, ins, n) (List.mem_of_getElem? e)
theorem pn_4 : plainFor Mn9 = true := plainFor_of_name (by first | (simp [plainName, overriddenIn]; done) | decide +kernel)
theorem pd_4 : parseMethodDescriptor "([I)[I" = some ⟨[(.array .int)], some (.array .int)⟩ := by decide +kernel
theorem ef_4 (m : MethodId) (x0 : Addr) (x1 : Addr) : entryFrame m #[(.ref x0), (.ref x1)] 6 = mkF m 0 #[.val (.ref x0), .val (.ref x1), .unset, .unset, .unset, .unset] [] := by first | (simp [entryFrame, mkF, argsToLocals, Value.category, maxLocals]; done) | rfl
def Q4 (Z : State) (a1 : Addr) (a2 : Addr) (lc : Addr) (fc : Int → Int32) (Lf : Int → Int32) (h0 : Heap) (n0 : Nat) (v : Option Value) (h : Heap) (L : List Loc) : Prop := ∃ (b : Addr) (fb gc : Int → Int32), v = some (.ref b) ∧ Fr n0 L ∧ n0 ≤ b ∧ h0.size ≤ b ∧ Keep h0 h [lc] ∧ Exa Z h b "[I" ∧ OwnA Z h b .int (16 : Int32) (fun i => .int (fb i)) ∧ OwnA Z h lc .int (64 : Int32) (fun i => .int (gc i)) ∧ own_cnt (own_L Lf) fb ∧ own_lanes (own_L Lf) (fun _ => 64) gc
set_option maxRecDepth 65536 in
set_option maxHeartbeats 40000000 in
theorem rm4 (l : Launch) (Z : State) (a0 : Array Value) (hw : ∀ d ∈ tables_1, d.before a0 Z = true) (ws : List Jvm.Cond) (a1 : Addr) (a2 : Addr) (lc : Addr) (fc : Int → Int32) (Lf : Int → Int32) (h0 : Heap) (n0 : Nat) (Z0 : n0 ≤ h0.size) (g1 : n0 ≤ lc) (ne1 : a1 ≠ lc) (ne2 : a2 ≠ lc) (F0 : Fld Z h0 a1 DTn "laneCounts" "[I" (.ref lc)) (A0 : OwnA Z h0 lc .int (64 : Int32) (fun i => .int (fc i))) (A1 : OwnA Z h0 a2 .int (256 : Int32) (fun i => .int (Lf i))) (hL : ∀ i : Int, 0 ≤ i → i < 256 → 0 ≤ (Lf i).toInt ∧ (Lf i).toInt < 16) :
  MetFree l Mn9 (head1 (Jvm.Cond.code Mn9 prog_6_method_3_code 6 (some (.array .int)) :: ws) Rm4) (fun a U => a = #[(.ref a1), (.ref a2)] ∧ Z.Warmed39 U.vm ∧ U.heap = h0) (fun _ _ _ _ _ => True) (fun _ U oc U' => ∃ v L, oc = .returned v ∧ Q4 Z a1 a2 lc fc Lf h0 n0 v U'.heap L ∧ FrameEnd U oc U' L Rm4.cells Rm4.slots) := by
 refine MetFree.of_bodySF pn_4 hisR ?_
 intro p e s m args below meth c s₁ Bd hml0 hP hK
 obtain ⟨rfl, hZ, hh⟩ := hP
 have hx := Bd.exec
 have hby := Bd.bytes
 have hlk := BodyLoose.notSynchronized Bd
 have hml : c.maxLocals = 6 := hml0
 have hown : s.vm.findClass DTn = some m.cls := findClass_of_methodNamed Bd.named
 have hnm := (name_of_methodNamed Bd.named Bd.method).1
 have X0 : Stand p l e Rm4 s m #[(.ref a1), (.ref a2)] below meth c s₁ [] 0 0 := Stand.of_body Bd
 have e0 : s₁.heap = h0 := by rw [← hh, Bd.state]; rfl
 have N0 := Fr.nil n0
 show OwnWp p e below s Rm4.cells Rm4.slots (Q4 Z a1 a2 lc fc Lf h0 n0) (s₁.setTop (entryFrame m #[(.ref a1), (.ref a2)] 6))
 refine OwnWp.cast (ef_4 m a1 a2) ?_
 show OwnWp p e below s _ _ _ (s₁.setTop (mkF m 0 #[sA a1, sA a2, sU, sU, sU, sU] []))
 have K0 := Keep.refl h0 [lc]
 refine own_s s₁ (mkF m 1 #[sA a1, sA a2, sU, sU, sU, sU] [(.ref a1)]) (fun t k => ?_) ?_
 ·exact XS.aloadN X0.here hx rfl (D4 hby 0 rfl) rfl rfl k
 obtain ⟨T44, X44, e44, st44⟩ := getF X0 hx hZ hown (host := "") (Or.inl (own_hw hw 15 rfl)) Via.refl e0 F0 (g := (mkF m 1 #[sA a1, sA a2, sU, sU, sU, sU] [(.ref a1)])) rfl rfl (D4 hby 1 rfl)
 refine OwnWp.step st44 ?_
 refine own_s T44 (mkF m 7 #[sA a1, sA a2, sA lc, sU, sU, sU] [(.int (0 : Int32)), (.ref lc)]) (fun t k => ?_) ?_
 ·refine XS.astoreN X44.here hx rfl (D4 hby 2 rfl) rfl rfl (l' := #[sA a1, sA a2, sA lc, sU, sU, sU]) rfl ?_
  refine XS.aloadN X44.here hx rfl (D4 hby 3 rfl) rfl rfl ?_
  exact XT.iconstV X44.here hx rfl (0 : Int32) (D4 hby 4 rfl) rfl k
 obtain ⟨_, _, ⟨T45, L45, k45, n45⟩, -, X45, ⟨Lc45, hQ45, l45, y45, z45⟩, st45⟩ := Jvm.LawKit.callS X44 hx (y := Mn5) hown (mvT hZ (own_hw hw 32 rfl)) (mvT hZ (own_hw hw 33 rfl)) (mvT hZ (own_hw hw 34 rfl)) (mvT hZ (own_hw hw 35 rfl)) (by decide) (backOf (W := 0) (rm5 l Z a0 hw [] lc (0 : Int32) (64 : Int32) fc h0 n0 Z0 g1 A0) hZ (own_hw hw 35 rfl) (own_hw hw 34 rfl) (by decide) (by decide)) (g := (mkF m 7 #[sA a1, sA a2, sA lc, sU, sU, sU] [(.int (0 : Int32)), (.ref lc)])) rfl (by rw [hml]; rfl) (argsL := [(.ref lc), (.int (0 : Int32))]) (rest := []) (lenOf pd_5 rfl) rfl (by show 2 * 0 + _ ≤ _; exact Nat.le_of_eq rfl) (D4 hby 5 rfl) (fun _ _ => ⟨rfl, e44, (by dsimp only [Pt.cells]; decide), (by dsimp only [Pt.slots]; decide)⟩)
 dsimp only [Pt.U, Pt.locs, Pt.cells, Pt.slots] at X45 l45 y45 z45 st45 hQ45
 subst l45 y45 z45
 obtain ⟨rfl, Nc45, Kc45, aa45⟩ := hQ45
 have N45 := Fr.app N0 Nc45
 refine OwnWp.step st45 ?_
 have Z45 : n0 ≤ T45.heap.size := Nat.le_trans Z0 Kc45.1
 have f46 := Fld.keep F0 Kc45 (ninS ne1 nin0)
 have f48 := OwnA.keep A1 Kc45 (ninS ne2 nin0)
 have K49 := Keep.trans K0 Kc45 (allS (Or.inl (List.mem_of_getElem? (i := 0) rfl)) all0)
 show OwnWp p e below s _ _ _ (T45.setTop (mkF m 10 #[sA a1, sA a2, sA lc, sU, sU, sU] []))
 obtain ⟨w1, qw1⟩ : ∃ z : Int32, z = ((256 : Int32) / (4 : Int32)) := ⟨_, rfl⟩
 refine own_s T45 (mkF m 15 #[sA a1, sA a2, sA lc, sI w1, sU, sU] []) (fun t k => ?_) ?_
 ·refine XS.aloadN X45.here hx rfl (D4 hby 6 rfl) rfl rfl ?_
  refine OwnA.alen X45 hx hZ (rfl : T45.heap = T45.heap) f48 rfl rfl (D4 hby 7 rfl) ?_
  refine XT.iconstV X45.here hx rfl (4 : Int32) (D4 hby 8 rfl) rfl ?_
  refine XS.idiv X45.here hx rfl (D4 hby 9 rfl) rfl (by decide) ?_
  refine XS.istoreN X45.here hx rfl (D4 hby 10 rfl) rfl (l' := #[sA a1, sA a2, sA lc, sI ((256 : Int32) / (4 : Int32)), sU, sU]) rfl ?_
  rw [qw1] at k
  exact k
 obtain rfl : w1 = (64 : Int32) := by rw [qw1]; decide
 refine own_s T45 (mkF m 18 #[sA a1, sA a2, sA lc, sI (64 : Int32), sI (0 : Int32), sU] []) (fun t k => ?_) ?_
 ·refine XT.iconstV X45.here hx rfl (0 : Int32) (D4 hby 11 rfl) rfl ?_
  exact XS.istore X45.here hx rfl (D4 hby 12 rfl) rfl (l' := #[sA a1, sA a2, sA lc, sI (64 : Int32), sI (0 : Int32), sU]) rfl k
 obtain ⟨gz, hgz⟩ : ∃ z : Int → Int32, z = (own_rng fc 0 (64 : Int32).toInt (0 : Int32)) := ⟨_, rfl⟩
 have f50 : OwnA Z T45.heap lc .int (64 : Int32) (fun zi => .int (gz zi)) := by rw [hgz]; exact aa45
 have hloop : ∀ (k : Nat) (T51 : State) (h51 : Heap) (L51 : List Loc) (i : Int32) (mm : Nat) (g : Int → Int32) (X51 : Stand p l e Rm4 s m #[(.ref a1), (.ref a2)] below meth c T51 L51 0 0) (e51 : T51.heap = h51) (N51 : Fr n0 L51) (Z51 : n0 ≤ h51.size) (f52 : Fld Z h51 a1 DTn "laneCounts" "[I" (.ref lc)) (f53 : OwnA Z h51 a2 .int (256 : Int32) (fun zi => .int (Lf zi))) (f54 : OwnA Z h51 lc .int (64 : Int32) (fun zi => .int (g zi))) (K55 : Keep h0 h51 [lc]) (hi : i.toInt = (mm : Int)) (hk : mm + k = 64) (hg : own_lanes (own_L Lf) (fun _ => mm) g), OwnWp p e below s Rm4.cells Rm4.slots (Q4 Z a1 a2 lc fc Lf h0 n0) (T51.setTop (mkF m 18 #[sA a1, sA a2, sA lc, sI (64 : Int32), sI i, sU] [])) := by
  intro k
  induction k with
  | zero =>
   intro T51 h51 L51 i mm g X51 e51 N51 Z51 f52 f53 f54 K55 hi hk hg
   refine own_s T51 (mkF m 21 #[sA a1, sA a2, sA lc, sI (64 : Int32), sI i, sU] [(.int (64 : Int32)), (.int i)]) (fun t k => ?_) ?_
   ·refine XS.iload X51.here hx rfl (D4 hby 13 rfl) rfl ?_
    exact XS.iloadN X51.here hx rfl (D4 hby 14 rfl) rfl k
   by_cases c21_56 : i < (64 : Int32)
   ·refine own_s T51 (mkF m 24 #[sA a1, sA a2, sA lc, sI (64 : Int32), sI i, sU] []) (fun t k => ?_) ?_
    ·exact XS.icmpNo X51.here hx rfl (D4 hby 15 rfl) rfl (XT.ii_ge_f c21_56) k
    rw [Int32.lt_iff_toInt_lt, show (64 : Int32).toInt = 64 from rfl] at c21_56
    exact absurd hk (by omega)
   ·refine own_s T51 (mkF m 89 #[sA a1, sA a2, sA lc, sI (64 : Int32), sI i, sU] []) (fun t k => ?_) ?_
    ·exact XS.icmpYes X51.here hx rfl (pc0 := 21) (pc' := 89) rfl (D4 hby 15 rfl) rfl (XT.ii_ge_t c21_56) (by decide) (by decide) k
    rw [Int32.lt_iff_toInt_lt, show (64 : Int32).toInt = 64 from rfl] at c21_56
    obtain rfl : mm = 64 := by omega
    refine own_s T51 (mkF m 120 #[sA a1, sA a2, sA lc, sI (64 : Int32), sI (256 : Int32), sU] []) (fun t k => ?_) ?_
    ·refine XT.iconstV X51.here hx rfl (4 : Int32) (D4 hby 70 rfl) rfl ?_
     refine XS.iloadN X51.here hx rfl (D4 hby 71 rfl) rfl ?_
     refine XS.imul X51.here hx rfl (D4 hby 72 rfl) rfl ?_
     refine XS.istore X51.here hx rfl (D4 hby 73 rfl) rfl (l' := #[sA a1, sA a2, sA lc, sI (64 : Int32), sI (256 : Int32), sU]) rfl ?_
     refine XS.iload X51.here hx rfl (D4 hby 74 rfl) rfl ?_
     refine XS.aloadN X51.here hx rfl (D4 hby 75 rfl) rfl rfl ?_
     refine OwnA.alen X51 hx hZ e51 f53 rfl rfl (D4 hby 76 rfl) ?_
     exact XS.icmpYes X51.here hx rfl (pc0 := 98) (pc' := 120) rfl (D4 hby 77 rfl) rfl (XT.ii_ge_t (by decide)) (by decide) (by decide) k
    refine own_s T51 (mkF m 122 #[sA a1, sA a2, sA lc, sI (64 : Int32), sI (256 : Int32), sU] [(.int (16 : Int32))]) (fun t k => ?_) ?_
    ·exact XT.bipushV X51.here hx rfl (16 : Int32) (D4 hby 78 rfl) rfl k
    obtain ⟨T57, h57, cA57, X57, e57, E57, Ar57, Ex57, st57⟩ := newPE X51 hx hZ (aty := .int) (own_hw hw 1 rfl) e51 (g := (mkF m 122 #[sA a1, sA a2, sA lc, sI (64 : Int32), sI (256 : Int32), sU] [(.int (16 : Int32))])) rfl (D4 hby 79 rfl) rfl (by decide) (cap := 16) (by decide) (by decide) (by decide) (by decide) (ad := "[I") (by decide)
    obtain ⟨ad57, ga57⟩ : ∃ z, z = h51.size := ⟨_, rfl⟩
    rw [← ga57] at Ar57 st57 Ex57
    refine OwnWp.step st57 ?_
    have ne57_58 : a1 ≠ ad57 := Nat.ne_of_lt (by rw [ga57]; exact f52.lt)
    have ne57_59 : a2 ≠ ad57 := Nat.ne_of_lt (by rw [ga57]; exact f53.lt)
    have ne57_60 : lc ≠ ad57 := Nat.ne_of_lt (by rw [ga57]; exact f54.lt)
    have Z57 : n0 ≤ h57.size := Nat.le_trans Z51 E57.1
    have b57 : n0 ≤ ad57 := Nat.le_trans Z51 (Nat.le_of_eq ga57.symm)
    have bk57 : h0.size ≤ ad57 := by rw [ga57]; exact K55.1
    have K61 := Keep.ext K55 E57
    have f62 := Fld.ext E57 f52
    have f63 := OwnA.ext f53 E57
    have f64 := OwnA.ext f54 E57
    have F65 : OwnA Z h57 ad57 .int (16 : Int32) (fun _ => (.int (0 : Int32))) := OwnA.new Ar57 (by decide)
    refine own_s T57 (mkF m 129 #[sA a1, sA a2, sA lc, sI (64 : Int32), sA ad57, sI (0 : Int32)] []) (fun t k => ?_) ?_
    ·refine XS.astore X57.here hx rfl (D4 hby 80 rfl) rfl rfl (l' := #[sA a1, sA a2, sA lc, sI (64 : Int32), sA ad57, sU]) rfl ?_
     refine XT.iconstV X57.here hx rfl (0 : Int32) (D4 hby 81 rfl) rfl ?_
     exact XS.istore X57.here hx rfl (D4 hby 82 rfl) rfl (l' := #[sA a1, sA a2, sA lc, sI (64 : Int32), sA ad57, sI (0 : Int32)]) rfl k
    have hloop2 : ∀ (k : Nat) (T66 : State) (h66 : Heap) (L66 : List Loc) (j : Int32) (fb : Int → Int32) (X66 : Stand p l e Rm4 s m #[(.ref a1), (.ref a2)] below meth c T66 L66 (0 + 1) (0 + 16)) (e66 : T66.heap = h66) (N66 : Fr n0 L66) (Z66 : n0 ≤ h66.size) (f67 : Fld Z h66 a1 DTn "laneCounts" "[I" (.ref lc)) (f68 : OwnA Z h66 a2 .int (256 : Int32) (fun zi => .int (Lf zi))) (f69 : OwnA Z h66 lc .int (64 : Int32) (fun zi => .int (g zi))) (f70 : OwnA Z h66 ad57 .int (16 : Int32) (fun zi => .int (fb zi))) (f71 : Exa Z h66 ad57 "[I") (K72 : Keep h0 h66 [lc]) (hj : j.toInt + (k : Int) = 16) (hj0 : 0 ≤ j.toInt) (hb2 : ∀ t : Int, 0 ≤ t → t < j.toInt → (fb t).toInt = own_num (own_L Lf) 256 t), OwnWp p e below s Rm4.cells Rm4.slots (Q4 Z a1 a2 lc fc Lf h0 n0) (T66.setTop (mkF m 129 #[sA a1, sA a2, sA lc, sI (64 : Int32), sA ad57, sI j] [])) := by
     intro k
     induction k with
     | zero =>
      intro T66 h66 L66 j fb X66 e66 N66 Z66 f67 f68 f69 f70 f71 K72 hj hj0 hb2
      refine own_s T66 (mkF m 133 #[sA a1, sA a2, sA lc, sI (64 : Int32), sA ad57, sI j] [(.int (16 : Int32)), (.int j)]) (fun t k => ?_) ?_
      ·refine XS.iload X66.here hx rfl (D4 hby 83 rfl) rfl ?_
       exact XT.bipushV X66.here hx rfl (16 : Int32) (D4 hby 84 rfl) rfl k
      by_cases c133_73 : j < (16 : Int32)
      ·refine own_s T66 (mkF m 136 #[sA a1, sA a2, sA lc, sI (64 : Int32), sA ad57, sI j] []) (fun t k => ?_) ?_
       ·exact XS.icmpNo X66.here hx rfl (D4 hby 85 rfl) rfl (XT.ii_ge_f c133_73) k
       rw [Int32.lt_iff_toInt_lt, show (16 : Int32).toInt = 16 from rfl] at c133_73
       exact absurd hj (by omega)
      ·refine own_s T66 (mkF m 175 #[sA a1, sA a2, sA lc, sI (64 : Int32), sA ad57, sI j] []) (fun t k => ?_) ?_
       ·exact XS.icmpYes X66.here hx rfl (pc0 := 133) (pc' := 175) rfl (D4 hby 85 rfl) rfl (XT.ii_ge_t c133_73) (by decide) (by decide) k
       rw [Int32.lt_iff_toInt_lt, show (16 : Int32).toInt = 16 from rfl] at c133_73
       refine own_s T66 (mkF m 177 #[sA a1, sA a2, sA lc, sI (64 : Int32), sA ad57, sI j] [(.ref ad57)]) (fun t k => ?_) ?_
       ·exact XS.aload X66.here hx rfl (D4 hby 112 rfl) rfl rfl k
       refine OwnWp.retA X66 hx hlk Bd.returns rfl rfl (D4 hby 113 rfl) (by decide) (by decide) ?_
       rw [e66]
       exact ⟨ad57, fb, g, rfl, N66, b57, bk57, K72, f71, f70, f69, fun t t1 t2 => hb2 t t1 (by omega), hg⟩
     | succ k ih =>
      intro T66 h66 L66 j fb X66 e66 N66 Z66 f67 f68 f69 f70 f71 K72 hj hj0 hb2
      refine own_s T66 (mkF m 133 #[sA a1, sA a2, sA lc, sI (64 : Int32), sA ad57, sI j] [(.int (16 : Int32)), (.int j)]) (fun t k => ?_) ?_
      ·refine XS.iload X66.here hx rfl (D4 hby 83 rfl) rfl ?_
       exact XT.bipushV X66.here hx rfl (16 : Int32) (D4 hby 84 rfl) rfl k
      by_cases c133_74 : j < (16 : Int32)
      ·refine own_s T66 (mkF m 136 #[sA a1, sA a2, sA lc, sI (64 : Int32), sA ad57, sI j] []) (fun t k => ?_) ?_
       ·exact XS.icmpNo X66.here hx rfl (D4 hby 85 rfl) rfl (XT.ii_ge_f c133_74) k
       rw [Int32.lt_iff_toInt_lt, show (16 : Int32).toInt = 16 from rfl] at c133_74
       obtain ⟨w2, qw2⟩ : ∃ z : Int32, z = ((((g j.toInt) + (g ((16 : Int32) + j).toInt)) + (g ((32 : Int32) + j).toInt)) + (g ((48 : Int32) + j).toInt)) := ⟨_, rfl⟩
       refine own_s T66 (mkF m 168 #[sA a1, sA a2, sA lc, sI (64 : Int32), sA ad57, sI j] [(.int w2), (.int j), (.ref ad57)]) (fun t k => ?_) ?_
       ·refine XS.aload X66.here hx rfl (D4 hby 86 rfl) rfl rfl ?_
        refine XS.iload X66.here hx rfl (D4 hby 87 rfl) rfl ?_
        refine XS.aloadN X66.here hx rfl (D4 hby 88 rfl) rfl rfl ?_
        refine XS.iload X66.here hx rfl (D4 hby 89 rfl) rfl ?_
        refine OwnA.ldI X66 hx hZ e66 f69 hj0 (by rw [show (64 : Int32).toInt = 64 from rfl]; omega) rfl rfl (D4 hby 90 rfl) ?_
        refine XS.aloadN X66.here hx rfl (D4 hby 91 rfl) rfl rfl ?_
        refine XT.bipushV X66.here hx rfl (16 : Int32) (D4 hby 92 rfl) rfl ?_
        refine XS.iload X66.here hx rfl (D4 hby 93 rfl) rfl ?_
        refine XS.iadd X66.here hx rfl (D4 hby 94 rfl) rfl ?_
        refine OwnA.ldI X66 hx hZ e66 f69 (own_off 16 hj0 (by omega) (by decide)).1 (own_off 16 hj0 (by omega) (by decide)).2 rfl rfl (D4 hby 95 rfl) ?_
        refine XS.iadd X66.here hx rfl (D4 hby 96 rfl) rfl ?_
        refine XS.aloadN X66.here hx rfl (D4 hby 97 rfl) rfl rfl ?_
        refine XT.bipushV X66.here hx rfl (32 : Int32) (D4 hby 98 rfl) rfl ?_
        refine XS.iload X66.here hx rfl (D4 hby 99 rfl) rfl ?_
        show Steps p.tables e below (T66.setTop (mkF m 157 #[sA a1, sA a2, sA lc, sI (64 : Int32), sA ad57, sI j] [(.int j), (.int (32 : Int32)), (.ref lc), (.int ((g j.toInt) + (g ((16 : Int32) + j).toInt))), (.int j), (.ref ad57)])) _
        refine XS.iadd X66.here hx rfl (D4 hby 100 rfl) rfl ?_
        refine OwnA.ldI X66 hx hZ e66 f69 (own_off 32 hj0 (by omega) (by decide)).1 (own_off 32 hj0 (by omega) (by decide)).2 rfl rfl (D4 hby 101 rfl) ?_
        refine XS.iadd X66.here hx rfl (D4 hby 102 rfl) rfl ?_
        refine XS.aloadN X66.here hx rfl (D4 hby 103 rfl) rfl rfl ?_
        refine XT.bipushV X66.here hx rfl (48 : Int32) (D4 hby 104 rfl) rfl ?_
        refine XS.iload X66.here hx rfl (D4 hby 105 rfl) rfl ?_
        refine XS.iadd X66.here hx rfl (D4 hby 106 rfl) rfl ?_
        refine OwnA.ldI X66 hx hZ e66 f69 (own_off 48 hj0 (by omega) (by decide)).1 (own_off 48 hj0 (by omega) (by decide)).2 rfl rfl (D4 hby 107 rfl) ?_
        refine XS.iadd X66.here hx rfl (D4 hby 108 rfl) rfl ?_
        rw [qw2] at k
        exact k
       obtain ⟨T75, h75, L75, X75, e75, N75, K75, F75, st75⟩ := OwnA.stI X66 hx hZ e66 N66 b57 f70 hj0 (by rw [show (16 : Int32).toInt = 16 from rfl]; exact c133_74) (g := (mkF m 168 #[sA a1, sA a2, sA lc, sI (64 : Int32), sA ad57, sI j] [(.int w2), (.int j), (.ref ad57)])) rfl rfl (D4 hby 109 rfl)
       refine OwnWp.step st75 ?_
       have Z75 : n0 ≤ h75.size := Nat.le_trans Z66 K75.1
       have f76 := Fld.keep f67 K75 (ninS ne57_58 nin0)
       have f77 := OwnA.keep f68 K75 (ninS ne57_59 nin0)
       have f78 := OwnA.keep f69 K75 (ninS ne57_60 nin0)
       have f79 := Exa.keep f71 K75
       have F80 : OwnA Z h75 ad57 .int (16 : Int32) (fun zi => .int ((ownUpd fb j.toInt w2) zi)) := F75.congr (fun zi _ _ => by exact ownUpd_int fb _ _ zi)
       have K81 := Keep.trans K72 K75 (allS (Or.inr bk57) all0)
       show OwnWp p e below s _ _ _ (T75.setTop (mkF m 169 #[sA a1, sA a2, sA lc, sI (64 : Int32), sA ad57, sI j] []))
       obtain ⟨w3, qw3⟩ : ∃ z : Int32, z = (j + (1 : Int32)) := ⟨_, rfl⟩
       refine own_s T75 (mkF m 172 #[sA a1, sA a2, sA lc, sI (64 : Int32), sA ad57, sI w3] []) (fun t k => ?_) ?_
       ·refine XT.iincV X75.here hx rfl (1 : Int32) (D4 hby 110 rfl) rfl rfl (l' := #[sA a1, sA a2, sA lc, sI (64 : Int32), sA ad57, sI (j + (1 : Int32))]) rfl ?_
        rw [qw3] at k
        exact k
       refine own_s T75 (mkF m 129 #[sA a1, sA a2, sA lc, sI (64 : Int32), sA ad57, sI w3] []) (fun t k => ?_) ?_
       ·exact XS.goto X75.here hx rfl (pc0 := 172) (pc' := 129) rfl (D4 hby 111 rfl) (by decide) (by decide) k
       have hj2 : w3.toInt = j.toInt + 1 := by rw [qw3]; exact own_inc1 (by omega) (by omega)
       have hb3 := own_sum4 hg hj0 (by omega) hb2 hj2 qw2
       exact ih  T75 h75 _ w3 (ownUpd fb j.toInt w2) X75 e75 N75 Z75 f76 f77 f78 F80 f79 K81 (by omega) (by omega) hb3
      ·refine own_s T66 (mkF m 175 #[sA a1, sA a2, sA lc, sI (64 : Int32), sA ad57, sI j] []) (fun t k => ?_) ?_
       ·exact XS.icmpYes X66.here hx rfl (pc0 := 133) (pc' := 175) rfl (D4 hby 85 rfl) rfl (XT.ii_ge_t c133_74) (by decide) (by decide) k
       rw [Int32.lt_iff_toInt_lt, show (16 : Int32).toInt = 16 from rfl] at c133_74
       exact absurd hj (by omega)
    exact hloop2 16 T57 h57 _ (0 : Int32) (fun _ => (0 : Int32)) X57 e57 N51 Z57 f62 f63 f64 F65 Ex57 K61 (by decide) (by decide) (fun t t1 t2 => absurd t2 (by rw [show (0 : Int32).toInt = 0 from rfl]; omega))
  | succ k ih =>
   intro T51 h51 L51 i mm g X51 e51 N51 Z51 f52 f53 f54 K55 hi hk hg
   refine own_s T51 (mkF m 21 #[sA a1, sA a2, sA lc, sI (64 : Int32), sI i, sU] [(.int (64 : Int32)), (.int i)]) (fun t k => ?_) ?_
   ·refine XS.iload X51.here hx rfl (D4 hby 13 rfl) rfl ?_
    exact XS.iloadN X51.here hx rfl (D4 hby 14 rfl) rfl k
   by_cases c21_82 : i < (64 : Int32)
   ·refine own_s T51 (mkF m 24 #[sA a1, sA a2, sA lc, sI (64 : Int32), sI i, sU] []) (fun t k => ?_) ?_
    ·exact XS.icmpNo X51.here hx rfl (D4 hby 15 rfl) rfl (XT.ii_ge_f c21_82) k
    rw [Int32.lt_iff_toInt_lt, show (64 : Int32).toInt = 64 from rfl] at c21_82
    refine own_s T51 (mkF m 33 #[sA a1, sA a2, sA lc, sI (64 : Int32), sI i, sU] [(.int ((g (Lf i.toInt).toInt) + (1 : Int32))), (.int (Lf i.toInt)), (.ref lc)]) (fun t k => ?_) ?_
    ·refine XS.aloadN X51.here hx rfl (D4 hby 16 rfl) rfl rfl ?_
     refine XS.aloadN X51.here hx rfl (D4 hby 17 rfl) rfl rfl ?_
     refine XS.iload X51.here hx rfl (D4 hby 18 rfl) rfl ?_
     refine OwnA.ldI X51 hx hZ e51 f53 (own_ix0 hi hk).1 (own_ix0 hi hk).2 rfl rfl (D4 hby 19 rfl) ?_
     refine XT.dup2 X51.here hx rfl (D4 hby 20 rfl) rfl rfl rfl ?_
     refine OwnA.ldI X51 hx hZ e51 f54 (own_jx0 hL hi hk).1 (own_jx0 hL hi hk).2.1 rfl rfl (D4 hby 21 rfl) ?_
     refine XT.iconstV X51.here hx rfl (1 : Int32) (D4 hby 22 rfl) rfl ?_
     exact XS.iadd X51.here hx rfl (D4 hby 23 rfl) rfl k
    obtain ⟨T83, h83, L83, X83, e83, N83, K83, F83, st83⟩ := OwnA.stI X51 hx hZ e51 N51 g1 f54 (own_jx0 hL hi hk).1 (own_jx0 hL hi hk).2.1 (g := (mkF m 33 #[sA a1, sA a2, sA lc, sI (64 : Int32), sI i, sU] [(.int ((g (Lf i.toInt).toInt) + (1 : Int32))), (.int (Lf i.toInt)), (.ref lc)])) rfl rfl (D4 hby 24 rfl)
    refine OwnWp.step st83 ?_
    have Z83 : n0 ≤ h83.size := Nat.le_trans Z51 K83.1
    have f84 := Fld.keep f52 K83 (ninS ne1 nin0)
    have f85 := OwnA.keep f53 K83 (ninS ne2 nin0)
    have F86 : OwnA Z h83 lc .int (64 : Int32) (fun zi => .int ((ownUpd g (Lf i.toInt).toInt ((g (Lf i.toInt).toInt) + (1 : Int32))) zi)) := F83.congr (fun zi _ _ => by exact ownUpd_int g _ _ zi)
    have K87 := Keep.trans K55 K83 (allS (Or.inl (List.mem_of_getElem? (i := 0) rfl)) all0)
    show OwnWp p e below s _ _ _ (T83.setTop (mkF m 34 #[sA a1, sA a2, sA lc, sI (64 : Int32), sI i, sU] []))
    obtain ⟨gl0, hgl0⟩ : ∃ z : Int → Int32, z = (ownUpd g (Lf i.toInt).toInt ((g (Lf i.toInt).toInt) + (1 : Int32))) := ⟨_, rfl⟩
    have f88 : OwnA Z h83 lc .int (64 : Int32) (fun zi => .int (gl0 zi)) := by rw [hgl0]; exact F86
    refine own_s T83 (mkF m 48 #[sA a1, sA a2, sA lc, sI (64 : Int32), sI i, sU] [(.int ((gl0 ((16 : Int32) + (Lf ((64 : Int32) + i).toInt)).toInt) + (1 : Int32))), (.int ((16 : Int32) + (Lf ((64 : Int32) + i).toInt))), (.ref lc)]) (fun t k => ?_) ?_
    ·refine XS.aloadN X83.here hx rfl (D4 hby 25 rfl) rfl rfl ?_
     refine XT.bipushV X83.here hx rfl (16 : Int32) (D4 hby 26 rfl) rfl ?_
     refine XS.aloadN X83.here hx rfl (D4 hby 27 rfl) rfl rfl ?_
     refine XS.iloadN X83.here hx rfl (D4 hby 28 rfl) rfl ?_
     refine XS.iload X83.here hx rfl (D4 hby 29 rfl) rfl ?_
     refine XS.iadd X83.here hx rfl (D4 hby 30 rfl) rfl ?_
     refine OwnA.ldI X83 hx hZ e83 f85 (own_ix1 hi hk).1 (own_ix1 hi hk).2 rfl rfl (D4 hby 31 rfl) ?_
     refine XS.iadd X83.here hx rfl (D4 hby 32 rfl) rfl ?_
     refine XT.dup2 X83.here hx rfl (D4 hby 33 rfl) rfl rfl rfl ?_
     refine OwnA.ldI X83 hx hZ e83 f88 (own_jx1 hL hi hk).1 (own_jx1 hL hi hk).2.1 rfl rfl (D4 hby 34 rfl) ?_
     refine XT.iconstV X83.here hx rfl (1 : Int32) (D4 hby 35 rfl) rfl ?_
     exact XS.iadd X83.here hx rfl (D4 hby 36 rfl) rfl k
    obtain ⟨T89, h89, L89, X89, e89, N89, K89, F89, st89⟩ := OwnA.stI X83 hx hZ e83 N83 g1 f88 (own_jx1 hL hi hk).1 (own_jx1 hL hi hk).2.1 (g := (mkF m 48 #[sA a1, sA a2, sA lc, sI (64 : Int32), sI i, sU] [(.int ((gl0 ((16 : Int32) + (Lf ((64 : Int32) + i).toInt)).toInt) + (1 : Int32))), (.int ((16 : Int32) + (Lf ((64 : Int32) + i).toInt))), (.ref lc)])) rfl rfl (D4 hby 37 rfl)
    refine OwnWp.step st89 ?_
    have Z89 : n0 ≤ h89.size := Nat.le_trans Z83 K89.1
    have f90 := Fld.keep f84 K89 (ninS ne1 nin0)
    have f91 := OwnA.keep f85 K89 (ninS ne2 nin0)
    have F92 : OwnA Z h89 lc .int (64 : Int32) (fun zi => .int ((ownUpd gl0 ((16 : Int32) + (Lf ((64 : Int32) + i).toInt)).toInt ((gl0 ((16 : Int32) + (Lf ((64 : Int32) + i).toInt)).toInt) + (1 : Int32))) zi)) := F89.congr (fun zi _ _ => by exact ownUpd_int gl0 _ _ zi)
    have K93 := Keep.trans K87 K89 (allS (Or.inl (List.mem_of_getElem? (i := 0) rfl)) all0)
    show OwnWp p e below s _ _ _ (T89.setTop (mkF m 49 #[sA a1, sA a2, sA lc, sI (64 : Int32), sI i, sU] []))
    obtain ⟨gl1, hgl1⟩ : ∃ z : Int → Int32, z = (ownUpd gl0 ((16 : Int32) + (Lf ((64 : Int32) + i).toInt)).toInt ((gl0 ((16 : Int32) + (Lf ((64 : Int32) + i).toInt)).toInt) + (1 : Int32))) := ⟨_, rfl⟩
    have f94 : OwnA Z h89 lc .int (64 : Int32) (fun zi => .int (gl1 zi)) := by rw [hgl1]; exact F92
    refine own_s T89 (mkF m 65 #[sA a1, sA a2, sA lc, sI (64 : Int32), sI i, sU] [(.int ((gl1 ((32 : Int32) + (Lf ((128 : Int32) + i).toInt)).toInt) + (1 : Int32))), (.int ((32 : Int32) + (Lf ((128 : Int32) + i).toInt))), (.ref lc)]) (fun t k => ?_) ?_
    ·refine XS.aloadN X89.here hx rfl (D4 hby 38 rfl) rfl rfl ?_
     refine XT.bipushV X89.here hx rfl (32 : Int32) (D4 hby 39 rfl) rfl ?_
     refine XS.aloadN X89.here hx rfl (D4 hby 40 rfl) rfl rfl ?_
     refine XT.iconstV X89.here hx rfl (2 : Int32) (D4 hby 41 rfl) rfl ?_
     refine XS.iloadN X89.here hx rfl (D4 hby 42 rfl) rfl ?_
     refine XS.imul X89.here hx rfl (D4 hby 43 rfl) rfl ?_
     refine XS.iload X89.here hx rfl (D4 hby 44 rfl) rfl ?_
     refine XS.iadd X89.here hx rfl (D4 hby 45 rfl) rfl ?_
     refine OwnA.ldI X89 hx hZ e89 f91 (own_ix2 hi hk).1 (own_ix2 hi hk).2 rfl rfl (D4 hby 46 rfl) ?_
     refine XS.iadd X89.here hx rfl (D4 hby 47 rfl) rfl ?_
     refine XT.dup2 X89.here hx rfl (D4 hby 48 rfl) rfl rfl rfl ?_
     refine OwnA.ldI X89 hx hZ e89 f94 (own_jx2 hL hi hk).1 (own_jx2 hL hi hk).2.1 rfl rfl (D4 hby 49 rfl) ?_
     refine XT.iconstV X89.here hx rfl (1 : Int32) (D4 hby 50 rfl) rfl ?_
     refine XS.iadd X89.here hx rfl (D4 hby 51 rfl) rfl ?_
     show Steps p.tables e below (T89.setTop (mkF m 65 #[sA a1, sA a2, sA lc, sI (64 : Int32), sI i, sU] [(.int ((gl1 ((32 : Int32) + (Lf ((128 : Int32) + i).toInt)).toInt) + (1 : Int32))), (.int ((32 : Int32) + (Lf ((128 : Int32) + i).toInt))), (.ref lc)])) _
     exact k
    obtain ⟨T95, h95, L95, X95, e95, N95, K95, F95, st95⟩ := OwnA.stI X89 hx hZ e89 N89 g1 f94 (own_jx2 hL hi hk).1 (own_jx2 hL hi hk).2.1 (g := (mkF m 65 #[sA a1, sA a2, sA lc, sI (64 : Int32), sI i, sU] [(.int ((gl1 ((32 : Int32) + (Lf ((128 : Int32) + i).toInt)).toInt) + (1 : Int32))), (.int ((32 : Int32) + (Lf ((128 : Int32) + i).toInt))), (.ref lc)])) rfl rfl (D4 hby 52 rfl)
    refine OwnWp.step st95 ?_
    have Z95 : n0 ≤ h95.size := Nat.le_trans Z89 K95.1
    have f96 := Fld.keep f90 K95 (ninS ne1 nin0)
    have f97 := OwnA.keep f91 K95 (ninS ne2 nin0)
    have F98 : OwnA Z h95 lc .int (64 : Int32) (fun zi => .int ((ownUpd gl1 ((32 : Int32) + (Lf ((128 : Int32) + i).toInt)).toInt ((gl1 ((32 : Int32) + (Lf ((128 : Int32) + i).toInt)).toInt) + (1 : Int32))) zi)) := F95.congr (fun zi _ _ => by exact ownUpd_int gl1 _ _ zi)
    have K99 := Keep.trans K93 K95 (allS (Or.inl (List.mem_of_getElem? (i := 0) rfl)) all0)
    show OwnWp p e below s _ _ _ (T95.setTop (mkF m 66 #[sA a1, sA a2, sA lc, sI (64 : Int32), sI i, sU] []))
    obtain ⟨gl2, hgl2⟩ : ∃ z : Int → Int32, z = (ownUpd gl1 ((32 : Int32) + (Lf ((128 : Int32) + i).toInt)).toInt ((gl1 ((32 : Int32) + (Lf ((128 : Int32) + i).toInt)).toInt) + (1 : Int32))) := ⟨_, rfl⟩
    have f100 : OwnA Z h95 lc .int (64 : Int32) (fun zi => .int (gl2 zi)) := by rw [hgl2]; exact F98
    refine own_s T95 (mkF m 82 #[sA a1, sA a2, sA lc, sI (64 : Int32), sI i, sU] [(.int ((gl2 ((48 : Int32) + (Lf ((192 : Int32) + i).toInt)).toInt) + (1 : Int32))), (.int ((48 : Int32) + (Lf ((192 : Int32) + i).toInt))), (.ref lc)]) (fun t k => ?_) ?_
    ·refine XS.aloadN X95.here hx rfl (D4 hby 53 rfl) rfl rfl ?_
     refine XT.bipushV X95.here hx rfl (48 : Int32) (D4 hby 54 rfl) rfl ?_
     refine XS.aloadN X95.here hx rfl (D4 hby 55 rfl) rfl rfl ?_
     refine XT.iconstV X95.here hx rfl (3 : Int32) (D4 hby 56 rfl) rfl ?_
     refine XS.iloadN X95.here hx rfl (D4 hby 57 rfl) rfl ?_
     refine XS.imul X95.here hx rfl (D4 hby 58 rfl) rfl ?_
     refine XS.iload X95.here hx rfl (D4 hby 59 rfl) rfl ?_
     refine XS.iadd X95.here hx rfl (D4 hby 60 rfl) rfl ?_
     refine OwnA.ldI X95 hx hZ e95 f97 (own_ix3 hi hk).1 (own_ix3 hi hk).2 rfl rfl (D4 hby 61 rfl) ?_
     refine XS.iadd X95.here hx rfl (D4 hby 62 rfl) rfl ?_
     refine XT.dup2 X95.here hx rfl (D4 hby 63 rfl) rfl rfl rfl ?_
     refine OwnA.ldI X95 hx hZ e95 f100 (own_jx3 hL hi hk).1 (own_jx3 hL hi hk).2.1 rfl rfl (D4 hby 64 rfl) ?_
     refine XT.iconstV X95.here hx rfl (1 : Int32) (D4 hby 65 rfl) rfl ?_
     refine XS.iadd X95.here hx rfl (D4 hby 66 rfl) rfl ?_
     show Steps p.tables e below (T95.setTop (mkF m 82 #[sA a1, sA a2, sA lc, sI (64 : Int32), sI i, sU] [(.int ((gl2 ((48 : Int32) + (Lf ((192 : Int32) + i).toInt)).toInt) + (1 : Int32))), (.int ((48 : Int32) + (Lf ((192 : Int32) + i).toInt))), (.ref lc)])) _
     exact k
    obtain ⟨T101, h101, L101, X101, e101, N101, K101, F101, st101⟩ := OwnA.stI X95 hx hZ e95 N95 g1 f100 (own_jx3 hL hi hk).1 (own_jx3 hL hi hk).2.1 (g := (mkF m 82 #[sA a1, sA a2, sA lc, sI (64 : Int32), sI i, sU] [(.int ((gl2 ((48 : Int32) + (Lf ((192 : Int32) + i).toInt)).toInt) + (1 : Int32))), (.int ((48 : Int32) + (Lf ((192 : Int32) + i).toInt))), (.ref lc)])) rfl rfl (D4 hby 67 rfl)
    refine OwnWp.step st101 ?_
    have Z101 : n0 ≤ h101.size := Nat.le_trans Z95 K101.1
    have f102 := Fld.keep f96 K101 (ninS ne1 nin0)
    have f103 := OwnA.keep f97 K101 (ninS ne2 nin0)
    have F104 : OwnA Z h101 lc .int (64 : Int32) (fun zi => .int ((ownUpd gl2 ((48 : Int32) + (Lf ((192 : Int32) + i).toInt)).toInt ((gl2 ((48 : Int32) + (Lf ((192 : Int32) + i).toInt)).toInt) + (1 : Int32))) zi)) := F101.congr (fun zi _ _ => by exact ownUpd_int gl2 _ _ zi)
    have K105 := Keep.trans K99 K101 (allS (Or.inl (List.mem_of_getElem? (i := 0) rfl)) all0)
    show OwnWp p e below s _ _ _ (T101.setTop (mkF m 83 #[sA a1, sA a2, sA lc, sI (64 : Int32), sI i, sU] []))
    obtain ⟨gl3, hgl3⟩ : ∃ z : Int → Int32, z = (ownUpd gl2 ((48 : Int32) + (Lf ((192 : Int32) + i).toInt)).toInt ((gl2 ((48 : Int32) + (Lf ((192 : Int32) + i).toInt)).toInt) + (1 : Int32))) := ⟨_, rfl⟩
    have f106 : OwnA Z h101 lc .int (64 : Int32) (fun zi => .int (gl3 zi)) := by rw [hgl3]; exact F104
    obtain ⟨w2, qw2⟩ : ∃ z : Int32, z = (i + (1 : Int32)) := ⟨_, rfl⟩
    refine own_s T101 (mkF m 86 #[sA a1, sA a2, sA lc, sI (64 : Int32), sI w2, sU] []) (fun t k => ?_) ?_
    ·refine XT.iincV X101.here hx rfl (1 : Int32) (D4 hby 68 rfl) rfl rfl (l' := #[sA a1, sA a2, sA lc, sI (64 : Int32), sI (i + (1 : Int32)), sU]) rfl ?_
     rw [qw2] at k
     exact k
    refine own_s T101 (mkF m 18 #[sA a1, sA a2, sA lc, sI (64 : Int32), sI w2, sU] []) (fun t k => ?_) ?_
    ·exact XS.goto X101.here hx rfl (pc0 := 86) (pc' := 18) rfl (D4 hby 69 rfl) (by decide) (by decide) k
    have hfin := own_turn4 hL hi hk hg hgl0 hgl1 hgl2 hgl3
    have hi2 : w2.toInt = ((mm + 1 : Nat) : Int) := by rw [qw2]; exact own_inc hi (by omega)
    exact ih  T101 h101 _ w2 (mm + 1) gl3 X101 e101 N101 Z101 f102 f103 f106 K105 hi2 (by omega) hfin
   ·refine own_s T51 (mkF m 89 #[sA a1, sA a2, sA lc, sI (64 : Int32), sI i, sU] []) (fun t k => ?_) ?_
    ·exact XS.icmpYes X51.here hx rfl (pc0 := 21) (pc' := 89) rfl (D4 hby 15 rfl) rfl (XT.ii_ge_t c21_82) (by decide) (by decide) k
    rw [Int32.lt_iff_toInt_lt, show (64 : Int32).toInt = 64 from rfl] at c21_82
    exact absurd hk (by omega)
 exact hloop 64 T45 T45.heap _ (0 : Int32) 0 gz X45 (rfl : T45.heap = T45.heap) N45 Z45 f46 f48 f50 K49 (by decide) (by decide) (own_lanes0 _ (fun i h1 h2 => by rw [hgz]; exact own_rng_in h1 h2))
/-! the check of the counts -/
def own_left (C : Int → Int) : Nat → Int
  | 0 => 1
  | l + 1 => 2 * own_left C l - C ((l + 1 : Nat) : Int)
def own_kraft (C : Int → Int) (mx : Nat) : Prop := 0 < own_A C (mx + 1) → ¬ (own_A C (mx + 1) = 1 ∧ C 1 = 1) → (∀ l : Nat, l ≤ mx → 0 ≤ own_left C l ∧ own_left C l ≤ 32768) ∧ own_left C mx = 0
/-- the longest length that has a symbol -/
def own_mx (C : Int → Int) (mx : Nat) : Prop := mx ≤ 15 ∧ (∀ t : Int, (mx : Int) < t → t < 16 → C t = 0) ∧ (mx = 0 ∨ C (mx : Int) ≠ 0)
theorem own_A_nn {C : Int → Int} (h : ∀ t, 0 ≤ C t ∧ C t ≤ 256) : ∀ l : Nat, 0 ≤ own_A C l ∧ own_A C l ≤ 256 * l
  | 0 => ⟨Int.le_refl _, by show (0 : Int) ≤ _; omega⟩
  | l + 1 => by
    have a := own_A_nn h l
    have b := h (l : Int)
    have e : own_A C (l + 1) = own_A C l + (if l = 0 then 0 else C (l : Int)) := rfl
    rw [e]
    split <;> omega
theorem own_chk0 {C : Int → Int} {fb : Int → Int32} (hC : ∀ t : Int, 0 ≤ t → t < 16 → (fb t).toInt = C t) {mx : Nat} (hm : own_mx C mx) {i : Int32} {k : Nat} (hi : i.toInt = ((mx + (k + 1) : Nat) : Int)) (h15 : i.toInt ≤ 15) : fb i.toInt = 0 := by
  have a := hC i.toInt (by omega) (by omega)
  rw [hm.2.1 i.toInt (by omega) (by omega)] at a
  exact Int32.toInt_inj.mp (by rw [a]; rfl)
theorem own_chkn {C : Int → Int} {fb : Int → Int32} (hC : ∀ t : Int, 0 ≤ t → t < 16 → (fb t).toInt = C t) {mx : Nat} (hm : own_mx C mx) {i : Int32} (hi : i.toInt = (mx : Int)) (h0 : (0 : Int32) < i) : fb i.toInt ≠ 0 := by
  intro q
  rw [Int32.lt_iff_toInt_lt, show (0 : Int32).toInt = 0 from rfl] at h0
  have a := hC i.toInt (by omega) (by have := hm.1; omega)
  rw [q, show (0 : Int32).toInt = 0 from rfl, hi] at a
  rcases hm.2.2 with e | e
  · omega
  · exact e a.symm
theorem own_dec1 {i i2 : Int32} (q : i2 = i + ((-1) : Int32)) (h0 : -1000 ≤ i.toInt) (h1 : i.toInt < 100000) : i2.toInt = i.toInt - 1 := by
  have a := own_add (x := i) (y := (-1)) (by rw [show ((-1) : Int32).toInt = -1 from rfl]; omega) (by rw [show ((-1) : Int32).toInt = -1 from rfl]; omega)
  rw [q, a, show ((-1) : Int32).toInt = -1 from rfl]; omega
theorem own_cdturn {C : Int → Int} (h : ∀ t, 0 ≤ C t ∧ C t ≤ 256) {fb : Int → Int32} (hC : ∀ t : Int, 0 ≤ t → t < 16 → (fb t).toInt = C t) {cd j cd2 : Int32} {jn : Nat} (h1 : 1 ≤ jn) (h2 : jn ≤ 15) (hj : j.toInt = (jn : Int)) (hcd : cd.toInt = own_A C jn) (q : cd2 = cd + fb j.toInt) : cd2.toInt = own_A C (jn + 1) := by
  have a := hC j.toInt (by omega) (by omega)
  have b := own_A_nn h jn
  have d := h j.toInt
  rw [q, own_add (by omega) (by omega), own_A_succ C h1, hcd, a, hj]
theorem own_lfturn {C : Int → Int} (h : ∀ t, 0 ≤ C t ∧ C t ≤ 256) {fb : Int → Int32} (hC : ∀ t : Int, 0 ≤ t → t < 16 → (fb t).toInt = C t) {lf lf2 : Int64} {j : Int32} {jm : Nat} (h2 : jm + 1 ≤ 15) (hj : j.toInt = ((jm + 1 : Nat) : Int)) (hl : lf.toInt = own_left C jm) (hb : 0 ≤ own_left C jm ∧ own_left C jm ≤ 32768) (q : lf2 = ((2 : Int64) * lf) - (fb j.toInt).toInt64) : lf2.toInt = own_left C (jm + 1) := by
  have a := hC j.toInt (by omega) (by omega)
  have d := h j.toInt
  have e1 := c_lmul 2 lf
  rw [show (2 : Int64).toInt = 2 from rfl] at e1
  have e2 := rng64 (2 * lf)
  have e3 := c_lsub (2 * lf) (fb j.toInt).toInt64
  have e4 := rng64 (2 * lf - (fb j.toInt).toInt64)
  rw [c_i2l, a] at e3
  have e5 : own_left C (jm + 1) = 2 * own_left C jm - C ((jm + 1 : Nat) : Int) := rfl
  rw [q, e5, ← hj]
  omega
theorem own_notlone {C : Int → Int} {fb : Int → Int32} (hC : ∀ t : Int, 0 ≤ t → t < 16 → (fb t).toInt = C t) {cd lo : Int32} {mx : Nat} (hcd : cd.toInt = own_A C (mx + 1)) (q : lo = (if cd = (1 : Int32) then (if (fb (1 : Int32).toInt) = (1 : Int32) then (1 : Int32) else (0 : Int32)) else (0 : Int32))) (h : lo = (0 : Int32)) : ¬ (own_A C (mx + 1) = 1 ∧ C 1 = 1) := by
  rintro ⟨a, b⟩
  have e1 : cd = 1 := Int32.toInt_inj.mp (by rw [hcd, a]; rfl)
  have e2 : fb (1 : Int32).toInt = 1 := Int32.toInt_inj.mp (by rw [show (1 : Int32).toInt = 1 from rfl, hC 1 (by decide) (by decide), b])
  rw [if_pos e1, if_pos e2, h] at q
  exact absurd q (by decide)

def dl6 : List (Nat × Instr × Nat) := [(0, .aload_n 0, 1), (1, .arraylength, 1), (2, .iconst 1, 1), (3, .isub, 1), (4, .istore_n 1, 1), (5, .iload_n 1, 1), (6, .ifCond .le 15, 3), (9, .aload_n 0, 1), (10, .iload_n 1, 1), (11, .iaload, 1), (12, .ifCond .ne 9, 3), (15, .iinc 1 (-1), 3), (18, .goto (-13), 3), (21, .iconst 0, 1), (22, .istore_n 2, 1), (23, .iconst 1, 1), (24, .istore_n 3, 1), (25, .iload_n 3, 1), (26, .iload_n 1, 1), (27, .if_icmp .gt 15, 3), (30, .iload_n 2, 1), (31, .aload_n 0, 1), (32, .iload_n 3, 1), (33, .iaload, 1), (34, .iadd, 1), (35, .istore_n 2, 1), (36, .iinc 3 1, 3), (39, .goto (-14), 3), (42, .iload_n 2, 1), (43, .iconst 1, 1), (44, .if_icmp .ne 14, 3), (47, .aload_n 0, 1), (48, .iconst 1, 1), (49, .iaload, 1), (50, .iconst 1, 1), (51, .if_icmp .ne 7, 3), (54, .iconst 1, 1), (55, .goto 4, 3), (58, .iconst 0, 1), (59, .istore_n 3, 1), (60, .iload_n 2, 1), (61, .ifCond .le 73, 3), (64, .iload_n 3, 1), (65, .ifCond .ne 69, 3), (68, .lconst 1, 1), (69, .lstore 4, 2), (71, .iconst 1, 1), (72, .istore 6, 2), (74, .iload 6, 2), (76, .iload_n 1, 1), (77, .if_icmp .gt 40, 3), (80, .ldc2_w 45, 3), (83, .lload 4, 2), (85, .lmul, 1), (86, .aload_n 0, 1), (87, .iload 6, 2), (89, .iaload, 1), (90, .i2l, 1), (91, .lsub, 1), (92, .lstore 4, 2), (94, .lload 4, 2), (96, .lconst 0, 1), (97, .lcmp, 1), (98, .ifCond .ge 13, 3), (111, .iinc 6 1, 3), (114, .goto (-40), 3), (117, .lload 4, 2), (119, .lconst 0, 1), (120, .lcmp, 1), (121, .ifCond .eq 13, 3), (134, .aload_n 0, 1), (135, .iload_n 1, 1), (136, .iconst 1, 1), (137, .iadd, 1), (138, .invokestatic 136, 3), (141, .areturn, 1)]
theorem da6 : ∀ x ∈ dl6, decode prog_12_method_12_code x.1 = .ok x.2 := by decide +kernel
theorem D6 {c : Code} (h : c.code = prog_12_method_12_code) (i : Nat) {pc : Nat} {ins : Instr} {n : Nat} (e : dl6[i]? = some (pc, ins, n)) : decode c.code pc = .ok (ins, n) := by rw [h]; exact da6 (pc, ins, n) (List.mem_of_getElem? e)
theorem pn_6 : plainFor Mn10 = true := plainFor_of_name (by first | (simp [plainName, overriddenIn]; done) | decide +kernel)
theorem pd_6 : parseMethodDescriptor "([I)[I" = some ⟨[(.array .int)], some (.array .int)⟩ := by decide +kernel
theorem ef_6 (m : MethodId) (x0 : Addr) : entryFrame m #[(.ref x0)] 7 = mkF m 0 #[.val (.ref x0), .unset, .unset, .unset, .unset, .unset, .unset] [] := by first | (simp [entryFrame, mkF, argsToLocals, Value.category, maxLocals]; done) | rfl
def Q6 (Z : State) (a1 : Addr) (fb : Int → Int32) (C : Int → Int) (mx : Nat) (h0 : Heap) (n0 : Nat) (v : Option Value) (h : Heap) (L : List Loc) : Prop := ∃ (b : Addr) (nn : Int32), v = some (.ref b) ∧ Fr n0 L ∧ n0 ≤ b ∧ h0.size ≤ b ∧ Keep h0 h [] ∧ nn.toInt = ((mx + 1 : Nat) : Int) ∧ OwnA Z h b .int nn (fun i => .int (fb i))
set_option maxRecDepth 65536 in
set_option maxHeartbeats 40000000 in
theorem rm6 (l : Launch) (Z : State) (a0 : Array Value) (hw : ∀ d ∈ tables_1, d.before a0 Z = true) (ws : List Jvm.Cond) (a1 : Addr) (fb : Int → Int32) (C : Int → Int) (mx : Nat) (h0 : Heap) (n0 : Nat) (Z0 : n0 ≤ h0.size) (A0 : OwnA Z h0 a1 .int (16 : Int32) (fun i => .int (fb i))) (E0 : Exa Z h0 a1 "[I") (hC : ∀ t : Int, 0 ≤ t → t < 16 → (fb t).toInt = C t) (hC0 : ∀ t, 0 ≤ C t ∧ C t ≤ 256) (hm : own_mx C mx) (hkr : own_kraft C mx) :
  MetFree l Mn10 (head1 (Jvm.Cond.code Mn10 prog_12_method_12_code 7 (some (.array .int)) :: ws) Rm5) (fun a U => a = #[(.ref a1)] ∧ Z.Warmed39 U.vm ∧ U.heap = h0) (fun _ _ _ _ _ => True) (fun _ U oc U' => ∃ v L, oc = .returned v ∧ Q6 Z a1 fb C mx h0 n0 v U'.heap L ∧ FrameEnd U oc U' L Rm5.cells Rm5.slots) := by
 refine MetFree.of_bodySF pn_6 hisR ?_
 intro p e s m args below meth c s₁ Bd hml0 hP hK
 obtain ⟨rfl, hZ, hh⟩ := hP
 have hx := Bd.exec
 have hby := Bd.bytes
 have hlk := BodyLoose.notSynchronized Bd
 have hml : c.maxLocals = 7 := hml0
 have hown : s.vm.findClass "com/example/leafcode/leafcode/PrefixCode" = some m.cls := findClass_of_methodNamed Bd.named
 have hnm := (name_of_methodNamed Bd.named Bd.method).1
 have X0 : Stand p l e Rm5 s m #[(.ref a1)] below meth c s₁ [] 0 0 := Stand.of_body Bd
 have e0 : s₁.heap = h0 := by rw [← hh, Bd.state]; rfl
 have N0 := Fr.nil n0
 show OwnWp p e below s Rm5.cells Rm5.slots (Q6 Z a1 fb C mx h0 n0) (s₁.setTop (entryFrame m #[(.ref a1)] 7))
 refine OwnWp.cast (ef_6 m a1) ?_
 show OwnWp p e below s _ _ _ (s₁.setTop (mkF m 0 #[sA a1, sU, sU, sU, sU, sU, sU] []))
 have K0 := Keep.refl h0 []
 have hm15 := hm.1
 refine own_s s₁ (mkF m 5 #[sA a1, sI (15 : Int32), sU, sU, sU, sU, sU] []) (fun t k => ?_) ?_
 ·refine XS.aloadN X0.here hx rfl (D6 hby 0 rfl) rfl rfl ?_
  refine OwnA.alen X0 hx hZ e0 A0 rfl rfl (D6 hby 1 rfl) ?_
  refine XT.iconstV X0.here hx rfl (1 : Int32) (D6 hby 2 rfl) rfl ?_
  refine XS.isub X0.here hx rfl (D6 hby 3 rfl) rfl ?_
  exact XS.istoreN X0.here hx rfl (D6 hby 4 rfl) rfl (l' := #[sA a1, sI (15 : Int32), sU, sU, sU, sU, sU]) rfl k
 have J21 : ∀ (T107 : State) (h107 : Heap) (L107 : List Loc) (i : Int32) (X107 : Stand p l e Rm5 s m #[(.ref a1)] below meth c T107 L107 0 0) (e107 : T107.heap = h107) (N107 : Fr n0 L107) (Z107 : n0 ≤ h107.size) (f108 : OwnA Z h107 a1 .int (16 : Int32) (fun zi => .int (fb zi))) (f109 : Exa Z h107 a1 "[I") (K110 : Keep h0 h107 []) (hi : i.toInt = (mx : Int)), OwnWp p e below s Rm5.cells Rm5.slots (Q6 Z a1 fb C mx h0 n0) (T107.setTop (mkF m 21 #[sA a1, sI i, sU, sU, sU, sU, sU] [])) := by
  intro T107 h107 L107 i X107 e107 N107 Z107 f108 f109 K110 hi
  refine own_s T107 (mkF m 25 #[sA a1, sI i, sI (0 : Int32), sI (1 : Int32), sU, sU, sU] []) (fun t k => ?_) ?_
  ·refine XT.iconstV X107.here hx rfl (0 : Int32) (D6 hby 13 rfl) rfl ?_
   refine XS.istoreN X107.here hx rfl (D6 hby 14 rfl) rfl (l' := #[sA a1, sI i, sI (0 : Int32), sU, sU, sU, sU]) rfl ?_
   refine XT.iconstV X107.here hx rfl (1 : Int32) (D6 hby 15 rfl) rfl ?_
   exact XS.istoreN X107.here hx rfl (D6 hby 16 rfl) rfl (l' := #[sA a1, sI i, sI (0 : Int32), sI (1 : Int32), sU, sU, sU]) rfl k
  have hl2 : ∀ (k : Nat) (T111 : State) (h111 : Heap) (L111 : List Loc) (cd : Int32) (j : Int32) (jn : Nat) (X111 : Stand p l e Rm5 s m #[(.ref a1)] below meth c T111 L111 0 0) (e111 : T111.heap = h111) (N111 : Fr n0 L111) (Z111 : n0 ≤ h111.size) (f112 : OwnA Z h111 a1 .int (16 : Int32) (fun zi => .int (fb zi))) (f113 : Exa Z h111 a1 "[I") (K114 : Keep h0 h111 []) (hj : j.toInt = (jn : Int)) (hj1 : 1 ≤ jn) (hk : jn + k = mx + 1) (hcd : cd.toInt = own_A C jn), OwnWp p e below s Rm5.cells Rm5.slots (Q6 Z a1 fb C mx h0 n0) (T111.setTop (mkF m 25 #[sA a1, sI i, sI cd, sI j, sU, sU, sU] [])) := by
   intro k
   induction k with
   | zero =>
    intro T111 h111 L111 cd j jn X111 e111 N111 Z111 f112 f113 K114 hj hj1 hk hcd
    refine own_s T111 (mkF m 27 #[sA a1, sI i, sI cd, sI j, sU, sU, sU] [(.int i), (.int j)]) (fun t k => ?_) ?_
    ·refine XS.iloadN X111.here hx rfl (D6 hby 17 rfl) rfl ?_
     exact XS.iloadN X111.here hx rfl (D6 hby 18 rfl) rfl k
    by_cases c27_115 : i < j
    ·refine own_s T111 (mkF m 42 #[sA a1, sI i, sI cd, sI j, sU, sU, sU] []) (fun t k => ?_) ?_
     ·exact XS.icmpYes X111.here hx rfl (pc0 := 27) (pc' := 42) rfl (D6 hby 19 rfl) rfl (XT.ii_gt_t c27_115) (by decide) (by decide) k
     rw [Int32.lt_iff_toInt_lt] at c27_115
     obtain rfl : jn = mx + 1 := by omega
     refine own_s T111 (mkF m 44 #[sA a1, sI i, sI cd, sI j, sU, sU, sU] [(.int (1 : Int32)), (.int cd)]) (fun t k => ?_) ?_
     ·refine XS.iloadN X111.here hx rfl (D6 hby 28 rfl) rfl ?_
      exact XT.iconstV X111.here hx rfl (1 : Int32) (D6 hby 29 rfl) rfl k
     obtain ⟨w1, qw1⟩ : ∃ z : Int32, z = (if cd = (1 : Int32) then (if (fb (1 : Int32).toInt) = (1 : Int32) then (1 : Int32) else (0 : Int32)) else (0 : Int32)) := ⟨_, rfl⟩
     refine own_s T111 (mkF m 59 #[sA a1, sI i, sI cd, sI j, sU, sU, sU] [(.int w1)]) (fun t k => ?_) ?_
     ·by_cases c44_116 : cd = (1 : Int32)
      ·refine XS.icmpNo X111.here hx rfl (D6 hby 30 rfl) rfl (XT.ii_ne_f c44_116) ?_
       refine XS.aloadN X111.here hx rfl (D6 hby 31 rfl) rfl rfl ?_
       refine XT.iconstV X111.here hx rfl (1 : Int32) (D6 hby 32 rfl) rfl ?_
       refine OwnA.ldI X111 hx hZ e111 f112 (by decide) (by decide) rfl rfl (D6 hby 33 rfl) ?_
       refine XT.iconstV X111.here hx rfl (1 : Int32) (D6 hby 34 rfl) rfl ?_
       by_cases c51_117 : (fb (1 : Int32).toInt) = (1 : Int32)
       ·refine XS.icmpNo X111.here hx rfl (D6 hby 35 rfl) rfl (XT.ii_ne_f c51_117) ?_
        refine XT.iconstV X111.here hx rfl (1 : Int32) (D6 hby 36 rfl) rfl ?_
        refine XS.goto X111.here hx rfl (pc0 := 55) (pc' := 59) rfl (D6 hby 37 rfl) (by decide) (by decide) ?_
        rw [show w1 = (1 : Int32) from by rw [qw1, if_pos c44_116, if_pos c51_117]] at k
        exact k
       ·refine XS.icmpYes X111.here hx rfl (pc0 := 51) (pc' := 58) rfl (D6 hby 35 rfl) rfl (XT.ii_ne_t c51_117) (by decide) (by decide) ?_
        refine XT.iconstV X111.here hx rfl (0 : Int32) (D6 hby 38 rfl) rfl ?_
        rw [show w1 = (0 : Int32) from by rw [qw1, if_pos c44_116, if_neg c51_117]] at k
        exact k
      ·refine XS.icmpYes X111.here hx rfl (pc0 := 44) (pc' := 58) rfl (D6 hby 30 rfl) rfl (XT.ii_ne_t c44_116) (by decide) (by decide) ?_
       refine XT.iconstV X111.here hx rfl (0 : Int32) (D6 hby 38 rfl) rfl ?_
       rw [show w1 = (0 : Int32) from by rw [qw1, if_neg c44_116]] at k
       exact k
     refine own_s T111 (mkF m 61 #[sA a1, sI i, sI cd, sI w1, sU, sU, sU] [(.int cd)]) (fun t k => ?_) ?_
     ·refine XS.istoreN X111.here hx rfl (D6 hby 39 rfl) rfl (l' := #[sA a1, sI i, sI cd, sI w1, sU, sU, sU]) rfl ?_
      exact XS.iloadN X111.here hx rfl (D6 hby 40 rfl) rfl k
     by_cases c61_118 : (0 : Int32) < cd
     ·refine own_s T111 (mkF m 64 #[sA a1, sI i, sI cd, sI w1, sU, sU, sU] []) (fun t k => ?_) ?_
      ·exact XS.ifNo X111.here hx rfl (D6 hby 41 rfl) rfl (XT.i0_le_f c61_118) k
      refine own_s T111 (mkF m 65 #[sA a1, sI i, sI cd, sI w1, sU, sU, sU] [(.int w1)]) (fun t k => ?_) ?_
      ·exact XS.iloadN X111.here hx rfl (D6 hby 42 rfl) rfl k
      by_cases c65_119 : w1 = (0 : Int32)
      ·refine own_s T111 (mkF m 68 #[sA a1, sI i, sI cd, sI w1, sU, sU, sU] []) (fun t k => ?_) ?_
       ·exact XS.ifNo X111.here hx rfl (D6 hby 43 rfl) rfl (XT.i0_ne_f c65_119) k
       rw [Int32.lt_iff_toInt_lt, show (0 : Int32).toInt = 0 from rfl] at c61_118
       obtain ⟨hk1, hk2⟩ := hkr (by omega) (own_notlone hC hcd qw1 c65_119)
       refine own_s T111 (mkF m 74 #[sA a1, sI i, sI cd, sI w1, sJ (1 : Int64), sS, sI (1 : Int32)] []) (fun t k => ?_) ?_
       ·refine XT.lconstV X111.here hx rfl (1 : Int64) (D6 hby 44 rfl) rfl ?_
        refine XT.lstore X111.here hx rfl (D6 hby 45 rfl) rfl (l' := #[sA a1, sI i, sI cd, sI w1, sJ (1 : Int64), sS, sU]) rfl ?_
        refine XT.iconstV X111.here hx rfl (1 : Int32) (D6 hby 46 rfl) rfl ?_
        exact XS.istore X111.here hx rfl (D6 hby 47 rfl) rfl (l' := #[sA a1, sI i, sI cd, sI w1, sJ (1 : Int64), sS, sI (1 : Int32)]) rfl k
       have hl3 : ∀ (k : Nat) (T120 : State) (h120 : Heap) (L120 : List Loc) (lf : Int64) (j3 : Int32) (jm : Nat) (X120 : Stand p l e Rm5 s m #[(.ref a1)] below meth c T120 L120 0 0) (e120 : T120.heap = h120) (N120 : Fr n0 L120) (Z120 : n0 ≤ h120.size) (f121 : OwnA Z h120 a1 .int (16 : Int32) (fun zi => .int (fb zi))) (f122 : Exa Z h120 a1 "[I") (K123 : Keep h0 h120 []) (hj3 : j3.toInt = ((jm + 1 : Nat) : Int)) (hk3 : jm + k = mx) (hlf : lf.toInt = own_left C jm), OwnWp p e below s Rm5.cells Rm5.slots (Q6 Z a1 fb C mx h0 n0) (T120.setTop (mkF m 74 #[sA a1, sI i, sI cd, sI w1, sJ lf, sS, sI j3] [])) := by
        intro k
        induction k with
        | zero =>
         intro T120 h120 L120 lf j3 jm X120 e120 N120 Z120 f121 f122 K123 hj3 hk3 hlf
         refine own_s T120 (mkF m 77 #[sA a1, sI i, sI cd, sI w1, sJ lf, sS, sI j3] [(.int i), (.int j3)]) (fun t k => ?_) ?_
         ·refine XS.iload X120.here hx rfl (D6 hby 48 rfl) rfl ?_
          exact XS.iloadN X120.here hx rfl (D6 hby 49 rfl) rfl k
         by_cases c77_124 : i < j3
         ·refine own_s T120 (mkF m 117 #[sA a1, sI i, sI cd, sI w1, sJ lf, sS, sI j3] []) (fun t k => ?_) ?_
          ·exact XS.icmpYes X120.here hx rfl (pc0 := 77) (pc' := 117) rfl (D6 hby 50 rfl) rfl (XT.ii_gt_t c77_124) (by decide) (by decide) k
          rw [Int32.lt_iff_toInt_lt] at c77_124
          have t6 : lf = (0 : Int64) := Int64.toInt_inj.mp (by rw [hlf, show jm = mx from by omega, hk2]; rfl)
          refine own_s T120 (mkF m 134 #[sA a1, sI i, sI cd, sI w1, sJ lf, sS, sI j3] []) (fun t k => ?_) ?_
          ·refine XT.lload X120.here hx rfl (D6 hby 66 rfl) rfl ?_
           refine XT.lconstV X120.here hx rfl (0 : Int64) (D6 hby 67 rfl) rfl ?_
           refine XT.lcmp X120.here hx rfl (D6 hby 68 rfl) rfl ?_
           exact XS.ifYes X120.here hx rfl (pc0 := 121) (pc' := 134) rfl (D6 hby 69 rfl) rfl (XT.ll_eq_t t6) (by decide) (by decide) k
          refine own_s T120 (mkF m 138 #[sA a1, sI i, sI cd, sI w1, sJ lf, sS, sI j3] [(.int (i + (1 : Int32))), (.ref a1)]) (fun t k => ?_) ?_
          ·refine XS.aloadN X120.here hx rfl (D6 hby 70 rfl) rfl rfl ?_
           refine XS.iloadN X120.here hx rfl (D6 hby 71 rfl) rfl ?_
           refine XT.iconstV X120.here hx rfl (1 : Int32) (D6 hby 72 rfl) rfl ?_
           exact XS.iadd X120.here hx rfl (D6 hby 73 rfl) rfl k
          obtain ⟨w2, qw2⟩ : ∃ z : Int32, z = (i + (1 : Int32)) := ⟨_, rfl⟩
          rw [← qw2]
          show OwnWp p e below s _ _ _ (T120.setTop (mkF m 138 #[sA a1, sI i, sI cd, sI w1, sJ lf, sS, sI j3] [(.int w2), (.ref a1)]))
          have hnn : w2.toInt = ((mx + 1 : Nat) : Int) := by rw [qw2]; exact own_inc hi (by omega)
          obtain ⟨_, _, ⟨T125, L125, k125, n125⟩, -, X125, ⟨Lc125, hQ125, l125, y125, z125⟩, st125⟩ := Jvm.LawKit.callS X120 hx (y := Mn6) hown (mvT hZ (own_hw hw 40 rfl)) (mvT hZ (own_hw hw 41 rfl)) (mvT hZ (own_hw hw 34 rfl)) (mvT hZ (own_hw hw 42 rfl)) (by decide) (backOf (W := 0) (rm7 l Z a0 hw [] a1 w2 fb h120 n0 Z120 f121 f122 (by omega) (by omega)) hZ (own_hw hw 42 rfl) (own_hw hw 34 rfl) (by decide) (by decide)) (g := (mkF m 138 #[sA a1, sI i, sI cd, sI w1, sJ lf, sS, sI j3] [(.int w2), (.ref a1)])) rfl (by rw [hml]; rfl) (argsL := [(.ref a1), (.int w2)]) (rest := []) (lenOf pd_7 rfl) rfl (by show 2 * 0 + _ ≤ _; exact Nat.le_of_eq rfl) (D6 hby 74 rfl) (fun _ _ => ⟨rfl, e120, (by dsimp only [Pt.cells]; decide), (by dsimp only [Pt.slots]; decide)⟩)
          dsimp only [Pt.U, Pt.locs, Pt.cells, Pt.slots] at X125 l125 y125 z125 st125 hQ125
          subst l125 y125 z125
          obtain ⟨b125, rfl, Nc125, lb125, sb125, Kc125, ab125⟩ := hQ125
          have N125 := Fr.app N120 Nc125
          refine OwnWp.step st125 ?_
          have Z125 : n0 ≤ T125.heap.size := Nat.le_trans Z120 Kc125.1
          have f126 := OwnA.keep f121 Kc125 nin0
          have f127 := Exa.keep f122 Kc125
          have K128 := Keep.trans K123 Kc125 all0
          show OwnWp p e below s _ _ _ (T125.setTop (mkF m 141 #[sA a1, sI i, sI cd, sI w1, sJ lf, sS, sI j3] [(.ref b125)]))
          refine OwnWp.retA X125 hx hlk Bd.returns rfl rfl (D6 hby 75 rfl) (by decide) (by decide) ?_
          exact ⟨b125, w2, rfl, N125, lb125, Nat.le_trans K123.1 sb125, K128, hnn, ab125⟩
         ·refine own_s T120 (mkF m 80 #[sA a1, sI i, sI cd, sI w1, sJ lf, sS, sI j3] []) (fun t k => ?_) ?_
          ·exact XS.icmpNo X120.here hx rfl (D6 hby 50 rfl) rfl (XT.ii_gt_f c77_124) k
          rw [Int32.lt_iff_toInt_lt] at c77_124
          exact absurd c77_124 (by omega)
        | succ k ih =>
         intro T120 h120 L120 lf j3 jm X120 e120 N120 Z120 f121 f122 K123 hj3 hk3 hlf
         refine own_s T120 (mkF m 77 #[sA a1, sI i, sI cd, sI w1, sJ lf, sS, sI j3] [(.int i), (.int j3)]) (fun t k => ?_) ?_
         ·refine XS.iload X120.here hx rfl (D6 hby 48 rfl) rfl ?_
          exact XS.iloadN X120.here hx rfl (D6 hby 49 rfl) rfl k
         by_cases c77_129 : i < j3
         ·refine own_s T120 (mkF m 117 #[sA a1, sI i, sI cd, sI w1, sJ lf, sS, sI j3] []) (fun t k => ?_) ?_
          ·exact XS.icmpYes X120.here hx rfl (pc0 := 77) (pc' := 117) rfl (D6 hby 50 rfl) rfl (XT.ii_gt_t c77_129) (by decide) (by decide) k
          rw [Int32.lt_iff_toInt_lt] at c77_129
          exact absurd c77_129 (by omega)
         ·refine own_s T120 (mkF m 80 #[sA a1, sI i, sI cd, sI w1, sJ lf, sS, sI j3] []) (fun t k => ?_) ?_
          ·exact XS.icmpNo X120.here hx rfl (D6 hby 50 rfl) rfl (XT.ii_gt_f c77_129) k
          rw [Int32.lt_iff_toInt_lt] at c77_129
          obtain ⟨w2, qw2⟩ : ∃ z : Int64, z = (((2 : Int64) * lf) - (fb j3.toInt).toInt64) := ⟨_, rfl⟩
          refine own_s T120 (mkF m 94 #[sA a1, sI i, sI cd, sI w1, sJ w2, sS, sI j3] []) (fun t k => ?_) ?_
          ·refine X120.ldc2J hx hown (mvT hZ (own_hw hw 86 rfl)) rfl (D6 hby 51 rfl) ?_
           refine XT.lload X120.here hx rfl (D6 hby 52 rfl) rfl ?_
           refine XT.lmul X120.here hx rfl (D6 hby 53 rfl) rfl ?_
           refine XS.aloadN X120.here hx rfl (D6 hby 54 rfl) rfl rfl ?_
           refine XS.iload X120.here hx rfl (D6 hby 55 rfl) rfl ?_
           refine OwnA.ldI X120 hx hZ e120 f121 (by omega) (by rw [show (16 : Int32).toInt = 16 from rfl]; omega) rfl rfl (D6 hby 56 rfl) ?_
           refine XT.i2l X120.here hx rfl (D6 hby 57 rfl) rfl ?_
           refine XT.lsub X120.here hx rfl (D6 hby 58 rfl) rfl ?_
           refine XT.lstore X120.here hx rfl (D6 hby 59 rfl) rfl (l' := #[sA a1, sI i, sI cd, sI w1, sJ (((2 : Int64) * lf) - (fb j3.toInt).toInt64), sS, sI j3]) rfl ?_
           rw [qw2] at k
           exact k
          have t3 := own_lfturn hC0 hC (by omega) hj3 hlf (hk1 jm (by omega)) qw2
          have t4 : ¬ w2 < (0 : Int64) := by rw [Int64.lt_iff_toInt_lt, t3]; have := hk1 (jm + 1) (by omega); rw [show (0 : Int64).toInt = 0 from rfl]; omega
          obtain ⟨w3, qw3⟩ : ∃ z : Int32, z = (j3 + (1 : Int32)) := ⟨_, rfl⟩
          refine own_s T120 (mkF m 114 #[sA a1, sI i, sI cd, sI w1, sJ w2, sS, sI w3] []) (fun t k => ?_) ?_
          ·refine XT.lload X120.here hx rfl (D6 hby 60 rfl) rfl ?_
           refine XT.lconstV X120.here hx rfl (0 : Int64) (D6 hby 61 rfl) rfl ?_
           refine XT.lcmp X120.here hx rfl (D6 hby 62 rfl) rfl ?_
           refine XS.ifYes X120.here hx rfl (pc0 := 98) (pc' := 111) rfl (D6 hby 63 rfl) rfl (XT.ll_ge_t t4) (by decide) (by decide) ?_
           refine XT.iincV X120.here hx rfl (1 : Int32) (D6 hby 64 rfl) rfl rfl (l' := #[sA a1, sI i, sI cd, sI w1, sJ w2, sS, sI (j3 + (1 : Int32))]) rfl ?_
           rw [qw3] at k
           exact k
          refine own_s T120 (mkF m 74 #[sA a1, sI i, sI cd, sI w1, sJ w2, sS, sI w3] []) (fun t k => ?_) ?_
          ·exact XS.goto X120.here hx rfl (pc0 := 114) (pc' := 74) rfl (D6 hby 65 rfl) (by decide) (by decide) k
          have t5 : w3.toInt = ((jm + 1 + 1 : Nat) : Int) := by rw [qw3]; exact own_inc hj3 (by omega)
          exact ih  T120 h120 _ w2 w3 (jm + 1) X120 e120 N120 Z120 f121 f122 K123 t5 (by omega) t3
       exact hl3 mx T111 h111 _ (1 : Int64) (1 : Int32) 0 X111 e111 N111 Z111 f112 f113 K114 (by decide) (by omega) (by rfl)
      ·refine own_s T111 (mkF m 134 #[sA a1, sI i, sI cd, sI w1, sU, sU, sU] []) (fun t k => ?_) ?_
       ·exact XS.ifYes X111.here hx rfl (pc0 := 65) (pc' := 134) rfl (D6 hby 43 rfl) rfl (XT.i0_ne_t c65_119) (by decide) (by decide) k
       refine own_s T111 (mkF m 138 #[sA a1, sI i, sI cd, sI w1, sU, sU, sU] [(.int (i + (1 : Int32))), (.ref a1)]) (fun t k => ?_) ?_
       ·refine XS.aloadN X111.here hx rfl (D6 hby 70 rfl) rfl rfl ?_
        refine XS.iloadN X111.here hx rfl (D6 hby 71 rfl) rfl ?_
        refine XT.iconstV X111.here hx rfl (1 : Int32) (D6 hby 72 rfl) rfl ?_
        exact XS.iadd X111.here hx rfl (D6 hby 73 rfl) rfl k
       obtain ⟨w2, qw2⟩ : ∃ z : Int32, z = (i + (1 : Int32)) := ⟨_, rfl⟩
       rw [← qw2]
       show OwnWp p e below s _ _ _ (T111.setTop (mkF m 138 #[sA a1, sI i, sI cd, sI w1, sU, sU, sU] [(.int w2), (.ref a1)]))
       have hnn : w2.toInt = ((mx + 1 : Nat) : Int) := by rw [qw2]; exact own_inc hi (by omega)
       obtain ⟨_, _, ⟨T130, L130, k130, n130⟩, -, X130, ⟨Lc130, hQ130, l130, y130, z130⟩, st130⟩ := Jvm.LawKit.callS X111 hx (y := Mn6) hown (mvT hZ (own_hw hw 40 rfl)) (mvT hZ (own_hw hw 41 rfl)) (mvT hZ (own_hw hw 34 rfl)) (mvT hZ (own_hw hw 42 rfl)) (by decide) (backOf (W := 0) (rm7 l Z a0 hw [] a1 w2 fb h111 n0 Z111 f112 f113 (by omega) (by omega)) hZ (own_hw hw 42 rfl) (own_hw hw 34 rfl) (by decide) (by decide)) (g := (mkF m 138 #[sA a1, sI i, sI cd, sI w1, sU, sU, sU] [(.int w2), (.ref a1)])) rfl (by rw [hml]; rfl) (argsL := [(.ref a1), (.int w2)]) (rest := []) (lenOf pd_7 rfl) rfl (by show 2 * 0 + _ ≤ _; exact Nat.le_of_eq rfl) (D6 hby 74 rfl) (fun _ _ => ⟨rfl, e111, (by dsimp only [Pt.cells]; decide), (by dsimp only [Pt.slots]; decide)⟩)
       dsimp only [Pt.U, Pt.locs, Pt.cells, Pt.slots] at X130 l130 y130 z130 st130 hQ130
       subst l130 y130 z130
       obtain ⟨b130, rfl, Nc130, lb130, sb130, Kc130, ab130⟩ := hQ130
       have N130 := Fr.app N111 Nc130
       refine OwnWp.step st130 ?_
       have Z130 : n0 ≤ T130.heap.size := Nat.le_trans Z111 Kc130.1
       have f131 := OwnA.keep f112 Kc130 nin0
       have f132 := Exa.keep f113 Kc130
       have K133 := Keep.trans K114 Kc130 all0
       show OwnWp p e below s _ _ _ (T130.setTop (mkF m 141 #[sA a1, sI i, sI cd, sI w1, sU, sU, sU] [(.ref b130)]))
       refine OwnWp.retA X130 hx hlk Bd.returns rfl rfl (D6 hby 75 rfl) (by decide) (by decide) ?_
       exact ⟨b130, w2, rfl, N130, lb130, Nat.le_trans K114.1 sb130, K133, hnn, ab130⟩
     ·refine own_s T111 (mkF m 134 #[sA a1, sI i, sI cd, sI w1, sU, sU, sU] []) (fun t k => ?_) ?_
      ·exact XS.ifYes X111.here hx rfl (pc0 := 61) (pc' := 134) rfl (D6 hby 41 rfl) rfl (XT.i0_le_t c61_118) (by decide) (by decide) k
      refine own_s T111 (mkF m 138 #[sA a1, sI i, sI cd, sI w1, sU, sU, sU] [(.int (i + (1 : Int32))), (.ref a1)]) (fun t k => ?_) ?_
      ·refine XS.aloadN X111.here hx rfl (D6 hby 70 rfl) rfl rfl ?_
       refine XS.iloadN X111.here hx rfl (D6 hby 71 rfl) rfl ?_
       refine XT.iconstV X111.here hx rfl (1 : Int32) (D6 hby 72 rfl) rfl ?_
       exact XS.iadd X111.here hx rfl (D6 hby 73 rfl) rfl k
      obtain ⟨w2, qw2⟩ : ∃ z : Int32, z = (i + (1 : Int32)) := ⟨_, rfl⟩
      rw [← qw2]
      show OwnWp p e below s _ _ _ (T111.setTop (mkF m 138 #[sA a1, sI i, sI cd, sI w1, sU, sU, sU] [(.int w2), (.ref a1)]))
      have hnn : w2.toInt = ((mx + 1 : Nat) : Int) := by rw [qw2]; exact own_inc hi (by omega)
      obtain ⟨_, _, ⟨T134, L134, k134, n134⟩, -, X134, ⟨Lc134, hQ134, l134, y134, z134⟩, st134⟩ := Jvm.LawKit.callS X111 hx (y := Mn6) hown (mvT hZ (own_hw hw 40 rfl)) (mvT hZ (own_hw hw 41 rfl)) (mvT hZ (own_hw hw 34 rfl)) (mvT hZ (own_hw hw 42 rfl)) (by decide) (backOf (W := 0) (rm7 l Z a0 hw [] a1 w2 fb h111 n0 Z111 f112 f113 (by omega) (by omega)) hZ (own_hw hw 42 rfl) (own_hw hw 34 rfl) (by decide) (by decide)) (g := (mkF m 138 #[sA a1, sI i, sI cd, sI w1, sU, sU, sU] [(.int w2), (.ref a1)])) rfl (by rw [hml]; rfl) (argsL := [(.ref a1), (.int w2)]) (rest := []) (lenOf pd_7 rfl) rfl (by show 2 * 0 + _ ≤ _; exact Nat.le_of_eq rfl) (D6 hby 74 rfl) (fun _ _ => ⟨rfl, e111, (by dsimp only [Pt.cells]; decide), (by dsimp only [Pt.slots]; decide)⟩)
      dsimp only [Pt.U, Pt.locs, Pt.cells, Pt.slots] at X134 l134 y134 z134 st134 hQ134
      subst l134 y134 z134
      obtain ⟨b134, rfl, Nc134, lb134, sb134, Kc134, ab134⟩ := hQ134
      have N134 := Fr.app N111 Nc134
      refine OwnWp.step st134 ?_
      have Z134 : n0 ≤ T134.heap.size := Nat.le_trans Z111 Kc134.1
      have f135 := OwnA.keep f112 Kc134 nin0
      have f136 := Exa.keep f113 Kc134
      have K137 := Keep.trans K114 Kc134 all0
      show OwnWp p e below s _ _ _ (T134.setTop (mkF m 141 #[sA a1, sI i, sI cd, sI w1, sU, sU, sU] [(.ref b134)]))
      refine OwnWp.retA X134 hx hlk Bd.returns rfl rfl (D6 hby 75 rfl) (by decide) (by decide) ?_
      exact ⟨b134, w2, rfl, N134, lb134, Nat.le_trans K114.1 sb134, K137, hnn, ab134⟩
    ·refine own_s T111 (mkF m 30 #[sA a1, sI i, sI cd, sI j, sU, sU, sU] []) (fun t k => ?_) ?_
     ·exact XS.icmpNo X111.here hx rfl (D6 hby 19 rfl) rfl (XT.ii_gt_f c27_115) k
     rw [Int32.lt_iff_toInt_lt] at c27_115
     exact absurd c27_115 (by omega)
   | succ k ih =>
    intro T111 h111 L111 cd j jn X111 e111 N111 Z111 f112 f113 K114 hj hj1 hk hcd
    refine own_s T111 (mkF m 27 #[sA a1, sI i, sI cd, sI j, sU, sU, sU] [(.int i), (.int j)]) (fun t k => ?_) ?_
    ·refine XS.iloadN X111.here hx rfl (D6 hby 17 rfl) rfl ?_
     exact XS.iloadN X111.here hx rfl (D6 hby 18 rfl) rfl k
    by_cases c27_138 : i < j
    ·refine own_s T111 (mkF m 42 #[sA a1, sI i, sI cd, sI j, sU, sU, sU] []) (fun t k => ?_) ?_
     ·exact XS.icmpYes X111.here hx rfl (pc0 := 27) (pc' := 42) rfl (D6 hby 19 rfl) rfl (XT.ii_gt_t c27_138) (by decide) (by decide) k
     rw [Int32.lt_iff_toInt_lt] at c27_138
     exact absurd c27_138 (by omega)
    ·refine own_s T111 (mkF m 30 #[sA a1, sI i, sI cd, sI j, sU, sU, sU] []) (fun t k => ?_) ?_
     ·exact XS.icmpNo X111.here hx rfl (D6 hby 19 rfl) rfl (XT.ii_gt_f c27_138) k
     rw [Int32.lt_iff_toInt_lt] at c27_138
     obtain ⟨w1, qw1⟩ : ∃ z : Int32, z = (cd + (fb j.toInt)) := ⟨_, rfl⟩
     refine own_s T111 (mkF m 36 #[sA a1, sI i, sI w1, sI j, sU, sU, sU] []) (fun t k => ?_) ?_
     ·refine XS.iloadN X111.here hx rfl (D6 hby 20 rfl) rfl ?_
      refine XS.aloadN X111.here hx rfl (D6 hby 21 rfl) rfl rfl ?_
      refine XS.iloadN X111.here hx rfl (D6 hby 22 rfl) rfl ?_
      refine OwnA.ldI X111 hx hZ e111 f112 (by omega) (by rw [show (16 : Int32).toInt = 16 from rfl]; omega) rfl rfl (D6 hby 23 rfl) ?_
      refine XS.iadd X111.here hx rfl (D6 hby 24 rfl) rfl ?_
      refine XS.istoreN X111.here hx rfl (D6 hby 25 rfl) rfl (l' := #[sA a1, sI i, sI (cd + (fb j.toInt)), sI j, sU, sU, sU]) rfl ?_
      rw [qw1] at k
      exact k
     obtain ⟨w2, qw2⟩ : ∃ z : Int32, z = (j + (1 : Int32)) := ⟨_, rfl⟩
     refine own_s T111 (mkF m 39 #[sA a1, sI i, sI w1, sI w2, sU, sU, sU] []) (fun t k => ?_) ?_
     ·refine XT.iincV X111.here hx rfl (1 : Int32) (D6 hby 26 rfl) rfl rfl (l' := #[sA a1, sI i, sI w1, sI (j + (1 : Int32)), sU, sU, sU]) rfl ?_
      rw [qw2] at k
      exact k
     refine own_s T111 (mkF m 25 #[sA a1, sI i, sI w1, sI w2, sU, sU, sU] []) (fun t k => ?_) ?_
     ·exact XS.goto X111.here hx rfl (pc0 := 39) (pc' := 25) rfl (D6 hby 27 rfl) (by decide) (by decide) k
     have t1 : w2.toInt = ((jn + 1 : Nat) : Int) := by rw [qw2]; exact own_inc hj (by omega)
     have t2 := own_cdturn hC0 hC hj1 (by omega) hj hcd qw1
     exact ih  T111 h111 _ w1 w2 (jn + 1) X111 e111 N111 Z111 f112 f113 K114 t1 (by omega) (by omega) t2
  exact hl2 mx T107 h107 _ (0 : Int32) (1 : Int32) 1 X107 e107 N107 Z107 f108 f109 K110 (by decide) (by decide) (by omega) (by rfl)
 have hl1 : ∀ (k : Nat) (T139 : State) (h139 : Heap) (L139 : List Loc) (i : Int32) (X139 : Stand p l e Rm5 s m #[(.ref a1)] below meth c T139 L139 0 0) (e139 : T139.heap = h139) (N139 : Fr n0 L139) (Z139 : n0 ≤ h139.size) (f140 : OwnA Z h139 a1 .int (16 : Int32) (fun zi => .int (fb zi))) (f141 : Exa Z h139 a1 "[I") (K142 : Keep h0 h139 []) (hi : i.toInt = ((mx + k : Nat) : Int)) (h15 : i.toInt ≤ 15), OwnWp p e below s Rm5.cells Rm5.slots (Q6 Z a1 fb C mx h0 n0) (T139.setTop (mkF m 5 #[sA a1, sI i, sU, sU, sU, sU, sU] [])) := by
  intro k
  induction k with
  | zero =>
   intro T139 h139 L139 i X139 e139 N139 Z139 f140 f141 K142 hi h15
   refine own_s T139 (mkF m 6 #[sA a1, sI i, sU, sU, sU, sU, sU] [(.int i)]) (fun t k => ?_) ?_
   ·exact XS.iloadN X139.here hx rfl (D6 hby 5 rfl) rfl k
   by_cases c6_143 : (0 : Int32) < i
   ·refine own_s T139 (mkF m 9 #[sA a1, sI i, sU, sU, sU, sU, sU] []) (fun t k => ?_) ?_
    ·exact XS.ifNo X139.here hx rfl (D6 hby 6 rfl) rfl (XT.i0_le_f c6_143) k
    refine own_s T139 (mkF m 12 #[sA a1, sI i, sU, sU, sU, sU, sU] [(.int (fb i.toInt))]) (fun t k => ?_) ?_
    ·refine XS.aloadN X139.here hx rfl (D6 hby 7 rfl) rfl rfl ?_
     refine XS.iloadN X139.here hx rfl (D6 hby 8 rfl) rfl ?_
     exact OwnA.ldI X139 hx hZ e139 f140 (by omega) (by rw [show (16 : Int32).toInt = 16 from rfl]; omega) rfl rfl (D6 hby 9 rfl) k
    by_cases c12_144 : (fb i.toInt) = (0 : Int32)
    ·refine own_s T139 (mkF m 15 #[sA a1, sI i, sU, sU, sU, sU, sU] []) (fun t k => ?_) ?_
     ·exact XS.ifNo X139.here hx rfl (D6 hby 10 rfl) rfl (XT.i0_ne_f c12_144) k
     exact absurd c12_144 (own_chkn hC hm hi c6_143)
    ·refine own_s T139 (mkF m 21 #[sA a1, sI i, sU, sU, sU, sU, sU] []) (fun t k => ?_) ?_
     ·exact XS.ifYes X139.here hx rfl (pc0 := 12) (pc' := 21) rfl (D6 hby 10 rfl) rfl (XT.i0_ne_t c12_144) (by decide) (by decide) k
     exact J21  T139 h139 _ i X139 e139 N139 Z139 f140 f141 K142 hi
   ·refine own_s T139 (mkF m 21 #[sA a1, sI i, sU, sU, sU, sU, sU] []) (fun t k => ?_) ?_
    ·exact XS.ifYes X139.here hx rfl (pc0 := 6) (pc' := 21) rfl (D6 hby 6 rfl) rfl (XT.i0_le_t c6_143) (by decide) (by decide) k
    exact J21  T139 h139 _ i X139 e139 N139 Z139 f140 f141 K142 hi
  | succ k ih =>
   intro T139 h139 L139 i X139 e139 N139 Z139 f140 f141 K142 hi h15
   refine own_s T139 (mkF m 6 #[sA a1, sI i, sU, sU, sU, sU, sU] [(.int i)]) (fun t k => ?_) ?_
   ·exact XS.iloadN X139.here hx rfl (D6 hby 5 rfl) rfl k
   by_cases c6_145 : (0 : Int32) < i
   ·refine own_s T139 (mkF m 9 #[sA a1, sI i, sU, sU, sU, sU, sU] []) (fun t k => ?_) ?_
    ·exact XS.ifNo X139.here hx rfl (D6 hby 6 rfl) rfl (XT.i0_le_f c6_145) k
    refine own_s T139 (mkF m 12 #[sA a1, sI i, sU, sU, sU, sU, sU] [(.int (fb i.toInt))]) (fun t k => ?_) ?_
    ·refine XS.aloadN X139.here hx rfl (D6 hby 7 rfl) rfl rfl ?_
     refine XS.iloadN X139.here hx rfl (D6 hby 8 rfl) rfl ?_
     exact OwnA.ldI X139 hx hZ e139 f140 (by omega) (by rw [show (16 : Int32).toInt = 16 from rfl]; omega) rfl rfl (D6 hby 9 rfl) k
    by_cases c12_146 : (fb i.toInt) = (0 : Int32)
    ·refine own_s T139 (mkF m 15 #[sA a1, sI i, sU, sU, sU, sU, sU] []) (fun t k => ?_) ?_
     ·exact XS.ifNo X139.here hx rfl (D6 hby 10 rfl) rfl (XT.i0_ne_f c12_146) k
     obtain ⟨w4, qw4⟩ : ∃ z : Int32, z = (i + ((-1) : Int32)) := ⟨_, rfl⟩
     refine own_s T139 (mkF m 18 #[sA a1, sI w4, sU, sU, sU, sU, sU] []) (fun t k => ?_) ?_
     ·refine XT.iincV X139.here hx rfl ((-1) : Int32) (D6 hby 11 rfl) rfl rfl (l' := #[sA a1, sI (i + ((-1) : Int32)), sU, sU, sU, sU, sU]) rfl ?_
      rw [qw4] at k
      exact k
     refine own_s T139 (mkF m 5 #[sA a1, sI w4, sU, sU, sU, sU, sU] []) (fun t k => ?_) ?_
     ·exact XS.goto X139.here hx rfl (pc0 := 18) (pc' := 5) rfl (D6 hby 12 rfl) (by decide) (by decide) k
     have t1 := own_dec1 qw4 (by omega) (by omega)
     exact ih  T139 h139 _ w4 X139 e139 N139 Z139 f140 f141 K142 (by omega) (by omega)
    ·refine own_s T139 (mkF m 21 #[sA a1, sI i, sU, sU, sU, sU, sU] []) (fun t k => ?_) ?_
     ·exact XS.ifYes X139.here hx rfl (pc0 := 12) (pc' := 21) rfl (D6 hby 10 rfl) rfl (XT.i0_ne_t c12_146) (by decide) (by decide) k
     exact absurd (own_chk0 hC hm hi h15) c12_146
   ·refine own_s T139 (mkF m 21 #[sA a1, sI i, sU, sU, sU, sU, sU] []) (fun t k => ?_) ?_
    ·exact XS.ifYes X139.here hx rfl (pc0 := 6) (pc' := 21) rfl (D6 hby 6 rfl) rfl (XT.i0_le_t c6_145) (by decide) (by decide) k
    exact absurd (Int32.lt_iff_toInt_lt.mpr (by rw [show (0 : Int32).toInt = 0 from rfl]; omega)) c6_145
 exact hl1 (15 - mx) s₁ h0 _ (15 : Int32) X0 e0 N0 Z0 A0 E0 K0 (by rw [show (15 : Int32).toInt = 15 from rfl]; omega) (by decide)
/-! the sort by code -/
theorem own_A_add (C D : Int → Int) (x : Int) (h : ∀ l, D l = C l + (if x = l then 1 else 0)) : ∀ k : Nat, own_A D k = own_A C k + (if 1 ≤ x ∧ x < k then 1 else 0)
  | 0 => by show (0 : Int) = 0 + _; rw [if_neg (by omega)]; rfl
  | k + 1 => by
    have ih := own_A_add C D x h k
    show own_A D k + _ = own_A C k + _ + _
    rw [ih]
    by_cases k0 : k = 0
    · subst k0
      rw [if_pos rfl, if_pos rfl, if_neg (by omega), if_neg (by omega)]
    · rw [if_neg k0, if_neg k0, h]
      by_cases q : x = (k : Int)
      · rw [if_pos q, if_neg (by omega), if_pos (by omega)]; omega
      · rw [if_neg q]
        by_cases r : 1 ≤ x ∧ x < (k : Int)
        · rw [if_pos r, if_pos (by omega)]; omega
        · rw [if_neg r, if_neg (by omega)]; omega
theorem own_total {L : Int → Int} (hL : ∀ i : Int, 0 ≤ i → i < 256 → 0 ≤ L i ∧ L i < 16) : ∀ m : Nat, m ≤ 256 → own_num L m 0 + own_A (own_num L m) 16 = m
  | 0, _ => by
    have : ∀ k : Nat, own_A (own_num L 0) k = 0 := by
      intro k
      induction k with
      | zero => rfl
      | succ k ih => show own_A (own_num L 0) k + _ = 0; rw [ih]; split <;> rfl
    rw [this]; rfl
  | m + 1, hm => by
    have ih := own_total hL m (by omega)
    have b := hL (m : Int) (by omega) (by omega)
    rw [own_A_add (own_num L m) (own_num L (m + 1)) (L (m : Int)) (fun l => own_num_step L m l) 16, own_num_step]
    by_cases q : L (m : Int) = 0
    · rw [if_pos q, if_neg (by omega)]; omega
    · rw [if_neg q, if_pos (by omega)]; omega
theorem own_A_const {C : Int → Int} {mx : Nat} (h : ∀ t : Int, (mx : Int) < t → t < 16 → C t = 0) : ∀ j : Nat, mx + 1 + j ≤ 16 → own_A C (mx + 1 + j) = own_A C (mx + 1)
  | 0, _ => rfl
  | j + 1, hj => by
    have ih := own_A_const h j (by omega)
    have e : own_A C (mx + 1 + (j + 1)) = own_A C (mx + 1 + j) + (if mx + 1 + j = 0 then 0 else C ((mx + 1 + j : Nat) : Int)) := rfl
    rw [e, ih, if_neg (by omega), h _ (by omega) (by omega)]; omega
theorem own_Atop {C : Int → Int} {mx : Nat} (hm : own_mx C mx) {l : Nat} (h1 : mx + 1 ≤ l) (h2 : l ≤ 16) : own_A C l = own_A C (mx + 1) := by
  have := own_A_const hm.2.1 (l - (mx + 1)) (by omega)
  rwa [show mx + 1 + (l - (mx + 1)) = l from by omega] at this
def own_sA (L : Int → Int) (jn : Nat) (g : Int → Int32) : Prop := ∀ a : Nat, a < 4 → ∀ l : Int, 1 ≤ l → l < 16 → (l < (jn : Int) → (g (16 * (a : Int) + l)).toInt = own_A (own_num L 256) l.toNat + own_num L (64 * a) l) ∧ ((jn : Int) ≤ l → (g (16 * (a : Int) + l)).toInt = own_num L (64 * a + 64) l - own_num L (64 * a) l)
def own_plA (C : Int → Int) (jn : Nat) (gp : Int → Int32) : Prop := ∀ l : Int, 1 ≤ l → l < (jn : Int) → (gp l).toInt = own_A C l.toNat
def own_shA (C : Int → Int) (jn : Nat) (sh : Int32) : Prop := (sh = 0 ∧ ∀ l : Int, 1 ≤ l → l < (jn : Int) → C l = 0) ∨ (1 ≤ sh.toInt ∧ sh.toInt < (jn : Int) ∧ 0 < C sh.toInt ∧ ∀ l : Int, 1 ≤ l → l < sh.toInt → C l = 0)
theorem own_numC (L : Int → Int) (t : Int) : 0 ≤ own_num L 256 t ∧ own_num L 256 t ≤ 256 := ⟨own_num_nonneg L 256 t, own_num_le L t 256⟩
theorem own_offx {ln : Int32} {jn : Nat} (hln : ln.toInt = (jn : Int)) (h : jn ≤ 16) (o : Int32) (ho : 0 ≤ o.toInt ∧ o.toInt ≤ 48) : (o + ln).toInt = o.toInt + jn := by
  rw [own_add (by omega) (by omega), hln]
theorem own_sortA {L : Int → Int} {jn : Nat} {ln cd c0 c1 c2 c3 d1 d2 d3 d4 : Int32} {g g0 g1 g2 g3 : Int → Int32} (hln : ln.toInt = (jn : Int)) (h1 : 1 ≤ jn) (h2 : jn ≤ 15) (H : own_sA L jn g) (hcd : cd.toInt = own_A (own_num L 256) jn)
    (q0 : c0 = g ((0 : Int32) + ln).toInt) (e0 : g0 = ownUpd g ((0 : Int32) + ln).toInt cd) (p0 : d1 = cd + c0)
    (q1 : c1 = g0 ((16 : Int32) + ln).toInt) (e1 : g1 = ownUpd g0 ((16 : Int32) + ln).toInt d1) (p1 : d2 = d1 + c1)
    (q2 : c2 = g1 ((32 : Int32) + ln).toInt) (e2 : g2 = ownUpd g1 ((32 : Int32) + ln).toInt d2) (p2 : d3 = d2 + c2)
    (q3 : c3 = g2 ((48 : Int32) + ln).toInt) (e3 : g3 = ownUpd g2 ((48 : Int32) + ln).toInt d3) (p3 : d4 = d3 + c3) : own_sA L (jn + 1) g3 ∧ d4.toInt = own_A (own_num L 256) (jn + 1) := by
  have i0 : ((0 : Int32) + ln).toInt = 16 * ((0 : Nat) : Int) + jn := by rw [own_offx hln (by omega) 0 (by decide), show (0 : Int32).toInt = 0 from rfl]; omega
  have i1 : ((16 : Int32) + ln).toInt = 16 * ((1 : Nat) : Int) + jn := by rw [own_offx hln (by omega) 16 (by decide), show (16 : Int32).toInt = 16 from rfl]; omega
  have i2 : ((32 : Int32) + ln).toInt = 16 * ((2 : Nat) : Int) + jn := by rw [own_offx hln (by omega) 32 (by decide), show (32 : Int32).toInt = 32 from rfl]; omega
  have i3 : ((48 : Int32) + ln).toInt = 16 * ((3 : Nat) : Int) + jn := by rw [own_offx hln (by omega) 48 (by decide), show (48 : Int32).toInt = 48 from rfl]; omega
  rw [i0] at q0 e0
  rw [i1] at q1 e1
  rw [i2] at q2 e2
  rw [i3] at q3 e3
  have a0 := (H 0 (by decide) jn (by omega) (by omega)).2 (Int.le_refl _)
  have a1 := (H 1 (by decide) jn (by omega) (by omega)).2 (Int.le_refl _)
  have a2 := (H 2 (by decide) jn (by omega) (by omega)).2 (Int.le_refl _)
  have a3 := (H 3 (by decide) jn (by omega) (by omega)).2 (Int.le_refl _)
  have b0 := own_num_dif L (64 * 0) 64 jn
  have b1 := own_num_dif L (64 * 1) 64 jn
  have b2 := own_num_dif L (64 * 2) 64 jn
  have b3 := own_num_dif L (64 * 3) 64 jn
  have z : own_num L (64 * 0) jn = 0 := rfl
  rw [show 64 * 3 + 64 = 256 from rfl] at a3 b3
  rw [show 64 * 2 + 64 = 64 * 3 from rfl] at a2 b2
  rw [show 64 * 1 + 64 = 64 * 2 from rfl] at a1 b1
  rw [show 64 * 0 + 64 = 64 * 1 from rfl] at a0 b0
  have al := own_A_nn (own_numC L) jn
  have r1 : c1.toInt = (g (16 * ((1 : Nat) : Int) + jn)).toInt := by rw [q1, e0, ownUpd_ne _ _ _ (by omega)]
  have r2 : c2.toInt = (g (16 * ((2 : Nat) : Int) + jn)).toInt := by rw [q2, e1, ownUpd_ne _ _ _ (by omega), e0, ownUpd_ne _ _ _ (by omega)]
  have r3 : c3.toInt = (g (16 * ((3 : Nat) : Int) + jn)).toInt := by rw [q3, e2, ownUpd_ne _ _ _ (by omega), e1, ownUpd_ne _ _ _ (by omega), e0, ownUpd_ne _ _ _ (by omega)]
  have s1 : d1.toInt = own_A (own_num L 256) jn + own_num L (64 * 1) jn := by rw [p0, own_add (by rw [q0]; omega) (by rw [q0]; omega), q0]; omega
  have s2 : d2.toInt = own_A (own_num L 256) jn + own_num L (64 * 2) jn := by rw [p1, own_add (by omega) (by omega)]; omega
  have s3 : d3.toInt = own_A (own_num L 256) jn + own_num L (64 * 3) jn := by rw [p2, own_add (by omega) (by omega)]; omega
  have s4 : d4.toInt = own_A (own_num L 256) jn + own_num L 256 jn := by rw [p3, own_add (by omega) (by omega)]; omega
  refine ⟨fun a ha l g1' g2' => ?_, by rw [s4, own_A_succ _ h1]⟩
  have up : ∀ x : Int, g3 x = if x = 16 * ((3 : Nat) : Int) + jn then d3 else if x = 16 * ((2 : Nat) : Int) + jn then d2 else if x = 16 * ((1 : Nat) : Int) + jn then d1 else if x = 16 * ((0 : Nat) : Int) + jn then cd else g x := fun x => by rw [e3, e2, e1, e0]; rfl
  by_cases q : l = (jn : Int)
  · subst q
    refine ⟨fun _ => ?_, fun h => absurd h (by omega)⟩
    rw [up, show ((jn : Int)).toNat = jn from rfl]
    rcases (by omega : a = 0 ∨ a = 1 ∨ a = 2 ∨ a = 3) with rfl | rfl | rfl | rfl
    · rw [if_neg (by omega), if_neg (by omega), if_neg (by omega), if_pos rfl, hcd, z]; omega
    · rw [if_neg (by omega), if_neg (by omega), if_pos rfl, s1]
    · rw [if_neg (by omega), if_pos rfl, s2]
    · rw [if_pos rfl, s3]
  · rw [up, if_neg (by omega), if_neg (by omega), if_neg (by omega), if_neg (by omega)]
    have := H a ha l g1' g2'
    exact ⟨fun h => this.1 (by omega), fun h => this.2 (by omega)⟩
theorem own_sA0 {L : Int → Int} {g : Int → Int32} (h : own_lanes L (fun _ => 64) g) : own_sA L 1 g := fun a ha l h1 h2 => ⟨fun q => absurd q (by omega), fun _ => h a ha l (by omega) h2⟩
theorem own_plturn {C : Int → Int} {jn : Nat} {gp : Int → Int32} {ln cd : Int32} (H : own_plA C jn gp) (hln : ln.toInt = (jn : Int)) (hcd : cd.toInt = own_A C jn) : own_plA C (jn + 1) (ownUpd gp ln.toInt cd) := fun l h1 h2 => by
  by_cases q : l = ln.toInt
  · subst q; rw [ownUpd_same, hcd, hln]; rfl
  · rw [ownUpd_ne _ _ _ q]; exact H l h1 (by omega)
theorem own_shk {C : Int → Int} {jn : Nat} {sh : Int32} (H : own_shA C jn sh) (h : sh ≠ 0) : own_shA C (jn + 1) sh := by
  rcases H with q | ⟨q1, q2, q3⟩
  · exact absurd q.1 h
  · exact Or.inr ⟨q1, by omega, q3⟩
theorem own_sh0 {C : Int → Int} {jn : Nat} {sh x : Int32} (H : own_shA C jn sh) (h : sh = 0) (h1 : 1 ≤ jn) (hx : x.toInt = C (jn : Int)) (hn : ¬ (0 : Int32) < x) (hC : 0 ≤ C (jn : Int)) : own_shA C (jn + 1) sh := by
  rw [Int32.lt_iff_toInt_lt, show (0 : Int32).toInt = 0 from rfl] at hn
  rcases H with q | ⟨q1, q2, q3⟩
  · refine Or.inl ⟨h, fun l a b => ?_⟩
    by_cases r : l = (jn : Int)
    · subst r; omega
    · exact q.2 l a (by omega)
  · rw [h] at q1; exact absurd q1 (by decide)
theorem own_shs {C : Int → Int} {jn : Nat} {sh ln x : Int32} (H : own_shA C jn sh) (h : sh = 0) (h1 : 1 ≤ jn) (hln : ln.toInt = (jn : Int)) (hx : x.toInt = C (jn : Int)) (hn : (0 : Int32) < x) : own_shA C (jn + 1) ln := by
  rw [Int32.lt_iff_toInt_lt, show (0 : Int32).toInt = 0 from rfl] at hn
  rcases H with q | ⟨q1, q2, q3⟩
  · exact Or.inr ⟨by omega, by omega, by rw [hln]; omega, fun l a b => q.2 l a (by omega)⟩
  · rw [h] at q1; exact absurd q1 (by decide)
def own_plc (L : Int → Int) (mx : Nat) (P : Nat → Nat) (g : Int → Int32) : Prop := ∀ a : Nat, a < 4 → (g (16 * (a : Int))).toInt = own_A (own_num L 256) (mx + 1) + (own_num L (64 * a + P a) 0 - own_num L (64 * a) 0) ∧ ∀ l : Int, 1 ≤ l → l ≤ (mx : Int) → (g (16 * (a : Int) + l)).toInt = own_A (own_num L 256) l.toNat + own_num L (64 * a + P a) l
def own_ord (L : Int → Int) (P : Nat → Nat) (go : Int → Int32) : Prop := ∀ a : Nat, a < 4 → ∀ i : Nat, i < P a → 1 ≤ L ((64 * a + i : Nat) : Int) → (go (own_pos L (64 * a + i))).toInt = ((64 * a + i : Nat) : Int)
def own_byte (go : Int → Int32) : Prop := ∀ i : Int, 0 ≤ i → i < 256 → 0 ≤ (go i).toInt ∧ (go i).toInt ≤ 255
theorem own_plc0 {L : Int → Int} {mx : Nat} (hmx : mx ≤ 15) {g g0 g1 g2 g3 : Int → Int32} {cd : Int32} (H : own_sA L (mx + 1) g) (hcd : cd.toInt = own_A (own_num L 256) (mx + 1))
    (e0 : g0 = ownUpd g (0 : Int32).toInt cd) (e1 : g1 = ownUpd g0 (16 : Int32).toInt cd) (e2 : g2 = ownUpd g1 (32 : Int32).toInt cd) (e3 : g3 = ownUpd g2 (48 : Int32).toInt cd) : own_plc L mx (fun _ => 0) g3 := by
  have up : ∀ x : Int, g3 x = if x = 48 then cd else if x = 32 then cd else if x = 16 then cd else if x = 0 then cd else g x := fun x => by rw [e3, e2, e1, e0]; rfl
  intro a ha
  refine ⟨?_, fun l h1 h2 => ?_⟩
  · have : g3 (16 * (a : Int)) = cd := by
      rw [up]
      rcases (by omega : a = 0 ∨ a = 1 ∨ a = 2 ∨ a = 3) with rfl | rfl | rfl | rfl <;> rfl
    rw [this, hcd]
    show _ = _ + (own_num L (64 * a) 0 - own_num L (64 * a) 0)
    omega
  · rw [up, if_neg (by omega), if_neg (by omega), if_neg (by omega), if_neg (by omega)]
    exact (H a ha l h1 (by omega)).1 (by omega)
theorem own_place {L : Int → Int} (hL : ∀ i : Int, 0 ≤ i → i < 256 → 0 ≤ L i ∧ L i < 16) {mx : Nat} (hm : own_mx (own_num L 256) mx) {P : Nat → Nat} {g : Int → Int32} (H : own_plc L mx P g) (a : Nat) (ha : a < 4) (hP : P a < 64) {j : Int} (hj : j = 16 * (a : Int) + L ((64 * a + P a : Nat) : Int)) :
    0 ≤ (g j).toInt ∧ (g j).toInt < 256 ∧ L ((64 * a + P a : Nat) : Int) ≤ mx ∧ (1 ≤ L ((64 * a + P a : Nat) : Int) → (g j).toInt = own_pos L (64 * a + P a)) ∧ (L ((64 * a + P a : Nat) : Int) = 0 → own_A (own_num L 256) (mx + 1) ≤ (g j).toInt) := by
  have b := hL ((64 * a + P a : Nat) : Int) (by omega) (by omega)
  have t := own_total hL 256 (Nat.le_refl _)
  have top := own_Atop hm (l := 16) (by have := hm.1; omega) (Nat.le_refl _)
  have n0 := own_num_nonneg L 256 0
  have an := own_A_nn (own_numC L) (mx + 1)
  by_cases q : L ((64 * a + P a : Nat) : Int) = 0
  · rw [q] at hj
    have h0 := (H a ha).1
    rw [show j = 16 * (a : Int) from by omega, h0]
    have d := own_num_dif L (64 * a) (P a) 0
    have lt := own_num_lt L (s := 64 * a + P a) (s' := 256) (by omega)
    rw [q] at lt
    have nn := own_num_nonneg L (64 * a) 0
    exact ⟨by omega, by omega, by omega, fun h => absurd h (by omega), fun _ => by omega⟩
  · have lt := own_num_lt L (s := 64 * a + P a) (s' := 256) (by omega)
    have nn := own_num_nonneg L (64 * a + P a) (L ((64 * a + P a : Nat) : Int))
    have lm : L ((64 * a + P a : Nat) : Int) ≤ mx := by
      rcases Int.lt_or_le (mx : Int) (L ((64 * a + P a : Nat) : Int)) with r | r
      · have := hm.2.1 _ r b.2; omega
      · exact r
    have e := (H a ha).2 (L ((64 * a + P a : Nat) : Int)) (by omega) lm
    rw [hj, e]
    have rg := own_pos_rng L (s := 64 * a + P a) (by omega) (by omega)
    have mo := own_A_mono (own_num L 256) (fun l => own_num_nonneg L 256 l) ((L ((64 * a + P a : Nat) : Int)).toNat + 1) (16 - ((L ((64 * a + P a : Nat) : Int)).toNat + 1))
    rw [show (L ((64 * a + P a : Nat) : Int)).toNat + 1 + (16 - ((L ((64 * a + P a : Nat) : Int)).toNat + 1)) = 16 from by omega] at mo
    have an2 := own_A_nn (own_numC L) (L ((64 * a + P a : Nat) : Int)).toNat
    unfold own_pos at rg
    exact ⟨by omega, by omega, lm, fun _ => rfl, fun h => absurd h q⟩
theorem own_ord1 {L : Int → Int} (hL : ∀ i : Int, 0 ≤ i → i < 256 → 0 ≤ L i ∧ L i < 16) {mx : Nat} (hm : own_mx (own_num L 256) mx) {P : Nat → Nat} {g go : Int → Int32} (H : own_plc L mx P g) (G : own_ord L P go) (By : own_byte go) (a : Nat) (ha : a < 4) (hP : ∀ b : Nat, b < 4 → P b ≤ 64) (hPa : P a < 64) {j : Int} (hj : j = 16 * (a : Int) + L ((64 * a + P a : Nat) : Int))
    {y : Int32} (hy : y.toInt = ((64 * a + P a : Nat) : Int)) {P' : Nat → Nat} (hP' : ∀ b : Nat, b < 4 → P' b = if b = a then P a + 1 else P b) :
    own_plc L mx P' (ownUpd g j (g j + (1 : Int32))) ∧ own_ord L P' (ownUpd go (g j).toInt y) ∧ own_byte (ownUpd go (g j).toInt y) := by
  have b := hL ((64 * a + P a : Nat) : Int) (by omega) (by omega)
  obtain ⟨r1, r2, r3, r4, r5⟩ := own_place hL hm H a ha hPa hj
  have inc := own_inc1 (i := g j) (by omega) (by omega)
  refine ⟨fun c hc => ?_, fun c hc i hi h1 => ?_, fun i h1 h2 => ?_⟩
  · rw [hP' c hc]
    by_cases q : c = a
    · subst q
      rw [if_pos rfl, ← Nat.add_assoc]
      refine ⟨?_, fun l l1 l2 => ?_⟩
      · rw [own_num_step]
        by_cases z : L ((64 * c + P c : Nat) : Int) = 0
        · rw [if_pos z, show 16 * (c : Int) = j from by omega, ownUpd_same, inc]
          have := (H c hc).1
          rw [show 16 * (c : Int) = j from by omega] at this
          omega
        · rw [if_neg z, ownUpd_ne _ _ _ (by omega), (H c hc).1]; omega
      · rw [own_num_step]
        by_cases z : L ((64 * c + P c : Nat) : Int) = l
        · rw [if_pos z, show 16 * (c : Int) + l = j from by omega, ownUpd_same, inc]
          have := (H c hc).2 l l1 l2
          rw [show 16 * (c : Int) + l = j from by omega] at this
          omega
        · rw [if_neg z, ownUpd_ne _ _ _ (by omega), (H c hc).2 l l1 l2]; omega
    · rw [if_neg q]
      refine ⟨?_, fun l l1 l2 => ?_⟩
      · rw [ownUpd_ne _ _ _ (by omega)]; exact (H c hc).1
      · rw [ownUpd_ne _ _ _ (by have := hm.1; omega)]; exact (H c hc).2 l l1 l2
  · rw [hP' c hc] at hi
    by_cases q : c = a ∧ i = P a
    · obtain ⟨q1, q2⟩ := q
      subst q1 q2
      rw [← r4 h1, ownUpd_same, hy]
    · have hi' : i < P c := by
        by_cases z : c = a
        · subst z; rw [if_pos rfl] at hi; omega
        · rw [if_neg z] at hi; exact hi
      have hc64 := hP c hc
      have ne : own_pos L (64 * c + i) ≠ (g j).toInt := by
        intro e
        rcases Int.lt_or_le 0 (L ((64 * a + P a : Nat) : Int)) with z | z
        · rw [r4 (by omega)] at e
          have := own_pos_inj L (by omega) (by omega) h1 (by omega) e
          omega
        · have r6 := r5 (by omega)
          have rg := own_pos_rng L (s := 64 * c + i) (by omega) h1
          have bb := hL ((64 * c + i : Nat) : Int) (by omega) (by omega)
          have top := own_Atop hm (l := 16) (by have := hm.1; omega) (Nat.le_refl _)
          have mo := own_A_mono (own_num L 256) (fun l => own_num_nonneg L 256 l) ((L ((64 * c + i : Nat) : Int)).toNat + 1) (16 - ((L ((64 * c + i : Nat) : Int)).toNat + 1))
          rw [show (L ((64 * c + i : Nat) : Int)).toNat + 1 + (16 - ((L ((64 * c + i : Nat) : Int)).toNat + 1)) = 16 from by omega] at mo
          omega
      rw [ownUpd_ne _ _ _ ne]
      exact G c hc i hi' h1
  · by_cases q : i = (g j).toInt
    · rw [q, ownUpd_same, hy]; omega
    · rw [ownUpd_ne _ _ _ q]; exact By i h1 h2
theorem own_plfin {C : Int → Int} {mx : Nat} (hm : own_mx C mx) {gp : Int → Int32} {cd lo : Int32} (H : own_plA C (mx + 1) gp) (hcd : cd.toInt = own_A C (mx + 1)) (hlo : lo.toInt = ((mx + 1 : Nat) : Int)) : own_plA C 17 (own_rng gp lo.toInt (17 : Int32).toInt cd) := fun l h1 h2 => by
  rw [show (17 : Int32).toInt = 17 from rfl]
  by_cases q : lo.toInt ≤ l
  · rw [own_rng_in q (by omega), hcd, own_Atop hm (l := l.toNat) (by omega) (by omega)]
  · rw [own_rng_out (by omega)]; exact H l h1 (by omega)
theorem own_sy0 {i : Int32} {m k : Nat} (hi : i.toInt = (m : Int)) (hk : m + (k + 1) = 64) : i.toInt = ((64 * 0 + m : Nat) : Int) := by omega
theorem own_sy1 {i : Int32} {m k : Nat} (hi : i.toInt = (m : Int)) (hk : m + (k + 1) = 64) : ((64 : Int32) + i).toInt = ((64 * 1 + m : Nat) : Int) := by
  rw [own_add (by rw [show (64 : Int32).toInt = 64 from rfl]; omega) (by rw [show (64 : Int32).toInt = 64 from rfl]; omega), show (64 : Int32).toInt = 64 from rfl]; omega
theorem own_sy2 {i : Int32} {m k : Nat} (hi : i.toInt = (m : Int)) (hk : m + (k + 1) = 64) : ((128 : Int32) + i).toInt = ((64 * 2 + m : Nat) : Int) := by
  rw [own_add (by rw [show (128 : Int32).toInt = 128 from rfl]; omega) (by rw [show (128 : Int32).toInt = 128 from rfl]; omega), show (128 : Int32).toInt = 128 from rfl]; omega
theorem own_sy3 {i : Int32} {m k : Nat} (hi : i.toInt = (m : Int)) (hk : m + (k + 1) = 64) : ((192 : Int32) + i).toInt = ((64 * 3 + m : Nat) : Int) := by
  rw [own_add (by rw [show (192 : Int32).toInt = 192 from rfl]; omega) (by rw [show (192 : Int32).toInt = 192 from rfl]; omega), show (192 : Int32).toInt = 192 from rfl]; omega

def dl10 : List (Nat × Instr × Nat) := [(0, .aload_n 0, 1), (1, .getfield 18, 3), (4, .astore_n 3, 1), (5, .iconst 0, 1), (6, .istore 4, 2), (8, .aload_n 0, 1), (9, .iconst 0, 1), (10, .putfield 80, 3), (13, .iconst 1, 1), (14, .istore 5, 2), (16, .iload 5, 2), (18, .aload_n 0, 1), (19, .getfield 54, 3), (22, .if_icmp .gt 84, 3), (25, .aload_n 0, 1), (26, .getfield 21, 3), (29, .iload 5, 2), (31, .iload 4, 2), (33, .iastore, 1), (34, .iconst 0, 1), (35, .istore 6, 2), (37, .iload 6, 2), (39, .iconst 4, 1), (40, .if_icmp .ge 40, 3), (43, .aload_n 3, 1), (44, .iload 6, 2), (46, .bipush 16, 2), (48, .imul, 1), (49, .iload 5, 2), (51, .iadd, 1), (52, .iaload, 1), (53, .istore 7, 2), (55, .aload_n 3, 1), (56, .iload 6, 2), (58, .bipush 16, 2), (60, .imul, 1), (61, .iload 5, 2), (63, .iadd, 1), (64, .iload 4, 2), (66, .iastore, 1), (67, .iload 4, 2), (69, .iload 7, 2), (71, .iadd, 1), (72, .istore 4, 2), (74, .iinc 6 1, 3), (77, .goto (-40), 3), (80, .aload_n 0, 1), (81, .getfield 80, 3), (84, .ifCond .ne 16, 3), (87, .aload_n 2, 1), (88, .iload 5, 2), (90, .iaload, 1), (91, .ifCond .le 9, 3), (94, .aload_n 0, 1), (95, .iload 5, 2), (97, .putfield 80, 3), (100, .iinc 5 1, 3), (103, .goto (-87), 3), (106, .aload_n 0, 1), (107, .getfield 21, 3), (110, .aload_n 0, 1), (111, .getfield 54, 3), (114, .iconst 1, 1), (115, .iadd, 1), (116, .aload_n 0, 1), (117, .getfield 21, 3), (120, .arraylength, 1), (121, .iload 4, 2), (123, .invokestatic 91, 3), (126, .iconst 0, 1), (127, .istore 5, 2), (129, .iload 5, 2), (131, .iconst 4, 1), (132, .if_icmp .ge 18, 3), (135, .aload_n 3, 1), (136, .iload 5, 2), (138, .bipush 16, 2), (140, .imul, 1), (141, .iload 4, 2), (143, .iastore, 1), (144, .iinc 5 1, 3), (147, .goto (-18), 3), (150, .aload_n 1, 1), (151, .arraylength, 1), (152, .iconst 4, 1), (153, .idiv, 1), (154, .istore 5, 2), (156, .aload_n 0, 1), (157, .getfield 15, 3), (160, .astore 6, 2), (162, .iconst 0, 1), (163, .istore 7, 2), (165, .iload 7, 2), (167, .iload 5, 2), (169, .if_icmp .ge 108, 3), (172, .aload 6, 2), (174, .aload_n 3, 1), (175, .aload_n 1, 1), (176, .iload 7, 2), (178, .iaload, 1), (179, .dup2, 1), (180, .iaload, 1), (181, .dup_x2, 1), (182, .iconst 1, 1), (183, .iadd, 1), (184, .iastore, 1), (185, .iload 7, 2), (187, .iastore, 1), (188, .aload 6, 2), (190, .aload_n 3, 1), (191, .bipush 16, 2), (193, .aload_n 1, 1), (194, .iload 5, 2), (196, .iload 7, 2), (198, .iadd, 1), (199, .iaload, 1), (200, .iadd, 1), (201, .dup2, 1), (202, .iaload, 1), (203, .dup_x2, 1), (204, .iconst 1, 1), (205, .iadd, 1), (206, .iastore, 1), (207, .iload 5, 2), (209, .iload 7, 2), (211, .iadd, 1), (212, .iastore, 1), (213, .aload 6, 2), (215, .aload_n 3, 1), (216, .bipush 32, 2), (218, .aload_n 1, 1), (219, .iconst 2, 1), (220, .iload 5, 2), (222, .imul, 1), (223, .iload 7, 2), (225, .iadd, 1), (226, .iaload, 1), (227, .iadd, 1), (228, .dup2, 1), (229, .iaload, 1), (230, .dup_x2, 1), (231, .iconst 1, 1), (232, .iadd, 1), (233, .iastore, 1), (234, .iconst 2, 1), (235, .iload 5, 2), (237, .imul, 1), (238, .iload 7, 2), (240, .iadd, 1), (241, .iastore, 1), (242, .aload 6, 2), (244, .aload_n 3, 1), (245, .bipush 48, 2), (247, .aload_n 1, 1), (248, .iconst 3, 1), (249, .iload 5, 2), (251, .imul, 1), (252, .iload 7, 2), (254, .iadd, 1), (255, .iaload, 1), (256, .iadd, 1), (257, .dup2, 1), (258, .iaload, 1), (259, .dup_x2, 1), (260, .iconst 1, 1), (261, .iadd, 1), (262, .iastore, 1), (263, .iconst 3, 1), (264, .iload 5, 2), (266, .imul, 1), (267, .iload 7, 2), (269, .iadd, 1), (270, .iastore, 1), (271, .iinc 7 1, 3), (274, .goto (-109), 3), (277, .iconst 4, 1), (278, .iload 5, 2), (280, .imul, 1), (281, .istore 7, 2), (283, .iload 7, 2), (285, .aload_n 1, 1), (286, .arraylength, 1), (287, .if_icmp .ge 28, 3), (315, .return_, 1)]
theorem da10 : ∀ x ∈ dl10, decode prog_6_method_4_code x.1 = .ok x.2 := by decide +kernel
theorem D10 {c : Code} (h : c.code = prog_6_method_4_code) (i : Nat) {pc : Nat} {ins : Instr} {n : Nat} (e : dl10[i]? = some (pc, ins, n)) : decode c.code pc = .ok (ins, n) := by rw [h]; exact da10 (pc, ins, n) (List.mem_of_getElem? e)
theorem pn_10 : plainFor Mn11 = true := plainFor_of_name (by first | (simp [plainName, overriddenIn]; done) | decide +kernel)
theorem pd_10 : parseMethodDescriptor "([I[I)V" = some ⟨[(.array .int), (.array .int)], none⟩ := by decide +kernel
theorem ef_10 (m : MethodId) (x0 : Addr) (x1 : Addr) (x2 : Addr) : entryFrame m #[(.ref x0), (.ref x1), (.ref x2)] 8 = mkF m 0 #[.val (.ref x0), .val (.ref x1), .val (.ref x2), .unset, .unset, .unset, .unset, .unset] [] := by first | (simp [entryFrame, mkF, argsToLocals, Value.category, maxLocals]; done) | rfl
def Q10 (Z : State) (a1 : Addr) (a2 : Addr) (a3 : Addr) (lc : Addr) (od : Addr) (pl : Addr) (en : Addr) (fw : Addr) (ls : Addr) (gc : Int → Int32) (fo : Int → Int32) (fp : Int → Int32) (Lf : Int → Int32) (fb : Int → Int32) (nn : Int32) (mxI : Int32) (sh0 : Int32) (fbI : Int32) (wdI : Int32) (eb0 : Int32) (mx : Nat) (h0 : Heap) (n0 : Nat) (v : Option Value) (h : Heap) (L : List Loc) : Prop := v = none ∧ Fr n0 L ∧ Keep h0 h [a1, lc, od, pl] ∧ ∃ (sh : Int32) (gc' go gp : Int → Int32), Fld Z h a1 DTn "entries" "[I" (.ref en) ∧ Fld Z h a1 DTn "firstBits" "I" (.int fbI) ∧ Fld Z h a1 DTn "width" "I" (.int wdI) ∧ Fld Z h a1 DTn "expectedBits" "I" (.int eb0) ∧ Fld Z h a1 DTn "codeLengths" "[I" (.ref a2) ∧ Fld Z h a1 DTn "order" "[I" (.ref od) ∧ Fld Z h a1 DTn "laneCounts" "[I" (.ref lc) ∧ Fld Z h a1 DTn "places" "[I" (.ref pl) ∧ Fld Z h a1 DTn "shortest" "I" (.int sh) ∧ Fld Z h a1 DTn "longest" "I" (.int mxI) ∧ Fld Z h a1 DTn "follows" "[I" (.ref fw) ∧ Fld Z h a1 DTn "lasts" "[I" (.ref ls) ∧ OwnA Z h lc .int (64 : Int32) (fun i => .int (gc' i)) ∧ OwnA Z h od .int (256 : Int32) (fun i => .int (go i)) ∧ OwnA Z h pl .int (17 : Int32) (fun i => .int (gp i)) ∧ own_shA (own_num (own_L Lf) 256) (mx + 1) sh ∧ own_plA (own_num (own_L Lf) 256) 17 gp ∧ own_ord (own_L Lf) (fun _ => 64) go ∧ own_byte go
set_option maxRecDepth 65536 in
set_option maxHeartbeats 40000000 in
theorem rm10 (l : Launch) (Z : State) (a0 : Array Value) (hw : ∀ d ∈ tables_1, d.before a0 Z = true) (ws : List Jvm.Cond) (a1 : Addr) (a2 : Addr) (a3 : Addr) (lc : Addr) (od : Addr) (pl : Addr) (en : Addr) (fw : Addr) (ls : Addr) (gc : Int → Int32) (fo : Int → Int32) (fp : Int → Int32) (Lf : Int → Int32) (fb : Int → Int32) (nn : Int32) (mxI : Int32) (sh0 : Int32) (fbI : Int32) (wdI : Int32) (eb0 : Int32) (mx : Nat) (h0 : Heap) (n0 : Nat) (Z0 : n0 ≤ h0.size) (g0 : n0 ≤ a1) (g1 : n0 ≤ lc) (g2 : n0 ≤ od) (g3 : n0 ≤ pl) (n1 : a1 ≠ lc) (n2 : a1 ≠ od) (n3 : a1 ≠ pl) (n4 : lc ≠ od) (n5 : lc ≠ pl) (n6 : od ≠ pl) (n7 : a2 ≠ a1) (n8 : a2 ≠ lc) (n9 : a2 ≠ od) (n10 : a2 ≠ pl) (n11 : a3 ≠ a1) (n12 : a3 ≠ lc) (n13 : a3 ≠ od) (n14 : a3 ≠ pl) (E0 : Exa Z h0 a1 DTn) (F_entries : Fld Z h0 a1 DTn "entries" "[I" (.ref en)) (F_firstBits : Fld Z h0 a1 DTn "firstBits" "I" (.int fbI)) (F_width : Fld Z h0 a1 DTn "width" "I" (.int wdI)) (F_expectedBits : Fld Z h0 a1 DTn "expectedBits" "I" (.int eb0)) (F_codeLengths : Fld Z h0 a1 DTn "codeLengths" "[I" (.ref a2)) (F_order : Fld Z h0 a1 DTn "order" "[I" (.ref od)) (F_laneCounts : Fld Z h0 a1 DTn "laneCounts" "[I" (.ref lc)) (F_places : Fld Z h0 a1 DTn "places" "[I" (.ref pl)) (F_shortest : Fld Z h0 a1 DTn "shortest" "I" (.int sh0)) (F_longest : Fld Z h0 a1 DTn "longest" "I" (.int mxI)) (F_follows : Fld Z h0 a1 DTn "follows" "[I" (.ref fw)) (F_lasts : Fld Z h0 a1 DTn "lasts" "[I" (.ref ls)) (A1 : OwnA Z h0 lc .int (64 : Int32) (fun i => .int (gc i))) (A2 : OwnA Z h0 od .int (256 : Int32) (fun i => .int (fo i))) (A3 : OwnA Z h0 pl .int (17 : Int32) (fun i => .int (fp i))) (A4 : OwnA Z h0 a2 .int (256 : Int32) (fun i => .int (Lf i))) (A5 : OwnA Z h0 a3 .int nn (fun i => .int (fb i))) (hL : ∀ i : Int, 0 ≤ i → i < 256 → 0 ≤ (Lf i).toInt ∧ (Lf i).toInt < 16) (hm : own_mx (own_num (own_L Lf) 256) mx) (hmI : mxI.toInt = (mx : Int)) (hnn : nn.toInt = ((mx + 1 : Nat) : Int)) (hcn : own_cnt (own_L Lf) fb) (hla : own_lanes (own_L Lf) (fun _ => 64) gc) (hfo : own_byte fo) :
  MetFree l Mn11 (head1 (Jvm.Cond.code Mn11 prog_6_method_4_code 8 none :: ws) Rm6) (fun a U => a = #[(.ref a1), (.ref a2), (.ref a3)] ∧ Z.Warmed39 U.vm ∧ U.heap = h0) (fun _ _ _ _ _ => True) (fun _ U oc U' => ∃ v L, oc = .returned v ∧ Q10 Z a1 a2 a3 lc od pl en fw ls gc fo fp Lf fb nn mxI sh0 fbI wdI eb0 mx h0 n0 v U'.heap L ∧ FrameEnd U oc U' L Rm6.cells Rm6.slots) := by
 refine MetFree.of_bodySF pn_10 hisR ?_
 intro p e s m args below meth c s₁ Bd hml0 hP hK
 obtain ⟨rfl, hZ, hh⟩ := hP
 have hx := Bd.exec
 have hby := Bd.bytes
 have hlk := BodyLoose.notSynchronized Bd
 have hml : c.maxLocals = 8 := hml0
 have hown : s.vm.findClass DTn = some m.cls := findClass_of_methodNamed Bd.named
 have hnm := (name_of_methodNamed Bd.named Bd.method).1
 have X0 : Stand p l e Rm6 s m #[(.ref a1), (.ref a2), (.ref a3)] below meth c s₁ [] 0 0 := Stand.of_body Bd
 have e0 : s₁.heap = h0 := by rw [← hh, Bd.state]; rfl
 have N0 := Fr.nil n0
 show OwnWp p e below s Rm6.cells Rm6.slots (Q10 Z a1 a2 a3 lc od pl en fw ls gc fo fp Lf fb nn mxI sh0 fbI wdI eb0 mx h0 n0) (s₁.setTop (entryFrame m #[(.ref a1), (.ref a2), (.ref a3)] 8))
 refine OwnWp.cast (ef_10 m a1 a2 a3) ?_
 show OwnWp p e below s _ _ _ (s₁.setTop (mkF m 0 #[sA a1, sA a2, sA a3, sU, sU, sU, sU, sU] []))
 have K0 := Keep.refl h0 [a1, lc, od, pl]
 have hm15 := hm.1
 refine own_s s₁ (mkF m 1 #[sA a1, sA a2, sA a3, sU, sU, sU, sU, sU] [(.ref a1)]) (fun t k => ?_) ?_
 ·exact XS.aloadN X0.here hx rfl (D10 hby 0 rfl) rfl rfl k
 obtain ⟨T147, X147, e147, st147⟩ := getF X0 hx hZ hown (host := "") (Or.inl (own_hw hw 15 rfl)) Via.refl e0 F_laneCounts (g := (mkF m 1 #[sA a1, sA a2, sA a3, sU, sU, sU, sU, sU] [(.ref a1)])) rfl rfl (D10 hby 1 rfl)
 refine OwnWp.step st147 ?_
 refine own_s T147 (mkF m 10 #[sA a1, sA a2, sA a3, sA lc, sI (0 : Int32), sU, sU, sU] [(.int (0 : Int32)), (.ref a1)]) (fun t k => ?_) ?_
 ·refine XS.astoreN X147.here hx rfl (D10 hby 2 rfl) rfl rfl (l' := #[sA a1, sA a2, sA a3, sA lc, sU, sU, sU, sU]) rfl ?_
  refine XT.iconstV X147.here hx rfl (0 : Int32) (D10 hby 3 rfl) rfl ?_
  refine XS.istore X147.here hx rfl (D10 hby 4 rfl) rfl (l' := #[sA a1, sA a2, sA a3, sA lc, sI (0 : Int32), sU, sU, sU]) rfl ?_
  refine XS.aloadN X147.here hx rfl (D10 hby 5 rfl) rfl rfl ?_
  exact XT.iconstV X147.here hx rfl (0 : Int32) (D10 hby 6 rfl) rfl k
 obtain ⟨T148, h148, X148, e148, W148, st148⟩ := putF X147 hx hZ hown (host := "") (Or.inl (own_hw hw 66 rfl)) Via.refl e147 F_shortest E0 (Or.inl (own_hw hw 67 rfl)) (own_hw hw 3 rfl) (ty := .int) (by decide) rfl rfl (g := (mkF m 10 #[sA a1, sA a2, sA a3, sA lc, sI (0 : Int32), sU, sU, sU] [(.int (0 : Int32)), (.ref a1)])) rfl rfl (D10 hby 7 rfl)
 have N148 := own_frs (sl := Jvm.RoadKit.slotOf Z DTn "shortest" "I") N0 g0
 have Z148 : n0 ≤ h148.size := by rw [W148.size]; exact Z0
 refine OwnWp.step st148 ?_
 have f149 := Exa.wr W148 E0
 have f150 := Fld.other W148 F_entries (Or.inr (slot_ne (C := DTn) (Or.inl (own_hw hw 12 rfl)) (Or.inl (own_hw hw 67 rfl)) (by decide) (t := (.array .int)) (t' := .int) (by decide) (by decide)))
 have f151 := Fld.other W148 F_firstBits (Or.inr (slot_ne (C := DTn) (Or.inl (own_hw hw 56 rfl)) (Or.inl (own_hw hw 67 rfl)) (by decide) (t := .int) (t' := .int) (by decide) (by decide)))
 have f152 := Fld.other W148 F_width (Or.inr (slot_ne (C := DTn) (Or.inl (own_hw hw 61 rfl)) (Or.inl (own_hw hw 67 rfl)) (by decide) (t := .int) (t' := .int) (by decide) (by decide)))
 have f153 := Fld.other W148 F_expectedBits (Or.inr (slot_ne (C := DTn) (Or.inl (own_hw hw 75 rfl)) (Or.inl (own_hw hw 67 rfl)) (by decide) (t := .int) (t' := .int) (by decide) (by decide)))
 have f154 := Fld.other W148 F_codeLengths (Or.inr (slot_ne (C := DTn) (Or.inl (own_hw hw 54 rfl)) (Or.inl (own_hw hw 67 rfl)) (by decide) (t := (.array .int)) (t' := .int) (by decide) (by decide)))
 have f155 := Fld.other W148 F_order (Or.inr (slot_ne (C := DTn) (Or.inr (own_hw hw 14 rfl)) (Or.inl (own_hw hw 67 rfl)) (by decide) (t := (.array .int)) (t' := .int) (by decide) (by decide)))
 have f156 := Fld.other W148 F_laneCounts (Or.inr (slot_ne (C := DTn) (Or.inr (own_hw hw 16 rfl)) (Or.inl (own_hw hw 67 rfl)) (by decide) (t := (.array .int)) (t' := .int) (by decide) (by decide)))
 have f157 := Fld.other W148 F_places (Or.inr (slot_ne (C := DTn) (Or.inr (own_hw hw 18 rfl)) (Or.inl (own_hw hw 67 rfl)) (by decide) (t := (.array .int)) (t' := .int) (by decide) (by decide)))
 have f158 := Fld.same W148 F_shortest
 have f159 := Fld.other W148 F_longest (Or.inr (slot_ne (C := DTn) (Or.inl (own_hw hw 52 rfl)) (Or.inl (own_hw hw 67 rfl)) (by decide) (t := .int) (t' := .int) (by decide) (by decide)))
 have f160 := Fld.other W148 F_follows (Or.inr (slot_ne (C := DTn) (Or.inl (own_hw hw 20 rfl)) (Or.inl (own_hw hw 67 rfl)) (by decide) (t := (.array .int)) (t' := .int) (by decide) (by decide)))
 have f161 := Fld.other W148 F_lasts (Or.inr (slot_ne (C := DTn) (Or.inl (own_hw hw 22 rfl)) (Or.inl (own_hw hw 67 rfl)) (by decide) (t := (.array .int)) (t' := .int) (by decide) (by decide)))
 have f162 := OwnA.other A1 W148 n1.symm
 have f163 := OwnA.other A2 W148 n2.symm
 have f164 := OwnA.other A3 W148 n3.symm
 have f165 := OwnA.other A4 W148 n7
 have f166 := OwnA.other A5 W148 n11
 have K167 := Keep.wr K0 W148 (Or.inl (List.mem_of_getElem? (i := 0) rfl))
 refine own_s T148 (mkF m 16 #[sA a1, sA a2, sA a3, sA lc, sI (0 : Int32), sI (1 : Int32), sU, sU] []) (fun t k => ?_) ?_
 ·refine XT.iconstV X148.here hx rfl (1 : Int32) (D10 hby 8 rfl) rfl ?_
  exact XS.istore X148.here hx rfl (D10 hby 9 rfl) rfl (l' := #[sA a1, sA a2, sA a3, sA lc, sI (0 : Int32), sI (1 : Int32), sU, sU]) rfl k
 have hloop : ∀ (k : Nat) (T168 : State) (h168 : Heap) (L168 : List Loc) (cd : Int32) (ln : Int32) (sh : Int32) (jn : Nat) (g : Int → Int32) (gp : Int → Int32) (s6 : Slot) (s7 : Slot) (X168 : Stand p l e Rm6 s m #[(.ref a1), (.ref a2), (.ref a3)] below meth c T168 L168 0 0) (e168 : T168.heap = h168) (N168 : Fr n0 L168) (Z168 : n0 ≤ h168.size) (f169 : Exa Z h168 a1 DTn) (f170 : Fld Z h168 a1 DTn "entries" "[I" (.ref en)) (f171 : Fld Z h168 a1 DTn "firstBits" "I" (.int fbI)) (f172 : Fld Z h168 a1 DTn "width" "I" (.int wdI)) (f173 : Fld Z h168 a1 DTn "expectedBits" "I" (.int eb0)) (f174 : Fld Z h168 a1 DTn "codeLengths" "[I" (.ref a2)) (f175 : Fld Z h168 a1 DTn "order" "[I" (.ref od)) (f176 : Fld Z h168 a1 DTn "laneCounts" "[I" (.ref lc)) (f177 : Fld Z h168 a1 DTn "places" "[I" (.ref pl)) (f178 : Fld Z h168 a1 DTn "shortest" "I" (.int sh)) (f179 : Fld Z h168 a1 DTn "longest" "I" (.int mxI)) (f180 : Fld Z h168 a1 DTn "follows" "[I" (.ref fw)) (f181 : Fld Z h168 a1 DTn "lasts" "[I" (.ref ls)) (f182 : OwnA Z h168 lc .int (64 : Int32) (fun zi => .int (g zi))) (f183 : OwnA Z h168 od .int (256 : Int32) (fun zi => .int (fo zi))) (f184 : OwnA Z h168 pl .int (17 : Int32) (fun zi => .int (gp zi))) (f185 : OwnA Z h168 a2 .int (256 : Int32) (fun zi => .int (Lf zi))) (f186 : OwnA Z h168 a3 .int nn (fun zi => .int (fb zi))) (K187 : Keep h0 h168 [a1, lc, od, pl]) (hs6 : One s6) (hs7 : One s7) (hln : ln.toInt = (jn : Int)) (h1n : 1 ≤ jn) (hk : jn + k = mx + 1) (hcd : cd.toInt = own_A (own_num (own_L Lf) 256) jn) (hA : own_sA (own_L Lf) jn g) (hpA : own_plA (own_num (own_L Lf) 256) jn gp) (hsA : own_shA (own_num (own_L Lf) 256) jn sh), OwnWp p e below s Rm6.cells Rm6.slots (Q10 Z a1 a2 a3 lc od pl en fw ls gc fo fp Lf fb nn mxI sh0 fbI wdI eb0 mx h0 n0) (T168.setTop (mkF m 16 #[sA a1, sA a2, sA a3, sA lc, sI cd, sI ln, s6, s7] [])) := by
  intro k
  induction k with
  | zero =>
   intro T168 h168 L168 cd ln sh jn g gp s6 s7 X168 e168 N168 Z168 f169 f170 f171 f172 f173 f174 f175 f176 f177 f178 f179 f180 f181 f182 f183 f184 f185 f186 K187 hs6 hs7 hln h1n hk hcd hA hpA hsA
   refine own_s T168 (mkF m 19 #[sA a1, sA a2, sA a3, sA lc, sI cd, sI ln, s6, s7] [(.ref a1), (.int ln)]) (fun t k => ?_) ?_
   ·refine XS.iload X168.here hx rfl (D10 hby 10 rfl) rfl ?_
    exact XS.aloadN X168.here hx rfl (D10 hby 11 rfl) rfl rfl k
   obtain ⟨T188, X188, e188, st188⟩ := getF X168 hx hZ hown (host := "") (Or.inl (own_hw hw 51 rfl)) Via.refl e168 f179 (g := (mkF m 19 #[sA a1, sA a2, sA a3, sA lc, sI cd, sI ln, s6, s7] [(.ref a1), (.int ln)])) rfl rfl (D10 hby 12 rfl)
   refine OwnWp.step st188 ?_
   by_cases c22_189 : mxI < ln
   ·refine own_s T188 (mkF m 106 #[sA a1, sA a2, sA a3, sA lc, sI cd, sI ln, s6, s7] []) (fun t k => ?_) ?_
    ·exact XS.icmpYes X188.here hx rfl (pc0 := 22) (pc' := 106) rfl (D10 hby 13 rfl) rfl (XT.ii_gt_t c22_189) (by decide) (by decide) k
    rw [Int32.lt_iff_toInt_lt] at c22_189
    obtain rfl : jn = mx + 1 := by omega
    refine own_s T188 (mkF m 107 #[sA a1, sA a2, sA a3, sA lc, sI cd, sI ln, s6, s7] [(.ref a1)]) (fun t k => ?_) ?_
    ·exact XS.aloadN X188.here hx rfl (D10 hby 58 rfl) rfl rfl k
    obtain ⟨T190, X190, e190, st190⟩ := getF X188 hx hZ hown (host := "") (Or.inl (own_hw hw 17 rfl)) Via.refl e188 f177 (g := (mkF m 107 #[sA a1, sA a2, sA a3, sA lc, sI cd, sI ln, s6, s7] [(.ref a1)])) rfl rfl (D10 hby 59 rfl)
    refine OwnWp.step st190 ?_
    refine own_s T190 (mkF m 111 #[sA a1, sA a2, sA a3, sA lc, sI cd, sI ln, s6, s7] [(.ref a1), (.ref pl)]) (fun t k => ?_) ?_
    ·exact XS.aloadN X190.here hx rfl (D10 hby 60 rfl) rfl rfl k
    obtain ⟨T191, X191, e191, st191⟩ := getF X190 hx hZ hown (host := "") (Or.inl (own_hw hw 51 rfl)) Via.refl e190 f179 (g := (mkF m 111 #[sA a1, sA a2, sA a3, sA lc, sI cd, sI ln, s6, s7] [(.ref a1), (.ref pl)])) rfl rfl (D10 hby 61 rfl)
    refine OwnWp.step st191 ?_
    refine own_s T191 (mkF m 117 #[sA a1, sA a2, sA a3, sA lc, sI cd, sI ln, s6, s7] [(.ref a1), (.int (mxI + (1 : Int32))), (.ref pl)]) (fun t k => ?_) ?_
    ·refine XT.iconstV X191.here hx rfl (1 : Int32) (D10 hby 62 rfl) rfl ?_
     refine XS.iadd X191.here hx rfl (D10 hby 63 rfl) rfl ?_
     exact XS.aloadN X191.here hx rfl (D10 hby 64 rfl) rfl rfl k
    obtain ⟨T192, X192, e192, st192⟩ := getF X191 hx hZ hown (host := "") (Or.inl (own_hw hw 17 rfl)) Via.refl e191 f177 (g := (mkF m 117 #[sA a1, sA a2, sA a3, sA lc, sI cd, sI ln, s6, s7] [(.ref a1), (.int (mxI + (1 : Int32))), (.ref pl)])) rfl rfl (D10 hby 65 rfl)
    refine OwnWp.step st192 ?_
    refine own_s T192 (mkF m 123 #[sA a1, sA a2, sA a3, sA lc, sI cd, sI ln, s6, s7] [(.int cd), (.int (17 : Int32)), (.int (mxI + (1 : Int32))), (.ref pl)]) (fun t k => ?_) ?_
    ·refine OwnA.alen X192 hx hZ e192 f184 rfl rfl (D10 hby 66 rfl) ?_
     exact XS.iload X192.here hx rfl (D10 hby 67 rfl) rfl k
    obtain ⟨w1, qw1⟩ : ∃ z : Int32, z = (mxI + (1 : Int32)) := ⟨_, rfl⟩
    rw [← qw1]
    show OwnWp p e below s _ _ _ (T192.setTop (mkF m 123 #[sA a1, sA a2, sA a3, sA lc, sI cd, sI ln, s6, s7] [(.int cd), (.int (17 : Int32)), (.int w1), (.ref pl)]))
    have hlo : w1.toInt = ((mx + 1 : Nat) : Int) := by rw [qw1]; exact own_inc hmI (by omega)
    obtain ⟨_, _, ⟨T193, L193, k193, n193⟩, -, X193, ⟨Lc193, hQ193, l193, y193, z193⟩, st193⟩ := Jvm.LawKit.callS X192 hx (y := Mn4) hown (mvT hZ (own_hw hw 68 rfl)) (mvT hZ (own_hw hw 69 rfl)) (mvT hZ (own_hw hw 34 rfl)) (mvT hZ (own_hw hw 70 rfl)) (by decide) (backOf (W := 0) (rm11 l Z a0 hw [] pl w1 (17 : Int32) cd (17 : Int32) gp h168 n0 Z168 g3 f184 (by omega) (by rw [show (17 : Int32).toInt = 17 from rfl]; omega) (Int.le_refl _)) hZ (own_hw hw 70 rfl) (own_hw hw 34 rfl) (by decide) (by decide)) (g := (mkF m 123 #[sA a1, sA a2, sA a3, sA lc, sI cd, sI ln, s6, s7] [(.int cd), (.int (17 : Int32)), (.int w1), (.ref pl)])) rfl (by rw [hml]; rfl) (argsL := [(.ref pl), (.int w1), (.int (17 : Int32)), (.int cd)]) (rest := []) (lenOf pd_11 rfl) rfl (by show 2 * 0 + _ ≤ _; exact Nat.le_of_eq rfl) (D10 hby 68 rfl) (fun _ _ => ⟨rfl, e192, (by dsimp only [Pt.cells]; decide), (by dsimp only [Pt.slots]; decide)⟩)
    dsimp only [Pt.U, Pt.locs, Pt.cells, Pt.slots] at X193 l193 y193 z193 st193 hQ193
    subst l193 y193 z193
    obtain ⟨rfl, Nc193, Kc193, aa193⟩ := hQ193
    have N193 := Fr.app N168 Nc193
    refine OwnWp.step st193 ?_
    have Z193 : n0 ≤ T193.heap.size := Nat.le_trans Z168 Kc193.1
    have f194 := Exa.keep f169 Kc193
    have f195 := Fld.keep f170 Kc193 (ninS n3 nin0)
    have f196 := Fld.keep f171 Kc193 (ninS n3 nin0)
    have f197 := Fld.keep f172 Kc193 (ninS n3 nin0)
    have f198 := Fld.keep f173 Kc193 (ninS n3 nin0)
    have f199 := Fld.keep f174 Kc193 (ninS n3 nin0)
    have f200 := Fld.keep f175 Kc193 (ninS n3 nin0)
    have f201 := Fld.keep f176 Kc193 (ninS n3 nin0)
    have f202 := Fld.keep f177 Kc193 (ninS n3 nin0)
    have f203 := Fld.keep f178 Kc193 (ninS n3 nin0)
    have f204 := Fld.keep f179 Kc193 (ninS n3 nin0)
    have f205 := Fld.keep f180 Kc193 (ninS n3 nin0)
    have f206 := Fld.keep f181 Kc193 (ninS n3 nin0)
    have f207 := OwnA.keep f182 Kc193 (ninS n5 nin0)
    have f208 := OwnA.keep f183 Kc193 (ninS n6 nin0)
    have f210 := OwnA.keep f185 Kc193 (ninS n10 nin0)
    have f211 := OwnA.keep f186 Kc193 (ninS n14 nin0)
    have K212 := Keep.trans K187 Kc193 (allS (Or.inl (List.mem_of_getElem? (i := 3) rfl)) all0)
    show OwnWp p e below s _ _ _ (T193.setTop (mkF m 126 #[sA a1, sA a2, sA a3, sA lc, sI cd, sI ln, s6, s7] []))
    obtain ⟨gq, hgq⟩ : ∃ z : Int → Int32, z = (own_rng gp w1.toInt (17 : Int32).toInt cd) := ⟨_, rfl⟩
    have f213 : OwnA Z T193.heap pl .int (17 : Int32) (fun zi => .int (gq zi)) := by rw [hgq]; exact aa193
    have hpq : own_plA (own_num (own_L Lf) 256) 17 gq := by rw [hgq]; exact own_plfin hm hpA hcd hlo
    refine own_s T193 (mkF m 129 #[sA a1, sA a2, sA a3, sA lc, sI cd, sI (0 : Int32), s6, s7] []) (fun t k => ?_) ?_
    ·refine XT.iconstV X193.here hx rfl (0 : Int32) (D10 hby 69 rfl) rfl ?_
     exact XS.istore X193.here hx rfl (D10 hby 70 rfl) rfl (l' := #[sA a1, sA a2, sA a3, sA lc, sI cd, sI (0 : Int32), s6, s7]) rfl k
    refine own_s T193 (mkF m 143 #[sA a1, sA a2, sA a3, sA lc, sI cd, sI (0 : Int32), s6, s7] [(.int cd), (.int (0 : Int32)), (.ref lc)]) (fun t k => ?_) ?_
    ·refine XS.iload X193.here hx rfl (D10 hby 71 rfl) rfl ?_
     refine XT.iconstV X193.here hx rfl (4 : Int32) (D10 hby 72 rfl) rfl ?_
     refine XS.icmpNo X193.here hx rfl (D10 hby 73 rfl) rfl (XT.ii_ge_f (by decide)) ?_
     refine XS.aloadN X193.here hx rfl (D10 hby 74 rfl) rfl rfl ?_
     refine XS.iload X193.here hx rfl (D10 hby 75 rfl) rfl ?_
     refine XT.bipushV X193.here hx rfl (16 : Int32) (D10 hby 76 rfl) rfl ?_
     refine XS.imul X193.here hx rfl (D10 hby 77 rfl) rfl ?_
     exact XS.iload X193.here hx rfl (D10 hby 78 rfl) rfl k
    obtain ⟨T214, h214, L214, X214, e214, N214, K214, F214, st214⟩ := OwnA.stI X193 hx hZ (rfl : T193.heap = T193.heap) N193 g1 f207 (by decide) (by decide) (g := (mkF m 143 #[sA a1, sA a2, sA a3, sA lc, sI cd, sI (0 : Int32), s6, s7] [(.int cd), (.int (0 : Int32)), (.ref lc)])) rfl rfl (D10 hby 79 rfl)
    refine OwnWp.step st214 ?_
    have Z214 : n0 ≤ h214.size := Nat.le_trans Z193 K214.1
    have f215 := Exa.keep f194 K214
    have f216 := Fld.keep f195 K214 (ninS n1 nin0)
    have f217 := Fld.keep f196 K214 (ninS n1 nin0)
    have f218 := Fld.keep f197 K214 (ninS n1 nin0)
    have f219 := Fld.keep f198 K214 (ninS n1 nin0)
    have f220 := Fld.keep f199 K214 (ninS n1 nin0)
    have f221 := Fld.keep f200 K214 (ninS n1 nin0)
    have f222 := Fld.keep f201 K214 (ninS n1 nin0)
    have f223 := Fld.keep f202 K214 (ninS n1 nin0)
    have f224 := Fld.keep f203 K214 (ninS n1 nin0)
    have f225 := Fld.keep f204 K214 (ninS n1 nin0)
    have f226 := Fld.keep f205 K214 (ninS n1 nin0)
    have f227 := Fld.keep f206 K214 (ninS n1 nin0)
    have f228 := OwnA.keep f208 K214 (ninS n4.symm nin0)
    have f229 := OwnA.keep f210 K214 (ninS n8 nin0)
    have f230 := OwnA.keep f211 K214 (ninS n12 nin0)
    have f231 := OwnA.keep f213 K214 (ninS n5.symm nin0)
    have F232 : OwnA Z h214 lc .int (64 : Int32) (fun zi => .int ((ownUpd g (0 : Int32).toInt cd) zi)) := F214.congr (fun zi _ _ => by exact ownUpd_int g _ _ zi)
    have K233 := Keep.trans K212 K214 (allS (Or.inl (List.mem_of_getElem? (i := 1) rfl)) all0)
    show OwnWp p e below s _ _ _ (T214.setTop (mkF m 144 #[sA a1, sA a2, sA a3, sA lc, sI cd, sI (0 : Int32), s6, s7] []))
    obtain ⟨gm0, hgm0⟩ : ∃ z : Int → Int32, z = (ownUpd g (0 : Int32).toInt cd) := ⟨_, rfl⟩
    have f234 : OwnA Z h214 lc .int (64 : Int32) (fun zi => .int (gm0 zi)) := by rw [hgm0]; exact F232
    refine own_s T214 (mkF m 147 #[sA a1, sA a2, sA a3, sA lc, sI cd, sI (1 : Int32), s6, s7] []) (fun t k => ?_) ?_
    ·exact XT.iincV X214.here hx rfl (1 : Int32) (D10 hby 80 rfl) rfl rfl (l' := #[sA a1, sA a2, sA a3, sA lc, sI cd, sI (1 : Int32), s6, s7]) rfl k
    refine own_s T214 (mkF m 129 #[sA a1, sA a2, sA a3, sA lc, sI cd, sI (1 : Int32), s6, s7] []) (fun t k => ?_) ?_
    ·exact XS.goto X214.here hx rfl (pc0 := 147) (pc' := 129) rfl (D10 hby 81 rfl) (by decide) (by decide) k
    refine own_s T214 (mkF m 143 #[sA a1, sA a2, sA a3, sA lc, sI cd, sI (1 : Int32), s6, s7] [(.int cd), (.int (16 : Int32)), (.ref lc)]) (fun t k => ?_) ?_
    ·refine XS.iload X214.here hx rfl (D10 hby 71 rfl) rfl ?_
     refine XT.iconstV X214.here hx rfl (4 : Int32) (D10 hby 72 rfl) rfl ?_
     refine XS.icmpNo X214.here hx rfl (D10 hby 73 rfl) rfl (XT.ii_ge_f (by decide)) ?_
     refine XS.aloadN X214.here hx rfl (D10 hby 74 rfl) rfl rfl ?_
     refine XS.iload X214.here hx rfl (D10 hby 75 rfl) rfl ?_
     refine XT.bipushV X214.here hx rfl (16 : Int32) (D10 hby 76 rfl) rfl ?_
     refine XS.imul X214.here hx rfl (D10 hby 77 rfl) rfl ?_
     exact XS.iload X214.here hx rfl (D10 hby 78 rfl) rfl k
    obtain ⟨T235, h235, L235, X235, e235, N235, K235, F235, st235⟩ := OwnA.stI X214 hx hZ e214 N214 g1 f234 (by decide) (by decide) (g := (mkF m 143 #[sA a1, sA a2, sA a3, sA lc, sI cd, sI (1 : Int32), s6, s7] [(.int cd), (.int (16 : Int32)), (.ref lc)])) rfl rfl (D10 hby 79 rfl)
    refine OwnWp.step st235 ?_
    have Z235 : n0 ≤ h235.size := Nat.le_trans Z214 K235.1
    have f236 := Exa.keep f215 K235
    have f237 := Fld.keep f216 K235 (ninS n1 nin0)
    have f238 := Fld.keep f217 K235 (ninS n1 nin0)
    have f239 := Fld.keep f218 K235 (ninS n1 nin0)
    have f240 := Fld.keep f219 K235 (ninS n1 nin0)
    have f241 := Fld.keep f220 K235 (ninS n1 nin0)
    have f242 := Fld.keep f221 K235 (ninS n1 nin0)
    have f243 := Fld.keep f222 K235 (ninS n1 nin0)
    have f244 := Fld.keep f223 K235 (ninS n1 nin0)
    have f245 := Fld.keep f224 K235 (ninS n1 nin0)
    have f246 := Fld.keep f225 K235 (ninS n1 nin0)
    have f247 := Fld.keep f226 K235 (ninS n1 nin0)
    have f248 := Fld.keep f227 K235 (ninS n1 nin0)
    have f249 := OwnA.keep f228 K235 (ninS n4.symm nin0)
    have f250 := OwnA.keep f229 K235 (ninS n8 nin0)
    have f251 := OwnA.keep f230 K235 (ninS n12 nin0)
    have f252 := OwnA.keep f231 K235 (ninS n5.symm nin0)
    have F253 : OwnA Z h235 lc .int (64 : Int32) (fun zi => .int ((ownUpd gm0 (16 : Int32).toInt cd) zi)) := F235.congr (fun zi _ _ => by exact ownUpd_int gm0 _ _ zi)
    have K254 := Keep.trans K233 K235 (allS (Or.inl (List.mem_of_getElem? (i := 1) rfl)) all0)
    show OwnWp p e below s _ _ _ (T235.setTop (mkF m 144 #[sA a1, sA a2, sA a3, sA lc, sI cd, sI (1 : Int32), s6, s7] []))
    obtain ⟨gm1, hgm1⟩ : ∃ z : Int → Int32, z = (ownUpd gm0 (16 : Int32).toInt cd) := ⟨_, rfl⟩
    have f255 : OwnA Z h235 lc .int (64 : Int32) (fun zi => .int (gm1 zi)) := by rw [hgm1]; exact F253
    refine own_s T235 (mkF m 147 #[sA a1, sA a2, sA a3, sA lc, sI cd, sI (2 : Int32), s6, s7] []) (fun t k => ?_) ?_
    ·exact XT.iincV X235.here hx rfl (1 : Int32) (D10 hby 80 rfl) rfl rfl (l' := #[sA a1, sA a2, sA a3, sA lc, sI cd, sI (2 : Int32), s6, s7]) rfl k
    refine own_s T235 (mkF m 129 #[sA a1, sA a2, sA a3, sA lc, sI cd, sI (2 : Int32), s6, s7] []) (fun t k => ?_) ?_
    ·exact XS.goto X235.here hx rfl (pc0 := 147) (pc' := 129) rfl (D10 hby 81 rfl) (by decide) (by decide) k
    refine own_s T235 (mkF m 143 #[sA a1, sA a2, sA a3, sA lc, sI cd, sI (2 : Int32), s6, s7] [(.int cd), (.int (32 : Int32)), (.ref lc)]) (fun t k => ?_) ?_
    ·refine XS.iload X235.here hx rfl (D10 hby 71 rfl) rfl ?_
     refine XT.iconstV X235.here hx rfl (4 : Int32) (D10 hby 72 rfl) rfl ?_
     refine XS.icmpNo X235.here hx rfl (D10 hby 73 rfl) rfl (XT.ii_ge_f (by decide)) ?_
     refine XS.aloadN X235.here hx rfl (D10 hby 74 rfl) rfl rfl ?_
     refine XS.iload X235.here hx rfl (D10 hby 75 rfl) rfl ?_
     refine XT.bipushV X235.here hx rfl (16 : Int32) (D10 hby 76 rfl) rfl ?_
     refine XS.imul X235.here hx rfl (D10 hby 77 rfl) rfl ?_
     exact XS.iload X235.here hx rfl (D10 hby 78 rfl) rfl k
    obtain ⟨T256, h256, L256, X256, e256, N256, K256, F256, st256⟩ := OwnA.stI X235 hx hZ e235 N235 g1 f255 (by decide) (by decide) (g := (mkF m 143 #[sA a1, sA a2, sA a3, sA lc, sI cd, sI (2 : Int32), s6, s7] [(.int cd), (.int (32 : Int32)), (.ref lc)])) rfl rfl (D10 hby 79 rfl)
    refine OwnWp.step st256 ?_
    have Z256 : n0 ≤ h256.size := Nat.le_trans Z235 K256.1
    have f257 := Exa.keep f236 K256
    have f258 := Fld.keep f237 K256 (ninS n1 nin0)
    have f259 := Fld.keep f238 K256 (ninS n1 nin0)
    have f260 := Fld.keep f239 K256 (ninS n1 nin0)
    have f261 := Fld.keep f240 K256 (ninS n1 nin0)
    have f262 := Fld.keep f241 K256 (ninS n1 nin0)
    have f263 := Fld.keep f242 K256 (ninS n1 nin0)
    have f264 := Fld.keep f243 K256 (ninS n1 nin0)
    have f265 := Fld.keep f244 K256 (ninS n1 nin0)
    have f266 := Fld.keep f245 K256 (ninS n1 nin0)
    have f267 := Fld.keep f246 K256 (ninS n1 nin0)
    have f268 := Fld.keep f247 K256 (ninS n1 nin0)
    have f269 := Fld.keep f248 K256 (ninS n1 nin0)
    have f270 := OwnA.keep f249 K256 (ninS n4.symm nin0)
    have f271 := OwnA.keep f250 K256 (ninS n8 nin0)
    have f272 := OwnA.keep f251 K256 (ninS n12 nin0)
    have f273 := OwnA.keep f252 K256 (ninS n5.symm nin0)
    have F274 : OwnA Z h256 lc .int (64 : Int32) (fun zi => .int ((ownUpd gm1 (32 : Int32).toInt cd) zi)) := F256.congr (fun zi _ _ => by exact ownUpd_int gm1 _ _ zi)
    have K275 := Keep.trans K254 K256 (allS (Or.inl (List.mem_of_getElem? (i := 1) rfl)) all0)
    show OwnWp p e below s _ _ _ (T256.setTop (mkF m 144 #[sA a1, sA a2, sA a3, sA lc, sI cd, sI (2 : Int32), s6, s7] []))
    obtain ⟨gm2, hgm2⟩ : ∃ z : Int → Int32, z = (ownUpd gm1 (32 : Int32).toInt cd) := ⟨_, rfl⟩
    have f276 : OwnA Z h256 lc .int (64 : Int32) (fun zi => .int (gm2 zi)) := by rw [hgm2]; exact F274
    refine own_s T256 (mkF m 147 #[sA a1, sA a2, sA a3, sA lc, sI cd, sI (3 : Int32), s6, s7] []) (fun t k => ?_) ?_
    ·exact XT.iincV X256.here hx rfl (1 : Int32) (D10 hby 80 rfl) rfl rfl (l' := #[sA a1, sA a2, sA a3, sA lc, sI cd, sI (3 : Int32), s6, s7]) rfl k
    refine own_s T256 (mkF m 129 #[sA a1, sA a2, sA a3, sA lc, sI cd, sI (3 : Int32), s6, s7] []) (fun t k => ?_) ?_
    ·exact XS.goto X256.here hx rfl (pc0 := 147) (pc' := 129) rfl (D10 hby 81 rfl) (by decide) (by decide) k
    refine own_s T256 (mkF m 143 #[sA a1, sA a2, sA a3, sA lc, sI cd, sI (3 : Int32), s6, s7] [(.int cd), (.int (48 : Int32)), (.ref lc)]) (fun t k => ?_) ?_
    ·refine XS.iload X256.here hx rfl (D10 hby 71 rfl) rfl ?_
     refine XT.iconstV X256.here hx rfl (4 : Int32) (D10 hby 72 rfl) rfl ?_
     refine XS.icmpNo X256.here hx rfl (D10 hby 73 rfl) rfl (XT.ii_ge_f (by decide)) ?_
     refine XS.aloadN X256.here hx rfl (D10 hby 74 rfl) rfl rfl ?_
     refine XS.iload X256.here hx rfl (D10 hby 75 rfl) rfl ?_
     refine XT.bipushV X256.here hx rfl (16 : Int32) (D10 hby 76 rfl) rfl ?_
     refine XS.imul X256.here hx rfl (D10 hby 77 rfl) rfl ?_
     exact XS.iload X256.here hx rfl (D10 hby 78 rfl) rfl k
    obtain ⟨T277, h277, L277, X277, e277, N277, K277, F277, st277⟩ := OwnA.stI X256 hx hZ e256 N256 g1 f276 (by decide) (by decide) (g := (mkF m 143 #[sA a1, sA a2, sA a3, sA lc, sI cd, sI (3 : Int32), s6, s7] [(.int cd), (.int (48 : Int32)), (.ref lc)])) rfl rfl (D10 hby 79 rfl)
    refine OwnWp.step st277 ?_
    have Z277 : n0 ≤ h277.size := Nat.le_trans Z256 K277.1
    have f278 := Exa.keep f257 K277
    have f279 := Fld.keep f258 K277 (ninS n1 nin0)
    have f280 := Fld.keep f259 K277 (ninS n1 nin0)
    have f281 := Fld.keep f260 K277 (ninS n1 nin0)
    have f282 := Fld.keep f261 K277 (ninS n1 nin0)
    have f283 := Fld.keep f262 K277 (ninS n1 nin0)
    have f284 := Fld.keep f263 K277 (ninS n1 nin0)
    have f285 := Fld.keep f264 K277 (ninS n1 nin0)
    have f286 := Fld.keep f265 K277 (ninS n1 nin0)
    have f287 := Fld.keep f266 K277 (ninS n1 nin0)
    have f288 := Fld.keep f267 K277 (ninS n1 nin0)
    have f289 := Fld.keep f268 K277 (ninS n1 nin0)
    have f290 := Fld.keep f269 K277 (ninS n1 nin0)
    have f291 := OwnA.keep f270 K277 (ninS n4.symm nin0)
    have f292 := OwnA.keep f271 K277 (ninS n8 nin0)
    have f293 := OwnA.keep f272 K277 (ninS n12 nin0)
    have f294 := OwnA.keep f273 K277 (ninS n5.symm nin0)
    have F295 : OwnA Z h277 lc .int (64 : Int32) (fun zi => .int ((ownUpd gm2 (48 : Int32).toInt cd) zi)) := F277.congr (fun zi _ _ => by exact ownUpd_int gm2 _ _ zi)
    have K296 := Keep.trans K275 K277 (allS (Or.inl (List.mem_of_getElem? (i := 1) rfl)) all0)
    show OwnWp p e below s _ _ _ (T277.setTop (mkF m 144 #[sA a1, sA a2, sA a3, sA lc, sI cd, sI (3 : Int32), s6, s7] []))
    obtain ⟨gm3, hgm3⟩ : ∃ z : Int → Int32, z = (ownUpd gm2 (48 : Int32).toInt cd) := ⟨_, rfl⟩
    have f297 : OwnA Z h277 lc .int (64 : Int32) (fun zi => .int (gm3 zi)) := by rw [hgm3]; exact F295
    refine own_s T277 (mkF m 147 #[sA a1, sA a2, sA a3, sA lc, sI cd, sI (4 : Int32), s6, s7] []) (fun t k => ?_) ?_
    ·exact XT.iincV X277.here hx rfl (1 : Int32) (D10 hby 80 rfl) rfl rfl (l' := #[sA a1, sA a2, sA a3, sA lc, sI cd, sI (4 : Int32), s6, s7]) rfl k
    refine own_s T277 (mkF m 129 #[sA a1, sA a2, sA a3, sA lc, sI cd, sI (4 : Int32), s6, s7] []) (fun t k => ?_) ?_
    ·exact XS.goto X277.here hx rfl (pc0 := 147) (pc' := 129) rfl (D10 hby 81 rfl) (by decide) (by decide) k
    have hp0 := own_plc0 hm15 hA hcd hgm0 hgm1 hgm2 hgm3
    obtain ⟨w2, qw2⟩ : ∃ z : Int32, z = ((256 : Int32) / (4 : Int32)) := ⟨_, rfl⟩
    refine own_s T277 (mkF m 156 #[sA a1, sA a2, sA a3, sA lc, sI cd, sI w2, s6, s7] []) (fun t k => ?_) ?_
    ·refine XS.iload X277.here hx rfl (D10 hby 71 rfl) rfl ?_
     refine XT.iconstV X277.here hx rfl (4 : Int32) (D10 hby 72 rfl) rfl ?_
     refine XS.icmpYes X277.here hx rfl (pc0 := 132) (pc' := 150) rfl (D10 hby 73 rfl) rfl (XT.ii_ge_t (by decide)) (by decide) (by decide) ?_
     refine XS.aloadN X277.here hx rfl (D10 hby 82 rfl) rfl rfl ?_
     refine OwnA.alen X277 hx hZ e277 f292 rfl rfl (D10 hby 83 rfl) ?_
     refine XT.iconstV X277.here hx rfl (4 : Int32) (D10 hby 84 rfl) rfl ?_
     refine XS.idiv X277.here hx rfl (D10 hby 85 rfl) rfl (by decide) ?_
     refine XS.istore X277.here hx rfl (D10 hby 86 rfl) rfl (l' := #[sA a1, sA a2, sA a3, sA lc, sI cd, sI ((256 : Int32) / (4 : Int32)), s6, s7]) rfl ?_
     rw [qw2] at k
     exact k
    obtain rfl : w2 = (64 : Int32) := by rw [qw2]; decide
    refine own_s T277 (mkF m 157 #[sA a1, sA a2, sA a3, sA lc, sI cd, sI (64 : Int32), s6, s7] [(.ref a1)]) (fun t k => ?_) ?_
    ·exact XS.aloadN X277.here hx rfl (D10 hby 87 rfl) rfl rfl k
    obtain ⟨T298, X298, e298, st298⟩ := getF X277 hx hZ hown (host := "") (Or.inl (own_hw hw 13 rfl)) Via.refl e277 f284 (g := (mkF m 157 #[sA a1, sA a2, sA a3, sA lc, sI cd, sI (64 : Int32), s6, s7] [(.ref a1)])) rfl rfl (D10 hby 88 rfl)
    refine OwnWp.step st298 ?_
    refine own_s T298 (mkF m 165 #[sA a1, sA a2, sA a3, sA lc, sI cd, sI (64 : Int32), sA od, sI (0 : Int32)] []) (fun t k => ?_) ?_
    ·refine XS.astoreS X298.here hx rfl (D10 hby 89 rfl) rfl rfl rfl (o := s6) rfl hs6 ?_
     refine XT.iconstV X298.here hx rfl (0 : Int32) (D10 hby 90 rfl) rfl ?_
     exact XS.istoreS X298.here hx rfl (D10 hby 91 rfl) rfl (o := s7) rfl hs7 k
    have hl2 : ∀ (k : Nat) (T299 : State) (h299 : Heap) (L299 : List Loc) (i : Int32) (mm : Nat) (gg : Int → Int32) (go : Int → Int32) (X299 : Stand p l e Rm6 s m #[(.ref a1), (.ref a2), (.ref a3)] below meth c T299 L299 0 0) (e299 : T299.heap = h299) (N299 : Fr n0 L299) (Z299 : n0 ≤ h299.size) (f300 : Exa Z h299 a1 DTn) (f301 : Fld Z h299 a1 DTn "entries" "[I" (.ref en)) (f302 : Fld Z h299 a1 DTn "firstBits" "I" (.int fbI)) (f303 : Fld Z h299 a1 DTn "width" "I" (.int wdI)) (f304 : Fld Z h299 a1 DTn "expectedBits" "I" (.int eb0)) (f305 : Fld Z h299 a1 DTn "codeLengths" "[I" (.ref a2)) (f306 : Fld Z h299 a1 DTn "order" "[I" (.ref od)) (f307 : Fld Z h299 a1 DTn "laneCounts" "[I" (.ref lc)) (f308 : Fld Z h299 a1 DTn "places" "[I" (.ref pl)) (f309 : Fld Z h299 a1 DTn "shortest" "I" (.int sh)) (f310 : Fld Z h299 a1 DTn "longest" "I" (.int mxI)) (f311 : Fld Z h299 a1 DTn "follows" "[I" (.ref fw)) (f312 : Fld Z h299 a1 DTn "lasts" "[I" (.ref ls)) (f313 : OwnA Z h299 od .int (256 : Int32) (fun zi => .int (go zi))) (f314 : OwnA Z h299 a2 .int (256 : Int32) (fun zi => .int (Lf zi))) (f315 : OwnA Z h299 a3 .int nn (fun zi => .int (fb zi))) (f316 : OwnA Z h299 pl .int (17 : Int32) (fun zi => .int (gq zi))) (f317 : OwnA Z h299 lc .int (64 : Int32) (fun zi => .int (gg zi))) (K318 : Keep h0 h299 [a1, lc, od, pl]) (hi : i.toInt = (mm : Int)) (hk2 : mm + k = 64) (hpl : own_plc (own_L Lf) mx (fun _ => mm) gg) (hor : own_ord (own_L Lf) (fun _ => mm) go) (hby2 : own_byte go), OwnWp p e below s Rm6.cells Rm6.slots (Q10 Z a1 a2 a3 lc od pl en fw ls gc fo fp Lf fb nn mxI sh0 fbI wdI eb0 mx h0 n0) (T299.setTop (mkF m 165 #[sA a1, sA a2, sA a3, sA lc, sI cd, sI (64 : Int32), sA od, sI i] [])) := by
     intro k
     induction k with
     | zero =>
      intro T299 h299 L299 i mm gg go X299 e299 N299 Z299 f300 f301 f302 f303 f304 f305 f306 f307 f308 f309 f310 f311 f312 f313 f314 f315 f316 f317 K318 hi hk2 hpl hor hby2
      refine own_s T299 (mkF m 169 #[sA a1, sA a2, sA a3, sA lc, sI cd, sI (64 : Int32), sA od, sI i] [(.int (64 : Int32)), (.int i)]) (fun t k => ?_) ?_
      ·refine XS.iload X299.here hx rfl (D10 hby 92 rfl) rfl ?_
       exact XS.iload X299.here hx rfl (D10 hby 93 rfl) rfl k
      by_cases c169_319 : i < (64 : Int32)
      ·refine own_s T299 (mkF m 172 #[sA a1, sA a2, sA a3, sA lc, sI cd, sI (64 : Int32), sA od, sI i] []) (fun t k => ?_) ?_
       ·exact XS.icmpNo X299.here hx rfl (D10 hby 94 rfl) rfl (XT.ii_ge_f c169_319) k
       rw [Int32.lt_iff_toInt_lt, show (64 : Int32).toInt = 64 from rfl] at c169_319
       exact absurd c169_319 (by omega)
      ·refine own_s T299 (mkF m 277 #[sA a1, sA a2, sA a3, sA lc, sI cd, sI (64 : Int32), sA od, sI i] []) (fun t k => ?_) ?_
       ·exact XS.icmpYes X299.here hx rfl (pc0 := 169) (pc' := 277) rfl (D10 hby 94 rfl) rfl (XT.ii_ge_t c169_319) (by decide) (by decide) k
       rw [Int32.lt_iff_toInt_lt, show (64 : Int32).toInt = 64 from rfl] at c169_319
       obtain rfl : mm = 64 := by omega
       refine own_s T299 (mkF m 315 #[sA a1, sA a2, sA a3, sA lc, sI cd, sI (64 : Int32), sA od, sI (256 : Int32)] []) (fun t k => ?_) ?_
       ·refine XT.iconstV X299.here hx rfl (4 : Int32) (D10 hby 175 rfl) rfl ?_
        refine XS.iload X299.here hx rfl (D10 hby 176 rfl) rfl ?_
        refine XS.imul X299.here hx rfl (D10 hby 177 rfl) rfl ?_
        refine XS.istore X299.here hx rfl (D10 hby 178 rfl) rfl (l' := #[sA a1, sA a2, sA a3, sA lc, sI cd, sI (64 : Int32), sA od, sI (256 : Int32)]) rfl ?_
        refine XS.iload X299.here hx rfl (D10 hby 179 rfl) rfl ?_
        refine XS.aloadN X299.here hx rfl (D10 hby 180 rfl) rfl rfl ?_
        refine OwnA.alen X299 hx hZ e299 f314 rfl rfl (D10 hby 181 rfl) ?_
        exact XS.icmpYes X299.here hx rfl (pc0 := 287) (pc' := 315) rfl (D10 hby 182 rfl) rfl (XT.ii_ge_t (by decide)) (by decide) (by decide) k
       refine OwnWp.retV X299 hx hlk Bd.returns (D10 hby 183 rfl) (by decide) (by decide) ?_
       rw [e299]
       exact ⟨rfl, N299, K318, sh, gg, go, gq, f301, f302, f303, f304, f305, f306, f307, f308, f309, f310, f311, f312, f317, f313, f316, hsA, hpq, hor, hby2⟩
     | succ k ih =>
      intro T299 h299 L299 i mm gg go X299 e299 N299 Z299 f300 f301 f302 f303 f304 f305 f306 f307 f308 f309 f310 f311 f312 f313 f314 f315 f316 f317 K318 hi hk2 hpl hor hby2
      refine own_s T299 (mkF m 169 #[sA a1, sA a2, sA a3, sA lc, sI cd, sI (64 : Int32), sA od, sI i] [(.int (64 : Int32)), (.int i)]) (fun t k => ?_) ?_
      ·refine XS.iload X299.here hx rfl (D10 hby 92 rfl) rfl ?_
       exact XS.iload X299.here hx rfl (D10 hby 93 rfl) rfl k
      by_cases c169_320 : i < (64 : Int32)
      ·refine own_s T299 (mkF m 172 #[sA a1, sA a2, sA a3, sA lc, sI cd, sI (64 : Int32), sA od, sI i] []) (fun t k => ?_) ?_
       ·exact XS.icmpNo X299.here hx rfl (D10 hby 94 rfl) rfl (XT.ii_ge_f c169_320) k
       rw [Int32.lt_iff_toInt_lt, show (64 : Int32).toInt = 64 from rfl] at c169_320
       have pl0 : own_plc (own_L Lf) mx (own_P mm 0) gg := fun a ha => by rw [show own_P mm 0 a = mm from if_neg (by omega)]; exact hpl a ha
       have or0 : own_ord (own_L Lf) (own_P mm 0) go := fun a ha i hi => hor a ha i (by rw [show own_P mm 0 a = mm from if_neg (by omega)] at hi; exact hi)
       have by0 := hby2
       have pa0 : own_P mm 0 0 = mm := if_neg (by omega)
       have ia0 := own_place hL hm pl0 0 (by decide) (by rw [pa0]; omega) (j := (Lf i.toInt).toInt) (by rw [pa0]; exact (own_jx0 hL hi hk2).2.2)
       refine own_s T299 (mkF m 184 #[sA a1, sA a2, sA a3, sA lc, sI cd, sI (64 : Int32), sA od, sI i] [(.int ((gg (Lf i.toInt).toInt) + (1 : Int32))), (.int (Lf i.toInt)), (.ref lc), (.int (gg (Lf i.toInt).toInt)), (.ref od)]) (fun t k => ?_) ?_
       ·refine XS.aload X299.here hx rfl (D10 hby 95 rfl) rfl rfl ?_
        refine XS.aloadN X299.here hx rfl (D10 hby 96 rfl) rfl rfl ?_
        refine XS.aloadN X299.here hx rfl (D10 hby 97 rfl) rfl rfl ?_
        refine XS.iload X299.here hx rfl (D10 hby 98 rfl) rfl ?_
        refine OwnA.ldI X299 hx hZ e299 f314 (own_ix0 hi hk2).1 (own_ix0 hi hk2).2 rfl rfl (D10 hby 99 rfl) ?_
        refine XT.dup2 X299.here hx rfl (D10 hby 100 rfl) rfl rfl rfl ?_
        refine OwnA.ldI X299 hx hZ e299 f317 (own_jx0 hL hi hk2).1 (own_jx0 hL hi hk2).2.1 rfl rfl (D10 hby 101 rfl) ?_
        refine own_dupX2 X299.here hx rfl (D10 hby 102 rfl) rfl rfl rfl rfl ?_
        refine XT.iconstV X299.here hx rfl (1 : Int32) (D10 hby 103 rfl) rfl ?_
        exact XS.iadd X299.here hx rfl (D10 hby 104 rfl) rfl k
       obtain ⟨T321, h321, L321, X321, e321, N321, K321, F321, st321⟩ := OwnA.stI X299 hx hZ e299 N299 g1 f317 (own_jx0 hL hi hk2).1 (own_jx0 hL hi hk2).2.1 (g := (mkF m 184 #[sA a1, sA a2, sA a3, sA lc, sI cd, sI (64 : Int32), sA od, sI i] [(.int ((gg (Lf i.toInt).toInt) + (1 : Int32))), (.int (Lf i.toInt)), (.ref lc), (.int (gg (Lf i.toInt).toInt)), (.ref od)])) rfl rfl (D10 hby 105 rfl)
       refine OwnWp.step st321 ?_
       have Z321 : n0 ≤ h321.size := Nat.le_trans Z299 K321.1
       have f322 := Exa.keep f300 K321
       have f323 := Fld.keep f301 K321 (ninS n1 nin0)
       have f324 := Fld.keep f302 K321 (ninS n1 nin0)
       have f325 := Fld.keep f303 K321 (ninS n1 nin0)
       have f326 := Fld.keep f304 K321 (ninS n1 nin0)
       have f327 := Fld.keep f305 K321 (ninS n1 nin0)
       have f328 := Fld.keep f306 K321 (ninS n1 nin0)
       have f329 := Fld.keep f307 K321 (ninS n1 nin0)
       have f330 := Fld.keep f308 K321 (ninS n1 nin0)
       have f331 := Fld.keep f309 K321 (ninS n1 nin0)
       have f332 := Fld.keep f310 K321 (ninS n1 nin0)
       have f333 := Fld.keep f311 K321 (ninS n1 nin0)
       have f334 := Fld.keep f312 K321 (ninS n1 nin0)
       have f335 := OwnA.keep f313 K321 (ninS n4.symm nin0)
       have f336 := OwnA.keep f314 K321 (ninS n8 nin0)
       have f337 := OwnA.keep f315 K321 (ninS n12 nin0)
       have f338 := OwnA.keep f316 K321 (ninS n5.symm nin0)
       have F339 : OwnA Z h321 lc .int (64 : Int32) (fun zi => .int ((ownUpd gg (Lf i.toInt).toInt ((gg (Lf i.toInt).toInt) + (1 : Int32))) zi)) := F321.congr (fun zi _ _ => by exact ownUpd_int gg _ _ zi)
       have K340 := Keep.trans K318 K321 (allS (Or.inl (List.mem_of_getElem? (i := 1) rfl)) all0)
       show OwnWp p e below s _ _ _ (T321.setTop (mkF m 185 #[sA a1, sA a2, sA a3, sA lc, sI cd, sI (64 : Int32), sA od, sI i] [(.int (gg (Lf i.toInt).toInt)), (.ref od)]))
       obtain ⟨gl0, hgl0⟩ : ∃ z : Int → Int32, z = (ownUpd gg (Lf i.toInt).toInt ((gg (Lf i.toInt).toInt) + (1 : Int32))) := ⟨_, rfl⟩
       have f341 : OwnA Z h321 lc .int (64 : Int32) (fun zi => .int (gl0 zi)) := by rw [hgl0]; exact F339
       refine own_s T321 (mkF m 187 #[sA a1, sA a2, sA a3, sA lc, sI cd, sI (64 : Int32), sA od, sI i] [(.int i), (.int (gg (Lf i.toInt).toInt)), (.ref od)]) (fun t k => ?_) ?_
       ·exact XS.iload X321.here hx rfl (D10 hby 106 rfl) rfl k
       obtain ⟨T342, h342, L342, X342, e342, N342, K342, F342, st342⟩ := OwnA.stI X321 hx hZ e321 N321 g2 f335 ia0.1 (by rw [show (256 : Int32).toInt = 256 from rfl]; exact ia0.2.1) (g := (mkF m 187 #[sA a1, sA a2, sA a3, sA lc, sI cd, sI (64 : Int32), sA od, sI i] [(.int i), (.int (gg (Lf i.toInt).toInt)), (.ref od)])) rfl rfl (D10 hby 107 rfl)
       refine OwnWp.step st342 ?_
       have Z342 : n0 ≤ h342.size := Nat.le_trans Z321 K342.1
       have f343 := Exa.keep f322 K342
       have f344 := Fld.keep f323 K342 (ninS n2 nin0)
       have f345 := Fld.keep f324 K342 (ninS n2 nin0)
       have f346 := Fld.keep f325 K342 (ninS n2 nin0)
       have f347 := Fld.keep f326 K342 (ninS n2 nin0)
       have f348 := Fld.keep f327 K342 (ninS n2 nin0)
       have f349 := Fld.keep f328 K342 (ninS n2 nin0)
       have f350 := Fld.keep f329 K342 (ninS n2 nin0)
       have f351 := Fld.keep f330 K342 (ninS n2 nin0)
       have f352 := Fld.keep f331 K342 (ninS n2 nin0)
       have f353 := Fld.keep f332 K342 (ninS n2 nin0)
       have f354 := Fld.keep f333 K342 (ninS n2 nin0)
       have f355 := Fld.keep f334 K342 (ninS n2 nin0)
       have f356 := OwnA.keep f336 K342 (ninS n9 nin0)
       have f357 := OwnA.keep f337 K342 (ninS n13 nin0)
       have f358 := OwnA.keep f338 K342 (ninS n6.symm nin0)
       have f359 := OwnA.keep f341 K342 (ninS n4 nin0)
       have F360 : OwnA Z h342 od .int (256 : Int32) (fun zi => .int ((ownUpd go (gg (Lf i.toInt).toInt).toInt i) zi)) := F342.congr (fun zi _ _ => by exact ownUpd_int go _ _ zi)
       have K361 := Keep.trans K340 K342 (allS (Or.inl (List.mem_of_getElem? (i := 2) rfl)) all0)
       show OwnWp p e below s _ _ _ (T342.setTop (mkF m 188 #[sA a1, sA a2, sA a3, sA lc, sI cd, sI (64 : Int32), sA od, sI i] []))
       obtain ⟨gd0, hgd0⟩ : ∃ z : Int → Int32, z = (ownUpd go (gg (Lf i.toInt).toInt).toInt i) := ⟨_, rfl⟩
       have f362 : OwnA Z h342 od .int (256 : Int32) (fun zi => .int (gd0 zi)) := by rw [hgd0]; exact F360
       have od0 := own_ord1 hL hm pl0 or0 by0 0 (by decide) (fun b _ => by unfold own_P; split <;> omega) (by rw [pa0]; omega) (j := (Lf i.toInt).toInt) (by rw [pa0]; exact (own_jx0 hL hi hk2).2.2) (y := i) (by rw [pa0]; exact own_sy0 hi hk2) (P' := own_P mm 1) (fun b hb => own_Pt mm b 0 hb (by decide))
       have pl1 := od0.1
       have or1 := od0.2.1
       have by1 := od0.2.2
       rw [← hgl0] at pl1
       rw [← hgd0] at or1 by1
       have pa1 : own_P mm 1 1 = mm := if_neg (by omega)
       have ia1 := own_place hL hm pl1 1 (by decide) (by rw [pa1]; omega) (j := ((16 : Int32) + (Lf ((64 : Int32) + i).toInt)).toInt) (by rw [pa1]; exact (own_jx1 hL hi hk2).2.2)
       refine own_s T342 (mkF m 206 #[sA a1, sA a2, sA a3, sA lc, sI cd, sI (64 : Int32), sA od, sI i] [(.int ((gl0 ((16 : Int32) + (Lf ((64 : Int32) + i).toInt)).toInt) + (1 : Int32))), (.int ((16 : Int32) + (Lf ((64 : Int32) + i).toInt))), (.ref lc), (.int (gl0 ((16 : Int32) + (Lf ((64 : Int32) + i).toInt)).toInt)), (.ref od)]) (fun t k => ?_) ?_
       ·refine XS.aload X342.here hx rfl (D10 hby 108 rfl) rfl rfl ?_
        refine XS.aloadN X342.here hx rfl (D10 hby 109 rfl) rfl rfl ?_
        refine XT.bipushV X342.here hx rfl (16 : Int32) (D10 hby 110 rfl) rfl ?_
        refine XS.aloadN X342.here hx rfl (D10 hby 111 rfl) rfl rfl ?_
        refine XS.iload X342.here hx rfl (D10 hby 112 rfl) rfl ?_
        refine XS.iload X342.here hx rfl (D10 hby 113 rfl) rfl ?_
        refine XS.iadd X342.here hx rfl (D10 hby 114 rfl) rfl ?_
        refine OwnA.ldI X342 hx hZ e342 f356 (own_ix1 hi hk2).1 (own_ix1 hi hk2).2 rfl rfl (D10 hby 115 rfl) ?_
        refine XS.iadd X342.here hx rfl (D10 hby 116 rfl) rfl ?_
        refine XT.dup2 X342.here hx rfl (D10 hby 117 rfl) rfl rfl rfl ?_
        refine OwnA.ldI X342 hx hZ e342 f359 (own_jx1 hL hi hk2).1 (own_jx1 hL hi hk2).2.1 rfl rfl (D10 hby 118 rfl) ?_
        refine own_dupX2 X342.here hx rfl (D10 hby 119 rfl) rfl rfl rfl rfl ?_
        refine XT.iconstV X342.here hx rfl (1 : Int32) (D10 hby 120 rfl) rfl ?_
        refine XS.iadd X342.here hx rfl (D10 hby 121 rfl) rfl ?_
        show Steps p.tables e below (T342.setTop (mkF m 206 #[sA a1, sA a2, sA a3, sA lc, sI cd, sI (64 : Int32), sA od, sI i] [(.int ((gl0 ((16 : Int32) + (Lf ((64 : Int32) + i).toInt)).toInt) + (1 : Int32))), (.int ((16 : Int32) + (Lf ((64 : Int32) + i).toInt))), (.ref lc), (.int (gl0 ((16 : Int32) + (Lf ((64 : Int32) + i).toInt)).toInt)), (.ref od)])) _
        exact k
       obtain ⟨T363, h363, L363, X363, e363, N363, K363, F363, st363⟩ := OwnA.stI X342 hx hZ e342 N342 g1 f359 (own_jx1 hL hi hk2).1 (own_jx1 hL hi hk2).2.1 (g := (mkF m 206 #[sA a1, sA a2, sA a3, sA lc, sI cd, sI (64 : Int32), sA od, sI i] [(.int ((gl0 ((16 : Int32) + (Lf ((64 : Int32) + i).toInt)).toInt) + (1 : Int32))), (.int ((16 : Int32) + (Lf ((64 : Int32) + i).toInt))), (.ref lc), (.int (gl0 ((16 : Int32) + (Lf ((64 : Int32) + i).toInt)).toInt)), (.ref od)])) rfl rfl (D10 hby 122 rfl)
       refine OwnWp.step st363 ?_
       have Z363 : n0 ≤ h363.size := Nat.le_trans Z342 K363.1
       have f364 := Exa.keep f343 K363
       have f365 := Fld.keep f344 K363 (ninS n1 nin0)
       have f366 := Fld.keep f345 K363 (ninS n1 nin0)
       have f367 := Fld.keep f346 K363 (ninS n1 nin0)
       have f368 := Fld.keep f347 K363 (ninS n1 nin0)
       have f369 := Fld.keep f348 K363 (ninS n1 nin0)
       have f370 := Fld.keep f349 K363 (ninS n1 nin0)
       have f371 := Fld.keep f350 K363 (ninS n1 nin0)
       have f372 := Fld.keep f351 K363 (ninS n1 nin0)
       have f373 := Fld.keep f352 K363 (ninS n1 nin0)
       have f374 := Fld.keep f353 K363 (ninS n1 nin0)
       have f375 := Fld.keep f354 K363 (ninS n1 nin0)
       have f376 := Fld.keep f355 K363 (ninS n1 nin0)
       have f377 := OwnA.keep f356 K363 (ninS n8 nin0)
       have f378 := OwnA.keep f357 K363 (ninS n12 nin0)
       have f379 := OwnA.keep f358 K363 (ninS n5.symm nin0)
       have f380 := OwnA.keep f362 K363 (ninS n4.symm nin0)
       have F381 : OwnA Z h363 lc .int (64 : Int32) (fun zi => .int ((ownUpd gl0 ((16 : Int32) + (Lf ((64 : Int32) + i).toInt)).toInt ((gl0 ((16 : Int32) + (Lf ((64 : Int32) + i).toInt)).toInt) + (1 : Int32))) zi)) := F363.congr (fun zi _ _ => by exact ownUpd_int gl0 _ _ zi)
       have K382 := Keep.trans K361 K363 (allS (Or.inl (List.mem_of_getElem? (i := 1) rfl)) all0)
       show OwnWp p e below s _ _ _ (T363.setTop (mkF m 207 #[sA a1, sA a2, sA a3, sA lc, sI cd, sI (64 : Int32), sA od, sI i] [(.int (gl0 ((16 : Int32) + (Lf ((64 : Int32) + i).toInt)).toInt)), (.ref od)]))
       obtain ⟨gl1, hgl1⟩ : ∃ z : Int → Int32, z = (ownUpd gl0 ((16 : Int32) + (Lf ((64 : Int32) + i).toInt)).toInt ((gl0 ((16 : Int32) + (Lf ((64 : Int32) + i).toInt)).toInt) + (1 : Int32))) := ⟨_, rfl⟩
       have f383 : OwnA Z h363 lc .int (64 : Int32) (fun zi => .int (gl1 zi)) := by rw [hgl1]; exact F381
       refine own_s T363 (mkF m 212 #[sA a1, sA a2, sA a3, sA lc, sI cd, sI (64 : Int32), sA od, sI i] [(.int ((64 : Int32) + i)), (.int (gl0 ((16 : Int32) + (Lf ((64 : Int32) + i).toInt)).toInt)), (.ref od)]) (fun t k => ?_) ?_
       ·refine XS.iload X363.here hx rfl (D10 hby 123 rfl) rfl ?_
        refine XS.iload X363.here hx rfl (D10 hby 124 rfl) rfl ?_
        exact XS.iadd X363.here hx rfl (D10 hby 125 rfl) rfl k
       obtain ⟨T384, h384, L384, X384, e384, N384, K384, F384, st384⟩ := OwnA.stI X363 hx hZ e363 N363 g2 f380 ia1.1 (by rw [show (256 : Int32).toInt = 256 from rfl]; exact ia1.2.1) (g := (mkF m 212 #[sA a1, sA a2, sA a3, sA lc, sI cd, sI (64 : Int32), sA od, sI i] [(.int ((64 : Int32) + i)), (.int (gl0 ((16 : Int32) + (Lf ((64 : Int32) + i).toInt)).toInt)), (.ref od)])) rfl rfl (D10 hby 126 rfl)
       refine OwnWp.step st384 ?_
       have Z384 : n0 ≤ h384.size := Nat.le_trans Z363 K384.1
       have f385 := Exa.keep f364 K384
       have f386 := Fld.keep f365 K384 (ninS n2 nin0)
       have f387 := Fld.keep f366 K384 (ninS n2 nin0)
       have f388 := Fld.keep f367 K384 (ninS n2 nin0)
       have f389 := Fld.keep f368 K384 (ninS n2 nin0)
       have f390 := Fld.keep f369 K384 (ninS n2 nin0)
       have f391 := Fld.keep f370 K384 (ninS n2 nin0)
       have f392 := Fld.keep f371 K384 (ninS n2 nin0)
       have f393 := Fld.keep f372 K384 (ninS n2 nin0)
       have f394 := Fld.keep f373 K384 (ninS n2 nin0)
       have f395 := Fld.keep f374 K384 (ninS n2 nin0)
       have f396 := Fld.keep f375 K384 (ninS n2 nin0)
       have f397 := Fld.keep f376 K384 (ninS n2 nin0)
       have f398 := OwnA.keep f377 K384 (ninS n9 nin0)
       have f399 := OwnA.keep f378 K384 (ninS n13 nin0)
       have f400 := OwnA.keep f379 K384 (ninS n6.symm nin0)
       have f401 := OwnA.keep f383 K384 (ninS n4 nin0)
       have F402 : OwnA Z h384 od .int (256 : Int32) (fun zi => .int ((ownUpd gd0 (gl0 ((16 : Int32) + (Lf ((64 : Int32) + i).toInt)).toInt).toInt ((64 : Int32) + i)) zi)) := F384.congr (fun zi _ _ => by exact ownUpd_int gd0 _ _ zi)
       have K403 := Keep.trans K382 K384 (allS (Or.inl (List.mem_of_getElem? (i := 2) rfl)) all0)
       show OwnWp p e below s _ _ _ (T384.setTop (mkF m 213 #[sA a1, sA a2, sA a3, sA lc, sI cd, sI (64 : Int32), sA od, sI i] []))
       obtain ⟨gd1, hgd1⟩ : ∃ z : Int → Int32, z = (ownUpd gd0 (gl0 ((16 : Int32) + (Lf ((64 : Int32) + i).toInt)).toInt).toInt ((64 : Int32) + i)) := ⟨_, rfl⟩
       have f404 : OwnA Z h384 od .int (256 : Int32) (fun zi => .int (gd1 zi)) := by rw [hgd1]; exact F402
       have od1 := own_ord1 hL hm pl1 or1 by1 1 (by decide) (fun b _ => by unfold own_P; split <;> omega) (by rw [pa1]; omega) (j := ((16 : Int32) + (Lf ((64 : Int32) + i).toInt)).toInt) (by rw [pa1]; exact (own_jx1 hL hi hk2).2.2) (y := ((64 : Int32) + i)) (by rw [pa1]; exact own_sy1 hi hk2) (P' := own_P mm 2) (fun b hb => own_Pt mm b 1 hb (by decide))
       have pl2 := od1.1
       have or2 := od1.2.1
       have by2 := od1.2.2
       rw [← hgl1] at pl2
       rw [← hgd1] at or2 by2
       have pa2 : own_P mm 2 2 = mm := if_neg (by omega)
       have ia2 := own_place hL hm pl2 2 (by decide) (by rw [pa2]; omega) (j := ((32 : Int32) + (Lf ((128 : Int32) + i).toInt)).toInt) (by rw [pa2]; exact (own_jx2 hL hi hk2).2.2)
       refine own_s T384 (mkF m 233 #[sA a1, sA a2, sA a3, sA lc, sI cd, sI (64 : Int32), sA od, sI i] [(.int ((gl1 ((32 : Int32) + (Lf ((128 : Int32) + i).toInt)).toInt) + (1 : Int32))), (.int ((32 : Int32) + (Lf ((128 : Int32) + i).toInt))), (.ref lc), (.int (gl1 ((32 : Int32) + (Lf ((128 : Int32) + i).toInt)).toInt)), (.ref od)]) (fun t k => ?_) ?_
       ·refine XS.aload X384.here hx rfl (D10 hby 127 rfl) rfl rfl ?_
        refine XS.aloadN X384.here hx rfl (D10 hby 128 rfl) rfl rfl ?_
        refine XT.bipushV X384.here hx rfl (32 : Int32) (D10 hby 129 rfl) rfl ?_
        refine XS.aloadN X384.here hx rfl (D10 hby 130 rfl) rfl rfl ?_
        refine XT.iconstV X384.here hx rfl (2 : Int32) (D10 hby 131 rfl) rfl ?_
        refine XS.iload X384.here hx rfl (D10 hby 132 rfl) rfl ?_
        refine XS.imul X384.here hx rfl (D10 hby 133 rfl) rfl ?_
        refine XS.iload X384.here hx rfl (D10 hby 134 rfl) rfl ?_
        refine XS.iadd X384.here hx rfl (D10 hby 135 rfl) rfl ?_
        refine OwnA.ldI X384 hx hZ e384 f398 (own_ix2 hi hk2).1 (own_ix2 hi hk2).2 rfl rfl (D10 hby 136 rfl) ?_
        refine XS.iadd X384.here hx rfl (D10 hby 137 rfl) rfl ?_
        refine XT.dup2 X384.here hx rfl (D10 hby 138 rfl) rfl rfl rfl ?_
        refine OwnA.ldI X384 hx hZ e384 f401 (own_jx2 hL hi hk2).1 (own_jx2 hL hi hk2).2.1 rfl rfl (D10 hby 139 rfl) ?_
        refine own_dupX2 X384.here hx rfl (D10 hby 140 rfl) rfl rfl rfl rfl ?_
        show Steps p.tables e below (T384.setTop (mkF m 231 #[sA a1, sA a2, sA a3, sA lc, sI cd, sI (64 : Int32), sA od, sI i] [(.int (gl1 ((32 : Int32) + (Lf ((128 : Int32) + i).toInt)).toInt)), (.int ((32 : Int32) + (Lf ((128 : Int32) + i).toInt))), (.ref lc), (.int (gl1 ((32 : Int32) + (Lf ((128 : Int32) + i).toInt)).toInt)), (.ref od)])) _
        refine XT.iconstV X384.here hx rfl (1 : Int32) (D10 hby 141 rfl) rfl ?_
        exact XS.iadd X384.here hx rfl (D10 hby 142 rfl) rfl k
       obtain ⟨T405, h405, L405, X405, e405, N405, K405, F405, st405⟩ := OwnA.stI X384 hx hZ e384 N384 g1 f401 (own_jx2 hL hi hk2).1 (own_jx2 hL hi hk2).2.1 (g := (mkF m 233 #[sA a1, sA a2, sA a3, sA lc, sI cd, sI (64 : Int32), sA od, sI i] [(.int ((gl1 ((32 : Int32) + (Lf ((128 : Int32) + i).toInt)).toInt) + (1 : Int32))), (.int ((32 : Int32) + (Lf ((128 : Int32) + i).toInt))), (.ref lc), (.int (gl1 ((32 : Int32) + (Lf ((128 : Int32) + i).toInt)).toInt)), (.ref od)])) rfl rfl (D10 hby 143 rfl)
       refine OwnWp.step st405 ?_
       have Z405 : n0 ≤ h405.size := Nat.le_trans Z384 K405.1
       have f406 := Exa.keep f385 K405
       have f407 := Fld.keep f386 K405 (ninS n1 nin0)
       have f408 := Fld.keep f387 K405 (ninS n1 nin0)
       have f409 := Fld.keep f388 K405 (ninS n1 nin0)
       have f410 := Fld.keep f389 K405 (ninS n1 nin0)
       have f411 := Fld.keep f390 K405 (ninS n1 nin0)
       have f412 := Fld.keep f391 K405 (ninS n1 nin0)
       have f413 := Fld.keep f392 K405 (ninS n1 nin0)
       have f414 := Fld.keep f393 K405 (ninS n1 nin0)
       have f415 := Fld.keep f394 K405 (ninS n1 nin0)
       have f416 := Fld.keep f395 K405 (ninS n1 nin0)
       have f417 := Fld.keep f396 K405 (ninS n1 nin0)
       have f418 := Fld.keep f397 K405 (ninS n1 nin0)
       have f419 := OwnA.keep f398 K405 (ninS n8 nin0)
       have f420 := OwnA.keep f399 K405 (ninS n12 nin0)
       have f421 := OwnA.keep f400 K405 (ninS n5.symm nin0)
       have f422 := OwnA.keep f404 K405 (ninS n4.symm nin0)
       have F423 : OwnA Z h405 lc .int (64 : Int32) (fun zi => .int ((ownUpd gl1 ((32 : Int32) + (Lf ((128 : Int32) + i).toInt)).toInt ((gl1 ((32 : Int32) + (Lf ((128 : Int32) + i).toInt)).toInt) + (1 : Int32))) zi)) := F405.congr (fun zi _ _ => by exact ownUpd_int gl1 _ _ zi)
       have K424 := Keep.trans K403 K405 (allS (Or.inl (List.mem_of_getElem? (i := 1) rfl)) all0)
       show OwnWp p e below s _ _ _ (T405.setTop (mkF m 234 #[sA a1, sA a2, sA a3, sA lc, sI cd, sI (64 : Int32), sA od, sI i] [(.int (gl1 ((32 : Int32) + (Lf ((128 : Int32) + i).toInt)).toInt)), (.ref od)]))
       obtain ⟨gl2, hgl2⟩ : ∃ z : Int → Int32, z = (ownUpd gl1 ((32 : Int32) + (Lf ((128 : Int32) + i).toInt)).toInt ((gl1 ((32 : Int32) + (Lf ((128 : Int32) + i).toInt)).toInt) + (1 : Int32))) := ⟨_, rfl⟩
       have f425 : OwnA Z h405 lc .int (64 : Int32) (fun zi => .int (gl2 zi)) := by rw [hgl2]; exact F423
       refine own_s T405 (mkF m 241 #[sA a1, sA a2, sA a3, sA lc, sI cd, sI (64 : Int32), sA od, sI i] [(.int ((128 : Int32) + i)), (.int (gl1 ((32 : Int32) + (Lf ((128 : Int32) + i).toInt)).toInt)), (.ref od)]) (fun t k => ?_) ?_
       ·refine XT.iconstV X405.here hx rfl (2 : Int32) (D10 hby 144 rfl) rfl ?_
        refine XS.iload X405.here hx rfl (D10 hby 145 rfl) rfl ?_
        refine XS.imul X405.here hx rfl (D10 hby 146 rfl) rfl ?_
        refine XS.iload X405.here hx rfl (D10 hby 147 rfl) rfl ?_
        exact XS.iadd X405.here hx rfl (D10 hby 148 rfl) rfl k
       obtain ⟨T426, h426, L426, X426, e426, N426, K426, F426, st426⟩ := OwnA.stI X405 hx hZ e405 N405 g2 f422 ia2.1 (by rw [show (256 : Int32).toInt = 256 from rfl]; exact ia2.2.1) (g := (mkF m 241 #[sA a1, sA a2, sA a3, sA lc, sI cd, sI (64 : Int32), sA od, sI i] [(.int ((128 : Int32) + i)), (.int (gl1 ((32 : Int32) + (Lf ((128 : Int32) + i).toInt)).toInt)), (.ref od)])) rfl rfl (D10 hby 149 rfl)
       refine OwnWp.step st426 ?_
       have Z426 : n0 ≤ h426.size := Nat.le_trans Z405 K426.1
       have f427 := Exa.keep f406 K426
       have f428 := Fld.keep f407 K426 (ninS n2 nin0)
       have f429 := Fld.keep f408 K426 (ninS n2 nin0)
       have f430 := Fld.keep f409 K426 (ninS n2 nin0)
       have f431 := Fld.keep f410 K426 (ninS n2 nin0)
       have f432 := Fld.keep f411 K426 (ninS n2 nin0)
       have f433 := Fld.keep f412 K426 (ninS n2 nin0)
       have f434 := Fld.keep f413 K426 (ninS n2 nin0)
       have f435 := Fld.keep f414 K426 (ninS n2 nin0)
       have f436 := Fld.keep f415 K426 (ninS n2 nin0)
       have f437 := Fld.keep f416 K426 (ninS n2 nin0)
       have f438 := Fld.keep f417 K426 (ninS n2 nin0)
       have f439 := Fld.keep f418 K426 (ninS n2 nin0)
       have f440 := OwnA.keep f419 K426 (ninS n9 nin0)
       have f441 := OwnA.keep f420 K426 (ninS n13 nin0)
       have f442 := OwnA.keep f421 K426 (ninS n6.symm nin0)
       have f443 := OwnA.keep f425 K426 (ninS n4 nin0)
       have F444 : OwnA Z h426 od .int (256 : Int32) (fun zi => .int ((ownUpd gd1 (gl1 ((32 : Int32) + (Lf ((128 : Int32) + i).toInt)).toInt).toInt ((128 : Int32) + i)) zi)) := F426.congr (fun zi _ _ => by exact ownUpd_int gd1 _ _ zi)
       have K445 := Keep.trans K424 K426 (allS (Or.inl (List.mem_of_getElem? (i := 2) rfl)) all0)
       show OwnWp p e below s _ _ _ (T426.setTop (mkF m 242 #[sA a1, sA a2, sA a3, sA lc, sI cd, sI (64 : Int32), sA od, sI i] []))
       obtain ⟨gd2, hgd2⟩ : ∃ z : Int → Int32, z = (ownUpd gd1 (gl1 ((32 : Int32) + (Lf ((128 : Int32) + i).toInt)).toInt).toInt ((128 : Int32) + i)) := ⟨_, rfl⟩
       have f446 : OwnA Z h426 od .int (256 : Int32) (fun zi => .int (gd2 zi)) := by rw [hgd2]; exact F444
       have od2 := own_ord1 hL hm pl2 or2 by2 2 (by decide) (fun b _ => by unfold own_P; split <;> omega) (by rw [pa2]; omega) (j := ((32 : Int32) + (Lf ((128 : Int32) + i).toInt)).toInt) (by rw [pa2]; exact (own_jx2 hL hi hk2).2.2) (y := ((128 : Int32) + i)) (by rw [pa2]; exact own_sy2 hi hk2) (P' := own_P mm 3) (fun b hb => own_Pt mm b 2 hb (by decide))
       have pl3 := od2.1
       have or3 := od2.2.1
       have by3 := od2.2.2
       rw [← hgl2] at pl3
       rw [← hgd2] at or3 by3
       have pa3 : own_P mm 3 3 = mm := if_neg (by omega)
       have ia3 := own_place hL hm pl3 3 (by decide) (by rw [pa3]; omega) (j := ((48 : Int32) + (Lf ((192 : Int32) + i).toInt)).toInt) (by rw [pa3]; exact (own_jx3 hL hi hk2).2.2)
       refine own_s T426 (mkF m 262 #[sA a1, sA a2, sA a3, sA lc, sI cd, sI (64 : Int32), sA od, sI i] [(.int ((gl2 ((48 : Int32) + (Lf ((192 : Int32) + i).toInt)).toInt) + (1 : Int32))), (.int ((48 : Int32) + (Lf ((192 : Int32) + i).toInt))), (.ref lc), (.int (gl2 ((48 : Int32) + (Lf ((192 : Int32) + i).toInt)).toInt)), (.ref od)]) (fun t k => ?_) ?_
       ·refine XS.aload X426.here hx rfl (D10 hby 150 rfl) rfl rfl ?_
        refine XS.aloadN X426.here hx rfl (D10 hby 151 rfl) rfl rfl ?_
        refine XT.bipushV X426.here hx rfl (48 : Int32) (D10 hby 152 rfl) rfl ?_
        refine XS.aloadN X426.here hx rfl (D10 hby 153 rfl) rfl rfl ?_
        refine XT.iconstV X426.here hx rfl (3 : Int32) (D10 hby 154 rfl) rfl ?_
        refine XS.iload X426.here hx rfl (D10 hby 155 rfl) rfl ?_
        refine XS.imul X426.here hx rfl (D10 hby 156 rfl) rfl ?_
        refine XS.iload X426.here hx rfl (D10 hby 157 rfl) rfl ?_
        refine XS.iadd X426.here hx rfl (D10 hby 158 rfl) rfl ?_
        refine OwnA.ldI X426 hx hZ e426 f440 (own_ix3 hi hk2).1 (own_ix3 hi hk2).2 rfl rfl (D10 hby 159 rfl) ?_
        refine XS.iadd X426.here hx rfl (D10 hby 160 rfl) rfl ?_
        refine XT.dup2 X426.here hx rfl (D10 hby 161 rfl) rfl rfl rfl ?_
        refine OwnA.ldI X426 hx hZ e426 f443 (own_jx3 hL hi hk2).1 (own_jx3 hL hi hk2).2.1 rfl rfl (D10 hby 162 rfl) ?_
        refine own_dupX2 X426.here hx rfl (D10 hby 163 rfl) rfl rfl rfl rfl ?_
        show Steps p.tables e below (T426.setTop (mkF m 260 #[sA a1, sA a2, sA a3, sA lc, sI cd, sI (64 : Int32), sA od, sI i] [(.int (gl2 ((48 : Int32) + (Lf ((192 : Int32) + i).toInt)).toInt)), (.int ((48 : Int32) + (Lf ((192 : Int32) + i).toInt))), (.ref lc), (.int (gl2 ((48 : Int32) + (Lf ((192 : Int32) + i).toInt)).toInt)), (.ref od)])) _
        refine XT.iconstV X426.here hx rfl (1 : Int32) (D10 hby 164 rfl) rfl ?_
        exact XS.iadd X426.here hx rfl (D10 hby 165 rfl) rfl k
       obtain ⟨T447, h447, L447, X447, e447, N447, K447, F447, st447⟩ := OwnA.stI X426 hx hZ e426 N426 g1 f443 (own_jx3 hL hi hk2).1 (own_jx3 hL hi hk2).2.1 (g := (mkF m 262 #[sA a1, sA a2, sA a3, sA lc, sI cd, sI (64 : Int32), sA od, sI i] [(.int ((gl2 ((48 : Int32) + (Lf ((192 : Int32) + i).toInt)).toInt) + (1 : Int32))), (.int ((48 : Int32) + (Lf ((192 : Int32) + i).toInt))), (.ref lc), (.int (gl2 ((48 : Int32) + (Lf ((192 : Int32) + i).toInt)).toInt)), (.ref od)])) rfl rfl (D10 hby 166 rfl)
       refine OwnWp.step st447 ?_
       have Z447 : n0 ≤ h447.size := Nat.le_trans Z426 K447.1
       have f448 := Exa.keep f427 K447
       have f449 := Fld.keep f428 K447 (ninS n1 nin0)
       have f450 := Fld.keep f429 K447 (ninS n1 nin0)
       have f451 := Fld.keep f430 K447 (ninS n1 nin0)
       have f452 := Fld.keep f431 K447 (ninS n1 nin0)
       have f453 := Fld.keep f432 K447 (ninS n1 nin0)
       have f454 := Fld.keep f433 K447 (ninS n1 nin0)
       have f455 := Fld.keep f434 K447 (ninS n1 nin0)
       have f456 := Fld.keep f435 K447 (ninS n1 nin0)
       have f457 := Fld.keep f436 K447 (ninS n1 nin0)
       have f458 := Fld.keep f437 K447 (ninS n1 nin0)
       have f459 := Fld.keep f438 K447 (ninS n1 nin0)
       have f460 := Fld.keep f439 K447 (ninS n1 nin0)
       have f461 := OwnA.keep f440 K447 (ninS n8 nin0)
       have f462 := OwnA.keep f441 K447 (ninS n12 nin0)
       have f463 := OwnA.keep f442 K447 (ninS n5.symm nin0)
       have f464 := OwnA.keep f446 K447 (ninS n4.symm nin0)
       have F465 : OwnA Z h447 lc .int (64 : Int32) (fun zi => .int ((ownUpd gl2 ((48 : Int32) + (Lf ((192 : Int32) + i).toInt)).toInt ((gl2 ((48 : Int32) + (Lf ((192 : Int32) + i).toInt)).toInt) + (1 : Int32))) zi)) := F447.congr (fun zi _ _ => by exact ownUpd_int gl2 _ _ zi)
       have K466 := Keep.trans K445 K447 (allS (Or.inl (List.mem_of_getElem? (i := 1) rfl)) all0)
       show OwnWp p e below s _ _ _ (T447.setTop (mkF m 263 #[sA a1, sA a2, sA a3, sA lc, sI cd, sI (64 : Int32), sA od, sI i] [(.int (gl2 ((48 : Int32) + (Lf ((192 : Int32) + i).toInt)).toInt)), (.ref od)]))
       obtain ⟨gl3, hgl3⟩ : ∃ z : Int → Int32, z = (ownUpd gl2 ((48 : Int32) + (Lf ((192 : Int32) + i).toInt)).toInt ((gl2 ((48 : Int32) + (Lf ((192 : Int32) + i).toInt)).toInt) + (1 : Int32))) := ⟨_, rfl⟩
       have f467 : OwnA Z h447 lc .int (64 : Int32) (fun zi => .int (gl3 zi)) := by rw [hgl3]; exact F465
       refine own_s T447 (mkF m 270 #[sA a1, sA a2, sA a3, sA lc, sI cd, sI (64 : Int32), sA od, sI i] [(.int ((192 : Int32) + i)), (.int (gl2 ((48 : Int32) + (Lf ((192 : Int32) + i).toInt)).toInt)), (.ref od)]) (fun t k => ?_) ?_
       ·refine XT.iconstV X447.here hx rfl (3 : Int32) (D10 hby 167 rfl) rfl ?_
        refine XS.iload X447.here hx rfl (D10 hby 168 rfl) rfl ?_
        refine XS.imul X447.here hx rfl (D10 hby 169 rfl) rfl ?_
        refine XS.iload X447.here hx rfl (D10 hby 170 rfl) rfl ?_
        exact XS.iadd X447.here hx rfl (D10 hby 171 rfl) rfl k
       obtain ⟨T468, h468, L468, X468, e468, N468, K468, F468, st468⟩ := OwnA.stI X447 hx hZ e447 N447 g2 f464 ia3.1 (by rw [show (256 : Int32).toInt = 256 from rfl]; exact ia3.2.1) (g := (mkF m 270 #[sA a1, sA a2, sA a3, sA lc, sI cd, sI (64 : Int32), sA od, sI i] [(.int ((192 : Int32) + i)), (.int (gl2 ((48 : Int32) + (Lf ((192 : Int32) + i).toInt)).toInt)), (.ref od)])) rfl rfl (D10 hby 172 rfl)
       refine OwnWp.step st468 ?_
       have Z468 : n0 ≤ h468.size := Nat.le_trans Z447 K468.1
       have f469 := Exa.keep f448 K468
       have f470 := Fld.keep f449 K468 (ninS n2 nin0)
       have f471 := Fld.keep f450 K468 (ninS n2 nin0)
       have f472 := Fld.keep f451 K468 (ninS n2 nin0)
       have f473 := Fld.keep f452 K468 (ninS n2 nin0)
       have f474 := Fld.keep f453 K468 (ninS n2 nin0)
       have f475 := Fld.keep f454 K468 (ninS n2 nin0)
       have f476 := Fld.keep f455 K468 (ninS n2 nin0)
       have f477 := Fld.keep f456 K468 (ninS n2 nin0)
       have f478 := Fld.keep f457 K468 (ninS n2 nin0)
       have f479 := Fld.keep f458 K468 (ninS n2 nin0)
       have f480 := Fld.keep f459 K468 (ninS n2 nin0)
       have f481 := Fld.keep f460 K468 (ninS n2 nin0)
       have f482 := OwnA.keep f461 K468 (ninS n9 nin0)
       have f483 := OwnA.keep f462 K468 (ninS n13 nin0)
       have f484 := OwnA.keep f463 K468 (ninS n6.symm nin0)
       have f485 := OwnA.keep f467 K468 (ninS n4 nin0)
       have F486 : OwnA Z h468 od .int (256 : Int32) (fun zi => .int ((ownUpd gd2 (gl2 ((48 : Int32) + (Lf ((192 : Int32) + i).toInt)).toInt).toInt ((192 : Int32) + i)) zi)) := F468.congr (fun zi _ _ => by exact ownUpd_int gd2 _ _ zi)
       have K487 := Keep.trans K466 K468 (allS (Or.inl (List.mem_of_getElem? (i := 2) rfl)) all0)
       show OwnWp p e below s _ _ _ (T468.setTop (mkF m 271 #[sA a1, sA a2, sA a3, sA lc, sI cd, sI (64 : Int32), sA od, sI i] []))
       obtain ⟨gd3, hgd3⟩ : ∃ z : Int → Int32, z = (ownUpd gd2 (gl2 ((48 : Int32) + (Lf ((192 : Int32) + i).toInt)).toInt).toInt ((192 : Int32) + i)) := ⟨_, rfl⟩
       have f488 : OwnA Z h468 od .int (256 : Int32) (fun zi => .int (gd3 zi)) := by rw [hgd3]; exact F486
       have od3 := own_ord1 hL hm pl3 or3 by3 3 (by decide) (fun b _ => by unfold own_P; split <;> omega) (by rw [pa3]; omega) (j := ((48 : Int32) + (Lf ((192 : Int32) + i).toInt)).toInt) (by rw [pa3]; exact (own_jx3 hL hi hk2).2.2) (y := ((192 : Int32) + i)) (by rw [pa3]; exact own_sy3 hi hk2) (P' := own_P mm 4) (fun b hb => own_Pt mm b 3 hb (by decide))
       have pl4 := od3.1
       have or4 := od3.2.1
       have by4 := od3.2.2
       rw [← hgl3] at pl4
       rw [← hgd3] at or4 by4
       obtain ⟨w3, qw3⟩ : ∃ z : Int32, z = (i + (1 : Int32)) := ⟨_, rfl⟩
       refine own_s T468 (mkF m 274 #[sA a1, sA a2, sA a3, sA lc, sI cd, sI (64 : Int32), sA od, sI w3] []) (fun t k => ?_) ?_
       ·refine XT.iincV X468.here hx rfl (1 : Int32) (D10 hby 173 rfl) rfl rfl (l' := #[sA a1, sA a2, sA a3, sA lc, sI cd, sI (64 : Int32), sA od, sI (i + (1 : Int32))]) rfl ?_
        rw [qw3] at k
        exact k
       refine own_s T468 (mkF m 165 #[sA a1, sA a2, sA a3, sA lc, sI cd, sI (64 : Int32), sA od, sI w3] []) (fun t k => ?_) ?_
       ·exact XS.goto X468.here hx rfl (pc0 := 274) (pc' := 165) rfl (D10 hby 174 rfl) (by decide) (by decide) k
       have hi2 : w3.toInt = ((mm + 1 : Nat) : Int) := by rw [qw3]; exact own_inc hi (by omega)
       exact ih  T468 h468 _ w3 (mm + 1) gl3 gd3 X468 e468 N468 Z468 f469 f470 f471 f472 f473 f474 f475 f476 f477 f478 f479 f480 f481 f488 f482 f483 f484 f485 K487 hi2 (by omega) (fun a ha => by have := pl4 a ha; rw [show own_P mm 4 a = mm + 1 from if_pos ha] at this; exact this) (fun a ha i hi => or4 a ha i (by rw [show own_P mm 4 a = mm + 1 from if_pos ha]; exact hi)) by4
      ·refine own_s T299 (mkF m 277 #[sA a1, sA a2, sA a3, sA lc, sI cd, sI (64 : Int32), sA od, sI i] []) (fun t k => ?_) ?_
       ·exact XS.icmpYes X299.here hx rfl (pc0 := 169) (pc' := 277) rfl (D10 hby 94 rfl) rfl (XT.ii_ge_t c169_320) (by decide) (by decide) k
       rw [Int32.lt_iff_toInt_lt, show (64 : Int32).toInt = 64 from rfl] at c169_320
       exact absurd c169_320 (by omega)
    exact hl2 64 T298 h277 _ (0 : Int32) 0 gm3 fo X298 e298 N277 Z277 f278 f279 f280 f281 f282 f283 f284 f285 f286 f287 f288 f289 f290 f291 f292 f293 f294 f297 K296 (by decide) (by decide) hp0 (fun a ha i hi => absurd hi (Nat.not_lt_zero _)) hfo
   ·refine own_s T188 (mkF m 25 #[sA a1, sA a2, sA a3, sA lc, sI cd, sI ln, s6, s7] []) (fun t k => ?_) ?_
    ·exact XS.icmpNo X188.here hx rfl (D10 hby 13 rfl) rfl (XT.ii_gt_f c22_189) k
    rw [Int32.lt_iff_toInt_lt] at c22_189
    exact absurd c22_189 (by omega)
  | succ k ih =>
   intro T168 h168 L168 cd ln sh jn g gp s6 s7 X168 e168 N168 Z168 f169 f170 f171 f172 f173 f174 f175 f176 f177 f178 f179 f180 f181 f182 f183 f184 f185 f186 K187 hs6 hs7 hln h1n hk hcd hA hpA hsA
   refine own_s T168 (mkF m 19 #[sA a1, sA a2, sA a3, sA lc, sI cd, sI ln, s6, s7] [(.ref a1), (.int ln)]) (fun t k => ?_) ?_
   ·refine XS.iload X168.here hx rfl (D10 hby 10 rfl) rfl ?_
    exact XS.aloadN X168.here hx rfl (D10 hby 11 rfl) rfl rfl k
   obtain ⟨T489, X489, e489, st489⟩ := getF X168 hx hZ hown (host := "") (Or.inl (own_hw hw 51 rfl)) Via.refl e168 f179 (g := (mkF m 19 #[sA a1, sA a2, sA a3, sA lc, sI cd, sI ln, s6, s7] [(.ref a1), (.int ln)])) rfl rfl (D10 hby 12 rfl)
   refine OwnWp.step st489 ?_
   by_cases c22_490 : mxI < ln
   ·refine own_s T489 (mkF m 106 #[sA a1, sA a2, sA a3, sA lc, sI cd, sI ln, s6, s7] []) (fun t k => ?_) ?_
    ·exact XS.icmpYes X489.here hx rfl (pc0 := 22) (pc' := 106) rfl (D10 hby 13 rfl) rfl (XT.ii_gt_t c22_490) (by decide) (by decide) k
    rw [Int32.lt_iff_toInt_lt] at c22_490
    exact absurd c22_490 (by omega)
   ·refine own_s T489 (mkF m 25 #[sA a1, sA a2, sA a3, sA lc, sI cd, sI ln, s6, s7] []) (fun t k => ?_) ?_
    ·exact XS.icmpNo X489.here hx rfl (D10 hby 13 rfl) rfl (XT.ii_gt_f c22_490) k
    rw [Int32.lt_iff_toInt_lt] at c22_490
    refine own_s T489 (mkF m 26 #[sA a1, sA a2, sA a3, sA lc, sI cd, sI ln, s6, s7] [(.ref a1)]) (fun t k => ?_) ?_
    ·exact XS.aloadN X489.here hx rfl (D10 hby 14 rfl) rfl rfl k
    obtain ⟨T491, X491, e491, st491⟩ := getF X489 hx hZ hown (host := "") (Or.inl (own_hw hw 17 rfl)) Via.refl e489 f177 (g := (mkF m 26 #[sA a1, sA a2, sA a3, sA lc, sI cd, sI ln, s6, s7] [(.ref a1)])) rfl rfl (D10 hby 15 rfl)
    refine OwnWp.step st491 ?_
    refine own_s T491 (mkF m 33 #[sA a1, sA a2, sA a3, sA lc, sI cd, sI ln, s6, s7] [(.int cd), (.int ln), (.ref pl)]) (fun t k => ?_) ?_
    ·refine XS.iload X491.here hx rfl (D10 hby 16 rfl) rfl ?_
     exact XS.iload X491.here hx rfl (D10 hby 17 rfl) rfl k
    obtain ⟨T492, h492, L492, X492, e492, N492, K492, F492, st492⟩ := OwnA.stI X491 hx hZ e491 N168 g3 f184 (by omega) (by rw [show (17 : Int32).toInt = 17 from rfl]; omega) (g := (mkF m 33 #[sA a1, sA a2, sA a3, sA lc, sI cd, sI ln, s6, s7] [(.int cd), (.int ln), (.ref pl)])) rfl rfl (D10 hby 18 rfl)
    refine OwnWp.step st492 ?_
    have Z492 : n0 ≤ h492.size := Nat.le_trans Z168 K492.1
    have f493 := Exa.keep f169 K492
    have f494 := Fld.keep f170 K492 (ninS n3 nin0)
    have f495 := Fld.keep f171 K492 (ninS n3 nin0)
    have f496 := Fld.keep f172 K492 (ninS n3 nin0)
    have f497 := Fld.keep f173 K492 (ninS n3 nin0)
    have f498 := Fld.keep f174 K492 (ninS n3 nin0)
    have f499 := Fld.keep f175 K492 (ninS n3 nin0)
    have f500 := Fld.keep f176 K492 (ninS n3 nin0)
    have f501 := Fld.keep f177 K492 (ninS n3 nin0)
    have f502 := Fld.keep f178 K492 (ninS n3 nin0)
    have f503 := Fld.keep f179 K492 (ninS n3 nin0)
    have f504 := Fld.keep f180 K492 (ninS n3 nin0)
    have f505 := Fld.keep f181 K492 (ninS n3 nin0)
    have f506 := OwnA.keep f182 K492 (ninS n5 nin0)
    have f507 := OwnA.keep f183 K492 (ninS n6 nin0)
    have f508 := OwnA.keep f185 K492 (ninS n10 nin0)
    have f509 := OwnA.keep f186 K492 (ninS n14 nin0)
    have F510 : OwnA Z h492 pl .int (17 : Int32) (fun zi => .int ((ownUpd gp ln.toInt cd) zi)) := F492.congr (fun zi _ _ => by exact ownUpd_int gp _ _ zi)
    have K511 := Keep.trans K187 K492 (allS (Or.inl (List.mem_of_getElem? (i := 3) rfl)) all0)
    show OwnWp p e below s _ _ _ (T492.setTop (mkF m 34 #[sA a1, sA a2, sA a3, sA lc, sI cd, sI ln, s6, s7] []))
    obtain ⟨gp2, hgp2⟩ : ∃ z : Int → Int32, z = (ownUpd gp ln.toInt cd) := ⟨_, rfl⟩
    have f512 : OwnA Z h492 pl .int (17 : Int32) (fun zi => .int (gp2 zi)) := by rw [hgp2]; exact F510
    refine own_s T492 (mkF m 37 #[sA a1, sA a2, sA a3, sA lc, sI cd, sI ln, sI (0 : Int32), s7] []) (fun t k => ?_) ?_
    ·refine XT.iconstV X492.here hx rfl (0 : Int32) (D10 hby 19 rfl) rfl ?_
     exact XS.istoreS X492.here hx rfl (D10 hby 20 rfl) rfl (o := s6) rfl hs6 k
    obtain ⟨w1, qw1⟩ : ∃ z : Int32, z = (g ((0 : Int32) + ln).toInt) := ⟨_, rfl⟩
    refine own_s T492 (mkF m 55 #[sA a1, sA a2, sA a3, sA lc, sI cd, sI ln, sI (0 : Int32), sI w1] []) (fun t k => ?_) ?_
    ·refine XS.iload X492.here hx rfl (D10 hby 21 rfl) rfl ?_
     refine XT.iconstV X492.here hx rfl (4 : Int32) (D10 hby 22 rfl) rfl ?_
     refine XS.icmpNo X492.here hx rfl (D10 hby 23 rfl) rfl (XT.ii_ge_f (by decide)) ?_
     refine XS.aloadN X492.here hx rfl (D10 hby 24 rfl) rfl rfl ?_
     refine XS.iload X492.here hx rfl (D10 hby 25 rfl) rfl ?_
     refine XT.bipushV X492.here hx rfl (16 : Int32) (D10 hby 26 rfl) rfl ?_
     refine XS.imul X492.here hx rfl (D10 hby 27 rfl) rfl ?_
     refine XS.iload X492.here hx rfl (D10 hby 28 rfl) rfl ?_
     refine XS.iadd X492.here hx rfl (D10 hby 29 rfl) rfl ?_
     refine OwnA.ldI X492 hx hZ e492 f506 (own_off 0 (j := ln) (by omega) (by omega) (by decide)).1 (own_off 0 (j := ln) (by omega) (by omega) (by decide)).2 rfl rfl (D10 hby 30 rfl) ?_
     refine XS.istoreS X492.here hx rfl (D10 hby 31 rfl) rfl (o := s7) rfl hs7 ?_
     rw [qw1] at k
     exact k
    refine own_s T492 (mkF m 66 #[sA a1, sA a2, sA a3, sA lc, sI cd, sI ln, sI (0 : Int32), sI w1] [(.int cd), (.int ((0 : Int32) + ln)), (.ref lc)]) (fun t k => ?_) ?_
    ·refine XS.aloadN X492.here hx rfl (D10 hby 32 rfl) rfl rfl ?_
     refine XS.iload X492.here hx rfl (D10 hby 33 rfl) rfl ?_
     refine XT.bipushV X492.here hx rfl (16 : Int32) (D10 hby 34 rfl) rfl ?_
     refine XS.imul X492.here hx rfl (D10 hby 35 rfl) rfl ?_
     refine XS.iload X492.here hx rfl (D10 hby 36 rfl) rfl ?_
     refine XS.iadd X492.here hx rfl (D10 hby 37 rfl) rfl ?_
     exact XS.iload X492.here hx rfl (D10 hby 38 rfl) rfl k
    obtain ⟨T513, h513, L513, X513, e513, N513, K513, F513, st513⟩ := OwnA.stI X492 hx hZ e492 N492 g1 f506 (own_off 0 (j := ln) (by omega) (by omega) (by decide)).1 (own_off 0 (j := ln) (by omega) (by omega) (by decide)).2 (g := (mkF m 66 #[sA a1, sA a2, sA a3, sA lc, sI cd, sI ln, sI (0 : Int32), sI w1] [(.int cd), (.int ((0 : Int32) + ln)), (.ref lc)])) rfl rfl (D10 hby 39 rfl)
    refine OwnWp.step st513 ?_
    have Z513 : n0 ≤ h513.size := Nat.le_trans Z492 K513.1
    have f514 := Exa.keep f493 K513
    have f515 := Fld.keep f494 K513 (ninS n1 nin0)
    have f516 := Fld.keep f495 K513 (ninS n1 nin0)
    have f517 := Fld.keep f496 K513 (ninS n1 nin0)
    have f518 := Fld.keep f497 K513 (ninS n1 nin0)
    have f519 := Fld.keep f498 K513 (ninS n1 nin0)
    have f520 := Fld.keep f499 K513 (ninS n1 nin0)
    have f521 := Fld.keep f500 K513 (ninS n1 nin0)
    have f522 := Fld.keep f501 K513 (ninS n1 nin0)
    have f523 := Fld.keep f502 K513 (ninS n1 nin0)
    have f524 := Fld.keep f503 K513 (ninS n1 nin0)
    have f525 := Fld.keep f504 K513 (ninS n1 nin0)
    have f526 := Fld.keep f505 K513 (ninS n1 nin0)
    have f527 := OwnA.keep f507 K513 (ninS n4.symm nin0)
    have f528 := OwnA.keep f508 K513 (ninS n8 nin0)
    have f529 := OwnA.keep f509 K513 (ninS n12 nin0)
    have f530 := OwnA.keep f512 K513 (ninS n5.symm nin0)
    have F531 : OwnA Z h513 lc .int (64 : Int32) (fun zi => .int ((ownUpd g ((0 : Int32) + ln).toInt cd) zi)) := F513.congr (fun zi _ _ => by exact ownUpd_int g _ _ zi)
    have K532 := Keep.trans K511 K513 (allS (Or.inl (List.mem_of_getElem? (i := 1) rfl)) all0)
    show OwnWp p e below s _ _ _ (T513.setTop (mkF m 67 #[sA a1, sA a2, sA a3, sA lc, sI cd, sI ln, sI (0 : Int32), sI w1] []))
    obtain ⟨gl0, hgl0⟩ : ∃ z : Int → Int32, z = (ownUpd g ((0 : Int32) + ln).toInt cd) := ⟨_, rfl⟩
    have f533 : OwnA Z h513 lc .int (64 : Int32) (fun zi => .int (gl0 zi)) := by rw [hgl0]; exact F531
    obtain ⟨w2, qw2⟩ : ∃ z : Int32, z = (cd + w1) := ⟨_, rfl⟩
    refine own_s T513 (mkF m 74 #[sA a1, sA a2, sA a3, sA lc, sI w2, sI ln, sI (0 : Int32), sI w1] []) (fun t k => ?_) ?_
    ·refine XS.iload X513.here hx rfl (D10 hby 40 rfl) rfl ?_
     refine XS.iload X513.here hx rfl (D10 hby 41 rfl) rfl ?_
     refine XS.iadd X513.here hx rfl (D10 hby 42 rfl) rfl ?_
     refine XS.istore X513.here hx rfl (D10 hby 43 rfl) rfl (l' := #[sA a1, sA a2, sA a3, sA lc, sI (cd + w1), sI ln, sI (0 : Int32), sI w1]) rfl ?_
     rw [qw2] at k
     exact k
    refine own_s T513 (mkF m 77 #[sA a1, sA a2, sA a3, sA lc, sI w2, sI ln, sI (1 : Int32), sI w1] []) (fun t k => ?_) ?_
    ·exact XT.iincV X513.here hx rfl (1 : Int32) (D10 hby 44 rfl) rfl rfl (l' := #[sA a1, sA a2, sA a3, sA lc, sI w2, sI ln, sI (1 : Int32), sI w1]) rfl k
    refine own_s T513 (mkF m 37 #[sA a1, sA a2, sA a3, sA lc, sI w2, sI ln, sI (1 : Int32), sI w1] []) (fun t k => ?_) ?_
    ·exact XS.goto X513.here hx rfl (pc0 := 77) (pc' := 37) rfl (D10 hby 45 rfl) (by decide) (by decide) k
    obtain ⟨w3, qw3⟩ : ∃ z : Int32, z = (gl0 ((16 : Int32) + ln).toInt) := ⟨_, rfl⟩
    refine own_s T513 (mkF m 55 #[sA a1, sA a2, sA a3, sA lc, sI w2, sI ln, sI (1 : Int32), sI w3] []) (fun t k => ?_) ?_
    ·refine XS.iload X513.here hx rfl (D10 hby 21 rfl) rfl ?_
     refine XT.iconstV X513.here hx rfl (4 : Int32) (D10 hby 22 rfl) rfl ?_
     refine XS.icmpNo X513.here hx rfl (D10 hby 23 rfl) rfl (XT.ii_ge_f (by decide)) ?_
     refine XS.aloadN X513.here hx rfl (D10 hby 24 rfl) rfl rfl ?_
     refine XS.iload X513.here hx rfl (D10 hby 25 rfl) rfl ?_
     refine XT.bipushV X513.here hx rfl (16 : Int32) (D10 hby 26 rfl) rfl ?_
     refine XS.imul X513.here hx rfl (D10 hby 27 rfl) rfl ?_
     refine XS.iload X513.here hx rfl (D10 hby 28 rfl) rfl ?_
     refine XS.iadd X513.here hx rfl (D10 hby 29 rfl) rfl ?_
     refine OwnA.ldI X513 hx hZ e513 f533 (own_off 16 (j := ln) (by omega) (by omega) (by decide)).1 (own_off 16 (j := ln) (by omega) (by omega) (by decide)).2 rfl rfl (D10 hby 30 rfl) ?_
     refine XS.istore X513.here hx rfl (D10 hby 31 rfl) rfl (l' := #[sA a1, sA a2, sA a3, sA lc, sI w2, sI ln, sI (1 : Int32), sI (gl0 ((16 : Int32) + ln).toInt)]) rfl ?_
     rw [qw3] at k
     exact k
    refine own_s T513 (mkF m 66 #[sA a1, sA a2, sA a3, sA lc, sI w2, sI ln, sI (1 : Int32), sI w3] [(.int w2), (.int ((16 : Int32) + ln)), (.ref lc)]) (fun t k => ?_) ?_
    ·refine XS.aloadN X513.here hx rfl (D10 hby 32 rfl) rfl rfl ?_
     refine XS.iload X513.here hx rfl (D10 hby 33 rfl) rfl ?_
     refine XT.bipushV X513.here hx rfl (16 : Int32) (D10 hby 34 rfl) rfl ?_
     refine XS.imul X513.here hx rfl (D10 hby 35 rfl) rfl ?_
     refine XS.iload X513.here hx rfl (D10 hby 36 rfl) rfl ?_
     refine XS.iadd X513.here hx rfl (D10 hby 37 rfl) rfl ?_
     exact XS.iload X513.here hx rfl (D10 hby 38 rfl) rfl k
    obtain ⟨T534, h534, L534, X534, e534, N534, K534, F534, st534⟩ := OwnA.stI X513 hx hZ e513 N513 g1 f533 (own_off 16 (j := ln) (by omega) (by omega) (by decide)).1 (own_off 16 (j := ln) (by omega) (by omega) (by decide)).2 (g := (mkF m 66 #[sA a1, sA a2, sA a3, sA lc, sI w2, sI ln, sI (1 : Int32), sI w3] [(.int w2), (.int ((16 : Int32) + ln)), (.ref lc)])) rfl rfl (D10 hby 39 rfl)
    refine OwnWp.step st534 ?_
    have Z534 : n0 ≤ h534.size := Nat.le_trans Z513 K534.1
    have f535 := Exa.keep f514 K534
    have f536 := Fld.keep f515 K534 (ninS n1 nin0)
    have f537 := Fld.keep f516 K534 (ninS n1 nin0)
    have f538 := Fld.keep f517 K534 (ninS n1 nin0)
    have f539 := Fld.keep f518 K534 (ninS n1 nin0)
    have f540 := Fld.keep f519 K534 (ninS n1 nin0)
    have f541 := Fld.keep f520 K534 (ninS n1 nin0)
    have f542 := Fld.keep f521 K534 (ninS n1 nin0)
    have f543 := Fld.keep f522 K534 (ninS n1 nin0)
    have f544 := Fld.keep f523 K534 (ninS n1 nin0)
    have f545 := Fld.keep f524 K534 (ninS n1 nin0)
    have f546 := Fld.keep f525 K534 (ninS n1 nin0)
    have f547 := Fld.keep f526 K534 (ninS n1 nin0)
    have f548 := OwnA.keep f527 K534 (ninS n4.symm nin0)
    have f549 := OwnA.keep f528 K534 (ninS n8 nin0)
    have f550 := OwnA.keep f529 K534 (ninS n12 nin0)
    have f551 := OwnA.keep f530 K534 (ninS n5.symm nin0)
    have F552 : OwnA Z h534 lc .int (64 : Int32) (fun zi => .int ((ownUpd gl0 ((16 : Int32) + ln).toInt w2) zi)) := F534.congr (fun zi _ _ => by exact ownUpd_int gl0 _ _ zi)
    have K553 := Keep.trans K532 K534 (allS (Or.inl (List.mem_of_getElem? (i := 1) rfl)) all0)
    show OwnWp p e below s _ _ _ (T534.setTop (mkF m 67 #[sA a1, sA a2, sA a3, sA lc, sI w2, sI ln, sI (1 : Int32), sI w3] []))
    obtain ⟨gl1, hgl1⟩ : ∃ z : Int → Int32, z = (ownUpd gl0 ((16 : Int32) + ln).toInt w2) := ⟨_, rfl⟩
    have f554 : OwnA Z h534 lc .int (64 : Int32) (fun zi => .int (gl1 zi)) := by rw [hgl1]; exact F552
    obtain ⟨w4, qw4⟩ : ∃ z : Int32, z = (w2 + w3) := ⟨_, rfl⟩
    refine own_s T534 (mkF m 74 #[sA a1, sA a2, sA a3, sA lc, sI w4, sI ln, sI (1 : Int32), sI w3] []) (fun t k => ?_) ?_
    ·refine XS.iload X534.here hx rfl (D10 hby 40 rfl) rfl ?_
     refine XS.iload X534.here hx rfl (D10 hby 41 rfl) rfl ?_
     refine XS.iadd X534.here hx rfl (D10 hby 42 rfl) rfl ?_
     refine XS.istore X534.here hx rfl (D10 hby 43 rfl) rfl (l' := #[sA a1, sA a2, sA a3, sA lc, sI (w2 + w3), sI ln, sI (1 : Int32), sI w3]) rfl ?_
     rw [qw4] at k
     exact k
    refine own_s T534 (mkF m 77 #[sA a1, sA a2, sA a3, sA lc, sI w4, sI ln, sI (2 : Int32), sI w3] []) (fun t k => ?_) ?_
    ·exact XT.iincV X534.here hx rfl (1 : Int32) (D10 hby 44 rfl) rfl rfl (l' := #[sA a1, sA a2, sA a3, sA lc, sI w4, sI ln, sI (2 : Int32), sI w3]) rfl k
    refine own_s T534 (mkF m 37 #[sA a1, sA a2, sA a3, sA lc, sI w4, sI ln, sI (2 : Int32), sI w3] []) (fun t k => ?_) ?_
    ·exact XS.goto X534.here hx rfl (pc0 := 77) (pc' := 37) rfl (D10 hby 45 rfl) (by decide) (by decide) k
    obtain ⟨w5, qw5⟩ : ∃ z : Int32, z = (gl1 ((32 : Int32) + ln).toInt) := ⟨_, rfl⟩
    refine own_s T534 (mkF m 55 #[sA a1, sA a2, sA a3, sA lc, sI w4, sI ln, sI (2 : Int32), sI w5] []) (fun t k => ?_) ?_
    ·refine XS.iload X534.here hx rfl (D10 hby 21 rfl) rfl ?_
     refine XT.iconstV X534.here hx rfl (4 : Int32) (D10 hby 22 rfl) rfl ?_
     refine XS.icmpNo X534.here hx rfl (D10 hby 23 rfl) rfl (XT.ii_ge_f (by decide)) ?_
     refine XS.aloadN X534.here hx rfl (D10 hby 24 rfl) rfl rfl ?_
     refine XS.iload X534.here hx rfl (D10 hby 25 rfl) rfl ?_
     refine XT.bipushV X534.here hx rfl (16 : Int32) (D10 hby 26 rfl) rfl ?_
     refine XS.imul X534.here hx rfl (D10 hby 27 rfl) rfl ?_
     refine XS.iload X534.here hx rfl (D10 hby 28 rfl) rfl ?_
     refine XS.iadd X534.here hx rfl (D10 hby 29 rfl) rfl ?_
     refine OwnA.ldI X534 hx hZ e534 f554 (own_off 32 (j := ln) (by omega) (by omega) (by decide)).1 (own_off 32 (j := ln) (by omega) (by omega) (by decide)).2 rfl rfl (D10 hby 30 rfl) ?_
     refine XS.istore X534.here hx rfl (D10 hby 31 rfl) rfl (l' := #[sA a1, sA a2, sA a3, sA lc, sI w4, sI ln, sI (2 : Int32), sI (gl1 ((32 : Int32) + ln).toInt)]) rfl ?_
     rw [qw5] at k
     exact k
    refine own_s T534 (mkF m 66 #[sA a1, sA a2, sA a3, sA lc, sI w4, sI ln, sI (2 : Int32), sI w5] [(.int w4), (.int ((32 : Int32) + ln)), (.ref lc)]) (fun t k => ?_) ?_
    ·refine XS.aloadN X534.here hx rfl (D10 hby 32 rfl) rfl rfl ?_
     refine XS.iload X534.here hx rfl (D10 hby 33 rfl) rfl ?_
     refine XT.bipushV X534.here hx rfl (16 : Int32) (D10 hby 34 rfl) rfl ?_
     refine XS.imul X534.here hx rfl (D10 hby 35 rfl) rfl ?_
     refine XS.iload X534.here hx rfl (D10 hby 36 rfl) rfl ?_
     refine XS.iadd X534.here hx rfl (D10 hby 37 rfl) rfl ?_
     exact XS.iload X534.here hx rfl (D10 hby 38 rfl) rfl k
    obtain ⟨T555, h555, L555, X555, e555, N555, K555, F555, st555⟩ := OwnA.stI X534 hx hZ e534 N534 g1 f554 (own_off 32 (j := ln) (by omega) (by omega) (by decide)).1 (own_off 32 (j := ln) (by omega) (by omega) (by decide)).2 (g := (mkF m 66 #[sA a1, sA a2, sA a3, sA lc, sI w4, sI ln, sI (2 : Int32), sI w5] [(.int w4), (.int ((32 : Int32) + ln)), (.ref lc)])) rfl rfl (D10 hby 39 rfl)
    refine OwnWp.step st555 ?_
    have Z555 : n0 ≤ h555.size := Nat.le_trans Z534 K555.1
    have f556 := Exa.keep f535 K555
    have f557 := Fld.keep f536 K555 (ninS n1 nin0)
    have f558 := Fld.keep f537 K555 (ninS n1 nin0)
    have f559 := Fld.keep f538 K555 (ninS n1 nin0)
    have f560 := Fld.keep f539 K555 (ninS n1 nin0)
    have f561 := Fld.keep f540 K555 (ninS n1 nin0)
    have f562 := Fld.keep f541 K555 (ninS n1 nin0)
    have f563 := Fld.keep f542 K555 (ninS n1 nin0)
    have f564 := Fld.keep f543 K555 (ninS n1 nin0)
    have f565 := Fld.keep f544 K555 (ninS n1 nin0)
    have f566 := Fld.keep f545 K555 (ninS n1 nin0)
    have f567 := Fld.keep f546 K555 (ninS n1 nin0)
    have f568 := Fld.keep f547 K555 (ninS n1 nin0)
    have f569 := OwnA.keep f548 K555 (ninS n4.symm nin0)
    have f570 := OwnA.keep f549 K555 (ninS n8 nin0)
    have f571 := OwnA.keep f550 K555 (ninS n12 nin0)
    have f572 := OwnA.keep f551 K555 (ninS n5.symm nin0)
    have F573 : OwnA Z h555 lc .int (64 : Int32) (fun zi => .int ((ownUpd gl1 ((32 : Int32) + ln).toInt w4) zi)) := F555.congr (fun zi _ _ => by exact ownUpd_int gl1 _ _ zi)
    have K574 := Keep.trans K553 K555 (allS (Or.inl (List.mem_of_getElem? (i := 1) rfl)) all0)
    show OwnWp p e below s _ _ _ (T555.setTop (mkF m 67 #[sA a1, sA a2, sA a3, sA lc, sI w4, sI ln, sI (2 : Int32), sI w5] []))
    obtain ⟨gl2, hgl2⟩ : ∃ z : Int → Int32, z = (ownUpd gl1 ((32 : Int32) + ln).toInt w4) := ⟨_, rfl⟩
    have f575 : OwnA Z h555 lc .int (64 : Int32) (fun zi => .int (gl2 zi)) := by rw [hgl2]; exact F573
    obtain ⟨w6, qw6⟩ : ∃ z : Int32, z = (w4 + w5) := ⟨_, rfl⟩
    refine own_s T555 (mkF m 74 #[sA a1, sA a2, sA a3, sA lc, sI w6, sI ln, sI (2 : Int32), sI w5] []) (fun t k => ?_) ?_
    ·refine XS.iload X555.here hx rfl (D10 hby 40 rfl) rfl ?_
     refine XS.iload X555.here hx rfl (D10 hby 41 rfl) rfl ?_
     refine XS.iadd X555.here hx rfl (D10 hby 42 rfl) rfl ?_
     refine XS.istore X555.here hx rfl (D10 hby 43 rfl) rfl (l' := #[sA a1, sA a2, sA a3, sA lc, sI (w4 + w5), sI ln, sI (2 : Int32), sI w5]) rfl ?_
     rw [qw6] at k
     exact k
    refine own_s T555 (mkF m 77 #[sA a1, sA a2, sA a3, sA lc, sI w6, sI ln, sI (3 : Int32), sI w5] []) (fun t k => ?_) ?_
    ·exact XT.iincV X555.here hx rfl (1 : Int32) (D10 hby 44 rfl) rfl rfl (l' := #[sA a1, sA a2, sA a3, sA lc, sI w6, sI ln, sI (3 : Int32), sI w5]) rfl k
    refine own_s T555 (mkF m 37 #[sA a1, sA a2, sA a3, sA lc, sI w6, sI ln, sI (3 : Int32), sI w5] []) (fun t k => ?_) ?_
    ·exact XS.goto X555.here hx rfl (pc0 := 77) (pc' := 37) rfl (D10 hby 45 rfl) (by decide) (by decide) k
    obtain ⟨w7, qw7⟩ : ∃ z : Int32, z = (gl2 ((48 : Int32) + ln).toInt) := ⟨_, rfl⟩
    refine own_s T555 (mkF m 55 #[sA a1, sA a2, sA a3, sA lc, sI w6, sI ln, sI (3 : Int32), sI w7] []) (fun t k => ?_) ?_
    ·refine XS.iload X555.here hx rfl (D10 hby 21 rfl) rfl ?_
     refine XT.iconstV X555.here hx rfl (4 : Int32) (D10 hby 22 rfl) rfl ?_
     refine XS.icmpNo X555.here hx rfl (D10 hby 23 rfl) rfl (XT.ii_ge_f (by decide)) ?_
     refine XS.aloadN X555.here hx rfl (D10 hby 24 rfl) rfl rfl ?_
     refine XS.iload X555.here hx rfl (D10 hby 25 rfl) rfl ?_
     refine XT.bipushV X555.here hx rfl (16 : Int32) (D10 hby 26 rfl) rfl ?_
     refine XS.imul X555.here hx rfl (D10 hby 27 rfl) rfl ?_
     refine XS.iload X555.here hx rfl (D10 hby 28 rfl) rfl ?_
     refine XS.iadd X555.here hx rfl (D10 hby 29 rfl) rfl ?_
     refine OwnA.ldI X555 hx hZ e555 f575 (own_off 48 (j := ln) (by omega) (by omega) (by decide)).1 (own_off 48 (j := ln) (by omega) (by omega) (by decide)).2 rfl rfl (D10 hby 30 rfl) ?_
     refine XS.istore X555.here hx rfl (D10 hby 31 rfl) rfl (l' := #[sA a1, sA a2, sA a3, sA lc, sI w6, sI ln, sI (3 : Int32), sI (gl2 ((48 : Int32) + ln).toInt)]) rfl ?_
     rw [qw7] at k
     exact k
    refine own_s T555 (mkF m 66 #[sA a1, sA a2, sA a3, sA lc, sI w6, sI ln, sI (3 : Int32), sI w7] [(.int w6), (.int ((48 : Int32) + ln)), (.ref lc)]) (fun t k => ?_) ?_
    ·refine XS.aloadN X555.here hx rfl (D10 hby 32 rfl) rfl rfl ?_
     refine XS.iload X555.here hx rfl (D10 hby 33 rfl) rfl ?_
     refine XT.bipushV X555.here hx rfl (16 : Int32) (D10 hby 34 rfl) rfl ?_
     refine XS.imul X555.here hx rfl (D10 hby 35 rfl) rfl ?_
     refine XS.iload X555.here hx rfl (D10 hby 36 rfl) rfl ?_
     refine XS.iadd X555.here hx rfl (D10 hby 37 rfl) rfl ?_
     exact XS.iload X555.here hx rfl (D10 hby 38 rfl) rfl k
    obtain ⟨T576, h576, L576, X576, e576, N576, K576, F576, st576⟩ := OwnA.stI X555 hx hZ e555 N555 g1 f575 (own_off 48 (j := ln) (by omega) (by omega) (by decide)).1 (own_off 48 (j := ln) (by omega) (by omega) (by decide)).2 (g := (mkF m 66 #[sA a1, sA a2, sA a3, sA lc, sI w6, sI ln, sI (3 : Int32), sI w7] [(.int w6), (.int ((48 : Int32) + ln)), (.ref lc)])) rfl rfl (D10 hby 39 rfl)
    refine OwnWp.step st576 ?_
    have Z576 : n0 ≤ h576.size := Nat.le_trans Z555 K576.1
    have f577 := Exa.keep f556 K576
    have f578 := Fld.keep f557 K576 (ninS n1 nin0)
    have f579 := Fld.keep f558 K576 (ninS n1 nin0)
    have f580 := Fld.keep f559 K576 (ninS n1 nin0)
    have f581 := Fld.keep f560 K576 (ninS n1 nin0)
    have f582 := Fld.keep f561 K576 (ninS n1 nin0)
    have f583 := Fld.keep f562 K576 (ninS n1 nin0)
    have f584 := Fld.keep f563 K576 (ninS n1 nin0)
    have f585 := Fld.keep f564 K576 (ninS n1 nin0)
    have f586 := Fld.keep f565 K576 (ninS n1 nin0)
    have f587 := Fld.keep f566 K576 (ninS n1 nin0)
    have f588 := Fld.keep f567 K576 (ninS n1 nin0)
    have f589 := Fld.keep f568 K576 (ninS n1 nin0)
    have f590 := OwnA.keep f569 K576 (ninS n4.symm nin0)
    have f591 := OwnA.keep f570 K576 (ninS n8 nin0)
    have f592 := OwnA.keep f571 K576 (ninS n12 nin0)
    have f593 := OwnA.keep f572 K576 (ninS n5.symm nin0)
    have F594 : OwnA Z h576 lc .int (64 : Int32) (fun zi => .int ((ownUpd gl2 ((48 : Int32) + ln).toInt w6) zi)) := F576.congr (fun zi _ _ => by exact ownUpd_int gl2 _ _ zi)
    have K595 := Keep.trans K574 K576 (allS (Or.inl (List.mem_of_getElem? (i := 1) rfl)) all0)
    show OwnWp p e below s _ _ _ (T576.setTop (mkF m 67 #[sA a1, sA a2, sA a3, sA lc, sI w6, sI ln, sI (3 : Int32), sI w7] []))
    obtain ⟨gl3, hgl3⟩ : ∃ z : Int → Int32, z = (ownUpd gl2 ((48 : Int32) + ln).toInt w6) := ⟨_, rfl⟩
    have f596 : OwnA Z h576 lc .int (64 : Int32) (fun zi => .int (gl3 zi)) := by rw [hgl3]; exact F594
    obtain ⟨w8, qw8⟩ : ∃ z : Int32, z = (w6 + w7) := ⟨_, rfl⟩
    refine own_s T576 (mkF m 74 #[sA a1, sA a2, sA a3, sA lc, sI w8, sI ln, sI (3 : Int32), sI w7] []) (fun t k => ?_) ?_
    ·refine XS.iload X576.here hx rfl (D10 hby 40 rfl) rfl ?_
     refine XS.iload X576.here hx rfl (D10 hby 41 rfl) rfl ?_
     refine XS.iadd X576.here hx rfl (D10 hby 42 rfl) rfl ?_
     refine XS.istore X576.here hx rfl (D10 hby 43 rfl) rfl (l' := #[sA a1, sA a2, sA a3, sA lc, sI (w6 + w7), sI ln, sI (3 : Int32), sI w7]) rfl ?_
     rw [qw8] at k
     exact k
    refine own_s T576 (mkF m 77 #[sA a1, sA a2, sA a3, sA lc, sI w8, sI ln, sI (4 : Int32), sI w7] []) (fun t k => ?_) ?_
    ·exact XT.iincV X576.here hx rfl (1 : Int32) (D10 hby 44 rfl) rfl rfl (l' := #[sA a1, sA a2, sA a3, sA lc, sI w8, sI ln, sI (4 : Int32), sI w7]) rfl k
    refine own_s T576 (mkF m 37 #[sA a1, sA a2, sA a3, sA lc, sI w8, sI ln, sI (4 : Int32), sI w7] []) (fun t k => ?_) ?_
    ·exact XS.goto X576.here hx rfl (pc0 := 77) (pc' := 37) rfl (D10 hby 45 rfl) (by decide) (by decide) k
    obtain ⟨t1, t2⟩ := own_sortA hln h1n (by omega) hA hcd qw1 hgl0 qw2 qw3 hgl1 qw4 qw5 hgl2 qw6 qw7 hgl3 qw8
    have t3 : own_plA (own_num (own_L Lf) 256) (jn + 1) gp2 := by rw [hgp2]; exact own_plturn hpA hln hcd
    refine own_s T576 (mkF m 81 #[sA a1, sA a2, sA a3, sA lc, sI w8, sI ln, sI (4 : Int32), sI w7] [(.ref a1)]) (fun t k => ?_) ?_
    ·refine XS.iload X576.here hx rfl (D10 hby 21 rfl) rfl ?_
     refine XT.iconstV X576.here hx rfl (4 : Int32) (D10 hby 22 rfl) rfl ?_
     refine XS.icmpYes X576.here hx rfl (pc0 := 40) (pc' := 80) rfl (D10 hby 23 rfl) rfl (XT.ii_ge_t (by decide)) (by decide) (by decide) ?_
     exact XS.aloadN X576.here hx rfl (D10 hby 46 rfl) rfl rfl k
    obtain ⟨T597, X597, e597, st597⟩ := getF X576 hx hZ hown (host := "") (Or.inl (own_hw hw 66 rfl)) Via.refl e576 f586 (g := (mkF m 81 #[sA a1, sA a2, sA a3, sA lc, sI w8, sI ln, sI (4 : Int32), sI w7] [(.ref a1)])) rfl rfl (D10 hby 47 rfl)
    refine OwnWp.step st597 ?_
    by_cases c84_598 : sh = (0 : Int32)
    ·refine own_s T597 (mkF m 87 #[sA a1, sA a2, sA a3, sA lc, sI w8, sI ln, sI (4 : Int32), sI w7] []) (fun t k => ?_) ?_
     ·exact XS.ifNo X597.here hx rfl (D10 hby 48 rfl) rfl (XT.i0_ne_f c84_598) k
     have tx : (fb ln.toInt).toInt = (own_num (own_L Lf) 256) (jn : Int) := by rw [hcn ln.toInt (by omega) (by omega), hln]
     refine own_s T597 (mkF m 91 #[sA a1, sA a2, sA a3, sA lc, sI w8, sI ln, sI (4 : Int32), sI w7] [(.int (fb ln.toInt))]) (fun t k => ?_) ?_
     ·refine XS.aloadN X597.here hx rfl (D10 hby 49 rfl) rfl rfl ?_
      refine XS.iload X597.here hx rfl (D10 hby 50 rfl) rfl ?_
      exact OwnA.ldI X597 hx hZ e597 f592 (by omega) (by omega) rfl rfl (D10 hby 51 rfl) k
     by_cases c91_599 : (0 : Int32) < (fb ln.toInt)
     ·refine own_s T597 (mkF m 94 #[sA a1, sA a2, sA a3, sA lc, sI w8, sI ln, sI (4 : Int32), sI w7] []) (fun t k => ?_) ?_
      ·exact XS.ifNo X597.here hx rfl (D10 hby 52 rfl) rfl (XT.i0_le_f c91_599) k
      refine own_s T597 (mkF m 97 #[sA a1, sA a2, sA a3, sA lc, sI w8, sI ln, sI (4 : Int32), sI w7] [(.int ln), (.ref a1)]) (fun t k => ?_) ?_
      ·refine XS.aloadN X597.here hx rfl (D10 hby 53 rfl) rfl rfl ?_
       exact XS.iload X597.here hx rfl (D10 hby 54 rfl) rfl k
      obtain ⟨T600, h600, X600, e600, W600, st600⟩ := putF X597 hx hZ hown (host := "") (Or.inl (own_hw hw 66 rfl)) Via.refl e597 f586 f577 (Or.inl (own_hw hw 67 rfl)) (own_hw hw 3 rfl) (ty := .int) (by decide) rfl rfl (g := (mkF m 97 #[sA a1, sA a2, sA a3, sA lc, sI w8, sI ln, sI (4 : Int32), sI w7] [(.int ln), (.ref a1)])) rfl rfl (D10 hby 55 rfl)
      have N600 := own_frs (sl := Jvm.RoadKit.slotOf Z DTn "shortest" "I") N576 g0
      have Z600 : n0 ≤ h600.size := by rw [W600.size]; exact Z576
      refine OwnWp.step st600 ?_
      have f601 := Exa.wr W600 f577
      have f602 := Fld.other W600 f578 (Or.inr (slot_ne (C := DTn) (Or.inl (own_hw hw 12 rfl)) (Or.inl (own_hw hw 67 rfl)) (by decide) (t := (.array .int)) (t' := .int) (by decide) (by decide)))
      have f603 := Fld.other W600 f579 (Or.inr (slot_ne (C := DTn) (Or.inl (own_hw hw 56 rfl)) (Or.inl (own_hw hw 67 rfl)) (by decide) (t := .int) (t' := .int) (by decide) (by decide)))
      have f604 := Fld.other W600 f580 (Or.inr (slot_ne (C := DTn) (Or.inl (own_hw hw 61 rfl)) (Or.inl (own_hw hw 67 rfl)) (by decide) (t := .int) (t' := .int) (by decide) (by decide)))
      have f605 := Fld.other W600 f581 (Or.inr (slot_ne (C := DTn) (Or.inl (own_hw hw 75 rfl)) (Or.inl (own_hw hw 67 rfl)) (by decide) (t := .int) (t' := .int) (by decide) (by decide)))
      have f606 := Fld.other W600 f582 (Or.inr (slot_ne (C := DTn) (Or.inl (own_hw hw 54 rfl)) (Or.inl (own_hw hw 67 rfl)) (by decide) (t := (.array .int)) (t' := .int) (by decide) (by decide)))
      have f607 := Fld.other W600 f583 (Or.inr (slot_ne (C := DTn) (Or.inr (own_hw hw 14 rfl)) (Or.inl (own_hw hw 67 rfl)) (by decide) (t := (.array .int)) (t' := .int) (by decide) (by decide)))
      have f608 := Fld.other W600 f584 (Or.inr (slot_ne (C := DTn) (Or.inr (own_hw hw 16 rfl)) (Or.inl (own_hw hw 67 rfl)) (by decide) (t := (.array .int)) (t' := .int) (by decide) (by decide)))
      have f609 := Fld.other W600 f585 (Or.inr (slot_ne (C := DTn) (Or.inr (own_hw hw 18 rfl)) (Or.inl (own_hw hw 67 rfl)) (by decide) (t := (.array .int)) (t' := .int) (by decide) (by decide)))
      have f610 := Fld.same W600 f586
      have f611 := Fld.other W600 f587 (Or.inr (slot_ne (C := DTn) (Or.inl (own_hw hw 52 rfl)) (Or.inl (own_hw hw 67 rfl)) (by decide) (t := .int) (t' := .int) (by decide) (by decide)))
      have f612 := Fld.other W600 f588 (Or.inr (slot_ne (C := DTn) (Or.inl (own_hw hw 20 rfl)) (Or.inl (own_hw hw 67 rfl)) (by decide) (t := (.array .int)) (t' := .int) (by decide) (by decide)))
      have f613 := Fld.other W600 f589 (Or.inr (slot_ne (C := DTn) (Or.inl (own_hw hw 22 rfl)) (Or.inl (own_hw hw 67 rfl)) (by decide) (t := (.array .int)) (t' := .int) (by decide) (by decide)))
      have f614 := OwnA.other f590 W600 n2.symm
      have f615 := OwnA.other f591 W600 n7
      have f616 := OwnA.other f592 W600 n11
      have f617 := OwnA.other f593 W600 n3.symm
      have f618 := OwnA.other f596 W600 n1.symm
      have K619 := Keep.wr K595 W600 (Or.inl (List.mem_of_getElem? (i := 0) rfl))
      show OwnWp p e below s _ _ _ (T600.setTop (mkF m 100 #[sA a1, sA a2, sA a3, sA lc, sI w8, sI ln, sI (4 : Int32), sI w7] []))
      obtain ⟨w9, qw9⟩ : ∃ z : Int32, z = (ln + (1 : Int32)) := ⟨_, rfl⟩
      refine own_s T600 (mkF m 103 #[sA a1, sA a2, sA a3, sA lc, sI w8, sI w9, sI (4 : Int32), sI w7] []) (fun t k => ?_) ?_
      ·refine XT.iincV X600.here hx rfl (1 : Int32) (D10 hby 56 rfl) rfl rfl (l' := #[sA a1, sA a2, sA a3, sA lc, sI w8, sI (ln + (1 : Int32)), sI (4 : Int32), sI w7]) rfl ?_
       rw [qw9] at k
       exact k
      refine own_s T600 (mkF m 16 #[sA a1, sA a2, sA a3, sA lc, sI w8, sI w9, sI (4 : Int32), sI w7] []) (fun t k => ?_) ?_
      ·exact XS.goto X600.here hx rfl (pc0 := 103) (pc' := 16) rfl (D10 hby 57 rfl) (by decide) (by decide) k
      have t4 : w9.toInt = ((jn + 1 : Nat) : Int) := by rw [qw9]; exact own_inc hln (by omega)
      exact ih  T600 h600 _ w8 w9 ln (jn + 1) gl3 gp2 _ _ X600 e600 N600 Z600 f601 f602 f603 f604 f605 f606 f607 f608 f609 f610 f611 f612 f613 f618 f614 f617 f615 f616 K619 (One.val rfl) (One.val rfl) t4 (by omega) (by omega) t2 t1 t3 (own_shs hsA c84_598 h1n hln tx c91_599)
     ·refine own_s T597 (mkF m 100 #[sA a1, sA a2, sA a3, sA lc, sI w8, sI ln, sI (4 : Int32), sI w7] []) (fun t k => ?_) ?_
      ·exact XS.ifYes X597.here hx rfl (pc0 := 91) (pc' := 100) rfl (D10 hby 52 rfl) rfl (XT.i0_le_t c91_599) (by decide) (by decide) k
      obtain ⟨w9, qw9⟩ : ∃ z : Int32, z = (ln + (1 : Int32)) := ⟨_, rfl⟩
      refine own_s T597 (mkF m 103 #[sA a1, sA a2, sA a3, sA lc, sI w8, sI w9, sI (4 : Int32), sI w7] []) (fun t k => ?_) ?_
      ·refine XT.iincV X597.here hx rfl (1 : Int32) (D10 hby 56 rfl) rfl rfl (l' := #[sA a1, sA a2, sA a3, sA lc, sI w8, sI (ln + (1 : Int32)), sI (4 : Int32), sI w7]) rfl ?_
       rw [qw9] at k
       exact k
      refine own_s T597 (mkF m 16 #[sA a1, sA a2, sA a3, sA lc, sI w8, sI w9, sI (4 : Int32), sI w7] []) (fun t k => ?_) ?_
      ·exact XS.goto X597.here hx rfl (pc0 := 103) (pc' := 16) rfl (D10 hby 57 rfl) (by decide) (by decide) k
      have t4 : w9.toInt = ((jn + 1 : Nat) : Int) := by rw [qw9]; exact own_inc hln (by omega)
      exact ih  T597 h576 _ w8 w9 sh (jn + 1) gl3 gp2 _ _ X597 e597 N576 Z576 f577 f578 f579 f580 f581 f582 f583 f584 f585 f586 f587 f588 f589 f596 f590 f593 f591 f592 K595 (One.val rfl) (One.val rfl) t4 (by omega) (by omega) t2 t1 t3 (own_sh0 hsA c84_598 h1n tx c91_599 (own_numC _ _).1)
    ·refine own_s T597 (mkF m 100 #[sA a1, sA a2, sA a3, sA lc, sI w8, sI ln, sI (4 : Int32), sI w7] []) (fun t k => ?_) ?_
     ·exact XS.ifYes X597.here hx rfl (pc0 := 84) (pc' := 100) rfl (D10 hby 48 rfl) rfl (XT.i0_ne_t c84_598) (by decide) (by decide) k
     obtain ⟨w9, qw9⟩ : ∃ z : Int32, z = (ln + (1 : Int32)) := ⟨_, rfl⟩
     refine own_s T597 (mkF m 103 #[sA a1, sA a2, sA a3, sA lc, sI w8, sI w9, sI (4 : Int32), sI w7] []) (fun t k => ?_) ?_
     ·refine XT.iincV X597.here hx rfl (1 : Int32) (D10 hby 56 rfl) rfl rfl (l' := #[sA a1, sA a2, sA a3, sA lc, sI w8, sI (ln + (1 : Int32)), sI (4 : Int32), sI w7]) rfl ?_
      rw [qw9] at k
      exact k
     refine own_s T597 (mkF m 16 #[sA a1, sA a2, sA a3, sA lc, sI w8, sI w9, sI (4 : Int32), sI w7] []) (fun t k => ?_) ?_
     ·exact XS.goto X597.here hx rfl (pc0 := 103) (pc' := 16) rfl (D10 hby 57 rfl) (by decide) (by decide) k
     have t4 : w9.toInt = ((jn + 1 : Nat) : Int) := by rw [qw9]; exact own_inc hln (by omega)
     exact ih  T597 h576 _ w8 w9 sh (jn + 1) gl3 gp2 _ _ X597 e597 N576 Z576 f577 f578 f579 f580 f581 f582 f583 f584 f585 f586 f587 f588 f589 f596 f590 f593 f591 f592 K595 (One.val rfl) (One.val rfl) t4 (by omega) (by omega) t2 t1 t3 (own_shk hsA c84_598)
 exact hloop mx T148 h148 _ (0 : Int32) (1 : Int32) (0 : Int32) 1 gc fp _ _ X148 e148 N148 Z148 f149 f150 f151 f152 f153 f154 f155 f156 f157 f158 f159 f160 f161 f162 f163 f164 f165 f166 K167 One.u One.u (by decide) (by decide) (by omega) (by rfl) (own_sA0 hla) (fun l h1 h2 => absurd h2 (by omega)) (Or.inl ⟨rfl, fun l h1 h2 => absurd h2 (by omega)⟩)
/-! the tables: what a place holds -/
def own_good (C : Int → Int) (o : Int → Int32) (b : Nat) (slot B : Int) (q : Int) (x : Int32) : Prop :=
  (slot ≠ 0 → x.toInt % 65536 ≤ 79 + B) ∧ (slot = 0 → ∀ (l : Nat) (r i : Int), 1 ≤ l → l ≤ b → 0 ≤ r → r < C (l : Int) → 0 ≤ i → i < 2 ^ (b - l) → q = own_Sum C b l + r * 2 ^ (b - l) + i → ∃ low : Int, 64 ≤ low ∧ low ≤ 79 + B ∧ x.toInt % 65536 = 256 * (o (own_A C l + r)).toInt + low)
theorem own_p2 (n : Nat) : (1 : Int) ≤ 2 ^ n := by
  have h1 : 1 ≤ (2 : Nat) ^ n := Nat.one_le_two_pow
  have h2 : ((2 ^ n : Nat) : Int) = (2 : Int) ^ n := by push_cast; rfl
  omega
theorem own_p2le {n m : Nat} (h : n ≤ m) : (2 : Int) ^ n ≤ 2 ^ m := by
  have h1 : (2 : Nat) ^ n ≤ 2 ^ m := Nat.pow_le_pow_right (by decide) h
  have h2 : ((2 ^ n : Nat) : Int) = (2 : Int) ^ n := by push_cast; rfl
  have h3 : ((2 ^ m : Nat) : Int) = (2 : Int) ^ m := by push_cast; rfl
  omega
theorem own_p2s (n : Nat) : (2 : Int) ^ (n + 1) = 2 * 2 ^ n := by rw [Int.pow_succ, Int.mul_comm]
theorem own_Sum_mono {C : Int → Int} (hC : ∀ t, 0 ≤ C t) (b : Nat) (l : Nat) : ∀ j : Nat, own_Sum C b l ≤ own_Sum C b (l + j)
  | 0 => Int.le_refl _
  | j + 1 => by
    have ih := own_Sum_mono hC b l j
    have e : own_Sum C b (l + (j + 1)) = own_Sum C b (l + j) + (if l + j = 0 then 0 else C ((l + j : Nat) : Int) * 2 ^ (b - (l + j))) := rfl
    have p := Int.mul_nonneg (hC ((l + j : Nat) : Int)) (Int.le_trans (by decide) (own_p2 (b - (l + j))))
    rw [e]
    split <;> omega
theorem own_Sum_le {C : Int → Int} (hC : ∀ t, 0 ≤ C t) (b : Nat) {l l' : Nat} (h : l ≤ l') : own_Sum C b l ≤ own_Sum C b l' := by
  have := own_Sum_mono hC b l (l' - l)
  rwa [show l + (l' - l) = l' from by omega] at this
theorem own_Sum_zero {C : Int → Int} {b sh : Nat} (h : ∀ t : Int, 1 ≤ t → t < (sh : Int) → C t = 0) : ∀ l : Nat, l ≤ sh → own_Sum C b l = 0
  | 0, _ => rfl
  | l + 1, hl => by
    have ih := own_Sum_zero (b := b) h l (by omega)
    have e : own_Sum C b (l + 1) = own_Sum C b l + (if l = 0 then 0 else C (l : Int) * 2 ^ (b - l)) := rfl
    rw [e, ih]
    by_cases q : l = 0
    · rw [if_pos q]; rfl
    · rw [if_neg q, h l (by omega) (by omega), Int.zero_mul]; rfl
theorem own_blk {r c P i : Int} (hP : 1 ≤ P) (r0 : 0 ≤ r) (r1 : r < c) (i0 : 0 ≤ i) (i1 : i < P) : 0 ≤ r * P + i ∧ r * P + i < c * P := by
  have a := Int.mul_nonneg r0 (show 0 ≤ P by omega)
  have b := Int.mul_le_mul_of_nonneg_right (show r + 1 ≤ c by omega) (show 0 ≤ P by omega)
  rw [Int.add_mul, Int.one_mul] at b
  omega
theorem own_rdiv {r P i : Int} (hP : 1 ≤ P) (i0 : 0 ≤ i) (i1 : i < P) : (r * P + i) / P = r := by
  rw [Int.add_comm, Int.add_mul_ediv_right _ _ (by omega), Int.ediv_eq_zero_of_lt i0 i1, Int.zero_add]
theorem own_uniq {C : Int → Int} (hC : ∀ t, 0 ≤ C t) {b l l' : Nat} {r r' i i' : Int} (l1 : 1 ≤ l) (l1' : 1 ≤ l') (r0 : 0 ≤ r) (r1 : r < C (l : Int)) (i0 : 0 ≤ i) (i1 : i < 2 ^ (b - l)) (r0' : 0 ≤ r') (r1' : r' < C (l' : Int)) (i0' : 0 ≤ i') (i1' : i' < 2 ^ (b - l'))
    (h : own_Sum C b l + r * 2 ^ (b - l) + i = own_Sum C b l' + r' * 2 ^ (b - l') + i') : l = l' ∧ r = r' := by
  have a := own_blk (own_p2 (b - l)) r0 r1 i0 i1
  have a' := own_blk (own_p2 (b - l')) r0' r1' i0' i1'
  have s := own_Sum_succ C b l1
  have s' := own_Sum_succ C b l1'
  rcases Nat.lt_trichotomy l l' with q | q | q
  · have := own_Sum_le hC b (show l + 1 ≤ l' by omega)
    omega
  · subst q
    refine ⟨rfl, ?_⟩
    have e1 := own_rdiv (r := r) (own_p2 (b - l)) i0 i1
    have e2 := own_rdiv (r := r') (own_p2 (b - l)) i0' i1'
    rw [show r * 2 ^ (b - l) + i = r' * 2 ^ (b - l) + i' from by omega] at e1
    omega
  · have := own_Sum_le hC b (show l' + 1 ≤ l by omega)
    omega
theorem own_goodv {C : Int → Int} {o : Int → Int32} {b : Nat} {slot B : Int} (hC : ∀ t, 0 ≤ C t) {l : Nat} {r i q : Int} (l1 : 1 ≤ l) (r0 : 0 ≤ r) (r1 : r < C (l : Int)) (i0 : 0 ≤ i) (i1 : i < 2 ^ (b - l)) (hq : q = own_Sum C b l + r * 2 ^ (b - l) + i) {x : Int32} {low : Int} (h1 : 64 ≤ low) (h2 : low ≤ 79 + B) (hx : x.toInt % 65536 = (if slot = 0 then 256 * (o (own_A C l + r)).toInt else 0) + low) : own_good C o b slot B q x := by
  refine ⟨fun h => by rw [if_neg h] at hx; omega, fun h l' r' i' l1' _ r0' r1' i0' i1' hq' => ?_⟩
  obtain ⟨e1, e2⟩ := own_uniq hC l1 l1' r0 r1 i0 i1 r0' r1' i0' i1' (hq.symm.trans hq')
  subst e1 e2
  rw [if_pos h] at hx
  exact ⟨low, h1, h2, hx⟩
theorem own_codev {ov ln sl : Int32} (ho : 0 ≤ ov.toInt ∧ ov.toInt ≤ 255) (hl : 0 ≤ ln.toInt ∧ ln.toInt ≤ 15) (hs : sl = 0 ∨ sl = 1 ∨ sl = 2) : (own_code ov ln sl).toInt % 65536 = (if sl.toInt = 0 then 256 * ov.toInt else 0) + (64 + ln.toInt) := by
  obtain ⟨k, rfl⟩ := own_fin (n := 256) ho.1 (by omega)
  obtain ⟨j, rfl⟩ := own_fin (n := 16) hl.1 (by omega)
  rcases hs with rfl | rfl | rfl
  · exact (by decide +kernel : ∀ (k : Fin 256) (j : Fin 16), (own_code (Int32.ofInt (k.1 : Int)) (Int32.ofInt (j.1 : Int)) 0).toInt % 65536 = (if (0 : Int32).toInt = 0 then 256 * (Int32.ofInt (k.1 : Int)).toInt else 0) + (64 + (Int32.ofInt (j.1 : Int)).toInt)) k j
  · exact (by decide +kernel : ∀ (k : Fin 256) (j : Fin 16), (own_code (Int32.ofInt (k.1 : Int)) (Int32.ofInt (j.1 : Int)) 1).toInt % 65536 = (if (1 : Int32).toInt = 0 then 256 * (Int32.ofInt (k.1 : Int)).toInt else 0) + (64 + (Int32.ofInt (j.1 : Int)).toInt)) k j
  · exact (by decide +kernel : ∀ (k : Fin 256) (j : Fin 16), (own_code (Int32.ofInt (k.1 : Int)) (Int32.ofInt (j.1 : Int)) 2).toInt % 65536 = (if (2 : Int32).toInt = 0 then 256 * (Int32.ofInt (k.1 : Int)).toInt else 0) + (64 + (Int32.ofInt (j.1 : Int)).toInt)) k j
theorem own_sumv {x y : Int32} {X Y : Int} (hx : x.toInt % 65536 = X) (hy : y.toInt % 65536 = Y) (h : X + Y < 65536) : (x + y).toInt % 65536 = X + Y := by
  have a := c_iadd x y
  omega
/-- the value that goes to a place of the block (l, r) -/
def own_isval (o : Int → Int32) (C : Int → Int) (l : Nat) (r : Int) (sl : Int32) (B : Int) (x : Int32) : Prop := ∃ low : Int, 64 ≤ low ∧ low ≤ 79 + B ∧ x.toInt % 65536 = (if sl.toInt = 0 then 256 * (o (own_A C l + r)).toInt else 0) + low
theorem own_isval0 {o : Int → Int32} {C : Int → Int} {l : Nat} {r B : Int} {sl ln kk : Int32} (hB : 0 ≤ B) (ho : own_byte o) (hk : kk.toInt = own_A C l + r) (hk0 : 0 ≤ kk.toInt) (hk1 : kk.toInt < 256) (hl : ln.toInt = (l : Int)) (hl1 : l ≤ 15) (hs : sl = 0 ∨ sl = 1 ∨ sl = 2) : own_isval o C l r sl B (own_code (o kk.toInt) ln sl) :=
  ⟨64 + ln.toInt, by omega, by omega, by rw [← hk]; exact own_codev (ho _ hk0 hk1) (by omega) hs⟩
theorem own_isval1 {o : Int → Int32} {C : Int → Int} {l : Nat} {r B : Int} {sl ln kk y : Int32} (hB : B ≤ 158) (ho : own_byte o) (hk : kk.toInt = own_A C l + r) (hk0 : 0 ≤ kk.toInt) (hk1 : kk.toInt < 256) (hl : ln.toInt = (l : Int)) (hl1 : l ≤ 15) (hs : sl = 0 ∨ sl = 1 ∨ sl = 2) (hy : y.toInt % 65536 ≤ B) : own_isval o C l r sl B (own_code (o kk.toInt) ln sl + y) := by
  have b := ho _ hk0 hk1
  have c := own_codev b (ln := ln) (by omega) hs
  refine ⟨64 + ln.toInt + y.toInt % 65536, by omega, by omega, ?_⟩
  rw [← hk]
  have e := own_sumv (y := y) c rfl (by split <;> omega)
  rw [e]; omega
theorem own_isvalc {o : Int → Int32} {C : Int → Int} {l : Nat} {r B : Int} {sl x y : Int32} (h : own_isval o C l r sl B (x + y)) : own_isval o C l r sl B (y + x) := by rw [Int32.add_comm]; exact h
def own_inv (f g : Int → Int32) (C : Int → Int) (o : Int → Int32) (b : Nat) (slot B i0 e : Int) : Prop := i0 ≤ e ∧ (∀ q : Int, i0 ≤ q → q < e → own_good C o b slot B (q - i0) (g q)) ∧ ∀ q : Int, q < i0 ∨ e ≤ q → g q = f q
theorem own_inv0 (f : Int → Int32) (C : Int → Int) (o : Int → Int32) (b : Nat) (slot B i0 : Int) : own_inv f f C o b slot B i0 i0 := ⟨Int.le_refl _, fun q h1 h2 => absurd h2 (by omega), fun _ _ => rfl⟩
theorem own_inv_ext {f g g' : Int → Int32} {C : Int → Int} {o : Int → Int32} {b : Nat} {slot B i0 e e' : Int} (H : own_inv f g C o b slot B i0 e) (he : e ≤ e') (h1 : ∀ q : Int, q < e ∨ e' ≤ q → g' q = g q) (h2 : ∀ q : Int, e ≤ q → q < e' → own_good C o b slot B (q - i0) (g' q)) : own_inv f g' C o b slot B i0 e' := by
  obtain ⟨a, c, d⟩ := H
  refine ⟨by omega, fun q q1 q2 => ?_, fun q hq => ?_⟩
  · rcases Int.lt_or_le q e with z | z
    · rw [h1 q (Or.inl z)]; exact c q q1 z
    · exact h2 q z q2
  · rw [h1 q (by omega)]; exact d q (by omega)
theorem own_inv_upd {f g : Int → Int32} {C : Int → Int} {o : Int → Int32} {b : Nat} {slot B i0 e : Int} {x : Int32} (H : own_inv f g C o b slot B i0 e) (hx : own_good C o b slot B (e - i0) x) : own_inv f (ownUpd g e x) C o b slot B i0 (e + 1) :=
  own_inv_ext H (by omega) (fun q hq => ownUpd_ne _ _ _ (by omega)) (fun q h1 h2 => by rw [show q = e from by omega, ownUpd_same]; exact hx)
/-- a place of the block (l, r) -/
theorem own_goodb {C : Int → Int} (hC : ∀ t, 0 ≤ C t) {o : Int → Int32} {b : Nat} {B i0 e q : Int} {sl : Int32} {l : Nat} {r : Int} (l1 : 1 ≤ l) (r0 : 0 ≤ r) (r1 : r < C (l : Int)) (he : e = i0 + own_Sum C b l + r * 2 ^ (b - l)) (h1 : e ≤ q) (h2 : q < e + 2 ^ (b - l)) {x : Int32} (hx : own_isval o C l r sl B x) : own_good C o b sl.toInt B (q - i0) x := by
  obtain ⟨low, w1, w2, w3⟩ := hx
  exact own_goodv hC l1 r0 r1 (i := q - e) (by omega) (by omega) (by omega) w1 w2 w3

theorem own_shl1 {x : Int32} (h0 : 0 ≤ x.toInt) (h1 : x.toInt ≤ 15) : ((1 : Int32) <<< (x &&& 31)).toInt = 2 ^ x.toInt.toNat := by
  obtain ⟨k, rfl⟩ := own_fin (n := 16) h0 (by omega)
  exact (by decide +kernel : ∀ k : Fin 16, ((1 : Int32) <<< (Int32.ofInt (k.1 : Int) &&& 31)).toInt = 2 ^ (Int32.ofInt (k.1 : Int)).toInt.toNat) k
theorem own_four {x : Int32} (h0 : 0 ≤ x.toInt) (h1 : x.toInt < 4) : x = 0 ∨ x = 1 ∨ x = 2 ∨ x = 3 := by
  rcases (by omega : x.toInt = 0 ∨ x.toInt = 1 ∨ x.toInt = 2 ∨ x.toInt = 3) with q | q | q | q
  · exact Or.inl (Int32.toInt_inj.mp q)
  · exact Or.inr (Or.inl (Int32.toInt_inj.mp q))
  · exact Or.inr (Or.inr (Or.inl (Int32.toInt_inj.mp q)))
  · exact Or.inr (Or.inr (Or.inr (Int32.toInt_inj.mp q)))
theorem own_cshl {c x : Int32} (hc0 : 0 ≤ c.toInt) (hc1 : c.toInt ≤ 256) (h0 : 0 ≤ x.toInt) (h1 : x.toInt < 4) : (c <<< (x &&& 31)).toInt = c.toInt * 2 ^ x.toInt.toNat := by
  rcases own_four h0 h1 with rfl | rfl | rfl | rfl
  · have a := c_ishl c 0 0 (by decide); have r := rng32 (c <<< ((0 : Int32) &&& 31)); rw [show (2 : Int) ^ (0 : Int32).toInt.toNat = 1 from by decide]; omega
  · have a := c_ishl c 1 1 (by decide); have r := rng32 (c <<< ((1 : Int32) &&& 31)); rw [show (2 : Int) ^ (1 : Int32).toInt.toNat = 2 from by decide]; omega
  · have a := c_ishl c 2 2 (by decide); have r := rng32 (c <<< ((2 : Int32) &&& 31)); rw [show (2 : Int) ^ (2 : Int32).toInt.toNat = 4 from by decide]; omega
  · have a := c_ishl c 3 3 (by decide); have r := rng32 (c <<< ((3 : Int32) &&& 31)); rw [show (2 : Int) ^ (3 : Int32).toInt.toNat = 8 from by decide]; omega
theorem own_ush0' (x : Int32) : XT.ushr x 0 = x := by
  unfold XT.ushr
  apply Int32.toBitVec_inj.mp
  show (x.toBitVec >>> _) = _
  rw [show (((0 : Int32) &&& 31).toUInt32.mod 32).toBitVec = 0#32 from by decide]
  simp
theorem own_ushrk {j x : Int32} (hj : 0 ≤ j.toInt) (h0 : 0 ≤ x.toInt) (h1 : x.toInt < 4) : (XT.ushr j x).toInt = j.toInt / 2 ^ x.toInt.toNat := by
  have rj := rng32 j
  rcases own_four h0 h1 with rfl | rfl | rfl | rfl
  · rw [own_ush0', show (2 : Int) ^ (0 : Int32).toInt.toNat = 1 from by decide]; omega
  · have a : (XT.ushr j 1).toInt = _ := c_iushr j 1 1 (by decide) (by decide); rw [show (2 : Int) ^ (1 : Int32).toInt.toNat = 2 from by decide]; omega
  · have a : (XT.ushr j 2).toInt = _ := c_iushr j 2 2 (by decide) (by decide); rw [show (2 : Int) ^ (2 : Int32).toInt.toNat = 4 from by decide]; omega
  · have a : (XT.ushr j 3).toInt = _ := c_iushr j 3 3 (by decide) (by decide); rw [show (2 : Int) ^ (3 : Int32).toInt.toNat = 8 from by decide]; omega
theorem own_maskk {j x m cp : Int32} (hj : 0 ≤ j.toInt) (h0 : 0 ≤ x.toInt) (h1 : x.toInt < 4) (hcp : cp.toInt = 2 ^ x.toInt.toNat) (hm : m = cp - (1 : Int32)) : (j &&& m).toInt = j.toInt % 2 ^ x.toInt.toNat := by
  rcases own_four h0 h1 with rfl | rfl | rfl | rfl
  · rw [show (2 : Int) ^ (0 : Int32).toInt.toNat = 1 from by decide] at *
    rw [show cp = 1 from Int32.toInt_inj.mp hcp] at hm
    have a := c_mask j 0 0 (by decide) (by decide); rw [hm, show (1 : Int32) - 1 = 0 from by decide]; omega
  · rw [show (2 : Int) ^ (1 : Int32).toInt.toNat = 2 from by decide] at *
    rw [show cp = 2 from Int32.toInt_inj.mp hcp] at hm
    have a := c_mask j 1 1 (by decide) (by decide); rw [hm, show (2 : Int32) - 1 = 1 from by decide]; omega
  · rw [show (2 : Int) ^ (2 : Int32).toInt.toNat = 4 from by decide] at *
    rw [show cp = 4 from Int32.toInt_inj.mp hcp] at hm
    have a := c_mask j 3 2 (by decide) (by decide); rw [hm, show (4 : Int32) - 1 = 3 from by decide]; omega
  · rw [show (2 : Int) ^ (3 : Int32).toInt.toNat = 8 from by decide] at *
    rw [show cp = 8 from Int32.toInt_inj.mp hcp] at hm
    have a := c_mask j 7 3 (by decide) (by decide); rw [hm, show (8 : Int32) - 1 = 7 from by decide]; omega
theorem own_head {C : Int → Int} {gp : Int → Int32} {ln fi en rs cp p2 : Int32} {l b : Nat} (hpl : own_plA C 17 gp) (hln : ln.toInt = (l : Int)) (l1 : 1 ≤ l) (l15 : l ≤ 15) (hb : p2.toInt = (b : Int)) (lb : l ≤ b) (b12 : b ≤ 12) (q1 : fi = gp ln.toInt) (q2 : en = gp (ln + (1 : Int32)).toInt) (q3 : rs = p2 - ln) (q4 : cp = (1 : Int32) <<< (rs &&& 31)) :
    fi.toInt = own_A C l ∧ en.toInt = own_A C l + C (l : Int) ∧ rs.toInt = ((b - l : Nat) : Int) ∧ cp.toInt = 2 ^ (b - l) := by
  have h1 : fi.toInt = own_A C l := by rw [q1, hpl ln.toInt (by omega) (by omega), hln]; rfl
  have e := own_inc hln (by omega)
  have h2 : en.toInt = own_A C l + C (l : Int) := by rw [q2, e, hpl _ (by omega) (by omega), show (((l + 1 : Nat) : Int)).toNat = l + 1 from rfl, own_A_succ C l1]
  have h3 : rs.toInt = ((b - l : Nat) : Int) := by rw [q3, own_sub (by omega) (by omega)]; omega
  refine ⟨h1, h2, h3, ?_⟩
  rw [q4, own_shl1 (by omega) (by omega), h3]; rfl
theorem own_cntv {C : Int → Int} {fi en rs cn : Int32} {l b : Nat} (hC : ∀ t, 0 ≤ C t ∧ C t ≤ 256) (h1 : fi.toInt = own_A C l) (h2 : en.toInt = own_A C l + C (l : Int)) (hA : own_A C l + C (l : Int) ≤ 256) (hrs : rs.toInt = ((b - l : Nat) : Int)) (h4 : rs.toInt < 4) (q : cn = (en - fi) <<< (rs &&& 31)) : cn.toInt = C (l : Int) * 2 ^ (b - l) := by
  have a := own_A_nn hC l
  have c := hC l
  have e := own_sub (x := en) (y := fi) (by omega) (by omega)
  rw [q, own_cshl (by omega) (by omega) (by omega) h4, e, hrs, show (((b - l : Nat) : Int)).toNat = b - l from rfl]
  rw [show en.toInt - fi.toInt = C (l : Int) from by omega]
theorem own_sh_in {C : Int → Int} {fi rs j : Int32} {l b jn : Nat} (hC : ∀ t, 0 ≤ C t ∧ C t ≤ 256) (h1 : fi.toInt = own_A C l) (hA : own_A C l + C (l : Int) ≤ 256) (hrs : rs.toInt = ((b - l : Nat) : Int)) (h4 : rs.toInt < 4) (hj : j.toInt = (jn : Int)) (hjn : (jn : Int) < C (l : Int) * 2 ^ (b - l)) :
    0 ≤ (fi + XT.ushr j rs).toInt ∧ (fi + XT.ushr j rs).toInt < 256 ∧ (fi + XT.ushr j rs).toInt = own_A C l + (jn : Int) / 2 ^ (b - l) ∧ 0 ≤ (jn : Int) / 2 ^ (b - l) ∧ (jn : Int) / 2 ^ (b - l) < C (l : Int) := by
  have p := own_p2 (b - l)
  have d0 : 0 ≤ (jn : Int) / 2 ^ (b - l) := Int.ediv_nonneg (by omega) (by omega)
  have d1 : (jn : Int) / 2 ^ (b - l) < C (l : Int) := Int.ediv_lt_of_lt_mul (by omega) hjn
  have a := own_A_nn hC l
  have u := own_ushrk (j := j) (x := rs) (by omega) (by omega) h4
  rw [hj, hrs, show (((b - l : Nat) : Int)).toNat = b - l from rfl] at u
  have e := own_add (x := fi) (y := XT.ushr j rs) (by omega) (by omega)
  omega
theorem own_fw_in {rs cp mk j : Int32} {l b jn : Nat} {fn : Int} (l1 : 1 ≤ l) (lb : l ≤ b) (b12 : b ≤ 12) (hrs : rs.toInt = ((b - l : Nat) : Int)) (h4 : rs.toInt < 4) (hcp : cp.toInt = 2 ^ (b - l)) (hmk : mk = cp - (1 : Int32)) (hj : j.toInt = (jn : Int)) (hfn : 2 ^ b ≤ fn) : 0 ≤ (cp + (j &&& mk)).toInt ∧ (cp + (j &&& mk)).toInt < fn := by
  have p := own_p2 (b - l)
  have m := own_maskk (j := j) (x := rs) (cp := cp) (by omega) (by omega) h4 (by rw [hcp, hrs]; rfl) hmk
  rw [hrs, show (((b - l : Nat) : Int)).toNat = b - l from rfl] at m
  have m0 := Int.emod_nonneg j.toInt (show (2 : Int) ^ (b - l) ≠ 0 by omega)
  have m1 := Int.emod_lt_of_pos j.toInt (show (0 : Int) < 2 ^ (b - l) by omega)
  have s := own_p2s (b - l)
  have le := own_p2le (show b - l + 1 ≤ b by omega)
  have le2 := own_p2le (show b ≤ 12 by omega)
  rw [show (2 : Int) ^ 12 = 4096 from by decide] at le2
  have e := own_add (x := cp) (y := j &&& mk) (by omega) (by omega)
  omega
theorem own_sh_good {C : Int → Int} (hC : ∀ t, 0 ≤ C t) {o : Int → Int32} {b jn : Nat} {B i0 e : Int} {sl : Int32} {l : Nat} (l1 : 1 ≤ l) (r0 : 0 ≤ (jn : Int) / 2 ^ (b - l)) (r1 : (jn : Int) / 2 ^ (b - l) < C (l : Int)) (he : e = i0 + own_Sum C b l + jn) {x : Int32} (hx : own_isval o C l ((jn : Int) / 2 ^ (b - l)) sl B x) : own_good C o b sl.toInt B (e - i0) x := by
  have p := own_p2 (b - l)
  have m0 := Int.emod_nonneg (jn : Int) (show (2 : Int) ^ (b - l) ≠ 0 by omega)
  have m1 := Int.emod_lt_of_pos (jn : Int) (show (0 : Int) < 2 ^ (b - l) by omega)
  have ed := Int.mul_ediv_add_emod (jn : Int) (2 ^ (b - l))
  rw [Int.mul_comm] at ed
  exact own_goodb hC l1 r0 r1 (e := i0 + own_Sum C b l + (jn : Int) / 2 ^ (b - l) * 2 ^ (b - l)) rfl (by omega) (by omega) hx
theorem own_sumend {C : Int → Int} {b mx sh ll : Nat} (hz : ∀ t : Int, 1 ≤ t → t < (sh : Int) → C t = 0) (h1 : ll = sh ∨ ll ≤ Nat.min b mx + 1) (h2 : Nat.min b mx + 1 ≤ ll) : own_Sum C b ll = own_Sum C b (Nat.min b mx + 1) := by
  rcases h1 with q | q
  · rw [own_Sum_zero hz ll (by omega), own_Sum_zero hz (Nat.min b mx + 1) (by omega)]
  · rw [show ll = Nat.min b mx + 1 from by omega]
theorem own_A256 {C : Int → Int} (hC : ∀ t, 0 ≤ C t ∧ C t ≤ 256) (hA : own_A C 16 ≤ 256) {l : Nat} (l1 : 1 ≤ l) (l15 : l ≤ 15) : own_A C l + C (l : Int) ≤ 256 := by
  have := own_A_mono C (fun t => (hC t).1) (l + 1) (16 - (l + 1))
  rw [show l + 1 + (16 - (l + 1)) = 16 from by omega, own_A_succ C l1] at this
  omega
theorem own_inv_rng {f g : Int → Int32} {C : Int → Int} (hC : ∀ t, 0 ≤ C t) {o : Int → Int32} {b : Nat} {B i0 e e' : Int} {sl x : Int32} {l : Nat} {r : Int} (H : own_inv f g C o b sl.toInt B i0 e) (l1 : 1 ≤ l) (r0 : 0 ≤ r) (r1 : r < C (l : Int)) (he : e = i0 + own_Sum C b l + r * 2 ^ (b - l)) (he' : e' = e + 2 ^ (b - l)) (hx : own_isval o C l r sl B x) : own_inv f (own_rng g e e' x) C o b sl.toInt B i0 e' := by
  have p := own_p2 (b - l)
  exact own_inv_ext H (by omega) (fun q hq => own_rng_out hq) (fun q h1 h2 => by rw [own_rng_in h1 h2]; exact own_goodb hC l1 r0 r1 he h1 (by omega) hx)
def own_inv3 (f g fw : Int → Int32) (C : Int → Int) (o : Int → Int32) (b : Nat) (slot B i0 e cp e1 e2 : Int) : Prop := i0 ≤ e ∧ e ≤ e1 ∧ (∀ q : Int, i0 ≤ q → q < e1 → own_good C o b slot B (q - i0) (g q)) ∧ (∀ q : Int, e1 ≤ q → q < e2 → g q = fw (cp + (q - e))) ∧ ∀ q : Int, q < i0 ∨ e2 ≤ q → g q = f q
theorem own_inv3_start {f g g' fw : Int → Int32} {C : Int → Int} {o : Int → Int32} {b : Nat} {slot B i0 : Int} {ix cp : Int32} (H : own_inv f g C o b slot B i0 ix.toInt) (h0 : 0 ≤ cp.toInt) (h : g' = fun (zi : Int) => if ix.toInt ≤ zi ∧ zi < ix.toInt + cp.toInt then fw (cp.toInt + (zi - ix.toInt)) else g zi) : own_inv3 f g' fw C o b slot B i0 ix.toInt cp.toInt ix.toInt (ix.toInt + cp.toInt) := by
  obtain ⟨a, c, d⟩ := H
  refine ⟨a, Int.le_refl _, fun q h1 h2 => ?_, fun q h1 h2 => ?_, fun q hq => ?_⟩
  · rw [h]; show own_good C o b slot B (q - i0) (if _ then _ else _); rw [if_neg (by omega)]; exact c q h1 h2
  · rw [h]; exact if_pos ⟨h1, h2⟩
  · rw [h]; show (if _ then _ else _) = _; rw [if_neg (by omega)]; exact d q (by omega)
theorem own_inv3_upd {f g fw : Int → Int32} {C : Int → Int} {o : Int → Int32} {b : Nat} {slot B i0 e cp e1 e2 : Int} {x : Int32} (H : own_inv3 f g fw C o b slot B i0 e cp e1 e2) (h12 : e1 < e2) (hx : own_good C o b slot B (e1 - i0) x) : own_inv3 f (ownUpd g e1 x) fw C o b slot B i0 e cp (e1 + 1) e2 := by
  obtain ⟨a1, a2, c, d, u⟩ := H
  refine ⟨a1, by omega, fun q h1 h2 => ?_, fun q h1 h2 => ?_, fun q hq => ?_⟩
  · by_cases z : q = e1
    · rw [z, ownUpd_same]; exact hx
    · rw [ownUpd_ne _ _ _ z]; exact c q h1 (by omega)
  · rw [ownUpd_ne _ _ _ (by omega)]; exact d q (by omega) h2
  · rw [ownUpd_ne _ _ _ (by omega)]; exact u q hq
theorem own_inv3_end {f g fw : Int → Int32} {C : Int → Int} {o : Int → Int32} {b : Nat} {slot B i0 e cp e2 : Int} (H : own_inv3 f g fw C o b slot B i0 e cp e2 e2) : own_inv f g C o b slot B i0 e2 := ⟨by have := H.1; have := H.2.1; omega, H.2.2.1, H.2.2.2.2⟩
theorem own_folw {rs shI fo : Int32} {sh n : Nat} (h1 : shI.toInt = (sh : Int)) (h2 : rs.toInt = (n : Int)) (q : fo = (if rs < shI then (0 : Int32) else (1 : Int32))) (h : ¬ fo = (0 : Int32)) : sh ≤ n := by
  by_cases c : rs < shI
  · rw [if_pos c] at q; exact absurd q h
  · rw [Int32.lt_iff_toInt_lt] at c; omega

theorem own_minb {p2 mxI : Int32} {b mx : Nat} (h1 : p2.toInt = (b : Int)) (h2 : mxI.toInt = (mx : Int)) : (own_min p2 mxI).toInt = ((Nat.min b mx : Nat) : Int) := by
  have a := own_min_eq p2 mxI
  have c : Nat.min b mx = if b ≤ mx then b else mx := Nat.min_def ..
  rw [c]
  split at a <;> split <;> omega
def dl16 : List (Nat × Instr × Nat) := [(0, .bipush 8, 2), (2, .iload 4, 2), (4, .iconst 1, 1), (5, .iadd, 1), (6, .imul, 1), (7, .istore 6, 2), (9, .aload_n 0, 1), (10, .getfield 80, 3), (13, .istore 7, 2), (15, .iload 7, 2), (17, .iload_n 3, 1), (18, .aload_n 0, 1), (19, .getfield 54, 3), (22, .invokestatic 106, 3), (25, .if_icmp .gt 305, 3), (28, .aload_n 0, 1), (29, .getfield 21, 3), (32, .iload 7, 2), (34, .iaload, 1), (35, .istore 8, 2), (37, .aload_n 0, 1), (38, .getfield 21, 3), (41, .iload 7, 2), (43, .iconst 1, 1), (44, .iadd, 1), (45, .iaload, 1), (46, .istore 9, 2), (48, .iload_n 3, 1), (49, .iload 7, 2), (51, .isub, 1), (52, .istore 10, 2), (54, .iconst 1, 1), (55, .iload 10, 2), (57, .ishl, 1), (58, .istore 11, 2), (60, .aload 5, 2), (62, .ifnull 16, 3), (65, .iload 10, 2), (67, .aload_n 0, 1), (68, .getfield 80, 3), (71, .if_icmp .lt 7, 3), (74, .iconst 1, 1), (75, .goto 4, 3), (78, .iconst 0, 1), (79, .istore 12, 2), (81, .iload 10, 2), (83, .iconst 4, 1), (84, .if_icmp .ge 101, 3), (87, .iload 9, 2), (89, .iload 8, 2), (91, .isub, 1), (92, .iload 10, 2), (94, .ishl, 1), (95, .istore 13, 2), (97, .iload 7, 2), (99, .bipush 64, 2), (101, .ior, 1), (102, .istore 14, 2), (104, .iload 11, 2), (106, .iconst 1, 1), (107, .isub, 1), (108, .istore 15, 2), (110, .iconst 0, 1), (111, .istore 16, 2), (113, .iload 16, 2), (115, .iload 13, 2), (117, .if_icmp .ge 60, 3), (120, .iload 14, 2), (122, .aload_n 0, 1), (123, .getfield 15, 3), (126, .iload 8, 2), (128, .iload 16, 2), (130, .iload 10, 2), (132, .iushr, 1), (133, .iadd, 1), (134, .iaload, 1), (135, .iload 6, 2), (137, .ishl, 1), (138, .ior, 1), (139, .istore 17, 2), (141, .aload_n 1, 1), (142, .iload_n 2, 1), (143, .iload 16, 2), (145, .iadd, 1), (146, .iload 12, 2), (148, .ifCond .eq 20, 3), (151, .iload 17, 2), (153, .aload 5, 2), (155, .iload 11, 2), (157, .iload 16, 2), (159, .iload 15, 2), (161, .iand, 1), (162, .iadd, 1), (163, .iaload, 1), (164, .iadd, 1), (165, .goto 5, 3), (168, .iload 17, 2), (170, .iastore, 1), (171, .iinc 16 1, 3), (174, .goto (-61), 3), (177, .iload_n 2, 1), (178, .iload 13, 2), (180, .iadd, 1), (181, .istore_n 2, 1), (182, .goto 142, 3), (185, .iload 8, 2), (187, .istore 13, 2), (189, .iload 13, 2), (191, .iload 9, 2), (193, .if_icmp .ge 131, 3), (196, .aload_n 0, 1), (197, .iload 13, 2), (199, .iload 7, 2), (201, .iload 4, 2), (203, .invokevirtual 97, 3), (206, .istore 14, 2), (208, .iload 12, 2), (210, .ifCond .ne 22, 3), (213, .aload_n 1, 1), (214, .iload_n 2, 1), (215, .iload_n 2, 1), (216, .iload 11, 2), (218, .iadd, 1), (219, .iload 14, 2), (221, .invokestatic 91, 3), (224, .iload_n 2, 1), (225, .iload 11, 2), (227, .iadd, 1), (228, .istore_n 2, 1), (229, .goto 89, 3), (232, .iload 11, 2), (234, .sipush 128, 3), (237, .if_icmp .ge 44, 3), (240, .iconst 0, 1), (241, .istore 15, 2), (243, .iload 15, 2), (245, .iload 11, 2), (247, .if_icmp .ge 26, 3), (250, .aload_n 1, 1), (251, .iload_n 2, 1), (252, .iload 15, 2), (254, .iadd, 1), (255, .aload 5, 2), (257, .iload 11, 2), (259, .iload 15, 2), (261, .iadd, 1), (262, .iaload, 1), (263, .iload 14, 2), (265, .iadd, 1), (266, .iastore, 1), (267, .iinc 15 1, 3), (270, .goto (-27), 3), (273, .iload_n 2, 1), (274, .iload 11, 2), (276, .iadd, 1), (277, .istore_n 2, 1), (278, .goto 40, 3), (281, .aload 5, 2), (283, .iload 11, 2), (285, .aload_n 1, 1), (286, .iload_n 2, 1), (287, .iload 11, 2), (289, .invokestatic 109, 3), (292, .iload_n 2, 1), (293, .iload 11, 2), (295, .iadd, 1), (296, .istore 15, 2), (298, .iload_n 2, 1), (299, .iload 15, 2), (301, .if_icmp .ge 17, 3), (304, .aload_n 1, 1), (305, .iload_n 2, 1), (306, .dup2, 1), (307, .iaload, 1), (308, .iload 14, 2), (310, .iadd, 1), (311, .iastore, 1), (312, .iinc 2 1, 3), (315, .goto (-17), 3), (318, .iinc 13 1, 3), (321, .goto (-132), 3), (324, .iinc 7 1, 3), (327, .goto (-312), 3), (330, .iload_n 2, 1), (331, .ireturn, 1)]
theorem da16 : ∀ x ∈ dl16, decode prog_6_method_6_code x.1 = .ok x.2 := by decide +kernel
theorem D16 {c : Code} (h : c.code = prog_6_method_6_code) (i : Nat) {pc : Nat} {ins : Instr} {n : Nat} (e : dl16[i]? = some (pc, ins, n)) : decode c.code pc = .ok (ins, n) := by rw [h]; exact da16 (pc, ins, n) (List.mem_of_getElem? e)
theorem pn_16 : plainFor Mn12 = true := plainFor_of_name (by first | (simp [plainName, overriddenIn]; done) | decide +kernel)
theorem pd_16 : parseMethodDescriptor "([IIII[I)I" = some ⟨[(.array .int), .int, .int, .int, (.array .int)], some .int⟩ := by decide +kernel
theorem ef_16N (m : MethodId) (x0 : Addr) (x1 : Addr) (x2 : Int32) (x3 : Int32) (x4 : Int32) : entryFrame m #[(.ref x0), (.ref x1), (.int x2), (.int x3), (.int x4), .null] 18 = mkF m 0 #[.val (.ref x0), .val (.ref x1), .val (.int x2), .val (.int x3), .val (.int x4), .val .null, .unset, .unset, .unset, .unset, .unset, .unset, .unset, .unset, .unset, .unset, .unset, .unset] [] := by first | (simp [entryFrame, mkF, argsToLocals, Value.category, maxLocals]; done) | rfl
def Q16N (Z : State) (a1 : Addr) (a2 : Addr) (p1 : Int32) (p2 : Int32) (p3 : Int32) (od : Addr) (pl : Addr) (o : Int → Int32) (gp : Int → Int32) (shI : Int32) (mxI : Int32) (C : Int → Int) (b : Nat) (mx : Nat) (sh : Nat) (tn : Int32) (f : Int → Int32) (B : Int) (h0 : Heap) (n0 : Nat) (v : Option Value) (h : Heap) (L : List Loc) : Prop := ∃ (e9 : Int32) (g9 : Int → Int32), v = some (.int e9) ∧ Fr n0 L ∧ Keep h0 h [a2] ∧ OwnA Z h a2 .int tn (fun i => .int (g9 i)) ∧ e9.toInt = p1.toInt + own_Sum C b (Nat.min b mx + 1) ∧ own_inv f g9 C o b p3.toInt B p1.toInt e9.toInt
set_option maxRecDepth 65536 in
set_option maxHeartbeats 40000000 in
theorem rm16N (l : Launch) (Z : State) (a0 : Array Value) (hw : ∀ d ∈ tables_1, d.before a0 Z = true) (ws : List Jvm.Cond) (a1 : Addr) (a2 : Addr) (p1 : Int32) (p2 : Int32) (p3 : Int32) (od : Addr) (pl : Addr) (o : Int → Int32) (gp : Int → Int32) (shI : Int32) (mxI : Int32) (C : Int → Int) (b : Nat) (mx : Nat) (sh : Nat) (tn : Int32) (f : Int → Int32) (B : Int) (h0 : Heap) (n0 : Nat) (Z0 : n0 ≤ h0.size) (g2 : n0 ≤ a2) (n1 : a1 ≠ a2) (n2 : od ≠ a2) (n3 : pl ≠ a2) (E0 : Exa Z h0 a1 DTn) (F0 : Fld Z h0 a1 DTn "order" "[I" (.ref od)) (F1 : Fld Z h0 a1 DTn "places" "[I" (.ref pl)) (F2 : Fld Z h0 a1 DTn "shortest" "I" (.int shI)) (F3 : Fld Z h0 a1 DTn "longest" "I" (.int mxI)) (A0 : OwnA Z h0 od .int (256 : Int32) (fun i => .int (o i))) (A1 : OwnA Z h0 pl .int (17 : Int32) (fun i => .int (gp i))) (A2 : OwnA Z h0 a2 .int tn (fun i => .int (f i))) (hC0 : ∀ t, 0 ≤ C t ∧ C t ≤ 256) (hA16 : own_A C 16 ≤ 256) (hpl : own_plA C 17 gp) (hbo : own_byte o) (hshI : shI.toInt = (sh : Int)) (hsh1 : 1 ≤ sh) (hz : ∀ t : Int, 1 ≤ t → t < (sh : Int) → C t = 0) (hmI : mxI.toInt = (mx : Int)) (hm15 : mx ≤ 15) (hbt : p2.toInt = (b : Int)) (hb1 : 1 ≤ b) (hb12 : b ≤ 12) (hp0 : 0 ≤ p1.toInt) (htn : p1.toInt + 2 ^ b ≤ tn.toInt) (htn2 : tn.toInt ≤ 100000) (hS : own_Sum C b (Nat.min b mx + 1) ≤ 2 ^ b) (hsl : p3 = 0 ∨ p3 = 1 ∨ p3 = 2) (hB0 : 0 ≤ B) :
  MetFree l Mn12 (head1 (Jvm.Cond.code Mn12 prog_6_method_6_code 18 (some .int) :: ws) Rm6) (fun a U => a = #[(.ref a1), (.ref a2), (.int p1), (.int p2), (.int p3), .null] ∧ Z.Warmed39 U.vm ∧ U.heap = h0) (fun _ _ _ _ _ => True) (fun _ U oc U' => ∃ v L, oc = .returned v ∧ Q16N Z a1 a2 p1 p2 p3 od pl o gp shI mxI C b mx sh tn f B h0 n0 v U'.heap L ∧ FrameEnd U oc U' L Rm6.cells Rm6.slots) := by
 refine MetFree.of_bodySF pn_16 hisR ?_
 intro p e s m args below meth c s₁ Bd hml0 hP hK
 obtain ⟨rfl, hZ, hh⟩ := hP
 have hx := Bd.exec
 have hby := Bd.bytes
 have hlk := BodyLoose.notSynchronized Bd
 have hml : c.maxLocals = 18 := hml0
 have hown : s.vm.findClass DTn = some m.cls := findClass_of_methodNamed Bd.named
 have hnm := (name_of_methodNamed Bd.named Bd.method).1
 have X0 : Stand p l e Rm6 s m #[(.ref a1), (.ref a2), (.int p1), (.int p2), (.int p3), .null] below meth c s₁ [] 0 0 := Stand.of_body Bd
 have e0 : s₁.heap = h0 := by rw [← hh, Bd.state]; rfl
 have N0 := Fr.nil n0
 show OwnWp p e below s Rm6.cells Rm6.slots (Q16N Z a1 a2 p1 p2 p3 od pl o gp shI mxI C b mx sh tn f B h0 n0) (s₁.setTop (entryFrame m #[(.ref a1), (.ref a2), (.int p1), (.int p2), (.int p3), .null] 18))
 refine OwnWp.cast (ef_16N m a1 a2 p1 p2 p3) ?_
 show OwnWp p e below s _ _ _ (s₁.setTop (mkF m 0 #[sA a1, sA a2, sI p1, sI p2, sI p3, sN, sU, sU, sU, sU, sU, sU, sU, sU, sU, sU, sU, sU] []))
 have K0 := Keep.refl h0 [a2]
 have hCn : ∀ t, 0 ≤ C t := fun t => (hC0 t).1
 have hmn := own_minb hbt hmI
 have hmb : Nat.min b mx ≤ b := Nat.min_le_left _ _
 have hmm : Nat.min b mx ≤ mx := Nat.min_le_right _ _
 have hp12 := own_p2le hb12
 rw [show (2 : Int) ^ 12 = 4096 from by decide] at hp12
 have hsel620 := own_selpriv (y := Mn8) (z := Mn13) rfl hown (args := #[(.ref a1), (.ref a2), (.int p1), (.int p2), (.int p3), .null]) (mvT hZ (own_hw hw 26 rfl)) (Cond.privateMethod_at (mvP hZ (own_hw hw 98 rfl) (args := #[]))) (mvT hZ (own_hw hw 97 rfl)) (by decide)
 obtain ⟨w1, qw1⟩ : ∃ z : Int32, z = ((8 : Int32) * (p3 + (1 : Int32))) := ⟨_, rfl⟩
 refine own_s s₁ (mkF m 9 #[sA a1, sA a2, sI p1, sI p2, sI p3, sN, sI w1, sU, sU, sU, sU, sU, sU, sU, sU, sU, sU, sU] []) (fun t k => ?_) ?_
 ·refine XT.bipushV X0.here hx rfl (8 : Int32) (D16 hby 0 rfl) rfl ?_
  refine XS.iload X0.here hx rfl (D16 hby 1 rfl) rfl ?_
  refine XT.iconstV X0.here hx rfl (1 : Int32) (D16 hby 2 rfl) rfl ?_
  refine XS.iadd X0.here hx rfl (D16 hby 3 rfl) rfl ?_
  refine XS.imul X0.here hx rfl (D16 hby 4 rfl) rfl ?_
  refine XS.istore X0.here hx rfl (D16 hby 5 rfl) rfl (l' := #[sA a1, sA a2, sI p1, sI p2, sI p3, sN, sI ((8 : Int32) * (p3 + (1 : Int32))), sU, sU, sU, sU, sU, sU, sU, sU, sU, sU, sU]) rfl ?_
  rw [qw1] at k
  exact k
 refine own_s s₁ (mkF m 10 #[sA a1, sA a2, sI p1, sI p2, sI p3, sN, sI w1, sU, sU, sU, sU, sU, sU, sU, sU, sU, sU, sU] [(.ref a1)]) (fun t k => ?_) ?_
 ·exact XS.aloadN X0.here hx rfl (D16 hby 6 rfl) rfl rfl k
 obtain ⟨T621, X621, e621, st621⟩ := getF X0 hx hZ hown (host := "") (Or.inl (own_hw hw 66 rfl)) Via.refl e0 F2 (g := (mkF m 10 #[sA a1, sA a2, sI p1, sI p2, sI p3, sN, sI w1, sU, sU, sU, sU, sU, sU, sU, sU, sU, sU, sU] [(.ref a1)])) rfl rfl (D16 hby 7 rfl)
 refine OwnWp.step st621 ?_
 refine own_s T621 (mkF m 15 #[sA a1, sA a2, sI p1, sI p2, sI p3, sN, sI w1, sI shI, sU, sU, sU, sU, sU, sU, sU, sU, sU, sU] []) (fun t k => ?_) ?_
 ·exact XS.istore X621.here hx rfl (D16 hby 8 rfl) rfl (l' := #[sA a1, sA a2, sI p1, sI p2, sI p3, sN, sI w1, sI shI, sU, sU, sU, sU, sU, sU, sU, sU, sU, sU]) rfl k
 have hloop : ∀ (k : Nat) (T622 : State) (h622 : Heap) (L622 : List Loc) (ix : Int32) (ln : Int32) (ll : Nat) (g : Int → Int32) (s8 : Slot) (s9 : Slot) (s10 : Slot) (s11 : Slot) (s12 : Slot) (s13 : Slot) (s14 : Slot) (s15 : Slot) (s16 : Slot) (s17 : Slot) (X622 : Stand p l e Rm6 s m #[(.ref a1), (.ref a2), (.int p1), (.int p2), (.int p3), .null] below meth c T622 L622 0 0) (e622 : T622.heap = h622) (N622 : Fr n0 L622) (Z622 : n0 ≤ h622.size) (f623 : Exa Z h622 a1 DTn) (f624 : Fld Z h622 a1 DTn "order" "[I" (.ref od)) (f625 : Fld Z h622 a1 DTn "places" "[I" (.ref pl)) (f626 : Fld Z h622 a1 DTn "shortest" "I" (.int shI)) (f627 : Fld Z h622 a1 DTn "longest" "I" (.int mxI)) (f628 : OwnA Z h622 od .int (256 : Int32) (fun zi => .int (o zi))) (f629 : OwnA Z h622 pl .int (17 : Int32) (fun zi => .int (gp zi))) (f630 : OwnA Z h622 a2 .int tn (fun zi => .int (g zi))) (K631 : Keep h0 h622 [a2]) (hs8 : One s8) (hs9 : One s9) (hs10 : One s10) (hs11 : One s11) (hs12 : One s12) (hs13 : One s13) (hs14 : One s14) (hs15 : One s15) (hs16 : One s16) (hs17 : One s17) (hln : ln.toInt = (ll : Int)) (h1l : sh ≤ ll) (hk : k = Nat.min b mx + 1 - ll) (hls : ll = sh ∨ ll ≤ Nat.min b mx + 1) (hix : ix.toInt = p1.toInt + own_Sum C b ll) (hin : own_inv f g C o b p3.toInt B p1.toInt ix.toInt), OwnWp p e below s Rm6.cells Rm6.slots (Q16N Z a1 a2 p1 p2 p3 od pl o gp shI mxI C b mx sh tn f B h0 n0) (T622.setTop (mkF m 15 #[sA a1, sA a2, sI ix, sI p2, sI p3, sN, sI w1, sI ln, s8, s9, s10, s11, s12, s13, s14, s15, s16, s17] [])) := by
  intro k
  induction k with
  | zero =>
   intro T622 h622 L622 ix ln ll g s8 s9 s10 s11 s12 s13 s14 s15 s16 s17 X622 e622 N622 Z622 f623 f624 f625 f626 f627 f628 f629 f630 K631 hs8 hs9 hs10 hs11 hs12 hs13 hs14 hs15 hs16 hs17 hln h1l hk hls hix hin
   refine own_s T622 (mkF m 19 #[sA a1, sA a2, sI ix, sI p2, sI p3, sN, sI w1, sI ln, s8, s9, s10, s11, s12, s13, s14, s15, s16, s17] [(.ref a1), (.int p2), (.int ln)]) (fun t k => ?_) ?_
   ·refine XS.iload X622.here hx rfl (D16 hby 9 rfl) rfl ?_
    refine XS.iloadN X622.here hx rfl (D16 hby 10 rfl) rfl ?_
    exact XS.aloadN X622.here hx rfl (D16 hby 11 rfl) rfl rfl k
   obtain ⟨T632, X632, e632, st632⟩ := getF X622 hx hZ hown (host := "") (Or.inl (own_hw hw 51 rfl)) Via.refl e622 f627 (g := (mkF m 19 #[sA a1, sA a2, sI ix, sI p2, sI p3, sN, sI w1, sI ln, s8, s9, s10, s11, s12, s13, s14, s15, s16, s17] [(.ref a1), (.int p2), (.int ln)])) rfl rfl (D16 hby 12 rfl)
   refine OwnWp.step st632 ?_
   show OwnWp p e below s _ _ _ (T632.setTop (mkF m 22 #[sA a1, sA a2, sI ix, sI p2, sI p3, sN, sI w1, sI ln, s8, s9, s10, s11, s12, s13, s14, s15, s16, s17] [(.int mxI), (.int p2), (.int ln)]))
   obtain ⟨_, _, ⟨T633, L633, k633, n633⟩, -, X633, ⟨Lc633, hQ633, l633, y633, z633⟩, st633⟩ := Jvm.LawKit.callS X632 hx (y := Mn1) hown (mvT hZ (own_hw hw 95 rfl)) (mvT hZ (own_hw hw 44 rfl)) (mvT hZ (own_hw hw 45 rfl)) (mvT hZ (own_hw hw 46 rfl)) (by decide) (backOf (W := 1) (rm8 l Z a0 hw [] p2 mxI h622 n0 Z622 ) hZ (own_hw hw 46 rfl) (own_hw hw 45 rfl) (by decide) (by decide)) (g := (mkF m 22 #[sA a1, sA a2, sI ix, sI p2, sI p3, sN, sI w1, sI ln, s8, s9, s10, s11, s12, s13, s14, s15, s16, s17] [(.int mxI), (.int p2), (.int ln)])) rfl (by rw [hml]; rfl) (argsL := [(.int p2), (.int mxI)]) (rest := [(.int ln)]) (lenOf pd_8 rfl) rfl (by show 2 * 0 + _ ≤ _; exact Nat.le_of_eq rfl) (D16 hby 13 rfl) (fun _ _ => ⟨rfl, e632, (by dsimp only [Pt.cells]; decide), (by dsimp only [Pt.slots]; decide)⟩)
   dsimp only [Pt.U, Pt.locs, Pt.cells, Pt.slots] at X633 l633 y633 z633 st633 hQ633
   subst l633 y633 z633
   obtain ⟨rfl, Nc633, hp633⟩ := hQ633
   have N633 := Fr.app N622 Nc633
   refine OwnWp.step st633 ?_
   have eh633 : T633.heap = h622 := hp633
   by_cases c25_634 : (own_min p2 mxI) < ln
   ·refine own_s T633 (mkF m 330 #[sA a1, sA a2, sI ix, sI p2, sI p3, sN, sI w1, sI ln, s8, s9, s10, s11, s12, s13, s14, s15, s16, s17] []) (fun t k => ?_) ?_
    ·exact XS.icmpYes X633.here hx rfl (pc0 := 25) (pc' := 330) rfl (D16 hby 14 rfl) rfl (XT.ii_gt_t c25_634) (by decide) (by decide) k
    rw [Int32.lt_iff_toInt_lt, hmn] at c25_634
    have hse := own_sumend hz hls (by omega)
    refine own_s T633 (mkF m 331 #[sA a1, sA a2, sI ix, sI p2, sI p3, sN, sI w1, sI ln, s8, s9, s10, s11, s12, s13, s14, s15, s16, s17] [(.int ix)]) (fun t k => ?_) ?_
    ·exact XS.iloadN X633.here hx rfl (D16 hby 183 rfl) rfl k
    refine OwnWp.retI X633 hx hlk Bd.returns (D16 hby 184 rfl) (by decide) (by decide) ?_
    rw [eh633]
    exact ⟨ix, g, rfl, N633, K631, f630, by rw [hix, hse], hin⟩
   ·refine own_s T633 (mkF m 28 #[sA a1, sA a2, sI ix, sI p2, sI p3, sN, sI w1, sI ln, s8, s9, s10, s11, s12, s13, s14, s15, s16, s17] []) (fun t k => ?_) ?_
    ·exact XS.icmpNo X633.here hx rfl (D16 hby 14 rfl) rfl (XT.ii_gt_f c25_634) k
    rw [Int32.lt_iff_toInt_lt, hmn] at c25_634
    exact absurd c25_634 (by omega)
  | succ k ih =>
   intro T622 h622 L622 ix ln ll g s8 s9 s10 s11 s12 s13 s14 s15 s16 s17 X622 e622 N622 Z622 f623 f624 f625 f626 f627 f628 f629 f630 K631 hs8 hs9 hs10 hs11 hs12 hs13 hs14 hs15 hs16 hs17 hln h1l hk hls hix hin
   refine own_s T622 (mkF m 19 #[sA a1, sA a2, sI ix, sI p2, sI p3, sN, sI w1, sI ln, s8, s9, s10, s11, s12, s13, s14, s15, s16, s17] [(.ref a1), (.int p2), (.int ln)]) (fun t k => ?_) ?_
   ·refine XS.iload X622.here hx rfl (D16 hby 9 rfl) rfl ?_
    refine XS.iloadN X622.here hx rfl (D16 hby 10 rfl) rfl ?_
    exact XS.aloadN X622.here hx rfl (D16 hby 11 rfl) rfl rfl k
   obtain ⟨T635, X635, e635, st635⟩ := getF X622 hx hZ hown (host := "") (Or.inl (own_hw hw 51 rfl)) Via.refl e622 f627 (g := (mkF m 19 #[sA a1, sA a2, sI ix, sI p2, sI p3, sN, sI w1, sI ln, s8, s9, s10, s11, s12, s13, s14, s15, s16, s17] [(.ref a1), (.int p2), (.int ln)])) rfl rfl (D16 hby 12 rfl)
   refine OwnWp.step st635 ?_
   show OwnWp p e below s _ _ _ (T635.setTop (mkF m 22 #[sA a1, sA a2, sI ix, sI p2, sI p3, sN, sI w1, sI ln, s8, s9, s10, s11, s12, s13, s14, s15, s16, s17] [(.int mxI), (.int p2), (.int ln)]))
   obtain ⟨_, _, ⟨T636, L636, k636, n636⟩, -, X636, ⟨Lc636, hQ636, l636, y636, z636⟩, st636⟩ := Jvm.LawKit.callS X635 hx (y := Mn1) hown (mvT hZ (own_hw hw 95 rfl)) (mvT hZ (own_hw hw 44 rfl)) (mvT hZ (own_hw hw 45 rfl)) (mvT hZ (own_hw hw 46 rfl)) (by decide) (backOf (W := 1) (rm8 l Z a0 hw [] p2 mxI h622 n0 Z622 ) hZ (own_hw hw 46 rfl) (own_hw hw 45 rfl) (by decide) (by decide)) (g := (mkF m 22 #[sA a1, sA a2, sI ix, sI p2, sI p3, sN, sI w1, sI ln, s8, s9, s10, s11, s12, s13, s14, s15, s16, s17] [(.int mxI), (.int p2), (.int ln)])) rfl (by rw [hml]; rfl) (argsL := [(.int p2), (.int mxI)]) (rest := [(.int ln)]) (lenOf pd_8 rfl) rfl (by show 2 * 0 + _ ≤ _; exact Nat.le_of_eq rfl) (D16 hby 13 rfl) (fun _ _ => ⟨rfl, e635, (by dsimp only [Pt.cells]; decide), (by dsimp only [Pt.slots]; decide)⟩)
   dsimp only [Pt.U, Pt.locs, Pt.cells, Pt.slots] at X636 l636 y636 z636 st636 hQ636
   subst l636 y636 z636
   obtain ⟨rfl, Nc636, hp636⟩ := hQ636
   have N636 := Fr.app N622 Nc636
   refine OwnWp.step st636 ?_
   have eh636 : T636.heap = h622 := hp636
   by_cases c25_637 : (own_min p2 mxI) < ln
   ·refine own_s T636 (mkF m 330 #[sA a1, sA a2, sI ix, sI p2, sI p3, sN, sI w1, sI ln, s8, s9, s10, s11, s12, s13, s14, s15, s16, s17] []) (fun t k => ?_) ?_
    ·exact XS.icmpYes X636.here hx rfl (pc0 := 25) (pc' := 330) rfl (D16 hby 14 rfl) rfl (XT.ii_gt_t c25_637) (by decide) (by decide) k
    rw [Int32.lt_iff_toInt_lt, hmn] at c25_637
    exact absurd c25_637 (by omega)
   ·refine own_s T636 (mkF m 28 #[sA a1, sA a2, sI ix, sI p2, sI p3, sN, sI w1, sI ln, s8, s9, s10, s11, s12, s13, s14, s15, s16, s17] []) (fun t k => ?_) ?_
    ·exact XS.icmpNo X636.here hx rfl (D16 hby 14 rfl) rfl (XT.ii_gt_f c25_637) k
    rw [Int32.lt_iff_toInt_lt, hmn] at c25_637
    refine own_s T636 (mkF m 29 #[sA a1, sA a2, sI ix, sI p2, sI p3, sN, sI w1, sI ln, s8, s9, s10, s11, s12, s13, s14, s15, s16, s17] [(.ref a1)]) (fun t k => ?_) ?_
    ·exact XS.aloadN X636.here hx rfl (D16 hby 15 rfl) rfl rfl k
    obtain ⟨T638, X638, e638, st638⟩ := getF X636 hx hZ hown (host := "") (Or.inl (own_hw hw 17 rfl)) Via.refl eh636 f625 (g := (mkF m 29 #[sA a1, sA a2, sI ix, sI p2, sI p3, sN, sI w1, sI ln, s8, s9, s10, s11, s12, s13, s14, s15, s16, s17] [(.ref a1)])) rfl rfl (D16 hby 16 rfl)
    refine OwnWp.step st638 ?_
    show OwnWp p e below s _ _ _ (T638.setTop (mkF m 32 #[sA a1, sA a2, sI ix, sI p2, sI p3, sN, sI w1, sI ln, s8, s9, s10, s11, s12, s13, s14, s15, s16, s17] [(.ref pl)]))
    obtain ⟨w2, qw2⟩ : ∃ z : Int32, z = (gp ln.toInt) := ⟨_, rfl⟩
    refine own_s T638 (mkF m 37 #[sA a1, sA a2, sI ix, sI p2, sI p3, sN, sI w1, sI ln, sI w2, s9, s10, s11, s12, s13, s14, s15, s16, s17] []) (fun t k => ?_) ?_
    ·refine XS.iload X638.here hx rfl (D16 hby 17 rfl) rfl ?_
     refine OwnA.ldI X638 hx hZ e638 f629 (by omega) (by rw [show (17 : Int32).toInt = 17 from rfl]; omega) rfl rfl (D16 hby 18 rfl) ?_
     refine XS.istoreS X638.here hx rfl (D16 hby 19 rfl) rfl (o := s8) rfl hs8 ?_
     rw [qw2] at k
     exact k
    refine own_s T638 (mkF m 38 #[sA a1, sA a2, sI ix, sI p2, sI p3, sN, sI w1, sI ln, sI w2, s9, s10, s11, s12, s13, s14, s15, s16, s17] [(.ref a1)]) (fun t k => ?_) ?_
    ·exact XS.aloadN X638.here hx rfl (D16 hby 20 rfl) rfl rfl k
    obtain ⟨T639, X639, e639, st639⟩ := getF X638 hx hZ hown (host := "") (Or.inl (own_hw hw 17 rfl)) Via.refl e638 f625 (g := (mkF m 38 #[sA a1, sA a2, sI ix, sI p2, sI p3, sN, sI w1, sI ln, sI w2, s9, s10, s11, s12, s13, s14, s15, s16, s17] [(.ref a1)])) rfl rfl (D16 hby 21 rfl)
    refine OwnWp.step st639 ?_
    show OwnWp p e below s _ _ _ (T639.setTop (mkF m 41 #[sA a1, sA a2, sI ix, sI p2, sI p3, sN, sI w1, sI ln, sI w2, s9, s10, s11, s12, s13, s14, s15, s16, s17] [(.ref pl)]))
    obtain ⟨w3, qw3⟩ : ∃ z : Int32, z = (gp (ln + (1 : Int32)).toInt) := ⟨_, rfl⟩
    refine own_s T639 (mkF m 48 #[sA a1, sA a2, sI ix, sI p2, sI p3, sN, sI w1, sI ln, sI w2, sI w3, s10, s11, s12, s13, s14, s15, s16, s17] []) (fun t k => ?_) ?_
    ·refine XS.iload X639.here hx rfl (D16 hby 22 rfl) rfl ?_
     refine XT.iconstV X639.here hx rfl (1 : Int32) (D16 hby 23 rfl) rfl ?_
     refine XS.iadd X639.here hx rfl (D16 hby 24 rfl) rfl ?_
     refine OwnA.ldI X639 hx hZ e639 f629 (by rw [own_inc hln (by omega)]; omega) (by rw [own_inc hln (by omega), show (17 : Int32).toInt = 17 from rfl]; omega) rfl rfl (D16 hby 25 rfl) ?_
     refine XS.istoreS X639.here hx rfl (D16 hby 26 rfl) rfl (o := s9) rfl hs9 ?_
     rw [qw3] at k
     exact k
    obtain ⟨w4, qw4⟩ : ∃ z : Int32, z = (p2 - ln) := ⟨_, rfl⟩
    refine own_s T639 (mkF m 54 #[sA a1, sA a2, sI ix, sI p2, sI p3, sN, sI w1, sI ln, sI w2, sI w3, sI w4, s11, s12, s13, s14, s15, s16, s17] []) (fun t k => ?_) ?_
    ·refine XS.iloadN X639.here hx rfl (D16 hby 27 rfl) rfl ?_
     refine XS.iload X639.here hx rfl (D16 hby 28 rfl) rfl ?_
     refine XS.isub X639.here hx rfl (D16 hby 29 rfl) rfl ?_
     refine XS.istoreS X639.here hx rfl (D16 hby 30 rfl) rfl (o := s10) rfl hs10 ?_
     rw [qw4] at k
     exact k
    obtain ⟨w5, qw5⟩ : ∃ z : Int32, z = ((1 : Int32) <<< (w4 &&& 31)) := ⟨_, rfl⟩
    refine own_s T639 (mkF m 60 #[sA a1, sA a2, sI ix, sI p2, sI p3, sN, sI w1, sI ln, sI w2, sI w3, sI w4, sI w5, s12, s13, s14, s15, s16, s17] []) (fun t k => ?_) ?_
    ·refine XT.iconstV X639.here hx rfl (1 : Int32) (D16 hby 31 rfl) rfl ?_
     refine XS.iload X639.here hx rfl (D16 hby 32 rfl) rfl ?_
     refine XT.ishl X639.here hx rfl (D16 hby 33 rfl) rfl ?_
     refine XS.istoreS X639.here hx rfl (D16 hby 34 rfl) rfl (o := s11) rfl hs11 ?_
     rw [qw5] at k
     exact k
    refine own_s T639 (mkF m 84 #[sA a1, sA a2, sI ix, sI p2, sI p3, sN, sI w1, sI ln, sI w2, sI w3, sI w4, sI w5, sI (0 : Int32), s13, s14, s15, s16, s17] [(.int (4 : Int32)), (.int w4)]) (fun t k => ?_) ?_
    ·refine XS.aload X639.here hx rfl (D16 hby 35 rfl) rfl rfl ?_
     refine XS.ifnullYes X639.here hx rfl (pc0 := 62) (pc' := 78) rfl (D16 hby 36 rfl) rfl (by decide) (by decide) ?_
     refine XT.iconstV X639.here hx rfl (0 : Int32) (D16 hby 43 rfl) rfl ?_
     refine XS.istoreS X639.here hx rfl (D16 hby 44 rfl) rfl (o := s12) rfl hs12 ?_
     refine XS.iload X639.here hx rfl (D16 hby 45 rfl) rfl ?_
     exact XT.iconstV X639.here hx rfl (4 : Int32) (D16 hby 46 rfl) rfl k
    obtain ⟨hfi, hen, hrs, hcp⟩ := own_head hpl hln (by omega) (by omega) hbt (by omega) hb12 qw2 qw3 qw4 qw5
    have hAl := own_A256 hC0 hA16 (l := ll) (by omega) (by omega)
    have hss := own_Sum_succ C b (l := ll) (by omega)
    have hsl1 := own_Sum_le hCn b (show ll + 1 ≤ Nat.min b mx + 1 by omega)
    have hsl0 := own_Sum_le hCn b (show 0 ≤ ll by omega)
    rw [show own_Sum C b 0 = 0 from rfl] at hsl0
    have hpl2 := own_p2 (b - ll)
    have hAn := own_A_nn hC0 ll
    by_cases c84_640 : w4 < (4 : Int32)
    ·refine own_s T639 (mkF m 87 #[sA a1, sA a2, sI ix, sI p2, sI p3, sN, sI w1, sI ln, sI w2, sI w3, sI w4, sI w5, sI (0 : Int32), s13, s14, s15, s16, s17] []) (fun t k => ?_) ?_
     ·exact XS.icmpNo X639.here hx rfl (D16 hby 47 rfl) rfl (XT.ii_ge_f c84_640) k
     rw [Int32.lt_iff_toInt_lt, show (4 : Int32).toInt = 4 from rfl] at c84_640
     obtain ⟨w6, qw6⟩ : ∃ z : Int32, z = ((w3 - w2) <<< (w4 &&& 31)) := ⟨_, rfl⟩
     refine own_s T639 (mkF m 97 #[sA a1, sA a2, sI ix, sI p2, sI p3, sN, sI w1, sI ln, sI w2, sI w3, sI w4, sI w5, sI (0 : Int32), sI w6, s14, s15, s16, s17] []) (fun t k => ?_) ?_
     ·refine XS.iload X639.here hx rfl (D16 hby 48 rfl) rfl ?_
      refine XS.iload X639.here hx rfl (D16 hby 49 rfl) rfl ?_
      refine XS.isub X639.here hx rfl (D16 hby 50 rfl) rfl ?_
      refine XS.iload X639.here hx rfl (D16 hby 51 rfl) rfl ?_
      refine XT.ishl X639.here hx rfl (D16 hby 52 rfl) rfl ?_
      refine XS.istoreS X639.here hx rfl (D16 hby 53 rfl) rfl (o := s13) rfl hs13 ?_
      rw [qw6] at k
      exact k
     obtain ⟨w7, qw7⟩ : ∃ z : Int32, z = (ln ||| (64 : Int32)) := ⟨_, rfl⟩
     refine own_s T639 (mkF m 104 #[sA a1, sA a2, sI ix, sI p2, sI p3, sN, sI w1, sI ln, sI w2, sI w3, sI w4, sI w5, sI (0 : Int32), sI w6, sI w7, s15, s16, s17] []) (fun t k => ?_) ?_
     ·refine XS.iload X639.here hx rfl (D16 hby 54 rfl) rfl ?_
      refine XT.bipushV X639.here hx rfl (64 : Int32) (D16 hby 55 rfl) rfl ?_
      refine XT.ior X639.here hx rfl (D16 hby 56 rfl) rfl ?_
      refine XS.istoreS X639.here hx rfl (D16 hby 57 rfl) rfl (o := s14) rfl hs14 ?_
      rw [qw7] at k
      exact k
     obtain ⟨w8, qw8⟩ : ∃ z : Int32, z = (w5 - (1 : Int32)) := ⟨_, rfl⟩
     refine own_s T639 (mkF m 110 #[sA a1, sA a2, sI ix, sI p2, sI p3, sN, sI w1, sI ln, sI w2, sI w3, sI w4, sI w5, sI (0 : Int32), sI w6, sI w7, sI w8, s16, s17] []) (fun t k => ?_) ?_
     ·refine XS.iload X639.here hx rfl (D16 hby 58 rfl) rfl ?_
      refine XT.iconstV X639.here hx rfl (1 : Int32) (D16 hby 59 rfl) rfl ?_
      refine XS.isub X639.here hx rfl (D16 hby 60 rfl) rfl ?_
      refine XS.istoreS X639.here hx rfl (D16 hby 61 rfl) rfl (o := s15) rfl hs15 ?_
      rw [qw8] at k
      exact k
     refine own_s T639 (mkF m 113 #[sA a1, sA a2, sI ix, sI p2, sI p3, sN, sI w1, sI ln, sI w2, sI w3, sI w4, sI w5, sI (0 : Int32), sI w6, sI w7, sI w8, sI (0 : Int32), s17] []) (fun t k => ?_) ?_
     ·refine XT.iconstV X639.here hx rfl (0 : Int32) (D16 hby 62 rfl) rfl ?_
      exact XS.istoreS X639.here hx rfl (D16 hby 63 rfl) rfl (o := s16) rfl hs16 k
     have hcn := own_cntv hC0 hfi hen hAl hrs c84_640 qw6
     have hl2 : ∀ (k : Nat) (T641 : State) (h641 : Heap) (L641 : List Loc) (j : Int32) (jn : Nat) (g2x : Int → Int32) (t17 : Slot) (X641 : Stand p l e Rm6 s m #[(.ref a1), (.ref a2), (.int p1), (.int p2), (.int p3), .null] below meth c T641 L641 0 0) (e641 : T641.heap = h641) (N641 : Fr n0 L641) (Z641 : n0 ≤ h641.size) (f642 : Exa Z h641 a1 DTn) (f643 : Fld Z h641 a1 DTn "order" "[I" (.ref od)) (f644 : Fld Z h641 a1 DTn "places" "[I" (.ref pl)) (f645 : Fld Z h641 a1 DTn "shortest" "I" (.int shI)) (f646 : Fld Z h641 a1 DTn "longest" "I" (.int mxI)) (f647 : OwnA Z h641 od .int (256 : Int32) (fun zi => .int (o zi))) (f648 : OwnA Z h641 pl .int (17 : Int32) (fun zi => .int (gp zi))) (f649 : OwnA Z h641 a2 .int tn (fun zi => .int (g2x zi))) (K650 : Keep h0 h641 [a2]) (ht17 : One t17) (hj : j.toInt = (jn : Int)) (hjk : (jn : Int) + (k : Int) = C (ll : Int) * 2 ^ (b - ll)) (hin2 : own_inv f g2x C o b p3.toInt B p1.toInt (ix.toInt + (jn : Int))), OwnWp p e below s Rm6.cells Rm6.slots (Q16N Z a1 a2 p1 p2 p3 od pl o gp shI mxI C b mx sh tn f B h0 n0) (T641.setTop (mkF m 113 #[sA a1, sA a2, sI ix, sI p2, sI p3, sN, sI w1, sI ln, sI w2, sI w3, sI w4, sI w5, sI (0 : Int32), sI w6, sI w7, sI w8, sI j, t17] [])) := by
      intro k
      induction k with
      | zero =>
       intro T641 h641 L641 j jn g2x t17 X641 e641 N641 Z641 f642 f643 f644 f645 f646 f647 f648 f649 K650 ht17 hj hjk hin2
       refine own_s T641 (mkF m 117 #[sA a1, sA a2, sI ix, sI p2, sI p3, sN, sI w1, sI ln, sI w2, sI w3, sI w4, sI w5, sI (0 : Int32), sI w6, sI w7, sI w8, sI j, t17] [(.int w6), (.int j)]) (fun t k => ?_) ?_
       ·refine XS.iload X641.here hx rfl (D16 hby 64 rfl) rfl ?_
        exact XS.iload X641.here hx rfl (D16 hby 65 rfl) rfl k
       by_cases c117_651 : j < w6
       ·refine own_s T641 (mkF m 120 #[sA a1, sA a2, sI ix, sI p2, sI p3, sN, sI w1, sI ln, sI w2, sI w3, sI w4, sI w5, sI (0 : Int32), sI w6, sI w7, sI w8, sI j, t17] []) (fun t k => ?_) ?_
        ·exact XS.icmpNo X641.here hx rfl (D16 hby 66 rfl) rfl (XT.ii_ge_f c117_651) k
        rw [Int32.lt_iff_toInt_lt, hcn] at c117_651
        exact absurd c117_651 (by omega)
       ·refine own_s T641 (mkF m 177 #[sA a1, sA a2, sI ix, sI p2, sI p3, sN, sI w1, sI ln, sI w2, sI w3, sI w4, sI w5, sI (0 : Int32), sI w6, sI w7, sI w8, sI j, t17] []) (fun t k => ?_) ?_
        ·exact XS.icmpYes X641.here hx rfl (pc0 := 117) (pc' := 177) rfl (D16 hby 66 rfl) rfl (XT.ii_ge_t c117_651) (by decide) (by decide) k
        rw [Int32.lt_iff_toInt_lt, hcn] at c117_651
        obtain ⟨w9, qw9⟩ : ∃ z : Int32, z = (ix + w6) := ⟨_, rfl⟩
        refine own_s T641 (mkF m 182 #[sA a1, sA a2, sI w9, sI p2, sI p3, sN, sI w1, sI ln, sI w2, sI w3, sI w4, sI w5, sI (0 : Int32), sI w6, sI w7, sI w8, sI j, t17] []) (fun t k => ?_) ?_
        ·refine XS.iloadN X641.here hx rfl (D16 hby 100 rfl) rfl ?_
         refine XS.iload X641.here hx rfl (D16 hby 101 rfl) rfl ?_
         refine XS.iadd X641.here hx rfl (D16 hby 102 rfl) rfl ?_
         refine XS.istoreN X641.here hx rfl (D16 hby 103 rfl) rfl (l' := #[sA a1, sA a2, sI (ix + w6), sI p2, sI p3, sN, sI w1, sI ln, sI w2, sI w3, sI w4, sI w5, sI (0 : Int32), sI w6, sI w7, sI w8, sI j, t17]) rfl ?_
         rw [qw9] at k
         exact k
        obtain ⟨w10, qw10⟩ : ∃ z : Int32, z = (ln + (1 : Int32)) := ⟨_, rfl⟩
        refine own_s T641 (mkF m 327 #[sA a1, sA a2, sI w9, sI p2, sI p3, sN, sI w1, sI w10, sI w2, sI w3, sI w4, sI w5, sI (0 : Int32), sI w6, sI w7, sI w8, sI j, t17] []) (fun t k => ?_) ?_
        ·refine XS.goto X641.here hx rfl (pc0 := 182) (pc' := 324) rfl (D16 hby 104 rfl) (by decide) (by decide) ?_
         refine XT.iincV X641.here hx rfl (1 : Int32) (D16 hby 181 rfl) rfl rfl (l' := #[sA a1, sA a2, sI w9, sI p2, sI p3, sN, sI w1, sI (ln + (1 : Int32)), sI w2, sI w3, sI w4, sI w5, sI (0 : Int32), sI w6, sI w7, sI w8, sI j, t17]) rfl ?_
         rw [qw10] at k
         exact k
        refine own_s T641 (mkF m 15 #[sA a1, sA a2, sI w9, sI p2, sI p3, sN, sI w1, sI w10, sI w2, sI w3, sI w4, sI w5, sI (0 : Int32), sI w6, sI w7, sI w8, sI j, t17] []) (fun t k => ?_) ?_
        ·exact XS.goto X641.here hx rfl (pc0 := 327) (pc' := 15) rfl (D16 hby 182 rfl) (by decide) (by decide) k
        have u1 : w10.toInt = ((ll + 1 : Nat) : Int) := by rw [qw10]; exact own_inc hln (by omega)
        exact ih  T641 h641 _ w9 w10 (ll + 1) g2x _ _ _ _ _ _ _ _ _ t17 X641 e641 N641 Z641 f642 f643 f644 f645 f646 f647 f648 f649 K650 (One.val rfl) (One.val rfl) (One.val rfl) (One.val rfl) (One.val rfl) (One.val rfl) (One.val rfl) (One.val rfl) (One.val rfl) ht17 u1 (by omega) (by omega) (Or.inr (by omega)) (by rw [qw9, own_add (by omega) (by omega), hcn]; omega) (by rw [show w9.toInt = ix.toInt + (jn : Int) from by rw [qw9, own_add (by omega) (by omega), hcn]; omega]; exact hin2)
      | succ k ih =>
       intro T641 h641 L641 j jn g2x t17 X641 e641 N641 Z641 f642 f643 f644 f645 f646 f647 f648 f649 K650 ht17 hj hjk hin2
       refine own_s T641 (mkF m 117 #[sA a1, sA a2, sI ix, sI p2, sI p3, sN, sI w1, sI ln, sI w2, sI w3, sI w4, sI w5, sI (0 : Int32), sI w6, sI w7, sI w8, sI j, t17] [(.int w6), (.int j)]) (fun t k => ?_) ?_
       ·refine XS.iload X641.here hx rfl (D16 hby 64 rfl) rfl ?_
        exact XS.iload X641.here hx rfl (D16 hby 65 rfl) rfl k
       by_cases c117_652 : j < w6
       ·refine own_s T641 (mkF m 120 #[sA a1, sA a2, sI ix, sI p2, sI p3, sN, sI w1, sI ln, sI w2, sI w3, sI w4, sI w5, sI (0 : Int32), sI w6, sI w7, sI w8, sI j, t17] []) (fun t k => ?_) ?_
        ·exact XS.icmpNo X641.here hx rfl (D16 hby 66 rfl) rfl (XT.ii_ge_f c117_652) k
        rw [Int32.lt_iff_toInt_lt, hcn] at c117_652
        obtain ⟨a1x, a2x, a3x, a4x, a5x⟩ := own_sh_in hC0 hfi hAl hrs c84_640 hj (show (jn : Int) < C (ll : Int) * 2 ^ (b - ll) by omega)
        have hixj : (ix + j).toInt = ix.toInt + (jn : Int) := by rw [own_add (by omega) (by omega), hj]
        refine own_s T641 (mkF m 123 #[sA a1, sA a2, sI ix, sI p2, sI p3, sN, sI w1, sI ln, sI w2, sI w3, sI w4, sI w5, sI (0 : Int32), sI w6, sI w7, sI w8, sI j, t17] [(.ref a1), (.int w7)]) (fun t k => ?_) ?_
        ·refine XS.iload X641.here hx rfl (D16 hby 67 rfl) rfl ?_
         exact XS.aloadN X641.here hx rfl (D16 hby 68 rfl) rfl rfl k
        obtain ⟨T653, X653, e653, st653⟩ := getF X641 hx hZ hown (host := "") (Or.inl (own_hw hw 13 rfl)) Via.refl e641 f643 (g := (mkF m 123 #[sA a1, sA a2, sI ix, sI p2, sI p3, sN, sI w1, sI ln, sI w2, sI w3, sI w4, sI w5, sI (0 : Int32), sI w6, sI w7, sI w8, sI j, t17] [(.ref a1), (.int w7)])) rfl rfl (D16 hby 69 rfl)
        refine OwnWp.step st653 ?_
        show OwnWp p e below s _ _ _ (T653.setTop (mkF m 126 #[sA a1, sA a2, sI ix, sI p2, sI p3, sN, sI w1, sI ln, sI w2, sI w3, sI w4, sI w5, sI (0 : Int32), sI w6, sI w7, sI w8, sI j, t17] [(.ref od), (.int w7)]))
        obtain ⟨w9, qw9⟩ : ∃ z : Int32, z = (w7 ||| ((o (w2 + (XT.ushr j w4)).toInt) <<< (w1 &&& 31))) := ⟨_, rfl⟩
        refine own_s T653 (mkF m 141 #[sA a1, sA a2, sI ix, sI p2, sI p3, sN, sI w1, sI ln, sI w2, sI w3, sI w4, sI w5, sI (0 : Int32), sI w6, sI w7, sI w8, sI j, sI w9] []) (fun t k => ?_) ?_
        ·refine XS.iload X653.here hx rfl (D16 hby 70 rfl) rfl ?_
         refine XS.iload X653.here hx rfl (D16 hby 71 rfl) rfl ?_
         refine XS.iload X653.here hx rfl (D16 hby 72 rfl) rfl ?_
         refine XT.iushr X653.here hx rfl (D16 hby 73 rfl) rfl ?_
         refine XS.iadd X653.here hx rfl (D16 hby 74 rfl) rfl ?_
         refine OwnA.ldI X653 hx hZ e653 f647 a1x (by rw [show (256 : Int32).toInt = 256 from rfl]; exact a2x) rfl rfl (D16 hby 75 rfl) ?_
         refine XS.iload X653.here hx rfl (D16 hby 76 rfl) rfl ?_
         refine XT.ishl X653.here hx rfl (D16 hby 77 rfl) rfl ?_
         refine XT.ior X653.here hx rfl (D16 hby 78 rfl) rfl ?_
         refine XS.istoreS X653.here hx rfl (D16 hby 79 rfl) rfl (o := t17) rfl ht17 ?_
         rw [qw9] at k
         exact k
        refine own_s T653 (mkF m 170 #[sA a1, sA a2, sI ix, sI p2, sI p3, sN, sI w1, sI ln, sI w2, sI w3, sI w4, sI w5, sI (0 : Int32), sI w6, sI w7, sI w8, sI j, sI w9] [(.int w9), (.int (ix + j)), (.ref a2)]) (fun t k => ?_) ?_
        ·refine XS.aloadN X653.here hx rfl (D16 hby 80 rfl) rfl rfl ?_
         refine XS.iloadN X653.here hx rfl (D16 hby 81 rfl) rfl ?_
         refine XS.iload X653.here hx rfl (D16 hby 82 rfl) rfl ?_
         refine XS.iadd X653.here hx rfl (D16 hby 83 rfl) rfl ?_
         refine XS.iload X653.here hx rfl (D16 hby 84 rfl) rfl ?_
         refine XS.ifYes X653.here hx rfl (pc0 := 148) (pc' := 168) rfl (D16 hby 85 rfl) rfl (XT.i0_eq_t (by decide)) (by decide) (by decide) ?_
         exact XS.iload X653.here hx rfl (D16 hby 96 rfl) rfl k
        have hw17 : w9 = own_code (o (w2 + (XT.ushr j w4)).toInt) ln p3 := by rw [qw9, qw7, qw1]; rfl
        obtain ⟨T654, h654, L654, X654, e654, N654, K654, F654, st654⟩ := OwnA.stI X653 hx hZ e653 N641 g2 f649 (by rw [hixj]; omega) (by rw [hixj]; omega) (g := (mkF m 170 #[sA a1, sA a2, sI ix, sI p2, sI p3, sN, sI w1, sI ln, sI w2, sI w3, sI w4, sI w5, sI (0 : Int32), sI w6, sI w7, sI w8, sI j, sI w9] [(.int w9), (.int (ix + j)), (.ref a2)])) rfl rfl (D16 hby 97 rfl)
        refine OwnWp.step st654 ?_
        have Z654 : n0 ≤ h654.size := Nat.le_trans Z641 K654.1
        have f655 := Exa.keep f642 K654
        have f656 := Fld.keep f643 K654 (ninS n1 nin0)
        have f657 := Fld.keep f644 K654 (ninS n1 nin0)
        have f658 := Fld.keep f645 K654 (ninS n1 nin0)
        have f659 := Fld.keep f646 K654 (ninS n1 nin0)
        have f660 := OwnA.keep f647 K654 (ninS n2 nin0)
        have f661 := OwnA.keep f648 K654 (ninS n3 nin0)
        have F662 : OwnA Z h654 a2 .int tn (fun zi => .int ((ownUpd g2x (ix + j).toInt w9) zi)) := F654.congr (fun zi _ _ => by exact ownUpd_int g2x _ _ zi)
        have K663 := Keep.trans K650 K654 (allS (Or.inl (List.mem_of_getElem? (i := 0) rfl)) all0)
        show OwnWp p e below s _ _ _ (T654.setTop (mkF m 171 #[sA a1, sA a2, sI ix, sI p2, sI p3, sN, sI w1, sI ln, sI w2, sI w3, sI w4, sI w5, sI (0 : Int32), sI w6, sI w7, sI w8, sI j, sI w9] []))
        have hin3 : own_inv f (ownUpd g2x (ix + j).toInt w9) C o b p3.toInt B p1.toInt (ix.toInt + ((jn + 1 : Nat) : Int)) := by rw [hixj, show ix.toInt + ((jn + 1 : Nat) : Int) = ix.toInt + (jn : Int) + 1 from by omega]; exact own_inv_upd hin2 (own_sh_good hCn (by omega) a4x a5x (by omega) (by rw [hw17]; exact own_isval0 hB0 hbo a3x a1x a2x hln (by omega) hsl))
        obtain ⟨w10, qw10⟩ : ∃ z : Int32, z = (j + (1 : Int32)) := ⟨_, rfl⟩
        refine own_s T654 (mkF m 174 #[sA a1, sA a2, sI ix, sI p2, sI p3, sN, sI w1, sI ln, sI w2, sI w3, sI w4, sI w5, sI (0 : Int32), sI w6, sI w7, sI w8, sI w10, sI w9] []) (fun t k => ?_) ?_
        ·refine XT.iincV X654.here hx rfl (1 : Int32) (D16 hby 98 rfl) rfl rfl (l' := #[sA a1, sA a2, sI ix, sI p2, sI p3, sN, sI w1, sI ln, sI w2, sI w3, sI w4, sI w5, sI (0 : Int32), sI w6, sI w7, sI w8, sI (j + (1 : Int32)), sI w9]) rfl ?_
         rw [qw10] at k
         exact k
        refine own_s T654 (mkF m 113 #[sA a1, sA a2, sI ix, sI p2, sI p3, sN, sI w1, sI ln, sI w2, sI w3, sI w4, sI w5, sI (0 : Int32), sI w6, sI w7, sI w8, sI w10, sI w9] []) (fun t k => ?_) ?_
        ·exact XS.goto X654.here hx rfl (pc0 := 174) (pc' := 113) rfl (D16 hby 99 rfl) (by decide) (by decide) k
        have hj2 : w10.toInt = ((jn + 1 : Nat) : Int) := by rw [qw10]; exact own_inc hj (by omega)
        exact ih  T654 h654 _ w10 (jn + 1) (ownUpd g2x (ix + j).toInt w9) _ X654 e654 N654 Z654 f655 f656 f657 f658 f659 f660 f661 F662 K663 (One.val rfl) hj2 (by omega) hin3
       ·refine own_s T641 (mkF m 177 #[sA a1, sA a2, sI ix, sI p2, sI p3, sN, sI w1, sI ln, sI w2, sI w3, sI w4, sI w5, sI (0 : Int32), sI w6, sI w7, sI w8, sI j, t17] []) (fun t k => ?_) ?_
        ·exact XS.icmpYes X641.here hx rfl (pc0 := 117) (pc' := 177) rfl (D16 hby 66 rfl) rfl (XT.ii_ge_t c117_652) (by decide) (by decide) k
        rw [Int32.lt_iff_toInt_lt, hcn] at c117_652
        exact absurd c117_652 (by omega)
     exact hl2 (C (ll : Int) * 2 ^ (b - ll)).toNat T639 h622 _ (0 : Int32) 0 g s17 X639 e639 N636 Z622 f623 f624 f625 f626 f627 f628 f629 f630 K631 hs17 (by decide) (by have := Int.mul_nonneg (hCn ll) (show (0 : Int) ≤ 2 ^ (b - ll) by omega); omega) (by rw [show ix.toInt + ((0 : Nat) : Int) = ix.toInt from by omega]; exact hin)
    ·refine own_s T639 (mkF m 185 #[sA a1, sA a2, sI ix, sI p2, sI p3, sN, sI w1, sI ln, sI w2, sI w3, sI w4, sI w5, sI (0 : Int32), s13, s14, s15, s16, s17] []) (fun t k => ?_) ?_
     ·exact XS.icmpYes X639.here hx rfl (pc0 := 84) (pc' := 185) rfl (D16 hby 47 rfl) rfl (XT.ii_ge_t c84_640) (by decide) (by decide) k
     rw [Int32.lt_iff_toInt_lt, show (4 : Int32).toInt = 4 from rfl] at c84_640
     refine own_s T639 (mkF m 189 #[sA a1, sA a2, sI ix, sI p2, sI p3, sN, sI w1, sI ln, sI w2, sI w3, sI w4, sI w5, sI (0 : Int32), sI w2, s14, s15, s16, s17] []) (fun t k => ?_) ?_
     ·refine XS.iload X639.here hx rfl (D16 hby 105 rfl) rfl ?_
      exact XS.istoreS X639.here hx rfl (D16 hby 106 rfl) rfl (o := s13) rfl hs13 k
     have hl3 : ∀ (k : Nat) (T664 : State) (h664 : Heap) (L664 : List Loc) (kk : Int32) (ix3 : Int32) (r : Nat) (g3 : Int → Int32) (t14 : Slot) (t15 : Slot) (X664 : Stand p l e Rm6 s m #[(.ref a1), (.ref a2), (.int p1), (.int p2), (.int p3), .null] below meth c T664 L664 0 0) (e664 : T664.heap = h664) (N664 : Fr n0 L664) (Z664 : n0 ≤ h664.size) (f665 : Exa Z h664 a1 DTn) (f666 : Fld Z h664 a1 DTn "order" "[I" (.ref od)) (f667 : Fld Z h664 a1 DTn "places" "[I" (.ref pl)) (f668 : Fld Z h664 a1 DTn "shortest" "I" (.int shI)) (f669 : Fld Z h664 a1 DTn "longest" "I" (.int mxI)) (f670 : OwnA Z h664 od .int (256 : Int32) (fun zi => .int (o zi))) (f671 : OwnA Z h664 pl .int (17 : Int32) (fun zi => .int (gp zi))) (f672 : OwnA Z h664 a2 .int tn (fun zi => .int (g3 zi))) (K673 : Keep h0 h664 [a2]) (ht14 : One t14) (ht15 : One t15) (hkk : kk.toInt = own_A C ll + (r : Int)) (hrk : (r : Int) + (k : Int) = C (ll : Int)) (hix3 : ix3.toInt = p1.toInt + own_Sum C b ll + (r : Int) * 2 ^ (b - ll)) (hin3 : own_inv f g3 C o b p3.toInt B p1.toInt ix3.toInt), OwnWp p e below s Rm6.cells Rm6.slots (Q16N Z a1 a2 p1 p2 p3 od pl o gp shI mxI C b mx sh tn f B h0 n0) (T664.setTop (mkF m 189 #[sA a1, sA a2, sI ix3, sI p2, sI p3, sN, sI w1, sI ln, sI w2, sI w3, sI w4, sI w5, sI (0 : Int32), sI kk, t14, t15, s16, s17] [])) := by
      intro k
      induction k with
      | zero =>
       intro T664 h664 L664 kk ix3 r g3 t14 t15 X664 e664 N664 Z664 f665 f666 f667 f668 f669 f670 f671 f672 K673 ht14 ht15 hkk hrk hix3 hin3
       refine own_s T664 (mkF m 193 #[sA a1, sA a2, sI ix3, sI p2, sI p3, sN, sI w1, sI ln, sI w2, sI w3, sI w4, sI w5, sI (0 : Int32), sI kk, t14, t15, s16, s17] [(.int w3), (.int kk)]) (fun t k => ?_) ?_
       ·refine XS.iload X664.here hx rfl (D16 hby 107 rfl) rfl ?_
        exact XS.iload X664.here hx rfl (D16 hby 108 rfl) rfl k
       by_cases c193_674 : kk < w3
       ·refine own_s T664 (mkF m 196 #[sA a1, sA a2, sI ix3, sI p2, sI p3, sN, sI w1, sI ln, sI w2, sI w3, sI w4, sI w5, sI (0 : Int32), sI kk, t14, t15, s16, s17] []) (fun t k => ?_) ?_
        ·exact XS.icmpNo X664.here hx rfl (D16 hby 109 rfl) rfl (XT.ii_ge_f c193_674) k
        rw [Int32.lt_iff_toInt_lt] at c193_674
        exact absurd c193_674 (by omega)
       ·refine own_s T664 (mkF m 324 #[sA a1, sA a2, sI ix3, sI p2, sI p3, sN, sI w1, sI ln, sI w2, sI w3, sI w4, sI w5, sI (0 : Int32), sI kk, t14, t15, s16, s17] []) (fun t k => ?_) ?_
        ·exact XS.icmpYes X664.here hx rfl (pc0 := 193) (pc' := 324) rfl (D16 hby 109 rfl) rfl (XT.ii_ge_t c193_674) (by decide) (by decide) k
        rw [Int32.lt_iff_toInt_lt] at c193_674
        obtain ⟨w6, qw6⟩ : ∃ z : Int32, z = (ln + (1 : Int32)) := ⟨_, rfl⟩
        refine own_s T664 (mkF m 327 #[sA a1, sA a2, sI ix3, sI p2, sI p3, sN, sI w1, sI w6, sI w2, sI w3, sI w4, sI w5, sI (0 : Int32), sI kk, t14, t15, s16, s17] []) (fun t k => ?_) ?_
        ·refine XT.iincV X664.here hx rfl (1 : Int32) (D16 hby 181 rfl) rfl rfl (l' := #[sA a1, sA a2, sI ix3, sI p2, sI p3, sN, sI w1, sI (ln + (1 : Int32)), sI w2, sI w3, sI w4, sI w5, sI (0 : Int32), sI kk, t14, t15, s16, s17]) rfl ?_
         rw [qw6] at k
         exact k
        refine own_s T664 (mkF m 15 #[sA a1, sA a2, sI ix3, sI p2, sI p3, sN, sI w1, sI w6, sI w2, sI w3, sI w4, sI w5, sI (0 : Int32), sI kk, t14, t15, s16, s17] []) (fun t k => ?_) ?_
        ·exact XS.goto X664.here hx rfl (pc0 := 327) (pc' := 15) rfl (D16 hby 182 rfl) (by decide) (by decide) k
        have u1 : w6.toInt = ((ll + 1 : Nat) : Int) := by rw [qw6]; exact own_inc hln (by omega)
        exact ih  T664 h664 _ ix3 w6 (ll + 1) g3 _ _ _ _ _ _ t14 t15 s16 s17 X664 e664 N664 Z664 f665 f666 f667 f668 f669 f670 f671 f672 K673 (One.val rfl) (One.val rfl) (One.val rfl) (One.val rfl) (One.val rfl) (One.val rfl) ht14 ht15 hs16 hs17 u1 (by omega) (by omega) (Or.inr (by omega)) (by rw [hss, hix3, show (r : Int) = C (ll : Int) from by omega]; omega) hin3
      | succ k ih =>
       intro T664 h664 L664 kk ix3 r g3 t14 t15 X664 e664 N664 Z664 f665 f666 f667 f668 f669 f670 f671 f672 K673 ht14 ht15 hkk hrk hix3 hin3
       refine own_s T664 (mkF m 193 #[sA a1, sA a2, sI ix3, sI p2, sI p3, sN, sI w1, sI ln, sI w2, sI w3, sI w4, sI w5, sI (0 : Int32), sI kk, t14, t15, s16, s17] [(.int w3), (.int kk)]) (fun t k => ?_) ?_
       ·refine XS.iload X664.here hx rfl (D16 hby 107 rfl) rfl ?_
        exact XS.iload X664.here hx rfl (D16 hby 108 rfl) rfl k
       by_cases c193_675 : kk < w3
       ·refine own_s T664 (mkF m 196 #[sA a1, sA a2, sI ix3, sI p2, sI p3, sN, sI w1, sI ln, sI w2, sI w3, sI w4, sI w5, sI (0 : Int32), sI kk, t14, t15, s16, s17] []) (fun t k => ?_) ?_
        ·exact XS.icmpNo X664.here hx rfl (D16 hby 109 rfl) rfl (XT.ii_ge_f c193_675) k
        rw [Int32.lt_iff_toInt_lt] at c193_675
        have hbk := own_blk (r := (r : Int)) (c := C (ll : Int)) (i := 2 ^ (b - ll) - 1) hpl2 (by omega) (by omega) (by omega) (by omega)
        have hrP := Int.mul_nonneg (show (0 : Int) ≤ (r : Int) by omega) (show (0 : Int) ≤ 2 ^ (b - ll) by omega)
        have hbe : ix3.toInt + 2 ^ (b - ll) ≤ p1.toInt + 2 ^ b := by omega
        refine own_s T664 (mkF m 203 #[sA a1, sA a2, sI ix3, sI p2, sI p3, sN, sI w1, sI ln, sI w2, sI w3, sI w4, sI w5, sI (0 : Int32), sI kk, t14, t15, s16, s17] [(.int p3), (.int ln), (.int kk), (.ref a1)]) (fun t k => ?_) ?_
        ·refine XS.aloadN X664.here hx rfl (D16 hby 110 rfl) rfl rfl ?_
         refine XS.iload X664.here hx rfl (D16 hby 111 rfl) rfl ?_
         refine XS.iload X664.here hx rfl (D16 hby 112 rfl) rfl ?_
         exact XS.iload X664.here hx rfl (D16 hby 113 rfl) rfl k
        obtain ⟨cl676, hcl676, hst676⟩ := Exa.cell f665
        obtain ⟨_, _, ⟨T676, L676, k676, n676⟩, -, X676, ⟨Lc676, hQ676, l676, y676, z676⟩, st676⟩ := X664.privateBack hx (y := Mn8) hown (mvT hZ (own_hw hw 96 rfl)) (mvT hZ (own_hw hw 97 rfl)) hsel620 (Cond.privateMethod_at (mvP hZ (own_hw hw 98 rfl) (args := #[]))) (mvT hZ (own_hw hw 99 rfl)) (by decide) (backOf (W := 0) (rm17 l Z a0 hw [] a1 kk ln p3 od o h664 n0 Z664 f666 f670 (by omega) (by omega)) hZ (own_hw hw 99 rfl) (own_hw hw 4 rfl) (by decide) (by decide)) (g := (mkF m 203 #[sA a1, sA a2, sI ix3, sI p2, sI p3, sN, sI w1, sI ln, sI w2, sI w3, sI w4, sI w5, sI (0 : Int32), sI kk, t14, t15, s16, s17] [(.int p3), (.int ln), (.int kk), (.ref a1)])) rfl (by rw [hml]; rfl) (Steps.refl _) (a := a1) (by rw [e664]; exact hcl676) hst676 (argsL := [(.int kk), (.int ln), (.int p3)]) (rest := []) (lenOf pd_17 rfl) rfl (by show 2 * 0 + _ ≤ _; exact Nat.le_of_eq rfl) (D16 hby 114 rfl) (fun _ _ => ⟨rfl, e664, (by dsimp only [Pt.cells]; decide), (by dsimp only [Pt.slots]; decide)⟩)
        dsimp only [Pt.U, Pt.locs, Pt.cells, Pt.slots] at X676 l676 y676 z676 st676 hQ676
        subst l676 y676 z676
        obtain ⟨rfl, Nc676, hp676⟩ := hQ676
        have N676 := Fr.app N664 Nc676
        refine OwnWp.go st676 ?_
        have eh676 : T676.heap = h664 := hp676
        show OwnWp p e below s _ _ _ (T676.setTop (mkF m 206 #[sA a1, sA a2, sI ix3, sI p2, sI p3, sN, sI w1, sI ln, sI w2, sI w3, sI w4, sI w5, sI (0 : Int32), sI kk, t14, t15, s16, s17] [(.int (own_code (o kk.toInt) ln p3))]))
        obtain ⟨w6, qw6⟩ : ∃ z : Int32, z = (own_code (o kk.toInt) ln p3) := ⟨_, rfl⟩
        refine own_s T676 (mkF m 208 #[sA a1, sA a2, sI ix3, sI p2, sI p3, sN, sI w1, sI ln, sI w2, sI w3, sI w4, sI w5, sI (0 : Int32), sI kk, sI w6, t15, s16, s17] []) (fun t k => ?_) ?_
        ·refine XS.istoreS X676.here hx rfl (D16 hby 115 rfl) rfl (o := t14) rfl ht14 ?_
         rw [qw6] at k
         exact k
        have hv : own_isval o C ll (r : Int) p3 B w6 := by rw [qw6]; exact own_isval0 hB0 hbo hkk (by omega) (by omega) hln (by omega) hsl
        refine own_s T676 (mkF m 221 #[sA a1, sA a2, sI ix3, sI p2, sI p3, sN, sI w1, sI ln, sI w2, sI w3, sI w4, sI w5, sI (0 : Int32), sI kk, sI w6, t15, s16, s17] [(.int w6), (.int (ix3 + w5)), (.int ix3), (.ref a2)]) (fun t k => ?_) ?_
        ·refine XS.iload X676.here hx rfl (D16 hby 116 rfl) rfl ?_
         refine XS.ifNo X676.here hx rfl (D16 hby 117 rfl) rfl (XT.i0_ne_f (by decide)) ?_
         refine XS.aloadN X676.here hx rfl (D16 hby 118 rfl) rfl rfl ?_
         refine XS.iloadN X676.here hx rfl (D16 hby 119 rfl) rfl ?_
         refine XS.iloadN X676.here hx rfl (D16 hby 120 rfl) rfl ?_
         refine XS.iload X676.here hx rfl (D16 hby 121 rfl) rfl ?_
         refine XS.iadd X676.here hx rfl (D16 hby 122 rfl) rfl ?_
         exact XS.iload X676.here hx rfl (D16 hby 123 rfl) rfl k
        obtain ⟨w7, qw7⟩ : ∃ z : Int32, z = (ix3 + w5) := ⟨_, rfl⟩
        rw [← qw7]
        show OwnWp p e below s _ _ _ (T676.setTop (mkF m 221 #[sA a1, sA a2, sI ix3, sI p2, sI p3, sN, sI w1, sI ln, sI w2, sI w3, sI w4, sI w5, sI (0 : Int32), sI kk, sI w6, t15, s16, s17] [(.int w6), (.int w7), (.int ix3), (.ref a2)]))
        have hhi : w7.toInt = ix3.toInt + 2 ^ (b - ll) := by rw [qw7, own_add (by omega) (by omega), hcp]
        obtain ⟨_, _, ⟨T677, L677, k677, n677⟩, -, X677, ⟨Lc677, hQ677, l677, y677, z677⟩, st677⟩ := Jvm.LawKit.callS X676 hx (y := Mn4) hown (mvT hZ (own_hw hw 68 rfl)) (mvT hZ (own_hw hw 69 rfl)) (mvT hZ (own_hw hw 34 rfl)) (mvT hZ (own_hw hw 70 rfl)) (by decide) (backOf (W := 0) (rm11 l Z a0 hw [] a2 ix3 w7 w6 tn g3 h664 n0 Z664 g2 f672 (by omega) (by omega) (by omega)) hZ (own_hw hw 70 rfl) (own_hw hw 34 rfl) (by decide) (by decide)) (g := (mkF m 221 #[sA a1, sA a2, sI ix3, sI p2, sI p3, sN, sI w1, sI ln, sI w2, sI w3, sI w4, sI w5, sI (0 : Int32), sI kk, sI w6, t15, s16, s17] [(.int w6), (.int w7), (.int ix3), (.ref a2)])) rfl (by rw [hml]; rfl) (argsL := [(.ref a2), (.int ix3), (.int w7), (.int w6)]) (rest := []) (lenOf pd_11 rfl) rfl (by show 2 * 0 + _ ≤ _; exact Nat.le_of_eq rfl) (D16 hby 124 rfl) (fun _ _ => ⟨rfl, eh676, (by dsimp only [Pt.cells]; decide), (by dsimp only [Pt.slots]; decide)⟩)
        dsimp only [Pt.U, Pt.locs, Pt.cells, Pt.slots] at X677 l677 y677 z677 st677 hQ677
        subst l677 y677 z677
        obtain ⟨rfl, Nc677, Kc677, aa677⟩ := hQ677
        have N677 := Fr.app N676 Nc677
        refine OwnWp.step st677 ?_
        have Z677 : n0 ≤ T677.heap.size := Nat.le_trans Z664 Kc677.1
        have f678 := Exa.keep f665 Kc677
        have f679 := Fld.keep f666 Kc677 (ninS n1 nin0)
        have f680 := Fld.keep f667 Kc677 (ninS n1 nin0)
        have f681 := Fld.keep f668 Kc677 (ninS n1 nin0)
        have f682 := Fld.keep f669 Kc677 (ninS n1 nin0)
        have f683 := OwnA.keep f670 Kc677 (ninS n2 nin0)
        have f684 := OwnA.keep f671 Kc677 (ninS n3 nin0)
        have K686 := Keep.trans K673 Kc677 (allS (Or.inl (List.mem_of_getElem? (i := 0) rfl)) all0)
        show OwnWp p e below s _ _ _ (T677.setTop (mkF m 224 #[sA a1, sA a2, sI ix3, sI p2, sI p3, sN, sI w1, sI ln, sI w2, sI w3, sI w4, sI w5, sI (0 : Int32), sI kk, sI w6, t15, s16, s17] []))
        have hin4 := own_inv_rng hCn hin3 (l := ll) (r := (r : Int)) (by omega) (by omega) (by omega) hix3 hhi hv
        rw [hhi] at hin4
        have hfx : (own_rng g3 ix3.toInt w7.toInt w6) = own_rng g3 ix3.toInt (ix3.toInt + 2 ^ (b - ll)) w6 := by rw [hhi]
        rw [← hfx] at hin4
        obtain ⟨w8, qw8⟩ : ∃ z : Int32, z = (ix3 + w5) := ⟨_, rfl⟩
        refine own_s T677 (mkF m 229 #[sA a1, sA a2, sI w8, sI p2, sI p3, sN, sI w1, sI ln, sI w2, sI w3, sI w4, sI w5, sI (0 : Int32), sI kk, sI w6, t15, s16, s17] []) (fun t k => ?_) ?_
        ·refine XS.iloadN X677.here hx rfl (D16 hby 125 rfl) rfl ?_
         refine XS.iload X677.here hx rfl (D16 hby 126 rfl) rfl ?_
         refine XS.iadd X677.here hx rfl (D16 hby 127 rfl) rfl ?_
         refine XS.istoreN X677.here hx rfl (D16 hby 128 rfl) rfl (l' := #[sA a1, sA a2, sI (ix3 + w5), sI p2, sI p3, sN, sI w1, sI ln, sI w2, sI w3, sI w4, sI w5, sI (0 : Int32), sI kk, sI w6, t15, s16, s17]) rfl ?_
         rw [qw8] at k
         exact k
        obtain ⟨w9, qw9⟩ : ∃ z : Int32, z = (kk + (1 : Int32)) := ⟨_, rfl⟩
        refine own_s T677 (mkF m 321 #[sA a1, sA a2, sI w8, sI p2, sI p3, sN, sI w1, sI ln, sI w2, sI w3, sI w4, sI w5, sI (0 : Int32), sI w9, sI w6, t15, s16, s17] []) (fun t k => ?_) ?_
        ·refine XS.goto X677.here hx rfl (pc0 := 229) (pc' := 318) rfl (D16 hby 129 rfl) (by decide) (by decide) ?_
         refine XT.iincV X677.here hx rfl (1 : Int32) (D16 hby 179 rfl) rfl rfl (l' := #[sA a1, sA a2, sI w8, sI p2, sI p3, sN, sI w1, sI ln, sI w2, sI w3, sI w4, sI w5, sI (0 : Int32), sI (kk + (1 : Int32)), sI w6, t15, s16, s17]) rfl ?_
         rw [qw9] at k
         exact k
        refine own_s T677 (mkF m 189 #[sA a1, sA a2, sI w8, sI p2, sI p3, sN, sI w1, sI ln, sI w2, sI w3, sI w4, sI w5, sI (0 : Int32), sI w9, sI w6, t15, s16, s17] []) (fun t k => ?_) ?_
        ·exact XS.goto X677.here hx rfl (pc0 := 321) (pc' := 189) rfl (D16 hby 180 rfl) (by decide) (by decide) k
        have y1 : w9.toInt = own_A C ll + ((r + 1 : Nat) : Int) := by rw [qw9, own_inc1 (by omega) (by omega), hkk]; omega
        have y2 : w8.toInt = ix3.toInt + 2 ^ (b - ll) := by rw [qw8, own_add (by omega) (by omega), hcp]
        have y3 : ((r + 1 : Nat) : Int) * 2 ^ (b - ll) = (r : Int) * 2 ^ (b - ll) + 2 ^ (b - ll) := by rw [show ((r + 1 : Nat) : Int) = (r : Int) + 1 from by omega, Int.add_mul, Int.one_mul]
        exact ih  T677 T677.heap _ w9 w8 (r + 1) (own_rng g3 ix3.toInt w7.toInt w6) _ t15 X677 (rfl : T677.heap = T677.heap) N677 Z677 f678 f679 f680 f681 f682 f683 f684 aa677 K686 (One.val rfl) ht15 y1 (by omega) (by rw [y3]; omega) (by rw [y2]; exact hin4)
       ·refine own_s T664 (mkF m 324 #[sA a1, sA a2, sI ix3, sI p2, sI p3, sN, sI w1, sI ln, sI w2, sI w3, sI w4, sI w5, sI (0 : Int32), sI kk, t14, t15, s16, s17] []) (fun t k => ?_) ?_
        ·exact XS.icmpYes X664.here hx rfl (pc0 := 193) (pc' := 324) rfl (D16 hby 109 rfl) rfl (XT.ii_ge_t c193_675) (by decide) (by decide) k
        rw [Int32.lt_iff_toInt_lt] at c193_675
        exact absurd c193_675 (by omega)
     exact hl3 (C (ll : Int)).toNat T639 h622 _ w2 ix 0 g s14 s15 X639 e639 N636 Z622 f623 f624 f625 f626 f627 f628 f629 f630 K631 hs14 hs15 (by omega) (by have := hCn ll; omega) (by rw [hix]; show _ = _ + (0 : Int) * _; rw [Int.zero_mul]; omega) hin
 exact hloop (Nat.min b mx + 1 - sh) T621 h0 _ p1 shI sh f _ _ _ _ _ _ _ _ _ _ X621 e621 N0 Z0 E0 F0 F1 F2 F3 A0 A1 A2 K0 One.u One.u One.u One.u One.u One.u One.u One.u One.u One.u hshI (Nat.le_refl _) rfl (Or.inl rfl) (by rw [own_Sum_zero hz sh (Nat.le_refl _)]; omega) (own_inv0 f C o b _ B _)
theorem ef_16A (m : MethodId) (x0 : Addr) (x1 : Addr) (x2 : Int32) (x3 : Int32) (x4 : Int32) (x5 : Addr) : entryFrame m #[(.ref x0), (.ref x1), (.int x2), (.int x3), (.int x4), (.ref x5)] 18 = mkF m 0 #[.val (.ref x0), .val (.ref x1), .val (.int x2), .val (.int x3), .val (.int x4), .val (.ref x5), .unset, .unset, .unset, .unset, .unset, .unset, .unset, .unset, .unset, .unset, .unset, .unset] [] := by first | (simp [entryFrame, mkF, argsToLocals, Value.category, maxLocals]; done) | rfl
def Q16A (Z : State) (a1 : Addr) (a2 : Addr) (p1 : Int32) (p2 : Int32) (p3 : Int32) (a3 : Addr) (od : Addr) (pl : Addr) (o : Int → Int32) (gp : Int → Int32) (shI : Int32) (mxI : Int32) (C : Int → Int) (b : Nat) (mx : Nat) (sh : Nat) (tn : Int32) (f : Int → Int32) (B : Int) (fn : Int32) (fw : Int → Int32) (h0 : Heap) (n0 : Nat) (v : Option Value) (h : Heap) (L : List Loc) : Prop := ∃ (e9 : Int32) (g9 : Int → Int32), v = some (.int e9) ∧ Fr n0 L ∧ Keep h0 h [a2] ∧ OwnA Z h a2 .int tn (fun i => .int (g9 i)) ∧ e9.toInt = p1.toInt + own_Sum C b (Nat.min b mx + 1) ∧ own_inv f g9 C o b p3.toInt B p1.toInt e9.toInt
set_option maxRecDepth 65536 in
set_option maxHeartbeats 40000000 in
theorem rm16A (l : Launch) (Z : State) (a0 : Array Value) (hw : ∀ d ∈ tables_1, d.before a0 Z = true) (ws : List Jvm.Cond) (a1 : Addr) (a2 : Addr) (p1 : Int32) (p2 : Int32) (p3 : Int32) (a3 : Addr) (od : Addr) (pl : Addr) (o : Int → Int32) (gp : Int → Int32) (shI : Int32) (mxI : Int32) (C : Int → Int) (b : Nat) (mx : Nat) (sh : Nat) (tn : Int32) (f : Int → Int32) (B : Int) (fn : Int32) (fw : Int → Int32) (h0 : Heap) (n0 : Nat) (Z0 : n0 ≤ h0.size) (g2 : n0 ≤ a2) (n1 : a1 ≠ a2) (n2 : od ≠ a2) (n3 : pl ≠ a2) (n4 : a3 ≠ a2) (E0 : Exa Z h0 a1 DTn) (F0 : Fld Z h0 a1 DTn "order" "[I" (.ref od)) (F1 : Fld Z h0 a1 DTn "places" "[I" (.ref pl)) (F2 : Fld Z h0 a1 DTn "shortest" "I" (.int shI)) (F3 : Fld Z h0 a1 DTn "longest" "I" (.int mxI)) (A0 : OwnA Z h0 od .int (256 : Int32) (fun i => .int (o i))) (A1 : OwnA Z h0 pl .int (17 : Int32) (fun i => .int (gp i))) (A2 : OwnA Z h0 a2 .int tn (fun i => .int (f i))) (A3 : OwnA Z h0 a3 .int fn (fun i => .int (fw i))) (hC0 : ∀ t, 0 ≤ C t ∧ C t ≤ 256) (hA16 : own_A C 16 ≤ 256) (hpl : own_plA C 17 gp) (hbo : own_byte o) (hshI : shI.toInt = (sh : Int)) (hsh1 : 1 ≤ sh) (hz : ∀ t : Int, 1 ≤ t → t < (sh : Int) → C t = 0) (hmI : mxI.toInt = (mx : Int)) (hm15 : mx ≤ 15) (hbt : p2.toInt = (b : Int)) (hb1 : 1 ≤ b) (hb12 : b ≤ 12) (hp0 : 0 ≤ p1.toInt) (htn : p1.toInt + 2 ^ b ≤ tn.toInt) (htn2 : tn.toInt ≤ 100000) (hS : own_Sum C b (Nat.min b mx + 1) ≤ 2 ^ b) (hsl : p3 = 0 ∨ p3 = 1 ∨ p3 = 2) (hB0 : 0 ≤ B) (hB : B ≤ 158) (hfw : ∀ i : Int, 0 ≤ i → i < fn.toInt → (fw i).toInt % 65536 ≤ B) (hfn : 2 ^ b ≤ fn.toInt) (hfn2 : fn.toInt ≤ 100000) :
  MetFree l Mn12 (head1 (Jvm.Cond.code Mn12 prog_6_method_6_code 18 (some .int) :: ws) Rm6) (fun a U => a = #[(.ref a1), (.ref a2), (.int p1), (.int p2), (.int p3), (.ref a3)] ∧ Z.Warmed39 U.vm ∧ U.heap = h0) (fun _ _ _ _ _ => True) (fun _ U oc U' => ∃ v L, oc = .returned v ∧ Q16A Z a1 a2 p1 p2 p3 a3 od pl o gp shI mxI C b mx sh tn f B fn fw h0 n0 v U'.heap L ∧ FrameEnd U oc U' L Rm6.cells Rm6.slots) := by
 refine MetFree.of_bodySF pn_16 hisR ?_
 intro p e s m args below meth c s₁ Bd hml0 hP hK
 obtain ⟨rfl, hZ, hh⟩ := hP
 have hx := Bd.exec
 have hby := Bd.bytes
 have hlk := BodyLoose.notSynchronized Bd
 have hml : c.maxLocals = 18 := hml0
 have hown : s.vm.findClass DTn = some m.cls := findClass_of_methodNamed Bd.named
 have hnm := (name_of_methodNamed Bd.named Bd.method).1
 have X0 : Stand p l e Rm6 s m #[(.ref a1), (.ref a2), (.int p1), (.int p2), (.int p3), (.ref a3)] below meth c s₁ [] 0 0 := Stand.of_body Bd
 have e0 : s₁.heap = h0 := by rw [← hh, Bd.state]; rfl
 have N0 := Fr.nil n0
 show OwnWp p e below s Rm6.cells Rm6.slots (Q16A Z a1 a2 p1 p2 p3 a3 od pl o gp shI mxI C b mx sh tn f B fn fw h0 n0) (s₁.setTop (entryFrame m #[(.ref a1), (.ref a2), (.int p1), (.int p2), (.int p3), (.ref a3)] 18))
 refine OwnWp.cast (ef_16A m a1 a2 p1 p2 p3 a3) ?_
 show OwnWp p e below s _ _ _ (s₁.setTop (mkF m 0 #[sA a1, sA a2, sI p1, sI p2, sI p3, sA a3, sU, sU, sU, sU, sU, sU, sU, sU, sU, sU, sU, sU] []))
 have K0 := Keep.refl h0 [a2]
 have hCn : ∀ t, 0 ≤ C t := fun t => (hC0 t).1
 have hmn := own_minb hbt hmI
 have hmb : Nat.min b mx ≤ b := Nat.min_le_left _ _
 have hmm : Nat.min b mx ≤ mx := Nat.min_le_right _ _
 have hp12 := own_p2le hb12
 rw [show (2 : Int) ^ 12 = 4096 from by decide] at hp12
 have hsel687 := own_selpriv (y := Mn8) (z := Mn13) rfl hown (args := #[(.ref a1), (.ref a2), (.int p1), (.int p2), (.int p3), (.ref a3)]) (mvT hZ (own_hw hw 26 rfl)) (Cond.privateMethod_at (mvP hZ (own_hw hw 98 rfl) (args := #[]))) (mvT hZ (own_hw hw 97 rfl)) (by decide)
 obtain ⟨w1, qw1⟩ : ∃ z : Int32, z = ((8 : Int32) * (p3 + (1 : Int32))) := ⟨_, rfl⟩
 refine own_s s₁ (mkF m 9 #[sA a1, sA a2, sI p1, sI p2, sI p3, sA a3, sI w1, sU, sU, sU, sU, sU, sU, sU, sU, sU, sU, sU] []) (fun t k => ?_) ?_
 ·refine XT.bipushV X0.here hx rfl (8 : Int32) (D16 hby 0 rfl) rfl ?_
  refine XS.iload X0.here hx rfl (D16 hby 1 rfl) rfl ?_
  refine XT.iconstV X0.here hx rfl (1 : Int32) (D16 hby 2 rfl) rfl ?_
  refine XS.iadd X0.here hx rfl (D16 hby 3 rfl) rfl ?_
  refine XS.imul X0.here hx rfl (D16 hby 4 rfl) rfl ?_
  refine XS.istore X0.here hx rfl (D16 hby 5 rfl) rfl (l' := #[sA a1, sA a2, sI p1, sI p2, sI p3, sA a3, sI ((8 : Int32) * (p3 + (1 : Int32))), sU, sU, sU, sU, sU, sU, sU, sU, sU, sU, sU]) rfl ?_
  rw [qw1] at k
  exact k
 refine own_s s₁ (mkF m 10 #[sA a1, sA a2, sI p1, sI p2, sI p3, sA a3, sI w1, sU, sU, sU, sU, sU, sU, sU, sU, sU, sU, sU] [(.ref a1)]) (fun t k => ?_) ?_
 ·exact XS.aloadN X0.here hx rfl (D16 hby 6 rfl) rfl rfl k
 obtain ⟨T688, X688, e688, st688⟩ := getF X0 hx hZ hown (host := "") (Or.inl (own_hw hw 66 rfl)) Via.refl e0 F2 (g := (mkF m 10 #[sA a1, sA a2, sI p1, sI p2, sI p3, sA a3, sI w1, sU, sU, sU, sU, sU, sU, sU, sU, sU, sU, sU] [(.ref a1)])) rfl rfl (D16 hby 7 rfl)
 refine OwnWp.step st688 ?_
 refine own_s T688 (mkF m 15 #[sA a1, sA a2, sI p1, sI p2, sI p3, sA a3, sI w1, sI shI, sU, sU, sU, sU, sU, sU, sU, sU, sU, sU] []) (fun t k => ?_) ?_
 ·exact XS.istore X688.here hx rfl (D16 hby 8 rfl) rfl (l' := #[sA a1, sA a2, sI p1, sI p2, sI p3, sA a3, sI w1, sI shI, sU, sU, sU, sU, sU, sU, sU, sU, sU, sU]) rfl k
 have hloop : ∀ (k : Nat) (T689 : State) (h689 : Heap) (L689 : List Loc) (ix : Int32) (ln : Int32) (ll : Nat) (g : Int → Int32) (s8 : Slot) (s9 : Slot) (s10 : Slot) (s11 : Slot) (s12 : Slot) (s13 : Slot) (s14 : Slot) (s15 : Slot) (s16 : Slot) (s17 : Slot) (X689 : Stand p l e Rm6 s m #[(.ref a1), (.ref a2), (.int p1), (.int p2), (.int p3), (.ref a3)] below meth c T689 L689 0 0) (e689 : T689.heap = h689) (N689 : Fr n0 L689) (Z689 : n0 ≤ h689.size) (f690 : Exa Z h689 a1 DTn) (f691 : Fld Z h689 a1 DTn "order" "[I" (.ref od)) (f692 : Fld Z h689 a1 DTn "places" "[I" (.ref pl)) (f693 : Fld Z h689 a1 DTn "shortest" "I" (.int shI)) (f694 : Fld Z h689 a1 DTn "longest" "I" (.int mxI)) (f695 : OwnA Z h689 od .int (256 : Int32) (fun zi => .int (o zi))) (f696 : OwnA Z h689 pl .int (17 : Int32) (fun zi => .int (gp zi))) (f697 : OwnA Z h689 a2 .int tn (fun zi => .int (g zi))) (f698 : OwnA Z h689 a3 .int fn (fun zi => .int (fw zi))) (K699 : Keep h0 h689 [a2]) (hs8 : One s8) (hs9 : One s9) (hs10 : One s10) (hs11 : One s11) (hs12 : One s12) (hs13 : One s13) (hs14 : One s14) (hs15 : One s15) (hs16 : One s16) (hs17 : One s17) (hln : ln.toInt = (ll : Int)) (h1l : sh ≤ ll) (hk : k = Nat.min b mx + 1 - ll) (hls : ll = sh ∨ ll ≤ Nat.min b mx + 1) (hix : ix.toInt = p1.toInt + own_Sum C b ll) (hin : own_inv f g C o b p3.toInt B p1.toInt ix.toInt), OwnWp p e below s Rm6.cells Rm6.slots (Q16A Z a1 a2 p1 p2 p3 a3 od pl o gp shI mxI C b mx sh tn f B fn fw h0 n0) (T689.setTop (mkF m 15 #[sA a1, sA a2, sI ix, sI p2, sI p3, sA a3, sI w1, sI ln, s8, s9, s10, s11, s12, s13, s14, s15, s16, s17] [])) := by
  intro k
  induction k with
  | zero =>
   intro T689 h689 L689 ix ln ll g s8 s9 s10 s11 s12 s13 s14 s15 s16 s17 X689 e689 N689 Z689 f690 f691 f692 f693 f694 f695 f696 f697 f698 K699 hs8 hs9 hs10 hs11 hs12 hs13 hs14 hs15 hs16 hs17 hln h1l hk hls hix hin
   refine own_s T689 (mkF m 19 #[sA a1, sA a2, sI ix, sI p2, sI p3, sA a3, sI w1, sI ln, s8, s9, s10, s11, s12, s13, s14, s15, s16, s17] [(.ref a1), (.int p2), (.int ln)]) (fun t k => ?_) ?_
   ·refine XS.iload X689.here hx rfl (D16 hby 9 rfl) rfl ?_
    refine XS.iloadN X689.here hx rfl (D16 hby 10 rfl) rfl ?_
    exact XS.aloadN X689.here hx rfl (D16 hby 11 rfl) rfl rfl k
   obtain ⟨T700, X700, e700, st700⟩ := getF X689 hx hZ hown (host := "") (Or.inl (own_hw hw 51 rfl)) Via.refl e689 f694 (g := (mkF m 19 #[sA a1, sA a2, sI ix, sI p2, sI p3, sA a3, sI w1, sI ln, s8, s9, s10, s11, s12, s13, s14, s15, s16, s17] [(.ref a1), (.int p2), (.int ln)])) rfl rfl (D16 hby 12 rfl)
   refine OwnWp.step st700 ?_
   show OwnWp p e below s _ _ _ (T700.setTop (mkF m 22 #[sA a1, sA a2, sI ix, sI p2, sI p3, sA a3, sI w1, sI ln, s8, s9, s10, s11, s12, s13, s14, s15, s16, s17] [(.int mxI), (.int p2), (.int ln)]))
   obtain ⟨_, _, ⟨T701, L701, k701, n701⟩, -, X701, ⟨Lc701, hQ701, l701, y701, z701⟩, st701⟩ := Jvm.LawKit.callS X700 hx (y := Mn1) hown (mvT hZ (own_hw hw 95 rfl)) (mvT hZ (own_hw hw 44 rfl)) (mvT hZ (own_hw hw 45 rfl)) (mvT hZ (own_hw hw 46 rfl)) (by decide) (backOf (W := 1) (rm8 l Z a0 hw [] p2 mxI h689 n0 Z689 ) hZ (own_hw hw 46 rfl) (own_hw hw 45 rfl) (by decide) (by decide)) (g := (mkF m 22 #[sA a1, sA a2, sI ix, sI p2, sI p3, sA a3, sI w1, sI ln, s8, s9, s10, s11, s12, s13, s14, s15, s16, s17] [(.int mxI), (.int p2), (.int ln)])) rfl (by rw [hml]; rfl) (argsL := [(.int p2), (.int mxI)]) (rest := [(.int ln)]) (lenOf pd_8 rfl) rfl (by show 2 * 0 + _ ≤ _; exact Nat.le_of_eq rfl) (D16 hby 13 rfl) (fun _ _ => ⟨rfl, e700, (by dsimp only [Pt.cells]; decide), (by dsimp only [Pt.slots]; decide)⟩)
   dsimp only [Pt.U, Pt.locs, Pt.cells, Pt.slots] at X701 l701 y701 z701 st701 hQ701
   subst l701 y701 z701
   obtain ⟨rfl, Nc701, hp701⟩ := hQ701
   have N701 := Fr.app N689 Nc701
   refine OwnWp.step st701 ?_
   have eh701 : T701.heap = h689 := hp701
   by_cases c25_702 : (own_min p2 mxI) < ln
   ·refine own_s T701 (mkF m 330 #[sA a1, sA a2, sI ix, sI p2, sI p3, sA a3, sI w1, sI ln, s8, s9, s10, s11, s12, s13, s14, s15, s16, s17] []) (fun t k => ?_) ?_
    ·exact XS.icmpYes X701.here hx rfl (pc0 := 25) (pc' := 330) rfl (D16 hby 14 rfl) rfl (XT.ii_gt_t c25_702) (by decide) (by decide) k
    rw [Int32.lt_iff_toInt_lt, hmn] at c25_702
    have hse := own_sumend hz hls (by omega)
    refine own_s T701 (mkF m 331 #[sA a1, sA a2, sI ix, sI p2, sI p3, sA a3, sI w1, sI ln, s8, s9, s10, s11, s12, s13, s14, s15, s16, s17] [(.int ix)]) (fun t k => ?_) ?_
    ·exact XS.iloadN X701.here hx rfl (D16 hby 183 rfl) rfl k
    refine OwnWp.retI X701 hx hlk Bd.returns (D16 hby 184 rfl) (by decide) (by decide) ?_
    rw [eh701]
    exact ⟨ix, g, rfl, N701, K699, f697, by rw [hix, hse], hin⟩
   ·refine own_s T701 (mkF m 28 #[sA a1, sA a2, sI ix, sI p2, sI p3, sA a3, sI w1, sI ln, s8, s9, s10, s11, s12, s13, s14, s15, s16, s17] []) (fun t k => ?_) ?_
    ·exact XS.icmpNo X701.here hx rfl (D16 hby 14 rfl) rfl (XT.ii_gt_f c25_702) k
    rw [Int32.lt_iff_toInt_lt, hmn] at c25_702
    exact absurd c25_702 (by omega)
  | succ k ih =>
   intro T689 h689 L689 ix ln ll g s8 s9 s10 s11 s12 s13 s14 s15 s16 s17 X689 e689 N689 Z689 f690 f691 f692 f693 f694 f695 f696 f697 f698 K699 hs8 hs9 hs10 hs11 hs12 hs13 hs14 hs15 hs16 hs17 hln h1l hk hls hix hin
   refine own_s T689 (mkF m 19 #[sA a1, sA a2, sI ix, sI p2, sI p3, sA a3, sI w1, sI ln, s8, s9, s10, s11, s12, s13, s14, s15, s16, s17] [(.ref a1), (.int p2), (.int ln)]) (fun t k => ?_) ?_
   ·refine XS.iload X689.here hx rfl (D16 hby 9 rfl) rfl ?_
    refine XS.iloadN X689.here hx rfl (D16 hby 10 rfl) rfl ?_
    exact XS.aloadN X689.here hx rfl (D16 hby 11 rfl) rfl rfl k
   obtain ⟨T703, X703, e703, st703⟩ := getF X689 hx hZ hown (host := "") (Or.inl (own_hw hw 51 rfl)) Via.refl e689 f694 (g := (mkF m 19 #[sA a1, sA a2, sI ix, sI p2, sI p3, sA a3, sI w1, sI ln, s8, s9, s10, s11, s12, s13, s14, s15, s16, s17] [(.ref a1), (.int p2), (.int ln)])) rfl rfl (D16 hby 12 rfl)
   refine OwnWp.step st703 ?_
   show OwnWp p e below s _ _ _ (T703.setTop (mkF m 22 #[sA a1, sA a2, sI ix, sI p2, sI p3, sA a3, sI w1, sI ln, s8, s9, s10, s11, s12, s13, s14, s15, s16, s17] [(.int mxI), (.int p2), (.int ln)]))
   obtain ⟨_, _, ⟨T704, L704, k704, n704⟩, -, X704, ⟨Lc704, hQ704, l704, y704, z704⟩, st704⟩ := Jvm.LawKit.callS X703 hx (y := Mn1) hown (mvT hZ (own_hw hw 95 rfl)) (mvT hZ (own_hw hw 44 rfl)) (mvT hZ (own_hw hw 45 rfl)) (mvT hZ (own_hw hw 46 rfl)) (by decide) (backOf (W := 1) (rm8 l Z a0 hw [] p2 mxI h689 n0 Z689 ) hZ (own_hw hw 46 rfl) (own_hw hw 45 rfl) (by decide) (by decide)) (g := (mkF m 22 #[sA a1, sA a2, sI ix, sI p2, sI p3, sA a3, sI w1, sI ln, s8, s9, s10, s11, s12, s13, s14, s15, s16, s17] [(.int mxI), (.int p2), (.int ln)])) rfl (by rw [hml]; rfl) (argsL := [(.int p2), (.int mxI)]) (rest := [(.int ln)]) (lenOf pd_8 rfl) rfl (by show 2 * 0 + _ ≤ _; exact Nat.le_of_eq rfl) (D16 hby 13 rfl) (fun _ _ => ⟨rfl, e703, (by dsimp only [Pt.cells]; decide), (by dsimp only [Pt.slots]; decide)⟩)
   dsimp only [Pt.U, Pt.locs, Pt.cells, Pt.slots] at X704 l704 y704 z704 st704 hQ704
   subst l704 y704 z704
   obtain ⟨rfl, Nc704, hp704⟩ := hQ704
   have N704 := Fr.app N689 Nc704
   refine OwnWp.step st704 ?_
   have eh704 : T704.heap = h689 := hp704
   by_cases c25_705 : (own_min p2 mxI) < ln
   ·refine own_s T704 (mkF m 330 #[sA a1, sA a2, sI ix, sI p2, sI p3, sA a3, sI w1, sI ln, s8, s9, s10, s11, s12, s13, s14, s15, s16, s17] []) (fun t k => ?_) ?_
    ·exact XS.icmpYes X704.here hx rfl (pc0 := 25) (pc' := 330) rfl (D16 hby 14 rfl) rfl (XT.ii_gt_t c25_705) (by decide) (by decide) k
    rw [Int32.lt_iff_toInt_lt, hmn] at c25_705
    exact absurd c25_705 (by omega)
   ·refine own_s T704 (mkF m 28 #[sA a1, sA a2, sI ix, sI p2, sI p3, sA a3, sI w1, sI ln, s8, s9, s10, s11, s12, s13, s14, s15, s16, s17] []) (fun t k => ?_) ?_
    ·exact XS.icmpNo X704.here hx rfl (D16 hby 14 rfl) rfl (XT.ii_gt_f c25_705) k
    rw [Int32.lt_iff_toInt_lt, hmn] at c25_705
    refine own_s T704 (mkF m 29 #[sA a1, sA a2, sI ix, sI p2, sI p3, sA a3, sI w1, sI ln, s8, s9, s10, s11, s12, s13, s14, s15, s16, s17] [(.ref a1)]) (fun t k => ?_) ?_
    ·exact XS.aloadN X704.here hx rfl (D16 hby 15 rfl) rfl rfl k
    obtain ⟨T706, X706, e706, st706⟩ := getF X704 hx hZ hown (host := "") (Or.inl (own_hw hw 17 rfl)) Via.refl eh704 f692 (g := (mkF m 29 #[sA a1, sA a2, sI ix, sI p2, sI p3, sA a3, sI w1, sI ln, s8, s9, s10, s11, s12, s13, s14, s15, s16, s17] [(.ref a1)])) rfl rfl (D16 hby 16 rfl)
    refine OwnWp.step st706 ?_
    show OwnWp p e below s _ _ _ (T706.setTop (mkF m 32 #[sA a1, sA a2, sI ix, sI p2, sI p3, sA a3, sI w1, sI ln, s8, s9, s10, s11, s12, s13, s14, s15, s16, s17] [(.ref pl)]))
    obtain ⟨w2, qw2⟩ : ∃ z : Int32, z = (gp ln.toInt) := ⟨_, rfl⟩
    refine own_s T706 (mkF m 37 #[sA a1, sA a2, sI ix, sI p2, sI p3, sA a3, sI w1, sI ln, sI w2, s9, s10, s11, s12, s13, s14, s15, s16, s17] []) (fun t k => ?_) ?_
    ·refine XS.iload X706.here hx rfl (D16 hby 17 rfl) rfl ?_
     refine OwnA.ldI X706 hx hZ e706 f696 (by omega) (by rw [show (17 : Int32).toInt = 17 from rfl]; omega) rfl rfl (D16 hby 18 rfl) ?_
     refine XS.istoreS X706.here hx rfl (D16 hby 19 rfl) rfl (o := s8) rfl hs8 ?_
     rw [qw2] at k
     exact k
    refine own_s T706 (mkF m 38 #[sA a1, sA a2, sI ix, sI p2, sI p3, sA a3, sI w1, sI ln, sI w2, s9, s10, s11, s12, s13, s14, s15, s16, s17] [(.ref a1)]) (fun t k => ?_) ?_
    ·exact XS.aloadN X706.here hx rfl (D16 hby 20 rfl) rfl rfl k
    obtain ⟨T707, X707, e707, st707⟩ := getF X706 hx hZ hown (host := "") (Or.inl (own_hw hw 17 rfl)) Via.refl e706 f692 (g := (mkF m 38 #[sA a1, sA a2, sI ix, sI p2, sI p3, sA a3, sI w1, sI ln, sI w2, s9, s10, s11, s12, s13, s14, s15, s16, s17] [(.ref a1)])) rfl rfl (D16 hby 21 rfl)
    refine OwnWp.step st707 ?_
    show OwnWp p e below s _ _ _ (T707.setTop (mkF m 41 #[sA a1, sA a2, sI ix, sI p2, sI p3, sA a3, sI w1, sI ln, sI w2, s9, s10, s11, s12, s13, s14, s15, s16, s17] [(.ref pl)]))
    obtain ⟨w3, qw3⟩ : ∃ z : Int32, z = (gp (ln + (1 : Int32)).toInt) := ⟨_, rfl⟩
    refine own_s T707 (mkF m 48 #[sA a1, sA a2, sI ix, sI p2, sI p3, sA a3, sI w1, sI ln, sI w2, sI w3, s10, s11, s12, s13, s14, s15, s16, s17] []) (fun t k => ?_) ?_
    ·refine XS.iload X707.here hx rfl (D16 hby 22 rfl) rfl ?_
     refine XT.iconstV X707.here hx rfl (1 : Int32) (D16 hby 23 rfl) rfl ?_
     refine XS.iadd X707.here hx rfl (D16 hby 24 rfl) rfl ?_
     refine OwnA.ldI X707 hx hZ e707 f696 (by rw [own_inc hln (by omega)]; omega) (by rw [own_inc hln (by omega), show (17 : Int32).toInt = 17 from rfl]; omega) rfl rfl (D16 hby 25 rfl) ?_
     refine XS.istoreS X707.here hx rfl (D16 hby 26 rfl) rfl (o := s9) rfl hs9 ?_
     rw [qw3] at k
     exact k
    obtain ⟨w4, qw4⟩ : ∃ z : Int32, z = (p2 - ln) := ⟨_, rfl⟩
    refine own_s T707 (mkF m 54 #[sA a1, sA a2, sI ix, sI p2, sI p3, sA a3, sI w1, sI ln, sI w2, sI w3, sI w4, s11, s12, s13, s14, s15, s16, s17] []) (fun t k => ?_) ?_
    ·refine XS.iloadN X707.here hx rfl (D16 hby 27 rfl) rfl ?_
     refine XS.iload X707.here hx rfl (D16 hby 28 rfl) rfl ?_
     refine XS.isub X707.here hx rfl (D16 hby 29 rfl) rfl ?_
     refine XS.istoreS X707.here hx rfl (D16 hby 30 rfl) rfl (o := s10) rfl hs10 ?_
     rw [qw4] at k
     exact k
    obtain ⟨w5, qw5⟩ : ∃ z : Int32, z = ((1 : Int32) <<< (w4 &&& 31)) := ⟨_, rfl⟩
    refine own_s T707 (mkF m 60 #[sA a1, sA a2, sI ix, sI p2, sI p3, sA a3, sI w1, sI ln, sI w2, sI w3, sI w4, sI w5, s12, s13, s14, s15, s16, s17] []) (fun t k => ?_) ?_
    ·refine XT.iconstV X707.here hx rfl (1 : Int32) (D16 hby 31 rfl) rfl ?_
     refine XS.iload X707.here hx rfl (D16 hby 32 rfl) rfl ?_
     refine XT.ishl X707.here hx rfl (D16 hby 33 rfl) rfl ?_
     refine XS.istoreS X707.here hx rfl (D16 hby 34 rfl) rfl (o := s11) rfl hs11 ?_
     rw [qw5] at k
     exact k
    refine own_s T707 (mkF m 68 #[sA a1, sA a2, sI ix, sI p2, sI p3, sA a3, sI w1, sI ln, sI w2, sI w3, sI w4, sI w5, s12, s13, s14, s15, s16, s17] [(.ref a1), (.int w4)]) (fun t k => ?_) ?_
    ·refine XS.aload X707.here hx rfl (D16 hby 35 rfl) rfl rfl ?_
     refine XS.ifnullNo X707.here hx rfl (D16 hby 36 rfl) rfl ?_
     refine XS.iload X707.here hx rfl (D16 hby 37 rfl) rfl ?_
     exact XS.aloadN X707.here hx rfl (D16 hby 38 rfl) rfl rfl k
    obtain ⟨T708, X708, e708, st708⟩ := getF X707 hx hZ hown (host := "") (Or.inl (own_hw hw 66 rfl)) Via.refl e707 f693 (g := (mkF m 68 #[sA a1, sA a2, sI ix, sI p2, sI p3, sA a3, sI w1, sI ln, sI w2, sI w3, sI w4, sI w5, s12, s13, s14, s15, s16, s17] [(.ref a1), (.int w4)])) rfl rfl (D16 hby 39 rfl)
    refine OwnWp.step st708 ?_
    show OwnWp p e below s _ _ _ (T708.setTop (mkF m 71 #[sA a1, sA a2, sI ix, sI p2, sI p3, sA a3, sI w1, sI ln, sI w2, sI w3, sI w4, sI w5, s12, s13, s14, s15, s16, s17] [(.int shI), (.int w4)]))
    obtain ⟨w6, qw6⟩ : ∃ z : Int32, z = (if w4 < shI then (0 : Int32) else (1 : Int32)) := ⟨_, rfl⟩
    refine own_s T708 (mkF m 79 #[sA a1, sA a2, sI ix, sI p2, sI p3, sA a3, sI w1, sI ln, sI w2, sI w3, sI w4, sI w5, s12, s13, s14, s15, s16, s17] [(.int w6)]) (fun t k => ?_) ?_
    ·by_cases c71_709 : w4 < shI
     ·refine XS.icmpYes X708.here hx rfl (pc0 := 71) (pc' := 78) rfl (D16 hby 40 rfl) rfl (XT.ii_lt_t c71_709) (by decide) (by decide) ?_
      refine XT.iconstV X708.here hx rfl (0 : Int32) (D16 hby 43 rfl) rfl ?_
      rw [show w6 = (0 : Int32) from by rw [qw6, if_pos c71_709]] at k
      exact k
     ·refine XS.icmpNo X708.here hx rfl (D16 hby 40 rfl) rfl (XT.ii_lt_f c71_709) ?_
      refine XT.iconstV X708.here hx rfl (1 : Int32) (D16 hby 41 rfl) rfl ?_
      refine XS.goto X708.here hx rfl (pc0 := 75) (pc' := 79) rfl (D16 hby 42 rfl) (by decide) (by decide) ?_
      rw [show w6 = (1 : Int32) from by rw [qw6, if_neg c71_709]] at k
      exact k
    refine own_s T708 (mkF m 84 #[sA a1, sA a2, sI ix, sI p2, sI p3, sA a3, sI w1, sI ln, sI w2, sI w3, sI w4, sI w5, sI w6, s13, s14, s15, s16, s17] [(.int (4 : Int32)), (.int w4)]) (fun t k => ?_) ?_
    ·refine XS.istoreS X708.here hx rfl (D16 hby 44 rfl) rfl (o := s12) rfl hs12 ?_
     refine XS.iload X708.here hx rfl (D16 hby 45 rfl) rfl ?_
     exact XT.iconstV X708.here hx rfl (4 : Int32) (D16 hby 46 rfl) rfl k
    obtain ⟨hfi, hen, hrs, hcp⟩ := own_head hpl hln (by omega) (by omega) hbt (by omega) hb12 qw2 qw3 qw4 qw5
    have hAl := own_A256 hC0 hA16 (l := ll) (by omega) (by omega)
    have hss := own_Sum_succ C b (l := ll) (by omega)
    have hsl1 := own_Sum_le hCn b (show ll + 1 ≤ Nat.min b mx + 1 by omega)
    have hsl0 := own_Sum_le hCn b (show 0 ≤ ll by omega)
    rw [show own_Sum C b 0 = 0 from rfl] at hsl0
    have hpl2 := own_p2 (b - ll)
    have hAn := own_A_nn hC0 ll
    by_cases c84_710 : w4 < (4 : Int32)
    ·refine own_s T708 (mkF m 87 #[sA a1, sA a2, sI ix, sI p2, sI p3, sA a3, sI w1, sI ln, sI w2, sI w3, sI w4, sI w5, sI w6, s13, s14, s15, s16, s17] []) (fun t k => ?_) ?_
     ·exact XS.icmpNo X708.here hx rfl (D16 hby 47 rfl) rfl (XT.ii_ge_f c84_710) k
     rw [Int32.lt_iff_toInt_lt, show (4 : Int32).toInt = 4 from rfl] at c84_710
     obtain ⟨w7, qw7⟩ : ∃ z : Int32, z = ((w3 - w2) <<< (w4 &&& 31)) := ⟨_, rfl⟩
     refine own_s T708 (mkF m 97 #[sA a1, sA a2, sI ix, sI p2, sI p3, sA a3, sI w1, sI ln, sI w2, sI w3, sI w4, sI w5, sI w6, sI w7, s14, s15, s16, s17] []) (fun t k => ?_) ?_
     ·refine XS.iload X708.here hx rfl (D16 hby 48 rfl) rfl ?_
      refine XS.iload X708.here hx rfl (D16 hby 49 rfl) rfl ?_
      refine XS.isub X708.here hx rfl (D16 hby 50 rfl) rfl ?_
      refine XS.iload X708.here hx rfl (D16 hby 51 rfl) rfl ?_
      refine XT.ishl X708.here hx rfl (D16 hby 52 rfl) rfl ?_
      refine XS.istoreS X708.here hx rfl (D16 hby 53 rfl) rfl (o := s13) rfl hs13 ?_
      rw [qw7] at k
      exact k
     obtain ⟨w8, qw8⟩ : ∃ z : Int32, z = (ln ||| (64 : Int32)) := ⟨_, rfl⟩
     refine own_s T708 (mkF m 104 #[sA a1, sA a2, sI ix, sI p2, sI p3, sA a3, sI w1, sI ln, sI w2, sI w3, sI w4, sI w5, sI w6, sI w7, sI w8, s15, s16, s17] []) (fun t k => ?_) ?_
     ·refine XS.iload X708.here hx rfl (D16 hby 54 rfl) rfl ?_
      refine XT.bipushV X708.here hx rfl (64 : Int32) (D16 hby 55 rfl) rfl ?_
      refine XT.ior X708.here hx rfl (D16 hby 56 rfl) rfl ?_
      refine XS.istoreS X708.here hx rfl (D16 hby 57 rfl) rfl (o := s14) rfl hs14 ?_
      rw [qw8] at k
      exact k
     obtain ⟨w9, qw9⟩ : ∃ z : Int32, z = (w5 - (1 : Int32)) := ⟨_, rfl⟩
     refine own_s T708 (mkF m 110 #[sA a1, sA a2, sI ix, sI p2, sI p3, sA a3, sI w1, sI ln, sI w2, sI w3, sI w4, sI w5, sI w6, sI w7, sI w8, sI w9, s16, s17] []) (fun t k => ?_) ?_
     ·refine XS.iload X708.here hx rfl (D16 hby 58 rfl) rfl ?_
      refine XT.iconstV X708.here hx rfl (1 : Int32) (D16 hby 59 rfl) rfl ?_
      refine XS.isub X708.here hx rfl (D16 hby 60 rfl) rfl ?_
      refine XS.istoreS X708.here hx rfl (D16 hby 61 rfl) rfl (o := s15) rfl hs15 ?_
      rw [qw9] at k
      exact k
     refine own_s T708 (mkF m 113 #[sA a1, sA a2, sI ix, sI p2, sI p3, sA a3, sI w1, sI ln, sI w2, sI w3, sI w4, sI w5, sI w6, sI w7, sI w8, sI w9, sI (0 : Int32), s17] []) (fun t k => ?_) ?_
     ·refine XT.iconstV X708.here hx rfl (0 : Int32) (D16 hby 62 rfl) rfl ?_
      exact XS.istoreS X708.here hx rfl (D16 hby 63 rfl) rfl (o := s16) rfl hs16 k
     have hcn := own_cntv hC0 hfi hen hAl hrs c84_710 qw7
     have hl2 : ∀ (k : Nat) (T711 : State) (h711 : Heap) (L711 : List Loc) (j : Int32) (jn : Nat) (g2x : Int → Int32) (t17 : Slot) (X711 : Stand p l e Rm6 s m #[(.ref a1), (.ref a2), (.int p1), (.int p2), (.int p3), (.ref a3)] below meth c T711 L711 0 0) (e711 : T711.heap = h711) (N711 : Fr n0 L711) (Z711 : n0 ≤ h711.size) (f712 : Exa Z h711 a1 DTn) (f713 : Fld Z h711 a1 DTn "order" "[I" (.ref od)) (f714 : Fld Z h711 a1 DTn "places" "[I" (.ref pl)) (f715 : Fld Z h711 a1 DTn "shortest" "I" (.int shI)) (f716 : Fld Z h711 a1 DTn "longest" "I" (.int mxI)) (f717 : OwnA Z h711 od .int (256 : Int32) (fun zi => .int (o zi))) (f718 : OwnA Z h711 pl .int (17 : Int32) (fun zi => .int (gp zi))) (f719 : OwnA Z h711 a2 .int tn (fun zi => .int (g2x zi))) (f720 : OwnA Z h711 a3 .int fn (fun zi => .int (fw zi))) (K721 : Keep h0 h711 [a2]) (ht17 : One t17) (hj : j.toInt = (jn : Int)) (hjk : (jn : Int) + (k : Int) = C (ll : Int) * 2 ^ (b - ll)) (hin2 : own_inv f g2x C o b p3.toInt B p1.toInt (ix.toInt + (jn : Int))), OwnWp p e below s Rm6.cells Rm6.slots (Q16A Z a1 a2 p1 p2 p3 a3 od pl o gp shI mxI C b mx sh tn f B fn fw h0 n0) (T711.setTop (mkF m 113 #[sA a1, sA a2, sI ix, sI p2, sI p3, sA a3, sI w1, sI ln, sI w2, sI w3, sI w4, sI w5, sI w6, sI w7, sI w8, sI w9, sI j, t17] [])) := by
      intro k
      induction k with
      | zero =>
       intro T711 h711 L711 j jn g2x t17 X711 e711 N711 Z711 f712 f713 f714 f715 f716 f717 f718 f719 f720 K721 ht17 hj hjk hin2
       refine own_s T711 (mkF m 117 #[sA a1, sA a2, sI ix, sI p2, sI p3, sA a3, sI w1, sI ln, sI w2, sI w3, sI w4, sI w5, sI w6, sI w7, sI w8, sI w9, sI j, t17] [(.int w7), (.int j)]) (fun t k => ?_) ?_
       ·refine XS.iload X711.here hx rfl (D16 hby 64 rfl) rfl ?_
        exact XS.iload X711.here hx rfl (D16 hby 65 rfl) rfl k
       by_cases c117_722 : j < w7
       ·refine own_s T711 (mkF m 120 #[sA a1, sA a2, sI ix, sI p2, sI p3, sA a3, sI w1, sI ln, sI w2, sI w3, sI w4, sI w5, sI w6, sI w7, sI w8, sI w9, sI j, t17] []) (fun t k => ?_) ?_
        ·exact XS.icmpNo X711.here hx rfl (D16 hby 66 rfl) rfl (XT.ii_ge_f c117_722) k
        rw [Int32.lt_iff_toInt_lt, hcn] at c117_722
        exact absurd c117_722 (by omega)
       ·refine own_s T711 (mkF m 177 #[sA a1, sA a2, sI ix, sI p2, sI p3, sA a3, sI w1, sI ln, sI w2, sI w3, sI w4, sI w5, sI w6, sI w7, sI w8, sI w9, sI j, t17] []) (fun t k => ?_) ?_
        ·exact XS.icmpYes X711.here hx rfl (pc0 := 117) (pc' := 177) rfl (D16 hby 66 rfl) rfl (XT.ii_ge_t c117_722) (by decide) (by decide) k
        rw [Int32.lt_iff_toInt_lt, hcn] at c117_722
        obtain ⟨w10, qw10⟩ : ∃ z : Int32, z = (ix + w7) := ⟨_, rfl⟩
        refine own_s T711 (mkF m 182 #[sA a1, sA a2, sI w10, sI p2, sI p3, sA a3, sI w1, sI ln, sI w2, sI w3, sI w4, sI w5, sI w6, sI w7, sI w8, sI w9, sI j, t17] []) (fun t k => ?_) ?_
        ·refine XS.iloadN X711.here hx rfl (D16 hby 100 rfl) rfl ?_
         refine XS.iload X711.here hx rfl (D16 hby 101 rfl) rfl ?_
         refine XS.iadd X711.here hx rfl (D16 hby 102 rfl) rfl ?_
         refine XS.istoreN X711.here hx rfl (D16 hby 103 rfl) rfl (l' := #[sA a1, sA a2, sI (ix + w7), sI p2, sI p3, sA a3, sI w1, sI ln, sI w2, sI w3, sI w4, sI w5, sI w6, sI w7, sI w8, sI w9, sI j, t17]) rfl ?_
         rw [qw10] at k
         exact k
        obtain ⟨w11, qw11⟩ : ∃ z : Int32, z = (ln + (1 : Int32)) := ⟨_, rfl⟩
        refine own_s T711 (mkF m 327 #[sA a1, sA a2, sI w10, sI p2, sI p3, sA a3, sI w1, sI w11, sI w2, sI w3, sI w4, sI w5, sI w6, sI w7, sI w8, sI w9, sI j, t17] []) (fun t k => ?_) ?_
        ·refine XS.goto X711.here hx rfl (pc0 := 182) (pc' := 324) rfl (D16 hby 104 rfl) (by decide) (by decide) ?_
         refine XT.iincV X711.here hx rfl (1 : Int32) (D16 hby 181 rfl) rfl rfl (l' := #[sA a1, sA a2, sI w10, sI p2, sI p3, sA a3, sI w1, sI (ln + (1 : Int32)), sI w2, sI w3, sI w4, sI w5, sI w6, sI w7, sI w8, sI w9, sI j, t17]) rfl ?_
         rw [qw11] at k
         exact k
        refine own_s T711 (mkF m 15 #[sA a1, sA a2, sI w10, sI p2, sI p3, sA a3, sI w1, sI w11, sI w2, sI w3, sI w4, sI w5, sI w6, sI w7, sI w8, sI w9, sI j, t17] []) (fun t k => ?_) ?_
        ·exact XS.goto X711.here hx rfl (pc0 := 327) (pc' := 15) rfl (D16 hby 182 rfl) (by decide) (by decide) k
        have u1 : w11.toInt = ((ll + 1 : Nat) : Int) := by rw [qw11]; exact own_inc hln (by omega)
        exact ih  T711 h711 _ w10 w11 (ll + 1) g2x _ _ _ _ _ _ _ _ _ t17 X711 e711 N711 Z711 f712 f713 f714 f715 f716 f717 f718 f719 f720 K721 (One.val rfl) (One.val rfl) (One.val rfl) (One.val rfl) (One.val rfl) (One.val rfl) (One.val rfl) (One.val rfl) (One.val rfl) ht17 u1 (by omega) (by omega) (Or.inr (by omega)) (by rw [qw10, own_add (by omega) (by omega), hcn]; omega) (by rw [show w10.toInt = ix.toInt + (jn : Int) from by rw [qw10, own_add (by omega) (by omega), hcn]; omega]; exact hin2)
      | succ k ih =>
       intro T711 h711 L711 j jn g2x t17 X711 e711 N711 Z711 f712 f713 f714 f715 f716 f717 f718 f719 f720 K721 ht17 hj hjk hin2
       refine own_s T711 (mkF m 117 #[sA a1, sA a2, sI ix, sI p2, sI p3, sA a3, sI w1, sI ln, sI w2, sI w3, sI w4, sI w5, sI w6, sI w7, sI w8, sI w9, sI j, t17] [(.int w7), (.int j)]) (fun t k => ?_) ?_
       ·refine XS.iload X711.here hx rfl (D16 hby 64 rfl) rfl ?_
        exact XS.iload X711.here hx rfl (D16 hby 65 rfl) rfl k
       by_cases c117_723 : j < w7
       ·refine own_s T711 (mkF m 120 #[sA a1, sA a2, sI ix, sI p2, sI p3, sA a3, sI w1, sI ln, sI w2, sI w3, sI w4, sI w5, sI w6, sI w7, sI w8, sI w9, sI j, t17] []) (fun t k => ?_) ?_
        ·exact XS.icmpNo X711.here hx rfl (D16 hby 66 rfl) rfl (XT.ii_ge_f c117_723) k
        rw [Int32.lt_iff_toInt_lt, hcn] at c117_723
        obtain ⟨a1x, a2x, a3x, a4x, a5x⟩ := own_sh_in hC0 hfi hAl hrs c84_710 hj (show (jn : Int) < C (ll : Int) * 2 ^ (b - ll) by omega)
        have hixj : (ix + j).toInt = ix.toInt + (jn : Int) := by rw [own_add (by omega) (by omega), hj]
        refine own_s T711 (mkF m 123 #[sA a1, sA a2, sI ix, sI p2, sI p3, sA a3, sI w1, sI ln, sI w2, sI w3, sI w4, sI w5, sI w6, sI w7, sI w8, sI w9, sI j, t17] [(.ref a1), (.int w8)]) (fun t k => ?_) ?_
        ·refine XS.iload X711.here hx rfl (D16 hby 67 rfl) rfl ?_
         exact XS.aloadN X711.here hx rfl (D16 hby 68 rfl) rfl rfl k
        obtain ⟨T724, X724, e724, st724⟩ := getF X711 hx hZ hown (host := "") (Or.inl (own_hw hw 13 rfl)) Via.refl e711 f713 (g := (mkF m 123 #[sA a1, sA a2, sI ix, sI p2, sI p3, sA a3, sI w1, sI ln, sI w2, sI w3, sI w4, sI w5, sI w6, sI w7, sI w8, sI w9, sI j, t17] [(.ref a1), (.int w8)])) rfl rfl (D16 hby 69 rfl)
        refine OwnWp.step st724 ?_
        show OwnWp p e below s _ _ _ (T724.setTop (mkF m 126 #[sA a1, sA a2, sI ix, sI p2, sI p3, sA a3, sI w1, sI ln, sI w2, sI w3, sI w4, sI w5, sI w6, sI w7, sI w8, sI w9, sI j, t17] [(.ref od), (.int w8)]))
        obtain ⟨w10, qw10⟩ : ∃ z : Int32, z = (w8 ||| ((o (w2 + (XT.ushr j w4)).toInt) <<< (w1 &&& 31))) := ⟨_, rfl⟩
        refine own_s T724 (mkF m 141 #[sA a1, sA a2, sI ix, sI p2, sI p3, sA a3, sI w1, sI ln, sI w2, sI w3, sI w4, sI w5, sI w6, sI w7, sI w8, sI w9, sI j, sI w10] []) (fun t k => ?_) ?_
        ·refine XS.iload X724.here hx rfl (D16 hby 70 rfl) rfl ?_
         refine XS.iload X724.here hx rfl (D16 hby 71 rfl) rfl ?_
         refine XS.iload X724.here hx rfl (D16 hby 72 rfl) rfl ?_
         refine XT.iushr X724.here hx rfl (D16 hby 73 rfl) rfl ?_
         refine XS.iadd X724.here hx rfl (D16 hby 74 rfl) rfl ?_
         refine OwnA.ldI X724 hx hZ e724 f717 a1x (by rw [show (256 : Int32).toInt = 256 from rfl]; exact a2x) rfl rfl (D16 hby 75 rfl) ?_
         refine XS.iload X724.here hx rfl (D16 hby 76 rfl) rfl ?_
         refine XT.ishl X724.here hx rfl (D16 hby 77 rfl) rfl ?_
         refine XT.ior X724.here hx rfl (D16 hby 78 rfl) rfl ?_
         refine XS.istoreS X724.here hx rfl (D16 hby 79 rfl) rfl (o := t17) rfl ht17 ?_
         rw [qw10] at k
         exact k
        refine own_s T724 (mkF m 148 #[sA a1, sA a2, sI ix, sI p2, sI p3, sA a3, sI w1, sI ln, sI w2, sI w3, sI w4, sI w5, sI w6, sI w7, sI w8, sI w9, sI j, sI w10] [(.int w6), (.int (ix + j)), (.ref a2)]) (fun t k => ?_) ?_
        ·refine XS.aloadN X724.here hx rfl (D16 hby 80 rfl) rfl rfl ?_
         refine XS.iloadN X724.here hx rfl (D16 hby 81 rfl) rfl ?_
         refine XS.iload X724.here hx rfl (D16 hby 82 rfl) rfl ?_
         refine XS.iadd X724.here hx rfl (D16 hby 83 rfl) rfl ?_
         exact XS.iload X724.here hx rfl (D16 hby 84 rfl) rfl k
        have hw17 : w10 = own_code (o (w2 + (XT.ushr j w4)).toInt) ln p3 := by rw [qw10, qw8, qw1]; rfl
        by_cases c148_725 : w6 = (0 : Int32)
        ·refine own_s T724 (mkF m 168 #[sA a1, sA a2, sI ix, sI p2, sI p3, sA a3, sI w1, sI ln, sI w2, sI w3, sI w4, sI w5, sI w6, sI w7, sI w8, sI w9, sI j, sI w10] [(.int (ix + j)), (.ref a2)]) (fun t k => ?_) ?_
         ·exact XS.ifYes X724.here hx rfl (pc0 := 148) (pc' := 168) rfl (D16 hby 85 rfl) rfl (XT.i0_eq_t c148_725) (by decide) (by decide) k
         refine own_s T724 (mkF m 170 #[sA a1, sA a2, sI ix, sI p2, sI p3, sA a3, sI w1, sI ln, sI w2, sI w3, sI w4, sI w5, sI w6, sI w7, sI w8, sI w9, sI j, sI w10] [(.int w10), (.int (ix + j)), (.ref a2)]) (fun t k => ?_) ?_
         ·exact XS.iload X724.here hx rfl (D16 hby 96 rfl) rfl k
         obtain ⟨T726, h726, L726, X726, e726, N726, K726, F726, st726⟩ := OwnA.stI X724 hx hZ e724 N711 g2 f719 (by rw [hixj]; omega) (by rw [hixj]; omega) (g := (mkF m 170 #[sA a1, sA a2, sI ix, sI p2, sI p3, sA a3, sI w1, sI ln, sI w2, sI w3, sI w4, sI w5, sI w6, sI w7, sI w8, sI w9, sI j, sI w10] [(.int w10), (.int (ix + j)), (.ref a2)])) rfl rfl (D16 hby 97 rfl)
         refine OwnWp.step st726 ?_
         have Z726 : n0 ≤ h726.size := Nat.le_trans Z711 K726.1
         have f727 := Exa.keep f712 K726
         have f728 := Fld.keep f713 K726 (ninS n1 nin0)
         have f729 := Fld.keep f714 K726 (ninS n1 nin0)
         have f730 := Fld.keep f715 K726 (ninS n1 nin0)
         have f731 := Fld.keep f716 K726 (ninS n1 nin0)
         have f732 := OwnA.keep f717 K726 (ninS n2 nin0)
         have f733 := OwnA.keep f718 K726 (ninS n3 nin0)
         have f734 := OwnA.keep f720 K726 (ninS n4 nin0)
         have F735 : OwnA Z h726 a2 .int tn (fun zi => .int ((ownUpd g2x (ix + j).toInt w10) zi)) := F726.congr (fun zi _ _ => by exact ownUpd_int g2x _ _ zi)
         have K736 := Keep.trans K721 K726 (allS (Or.inl (List.mem_of_getElem? (i := 0) rfl)) all0)
         show OwnWp p e below s _ _ _ (T726.setTop (mkF m 171 #[sA a1, sA a2, sI ix, sI p2, sI p3, sA a3, sI w1, sI ln, sI w2, sI w3, sI w4, sI w5, sI w6, sI w7, sI w8, sI w9, sI j, sI w10] []))
         have hin3 : own_inv f (ownUpd g2x (ix + j).toInt w10) C o b p3.toInt B p1.toInt (ix.toInt + ((jn + 1 : Nat) : Int)) := by rw [hixj, show ix.toInt + ((jn + 1 : Nat) : Int) = ix.toInt + (jn : Int) + 1 from by omega]; exact own_inv_upd hin2 (own_sh_good hCn (by omega) a4x a5x (by omega) (by rw [hw17]; exact own_isval0 hB0 hbo a3x a1x a2x hln (by omega) hsl))
         obtain ⟨w11, qw11⟩ : ∃ z : Int32, z = (j + (1 : Int32)) := ⟨_, rfl⟩
         refine own_s T726 (mkF m 174 #[sA a1, sA a2, sI ix, sI p2, sI p3, sA a3, sI w1, sI ln, sI w2, sI w3, sI w4, sI w5, sI w6, sI w7, sI w8, sI w9, sI w11, sI w10] []) (fun t k => ?_) ?_
         ·refine XT.iincV X726.here hx rfl (1 : Int32) (D16 hby 98 rfl) rfl rfl (l' := #[sA a1, sA a2, sI ix, sI p2, sI p3, sA a3, sI w1, sI ln, sI w2, sI w3, sI w4, sI w5, sI w6, sI w7, sI w8, sI w9, sI (j + (1 : Int32)), sI w10]) rfl ?_
          rw [qw11] at k
          exact k
         refine own_s T726 (mkF m 113 #[sA a1, sA a2, sI ix, sI p2, sI p3, sA a3, sI w1, sI ln, sI w2, sI w3, sI w4, sI w5, sI w6, sI w7, sI w8, sI w9, sI w11, sI w10] []) (fun t k => ?_) ?_
         ·exact XS.goto X726.here hx rfl (pc0 := 174) (pc' := 113) rfl (D16 hby 99 rfl) (by decide) (by decide) k
         have hj2 : w11.toInt = ((jn + 1 : Nat) : Int) := by rw [qw11]; exact own_inc hj (by omega)
         exact ih  T726 h726 _ w11 (jn + 1) (ownUpd g2x (ix + j).toInt w10) _ X726 e726 N726 Z726 f727 f728 f729 f730 f731 f732 f733 F735 f734 K736 (One.val rfl) hj2 (by omega) hin3
        ·refine own_s T724 (mkF m 151 #[sA a1, sA a2, sI ix, sI p2, sI p3, sA a3, sI w1, sI ln, sI w2, sI w3, sI w4, sI w5, sI w6, sI w7, sI w8, sI w9, sI j, sI w10] [(.int (ix + j)), (.ref a2)]) (fun t k => ?_) ?_
         ·exact XS.ifNo X724.here hx rfl (D16 hby 85 rfl) rfl (XT.i0_eq_f c148_725) k
         refine own_s T724 (mkF m 170 #[sA a1, sA a2, sI ix, sI p2, sI p3, sA a3, sI w1, sI ln, sI w2, sI w3, sI w4, sI w5, sI w6, sI w7, sI w8, sI w9, sI j, sI w10] [(.int (w10 + (fw (w5 + (j &&& w9)).toInt))), (.int (ix + j)), (.ref a2)]) (fun t k => ?_) ?_
         ·refine XS.iload X724.here hx rfl (D16 hby 86 rfl) rfl ?_
          refine XS.aload X724.here hx rfl (D16 hby 87 rfl) rfl rfl ?_
          refine XS.iload X724.here hx rfl (D16 hby 88 rfl) rfl ?_
          refine XS.iload X724.here hx rfl (D16 hby 89 rfl) rfl ?_
          refine XS.iload X724.here hx rfl (D16 hby 90 rfl) rfl ?_
          refine XS.iand X724.here hx rfl (D16 hby 91 rfl) rfl ?_
          refine XS.iadd X724.here hx rfl (D16 hby 92 rfl) rfl ?_
          refine OwnA.ldI X724 hx hZ e724 f720 (own_fw_in (fn := fn.toInt) (l := ll) (by omega) (by omega) hb12 hrs c84_710 hcp qw9 hj hfn).1 (own_fw_in (fn := fn.toInt) (l := ll) (by omega) (by omega) hb12 hrs c84_710 hcp qw9 hj hfn).2 rfl rfl (D16 hby 93 rfl) ?_
          refine XS.iadd X724.here hx rfl (D16 hby 94 rfl) rfl ?_
          exact XS.goto X724.here hx rfl (pc0 := 165) (pc' := 170) rfl (D16 hby 95 rfl) (by decide) (by decide) k
         obtain ⟨T737, h737, L737, X737, e737, N737, K737, F737, st737⟩ := OwnA.stI X724 hx hZ e724 N711 g2 f719 (by rw [hixj]; omega) (by rw [hixj]; omega) (g := (mkF m 170 #[sA a1, sA a2, sI ix, sI p2, sI p3, sA a3, sI w1, sI ln, sI w2, sI w3, sI w4, sI w5, sI w6, sI w7, sI w8, sI w9, sI j, sI w10] [(.int (w10 + (fw (w5 + (j &&& w9)).toInt))), (.int (ix + j)), (.ref a2)])) rfl rfl (D16 hby 97 rfl)
         refine OwnWp.step st737 ?_
         have Z737 : n0 ≤ h737.size := Nat.le_trans Z711 K737.1
         have f738 := Exa.keep f712 K737
         have f739 := Fld.keep f713 K737 (ninS n1 nin0)
         have f740 := Fld.keep f714 K737 (ninS n1 nin0)
         have f741 := Fld.keep f715 K737 (ninS n1 nin0)
         have f742 := Fld.keep f716 K737 (ninS n1 nin0)
         have f743 := OwnA.keep f717 K737 (ninS n2 nin0)
         have f744 := OwnA.keep f718 K737 (ninS n3 nin0)
         have f745 := OwnA.keep f720 K737 (ninS n4 nin0)
         have F746 : OwnA Z h737 a2 .int tn (fun zi => .int ((ownUpd g2x (ix + j).toInt (w10 + (fw (w5 + (j &&& w9)).toInt))) zi)) := F737.congr (fun zi _ _ => by exact ownUpd_int g2x _ _ zi)
         have K747 := Keep.trans K721 K737 (allS (Or.inl (List.mem_of_getElem? (i := 0) rfl)) all0)
         show OwnWp p e below s _ _ _ (T737.setTop (mkF m 171 #[sA a1, sA a2, sI ix, sI p2, sI p3, sA a3, sI w1, sI ln, sI w2, sI w3, sI w4, sI w5, sI w6, sI w7, sI w8, sI w9, sI j, sI w10] []))
         have hin3 : own_inv f (ownUpd g2x (ix + j).toInt (w10 + (fw (w5 + (j &&& w9)).toInt))) C o b p3.toInt B p1.toInt (ix.toInt + ((jn + 1 : Nat) : Int)) := by rw [hixj, show ix.toInt + ((jn + 1 : Nat) : Int) = ix.toInt + (jn : Int) + 1 from by omega]; exact own_inv_upd hin2 (own_sh_good hCn (by omega) a4x a5x (by omega) (by rw [hw17]; exact own_isval1 hB hbo a3x a1x a2x hln (by omega) hsl (hfw _ (own_fw_in (fn := fn.toInt) (l := ll) (by omega) (by omega) hb12 hrs c84_710 hcp qw9 hj hfn).1 (own_fw_in (fn := fn.toInt) (l := ll) (by omega) (by omega) hb12 hrs c84_710 hcp qw9 hj hfn).2)))
         obtain ⟨w11, qw11⟩ : ∃ z : Int32, z = (j + (1 : Int32)) := ⟨_, rfl⟩
         refine own_s T737 (mkF m 174 #[sA a1, sA a2, sI ix, sI p2, sI p3, sA a3, sI w1, sI ln, sI w2, sI w3, sI w4, sI w5, sI w6, sI w7, sI w8, sI w9, sI w11, sI w10] []) (fun t k => ?_) ?_
         ·refine XT.iincV X737.here hx rfl (1 : Int32) (D16 hby 98 rfl) rfl rfl (l' := #[sA a1, sA a2, sI ix, sI p2, sI p3, sA a3, sI w1, sI ln, sI w2, sI w3, sI w4, sI w5, sI w6, sI w7, sI w8, sI w9, sI (j + (1 : Int32)), sI w10]) rfl ?_
          rw [qw11] at k
          exact k
         refine own_s T737 (mkF m 113 #[sA a1, sA a2, sI ix, sI p2, sI p3, sA a3, sI w1, sI ln, sI w2, sI w3, sI w4, sI w5, sI w6, sI w7, sI w8, sI w9, sI w11, sI w10] []) (fun t k => ?_) ?_
         ·exact XS.goto X737.here hx rfl (pc0 := 174) (pc' := 113) rfl (D16 hby 99 rfl) (by decide) (by decide) k
         have hj2 : w11.toInt = ((jn + 1 : Nat) : Int) := by rw [qw11]; exact own_inc hj (by omega)
         exact ih  T737 h737 _ w11 (jn + 1) (ownUpd g2x (ix + j).toInt (w10 + (fw (w5 + (j &&& w9)).toInt))) _ X737 e737 N737 Z737 f738 f739 f740 f741 f742 f743 f744 F746 f745 K747 (One.val rfl) hj2 (by omega) hin3
       ·refine own_s T711 (mkF m 177 #[sA a1, sA a2, sI ix, sI p2, sI p3, sA a3, sI w1, sI ln, sI w2, sI w3, sI w4, sI w5, sI w6, sI w7, sI w8, sI w9, sI j, t17] []) (fun t k => ?_) ?_
        ·exact XS.icmpYes X711.here hx rfl (pc0 := 117) (pc' := 177) rfl (D16 hby 66 rfl) rfl (XT.ii_ge_t c117_723) (by decide) (by decide) k
        rw [Int32.lt_iff_toInt_lt, hcn] at c117_723
        exact absurd c117_723 (by omega)
     exact hl2 (C (ll : Int) * 2 ^ (b - ll)).toNat T708 h689 _ (0 : Int32) 0 g s17 X708 e708 N704 Z689 f690 f691 f692 f693 f694 f695 f696 f697 f698 K699 hs17 (by decide) (by have := Int.mul_nonneg (hCn ll) (show (0 : Int) ≤ 2 ^ (b - ll) by omega); omega) (by rw [show ix.toInt + ((0 : Nat) : Int) = ix.toInt from by omega]; exact hin)
    ·refine own_s T708 (mkF m 185 #[sA a1, sA a2, sI ix, sI p2, sI p3, sA a3, sI w1, sI ln, sI w2, sI w3, sI w4, sI w5, sI w6, s13, s14, s15, s16, s17] []) (fun t k => ?_) ?_
     ·exact XS.icmpYes X708.here hx rfl (pc0 := 84) (pc' := 185) rfl (D16 hby 47 rfl) rfl (XT.ii_ge_t c84_710) (by decide) (by decide) k
     rw [Int32.lt_iff_toInt_lt, show (4 : Int32).toInt = 4 from rfl] at c84_710
     refine own_s T708 (mkF m 189 #[sA a1, sA a2, sI ix, sI p2, sI p3, sA a3, sI w1, sI ln, sI w2, sI w3, sI w4, sI w5, sI w6, sI w2, s14, s15, s16, s17] []) (fun t k => ?_) ?_
     ·refine XS.iload X708.here hx rfl (D16 hby 105 rfl) rfl ?_
      exact XS.istoreS X708.here hx rfl (D16 hby 106 rfl) rfl (o := s13) rfl hs13 k
     have hl3 : ∀ (k : Nat) (T748 : State) (h748 : Heap) (L748 : List Loc) (kk : Int32) (ix3 : Int32) (r : Nat) (g3 : Int → Int32) (t14 : Slot) (t15 : Slot) (X748 : Stand p l e Rm6 s m #[(.ref a1), (.ref a2), (.int p1), (.int p2), (.int p3), (.ref a3)] below meth c T748 L748 0 0) (e748 : T748.heap = h748) (N748 : Fr n0 L748) (Z748 : n0 ≤ h748.size) (f749 : Exa Z h748 a1 DTn) (f750 : Fld Z h748 a1 DTn "order" "[I" (.ref od)) (f751 : Fld Z h748 a1 DTn "places" "[I" (.ref pl)) (f752 : Fld Z h748 a1 DTn "shortest" "I" (.int shI)) (f753 : Fld Z h748 a1 DTn "longest" "I" (.int mxI)) (f754 : OwnA Z h748 od .int (256 : Int32) (fun zi => .int (o zi))) (f755 : OwnA Z h748 pl .int (17 : Int32) (fun zi => .int (gp zi))) (f756 : OwnA Z h748 a2 .int tn (fun zi => .int (g3 zi))) (f757 : OwnA Z h748 a3 .int fn (fun zi => .int (fw zi))) (K758 : Keep h0 h748 [a2]) (ht14 : One t14) (ht15 : One t15) (hkk : kk.toInt = own_A C ll + (r : Int)) (hrk : (r : Int) + (k : Int) = C (ll : Int)) (hix3 : ix3.toInt = p1.toInt + own_Sum C b ll + (r : Int) * 2 ^ (b - ll)) (hin3 : own_inv f g3 C o b p3.toInt B p1.toInt ix3.toInt), OwnWp p e below s Rm6.cells Rm6.slots (Q16A Z a1 a2 p1 p2 p3 a3 od pl o gp shI mxI C b mx sh tn f B fn fw h0 n0) (T748.setTop (mkF m 189 #[sA a1, sA a2, sI ix3, sI p2, sI p3, sA a3, sI w1, sI ln, sI w2, sI w3, sI w4, sI w5, sI w6, sI kk, t14, t15, s16, s17] [])) := by
      intro k
      induction k with
      | zero =>
       intro T748 h748 L748 kk ix3 r g3 t14 t15 X748 e748 N748 Z748 f749 f750 f751 f752 f753 f754 f755 f756 f757 K758 ht14 ht15 hkk hrk hix3 hin3
       refine own_s T748 (mkF m 193 #[sA a1, sA a2, sI ix3, sI p2, sI p3, sA a3, sI w1, sI ln, sI w2, sI w3, sI w4, sI w5, sI w6, sI kk, t14, t15, s16, s17] [(.int w3), (.int kk)]) (fun t k => ?_) ?_
       ·refine XS.iload X748.here hx rfl (D16 hby 107 rfl) rfl ?_
        exact XS.iload X748.here hx rfl (D16 hby 108 rfl) rfl k
       by_cases c193_759 : kk < w3
       ·refine own_s T748 (mkF m 196 #[sA a1, sA a2, sI ix3, sI p2, sI p3, sA a3, sI w1, sI ln, sI w2, sI w3, sI w4, sI w5, sI w6, sI kk, t14, t15, s16, s17] []) (fun t k => ?_) ?_
        ·exact XS.icmpNo X748.here hx rfl (D16 hby 109 rfl) rfl (XT.ii_ge_f c193_759) k
        rw [Int32.lt_iff_toInt_lt] at c193_759
        exact absurd c193_759 (by omega)
       ·refine own_s T748 (mkF m 324 #[sA a1, sA a2, sI ix3, sI p2, sI p3, sA a3, sI w1, sI ln, sI w2, sI w3, sI w4, sI w5, sI w6, sI kk, t14, t15, s16, s17] []) (fun t k => ?_) ?_
        ·exact XS.icmpYes X748.here hx rfl (pc0 := 193) (pc' := 324) rfl (D16 hby 109 rfl) rfl (XT.ii_ge_t c193_759) (by decide) (by decide) k
        rw [Int32.lt_iff_toInt_lt] at c193_759
        obtain ⟨w7, qw7⟩ : ∃ z : Int32, z = (ln + (1 : Int32)) := ⟨_, rfl⟩
        refine own_s T748 (mkF m 327 #[sA a1, sA a2, sI ix3, sI p2, sI p3, sA a3, sI w1, sI w7, sI w2, sI w3, sI w4, sI w5, sI w6, sI kk, t14, t15, s16, s17] []) (fun t k => ?_) ?_
        ·refine XT.iincV X748.here hx rfl (1 : Int32) (D16 hby 181 rfl) rfl rfl (l' := #[sA a1, sA a2, sI ix3, sI p2, sI p3, sA a3, sI w1, sI (ln + (1 : Int32)), sI w2, sI w3, sI w4, sI w5, sI w6, sI kk, t14, t15, s16, s17]) rfl ?_
         rw [qw7] at k
         exact k
        refine own_s T748 (mkF m 15 #[sA a1, sA a2, sI ix3, sI p2, sI p3, sA a3, sI w1, sI w7, sI w2, sI w3, sI w4, sI w5, sI w6, sI kk, t14, t15, s16, s17] []) (fun t k => ?_) ?_
        ·exact XS.goto X748.here hx rfl (pc0 := 327) (pc' := 15) rfl (D16 hby 182 rfl) (by decide) (by decide) k
        have u1 : w7.toInt = ((ll + 1 : Nat) : Int) := by rw [qw7]; exact own_inc hln (by omega)
        exact ih  T748 h748 _ ix3 w7 (ll + 1) g3 _ _ _ _ _ _ t14 t15 s16 s17 X748 e748 N748 Z748 f749 f750 f751 f752 f753 f754 f755 f756 f757 K758 (One.val rfl) (One.val rfl) (One.val rfl) (One.val rfl) (One.val rfl) (One.val rfl) ht14 ht15 hs16 hs17 u1 (by omega) (by omega) (Or.inr (by omega)) (by rw [hss, hix3, show (r : Int) = C (ll : Int) from by omega]; omega) hin3
      | succ k ih =>
       intro T748 h748 L748 kk ix3 r g3 t14 t15 X748 e748 N748 Z748 f749 f750 f751 f752 f753 f754 f755 f756 f757 K758 ht14 ht15 hkk hrk hix3 hin3
       refine own_s T748 (mkF m 193 #[sA a1, sA a2, sI ix3, sI p2, sI p3, sA a3, sI w1, sI ln, sI w2, sI w3, sI w4, sI w5, sI w6, sI kk, t14, t15, s16, s17] [(.int w3), (.int kk)]) (fun t k => ?_) ?_
       ·refine XS.iload X748.here hx rfl (D16 hby 107 rfl) rfl ?_
        exact XS.iload X748.here hx rfl (D16 hby 108 rfl) rfl k
       by_cases c193_760 : kk < w3
       ·refine own_s T748 (mkF m 196 #[sA a1, sA a2, sI ix3, sI p2, sI p3, sA a3, sI w1, sI ln, sI w2, sI w3, sI w4, sI w5, sI w6, sI kk, t14, t15, s16, s17] []) (fun t k => ?_) ?_
        ·exact XS.icmpNo X748.here hx rfl (D16 hby 109 rfl) rfl (XT.ii_ge_f c193_760) k
        rw [Int32.lt_iff_toInt_lt] at c193_760
        have hbk := own_blk (r := (r : Int)) (c := C (ll : Int)) (i := 2 ^ (b - ll) - 1) hpl2 (by omega) (by omega) (by omega) (by omega)
        have hrP := Int.mul_nonneg (show (0 : Int) ≤ (r : Int) by omega) (show (0 : Int) ≤ 2 ^ (b - ll) by omega)
        have hbe : ix3.toInt + 2 ^ (b - ll) ≤ p1.toInt + 2 ^ b := by omega
        refine own_s T748 (mkF m 203 #[sA a1, sA a2, sI ix3, sI p2, sI p3, sA a3, sI w1, sI ln, sI w2, sI w3, sI w4, sI w5, sI w6, sI kk, t14, t15, s16, s17] [(.int p3), (.int ln), (.int kk), (.ref a1)]) (fun t k => ?_) ?_
        ·refine XS.aloadN X748.here hx rfl (D16 hby 110 rfl) rfl rfl ?_
         refine XS.iload X748.here hx rfl (D16 hby 111 rfl) rfl ?_
         refine XS.iload X748.here hx rfl (D16 hby 112 rfl) rfl ?_
         exact XS.iload X748.here hx rfl (D16 hby 113 rfl) rfl k
        obtain ⟨cl761, hcl761, hst761⟩ := Exa.cell f749
        obtain ⟨_, _, ⟨T761, L761, k761, n761⟩, -, X761, ⟨Lc761, hQ761, l761, y761, z761⟩, st761⟩ := X748.privateBack hx (y := Mn8) hown (mvT hZ (own_hw hw 96 rfl)) (mvT hZ (own_hw hw 97 rfl)) hsel687 (Cond.privateMethod_at (mvP hZ (own_hw hw 98 rfl) (args := #[]))) (mvT hZ (own_hw hw 99 rfl)) (by decide) (backOf (W := 0) (rm17 l Z a0 hw [] a1 kk ln p3 od o h748 n0 Z748 f750 f754 (by omega) (by omega)) hZ (own_hw hw 99 rfl) (own_hw hw 4 rfl) (by decide) (by decide)) (g := (mkF m 203 #[sA a1, sA a2, sI ix3, sI p2, sI p3, sA a3, sI w1, sI ln, sI w2, sI w3, sI w4, sI w5, sI w6, sI kk, t14, t15, s16, s17] [(.int p3), (.int ln), (.int kk), (.ref a1)])) rfl (by rw [hml]; rfl) (Steps.refl _) (a := a1) (by rw [e748]; exact hcl761) hst761 (argsL := [(.int kk), (.int ln), (.int p3)]) (rest := []) (lenOf pd_17 rfl) rfl (by show 2 * 0 + _ ≤ _; exact Nat.le_of_eq rfl) (D16 hby 114 rfl) (fun _ _ => ⟨rfl, e748, (by dsimp only [Pt.cells]; decide), (by dsimp only [Pt.slots]; decide)⟩)
        dsimp only [Pt.U, Pt.locs, Pt.cells, Pt.slots] at X761 l761 y761 z761 st761 hQ761
        subst l761 y761 z761
        obtain ⟨rfl, Nc761, hp761⟩ := hQ761
        have N761 := Fr.app N748 Nc761
        refine OwnWp.go st761 ?_
        have eh761 : T761.heap = h748 := hp761
        show OwnWp p e below s _ _ _ (T761.setTop (mkF m 206 #[sA a1, sA a2, sI ix3, sI p2, sI p3, sA a3, sI w1, sI ln, sI w2, sI w3, sI w4, sI w5, sI w6, sI kk, t14, t15, s16, s17] [(.int (own_code (o kk.toInt) ln p3))]))
        obtain ⟨w7, qw7⟩ : ∃ z : Int32, z = (own_code (o kk.toInt) ln p3) := ⟨_, rfl⟩
        refine own_s T761 (mkF m 208 #[sA a1, sA a2, sI ix3, sI p2, sI p3, sA a3, sI w1, sI ln, sI w2, sI w3, sI w4, sI w5, sI w6, sI kk, sI w7, t15, s16, s17] []) (fun t k => ?_) ?_
        ·refine XS.istoreS X761.here hx rfl (D16 hby 115 rfl) rfl (o := t14) rfl ht14 ?_
         rw [qw7] at k
         exact k
        have hv : own_isval o C ll (r : Int) p3 B w7 := by rw [qw7]; exact own_isval0 hB0 hbo hkk (by omega) (by omega) hln (by omega) hsl
        refine own_s T761 (mkF m 210 #[sA a1, sA a2, sI ix3, sI p2, sI p3, sA a3, sI w1, sI ln, sI w2, sI w3, sI w4, sI w5, sI w6, sI kk, sI w7, t15, s16, s17] [(.int w6)]) (fun t k => ?_) ?_
        ·exact XS.iload X761.here hx rfl (D16 hby 116 rfl) rfl k
        by_cases c210_762 : w6 = (0 : Int32)
        ·refine own_s T761 (mkF m 213 #[sA a1, sA a2, sI ix3, sI p2, sI p3, sA a3, sI w1, sI ln, sI w2, sI w3, sI w4, sI w5, sI w6, sI kk, sI w7, t15, s16, s17] []) (fun t k => ?_) ?_
         ·exact XS.ifNo X761.here hx rfl (D16 hby 117 rfl) rfl (XT.i0_ne_f c210_762) k
         refine own_s T761 (mkF m 221 #[sA a1, sA a2, sI ix3, sI p2, sI p3, sA a3, sI w1, sI ln, sI w2, sI w3, sI w4, sI w5, sI w6, sI kk, sI w7, t15, s16, s17] [(.int w7), (.int (ix3 + w5)), (.int ix3), (.ref a2)]) (fun t k => ?_) ?_
         ·refine XS.aloadN X761.here hx rfl (D16 hby 118 rfl) rfl rfl ?_
          refine XS.iloadN X761.here hx rfl (D16 hby 119 rfl) rfl ?_
          refine XS.iloadN X761.here hx rfl (D16 hby 120 rfl) rfl ?_
          refine XS.iload X761.here hx rfl (D16 hby 121 rfl) rfl ?_
          refine XS.iadd X761.here hx rfl (D16 hby 122 rfl) rfl ?_
          exact XS.iload X761.here hx rfl (D16 hby 123 rfl) rfl k
         obtain ⟨w8, qw8⟩ : ∃ z : Int32, z = (ix3 + w5) := ⟨_, rfl⟩
         rw [← qw8]
         show OwnWp p e below s _ _ _ (T761.setTop (mkF m 221 #[sA a1, sA a2, sI ix3, sI p2, sI p3, sA a3, sI w1, sI ln, sI w2, sI w3, sI w4, sI w5, sI w6, sI kk, sI w7, t15, s16, s17] [(.int w7), (.int w8), (.int ix3), (.ref a2)]))
         have hhi : w8.toInt = ix3.toInt + 2 ^ (b - ll) := by rw [qw8, own_add (by omega) (by omega), hcp]
         obtain ⟨_, _, ⟨T763, L763, k763, n763⟩, -, X763, ⟨Lc763, hQ763, l763, y763, z763⟩, st763⟩ := Jvm.LawKit.callS X761 hx (y := Mn4) hown (mvT hZ (own_hw hw 68 rfl)) (mvT hZ (own_hw hw 69 rfl)) (mvT hZ (own_hw hw 34 rfl)) (mvT hZ (own_hw hw 70 rfl)) (by decide) (backOf (W := 0) (rm11 l Z a0 hw [] a2 ix3 w8 w7 tn g3 h748 n0 Z748 g2 f756 (by omega) (by omega) (by omega)) hZ (own_hw hw 70 rfl) (own_hw hw 34 rfl) (by decide) (by decide)) (g := (mkF m 221 #[sA a1, sA a2, sI ix3, sI p2, sI p3, sA a3, sI w1, sI ln, sI w2, sI w3, sI w4, sI w5, sI w6, sI kk, sI w7, t15, s16, s17] [(.int w7), (.int w8), (.int ix3), (.ref a2)])) rfl (by rw [hml]; rfl) (argsL := [(.ref a2), (.int ix3), (.int w8), (.int w7)]) (rest := []) (lenOf pd_11 rfl) rfl (by show 2 * 0 + _ ≤ _; exact Nat.le_of_eq rfl) (D16 hby 124 rfl) (fun _ _ => ⟨rfl, eh761, (by dsimp only [Pt.cells]; decide), (by dsimp only [Pt.slots]; decide)⟩)
         dsimp only [Pt.U, Pt.locs, Pt.cells, Pt.slots] at X763 l763 y763 z763 st763 hQ763
         subst l763 y763 z763
         obtain ⟨rfl, Nc763, Kc763, aa763⟩ := hQ763
         have N763 := Fr.app N761 Nc763
         refine OwnWp.step st763 ?_
         have Z763 : n0 ≤ T763.heap.size := Nat.le_trans Z748 Kc763.1
         have f764 := Exa.keep f749 Kc763
         have f765 := Fld.keep f750 Kc763 (ninS n1 nin0)
         have f766 := Fld.keep f751 Kc763 (ninS n1 nin0)
         have f767 := Fld.keep f752 Kc763 (ninS n1 nin0)
         have f768 := Fld.keep f753 Kc763 (ninS n1 nin0)
         have f769 := OwnA.keep f754 Kc763 (ninS n2 nin0)
         have f770 := OwnA.keep f755 Kc763 (ninS n3 nin0)
         have f772 := OwnA.keep f757 Kc763 (ninS n4 nin0)
         have K773 := Keep.trans K758 Kc763 (allS (Or.inl (List.mem_of_getElem? (i := 0) rfl)) all0)
         show OwnWp p e below s _ _ _ (T763.setTop (mkF m 224 #[sA a1, sA a2, sI ix3, sI p2, sI p3, sA a3, sI w1, sI ln, sI w2, sI w3, sI w4, sI w5, sI w6, sI kk, sI w7, t15, s16, s17] []))
         have hin4 := own_inv_rng hCn hin3 (l := ll) (r := (r : Int)) (by omega) (by omega) (by omega) hix3 hhi hv
         rw [hhi] at hin4
         have hfx : (own_rng g3 ix3.toInt w8.toInt w7) = own_rng g3 ix3.toInt (ix3.toInt + 2 ^ (b - ll)) w7 := by rw [hhi]
         rw [← hfx] at hin4
         obtain ⟨w9, qw9⟩ : ∃ z : Int32, z = (ix3 + w5) := ⟨_, rfl⟩
         refine own_s T763 (mkF m 229 #[sA a1, sA a2, sI w9, sI p2, sI p3, sA a3, sI w1, sI ln, sI w2, sI w3, sI w4, sI w5, sI w6, sI kk, sI w7, t15, s16, s17] []) (fun t k => ?_) ?_
         ·refine XS.iloadN X763.here hx rfl (D16 hby 125 rfl) rfl ?_
          refine XS.iload X763.here hx rfl (D16 hby 126 rfl) rfl ?_
          refine XS.iadd X763.here hx rfl (D16 hby 127 rfl) rfl ?_
          refine XS.istoreN X763.here hx rfl (D16 hby 128 rfl) rfl (l' := #[sA a1, sA a2, sI (ix3 + w5), sI p2, sI p3, sA a3, sI w1, sI ln, sI w2, sI w3, sI w4, sI w5, sI w6, sI kk, sI w7, t15, s16, s17]) rfl ?_
          rw [qw9] at k
          exact k
         obtain ⟨w10, qw10⟩ : ∃ z : Int32, z = (kk + (1 : Int32)) := ⟨_, rfl⟩
         refine own_s T763 (mkF m 321 #[sA a1, sA a2, sI w9, sI p2, sI p3, sA a3, sI w1, sI ln, sI w2, sI w3, sI w4, sI w5, sI w6, sI w10, sI w7, t15, s16, s17] []) (fun t k => ?_) ?_
         ·refine XS.goto X763.here hx rfl (pc0 := 229) (pc' := 318) rfl (D16 hby 129 rfl) (by decide) (by decide) ?_
          refine XT.iincV X763.here hx rfl (1 : Int32) (D16 hby 179 rfl) rfl rfl (l' := #[sA a1, sA a2, sI w9, sI p2, sI p3, sA a3, sI w1, sI ln, sI w2, sI w3, sI w4, sI w5, sI w6, sI (kk + (1 : Int32)), sI w7, t15, s16, s17]) rfl ?_
          rw [qw10] at k
          exact k
         refine own_s T763 (mkF m 189 #[sA a1, sA a2, sI w9, sI p2, sI p3, sA a3, sI w1, sI ln, sI w2, sI w3, sI w4, sI w5, sI w6, sI w10, sI w7, t15, s16, s17] []) (fun t k => ?_) ?_
         ·exact XS.goto X763.here hx rfl (pc0 := 321) (pc' := 189) rfl (D16 hby 180 rfl) (by decide) (by decide) k
         have y1 : w10.toInt = own_A C ll + ((r + 1 : Nat) : Int) := by rw [qw10, own_inc1 (by omega) (by omega), hkk]; omega
         have y2 : w9.toInt = ix3.toInt + 2 ^ (b - ll) := by rw [qw9, own_add (by omega) (by omega), hcp]
         have y3 : ((r + 1 : Nat) : Int) * 2 ^ (b - ll) = (r : Int) * 2 ^ (b - ll) + 2 ^ (b - ll) := by rw [show ((r + 1 : Nat) : Int) = (r : Int) + 1 from by omega, Int.add_mul, Int.one_mul]
         exact ih  T763 T763.heap _ w10 w9 (r + 1) (own_rng g3 ix3.toInt w8.toInt w7) _ t15 X763 (rfl : T763.heap = T763.heap) N763 Z763 f764 f765 f766 f767 f768 f769 f770 aa763 f772 K773 (One.val rfl) ht15 y1 (by omega) (by rw [y3]; omega) (by rw [y2]; exact hin4)
        ·refine own_s T761 (mkF m 232 #[sA a1, sA a2, sI ix3, sI p2, sI p3, sA a3, sI w1, sI ln, sI w2, sI w3, sI w4, sI w5, sI w6, sI kk, sI w7, t15, s16, s17] []) (fun t k => ?_) ?_
         ·exact XS.ifYes X761.here hx rfl (pc0 := 210) (pc' := 232) rfl (D16 hby 117 rfl) rfl (XT.i0_ne_t c210_762) (by decide) (by decide) k
         have hfr : sh ≤ b - ll := own_folw hshI hrs qw6 c210_762
         have hps := own_p2s (b - ll)
         have hpsb := own_p2le (show b - ll + 1 ≤ b by omega)
         refine own_s T761 (mkF m 237 #[sA a1, sA a2, sI ix3, sI p2, sI p3, sA a3, sI w1, sI ln, sI w2, sI w3, sI w4, sI w5, sI w6, sI kk, sI w7, t15, s16, s17] [(.int (128 : Int32)), (.int w5)]) (fun t k => ?_) ?_
         ·refine XS.iload X761.here hx rfl (D16 hby 130 rfl) rfl ?_
          exact XT.sipushV X761.here hx rfl (128 : Int32) (D16 hby 131 rfl) rfl k
         by_cases c237_774 : w5 < (128 : Int32)
         ·refine own_s T761 (mkF m 240 #[sA a1, sA a2, sI ix3, sI p2, sI p3, sA a3, sI w1, sI ln, sI w2, sI w3, sI w4, sI w5, sI w6, sI kk, sI w7, t15, s16, s17] []) (fun t k => ?_) ?_
          ·exact XS.icmpNo X761.here hx rfl (D16 hby 132 rfl) rfl (XT.ii_ge_f c237_774) k
          rw [Int32.lt_iff_toInt_lt, show (128 : Int32).toInt = 128 from rfl] at c237_774
          refine own_s T761 (mkF m 243 #[sA a1, sA a2, sI ix3, sI p2, sI p3, sA a3, sI w1, sI ln, sI w2, sI w3, sI w4, sI w5, sI w6, sI kk, sI w7, sI (0 : Int32), s16, s17] []) (fun t k => ?_) ?_
          ·refine XT.iconstV X761.here hx rfl (0 : Int32) (D16 hby 133 rfl) rfl ?_
           exact XS.istoreS X761.here hx rfl (D16 hby 134 rfl) rfl (o := t15) rfl ht15 k
          have hl4 : ∀ (k : Nat) (T775 : State) (h775 : Heap) (L775 : List Loc) (i : Int32) (im : Nat) (g4 : Int → Int32) (X775 : Stand p l e Rm6 s m #[(.ref a1), (.ref a2), (.int p1), (.int p2), (.int p3), (.ref a3)] below meth c T775 L775 0 0) (e775 : T775.heap = h775) (N775 : Fr n0 L775) (Z775 : n0 ≤ h775.size) (f776 : Exa Z h775 a1 DTn) (f777 : Fld Z h775 a1 DTn "order" "[I" (.ref od)) (f778 : Fld Z h775 a1 DTn "places" "[I" (.ref pl)) (f779 : Fld Z h775 a1 DTn "shortest" "I" (.int shI)) (f780 : Fld Z h775 a1 DTn "longest" "I" (.int mxI)) (f781 : OwnA Z h775 od .int (256 : Int32) (fun zi => .int (o zi))) (f782 : OwnA Z h775 pl .int (17 : Int32) (fun zi => .int (gp zi))) (f783 : OwnA Z h775 a2 .int tn (fun zi => .int (g4 zi))) (f784 : OwnA Z h775 a3 .int fn (fun zi => .int (fw zi))) (K785 : Keep h0 h775 [a2]) (hi4 : i.toInt = (im : Int)) (hik : (im : Int) + (k : Int) = 2 ^ (b - ll)) (hin4 : own_inv f g4 C o b p3.toInt B p1.toInt (ix3.toInt + (im : Int))), OwnWp p e below s Rm6.cells Rm6.slots (Q16A Z a1 a2 p1 p2 p3 a3 od pl o gp shI mxI C b mx sh tn f B fn fw h0 n0) (T775.setTop (mkF m 243 #[sA a1, sA a2, sI ix3, sI p2, sI p3, sA a3, sI w1, sI ln, sI w2, sI w3, sI w4, sI w5, sI w6, sI kk, sI w7, sI i, s16, s17] [])) := by
           intro k
           induction k with
           | zero =>
            intro T775 h775 L775 i im g4 X775 e775 N775 Z775 f776 f777 f778 f779 f780 f781 f782 f783 f784 K785 hi4 hik hin4
            refine own_s T775 (mkF m 247 #[sA a1, sA a2, sI ix3, sI p2, sI p3, sA a3, sI w1, sI ln, sI w2, sI w3, sI w4, sI w5, sI w6, sI kk, sI w7, sI i, s16, s17] [(.int w5), (.int i)]) (fun t k => ?_) ?_
            ·refine XS.iload X775.here hx rfl (D16 hby 135 rfl) rfl ?_
             exact XS.iload X775.here hx rfl (D16 hby 136 rfl) rfl k
            by_cases c247_786 : i < w5
            ·refine own_s T775 (mkF m 250 #[sA a1, sA a2, sI ix3, sI p2, sI p3, sA a3, sI w1, sI ln, sI w2, sI w3, sI w4, sI w5, sI w6, sI kk, sI w7, sI i, s16, s17] []) (fun t k => ?_) ?_
             ·exact XS.icmpNo X775.here hx rfl (D16 hby 137 rfl) rfl (XT.ii_ge_f c247_786) k
             rw [Int32.lt_iff_toInt_lt, hcp] at c247_786
             exact absurd c247_786 (by omega)
            ·refine own_s T775 (mkF m 273 #[sA a1, sA a2, sI ix3, sI p2, sI p3, sA a3, sI w1, sI ln, sI w2, sI w3, sI w4, sI w5, sI w6, sI kk, sI w7, sI i, s16, s17] []) (fun t k => ?_) ?_
             ·exact XS.icmpYes X775.here hx rfl (pc0 := 247) (pc' := 273) rfl (D16 hby 137 rfl) rfl (XT.ii_ge_t c247_786) (by decide) (by decide) k
             rw [Int32.lt_iff_toInt_lt, hcp] at c247_786
             have e4 : (im : Int) = 2 ^ (b - ll) := by omega
             rw [e4] at hin4
             obtain ⟨w8, qw8⟩ : ∃ z : Int32, z = (ix3 + w5) := ⟨_, rfl⟩
             refine own_s T775 (mkF m 278 #[sA a1, sA a2, sI w8, sI p2, sI p3, sA a3, sI w1, sI ln, sI w2, sI w3, sI w4, sI w5, sI w6, sI kk, sI w7, sI i, s16, s17] []) (fun t k => ?_) ?_
             ·refine XS.iloadN X775.here hx rfl (D16 hby 152 rfl) rfl ?_
              refine XS.iload X775.here hx rfl (D16 hby 153 rfl) rfl ?_
              refine XS.iadd X775.here hx rfl (D16 hby 154 rfl) rfl ?_
              refine XS.istoreN X775.here hx rfl (D16 hby 155 rfl) rfl (l' := #[sA a1, sA a2, sI (ix3 + w5), sI p2, sI p3, sA a3, sI w1, sI ln, sI w2, sI w3, sI w4, sI w5, sI w6, sI kk, sI w7, sI i, s16, s17]) rfl ?_
              rw [qw8] at k
              exact k
             obtain ⟨w9, qw9⟩ : ∃ z : Int32, z = (kk + (1 : Int32)) := ⟨_, rfl⟩
             refine own_s T775 (mkF m 321 #[sA a1, sA a2, sI w8, sI p2, sI p3, sA a3, sI w1, sI ln, sI w2, sI w3, sI w4, sI w5, sI w6, sI w9, sI w7, sI i, s16, s17] []) (fun t k => ?_) ?_
             ·refine XS.goto X775.here hx rfl (pc0 := 278) (pc' := 318) rfl (D16 hby 156 rfl) (by decide) (by decide) ?_
              refine XT.iincV X775.here hx rfl (1 : Int32) (D16 hby 179 rfl) rfl rfl (l' := #[sA a1, sA a2, sI w8, sI p2, sI p3, sA a3, sI w1, sI ln, sI w2, sI w3, sI w4, sI w5, sI w6, sI (kk + (1 : Int32)), sI w7, sI i, s16, s17]) rfl ?_
              rw [qw9] at k
              exact k
             refine own_s T775 (mkF m 189 #[sA a1, sA a2, sI w8, sI p2, sI p3, sA a3, sI w1, sI ln, sI w2, sI w3, sI w4, sI w5, sI w6, sI w9, sI w7, sI i, s16, s17] []) (fun t k => ?_) ?_
             ·exact XS.goto X775.here hx rfl (pc0 := 321) (pc' := 189) rfl (D16 hby 180 rfl) (by decide) (by decide) k
             have y1 : w9.toInt = own_A C ll + ((r + 1 : Nat) : Int) := by rw [qw9, own_inc1 (by omega) (by omega), hkk]; omega
             have y2 : w8.toInt = ix3.toInt + 2 ^ (b - ll) := by rw [qw8, own_add (by omega) (by omega), hcp]
             have y3 : ((r + 1 : Nat) : Int) * 2 ^ (b - ll) = (r : Int) * 2 ^ (b - ll) + 2 ^ (b - ll) := by rw [show ((r + 1 : Nat) : Int) = (r : Int) + 1 from by omega, Int.add_mul, Int.one_mul]
             exact ih  T775 h775 _ w9 w8 (r + 1) g4 _ _ X775 e775 N775 Z775 f776 f777 f778 f779 f780 f781 f782 f783 f784 K785 (One.val rfl) (One.val rfl) y1 (by omega) (by rw [y3]; omega) (by rw [y2]; exact hin4)
           | succ k ih =>
            intro T775 h775 L775 i im g4 X775 e775 N775 Z775 f776 f777 f778 f779 f780 f781 f782 f783 f784 K785 hi4 hik hin4
            refine own_s T775 (mkF m 247 #[sA a1, sA a2, sI ix3, sI p2, sI p3, sA a3, sI w1, sI ln, sI w2, sI w3, sI w4, sI w5, sI w6, sI kk, sI w7, sI i, s16, s17] [(.int w5), (.int i)]) (fun t k => ?_) ?_
            ·refine XS.iload X775.here hx rfl (D16 hby 135 rfl) rfl ?_
             exact XS.iload X775.here hx rfl (D16 hby 136 rfl) rfl k
            by_cases c247_787 : i < w5
            ·refine own_s T775 (mkF m 250 #[sA a1, sA a2, sI ix3, sI p2, sI p3, sA a3, sI w1, sI ln, sI w2, sI w3, sI w4, sI w5, sI w6, sI kk, sI w7, sI i, s16, s17] []) (fun t k => ?_) ?_
             ·exact XS.icmpNo X775.here hx rfl (D16 hby 137 rfl) rfl (XT.ii_ge_f c247_787) k
             rw [Int32.lt_iff_toInt_lt, hcp] at c247_787
             have e1 : (w5 + i).toInt = 2 ^ (b - ll) + (im : Int) := by rw [own_add (by omega) (by omega), hcp, hi4]
             have e2 : (ix3 + i).toInt = ix3.toInt + (im : Int) := by rw [own_add (by omega) (by omega), hi4]
             refine own_s T775 (mkF m 266 #[sA a1, sA a2, sI ix3, sI p2, sI p3, sA a3, sI w1, sI ln, sI w2, sI w3, sI w4, sI w5, sI w6, sI kk, sI w7, sI i, s16, s17] [(.int ((fw (w5 + i).toInt) + w7)), (.int (ix3 + i)), (.ref a2)]) (fun t k => ?_) ?_
             ·refine XS.aloadN X775.here hx rfl (D16 hby 138 rfl) rfl rfl ?_
              refine XS.iloadN X775.here hx rfl (D16 hby 139 rfl) rfl ?_
              refine XS.iload X775.here hx rfl (D16 hby 140 rfl) rfl ?_
              refine XS.iadd X775.here hx rfl (D16 hby 141 rfl) rfl ?_
              refine XS.aload X775.here hx rfl (D16 hby 142 rfl) rfl rfl ?_
              refine XS.iload X775.here hx rfl (D16 hby 143 rfl) rfl ?_
              refine XS.iload X775.here hx rfl (D16 hby 144 rfl) rfl ?_
              refine XS.iadd X775.here hx rfl (D16 hby 145 rfl) rfl ?_
              refine OwnA.ldI X775 hx hZ e775 f784 (by rw [e1]; omega) (by rw [e1]; omega) rfl rfl (D16 hby 146 rfl) ?_
              refine XS.iload X775.here hx rfl (D16 hby 147 rfl) rfl ?_
              exact XS.iadd X775.here hx rfl (D16 hby 148 rfl) rfl k
             obtain ⟨T788, h788, L788, X788, e788, N788, K788, F788, st788⟩ := OwnA.stI X775 hx hZ e775 N775 g2 f783 (by rw [e2]; omega) (by rw [e2]; omega) (g := (mkF m 266 #[sA a1, sA a2, sI ix3, sI p2, sI p3, sA a3, sI w1, sI ln, sI w2, sI w3, sI w4, sI w5, sI w6, sI kk, sI w7, sI i, s16, s17] [(.int ((fw (w5 + i).toInt) + w7)), (.int (ix3 + i)), (.ref a2)])) rfl rfl (D16 hby 149 rfl)
             refine OwnWp.step st788 ?_
             have Z788 : n0 ≤ h788.size := Nat.le_trans Z775 K788.1
             have f789 := Exa.keep f776 K788
             have f790 := Fld.keep f777 K788 (ninS n1 nin0)
             have f791 := Fld.keep f778 K788 (ninS n1 nin0)
             have f792 := Fld.keep f779 K788 (ninS n1 nin0)
             have f793 := Fld.keep f780 K788 (ninS n1 nin0)
             have f794 := OwnA.keep f781 K788 (ninS n2 nin0)
             have f795 := OwnA.keep f782 K788 (ninS n3 nin0)
             have f796 := OwnA.keep f784 K788 (ninS n4 nin0)
             have F797 : OwnA Z h788 a2 .int tn (fun zi => .int ((ownUpd g4 (ix3 + i).toInt ((fw (w5 + i).toInt) + w7)) zi)) := F788.congr (fun zi _ _ => by exact ownUpd_int g4 _ _ zi)
             have K798 := Keep.trans K785 K788 (allS (Or.inl (List.mem_of_getElem? (i := 0) rfl)) all0)
             show OwnWp p e below s _ _ _ (T788.setTop (mkF m 267 #[sA a1, sA a2, sI ix3, sI p2, sI p3, sA a3, sI w1, sI ln, sI w2, sI w3, sI w4, sI w5, sI w6, sI kk, sI w7, sI i, s16, s17] []))
             have hv2 : own_isval o C ll (r : Int) p3 B ((fw (w5 + i).toInt) + w7) := by rw [qw7]; exact own_isvalc (own_isval1 hB hbo hkk (by omega) (by omega) hln (by omega) hsl (hfw _ (by rw [e1]; omega) (by rw [e1]; omega)))
             have hin5 : own_inv f (ownUpd g4 (ix3 + i).toInt ((fw (w5 + i).toInt) + w7)) C o b p3.toInt B p1.toInt (ix3.toInt + ((im + 1 : Nat) : Int)) := by rw [e2, show ix3.toInt + ((im + 1 : Nat) : Int) = ix3.toInt + (im : Int) + 1 from by omega]; exact own_inv_upd hin4 (own_goodb hCn (l := ll) (r := (r : Int)) (by omega) (by omega) (by omega) hix3 (by omega) (by omega) hv2)
             obtain ⟨w8, qw8⟩ : ∃ z : Int32, z = (i + (1 : Int32)) := ⟨_, rfl⟩
             refine own_s T788 (mkF m 270 #[sA a1, sA a2, sI ix3, sI p2, sI p3, sA a3, sI w1, sI ln, sI w2, sI w3, sI w4, sI w5, sI w6, sI kk, sI w7, sI w8, s16, s17] []) (fun t k => ?_) ?_
             ·refine XT.iincV X788.here hx rfl (1 : Int32) (D16 hby 150 rfl) rfl rfl (l' := #[sA a1, sA a2, sI ix3, sI p2, sI p3, sA a3, sI w1, sI ln, sI w2, sI w3, sI w4, sI w5, sI w6, sI kk, sI w7, sI (i + (1 : Int32)), s16, s17]) rfl ?_
              rw [qw8] at k
              exact k
             refine own_s T788 (mkF m 243 #[sA a1, sA a2, sI ix3, sI p2, sI p3, sA a3, sI w1, sI ln, sI w2, sI w3, sI w4, sI w5, sI w6, sI kk, sI w7, sI w8, s16, s17] []) (fun t k => ?_) ?_
             ·exact XS.goto X788.here hx rfl (pc0 := 270) (pc' := 243) rfl (D16 hby 151 rfl) (by decide) (by decide) k
             have e3 : w8.toInt = ((im + 1 : Nat) : Int) := by rw [qw8]; exact own_inc hi4 (by omega)
             exact ih  T788 h788 _ w8 (im + 1) (ownUpd g4 (ix3 + i).toInt ((fw (w5 + i).toInt) + w7)) X788 e788 N788 Z788 f789 f790 f791 f792 f793 f794 f795 F797 f796 K798 e3 (by omega) hin5
            ·refine own_s T775 (mkF m 273 #[sA a1, sA a2, sI ix3, sI p2, sI p3, sA a3, sI w1, sI ln, sI w2, sI w3, sI w4, sI w5, sI w6, sI kk, sI w7, sI i, s16, s17] []) (fun t k => ?_) ?_
             ·exact XS.icmpYes X775.here hx rfl (pc0 := 247) (pc' := 273) rfl (D16 hby 137 rfl) rfl (XT.ii_ge_t c247_787) (by decide) (by decide) k
             rw [Int32.lt_iff_toInt_lt, hcp] at c247_787
             exact absurd c247_787 (by omega)
          exact hl4 (2 ^ (b - ll) : Int).toNat T761 h748 _ (0 : Int32) 0 g3 X761 eh761 N761 Z748 f749 f750 f751 f752 f753 f754 f755 f756 f757 K758 (by decide) (by omega) (by rw [show ix3.toInt + ((0 : Nat) : Int) = ix3.toInt from by omega]; exact hin3)
         ·refine own_s T761 (mkF m 281 #[sA a1, sA a2, sI ix3, sI p2, sI p3, sA a3, sI w1, sI ln, sI w2, sI w3, sI w4, sI w5, sI w6, sI kk, sI w7, t15, s16, s17] []) (fun t k => ?_) ?_
          ·exact XS.icmpYes X761.here hx rfl (pc0 := 237) (pc' := 281) rfl (D16 hby 132 rfl) rfl (XT.ii_ge_t c237_774) (by decide) (by decide) k
          rw [Int32.lt_iff_toInt_lt, show (128 : Int32).toInt = 128 from rfl] at c237_774
          refine own_s T761 (mkF m 289 #[sA a1, sA a2, sI ix3, sI p2, sI p3, sA a3, sI w1, sI ln, sI w2, sI w3, sI w4, sI w5, sI w6, sI kk, sI w7, t15, s16, s17] [(.int w5), (.int ix3), (.ref a2), (.int w5), (.ref a3)]) (fun t k => ?_) ?_
          ·refine XS.aload X761.here hx rfl (D16 hby 157 rfl) rfl rfl ?_
           refine XS.iload X761.here hx rfl (D16 hby 158 rfl) rfl ?_
           refine XS.aloadN X761.here hx rfl (D16 hby 159 rfl) rfl rfl ?_
           refine XS.iloadN X761.here hx rfl (D16 hby 160 rfl) rfl ?_
           exact XS.iload X761.here hx rfl (D16 hby 161 rfl) rfl k
          obtain ⟨T799, h799, L799, X799, e799, N799, K799, F799, st799⟩ := OwnA.copy X761 hx hZ hown (own_hw hw 101 rfl) (own_hw hw 50 rfl) (own_hw hw 48 rfl) (own_hw hw 49 rfl) eh761 N761 g2 f757 f756 (by omega) (by omega) (by omega) (by omega) (by omega) (g := (mkF m 289 #[sA a1, sA a2, sI ix3, sI p2, sI p3, sA a3, sI w1, sI ln, sI w2, sI w3, sI w4, sI w5, sI w6, sI kk, sI w7, t15, s16, s17] [(.int w5), (.int ix3), (.ref a2), (.int w5), (.ref a3)])) rfl (by rw [hml]; rfl) rfl (D16 hby 162 rfl) (by decide) (W := 0) (by show 2 * 0 + _ ≤ _; exact Nat.le_of_eq rfl) (by decide)
          refine OwnWp.step st799 ?_
          have Z799 : n0 ≤ h799.size := Nat.le_trans Z748 K799.1
          have f800 := Exa.keep f749 K799
          have f801 := Fld.keep f750 K799 (ninS n1 nin0)
          have f802 := Fld.keep f751 K799 (ninS n1 nin0)
          have f803 := Fld.keep f752 K799 (ninS n1 nin0)
          have f804 := Fld.keep f753 K799 (ninS n1 nin0)
          have f805 := OwnA.keep f754 K799 (ninS n2 nin0)
          have f806 := OwnA.keep f755 K799 (ninS n3 nin0)
          have f807 := OwnA.keep f757 K799 (ninS n4 nin0)
          have K808 := Keep.trans K758 K799 (allS (Or.inl (List.mem_of_getElem? (i := 0) rfl)) all0)
          obtain ⟨gcp, hgcp⟩ : ∃ z : Int → Int32, z = (fun (zi : Int) => if ix3.toInt ≤ zi ∧ zi < ix3.toInt + w5.toInt then fw (w5.toInt + (zi - ix3.toInt)) else g3 zi) := ⟨_, rfl⟩
          have f809 : OwnA Z h799 a2 .int tn (fun zi => .int (gcp zi)) := by rw [hgcp]; exact F799
          show OwnWp p e below s _ _ _ (T799.setTop (mkF m 292 #[sA a1, sA a2, sI ix3, sI p2, sI p3, sA a3, sI w1, sI ln, sI w2, sI w3, sI w4, sI w5, sI w6, sI kk, sI w7, t15, s16, s17] []))
          have hin4 := own_inv3_start hin3 (by omega) hgcp
          obtain ⟨w8, qw8⟩ : ∃ z : Int32, z = (ix3 + w5) := ⟨_, rfl⟩
          refine own_s T799 (mkF m 298 #[sA a1, sA a2, sI ix3, sI p2, sI p3, sA a3, sI w1, sI ln, sI w2, sI w3, sI w4, sI w5, sI w6, sI kk, sI w7, sI w8, s16, s17] []) (fun t k => ?_) ?_
          ·refine XS.iloadN X799.here hx rfl (D16 hby 163 rfl) rfl ?_
           refine XS.iload X799.here hx rfl (D16 hby 164 rfl) rfl ?_
           refine XS.iadd X799.here hx rfl (D16 hby 165 rfl) rfl ?_
           refine XS.istoreS X799.here hx rfl (D16 hby 166 rfl) rfl (o := t15) rfl ht15 ?_
           rw [qw8] at k
           exact k
          have hla : w8.toInt = ix3.toInt + 2 ^ (b - ll) := by rw [qw8, own_add (by omega) (by omega), hcp]
          have hl5 : ∀ (k : Nat) (T810 : State) (h810 : Heap) (L810 : List Loc) (ix5 : Int32) (im : Nat) (g5 : Int → Int32) (X810 : Stand p l e Rm6 s m #[(.ref a1), (.ref a2), (.int p1), (.int p2), (.int p3), (.ref a3)] below meth c T810 L810 0 0) (e810 : T810.heap = h810) (N810 : Fr n0 L810) (Z810 : n0 ≤ h810.size) (f811 : Exa Z h810 a1 DTn) (f812 : Fld Z h810 a1 DTn "order" "[I" (.ref od)) (f813 : Fld Z h810 a1 DTn "places" "[I" (.ref pl)) (f814 : Fld Z h810 a1 DTn "shortest" "I" (.int shI)) (f815 : Fld Z h810 a1 DTn "longest" "I" (.int mxI)) (f816 : OwnA Z h810 od .int (256 : Int32) (fun zi => .int (o zi))) (f817 : OwnA Z h810 pl .int (17 : Int32) (fun zi => .int (gp zi))) (f818 : OwnA Z h810 a3 .int fn (fun zi => .int (fw zi))) (f819 : OwnA Z h810 a2 .int tn (fun zi => .int (g5 zi))) (K820 : Keep h0 h810 [a2]) (hi5 : ix5.toInt = ix3.toInt + (im : Int)) (hik : (im : Int) + (k : Int) = 2 ^ (b - ll)) (hin5 : own_inv3 f g5 fw C o b p3.toInt B p1.toInt ix3.toInt w5.toInt ix5.toInt (ix3.toInt + w5.toInt)), OwnWp p e below s Rm6.cells Rm6.slots (Q16A Z a1 a2 p1 p2 p3 a3 od pl o gp shI mxI C b mx sh tn f B fn fw h0 n0) (T810.setTop (mkF m 298 #[sA a1, sA a2, sI ix5, sI p2, sI p3, sA a3, sI w1, sI ln, sI w2, sI w3, sI w4, sI w5, sI w6, sI kk, sI w7, sI w8, s16, s17] [])) := by
           intro k
           induction k with
           | zero =>
            intro T810 h810 L810 ix5 im g5 X810 e810 N810 Z810 f811 f812 f813 f814 f815 f816 f817 f818 f819 K820 hi5 hik hin5
            refine own_s T810 (mkF m 301 #[sA a1, sA a2, sI ix5, sI p2, sI p3, sA a3, sI w1, sI ln, sI w2, sI w3, sI w4, sI w5, sI w6, sI kk, sI w7, sI w8, s16, s17] [(.int w8), (.int ix5)]) (fun t k => ?_) ?_
            ·refine XS.iloadN X810.here hx rfl (D16 hby 167 rfl) rfl ?_
             exact XS.iload X810.here hx rfl (D16 hby 168 rfl) rfl k
            by_cases c301_821 : ix5 < w8
            ·refine own_s T810 (mkF m 304 #[sA a1, sA a2, sI ix5, sI p2, sI p3, sA a3, sI w1, sI ln, sI w2, sI w3, sI w4, sI w5, sI w6, sI kk, sI w7, sI w8, s16, s17] []) (fun t k => ?_) ?_
             ·exact XS.icmpNo X810.here hx rfl (D16 hby 169 rfl) rfl (XT.ii_ge_f c301_821) k
             rw [Int32.lt_iff_toInt_lt, hla] at c301_821
             exact absurd c301_821 (by omega)
            ·refine own_s T810 (mkF m 318 #[sA a1, sA a2, sI ix5, sI p2, sI p3, sA a3, sI w1, sI ln, sI w2, sI w3, sI w4, sI w5, sI w6, sI kk, sI w7, sI w8, s16, s17] []) (fun t k => ?_) ?_
             ·exact XS.icmpYes X810.here hx rfl (pc0 := 301) (pc' := 318) rfl (D16 hby 169 rfl) rfl (XT.ii_ge_t c301_821) (by decide) (by decide) k
             rw [Int32.lt_iff_toInt_lt, hla] at c301_821
             have e4 : ix5.toInt = ix3.toInt + w5.toInt := by omega
             rw [e4] at hin5
             have hin6 := own_inv3_end hin5
             rw [hcp] at hin6
             obtain ⟨w9, qw9⟩ : ∃ z : Int32, z = (kk + (1 : Int32)) := ⟨_, rfl⟩
             refine own_s T810 (mkF m 321 #[sA a1, sA a2, sI ix5, sI p2, sI p3, sA a3, sI w1, sI ln, sI w2, sI w3, sI w4, sI w5, sI w6, sI w9, sI w7, sI w8, s16, s17] []) (fun t k => ?_) ?_
             ·refine XT.iincV X810.here hx rfl (1 : Int32) (D16 hby 179 rfl) rfl rfl (l' := #[sA a1, sA a2, sI ix5, sI p2, sI p3, sA a3, sI w1, sI ln, sI w2, sI w3, sI w4, sI w5, sI w6, sI (kk + (1 : Int32)), sI w7, sI w8, s16, s17]) rfl ?_
              rw [qw9] at k
              exact k
             refine own_s T810 (mkF m 189 #[sA a1, sA a2, sI ix5, sI p2, sI p3, sA a3, sI w1, sI ln, sI w2, sI w3, sI w4, sI w5, sI w6, sI w9, sI w7, sI w8, s16, s17] []) (fun t k => ?_) ?_
             ·exact XS.goto X810.here hx rfl (pc0 := 321) (pc' := 189) rfl (D16 hby 180 rfl) (by decide) (by decide) k
             have y1 : w9.toInt = own_A C ll + ((r + 1 : Nat) : Int) := by rw [qw9, own_inc1 (by omega) (by omega), hkk]; omega
             have y2 : ix5.toInt = ix3.toInt + 2 ^ (b - ll) := by omega
             have y3 : ((r + 1 : Nat) : Int) * 2 ^ (b - ll) = (r : Int) * 2 ^ (b - ll) + 2 ^ (b - ll) := by rw [show ((r + 1 : Nat) : Int) = (r : Int) + 1 from by omega, Int.add_mul, Int.one_mul]
             exact ih  T810 h810 _ w9 ix5 (r + 1) g5 _ _ X810 e810 N810 Z810 f811 f812 f813 f814 f815 f816 f817 f819 f818 K820 (One.val rfl) (One.val rfl) y1 (by omega) (by rw [y3]; omega) (by rw [y2]; exact hin6)
           | succ k ih =>
            intro T810 h810 L810 ix5 im g5 X810 e810 N810 Z810 f811 f812 f813 f814 f815 f816 f817 f818 f819 K820 hi5 hik hin5
            refine own_s T810 (mkF m 301 #[sA a1, sA a2, sI ix5, sI p2, sI p3, sA a3, sI w1, sI ln, sI w2, sI w3, sI w4, sI w5, sI w6, sI kk, sI w7, sI w8, s16, s17] [(.int w8), (.int ix5)]) (fun t k => ?_) ?_
            ·refine XS.iloadN X810.here hx rfl (D16 hby 167 rfl) rfl ?_
             exact XS.iload X810.here hx rfl (D16 hby 168 rfl) rfl k
            by_cases c301_822 : ix5 < w8
            ·refine own_s T810 (mkF m 304 #[sA a1, sA a2, sI ix5, sI p2, sI p3, sA a3, sI w1, sI ln, sI w2, sI w3, sI w4, sI w5, sI w6, sI kk, sI w7, sI w8, s16, s17] []) (fun t k => ?_) ?_
             ·exact XS.icmpNo X810.here hx rfl (D16 hby 169 rfl) rfl (XT.ii_ge_f c301_822) k
             rw [Int32.lt_iff_toInt_lt, hla] at c301_822
             refine own_s T810 (mkF m 311 #[sA a1, sA a2, sI ix5, sI p2, sI p3, sA a3, sI w1, sI ln, sI w2, sI w3, sI w4, sI w5, sI w6, sI kk, sI w7, sI w8, s16, s17] [(.int ((g5 ix5.toInt) + w7)), (.int ix5), (.ref a2)]) (fun t k => ?_) ?_
             ·refine XS.aloadN X810.here hx rfl (D16 hby 170 rfl) rfl rfl ?_
              refine XS.iloadN X810.here hx rfl (D16 hby 171 rfl) rfl ?_
              refine XT.dup2 X810.here hx rfl (D16 hby 172 rfl) rfl rfl rfl ?_
              refine OwnA.ldI X810 hx hZ e810 f819 (by omega) (by omega) rfl rfl (D16 hby 173 rfl) ?_
              refine XS.iload X810.here hx rfl (D16 hby 174 rfl) rfl ?_
              exact XS.iadd X810.here hx rfl (D16 hby 175 rfl) rfl k
             obtain ⟨T823, h823, L823, X823, e823, N823, K823, F823, st823⟩ := OwnA.stI X810 hx hZ e810 N810 g2 f819 (by omega) (by omega) (g := (mkF m 311 #[sA a1, sA a2, sI ix5, sI p2, sI p3, sA a3, sI w1, sI ln, sI w2, sI w3, sI w4, sI w5, sI w6, sI kk, sI w7, sI w8, s16, s17] [(.int ((g5 ix5.toInt) + w7)), (.int ix5), (.ref a2)])) rfl rfl (D16 hby 176 rfl)
             refine OwnWp.step st823 ?_
             have Z823 : n0 ≤ h823.size := Nat.le_trans Z810 K823.1
             have f824 := Exa.keep f811 K823
             have f825 := Fld.keep f812 K823 (ninS n1 nin0)
             have f826 := Fld.keep f813 K823 (ninS n1 nin0)
             have f827 := Fld.keep f814 K823 (ninS n1 nin0)
             have f828 := Fld.keep f815 K823 (ninS n1 nin0)
             have f829 := OwnA.keep f816 K823 (ninS n2 nin0)
             have f830 := OwnA.keep f817 K823 (ninS n3 nin0)
             have f831 := OwnA.keep f818 K823 (ninS n4 nin0)
             have F832 : OwnA Z h823 a2 .int tn (fun zi => .int ((ownUpd g5 ix5.toInt ((g5 ix5.toInt) + w7)) zi)) := F823.congr (fun zi _ _ => by exact ownUpd_int g5 _ _ zi)
             have K833 := Keep.trans K820 K823 (allS (Or.inl (List.mem_of_getElem? (i := 0) rfl)) all0)
             show OwnWp p e below s _ _ _ (T823.setTop (mkF m 312 #[sA a1, sA a2, sI ix5, sI p2, sI p3, sA a3, sI w1, sI ln, sI w2, sI w3, sI w4, sI w5, sI w6, sI kk, sI w7, sI w8, s16, s17] []))
             have e0 : g5 ix5.toInt = fw (w5.toInt + (ix5.toInt - ix3.toInt)) := hin5.2.2.2.1 ix5.toInt (Int.le_refl _) (by omega)
             have hv2 : own_isval o C ll (r : Int) p3 B ((g5 ix5.toInt) + w7) := by rw [e0, qw7]; exact own_isvalc (own_isval1 hB hbo hkk (by omega) (by omega) hln (by omega) hsl (hfw _ (by omega) (by omega)))
             have hin6 := own_inv3_upd hin5 (by omega) (own_goodb hCn (l := ll) (r := (r : Int)) (by omega) (by omega) (by omega) hix3 (by omega) (by omega) hv2)
             obtain ⟨w9, qw9⟩ : ∃ z : Int32, z = (ix5 + (1 : Int32)) := ⟨_, rfl⟩
             refine own_s T823 (mkF m 315 #[sA a1, sA a2, sI w9, sI p2, sI p3, sA a3, sI w1, sI ln, sI w2, sI w3, sI w4, sI w5, sI w6, sI kk, sI w7, sI w8, s16, s17] []) (fun t k => ?_) ?_
             ·refine XT.iincV X823.here hx rfl (1 : Int32) (D16 hby 177 rfl) rfl rfl (l' := #[sA a1, sA a2, sI (ix5 + (1 : Int32)), sI p2, sI p3, sA a3, sI w1, sI ln, sI w2, sI w3, sI w4, sI w5, sI w6, sI kk, sI w7, sI w8, s16, s17]) rfl ?_
              rw [qw9] at k
              exact k
             refine own_s T823 (mkF m 298 #[sA a1, sA a2, sI w9, sI p2, sI p3, sA a3, sI w1, sI ln, sI w2, sI w3, sI w4, sI w5, sI w6, sI kk, sI w7, sI w8, s16, s17] []) (fun t k => ?_) ?_
             ·exact XS.goto X823.here hx rfl (pc0 := 315) (pc' := 298) rfl (D16 hby 178 rfl) (by decide) (by decide) k
             have e3 : w9.toInt = ix5.toInt + 1 := by rw [qw9]; exact own_inc1 (by omega) (by omega)
             exact ih  T823 h823 _ w9 (im + 1) (ownUpd g5 ix5.toInt ((g5 ix5.toInt) + w7)) X823 e823 N823 Z823 f824 f825 f826 f827 f828 f829 f830 f831 F832 K833 (by omega) (by omega) (by rw [e3]; exact hin6)
            ·refine own_s T810 (mkF m 318 #[sA a1, sA a2, sI ix5, sI p2, sI p3, sA a3, sI w1, sI ln, sI w2, sI w3, sI w4, sI w5, sI w6, sI kk, sI w7, sI w8, s16, s17] []) (fun t k => ?_) ?_
             ·exact XS.icmpYes X810.here hx rfl (pc0 := 301) (pc' := 318) rfl (D16 hby 169 rfl) rfl (XT.ii_ge_t c301_822) (by decide) (by decide) k
             rw [Int32.lt_iff_toInt_lt, hla] at c301_822
             exact absurd c301_822 (by omega)
          exact hl5 (2 ^ (b - ll) : Int).toNat T799 h799 _ ix3 0 gcp X799 e799 N799 Z799 f800 f801 f802 f803 f804 f805 f806 f807 f809 K808 (by omega) (by omega) hin4
       ·refine own_s T748 (mkF m 324 #[sA a1, sA a2, sI ix3, sI p2, sI p3, sA a3, sI w1, sI ln, sI w2, sI w3, sI w4, sI w5, sI w6, sI kk, t14, t15, s16, s17] []) (fun t k => ?_) ?_
        ·exact XS.icmpYes X748.here hx rfl (pc0 := 193) (pc' := 324) rfl (D16 hby 109 rfl) rfl (XT.ii_ge_t c193_760) (by decide) (by decide) k
        rw [Int32.lt_iff_toInt_lt] at c193_760
        exact absurd c193_760 (by omega)
     exact hl3 (C (ll : Int)).toNat T708 h689 _ w2 ix 0 g s14 s15 X708 e708 N704 Z689 f690 f691 f692 f693 f694 f695 f696 f697 f698 K699 hs14 hs15 (by omega) (by have := hCn ll; omega) (by rw [hix]; show _ = _ + (0 : Int) * _; rw [Int.zero_mul]; omega) hin
 exact hloop (Nat.min b mx + 1 - sh) T688 h0 _ p1 shI sh f _ _ _ _ _ _ _ _ _ _ X688 e688 N0 Z0 E0 F0 F1 F2 F3 A0 A1 A2 A3 K0 One.u One.u One.u One.u One.u One.u One.u One.u One.u One.u hshI (Nat.le_refl _) rfl (Or.inl rfl) (by rw [own_Sum_zero hz sh (Nat.le_refl _)]; omega) (own_inv0 f C o b _ B _)
/-! following tables, the fill -/
def own_low (f : Int → Int32) (n : Int32) (B : Int) : Prop := ∀ i : Int, 0 ≤ i → i < n.toInt → (f i).toInt % 65536 ≤ B
theorem own_ffo {f g : Int → Int32} {C : Int → Int} {o : Int → Int32} {b : Nat} {B i0 e e' : Int} {sl n : Int32} (hf : own_low f n (79 + B)) (hB : 0 ≤ B) (hs : sl.toInt ≠ 0) (H : own_inv f g C o b sl.toInt B i0 e) : own_low (own_rng g e e' (0 : Int32)) n (79 + B) := by
  intro i h1 h2
  by_cases q : e ≤ i ∧ i < e'
  · rw [own_rng_in q.1 q.2, show (0 : Int32).toInt = 0 from rfl]; omega
  · rw [own_rng_out (by omega)]
    by_cases r : i0 ≤ i ∧ i < e
    · exact (H.2.1 i r.1 r.2).1 hs
    · rw [H.2.2 i (by omega)]; exact hf i h1 h2
def own_room (fb mx : Nat) : Int := 2 ^ fb + (if fb < mx then 2 ^ mx else 0)
theorem own_room_le {fb mx : Nat} (h1 : fb ≤ 12) (h2 : mx ≤ 15) : 2 ^ fb ≤ own_room fb mx ∧ own_room fb mx ≤ 36864 := by
  have a := own_p2le h1
  have b := own_p2le h2
  have c := own_p2 mx
  rw [show (2 : Int) ^ 12 = 4096 from by decide] at a
  rw [show (2 : Int) ^ 15 = 32768 from by decide] at b
  unfold own_room
  split <;> omega
def own_invs (f g : Int → Int32) (C : Int → Int) (o : Int → Int32) (b : Nat) (slot B i0 s e : Int) : Prop := s ≤ e ∧ (∀ q : Int, s ≤ q → q < e → own_good C o b slot B (q - i0) (g q)) ∧ ∀ q : Int, q < s ∨ e ≤ q → g q = f q
theorem own_invs0 (f : Int → Int32) (C : Int → Int) (o : Int → Int32) (b : Nat) (slot B i0 s : Int) : own_invs f f C o b slot B i0 s s := ⟨Int.le_refl _, fun q h1 h2 => absurd h2 (by omega), fun _ _ => rfl⟩
theorem own_invs_rng {f g : Int → Int32} {C : Int → Int} (hC : ∀ t, 0 ≤ C t) {o : Int → Int32} {b : Nat} {B i0 s e e' : Int} {sl x : Int32} {l : Nat} {r : Int} (H : own_invs f g C o b sl.toInt B i0 s e) (l1 : 1 ≤ l) (r0 : 0 ≤ r) (r1 : r < C (l : Int)) (he : e = i0 + own_Sum C b l + r * 2 ^ (b - l)) (he' : e' = e + 2 ^ (b - l)) (hx : own_isval o C l r sl B x) : own_invs f (own_rng g e e' x) C o b sl.toInt B i0 s e' := by
  have p := own_p2 (b - l)
  obtain ⟨a, c, d⟩ := H
  refine ⟨by omega, fun q h1 h2 => ?_, fun q hq => ?_⟩
  · rcases Int.lt_or_le q e with z | z
    · rw [own_rng_out (Or.inl z)]; exact c q h1 z
    · rw [own_rng_in z h2]; exact own_goodb hC l1 r0 r1 he z (by omega) hx
  · rw [own_rng_out (by omega)]; exact d q (by omega)
/-- the pointers to the second tables -/
def own_ptr (f g : Int → Int32) (fb ex : Nat) (E m : Int) : Prop := (∀ q : Int, E ≤ q → q < E + m → (g q).toInt = (2 ^ fb + (q - E) * 2 ^ ex) * 256 + (ex : Int)) ∧ ∀ q : Int, q < E ∨ E + m ≤ q → g q = f q
theorem own_ptr0 (f : Int → Int32) (fb ex : Nat) (E : Int) : own_ptr f f fb ex E 0 := ⟨fun q h1 h2 => absurd h2 (by omega), fun _ _ => rfl⟩
theorem own_ptrv {sb ex : Int32} {S : Int} {e : Nat} (hsb : sb.toInt = S) (h0 : 0 ≤ S) (h1 : S ≤ 40000) (hex : ex.toInt = (e : Int)) (he : e ≤ 15) : ((sb <<< ((8 : Int32) &&& 31)) ||| ex).toInt = S * 256 + (e : Int) := by
  have a := c_ishl sb 8 8 (by decide)
  have r := rng32 (sb <<< ((8 : Int32) &&& 31))
  have v : (sb <<< ((8 : Int32) &&& 31)).toInt = S * 256 := by rw [hsb, show ((2 ^ 8 : Nat) : Int) = 256 from rfl] at a; omega
  have b := c_or (sb <<< ((8 : Int32) &&& 31)) ex 8 (by decide) 256 rfl (by rw [v]; omega) (by omega) (by omega)
  have r2 := rng32 ((sb <<< ((8 : Int32) &&& 31)) ||| ex)
  omega
theorem own_ptr_upd {f g : Int → Int32} {fb ex : Nat} {E m : Int} {x : Int32} (H : own_ptr f g fb ex E m) (hm : 0 ≤ m) (hx : x.toInt = (2 ^ fb + m * 2 ^ ex) * 256 + (ex : Int)) : own_ptr f (ownUpd g (E + m) x) fb ex E (m + 1) := by
  refine ⟨fun q h1 h2 => ?_, fun q hq => ?_⟩
  · by_cases z : q = E + m
    · rw [z, ownUpd_same, hx, show E + m - E = m from by omega]
    · rw [ownUpd_ne _ _ _ z]; exact H.1 q h1 (by omega)
  · rw [ownUpd_ne _ _ _ (by omega)]; exact H.2 q (by omega)
def own_filled (C : Int → Int) (o : Int → Int32) (fb mx : Nat) (fe : Int → Int32) : Prop :=
  (∀ q : Int, 0 ≤ q → q < own_Sum C fb (Nat.min fb mx + 1) → own_good C o fb 0 158 q (fe q)) ∧
  (mx ≤ fb → ∀ q : Int, own_Sum C fb (Nat.min fb mx + 1) ≤ q → q < 2 ^ fb → fe q = 0) ∧
  (fb < mx → (∀ q : Int, own_Sum C fb (fb + 1) ≤ q → q < 2 ^ fb → (fe q).toInt = (2 ^ fb + (q - own_Sum C fb (fb + 1)) * 2 ^ (mx - fb)) * 256 + ((mx - fb : Nat) : Int)) ∧
    ∀ q : Int, 2 ^ fb ≤ q → q < 2 ^ fb + (own_Sum C mx (mx + 1) - own_Sum C mx (fb + 1)) → own_good C o mx 0 158 (q - (2 ^ fb - own_Sum C mx (fb + 1))) (fe q))
theorem own_good0 {C : Int → Int} {o : Int → Int32} {b : Nat} {slot slot' B q q' : Int} {x : Int32} (h : own_good C o b slot B q x) (hs : slot = slot') (hq : q = q') : own_good C o b slot' B q' x := by rw [← hs, ← hq]; exact h
theorem own_fillS {C : Int → Int} {o : Int → Int32} {fb mx : Nat} {fe : Int → Int32} {e : Int} (hm : mx ≤ fb) (he : e = own_Sum C fb (Nat.min fb mx + 1)) (h : ∀ q : Int, 0 ≤ q → q < e → own_good C o fb 0 158 q (fe q)) {e' : Int} (he' : e' = 2 ^ fb) : own_filled C o fb mx (own_rng fe e e' (0 : Int32)) := by
  subst he he'
  refine ⟨fun q h1 h2 => ?_, fun _ q h1 h2 => own_rng_in h1 h2, fun q => absurd q (by omega)⟩
  rw [own_rng_out (Or.inl h2)]; exact h q h1 h2
theorem own_fillL {C : Int → Int} {o : Int → Int32} {fb mx : Nat} {f0 f1 fe : Int → Int32} {E : Int} (hm : fb < mx) (hE : E = own_Sum C fb (Nat.min fb mx + 1)) (hE2 : E ≤ 2 ^ fb) (h : ∀ q : Int, 0 ≤ q → q < E → own_good C o fb 0 158 q (f0 q)) (hp : own_ptr f0 f1 fb (mx - fb) E (2 ^ fb - E))
    (hi : own_invs f1 fe C o mx (0 : Int32).toInt 158 (2 ^ fb - own_Sum C mx (fb + 1)) (2 ^ fb) (2 ^ fb + (own_Sum C mx (mx + 1) - own_Sum C mx (fb + 1)))) : own_filled C o fb mx fe := by
  have e : Nat.min fb mx = fb := Nat.min_eq_left (by omega)
  have e' : own_Sum C fb (fb + 1) = E := by rw [hE, e]
  refine ⟨fun q h1 h2 => ?_, fun q => absurd q (by omega), fun _ => ⟨fun q h1 h2 => ?_, fun q h1 h2 => hi.2.1 q h1 h2⟩⟩
  · rw [hi.2.2 q (by omega), hp.2 q (by omega)]; exact h q h1 (by omega)
  · rw [e'] at *
    rw [hi.2.2 q (by omega), hp.1 q h1 (by omega)]
theorem own_Sum_x {C : Int → Int} {fb mx : Nat} (h : fb < mx) : own_Sum C mx (fb + 1) = own_Sum C fb (fb + 1) * 2 ^ (mx - fb) := by
  have := own_Sum_shift C fb (mx - fb) (fb + 1) (Nat.le_refl _)
  rwa [show fb + (mx - fb) = mx from by omega] at this
theorem own_short0 {C : Int → Int} {mx : Nat} (hm : own_mx C mx) {sh : Int32} (h : own_shA C (mx + 1) sh) (hs : ¬ (0 : Int32) < sh) : mx = 0 := by
  rw [Int32.lt_iff_toInt_lt, show (0 : Int32).toInt = 0 from rfl] at hs
  rcases h with q | q
  · rcases hm.2.2 with e | e
    · exact e
    · by_cases z : mx = 0
      · exact z
      · exact absurd (q.2 (mx : Int) (by omega) (by omega)) e
  · have := q.1; omega
theorem own_short1 {C : Int → Int} {mx : Nat} {sh : Int32} (h : own_shA C (mx + 1) sh) (hs : (0 : Int32) < sh) : 1 ≤ sh.toInt.toNat ∧ sh.toInt.toNat ≤ mx ∧ sh.toInt = (sh.toInt.toNat : Int) ∧ ∀ t : Int, 1 ≤ t → t < (sh.toInt.toNat : Int) → C t = 0 := by
  rw [Int32.lt_iff_toInt_lt, show (0 : Int32).toInt = 0 from rfl] at hs
  rcases h with q | q
  · rw [q.1] at hs; exact absurd hs (by decide)
  · have := q.1
    have := q.2.1
    exact ⟨by omega, by omega, by omega, fun t h1 h2 => q.2.2.2 t h1 (by omega)⟩
theorem own_low_eq {f : Int → Int32} {n : Int32} {B B' : Int} (h : own_low f n B) (e : B = B') : own_low f n B' := e ▸ h
theorem own_sz {p1 s5 : Int32} {fb : Nat} (h : p1.toInt = (fb : Int)) (h12 : fb ≤ 15) (q : s5 = (1 : Int32) <<< (p1 &&& 31)) : s5.toInt = 2 ^ fb := by
  rw [q, own_shl1 (by omega) (by omega), h]; rfl
theorem own_roomL {p1 s5 mI rm : Int32} {fb mx : Nat} (hs : s5.toInt = 2 ^ fb) (hm : mI.toInt = (mx : Int)) (h12 : fb ≤ 12) (h15 : mx ≤ 15) (h1 : p1.toInt = (fb : Int)) (c : p1 < mI) (q : rm = s5 + ((1 : Int32) <<< (mI &&& 31))) : rm.toInt = own_room fb mx := by
  rw [Int32.lt_iff_toInt_lt] at c
  have e := own_sz (p1 := mI) (s5 := (1 : Int32) <<< (mI &&& 31)) hm h15 rfl
  have a := own_p2le h12
  have b := own_p2le h15
  have d := own_p2 fb
  have d2 := own_p2 mx
  rw [show (2 : Int) ^ 12 = 4096 from by decide] at a
  rw [show (2 : Int) ^ 15 = 32768 from by decide] at b
  rw [q, own_add (by omega) (by omega), hs, e]
  unfold own_room
  rw [if_pos (by omega)]
theorem own_roomS {p1 s5 mI : Int32} {fb mx : Nat} (hs : s5.toInt = 2 ^ fb) (hm : mI.toInt = (mx : Int)) (h1 : p1.toInt = (fb : Int)) (c : ¬ p1 < mI) : s5.toInt = own_room fb mx := by
  rw [Int32.lt_iff_toInt_lt] at c
  unfold own_room
  rw [hs, if_neg (by omega)]; omega
theorem own_2sh {p1 sh : Int32} {fb : Nat} (h1 : p1.toInt = (fb : Int)) (h12 : fb ≤ 12) (h0 : 0 ≤ sh.toInt) (h15 : sh.toInt ≤ 15) : (p1 - ((2 : Int32) * sh)).toInt = (fb : Int) - 2 * sh.toInt := by
  have m := c_imul 2 sh
  rw [show (2 : Int32).toInt = 2 from rfl] at m
  have r := rng32 (2 * sh)
  rw [own_sub (by omega) (by omega)]
  omega
theorem own_sbb {fb mx : Nat} (h : fb < mx) (h15 : mx ≤ 15) {m : Nat} (hm : (m : Int) ≤ 2 ^ fb) : 0 ≤ (m : Int) * 2 ^ (mx - fb) ∧ (m : Int) * 2 ^ (mx - fb) ≤ 2 ^ mx := by
  have p := own_p2 (mx - fb)
  have e : (2 : Int) ^ mx = 2 ^ fb * 2 ^ (mx - fb) := by rw [← Int.pow_add, show fb + (mx - fb) = mx from by omega]
  rw [e]
  exact ⟨Int.mul_nonneg (by omega) (by omega), Int.mul_le_mul_of_nonneg_right hm (by omega)⟩
theorem own_C16 {Lf : Int → Int32} (hL : ∀ i : Int, 0 ≤ i → i < 256 → 0 ≤ (Lf i).toInt ∧ (Lf i).toInt < 16) : own_A (own_num (own_L Lf) 256) 16 ≤ 256 := by
  have t := own_total (L := own_L Lf) hL 256 (Nat.le_refl _)
  have n := own_num_nonneg (own_L Lf) 256 0
  omega

def dl15 : List (Nat × Instr × Nat) := [(0, .iconst 1, 1), (1, .iload_n 2, 1), (2, .ishl, 1), (3, .istore 5, 2), (5, .aload_n 0, 1), (6, .aload_n 1, 1), (7, .iload 5, 2), (9, .iload_n 2, 1), (10, .iload_n 3, 1), (11, .aload 4, 2), (13, .invokevirtual 83, 3), (16, .istore 6, 2), (18, .aload_n 1, 1), (19, .iload 6, 2), (21, .iload 5, 2), (23, .iload 5, 2), (25, .iadd, 1), (26, .iconst 0, 1), (27, .invokestatic 91, 3), (30, .return_, 1)]
theorem da15 : ∀ x ∈ dl15, decode prog_6_method_5_code x.1 = .ok x.2 := by decide +kernel
theorem D15 {c : Code} (h : c.code = prog_6_method_5_code) (i : Nat) {pc : Nat} {ins : Instr} {n : Nat} (e : dl15[i]? = some (pc, ins, n)) : decode c.code pc = .ok (ins, n) := by rw [h]; exact da15 (pc, ins, n) (List.mem_of_getElem? e)
theorem pn_15 : plainFor Mn14 = true := plainFor_of_name (by first | (simp [plainName, overriddenIn]; done) | decide +kernel)
theorem pd_15 : parseMethodDescriptor "([III[I)V" = some ⟨[(.array .int), .int, .int, (.array .int)], none⟩ := by decide +kernel
theorem ef_15N (m : MethodId) (x0 : Addr) (x1 : Addr) (x2 : Int32) (x3 : Int32) : entryFrame m #[(.ref x0), (.ref x1), (.int x2), (.int x3), .null] 7 = mkF m 0 #[.val (.ref x0), .val (.ref x1), .val (.int x2), .val (.int x3), .val .null, .unset, .unset] [] := by first | (simp [entryFrame, mkF, argsToLocals, Value.category, maxLocals]; done) | rfl
def Q15N (Z : State) (a1 : Addr) (a2 : Addr) (p1 : Int32) (p2 : Int32) (od : Addr) (pl : Addr) (o : Int → Int32) (gp : Int → Int32) (shI : Int32) (mxI : Int32) (C : Int → Int) (b : Nat) (mx : Nat) (sh : Nat) (tn : Int32) (f : Int → Int32) (B : Int) (h0 : Heap) (n0 : Nat) (v : Option Value) (h : Heap) (L : List Loc) : Prop := v = none ∧ Fr n0 L ∧ Keep h0 h [a2] ∧ ∃ g9 : Int → Int32, OwnA Z h a2 .int tn (fun i => .int (g9 i)) ∧ own_low g9 tn (79 + B)
set_option maxRecDepth 65536 in
set_option maxHeartbeats 40000000 in
theorem rm15N (l : Launch) (Z : State) (a0 : Array Value) (hw : ∀ d ∈ tables_1, d.before a0 Z = true) (ws : List Jvm.Cond) (a1 : Addr) (a2 : Addr) (p1 : Int32) (p2 : Int32) (od : Addr) (pl : Addr) (o : Int → Int32) (gp : Int → Int32) (shI : Int32) (mxI : Int32) (C : Int → Int) (b : Nat) (mx : Nat) (sh : Nat) (tn : Int32) (f : Int → Int32) (B : Int) (h0 : Heap) (n0 : Nat) (Z0 : n0 ≤ h0.size) (g2 : n0 ≤ a2) (n1 : a1 ≠ a2) (n2 : od ≠ a2) (n3 : pl ≠ a2) (E0 : Exa Z h0 a1 DTn) (F0 : Fld Z h0 a1 DTn "order" "[I" (.ref od)) (F1 : Fld Z h0 a1 DTn "places" "[I" (.ref pl)) (F2 : Fld Z h0 a1 DTn "shortest" "I" (.int shI)) (F3 : Fld Z h0 a1 DTn "longest" "I" (.int mxI)) (A0 : OwnA Z h0 od .int (256 : Int32) (fun i => .int (o i))) (A1 : OwnA Z h0 pl .int (17 : Int32) (fun i => .int (gp i))) (A2 : OwnA Z h0 a2 .int tn (fun i => .int (f i))) (hC0 : ∀ t, 0 ≤ C t ∧ C t ≤ 256) (hA16 : own_A C 16 ≤ 256) (hpl : own_plA C 17 gp) (hbo : own_byte o) (hshI : shI.toInt = (sh : Int)) (hsh1 : 1 ≤ sh) (hz : ∀ t : Int, 1 ≤ t → t < (sh : Int) → C t = 0) (hmI : mxI.toInt = (mx : Int)) (hm15 : mx ≤ 15) (hbt : p1.toInt = (b : Int)) (hb1 : 1 ≤ b) (hb11 : b ≤ 11) (htn : 2 ^ (b + 1) ≤ tn.toInt) (htn2 : tn.toInt ≤ 100000) (hS : own_Sum C b (Nat.min b mx + 1) ≤ 2 ^ b) (hsl : p2 = 1 ∨ p2 = 2) (hB0 : 0 ≤ B) (hB : B ≤ 158) (hlo : own_low f tn (79 + B)) :
  MetFree l Mn14 (head1 (Jvm.Cond.code Mn14 prog_6_method_5_code 7 none :: ws) Rm7) (fun a U => a = #[(.ref a1), (.ref a2), (.int p1), (.int p2), .null] ∧ Z.Warmed39 U.vm ∧ U.heap = h0) (fun _ _ _ _ _ => True) (fun _ U oc U' => ∃ v L, oc = .returned v ∧ Q15N Z a1 a2 p1 p2 od pl o gp shI mxI C b mx sh tn f B h0 n0 v U'.heap L ∧ FrameEnd U oc U' L Rm7.cells Rm7.slots) := by
 refine MetFree.of_bodySF pn_15 hisR ?_
 intro p e s m args below meth c s₁ Bd hml0 hP hK
 obtain ⟨rfl, hZ, hh⟩ := hP
 have hx := Bd.exec
 have hby := Bd.bytes
 have hlk := BodyLoose.notSynchronized Bd
 have hml : c.maxLocals = 7 := hml0
 have hown : s.vm.findClass DTn = some m.cls := findClass_of_methodNamed Bd.named
 have hnm := (name_of_methodNamed Bd.named Bd.method).1
 have X0 : Stand p l e Rm7 s m #[(.ref a1), (.ref a2), (.int p1), (.int p2), .null] below meth c s₁ [] 0 0 := Stand.of_body Bd
 have e0 : s₁.heap = h0 := by rw [← hh, Bd.state]; rfl
 have N0 := Fr.nil n0
 show OwnWp p e below s Rm7.cells Rm7.slots (Q15N Z a1 a2 p1 p2 od pl o gp shI mxI C b mx sh tn f B h0 n0) (s₁.setTop (entryFrame m #[(.ref a1), (.ref a2), (.int p1), (.int p2), .null] 7))
 refine OwnWp.cast (ef_15N m a1 a2 p1 p2) ?_
 show OwnWp p e below s _ _ _ (s₁.setTop (mkF m 0 #[sA a1, sA a2, sI p1, sI p2, sN, sU, sU] []))
 have K0 := Keep.refl h0 [a2]
 have hsel834 := own_selpriv (y := Mn12) (z := Mn13) rfl hown (args := #[(.ref a1), (.ref a2), (.int p1), (.int p2), .null]) (mvT hZ (own_hw hw 26 rfl)) (Cond.privateMethod_at (mvP hZ (own_hw hw 93 rfl) (args := #[]))) (mvT hZ (own_hw hw 92 rfl)) (by decide)
 obtain ⟨w1, qw1⟩ : ∃ z : Int32, z = ((1 : Int32) <<< (p1 &&& 31)) := ⟨_, rfl⟩
 refine own_s s₁ (mkF m 5 #[sA a1, sA a2, sI p1, sI p2, sN, sI w1, sU] []) (fun t k => ?_) ?_
 ·refine XT.iconstV X0.here hx rfl (1 : Int32) (D15 hby 0 rfl) rfl ?_
  refine XS.iloadN X0.here hx rfl (D15 hby 1 rfl) rfl ?_
  refine XT.ishl X0.here hx rfl (D15 hby 2 rfl) rfl ?_
  refine XS.istore X0.here hx rfl (D15 hby 3 rfl) rfl (l' := #[sA a1, sA a2, sI p1, sI p2, sN, sI ((1 : Int32) <<< (p1 &&& 31)), sU]) rfl ?_
  rw [qw1] at k
  exact k
 refine own_s s₁ (mkF m 13 #[sA a1, sA a2, sI p1, sI p2, sN, sI w1, sU] [.null, (.int p2), (.int p1), (.int w1), (.ref a2), (.ref a1)]) (fun t k => ?_) ?_
 ·refine XS.aloadN X0.here hx rfl (D15 hby 4 rfl) rfl rfl ?_
  refine XS.aloadN X0.here hx rfl (D15 hby 5 rfl) rfl rfl ?_
  refine XS.iload X0.here hx rfl (D15 hby 6 rfl) rfl ?_
  refine XS.iloadN X0.here hx rfl (D15 hby 7 rfl) rfl ?_
  refine XS.iloadN X0.here hx rfl (D15 hby 8 rfl) rfl ?_
  exact XS.aload X0.here hx rfl (D15 hby 9 rfl) rfl rfl k
 have hs5 : w1.toInt = 2 ^ b := by rw [qw1, own_shl1 (by omega) (by omega), hbt]; rfl
 have hpp := own_p2 b
 have hps := own_p2s b
 have hp11 := own_p2le hb11
 rw [show (2 : Int) ^ 11 = 2048 from by decide] at hp11
 obtain ⟨cl835, hcl835, hst835⟩ := Exa.cell E0
 obtain ⟨_, _, ⟨T835, L835, k835, n835⟩, -, X835, ⟨Lc835, hQ835, l835, y835, z835⟩, st835⟩ := X0.privateBack hx (y := Mn12) hown (mvT hZ (own_hw hw 91 rfl)) (mvT hZ (own_hw hw 92 rfl)) hsel834 (Cond.privateMethod_at (mvP hZ (own_hw hw 93 rfl) (args := #[]))) (mvT hZ (own_hw hw 94 rfl)) (by decide) (backOf (W := 0) (rm16N l Z a0 hw [] a1 a2 w1 p1 p2  od pl o gp shI mxI C b mx sh tn f B  h0 n0 Z0 g2 n1 n2 n3  E0 F0 F1 F2 F3 A0 A1 A2  hC0 hA16 hpl hbo hshI hsh1 hz hmI hm15 hbt hb1 (by omega) (by omega) (by omega) htn2 hS (Or.inr hsl) hB0 ) hZ (own_hw hw 94 rfl) (own_hw hw 4 rfl) (by decide) (by decide)) (g := (mkF m 13 #[sA a1, sA a2, sI p1, sI p2, sN, sI w1, sU] [.null, (.int p2), (.int p1), (.int w1), (.ref a2), (.ref a1)])) rfl (by rw [hml]; rfl) (Steps.refl _) (a := a1) (by rw [e0]; exact hcl835) hst835 (argsL := [(.ref a2), (.int w1), (.int p1), (.int p2), .null]) (rest := []) (lenOf pd_16 rfl) rfl (by show 2 * 0 + _ ≤ _; exact Nat.le_of_eq rfl) (D15 hby 10 rfl) (fun _ _ => ⟨rfl, e0, (by dsimp only [Pt.cells]; decide), (by dsimp only [Pt.slots]; decide)⟩)
 dsimp only [Pt.U, Pt.locs, Pt.cells, Pt.slots] at X835 l835 y835 z835 st835 hQ835
 subst l835 y835 z835
 obtain ⟨e9835, g9835, rfl, Nc835, Kc835, aa835, he835, hin835⟩ := hQ835
 have N835 := Fr.app N0 Nc835
 refine OwnWp.go st835 ?_
 have Z835 : n0 ≤ T835.heap.size := Nat.le_trans Z0 Kc835.1
 have f836 := Exa.keep E0 Kc835
 have f837 := Fld.keep F0 Kc835 (ninS n1 nin0)
 have f838 := Fld.keep F1 Kc835 (ninS n1 nin0)
 have f839 := Fld.keep F2 Kc835 (ninS n1 nin0)
 have f840 := Fld.keep F3 Kc835 (ninS n1 nin0)
 have f841 := OwnA.keep A0 Kc835 (ninS n2 nin0)
 have f842 := OwnA.keep A1 Kc835 (ninS n3 nin0)
 have K844 := Keep.trans K0 Kc835 (allS (Or.inl (List.mem_of_getElem? (i := 0) rfl)) all0)
 refine own_s T835 (mkF m 27 #[sA a1, sA a2, sI p1, sI p2, sN, sI w1, sI e9835] [(.int (0 : Int32)), (.int (w1 + w1)), (.int e9835), (.ref a2)]) (fun t k => ?_) ?_
 ·refine XS.istore X835.here hx rfl (D15 hby 11 rfl) rfl (l' := #[sA a1, sA a2, sI p1, sI p2, sN, sI w1, sI e9835]) rfl ?_
  refine XS.aloadN X835.here hx rfl (D15 hby 12 rfl) rfl rfl ?_
  refine XS.iload X835.here hx rfl (D15 hby 13 rfl) rfl ?_
  refine XS.iload X835.here hx rfl (D15 hby 14 rfl) rfl ?_
  refine XS.iload X835.here hx rfl (D15 hby 15 rfl) rfl ?_
  refine XS.iadd X835.here hx rfl (D15 hby 16 rfl) rfl ?_
  exact XT.iconstV X835.here hx rfl (0 : Int32) (D15 hby 17 rfl) rfl k
 obtain ⟨w2, qw2⟩ : ∃ z : Int32, z = (w1 + w1) := ⟨_, rfl⟩
 rw [← qw2]
 show OwnWp p e below s _ _ _ (T835.setTop (mkF m 27 #[sA a1, sA a2, sI p1, sI p2, sN, sI w1, sI e9835] [(.int (0 : Int32)), (.int w2), (.int e9835), (.ref a2)]))
 have hhi : w2.toInt = 2 ^ (b + 1) := by rw [qw2, own_add (by omega) (by omega), hps]; omega
 have hge := hin835.1
 have hlo9 := hlo
 obtain ⟨_, _, ⟨T845, L845, k845, n845⟩, -, X845, ⟨Lc845, hQ845, l845, y845, z845⟩, st845⟩ := Jvm.LawKit.callS X835 hx (y := Mn4) hown (mvT hZ (own_hw hw 68 rfl)) (mvT hZ (own_hw hw 69 rfl)) (mvT hZ (own_hw hw 34 rfl)) (mvT hZ (own_hw hw 70 rfl)) (by decide) (backOf (W := 0) (rm11 l Z a0 hw [] a2 e9835 w2 (0 : Int32) tn g9835 T835.heap n0 Z835 g2 aa835 (by omega) (by omega) (by omega)) hZ (own_hw hw 70 rfl) (own_hw hw 34 rfl) (by decide) (by decide)) (g := (mkF m 27 #[sA a1, sA a2, sI p1, sI p2, sN, sI w1, sI e9835] [(.int (0 : Int32)), (.int w2), (.int e9835), (.ref a2)])) rfl (by rw [hml]; rfl) (argsL := [(.ref a2), (.int e9835), (.int w2), (.int (0 : Int32))]) (rest := []) (lenOf pd_11 rfl) rfl (by show 2 * 0 + _ ≤ _; exact Nat.le_of_eq rfl) (D15 hby 18 rfl) (fun _ _ => ⟨rfl, (rfl : T835.heap = T835.heap), (by dsimp only [Pt.cells]; decide), (by dsimp only [Pt.slots]; decide)⟩)
 dsimp only [Pt.U, Pt.locs, Pt.cells, Pt.slots] at X845 l845 y845 z845 st845 hQ845
 subst l845 y845 z845
 obtain ⟨rfl, Nc845, Kc845, aa845⟩ := hQ845
 have N845 := Fr.app N835 Nc845
 refine OwnWp.step st845 ?_
 have Z845 : n0 ≤ T845.heap.size := Nat.le_trans Z835 Kc845.1
 have f846 := Exa.keep f836 Kc845
 have f847 := Fld.keep f837 Kc845 (ninS n1 nin0)
 have f848 := Fld.keep f838 Kc845 (ninS n1 nin0)
 have f849 := Fld.keep f839 Kc845 (ninS n1 nin0)
 have f850 := Fld.keep f840 Kc845 (ninS n1 nin0)
 have f851 := OwnA.keep f841 Kc845 (ninS n2 nin0)
 have f852 := OwnA.keep f842 Kc845 (ninS n3 nin0)
 have K854 := Keep.trans K844 Kc845 (allS (Or.inl (List.mem_of_getElem? (i := 0) rfl)) all0)
 show OwnWp p e below s _ _ _ (T845.setTop (mkF m 30 #[sA a1, sA a2, sI p1, sI p2, sN, sI w1, sI e9835] []))
 have hsn : p2.toInt ≠ 0 := by rcases hsl with rfl | rfl <;> decide
 refine OwnWp.retV X845 hx hlk Bd.returns (D15 hby 19 rfl) (by decide) (by decide) ?_
 rw [(rfl : T845.heap = T845.heap)]
 exact ⟨rfl, N845, K854, _, aa845, own_ffo hlo hB0 hsn hin835⟩
theorem ef_15A (m : MethodId) (x0 : Addr) (x1 : Addr) (x2 : Int32) (x3 : Int32) (x4 : Addr) : entryFrame m #[(.ref x0), (.ref x1), (.int x2), (.int x3), (.ref x4)] 7 = mkF m 0 #[.val (.ref x0), .val (.ref x1), .val (.int x2), .val (.int x3), .val (.ref x4), .unset, .unset] [] := by first | (simp [entryFrame, mkF, argsToLocals, Value.category, maxLocals]; done) | rfl
def Q15A (Z : State) (a1 : Addr) (a2 : Addr) (p1 : Int32) (p2 : Int32) (a3 : Addr) (od : Addr) (pl : Addr) (o : Int → Int32) (gp : Int → Int32) (shI : Int32) (mxI : Int32) (C : Int → Int) (b : Nat) (mx : Nat) (sh : Nat) (tn : Int32) (f : Int → Int32) (B : Int) (fn : Int32) (fw : Int → Int32) (h0 : Heap) (n0 : Nat) (v : Option Value) (h : Heap) (L : List Loc) : Prop := v = none ∧ Fr n0 L ∧ Keep h0 h [a2] ∧ ∃ g9 : Int → Int32, OwnA Z h a2 .int tn (fun i => .int (g9 i)) ∧ own_low g9 tn (79 + B)
set_option maxRecDepth 65536 in
set_option maxHeartbeats 40000000 in
theorem rm15A (l : Launch) (Z : State) (a0 : Array Value) (hw : ∀ d ∈ tables_1, d.before a0 Z = true) (ws : List Jvm.Cond) (a1 : Addr) (a2 : Addr) (p1 : Int32) (p2 : Int32) (a3 : Addr) (od : Addr) (pl : Addr) (o : Int → Int32) (gp : Int → Int32) (shI : Int32) (mxI : Int32) (C : Int → Int) (b : Nat) (mx : Nat) (sh : Nat) (tn : Int32) (f : Int → Int32) (B : Int) (fn : Int32) (fw : Int → Int32) (h0 : Heap) (n0 : Nat) (Z0 : n0 ≤ h0.size) (g2 : n0 ≤ a2) (n1 : a1 ≠ a2) (n2 : od ≠ a2) (n3 : pl ≠ a2) (n4 : a3 ≠ a2) (E0 : Exa Z h0 a1 DTn) (F0 : Fld Z h0 a1 DTn "order" "[I" (.ref od)) (F1 : Fld Z h0 a1 DTn "places" "[I" (.ref pl)) (F2 : Fld Z h0 a1 DTn "shortest" "I" (.int shI)) (F3 : Fld Z h0 a1 DTn "longest" "I" (.int mxI)) (A0 : OwnA Z h0 od .int (256 : Int32) (fun i => .int (o i))) (A1 : OwnA Z h0 pl .int (17 : Int32) (fun i => .int (gp i))) (A2 : OwnA Z h0 a2 .int tn (fun i => .int (f i))) (A3 : OwnA Z h0 a3 .int fn (fun i => .int (fw i))) (hC0 : ∀ t, 0 ≤ C t ∧ C t ≤ 256) (hA16 : own_A C 16 ≤ 256) (hpl : own_plA C 17 gp) (hbo : own_byte o) (hshI : shI.toInt = (sh : Int)) (hsh1 : 1 ≤ sh) (hz : ∀ t : Int, 1 ≤ t → t < (sh : Int) → C t = 0) (hmI : mxI.toInt = (mx : Int)) (hm15 : mx ≤ 15) (hbt : p1.toInt = (b : Int)) (hb1 : 1 ≤ b) (hb11 : b ≤ 11) (htn : 2 ^ (b + 1) ≤ tn.toInt) (htn2 : tn.toInt ≤ 100000) (hS : own_Sum C b (Nat.min b mx + 1) ≤ 2 ^ b) (hsl : p2 = 1 ∨ p2 = 2) (hB0 : 0 ≤ B) (hB : B ≤ 158) (hlo : own_low f tn (79 + B)) (hfw : own_low fw fn B) (hfn : 2 ^ b ≤ fn.toInt) (hfn2 : fn.toInt ≤ 100000) :
  MetFree l Mn14 (head1 (Jvm.Cond.code Mn14 prog_6_method_5_code 7 none :: ws) Rm7) (fun a U => a = #[(.ref a1), (.ref a2), (.int p1), (.int p2), (.ref a3)] ∧ Z.Warmed39 U.vm ∧ U.heap = h0) (fun _ _ _ _ _ => True) (fun _ U oc U' => ∃ v L, oc = .returned v ∧ Q15A Z a1 a2 p1 p2 a3 od pl o gp shI mxI C b mx sh tn f B fn fw h0 n0 v U'.heap L ∧ FrameEnd U oc U' L Rm7.cells Rm7.slots) := by
 refine MetFree.of_bodySF pn_15 hisR ?_
 intro p e s m args below meth c s₁ Bd hml0 hP hK
 obtain ⟨rfl, hZ, hh⟩ := hP
 have hx := Bd.exec
 have hby := Bd.bytes
 have hlk := BodyLoose.notSynchronized Bd
 have hml : c.maxLocals = 7 := hml0
 have hown : s.vm.findClass DTn = some m.cls := findClass_of_methodNamed Bd.named
 have hnm := (name_of_methodNamed Bd.named Bd.method).1
 have X0 : Stand p l e Rm7 s m #[(.ref a1), (.ref a2), (.int p1), (.int p2), (.ref a3)] below meth c s₁ [] 0 0 := Stand.of_body Bd
 have e0 : s₁.heap = h0 := by rw [← hh, Bd.state]; rfl
 have N0 := Fr.nil n0
 show OwnWp p e below s Rm7.cells Rm7.slots (Q15A Z a1 a2 p1 p2 a3 od pl o gp shI mxI C b mx sh tn f B fn fw h0 n0) (s₁.setTop (entryFrame m #[(.ref a1), (.ref a2), (.int p1), (.int p2), (.ref a3)] 7))
 refine OwnWp.cast (ef_15A m a1 a2 p1 p2 a3) ?_
 show OwnWp p e below s _ _ _ (s₁.setTop (mkF m 0 #[sA a1, sA a2, sI p1, sI p2, sA a3, sU, sU] []))
 have K0 := Keep.refl h0 [a2]
 have hsel855 := own_selpriv (y := Mn12) (z := Mn13) rfl hown (args := #[(.ref a1), (.ref a2), (.int p1), (.int p2), (.ref a3)]) (mvT hZ (own_hw hw 26 rfl)) (Cond.privateMethod_at (mvP hZ (own_hw hw 93 rfl) (args := #[]))) (mvT hZ (own_hw hw 92 rfl)) (by decide)
 obtain ⟨w1, qw1⟩ : ∃ z : Int32, z = ((1 : Int32) <<< (p1 &&& 31)) := ⟨_, rfl⟩
 refine own_s s₁ (mkF m 5 #[sA a1, sA a2, sI p1, sI p2, sA a3, sI w1, sU] []) (fun t k => ?_) ?_
 ·refine XT.iconstV X0.here hx rfl (1 : Int32) (D15 hby 0 rfl) rfl ?_
  refine XS.iloadN X0.here hx rfl (D15 hby 1 rfl) rfl ?_
  refine XT.ishl X0.here hx rfl (D15 hby 2 rfl) rfl ?_
  refine XS.istore X0.here hx rfl (D15 hby 3 rfl) rfl (l' := #[sA a1, sA a2, sI p1, sI p2, sA a3, sI ((1 : Int32) <<< (p1 &&& 31)), sU]) rfl ?_
  rw [qw1] at k
  exact k
 refine own_s s₁ (mkF m 13 #[sA a1, sA a2, sI p1, sI p2, sA a3, sI w1, sU] [(.ref a3), (.int p2), (.int p1), (.int w1), (.ref a2), (.ref a1)]) (fun t k => ?_) ?_
 ·refine XS.aloadN X0.here hx rfl (D15 hby 4 rfl) rfl rfl ?_
  refine XS.aloadN X0.here hx rfl (D15 hby 5 rfl) rfl rfl ?_
  refine XS.iload X0.here hx rfl (D15 hby 6 rfl) rfl ?_
  refine XS.iloadN X0.here hx rfl (D15 hby 7 rfl) rfl ?_
  refine XS.iloadN X0.here hx rfl (D15 hby 8 rfl) rfl ?_
  exact XS.aload X0.here hx rfl (D15 hby 9 rfl) rfl rfl k
 have hs5 : w1.toInt = 2 ^ b := by rw [qw1, own_shl1 (by omega) (by omega), hbt]; rfl
 have hpp := own_p2 b
 have hps := own_p2s b
 have hp11 := own_p2le hb11
 rw [show (2 : Int) ^ 11 = 2048 from by decide] at hp11
 obtain ⟨cl856, hcl856, hst856⟩ := Exa.cell E0
 obtain ⟨_, _, ⟨T856, L856, k856, n856⟩, -, X856, ⟨Lc856, hQ856, l856, y856, z856⟩, st856⟩ := X0.privateBack hx (y := Mn12) hown (mvT hZ (own_hw hw 91 rfl)) (mvT hZ (own_hw hw 92 rfl)) hsel855 (Cond.privateMethod_at (mvP hZ (own_hw hw 93 rfl) (args := #[]))) (mvT hZ (own_hw hw 94 rfl)) (by decide) (backOf (W := 0) (rm16A l Z a0 hw [] a1 a2 w1 p1 p2 a3 od pl o gp shI mxI C b mx sh tn f B fn fw h0 n0 Z0 g2 n1 n2 n3 n4 E0 F0 F1 F2 F3 A0 A1 A2 A3 hC0 hA16 hpl hbo hshI hsh1 hz hmI hm15 hbt hb1 (by omega) (by omega) (by omega) htn2 hS (Or.inr hsl) hB0 hB hfw hfn hfn2) hZ (own_hw hw 94 rfl) (own_hw hw 4 rfl) (by decide) (by decide)) (g := (mkF m 13 #[sA a1, sA a2, sI p1, sI p2, sA a3, sI w1, sU] [(.ref a3), (.int p2), (.int p1), (.int w1), (.ref a2), (.ref a1)])) rfl (by rw [hml]; rfl) (Steps.refl _) (a := a1) (by rw [e0]; exact hcl856) hst856 (argsL := [(.ref a2), (.int w1), (.int p1), (.int p2), (.ref a3)]) (rest := []) (lenOf pd_16 rfl) rfl (by show 2 * 0 + _ ≤ _; exact Nat.le_of_eq rfl) (D15 hby 10 rfl) (fun _ _ => ⟨rfl, e0, (by dsimp only [Pt.cells]; decide), (by dsimp only [Pt.slots]; decide)⟩)
 dsimp only [Pt.U, Pt.locs, Pt.cells, Pt.slots] at X856 l856 y856 z856 st856 hQ856
 subst l856 y856 z856
 obtain ⟨e9856, g9856, rfl, Nc856, Kc856, aa856, he856, hin856⟩ := hQ856
 have N856 := Fr.app N0 Nc856
 refine OwnWp.go st856 ?_
 have Z856 : n0 ≤ T856.heap.size := Nat.le_trans Z0 Kc856.1
 have f857 := Exa.keep E0 Kc856
 have f858 := Fld.keep F0 Kc856 (ninS n1 nin0)
 have f859 := Fld.keep F1 Kc856 (ninS n1 nin0)
 have f860 := Fld.keep F2 Kc856 (ninS n1 nin0)
 have f861 := Fld.keep F3 Kc856 (ninS n1 nin0)
 have f862 := OwnA.keep A0 Kc856 (ninS n2 nin0)
 have f863 := OwnA.keep A1 Kc856 (ninS n3 nin0)
 have f865 := OwnA.keep A3 Kc856 (ninS n4 nin0)
 have K866 := Keep.trans K0 Kc856 (allS (Or.inl (List.mem_of_getElem? (i := 0) rfl)) all0)
 refine own_s T856 (mkF m 27 #[sA a1, sA a2, sI p1, sI p2, sA a3, sI w1, sI e9856] [(.int (0 : Int32)), (.int (w1 + w1)), (.int e9856), (.ref a2)]) (fun t k => ?_) ?_
 ·refine XS.istore X856.here hx rfl (D15 hby 11 rfl) rfl (l' := #[sA a1, sA a2, sI p1, sI p2, sA a3, sI w1, sI e9856]) rfl ?_
  refine XS.aloadN X856.here hx rfl (D15 hby 12 rfl) rfl rfl ?_
  refine XS.iload X856.here hx rfl (D15 hby 13 rfl) rfl ?_
  refine XS.iload X856.here hx rfl (D15 hby 14 rfl) rfl ?_
  refine XS.iload X856.here hx rfl (D15 hby 15 rfl) rfl ?_
  refine XS.iadd X856.here hx rfl (D15 hby 16 rfl) rfl ?_
  exact XT.iconstV X856.here hx rfl (0 : Int32) (D15 hby 17 rfl) rfl k
 obtain ⟨w2, qw2⟩ : ∃ z : Int32, z = (w1 + w1) := ⟨_, rfl⟩
 rw [← qw2]
 show OwnWp p e below s _ _ _ (T856.setTop (mkF m 27 #[sA a1, sA a2, sI p1, sI p2, sA a3, sI w1, sI e9856] [(.int (0 : Int32)), (.int w2), (.int e9856), (.ref a2)]))
 have hhi : w2.toInt = 2 ^ (b + 1) := by rw [qw2, own_add (by omega) (by omega), hps]; omega
 have hge := hin856.1
 have hlo9 := hlo
 obtain ⟨_, _, ⟨T867, L867, k867, n867⟩, -, X867, ⟨Lc867, hQ867, l867, y867, z867⟩, st867⟩ := Jvm.LawKit.callS X856 hx (y := Mn4) hown (mvT hZ (own_hw hw 68 rfl)) (mvT hZ (own_hw hw 69 rfl)) (mvT hZ (own_hw hw 34 rfl)) (mvT hZ (own_hw hw 70 rfl)) (by decide) (backOf (W := 0) (rm11 l Z a0 hw [] a2 e9856 w2 (0 : Int32) tn g9856 T856.heap n0 Z856 g2 aa856 (by omega) (by omega) (by omega)) hZ (own_hw hw 70 rfl) (own_hw hw 34 rfl) (by decide) (by decide)) (g := (mkF m 27 #[sA a1, sA a2, sI p1, sI p2, sA a3, sI w1, sI e9856] [(.int (0 : Int32)), (.int w2), (.int e9856), (.ref a2)])) rfl (by rw [hml]; rfl) (argsL := [(.ref a2), (.int e9856), (.int w2), (.int (0 : Int32))]) (rest := []) (lenOf pd_11 rfl) rfl (by show 2 * 0 + _ ≤ _; exact Nat.le_of_eq rfl) (D15 hby 18 rfl) (fun _ _ => ⟨rfl, (rfl : T856.heap = T856.heap), (by dsimp only [Pt.cells]; decide), (by dsimp only [Pt.slots]; decide)⟩)
 dsimp only [Pt.U, Pt.locs, Pt.cells, Pt.slots] at X867 l867 y867 z867 st867 hQ867
 subst l867 y867 z867
 obtain ⟨rfl, Nc867, Kc867, aa867⟩ := hQ867
 have N867 := Fr.app N856 Nc867
 refine OwnWp.step st867 ?_
 have Z867 : n0 ≤ T867.heap.size := Nat.le_trans Z856 Kc867.1
 have f868 := Exa.keep f857 Kc867
 have f869 := Fld.keep f858 Kc867 (ninS n1 nin0)
 have f870 := Fld.keep f859 Kc867 (ninS n1 nin0)
 have f871 := Fld.keep f860 Kc867 (ninS n1 nin0)
 have f872 := Fld.keep f861 Kc867 (ninS n1 nin0)
 have f873 := OwnA.keep f862 Kc867 (ninS n2 nin0)
 have f874 := OwnA.keep f863 Kc867 (ninS n3 nin0)
 have f875 := OwnA.keep f865 Kc867 (ninS n4 nin0)
 have K877 := Keep.trans K866 Kc867 (allS (Or.inl (List.mem_of_getElem? (i := 0) rfl)) all0)
 show OwnWp p e below s _ _ _ (T867.setTop (mkF m 30 #[sA a1, sA a2, sI p1, sI p2, sA a3, sI w1, sI e9856] []))
 have hsn : p2.toInt ≠ 0 := by rcases hsl with rfl | rfl <;> decide
 refine OwnWp.retV X867 hx hlk Bd.returns (D15 hby 19 rfl) (by decide) (by decide) ?_
 rw [(rfl : T867.heap = T867.heap)]
 exact ⟨rfl, N867, K877, _, aa867, own_ffo hlo hB0 hsn hin856⟩
theorem own_maxb {p1 mxI : Int32} {fb mx : Nat} (h1 : p1.toInt = (fb : Int)) (h2 : mxI.toInt = (mx : Int)) : (own_max p1 mxI).toInt = ((Nat.max fb mx : Nat) : Int) := by
  have a := own_max_eq p1 mxI
  have c : Nat.max fb mx = if fb ≤ mx then mx else fb := Nat.max_def ..
  rw [c]
  split at a <;> split <;> omega
def dl3 : List (Nat × Instr × Nat) := [(0, .aload_n 0, 1), (1, .aload_n 1, 1), (2, .invokevirtual 30, 3), (5, .astore 4, 2), (7, .aload 4, 2), (9, .invokestatic 34, 3), (12, .astore 4, 2), (14, .goto 23, 3), (37, .aload_n 0, 1), (38, .aload 4, 2), (40, .arraylength, 1), (41, .iconst 1, 1), (42, .isub, 1), (43, .putfield 54, 3), (46, .iconst 1, 1), (47, .iload_n 2, 1), (48, .ishl, 1), (49, .istore 5, 2), (51, .aload_n 0, 1), (52, .getfield 54, 3), (55, .iload_n 2, 1), (56, .if_icmp .le 15, 3), (59, .iload 5, 2), (61, .iconst 1, 1), (62, .aload_n 0, 1), (63, .getfield 54, 3), (66, .ishl, 1), (67, .iadd, 1), (68, .goto 5, 3), (71, .iload 5, 2), (73, .istore 6, 2), (75, .aload_n 0, 1), (76, .getfield 9, 3), (79, .arraylength, 1), (80, .iload 6, 2), (82, .if_icmp .ge 11, 3), (85, .aload_n 0, 1), (86, .iload 6, 2), (88, .newarray .int, 2), (90, .putfield 9, 3), (93, .aload_n 0, 1), (94, .aload_n 1, 1), (95, .putfield 58, 3), (98, .aload_n 0, 1), (99, .iload_n 2, 1), (100, .putfield 61, 3), (103, .aload_n 0, 1), (104, .iload_n 2, 1), (105, .aload_n 0, 1), (106, .getfield 54, 3), (109, .invokestatic 64, 3), (112, .putfield 70, 3), (115, .aload_n 0, 1), (116, .aload_n 1, 1), (117, .aload 4, 2), (119, .invokevirtual 73, 3), (122, .aload_n 0, 1), (123, .iconst 0, 1), (124, .putfield 77, 3), (127, .aload_n 0, 1), (128, .getfield 80, 3), (131, .ifCond .le 58, 3), (134, .aload 4, 2), (136, .aload_n 0, 1), (137, .getfield 54, 3), (140, .iaload, 1), (141, .iconst 1, 1), (142, .if_icmp .le 47, 3), (145, .aload_n 0, 1), (146, .getfield 80, 3), (149, .istore 7, 2), (151, .iload 7, 2), (153, .aload_n 0, 1), (154, .getfield 54, 3), (157, .if_icmp .gt 32, 3), (160, .aload_n 0, 1), (161, .dup, 1), (162, .getfield 77, 3), (165, .aload 4, 2), (167, .iload 7, 2), (169, .iaload, 1), (170, .iload 7, 2), (172, .imul, 1), (173, .bipush 16, 2), (175, .iload 7, 2), (177, .isub, 1), (178, .ishl, 1), (179, .iadd, 1), (180, .putfield 77, 3), (183, .iinc 7 1, 3), (186, .goto (-35), 3), (189, .iconst 0, 1), (190, .istore 7, 2), (192, .aload_n 0, 1), (193, .getfield 80, 3), (196, .ifCond .le 25, 3), (199, .iload_n 3, 1), (200, .iconst 1, 1), (201, .if_icmp .ne 20, 3), (204, .aload_n 0, 1), (205, .aload_n 0, 1), (206, .getfield 9, 3), (209, .iconst 0, 1), (210, .iload_n 2, 1), (211, .iconst 0, 1), (212, .aconst_null, 1), (213, .invokevirtual 83, 3), (216, .istore 7, 2), (218, .goto 128, 3), (221, .aload_n 0, 1), (222, .getfield 80, 3), (225, .ifCond .le 121, 3), (228, .aload_n 0, 1), (229, .getfield 24, 3), (232, .arraylength, 1), (233, .iload 5, 2), (235, .if_icmp .ge 19, 3), (238, .aload_n 0, 1), (239, .iload 5, 2), (241, .newarray .int, 2), (243, .putfield 24, 3), (246, .aload_n 0, 1), (247, .iload 5, 2), (249, .newarray .int, 2), (251, .putfield 27, 3), (254, .aload_n 0, 1), (255, .getfield 80, 3), (258, .istore 8, 2), (260, .iload 8, 2), (262, .iload_n 2, 1), (263, .iconst 2, 1), (264, .aload_n 0, 1), (265, .getfield 80, 3), (268, .imul, 1), (269, .isub, 1), (270, .if_icmp .gt 21, 3), (273, .aload_n 0, 1), (274, .aload_n 0, 1), (275, .getfield 27, 3), (278, .iload 8, 2), (280, .iconst 2, 1), (281, .aconst_null, 1), (282, .invokevirtual 87, 3), (285, .iinc 8 1, 3), (288, .goto (-28), 3), (291, .aload_n 0, 1), (292, .getfield 80, 3), (295, .istore 8, 2), (297, .iload 8, 2), (299, .iload_n 2, 1), (300, .aload_n 0, 1), (301, .getfield 80, 3), (304, .isub, 1), (305, .if_icmp .gt 24, 3), (308, .aload_n 0, 1), (309, .aload_n 0, 1), (310, .getfield 24, 3), (313, .iload 8, 2), (315, .iconst 1, 1), (316, .aload_n 0, 1), (317, .getfield 27, 3), (320, .invokevirtual 87, 3), (323, .iinc 8 1, 3), (326, .goto (-29), 3), (329, .aload_n 0, 1), (330, .aload_n 0, 1), (331, .getfield 9, 3), (334, .iconst 0, 1), (335, .iload_n 2, 1), (336, .iconst 0, 1), (337, .aload_n 0, 1), (338, .getfield 24, 3), (341, .invokevirtual 83, 3), (344, .istore 7, 2), (346, .aload_n 0, 1), (347, .getfield 54, 3), (350, .iload_n 2, 1), (351, .if_icmp .gt 17, 3), (354, .aload_n 0, 1), (355, .getfield 9, 3), (358, .iload 7, 2), (360, .iload 5, 2), (362, .iconst 0, 1), (363, .invokestatic 91, 3), (366, .aload_n 0, 1), (367, .areturn, 1), (368, .aload_n 0, 1), (369, .getfield 54, 3), (372, .iload_n 2, 1), (373, .isub, 1), (374, .istore 8, 2), (376, .iload 5, 2), (378, .istore 9, 2), (380, .iload 7, 2), (382, .iload 5, 2), (384, .if_icmp .ge 33, 3), (387, .aload_n 0, 1), (388, .getfield 9, 3), (391, .iload 7, 2), (393, .iinc 7 1, 3), (396, .iload 9, 2), (398, .bipush 8, 2), (400, .ishl, 1), (401, .iload 8, 2), (403, .ior, 1), (404, .iastore, 1), (405, .iload 9, 2), (407, .iconst 1, 1), (408, .iload 8, 2), (410, .ishl, 1), (411, .iadd, 1), (412, .istore 9, 2), (414, .goto (-34), 3), (417, .iload_n 2, 1), (418, .iconst 1, 1), (419, .iadd, 1), (420, .istore 10, 2), (422, .iload 10, 2), (424, .aload_n 0, 1), (425, .getfield 54, 3), (428, .if_icmp .gt 79, 3), (431, .iconst 1, 1), (432, .aload_n 0, 1), (433, .getfield 54, 3), (436, .iload 10, 2), (438, .isub, 1), (439, .ishl, 1), (440, .istore 11, 2), (442, .aload_n 0, 1), (443, .getfield 21, 3), (446, .iload 10, 2), (448, .iaload, 1), (449, .istore 12, 2), (451, .iload 12, 2), (453, .aload_n 0, 1), (454, .getfield 21, 3), (457, .iload 10, 2), (459, .iconst 1, 1), (460, .iadd, 1), (461, .iaload, 1), (462, .if_icmp .ge 39, 3), (465, .aload_n 0, 1), (466, .getfield 9, 3), (469, .iload 7, 2), (471, .iload 7, 2), (473, .iload 11, 2), (475, .iadd, 1), (476, .aload_n 0, 1), (477, .iload 12, 2), (479, .iload 10, 2), (481, .iconst 0, 1), (482, .invokevirtual 97, 3), (485, .invokestatic 91, 3), (488, .iload 7, 2), (490, .iload 11, 2), (492, .iadd, 1), (493, .istore 7, 2), (495, .iinc 12 1, 3), (498, .goto (-47), 3), (501, .iinc 10 1, 3), (504, .goto (-82), 3), (507, .aload_n 0, 1), (508, .areturn, 1)]
theorem da3 : ∀ x ∈ dl3, decode prog_6_method_2_code x.1 = .ok x.2 := by decide +kernel
theorem D3 {c : Code} (h : c.code = prog_6_method_2_code) (i : Nat) {pc : Nat} {ins : Instr} {n : Nat} (e : dl3[i]? = some (pc, ins, n)) : decode c.code pc = .ok (ins, n) := by rw [h]; exact da3 (pc, ins, n) (List.mem_of_getElem? e)
theorem pn_3 : plainFor Mn13 = true := plainFor_of_name (by first | (simp [plainName, overriddenIn]; done) | decide +kernel)
theorem pd_3 : parseMethodDescriptor "([III)Lcom/example/leafcode/leafcode/DecodingTable;" = some ⟨[(.array .int), .int, .int], some (.object DTn)⟩ := by decide +kernel
theorem ef_3 (m : MethodId) (x0 : Addr) (x1 : Addr) (x2 : Int32) (x3 : Int32) : entryFrame m #[(.ref x0), (.ref x1), (.int x2), (.int x3)] 13 = mkF m 0 #[.val (.ref x0), .val (.ref x1), .val (.int x2), .val (.int x3), .unset, .unset, .unset, .unset, .unset, .unset, .unset, .unset, .unset] [] := by first | (simp [entryFrame, mkF, argsToLocals, Value.category, maxLocals]; done) | rfl
def Q3 (Z : State) (a1 : Addr) (a2 : Addr) (p1 : Int32) (p2 : Int32) (lc : Addr) (od : Addr) (pl : Addr) (en0 : Addr) (fw0 : Addr) (ls0 : Addr) (gc : Int → Int32) (fo : Int → Int32) (fp : Int → Int32) (Lf : Int → Int32) (fe0 : Int → Int32) (fw9 : Int → Int32) (mx : Nat) (fb : Nat) (h0 : Heap) (n0 : Nat) (v : Option Value) (h : Heap) (L : List Loc) : Prop := ∃ (en : Addr) (fe : Int → Int32) (rm : Int32) (wd : Int32) (go : Int → Int32), v = some (.ref a1) ∧ Fr n0 L ∧ n0 ≤ en ∧ Keep h0 h [a1, lc, od, pl] ∧ Fld Z h a1 DTn "entries" "[I" (.ref en) ∧ Fld Z h a1 DTn "firstBits" "I" (.int p1) ∧ Fld Z h a1 DTn "width" "I" (.int wd) ∧ Fld Z h a1 DTn "codeLengths" "[I" (.ref a2) ∧ OwnA Z h en .int rm (fun i => .int (fe i)) ∧ rm.toInt = own_room fb mx ∧ wd.toInt = ((Nat.max fb mx : Nat) : Int) ∧ own_filled (own_num (own_L Lf) 256) go fb mx fe ∧ own_ord (own_L Lf) (fun _ => 64) go
set_option maxRecDepth 65536 in
set_option maxHeartbeats 40000000 in
theorem rm3 (l : Launch) (Z : State) (a0 : Array Value) (hw : ∀ d ∈ tables_1, d.before a0 Z = true) (ws : List Jvm.Cond) (a1 : Addr) (a2 : Addr) (p1 : Int32) (p2 : Int32) (lc : Addr) (od : Addr) (pl : Addr) (en0 : Addr) (fw0 : Addr) (ls0 : Addr) (gc : Int → Int32) (fo : Int → Int32) (fp : Int → Int32) (Lf : Int → Int32) (fe0 : Int → Int32) (fw9 : Int → Int32) (mx : Nat) (fb : Nat) (h0 : Heap) (n0 : Nat) (Z0 : n0 ≤ h0.size) (g0 : n0 ≤ a1) (g1 : n0 ≤ lc) (g2 : n0 ≤ od) (g3 : n0 ≤ pl) (n1 : a1 ≠ lc) (n2 : a1 ≠ od) (n3 : a1 ≠ pl) (n4 : lc ≠ od) (n5 : lc ≠ pl) (n6 : od ≠ pl) (n7 : a2 ≠ a1) (n8 : a2 ≠ lc) (n9 : a2 ≠ od) (n10 : a2 ≠ pl) (n11 : en0 ≠ a1) (n12 : en0 ≠ lc) (n13 : fw0 ≠ a1) (n14 : fw0 ≠ lc) (n15 : fw0 ≠ od) (n16 : fw0 ≠ pl) (E0 : Exa Z h0 a1 DTn) (F_entries : Fld Z h0 a1 DTn "entries" "[I" (.ref en0)) (F_firstBits : Fld Z h0 a1 DTn "firstBits" "I" (.int (0 : Int32))) (F_width : Fld Z h0 a1 DTn "width" "I" (.int (0 : Int32))) (F_expectedBits : Fld Z h0 a1 DTn "expectedBits" "I" (.int (0 : Int32))) (F_codeLengths : Fld Z h0 a1 DTn "codeLengths" "[I" .null) (F_order : Fld Z h0 a1 DTn "order" "[I" (.ref od)) (F_laneCounts : Fld Z h0 a1 DTn "laneCounts" "[I" (.ref lc)) (F_places : Fld Z h0 a1 DTn "places" "[I" (.ref pl)) (F_shortest : Fld Z h0 a1 DTn "shortest" "I" (.int (0 : Int32))) (F_longest : Fld Z h0 a1 DTn "longest" "I" (.int (0 : Int32))) (F_follows : Fld Z h0 a1 DTn "follows" "[I" (.ref fw0)) (F_lasts : Fld Z h0 a1 DTn "lasts" "[I" (.ref ls0)) (A1 : OwnA Z h0 lc .int (64 : Int32) (fun i => .int (gc i))) (A2 : OwnA Z h0 od .int (256 : Int32) (fun i => .int (fo i))) (A3 : OwnA Z h0 pl .int (17 : Int32) (fun i => .int (fp i))) (A4 : OwnA Z h0 a2 .int (256 : Int32) (fun i => .int (Lf i))) (A5 : OwnA Z h0 en0 .int (0 : Int32) (fun i => .int (fe0 i))) (A6 : OwnA Z h0 fw0 .int (0 : Int32) (fun i => .int (fw9 i))) (hL : ∀ i : Int, 0 ≤ i → i < 256 → 0 ≤ (Lf i).toInt ∧ (Lf i).toInt < 16) (hm : own_mx (own_num (own_L Lf) 256) mx) (hkr : own_kraft (own_num (own_L Lf) 256) mx) (hSall : ∀ b l : Nat, b ≤ 15 → l ≤ b → own_Sum (own_num (own_L Lf) 256) b (l + 1) ≤ 2 ^ b) (hfo : own_byte fo) (hfb : p1.toInt = (fb : Int)) (hfb1 : 1 ≤ fb) (hfb12 : fb ≤ 12) :
  MetFree l Mn13 (head1 (Jvm.Cond.codeWith Mn13 prog_6_method_2_code 13 (some (.object DTn)) [(7, 14, 17, 39)] :: ws) Rm8) (fun a U => a = #[(.ref a1), (.ref a2), (.int p1), (.int p2)] ∧ Z.Warmed39 U.vm ∧ U.heap = h0) (fun _ _ _ _ _ => True) (fun _ U oc U' => ∃ v L, oc = .returned v ∧ Q3 Z a1 a2 p1 p2 lc od pl en0 fw0 ls0 gc fo fp Lf fe0 fw9 mx fb h0 n0 v U'.heap L ∧ FrameEnd U oc U' L Rm8.cells Rm8.slots) := by
 refine MetFree.of_bodySF pn_3 hisWith ?_
 intro p e s m args below meth c s₁ Bd hml0 hP hK
 obtain ⟨rfl, hZ, hh⟩ := hP
 have hx := Bd.exec
 have hby := Bd.bytes
 have hlk := BodyLoose.notSynchronized Bd
 have hml : c.maxLocals = 13 := hml0
 have hown : s.vm.findClass DTn = some m.cls := findClass_of_methodNamed Bd.named
 have hnm := (name_of_methodNamed Bd.named Bd.method).1
 have X0 : Stand p l e Rm8 s m #[(.ref a1), (.ref a2), (.int p1), (.int p2)] below meth c s₁ [] 0 0 := Stand.of_body Bd
 have e0 : s₁.heap = h0 := by rw [← hh, Bd.state]; rfl
 have N0 := Fr.nil n0
 show OwnWp p e below s Rm8.cells Rm8.slots (Q3 Z a1 a2 p1 p2 lc od pl en0 fw0 ls0 gc fo fp Lf fe0 fw9 mx fb h0 n0) (s₁.setTop (entryFrame m #[(.ref a1), (.ref a2), (.int p1), (.int p2)] 13))
 refine OwnWp.cast (ef_3 m a1 a2 p1 p2) ?_
 show OwnWp p e below s _ _ _ (s₁.setTop (mkF m 0 #[sA a1, sA a2, sI p1, sI p2, sU, sU, sU, sU, sU, sU, sU, sU, sU] []))
 have K0 := Keep.refl h0 [a1, lc, od, pl]
 have hm15 := hm.1
 have hC0 := own_numC (own_L Lf)
 have hA16 := own_C16 hL
 have hpf := own_p2 fb
 have hp12 := own_p2le hfb12
 rw [show (2 : Int) ^ 12 = 4096 from by decide] at hp12
 have hsel878 := own_selpriv (y := Mn9) (z := Mn13) rfl hown (args := #[(.ref a1), (.ref a2), (.int p1), (.int p2)]) (mvT hZ (own_hw hw 26 rfl)) (Cond.privateMethod_at (mvP hZ (own_hw hw 30 rfl) (args := #[]))) (mvT hZ (own_hw hw 29 rfl)) (by decide)
 have hsel879 := own_selpriv (y := Mn11) (z := Mn13) rfl hown (args := #[(.ref a1), (.ref a2), (.int p1), (.int p2)]) (mvT hZ (own_hw hw 26 rfl)) (Cond.privateMethod_at (mvP hZ (own_hw hw 64 rfl) (args := #[]))) (mvT hZ (own_hw hw 63 rfl)) (by decide)
 have hsel880 := own_selpriv (y := Mn14) (z := Mn13) rfl hown (args := #[(.ref a1), (.ref a2), (.int p1), (.int p2)]) (mvT hZ (own_hw hw 26 rfl)) (Cond.privateMethod_at (mvP hZ (own_hw hw 89 rfl) (args := #[]))) (mvT hZ (own_hw hw 88 rfl)) (by decide)
 have hsel881 := own_selpriv (y := Mn12) (z := Mn13) rfl hown (args := #[(.ref a1), (.ref a2), (.int p1), (.int p2)]) (mvT hZ (own_hw hw 26 rfl)) (Cond.privateMethod_at (mvP hZ (own_hw hw 93 rfl) (args := #[]))) (mvT hZ (own_hw hw 92 rfl)) (by decide)
 have hsel882 := own_selpriv (y := Mn8) (z := Mn13) rfl hown (args := #[(.ref a1), (.ref a2), (.int p1), (.int p2)]) (mvT hZ (own_hw hw 26 rfl)) (Cond.privateMethod_at (mvP hZ (own_hw hw 98 rfl) (args := #[]))) (mvT hZ (own_hw hw 97 rfl)) (by decide)
 refine own_s s₁ (mkF m 2 #[sA a1, sA a2, sI p1, sI p2, sU, sU, sU, sU, sU, sU, sU, sU, sU] [(.ref a2), (.ref a1)]) (fun t k => ?_) ?_
 ·refine XS.aloadN X0.here hx rfl (D3 hby 0 rfl) rfl rfl ?_
  exact XS.aloadN X0.here hx rfl (D3 hby 1 rfl) rfl rfl k
 obtain ⟨cl883, hcl883, hst883⟩ := Exa.cell E0
 obtain ⟨_, _, ⟨T883, L883, k883, n883⟩, -, X883, ⟨Lc883, hQ883, l883, y883, z883⟩, st883⟩ := X0.privateBack hx (y := Mn9) hown (mvT hZ (own_hw hw 28 rfl)) (mvT hZ (own_hw hw 29 rfl)) hsel878 (Cond.privateMethod_at (mvP hZ (own_hw hw 30 rfl) (args := #[]))) (mvT hZ (own_hw hw 31 rfl)) (by decide) (backOf (W := 0) (rm4 l Z a0 hw [] a1 a2 lc gc Lf h0 n0 Z0 g1 n1 n8 F_laneCounts A1 A4 hL) hZ (own_hw hw 31 rfl) (own_hw hw 4 rfl) (by decide) (by decide)) (g := (mkF m 2 #[sA a1, sA a2, sI p1, sI p2, sU, sU, sU, sU, sU, sU, sU, sU, sU] [(.ref a2), (.ref a1)])) rfl (by rw [hml]; rfl) (Steps.refl _) (a := a1) (by rw [e0]; exact hcl883) hst883 (argsL := [(.ref a2)]) (rest := []) (lenOf pd_4 rfl) rfl (by show 2 * 0 + _ ≤ _; exact Nat.le_of_eq rfl) (D3 hby 2 rfl) (fun _ _ => ⟨rfl, e0, (by dsimp only [Pt.cells]; decide), (by dsimp only [Pt.slots]; decide)⟩)
 dsimp only [Pt.U, Pt.locs, Pt.cells, Pt.slots] at X883 l883 y883 z883 st883 hQ883
 subst l883 y883 z883
 obtain ⟨b883, fb883, gc883, rfl, Nc883, lb883, sb883, Kc883, ex883, ab883, ac883, hcn883, hla883⟩ := hQ883
 have N883 := Fr.app N0 Nc883
 refine OwnWp.go st883 ?_
 have Z883 : n0 ≤ T883.heap.size := Nat.le_trans Z0 Kc883.1
 have f884 := Exa.keep E0 Kc883
 have f885 := Fld.keep F_entries Kc883 (ninS n1 nin0)
 have f886 := Fld.keep F_firstBits Kc883 (ninS n1 nin0)
 have f887 := Fld.keep F_width Kc883 (ninS n1 nin0)
 have f888 := Fld.keep F_expectedBits Kc883 (ninS n1 nin0)
 have f889 := Fld.keep F_codeLengths Kc883 (ninS n1 nin0)
 have f890 := Fld.keep F_order Kc883 (ninS n1 nin0)
 have f891 := Fld.keep F_laneCounts Kc883 (ninS n1 nin0)
 have f892 := Fld.keep F_places Kc883 (ninS n1 nin0)
 have f893 := Fld.keep F_shortest Kc883 (ninS n1 nin0)
 have f894 := Fld.keep F_longest Kc883 (ninS n1 nin0)
 have f895 := Fld.keep F_follows Kc883 (ninS n1 nin0)
 have f896 := Fld.keep F_lasts Kc883 (ninS n1 nin0)
 have f898 := OwnA.keep A2 Kc883 (ninS n4.symm nin0)
 have f899 := OwnA.keep A3 Kc883 (ninS n5.symm nin0)
 have f900 := OwnA.keep A4 Kc883 (ninS n8 nin0)
 have f901 := OwnA.keep A5 Kc883 (ninS n12 nin0)
 have f902 := OwnA.keep A6 Kc883 (ninS n14 nin0)
 have K903 := Keep.trans K0 Kc883 (allS (Or.inl (List.mem_of_getElem? (i := 1) rfl)) all0)
 show OwnWp p e below s _ _ _ (T883.setTop (mkF m 5 #[sA a1, sA a2, sI p1, sI p2, sU, sU, sU, sU, sU, sU, sU, sU, sU] [(.ref b883)]))
 have na904 : a1 ≠ b883 := Nat.ne_of_lt (Nat.lt_of_lt_of_le (F_lasts).lt sb883)
 have na905 : lc ≠ b883 := Nat.ne_of_lt (Nat.lt_of_lt_of_le (A1).lt sb883)
 have na906 : od ≠ b883 := Nat.ne_of_lt (Nat.lt_of_lt_of_le (A2).lt sb883)
 have na907 : pl ≠ b883 := Nat.ne_of_lt (Nat.lt_of_lt_of_le (A3).lt sb883)
 have na908 : a2 ≠ b883 := Nat.ne_of_lt (Nat.lt_of_lt_of_le (A4).lt sb883)
 have na909 : en0 ≠ b883 := Nat.ne_of_lt (Nat.lt_of_lt_of_le (A5).lt sb883)
 have na910 : fw0 ≠ b883 := Nat.ne_of_lt (Nat.lt_of_lt_of_le (A6).lt sb883)
 have nk911 : h0.size ≤ b883 := Nat.le_trans K0.1 sb883
 refine own_s T883 (mkF m 9 #[sA a1, sA a2, sI p1, sI p2, sA b883, sU, sU, sU, sU, sU, sU, sU, sU] [(.ref b883)]) (fun t k => ?_) ?_
 ·refine XS.astore X883.here hx rfl (D3 hby 3 rfl) rfl rfl (l' := #[sA a1, sA a2, sI p1, sI p2, sA b883, sU, sU, sU, sU, sU, sU, sU, sU]) rfl ?_
  exact XS.aload X883.here hx rfl (D3 hby 4 rfl) rfl rfl k
 obtain ⟨_, _, ⟨T912, L912, k912, n912⟩, -, X912, ⟨Lc912, hQ912, l912, y912, z912⟩, st912⟩ := Jvm.LawKit.callS X883 hx (y := Mn10) hown (mvT hZ (own_hw hw 36 rfl)) (mvT hZ (own_hw hw 37 rfl)) (mvT hZ (own_hw hw 38 rfl)) (mvT hZ (own_hw hw 39 rfl)) (by decide) (backOf (W := 0) (rm6 l Z a0 hw [] b883 fb883 (own_num (own_L Lf) 256) mx T883.heap n0 Z883 ab883 ex883 hcn883 hC0 hm hkr) hZ (own_hw hw 39 rfl) (own_hw hw 38 rfl) (by decide) (by decide)) (g := (mkF m 9 #[sA a1, sA a2, sI p1, sI p2, sA b883, sU, sU, sU, sU, sU, sU, sU, sU] [(.ref b883)])) rfl (by rw [hml]; rfl) (argsL := [(.ref b883)]) (rest := []) (lenOf pd_6 rfl) rfl (by show 2 * 0 + _ ≤ _; exact Nat.le_of_eq rfl) (D3 hby 5 rfl) (fun _ _ => ⟨rfl, (rfl : T883.heap = T883.heap), (by dsimp only [Pt.cells]; decide), (by dsimp only [Pt.slots]; decide)⟩)
 dsimp only [Pt.U, Pt.locs, Pt.cells, Pt.slots] at X912 l912 y912 z912 st912 hQ912
 subst l912 y912 z912
 obtain ⟨b912, nn912, rfl, Nc912, lb912, sb912, Kc912, hnn912, ab912⟩ := hQ912
 have N912 := Fr.app N883 Nc912
 refine OwnWp.step st912 ?_
 have Z912 : n0 ≤ T912.heap.size := Nat.le_trans Z883 Kc912.1
 have f913 := Exa.keep f884 Kc912
 have f914 := Fld.keep f885 Kc912 nin0
 have f915 := Fld.keep f886 Kc912 nin0
 have f916 := Fld.keep f887 Kc912 nin0
 have f917 := Fld.keep f888 Kc912 nin0
 have f918 := Fld.keep f889 Kc912 nin0
 have f919 := Fld.keep f890 Kc912 nin0
 have f920 := Fld.keep f891 Kc912 nin0
 have f921 := Fld.keep f892 Kc912 nin0
 have f922 := Fld.keep f893 Kc912 nin0
 have f923 := Fld.keep f894 Kc912 nin0
 have f924 := Fld.keep f895 Kc912 nin0
 have f925 := Fld.keep f896 Kc912 nin0
 have f926 := OwnA.keep f898 Kc912 nin0
 have f927 := OwnA.keep f899 Kc912 nin0
 have f928 := OwnA.keep f900 Kc912 nin0
 have f929 := OwnA.keep f901 Kc912 nin0
 have f930 := OwnA.keep f902 Kc912 nin0
 have f931 := OwnA.keep ab883 Kc912 nin0
 have f932 := Exa.keep ex883 Kc912
 have f933 := OwnA.keep ac883 Kc912 nin0
 have K934 := Keep.trans K903 Kc912 all0
 show OwnWp p e below s _ _ _ (T912.setTop (mkF m 12 #[sA a1, sA a2, sI p1, sI p2, sA b883, sU, sU, sU, sU, sU, sU, sU, sU] [(.ref b912)]))
 have na935 : a1 ≠ b912 := Nat.ne_of_lt (Nat.lt_of_lt_of_le (f896).lt sb912)
 have na936 : od ≠ b912 := Nat.ne_of_lt (Nat.lt_of_lt_of_le (f898).lt sb912)
 have na937 : pl ≠ b912 := Nat.ne_of_lt (Nat.lt_of_lt_of_le (f899).lt sb912)
 have na938 : a2 ≠ b912 := Nat.ne_of_lt (Nat.lt_of_lt_of_le (f900).lt sb912)
 have na939 : en0 ≠ b912 := Nat.ne_of_lt (Nat.lt_of_lt_of_le (f901).lt sb912)
 have na940 : fw0 ≠ b912 := Nat.ne_of_lt (Nat.lt_of_lt_of_le (f902).lt sb912)
 have na941 : b883 ≠ b912 := Nat.ne_of_lt (Nat.lt_of_lt_of_le (ex883).lt sb912)
 have na942 : lc ≠ b912 := Nat.ne_of_lt (Nat.lt_of_lt_of_le (ac883).lt sb912)
 have nk943 : h0.size ≤ b912 := Nat.le_trans K903.1 sb912
 refine own_s T912 (mkF m 43 #[sA a1, sA a2, sI p1, sI p2, sA b912, sU, sU, sU, sU, sU, sU, sU, sU] [(.int (nn912 - (1 : Int32))), (.ref a1)]) (fun t k => ?_) ?_
 ·refine XS.astore X912.here hx rfl (D3 hby 6 rfl) rfl rfl (l' := #[sA a1, sA a2, sI p1, sI p2, sA b912, sU, sU, sU, sU, sU, sU, sU, sU]) rfl ?_
  refine XS.goto X912.here hx rfl (pc0 := 14) (pc' := 37) rfl (D3 hby 7 rfl) (by decide) (by decide) ?_
  refine XS.aloadN X912.here hx rfl (D3 hby 8 rfl) rfl rfl ?_
  refine XS.aload X912.here hx rfl (D3 hby 9 rfl) rfl rfl ?_
  refine OwnA.alen X912 hx hZ (rfl : T912.heap = T912.heap) ab912 rfl rfl (D3 hby 10 rfl) ?_
  refine XT.iconstV X912.here hx rfl (1 : Int32) (D3 hby 11 rfl) rfl ?_
  exact XS.isub X912.here hx rfl (D3 hby 12 rfl) rfl k
 obtain ⟨w1, qw1⟩ : ∃ z : Int32, z = (nn912 - (1 : Int32)) := ⟨_, rfl⟩
 rw [← qw1]
 show OwnWp p e below s _ _ _ (T912.setTop (mkF m 43 #[sA a1, sA a2, sI p1, sI p2, sA b912, sU, sU, sU, sU, sU, sU, sU, sU] [(.int w1), (.ref a1)]))
 have hmI : w1.toInt = (mx : Int) := by rw [qw1, own_sub (by rw [hnn912, show (1 : Int32).toInt = 1 from rfl]; omega) (by rw [hnn912, show (1 : Int32).toInt = 1 from rfl]; omega), hnn912, show (1 : Int32).toInt = 1 from rfl]; omega
 obtain ⟨T944, h944, X944, e944, W944, st944⟩ := putF X912 hx hZ hown (host := "") (Or.inl (own_hw hw 51 rfl)) Via.refl (rfl : T912.heap = T912.heap) f923 f913 (Or.inl (own_hw hw 52 rfl)) (own_hw hw 3 rfl) (ty := .int) (by decide) rfl rfl (g := (mkF m 43 #[sA a1, sA a2, sI p1, sI p2, sA b912, sU, sU, sU, sU, sU, sU, sU, sU] [(.int w1), (.ref a1)])) rfl rfl (D3 hby 13 rfl)
 have N944 := own_frs (sl := Jvm.RoadKit.slotOf Z DTn "longest" "I") N912 g0
 have Z944 : n0 ≤ h944.size := by rw [W944.size]; exact Z912
 refine OwnWp.step st944 ?_
 have f945 := Exa.wr W944 f913
 have f946 := Fld.other W944 f914 (Or.inr (slot_ne (C := DTn) (Or.inl (own_hw hw 12 rfl)) (Or.inl (own_hw hw 52 rfl)) (by decide) (t := (.array .int)) (t' := .int) (by decide) (by decide)))
 have f947 := Fld.other W944 f915 (Or.inr (slot_ne (C := DTn) (Or.inl (own_hw hw 56 rfl)) (Or.inl (own_hw hw 52 rfl)) (by decide) (t := .int) (t' := .int) (by decide) (by decide)))
 have f948 := Fld.other W944 f916 (Or.inr (slot_ne (C := DTn) (Or.inl (own_hw hw 61 rfl)) (Or.inl (own_hw hw 52 rfl)) (by decide) (t := .int) (t' := .int) (by decide) (by decide)))
 have f949 := Fld.other W944 f917 (Or.inr (slot_ne (C := DTn) (Or.inl (own_hw hw 75 rfl)) (Or.inl (own_hw hw 52 rfl)) (by decide) (t := .int) (t' := .int) (by decide) (by decide)))
 have f950 := Fld.other W944 f918 (Or.inr (slot_ne (C := DTn) (Or.inl (own_hw hw 54 rfl)) (Or.inl (own_hw hw 52 rfl)) (by decide) (t := (.array .int)) (t' := .int) (by decide) (by decide)))
 have f951 := Fld.other W944 f919 (Or.inr (slot_ne (C := DTn) (Or.inr (own_hw hw 14 rfl)) (Or.inl (own_hw hw 52 rfl)) (by decide) (t := (.array .int)) (t' := .int) (by decide) (by decide)))
 have f952 := Fld.other W944 f920 (Or.inr (slot_ne (C := DTn) (Or.inr (own_hw hw 16 rfl)) (Or.inl (own_hw hw 52 rfl)) (by decide) (t := (.array .int)) (t' := .int) (by decide) (by decide)))
 have f953 := Fld.other W944 f921 (Or.inr (slot_ne (C := DTn) (Or.inr (own_hw hw 18 rfl)) (Or.inl (own_hw hw 52 rfl)) (by decide) (t := (.array .int)) (t' := .int) (by decide) (by decide)))
 have f954 := Fld.other W944 f922 (Or.inr (slot_ne (C := DTn) (Or.inl (own_hw hw 67 rfl)) (Or.inl (own_hw hw 52 rfl)) (by decide) (t := .int) (t' := .int) (by decide) (by decide)))
 have f955 := Fld.same W944 f923
 have f956 := Fld.other W944 f924 (Or.inr (slot_ne (C := DTn) (Or.inl (own_hw hw 20 rfl)) (Or.inl (own_hw hw 52 rfl)) (by decide) (t := (.array .int)) (t' := .int) (by decide) (by decide)))
 have f957 := Fld.other W944 f925 (Or.inr (slot_ne (C := DTn) (Or.inl (own_hw hw 22 rfl)) (Or.inl (own_hw hw 52 rfl)) (by decide) (t := (.array .int)) (t' := .int) (by decide) (by decide)))
 have f958 := OwnA.other f926 W944 n2.symm
 have f959 := OwnA.other f927 W944 n3.symm
 have f960 := OwnA.other f928 W944 n7
 have f961 := OwnA.other f929 W944 n11
 have f962 := OwnA.other f930 W944 n13
 have f963 := OwnA.other f933 W944 n1.symm
 have f964 := OwnA.other ab912 W944 na935.symm
 have K965 := Keep.wr K934 W944 (Or.inl (List.mem_of_getElem? (i := 0) rfl))
 show OwnWp p e below s _ _ _ (T944.setTop (mkF m 46 #[sA a1, sA a2, sI p1, sI p2, sA b912, sU, sU, sU, sU, sU, sU, sU, sU] []))
 obtain ⟨w2, qw2⟩ : ∃ z : Int32, z = ((1 : Int32) <<< (p1 &&& 31)) := ⟨_, rfl⟩
 refine own_s T944 (mkF m 51 #[sA a1, sA a2, sI p1, sI p2, sA b912, sI w2, sU, sU, sU, sU, sU, sU, sU] []) (fun t k => ?_) ?_
 ·refine XT.iconstV X944.here hx rfl (1 : Int32) (D3 hby 14 rfl) rfl ?_
  refine XS.iloadN X944.here hx rfl (D3 hby 15 rfl) rfl ?_
  refine XT.ishl X944.here hx rfl (D3 hby 16 rfl) rfl ?_
  refine XS.istore X944.here hx rfl (D3 hby 17 rfl) rfl (l' := #[sA a1, sA a2, sI p1, sI p2, sA b912, sI ((1 : Int32) <<< (p1 &&& 31)), sU, sU, sU, sU, sU, sU, sU]) rfl ?_
  rw [qw2] at k
  exact k
 refine own_s T944 (mkF m 52 #[sA a1, sA a2, sI p1, sI p2, sA b912, sI w2, sU, sU, sU, sU, sU, sU, sU] [(.ref a1)]) (fun t k => ?_) ?_
 ·exact XS.aloadN X944.here hx rfl (D3 hby 18 rfl) rfl rfl k
 obtain ⟨T966, X966, e966, st966⟩ := getF X944 hx hZ hown (host := "") (Or.inl (own_hw hw 51 rfl)) Via.refl e944 f955 (g := (mkF m 52 #[sA a1, sA a2, sI p1, sI p2, sA b912, sI w2, sU, sU, sU, sU, sU, sU, sU] [(.ref a1)])) rfl rfl (D3 hby 19 rfl)
 refine OwnWp.step st966 ?_
 refine own_s T966 (mkF m 56 #[sA a1, sA a2, sI p1, sI p2, sA b912, sI w2, sU, sU, sU, sU, sU, sU, sU] [(.int p1), (.int w1)]) (fun t k => ?_) ?_
 ·exact XS.iloadN X966.here hx rfl (D3 hby 20 rfl) rfl k
 have hs5 := own_sz hfb (by omega) qw2
 have J75 : ∀ (T967 : State) (h967 : Heap) (L967 : List Loc) (rm : Int32) (X967 : Stand p l e Rm8 s m #[(.ref a1), (.ref a2), (.int p1), (.int p2)] below meth c T967 L967 2 32) (e967 : T967.heap = h967) (N967 : Fr n0 L967) (Z967 : n0 ≤ h967.size) (f968 : Exa Z h967 a1 DTn) (f969 : Fld Z h967 a1 DTn "entries" "[I" (.ref en0)) (f970 : Fld Z h967 a1 DTn "firstBits" "I" (.int (0 : Int32))) (f971 : Fld Z h967 a1 DTn "width" "I" (.int (0 : Int32))) (f972 : Fld Z h967 a1 DTn "expectedBits" "I" (.int (0 : Int32))) (f973 : Fld Z h967 a1 DTn "codeLengths" "[I" .null) (f974 : Fld Z h967 a1 DTn "order" "[I" (.ref od)) (f975 : Fld Z h967 a1 DTn "laneCounts" "[I" (.ref lc)) (f976 : Fld Z h967 a1 DTn "places" "[I" (.ref pl)) (f977 : Fld Z h967 a1 DTn "shortest" "I" (.int (0 : Int32))) (f978 : Fld Z h967 a1 DTn "longest" "I" (.int w1)) (f979 : Fld Z h967 a1 DTn "follows" "[I" (.ref fw0)) (f980 : Fld Z h967 a1 DTn "lasts" "[I" (.ref ls0)) (f981 : OwnA Z h967 od .int (256 : Int32) (fun zi => .int (fo zi))) (f982 : OwnA Z h967 pl .int (17 : Int32) (fun zi => .int (fp zi))) (f983 : OwnA Z h967 a2 .int (256 : Int32) (fun zi => .int (Lf zi))) (f984 : OwnA Z h967 en0 .int (0 : Int32) (fun zi => .int (fe0 zi))) (f985 : OwnA Z h967 fw0 .int (0 : Int32) (fun zi => .int (fw9 zi))) (f986 : OwnA Z h967 lc .int (64 : Int32) (fun zi => .int (gc883 zi))) (f987 : OwnA Z h967 b912 .int nn912 (fun zi => .int (fb883 zi))) (K988 : Keep h0 h967 [a1, lc, od, pl]) (hrm : rm.toInt = own_room fb mx), OwnWp p e below s Rm8.cells Rm8.slots (Q3 Z a1 a2 p1 p2 lc od pl en0 fw0 ls0 gc fo fp Lf fe0 fw9 mx fb h0 n0) (T967.setTop (mkF m 75 #[sA a1, sA a2, sI p1, sI p2, sA b912, sI w2, sI rm, sU, sU, sU, sU, sU, sU] [])) := by
  intro T967 h967 L967 rm X967 e967 N967 Z967 f968 f969 f970 f971 f972 f973 f974 f975 f976 f977 f978 f979 f980 f981 f982 f983 f984 f985 f986 f987 K988 hrm
  have hrl := own_room_le hfb12 hm15
  have hrm0 : (0 : Int32) < rm := by rw [Int32.lt_iff_toInt_lt, show (0 : Int32).toInt = 0 from rfl]; omega
  refine own_s T967 (mkF m 76 #[sA a1, sA a2, sI p1, sI p2, sA b912, sI w2, sI rm, sU, sU, sU, sU, sU, sU] [(.ref a1)]) (fun t k => ?_) ?_
  ·exact XS.aloadN X967.here hx rfl (D3 hby 31 rfl) rfl rfl k
  obtain ⟨T989, X989, e989, st989⟩ := getF X967 hx hZ hown (host := "") (Or.inl (own_hw hw 11 rfl)) Via.refl e967 f969 (g := (mkF m 76 #[sA a1, sA a2, sI p1, sI p2, sA b912, sI w2, sI rm, sU, sU, sU, sU, sU, sU] [(.ref a1)])) rfl rfl (D3 hby 32 rfl)
  refine OwnWp.step st989 ?_
  refine own_s T989 (mkF m 88 #[sA a1, sA a2, sI p1, sI p2, sA b912, sI w2, sI rm, sU, sU, sU, sU, sU, sU] [(.int rm), (.ref a1)]) (fun t k => ?_) ?_
  ·refine OwnA.alen X989 hx hZ e989 f984 rfl rfl (D3 hby 33 rfl) ?_
   refine XS.iload X989.here hx rfl (D3 hby 34 rfl) rfl ?_
   refine XS.icmpNo X989.here hx rfl (D3 hby 35 rfl) rfl (XT.ii_ge_f hrm0) ?_
   refine XS.aloadN X989.here hx rfl (D3 hby 36 rfl) rfl rfl ?_
   exact XS.iload X989.here hx rfl (D3 hby 37 rfl) rfl k
  obtain ⟨T990, h990, cA990, X990, e990, E990, Ar990, st990⟩ := newP X989 hx hZ (aty := .int) (own_hw hw 1 rfl) e989 (g := (mkF m 88 #[sA a1, sA a2, sI p1, sI p2, sA b912, sI w2, sI rm, sU, sU, sU, sU, sU, sU] [(.int rm), (.ref a1)])) rfl (D3 hby 38 rfl) rfl (by rw [Int32.lt_iff_toInt_lt, show (0 : Int32).toInt = 0 from rfl]; omega) (cap := 36864) (by rw [own_clamp]; omega) (by decide) (by decide) (by decide)
  obtain ⟨ad990, ga990⟩ : ∃ z, z = h967.size := ⟨_, rfl⟩
  rw [← ga990] at Ar990 st990
  refine OwnWp.step st990 ?_
  have ne990_991 : a1 ≠ ad990 := Nat.ne_of_lt (by rw [ga990]; exact f980.lt)
  have ne990_992 : od ≠ ad990 := Nat.ne_of_lt (by rw [ga990]; exact f981.lt)
  have ne990_993 : pl ≠ ad990 := Nat.ne_of_lt (by rw [ga990]; exact f982.lt)
  have ne990_994 : a2 ≠ ad990 := Nat.ne_of_lt (by rw [ga990]; exact f983.lt)
  have ne990_995 : fw0 ≠ ad990 := Nat.ne_of_lt (by rw [ga990]; exact f985.lt)
  have ne990_996 : lc ≠ ad990 := Nat.ne_of_lt (by rw [ga990]; exact f986.lt)
  have ne990_997 : b912 ≠ ad990 := Nat.ne_of_lt (by rw [ga990]; exact f987.lt)
  have Z990 : n0 ≤ h990.size := Nat.le_trans Z967 E990.1
  have b990 : n0 ≤ ad990 := Nat.le_trans Z967 (Nat.le_of_eq ga990.symm)
  have bk990 : h0.size ≤ ad990 := by rw [ga990]; exact K988.1
  have K998 := Keep.ext K988 E990
  have f999 := Exa.ext E990 f968
  have f1000 := Fld.ext E990 f969
  have f1001 := Fld.ext E990 f970
  have f1002 := Fld.ext E990 f971
  have f1003 := Fld.ext E990 f972
  have f1004 := Fld.ext E990 f973
  have f1005 := Fld.ext E990 f974
  have f1006 := Fld.ext E990 f975
  have f1007 := Fld.ext E990 f976
  have f1008 := Fld.ext E990 f977
  have f1009 := Fld.ext E990 f978
  have f1010 := Fld.ext E990 f979
  have f1011 := Fld.ext E990 f980
  have f1012 := OwnA.ext f981 E990
  have f1013 := OwnA.ext f982 E990
  have f1014 := OwnA.ext f983 E990
  have f1015 := OwnA.ext f985 E990
  have f1016 := OwnA.ext f986 E990
  have f1017 := OwnA.ext f987 E990
  have F1018 : OwnA Z h990 ad990 .int rm (fun _ => (.int (0 : Int32))) := OwnA.new Ar990 (by omega)
  obtain ⟨T1019, h1019, X1019, e1019, W1019, st1019⟩ := putF X990 hx hZ hown (host := "") (Or.inl (own_hw hw 11 rfl)) Via.refl e990 f1000 f999 (Or.inl (own_hw hw 12 rfl)) (own_hw hw 3 rfl) (ty := (.array .int)) (by decide) rfl rfl (g := (mkF m 90 #[sA a1, sA a2, sI p1, sI p2, sA b912, sI w2, sI rm, sU, sU, sU, sU, sU, sU] [(.ref ad990), (.ref a1)])) rfl rfl (D3 hby 39 rfl)
  have N1019 := own_frs (sl := Jvm.RoadKit.slotOf Z DTn "entries" "[I") N967 g0
  have Z1019 : n0 ≤ h1019.size := by rw [W1019.size]; exact Z990
  refine OwnWp.step st1019 ?_
  have f1020 := Exa.wr W1019 f999
  have f1021 := Fld.same W1019 f1000
  have f1022 := Fld.other W1019 f1001 (Or.inr (slot_ne (C := DTn) (Or.inl (own_hw hw 56 rfl)) (Or.inl (own_hw hw 12 rfl)) (by decide) (t := .int) (t' := (.array .int)) (by decide) (by decide)))
  have f1023 := Fld.other W1019 f1002 (Or.inr (slot_ne (C := DTn) (Or.inl (own_hw hw 61 rfl)) (Or.inl (own_hw hw 12 rfl)) (by decide) (t := .int) (t' := (.array .int)) (by decide) (by decide)))
  have f1024 := Fld.other W1019 f1003 (Or.inr (slot_ne (C := DTn) (Or.inl (own_hw hw 75 rfl)) (Or.inl (own_hw hw 12 rfl)) (by decide) (t := .int) (t' := (.array .int)) (by decide) (by decide)))
  have f1025 := Fld.other W1019 f1004 (Or.inr (slot_ne (C := DTn) (Or.inl (own_hw hw 54 rfl)) (Or.inl (own_hw hw 12 rfl)) (by decide) (t := (.array .int)) (t' := (.array .int)) (by decide) (by decide)))
  have f1026 := Fld.other W1019 f1005 (Or.inr (slot_ne (C := DTn) (Or.inr (own_hw hw 14 rfl)) (Or.inl (own_hw hw 12 rfl)) (by decide) (t := (.array .int)) (t' := (.array .int)) (by decide) (by decide)))
  have f1027 := Fld.other W1019 f1006 (Or.inr (slot_ne (C := DTn) (Or.inr (own_hw hw 16 rfl)) (Or.inl (own_hw hw 12 rfl)) (by decide) (t := (.array .int)) (t' := (.array .int)) (by decide) (by decide)))
  have f1028 := Fld.other W1019 f1007 (Or.inr (slot_ne (C := DTn) (Or.inr (own_hw hw 18 rfl)) (Or.inl (own_hw hw 12 rfl)) (by decide) (t := (.array .int)) (t' := (.array .int)) (by decide) (by decide)))
  have f1029 := Fld.other W1019 f1008 (Or.inr (slot_ne (C := DTn) (Or.inl (own_hw hw 67 rfl)) (Or.inl (own_hw hw 12 rfl)) (by decide) (t := .int) (t' := (.array .int)) (by decide) (by decide)))
  have f1030 := Fld.other W1019 f1009 (Or.inr (slot_ne (C := DTn) (Or.inl (own_hw hw 52 rfl)) (Or.inl (own_hw hw 12 rfl)) (by decide) (t := .int) (t' := (.array .int)) (by decide) (by decide)))
  have f1031 := Fld.other W1019 f1010 (Or.inr (slot_ne (C := DTn) (Or.inl (own_hw hw 20 rfl)) (Or.inl (own_hw hw 12 rfl)) (by decide) (t := (.array .int)) (t' := (.array .int)) (by decide) (by decide)))
  have f1032 := Fld.other W1019 f1011 (Or.inr (slot_ne (C := DTn) (Or.inl (own_hw hw 22 rfl)) (Or.inl (own_hw hw 12 rfl)) (by decide) (t := (.array .int)) (t' := (.array .int)) (by decide) (by decide)))
  have f1033 := OwnA.other f1012 W1019 n2.symm
  have f1034 := OwnA.other f1013 W1019 n3.symm
  have f1035 := OwnA.other f1014 W1019 n7
  have f1036 := OwnA.other f1015 W1019 n13
  have f1037 := OwnA.other f1016 W1019 n1.symm
  have f1038 := OwnA.other f1017 W1019 na935.symm
  have f1039 := OwnA.other F1018 W1019 ne990_991.symm
  have K1040 := Keep.wr K998 W1019 (Or.inl (List.mem_of_getElem? (i := 0) rfl))
  refine own_s T1019 (mkF m 95 #[sA a1, sA a2, sI p1, sI p2, sA b912, sI w2, sI rm, sU, sU, sU, sU, sU, sU] [(.ref a2), (.ref a1)]) (fun t k => ?_) ?_
  ·refine XS.aloadN X1019.here hx rfl (D3 hby 40 rfl) rfl rfl ?_
   exact XS.aloadN X1019.here hx rfl (D3 hby 41 rfl) rfl rfl k
  obtain ⟨T1041, h1041, X1041, e1041, W1041, st1041⟩ := putF X1019 hx hZ hown (host := "") (Or.inl (own_hw hw 53 rfl)) Via.refl e1019 f1025 f1020 (Or.inl (own_hw hw 54 rfl)) (own_hw hw 3 rfl) (ty := (.array .int)) (by decide) rfl rfl (g := (mkF m 95 #[sA a1, sA a2, sI p1, sI p2, sA b912, sI w2, sI rm, sU, sU, sU, sU, sU, sU] [(.ref a2), (.ref a1)])) rfl rfl (D3 hby 42 rfl)
  have N1041 := own_frs (sl := Jvm.RoadKit.slotOf Z DTn "codeLengths" "[I") N1019 g0
  have Z1041 : n0 ≤ h1041.size := by rw [W1041.size]; exact Z1019
  refine OwnWp.step st1041 ?_
  have f1042 := Exa.wr W1041 f1020
  have f1043 := Fld.other W1041 f1021 (Or.inr (slot_ne (C := DTn) (Or.inl (own_hw hw 12 rfl)) (Or.inl (own_hw hw 54 rfl)) (by decide) (t := (.array .int)) (t' := (.array .int)) (by decide) (by decide)))
  have f1044 := Fld.other W1041 f1022 (Or.inr (slot_ne (C := DTn) (Or.inl (own_hw hw 56 rfl)) (Or.inl (own_hw hw 54 rfl)) (by decide) (t := .int) (t' := (.array .int)) (by decide) (by decide)))
  have f1045 := Fld.other W1041 f1023 (Or.inr (slot_ne (C := DTn) (Or.inl (own_hw hw 61 rfl)) (Or.inl (own_hw hw 54 rfl)) (by decide) (t := .int) (t' := (.array .int)) (by decide) (by decide)))
  have f1046 := Fld.other W1041 f1024 (Or.inr (slot_ne (C := DTn) (Or.inl (own_hw hw 75 rfl)) (Or.inl (own_hw hw 54 rfl)) (by decide) (t := .int) (t' := (.array .int)) (by decide) (by decide)))
  have f1047 := Fld.same W1041 f1025
  have f1048 := Fld.other W1041 f1026 (Or.inr (slot_ne (C := DTn) (Or.inr (own_hw hw 14 rfl)) (Or.inl (own_hw hw 54 rfl)) (by decide) (t := (.array .int)) (t' := (.array .int)) (by decide) (by decide)))
  have f1049 := Fld.other W1041 f1027 (Or.inr (slot_ne (C := DTn) (Or.inr (own_hw hw 16 rfl)) (Or.inl (own_hw hw 54 rfl)) (by decide) (t := (.array .int)) (t' := (.array .int)) (by decide) (by decide)))
  have f1050 := Fld.other W1041 f1028 (Or.inr (slot_ne (C := DTn) (Or.inr (own_hw hw 18 rfl)) (Or.inl (own_hw hw 54 rfl)) (by decide) (t := (.array .int)) (t' := (.array .int)) (by decide) (by decide)))
  have f1051 := Fld.other W1041 f1029 (Or.inr (slot_ne (C := DTn) (Or.inl (own_hw hw 67 rfl)) (Or.inl (own_hw hw 54 rfl)) (by decide) (t := .int) (t' := (.array .int)) (by decide) (by decide)))
  have f1052 := Fld.other W1041 f1030 (Or.inr (slot_ne (C := DTn) (Or.inl (own_hw hw 52 rfl)) (Or.inl (own_hw hw 54 rfl)) (by decide) (t := .int) (t' := (.array .int)) (by decide) (by decide)))
  have f1053 := Fld.other W1041 f1031 (Or.inr (slot_ne (C := DTn) (Or.inl (own_hw hw 20 rfl)) (Or.inl (own_hw hw 54 rfl)) (by decide) (t := (.array .int)) (t' := (.array .int)) (by decide) (by decide)))
  have f1054 := Fld.other W1041 f1032 (Or.inr (slot_ne (C := DTn) (Or.inl (own_hw hw 22 rfl)) (Or.inl (own_hw hw 54 rfl)) (by decide) (t := (.array .int)) (t' := (.array .int)) (by decide) (by decide)))
  have f1055 := OwnA.other f1033 W1041 n2.symm
  have f1056 := OwnA.other f1034 W1041 n3.symm
  have f1057 := OwnA.other f1035 W1041 n7
  have f1058 := OwnA.other f1036 W1041 n13
  have f1059 := OwnA.other f1037 W1041 n1.symm
  have f1060 := OwnA.other f1038 W1041 na935.symm
  have f1061 := OwnA.other f1039 W1041 ne990_991.symm
  have K1062 := Keep.wr K1040 W1041 (Or.inl (List.mem_of_getElem? (i := 0) rfl))
  refine own_s T1041 (mkF m 100 #[sA a1, sA a2, sI p1, sI p2, sA b912, sI w2, sI rm, sU, sU, sU, sU, sU, sU] [(.int p1), (.ref a1)]) (fun t k => ?_) ?_
  ·refine XS.aloadN X1041.here hx rfl (D3 hby 43 rfl) rfl rfl ?_
   exact XS.iloadN X1041.here hx rfl (D3 hby 44 rfl) rfl k
  obtain ⟨T1063, h1063, X1063, e1063, W1063, st1063⟩ := putF X1041 hx hZ hown (host := "") (Or.inl (own_hw hw 55 rfl)) Via.refl e1041 f1044 f1042 (Or.inl (own_hw hw 56 rfl)) (own_hw hw 3 rfl) (ty := .int) (by decide) rfl rfl (g := (mkF m 100 #[sA a1, sA a2, sI p1, sI p2, sA b912, sI w2, sI rm, sU, sU, sU, sU, sU, sU] [(.int p1), (.ref a1)])) rfl rfl (D3 hby 45 rfl)
  have N1063 := own_frs (sl := Jvm.RoadKit.slotOf Z DTn "firstBits" "I") N1041 g0
  have Z1063 : n0 ≤ h1063.size := by rw [W1063.size]; exact Z1041
  refine OwnWp.step st1063 ?_
  have f1064 := Exa.wr W1063 f1042
  have f1065 := Fld.other W1063 f1043 (Or.inr (slot_ne (C := DTn) (Or.inl (own_hw hw 12 rfl)) (Or.inl (own_hw hw 56 rfl)) (by decide) (t := (.array .int)) (t' := .int) (by decide) (by decide)))
  have f1066 := Fld.same W1063 f1044
  have f1067 := Fld.other W1063 f1045 (Or.inr (slot_ne (C := DTn) (Or.inl (own_hw hw 61 rfl)) (Or.inl (own_hw hw 56 rfl)) (by decide) (t := .int) (t' := .int) (by decide) (by decide)))
  have f1068 := Fld.other W1063 f1046 (Or.inr (slot_ne (C := DTn) (Or.inl (own_hw hw 75 rfl)) (Or.inl (own_hw hw 56 rfl)) (by decide) (t := .int) (t' := .int) (by decide) (by decide)))
  have f1069 := Fld.other W1063 f1047 (Or.inr (slot_ne (C := DTn) (Or.inl (own_hw hw 54 rfl)) (Or.inl (own_hw hw 56 rfl)) (by decide) (t := (.array .int)) (t' := .int) (by decide) (by decide)))
  have f1070 := Fld.other W1063 f1048 (Or.inr (slot_ne (C := DTn) (Or.inr (own_hw hw 14 rfl)) (Or.inl (own_hw hw 56 rfl)) (by decide) (t := (.array .int)) (t' := .int) (by decide) (by decide)))
  have f1071 := Fld.other W1063 f1049 (Or.inr (slot_ne (C := DTn) (Or.inr (own_hw hw 16 rfl)) (Or.inl (own_hw hw 56 rfl)) (by decide) (t := (.array .int)) (t' := .int) (by decide) (by decide)))
  have f1072 := Fld.other W1063 f1050 (Or.inr (slot_ne (C := DTn) (Or.inr (own_hw hw 18 rfl)) (Or.inl (own_hw hw 56 rfl)) (by decide) (t := (.array .int)) (t' := .int) (by decide) (by decide)))
  have f1073 := Fld.other W1063 f1051 (Or.inr (slot_ne (C := DTn) (Or.inl (own_hw hw 67 rfl)) (Or.inl (own_hw hw 56 rfl)) (by decide) (t := .int) (t' := .int) (by decide) (by decide)))
  have f1074 := Fld.other W1063 f1052 (Or.inr (slot_ne (C := DTn) (Or.inl (own_hw hw 52 rfl)) (Or.inl (own_hw hw 56 rfl)) (by decide) (t := .int) (t' := .int) (by decide) (by decide)))
  have f1075 := Fld.other W1063 f1053 (Or.inr (slot_ne (C := DTn) (Or.inl (own_hw hw 20 rfl)) (Or.inl (own_hw hw 56 rfl)) (by decide) (t := (.array .int)) (t' := .int) (by decide) (by decide)))
  have f1076 := Fld.other W1063 f1054 (Or.inr (slot_ne (C := DTn) (Or.inl (own_hw hw 22 rfl)) (Or.inl (own_hw hw 56 rfl)) (by decide) (t := (.array .int)) (t' := .int) (by decide) (by decide)))
  have f1077 := OwnA.other f1055 W1063 n2.symm
  have f1078 := OwnA.other f1056 W1063 n3.symm
  have f1079 := OwnA.other f1057 W1063 n7
  have f1080 := OwnA.other f1058 W1063 n13
  have f1081 := OwnA.other f1059 W1063 n1.symm
  have f1082 := OwnA.other f1060 W1063 na935.symm
  have f1083 := OwnA.other f1061 W1063 ne990_991.symm
  have K1084 := Keep.wr K1062 W1063 (Or.inl (List.mem_of_getElem? (i := 0) rfl))
  refine own_s T1063 (mkF m 106 #[sA a1, sA a2, sI p1, sI p2, sA b912, sI w2, sI rm, sU, sU, sU, sU, sU, sU] [(.ref a1), (.int p1), (.ref a1)]) (fun t k => ?_) ?_
  ·refine XS.aloadN X1063.here hx rfl (D3 hby 46 rfl) rfl rfl ?_
   refine XS.iloadN X1063.here hx rfl (D3 hby 47 rfl) rfl ?_
   exact XS.aloadN X1063.here hx rfl (D3 hby 48 rfl) rfl rfl k
  obtain ⟨T1085, X1085, e1085, st1085⟩ := getF X1063 hx hZ hown (host := "") (Or.inl (own_hw hw 51 rfl)) Via.refl e1063 f1074 (g := (mkF m 106 #[sA a1, sA a2, sI p1, sI p2, sA b912, sI w2, sI rm, sU, sU, sU, sU, sU, sU] [(.ref a1), (.int p1), (.ref a1)])) rfl rfl (D3 hby 49 rfl)
  refine OwnWp.step st1085 ?_
  show OwnWp p e below s _ _ _ (T1085.setTop (mkF m 109 #[sA a1, sA a2, sI p1, sI p2, sA b912, sI w2, sI rm, sU, sU, sU, sU, sU, sU] [(.int w1), (.int p1), (.ref a1)]))
  obtain ⟨_, _, ⟨T1086, L1086, k1086, n1086⟩, -, X1086, ⟨Lc1086, hQ1086, l1086, y1086, z1086⟩, st1086⟩ := Jvm.LawKit.callS X1085 hx (y := Mn2) hown (mvT hZ (own_hw hw 57 rfl)) (mvT hZ (own_hw hw 58 rfl)) (mvT hZ (own_hw hw 45 rfl)) (mvT hZ (own_hw hw 59 rfl)) (by decide) (backOf (W := 1) (rm9 l Z a0 hw [] p1 w1 h1063 n0 Z1063 ) hZ (own_hw hw 59 rfl) (own_hw hw 45 rfl) (by decide) (by decide)) (g := (mkF m 109 #[sA a1, sA a2, sI p1, sI p2, sA b912, sI w2, sI rm, sU, sU, sU, sU, sU, sU] [(.int w1), (.int p1), (.ref a1)])) rfl (by rw [hml]; rfl) (argsL := [(.int p1), (.int w1)]) (rest := [(.ref a1)]) (lenOf pd_9 rfl) rfl (by show 2 * 0 + _ ≤ _; exact Nat.le_of_eq rfl) (D3 hby 50 rfl) (fun _ _ => ⟨rfl, e1085, (by dsimp only [Pt.cells]; decide), (by dsimp only [Pt.slots]; decide)⟩)
  dsimp only [Pt.U, Pt.locs, Pt.cells, Pt.slots] at X1086 l1086 y1086 z1086 st1086 hQ1086
  subst l1086 y1086 z1086
  obtain ⟨rfl, Nc1086, hp1086⟩ := hQ1086
  have N1086 := Fr.app N1063 Nc1086
  refine OwnWp.step st1086 ?_
  have eh1086 : T1086.heap = h1063 := hp1086
  show OwnWp p e below s _ _ _ (T1086.setTop (mkF m 112 #[sA a1, sA a2, sI p1, sI p2, sA b912, sI w2, sI rm, sU, sU, sU, sU, sU, sU] [(.int (own_max p1 w1)), (.ref a1)]))
  obtain ⟨w3, qw3⟩ : ∃ z : Int32, z = (own_max p1 w1) := ⟨_, rfl⟩
  rw [← qw3]
  show OwnWp p e below s _ _ _ (T1086.setTop (mkF m 112 #[sA a1, sA a2, sI p1, sI p2, sA b912, sI w2, sI rm, sU, sU, sU, sU, sU, sU] [(.int w3), (.ref a1)]))
  have hwd : w3.toInt = ((Nat.max fb mx : Nat) : Int) := by rw [qw3]; exact own_maxb hfb hmI
  obtain ⟨T1087, h1087, X1087, e1087, W1087, st1087⟩ := putF X1086 hx hZ hown (host := "") (Or.inl (own_hw hw 60 rfl)) Via.refl eh1086 f1067 f1064 (Or.inl (own_hw hw 61 rfl)) (own_hw hw 3 rfl) (ty := .int) (by decide) rfl rfl (g := (mkF m 112 #[sA a1, sA a2, sI p1, sI p2, sA b912, sI w2, sI rm, sU, sU, sU, sU, sU, sU] [(.int w3), (.ref a1)])) rfl rfl (D3 hby 51 rfl)
  have N1087 := own_frs (sl := Jvm.RoadKit.slotOf Z DTn "width" "I") N1086 g0
  have Z1087 : n0 ≤ h1087.size := by rw [W1087.size]; exact Z1063
  refine OwnWp.step st1087 ?_
  have f1088 := Exa.wr W1087 f1064
  have f1089 := Fld.other W1087 f1065 (Or.inr (slot_ne (C := DTn) (Or.inl (own_hw hw 12 rfl)) (Or.inl (own_hw hw 61 rfl)) (by decide) (t := (.array .int)) (t' := .int) (by decide) (by decide)))
  have f1090 := Fld.other W1087 f1066 (Or.inr (slot_ne (C := DTn) (Or.inl (own_hw hw 56 rfl)) (Or.inl (own_hw hw 61 rfl)) (by decide) (t := .int) (t' := .int) (by decide) (by decide)))
  have f1091 := Fld.same W1087 f1067
  have f1092 := Fld.other W1087 f1068 (Or.inr (slot_ne (C := DTn) (Or.inl (own_hw hw 75 rfl)) (Or.inl (own_hw hw 61 rfl)) (by decide) (t := .int) (t' := .int) (by decide) (by decide)))
  have f1093 := Fld.other W1087 f1069 (Or.inr (slot_ne (C := DTn) (Or.inl (own_hw hw 54 rfl)) (Or.inl (own_hw hw 61 rfl)) (by decide) (t := (.array .int)) (t' := .int) (by decide) (by decide)))
  have f1094 := Fld.other W1087 f1070 (Or.inr (slot_ne (C := DTn) (Or.inr (own_hw hw 14 rfl)) (Or.inl (own_hw hw 61 rfl)) (by decide) (t := (.array .int)) (t' := .int) (by decide) (by decide)))
  have f1095 := Fld.other W1087 f1071 (Or.inr (slot_ne (C := DTn) (Or.inr (own_hw hw 16 rfl)) (Or.inl (own_hw hw 61 rfl)) (by decide) (t := (.array .int)) (t' := .int) (by decide) (by decide)))
  have f1096 := Fld.other W1087 f1072 (Or.inr (slot_ne (C := DTn) (Or.inr (own_hw hw 18 rfl)) (Or.inl (own_hw hw 61 rfl)) (by decide) (t := (.array .int)) (t' := .int) (by decide) (by decide)))
  have f1097 := Fld.other W1087 f1073 (Or.inr (slot_ne (C := DTn) (Or.inl (own_hw hw 67 rfl)) (Or.inl (own_hw hw 61 rfl)) (by decide) (t := .int) (t' := .int) (by decide) (by decide)))
  have f1098 := Fld.other W1087 f1074 (Or.inr (slot_ne (C := DTn) (Or.inl (own_hw hw 52 rfl)) (Or.inl (own_hw hw 61 rfl)) (by decide) (t := .int) (t' := .int) (by decide) (by decide)))
  have f1099 := Fld.other W1087 f1075 (Or.inr (slot_ne (C := DTn) (Or.inl (own_hw hw 20 rfl)) (Or.inl (own_hw hw 61 rfl)) (by decide) (t := (.array .int)) (t' := .int) (by decide) (by decide)))
  have f1100 := Fld.other W1087 f1076 (Or.inr (slot_ne (C := DTn) (Or.inl (own_hw hw 22 rfl)) (Or.inl (own_hw hw 61 rfl)) (by decide) (t := (.array .int)) (t' := .int) (by decide) (by decide)))
  have f1101 := OwnA.other f1077 W1087 n2.symm
  have f1102 := OwnA.other f1078 W1087 n3.symm
  have f1103 := OwnA.other f1079 W1087 n7
  have f1104 := OwnA.other f1080 W1087 n13
  have f1105 := OwnA.other f1081 W1087 n1.symm
  have f1106 := OwnA.other f1082 W1087 na935.symm
  have f1107 := OwnA.other f1083 W1087 ne990_991.symm
  have K1108 := Keep.wr K1084 W1087 (Or.inl (List.mem_of_getElem? (i := 0) rfl))
  refine own_s T1087 (mkF m 119 #[sA a1, sA a2, sI p1, sI p2, sA b912, sI w2, sI rm, sU, sU, sU, sU, sU, sU] [(.ref b912), (.ref a2), (.ref a1)]) (fun t k => ?_) ?_
  ·refine XS.aloadN X1087.here hx rfl (D3 hby 52 rfl) rfl rfl ?_
   refine XS.aloadN X1087.here hx rfl (D3 hby 53 rfl) rfl rfl ?_
   exact XS.aload X1087.here hx rfl (D3 hby 54 rfl) rfl rfl k
  obtain ⟨cl1109, hcl1109, hst1109⟩ := Exa.cell f1088
  obtain ⟨_, _, ⟨T1109, L1109, k1109, n1109⟩, -, X1109, ⟨Lc1109, hQ1109, l1109, y1109, z1109⟩, st1109⟩ := X1087.privateBack hx (y := Mn11) hown (mvT hZ (own_hw hw 62 rfl)) (mvT hZ (own_hw hw 63 rfl)) hsel879 (Cond.privateMethod_at (mvP hZ (own_hw hw 64 rfl) (args := #[]))) (mvT hZ (own_hw hw 65 rfl)) (by decide) (backOf (W := 0) (rm10 l Z a0 hw [] a1 a2 b912 lc od pl ad990 fw0 ls0 gc883 fo fp Lf fb883 nn912 w1 (0 : Int32) p1 w3 (0 : Int32) mx h1087 n0 Z1087 g0 g1 g2 g3 (n1) (n2) (n3) (n4) (n5) (n6) (n7) (n8) (n9) (n10) (na935.symm) (na942.symm) (na936.symm) (na937.symm) f1088 f1089 f1090 f1091 f1092 f1093 f1094 f1095 f1096 f1097 f1098 f1099 f1100 f1105 f1101 f1102 f1103 f1106 hL hm hmI hnn912 hcn883 hla883 hfo) hZ (own_hw hw 65 rfl) (own_hw hw 4 rfl) (by decide) (by decide)) (g := (mkF m 119 #[sA a1, sA a2, sI p1, sI p2, sA b912, sI w2, sI rm, sU, sU, sU, sU, sU, sU] [(.ref b912), (.ref a2), (.ref a1)])) rfl (by rw [hml]; rfl) (Steps.refl _) (a := a1) (by rw [e1087]; exact hcl1109) hst1109 (argsL := [(.ref a2), (.ref b912)]) (rest := []) (lenOf pd_10 rfl) rfl (by show 2 * 0 + _ ≤ _; exact Nat.le_of_eq rfl) (D3 hby 55 rfl) (fun _ _ => ⟨rfl, e1087, (by dsimp only [Pt.cells]; decide), (by dsimp only [Pt.slots]; decide)⟩)
  dsimp only [Pt.U, Pt.locs, Pt.cells, Pt.slots] at X1109 l1109 y1109 z1109 st1109 hQ1109
  subst l1109 y1109 z1109
  obtain ⟨rfl, Nc1109, Kc1109, ⟨sh1109, gz1109, go1109, gq1109, v0_1109, v1_1109, v2_1109, v3_1109, v4_1109, v5_1109, v6_1109, v7_1109, v8_1109, v9_1109, v10_1109, v11_1109, az1109, ao1109, ap1109, hs1109, hq1109, ho1109, hy1109⟩⟩ := hQ1109
  have N1109 := Fr.app N1087 Nc1109
  refine OwnWp.go st1109 ?_
  have Z1109 : n0 ≤ T1109.heap.size := Nat.le_trans Z1087 Kc1109.1
  have f1110 := Exa.keep f1088 Kc1109
  have f1125 := OwnA.keep f1103 Kc1109 (ninS n7 (ninS n8 (ninS n9 (ninS n10 nin0))))
  have f1126 := OwnA.keep f1104 Kc1109 (ninS n13 (ninS n14 (ninS n15 (ninS n16 nin0))))
  have f1128 := OwnA.keep f1106 Kc1109 (ninS na935.symm (ninS na942.symm (ninS na936.symm (ninS na937.symm nin0))))
  have f1129 := OwnA.keep f1107 Kc1109 (ninS ne990_991.symm (ninS ne990_996.symm (ninS ne990_992.symm (ninS ne990_993.symm nin0))))
  have K1130 := Keep.trans K1108 Kc1109 (allS (Or.inl (List.mem_of_getElem? (i := 0) rfl)) (allS (Or.inl (List.mem_of_getElem? (i := 1) rfl)) (allS (Or.inl (List.mem_of_getElem? (i := 2) rfl)) (allS (Or.inl (List.mem_of_getElem? (i := 3) rfl)) all0))))
  refine own_s T1109 (mkF m 124 #[sA a1, sA a2, sI p1, sI p2, sA b912, sI w2, sI rm, sU, sU, sU, sU, sU, sU] [(.int (0 : Int32)), (.ref a1)]) (fun t k => ?_) ?_
  ·refine XS.aloadN X1109.here hx rfl (D3 hby 56 rfl) rfl rfl ?_
   exact XT.iconstV X1109.here hx rfl (0 : Int32) (D3 hby 57 rfl) rfl k
  obtain ⟨T1131, h1131, X1131, e1131, W1131, st1131⟩ := putF X1109 hx hZ hown (host := "") (Or.inl (own_hw hw 74 rfl)) Via.refl (rfl : T1109.heap = T1109.heap) v3_1109 f1110 (Or.inl (own_hw hw 75 rfl)) (own_hw hw 3 rfl) (ty := .int) (by decide) rfl rfl (g := (mkF m 124 #[sA a1, sA a2, sI p1, sI p2, sA b912, sI w2, sI rm, sU, sU, sU, sU, sU, sU] [(.int (0 : Int32)), (.ref a1)])) rfl rfl (D3 hby 58 rfl)
  have N1131 := own_frs (sl := Jvm.RoadKit.slotOf Z DTn "expectedBits" "I") N1109 g0
  have Z1131 : n0 ≤ h1131.size := by rw [W1131.size]; exact Z1109
  refine OwnWp.step st1131 ?_
  have f1132 := Exa.wr W1131 f1110
  have f1133 := OwnA.other f1125 W1131 n7
  have f1134 := OwnA.other f1126 W1131 n13
  have f1135 := OwnA.other f1128 W1131 na935.symm
  have f1136 := OwnA.other f1129 W1131 ne990_991.symm
  have f1137 := Fld.other W1131 v0_1109 (Or.inr (slot_ne (C := DTn) (Or.inl (own_hw hw 12 rfl)) (Or.inl (own_hw hw 75 rfl)) (by decide) (t := (.array .int)) (t' := .int) (by decide) (by decide)))
  have f1138 := Fld.other W1131 v1_1109 (Or.inr (slot_ne (C := DTn) (Or.inl (own_hw hw 56 rfl)) (Or.inl (own_hw hw 75 rfl)) (by decide) (t := .int) (t' := .int) (by decide) (by decide)))
  have f1139 := Fld.other W1131 v2_1109 (Or.inr (slot_ne (C := DTn) (Or.inl (own_hw hw 61 rfl)) (Or.inl (own_hw hw 75 rfl)) (by decide) (t := .int) (t' := .int) (by decide) (by decide)))
  have f1140 := Fld.same W1131 v3_1109
  have f1141 := Fld.other W1131 v4_1109 (Or.inr (slot_ne (C := DTn) (Or.inl (own_hw hw 54 rfl)) (Or.inl (own_hw hw 75 rfl)) (by decide) (t := (.array .int)) (t' := .int) (by decide) (by decide)))
  have f1142 := Fld.other W1131 v5_1109 (Or.inr (slot_ne (C := DTn) (Or.inr (own_hw hw 14 rfl)) (Or.inl (own_hw hw 75 rfl)) (by decide) (t := (.array .int)) (t' := .int) (by decide) (by decide)))
  have f1143 := Fld.other W1131 v7_1109 (Or.inr (slot_ne (C := DTn) (Or.inr (own_hw hw 18 rfl)) (Or.inl (own_hw hw 75 rfl)) (by decide) (t := (.array .int)) (t' := .int) (by decide) (by decide)))
  have f1144 := Fld.other W1131 v8_1109 (Or.inr (slot_ne (C := DTn) (Or.inl (own_hw hw 67 rfl)) (Or.inl (own_hw hw 75 rfl)) (by decide) (t := .int) (t' := .int) (by decide) (by decide)))
  have f1145 := Fld.other W1131 v9_1109 (Or.inr (slot_ne (C := DTn) (Or.inl (own_hw hw 52 rfl)) (Or.inl (own_hw hw 75 rfl)) (by decide) (t := .int) (t' := .int) (by decide) (by decide)))
  have f1146 := Fld.other W1131 v10_1109 (Or.inr (slot_ne (C := DTn) (Or.inl (own_hw hw 20 rfl)) (Or.inl (own_hw hw 75 rfl)) (by decide) (t := (.array .int)) (t' := .int) (by decide) (by decide)))
  have f1147 := Fld.other W1131 v11_1109 (Or.inr (slot_ne (C := DTn) (Or.inl (own_hw hw 22 rfl)) (Or.inl (own_hw hw 75 rfl)) (by decide) (t := (.array .int)) (t' := .int) (by decide) (by decide)))
  have f1148 := OwnA.other ao1109 W1131 n2.symm
  have f1149 := OwnA.other ap1109 W1131 n3.symm
  have K1150 := Keep.wr K1130 W1131 (Or.inl (List.mem_of_getElem? (i := 0) rfl))
  refine own_s T1131 (mkF m 128 #[sA a1, sA a2, sI p1, sI p2, sA b912, sI w2, sI rm, sU, sU, sU, sU, sU, sU] [(.ref a1)]) (fun t k => ?_) ?_
  ·exact XS.aloadN X1131.here hx rfl (D3 hby 59 rfl) rfl rfl k
  obtain ⟨T1151, X1151, e1151, st1151⟩ := getF X1131 hx hZ hown (host := "") (Or.inl (own_hw hw 66 rfl)) Via.refl e1131 f1144 (g := (mkF m 128 #[sA a1, sA a2, sI p1, sI p2, sA b912, sI w2, sI rm, sU, sU, sU, sU, sU, sU] [(.ref a1)])) rfl rfl (D3 hby 60 rfl)
  refine OwnWp.step st1151 ?_
  show OwnWp p e below s _ _ _ (T1151.setTop (mkF m 131 #[sA a1, sA a2, sI p1, sI p2, sA b912, sI w2, sI rm, sU, sU, sU, sU, sU, sU] [(.int sh1109)]))
  have J189 : ∀ (T1152 : State) (h1152 : Heap) (L1152 : List Loc) (eb : Int32) (s7 : Slot) (X1152 : Stand p l e Rm8 s m #[(.ref a1), (.ref a2), (.int p1), (.int p2)] below meth c T1152 L1152 3 36896) (e1152 : T1152.heap = h1152) (N1152 : Fr n0 L1152) (Z1152 : n0 ≤ h1152.size) (f1153 : Exa Z h1152 a1 DTn) (f1154 : OwnA Z h1152 a2 .int (256 : Int32) (fun zi => .int (Lf zi))) (f1155 : OwnA Z h1152 fw0 .int (0 : Int32) (fun zi => .int (fw9 zi))) (f1156 : OwnA Z h1152 b912 .int nn912 (fun zi => .int (fb883 zi))) (f1157 : OwnA Z h1152 ad990 .int rm (fun zi => .int ((fun _ => (0 : Int32)) zi))) (f1158 : Fld Z h1152 a1 DTn "entries" "[I" (.ref ad990)) (f1159 : Fld Z h1152 a1 DTn "firstBits" "I" (.int p1)) (f1160 : Fld Z h1152 a1 DTn "width" "I" (.int w3)) (f1161 : Fld Z h1152 a1 DTn "expectedBits" "I" (.int eb)) (f1162 : Fld Z h1152 a1 DTn "codeLengths" "[I" (.ref a2)) (f1163 : Fld Z h1152 a1 DTn "order" "[I" (.ref od)) (f1164 : Fld Z h1152 a1 DTn "places" "[I" (.ref pl)) (f1165 : Fld Z h1152 a1 DTn "shortest" "I" (.int sh1109)) (f1166 : Fld Z h1152 a1 DTn "longest" "I" (.int w1)) (f1167 : Fld Z h1152 a1 DTn "follows" "[I" (.ref fw0)) (f1168 : Fld Z h1152 a1 DTn "lasts" "[I" (.ref ls0)) (f1169 : OwnA Z h1152 od .int (256 : Int32) (fun zi => .int (go1109 zi))) (f1170 : OwnA Z h1152 pl .int (17 : Int32) (fun zi => .int (gq1109 zi))) (K1171 : Keep h0 h1152 [a1, lc, od, pl]) (hs7 : One s7), OwnWp p e below s Rm8.cells Rm8.slots (Q3 Z a1 a2 p1 p2 lc od pl en0 fw0 ls0 gc fo fp Lf fe0 fw9 mx fb h0 n0) (T1152.setTop (mkF m 189 #[sA a1, sA a2, sI p1, sI p2, sA b912, sI w2, sI rm, s7, sU, sU, sU, sU, sU] [])) := by
   intro T1152 h1152 L1152 eb s7 X1152 e1152 N1152 Z1152 f1153 f1154 f1155 f1156 f1157 f1158 f1159 f1160 f1161 f1162 f1163 f1164 f1165 f1166 f1167 f1168 f1169 f1170 K1171 hs7
   refine own_s T1152 (mkF m 193 #[sA a1, sA a2, sI p1, sI p2, sA b912, sI w2, sI rm, sI (0 : Int32), sU, sU, sU, sU, sU] [(.ref a1)]) (fun t k => ?_) ?_
   ·refine XT.iconstV X1152.here hx rfl (0 : Int32) (D3 hby 91 rfl) rfl ?_
    refine XS.istoreS X1152.here hx rfl (D3 hby 92 rfl) rfl (o := s7) rfl hs7 ?_
    exact XS.aloadN X1152.here hx rfl (D3 hby 93 rfl) rfl rfl k
   obtain ⟨T1172, X1172, e1172, st1172⟩ := getF X1152 hx hZ hown (host := "") (Or.inl (own_hw hw 66 rfl)) Via.refl e1152 f1165 (g := (mkF m 193 #[sA a1, sA a2, sI p1, sI p2, sA b912, sI w2, sI rm, sI (0 : Int32), sU, sU, sU, sU, sU] [(.ref a1)])) rfl rfl (D3 hby 94 rfl)
   refine OwnWp.step st1172 ?_
   show OwnWp p e below s _ _ _ (T1172.setTop (mkF m 196 #[sA a1, sA a2, sI p1, sI p2, sA b912, sI w2, sI rm, sI (0 : Int32), sU, sU, sU, sU, sU] [(.int sh1109)]))
   have J346 : ∀ (T1173 : State) (h1173 : Heap) (L1173 : List Loc) (ix : Int32) (fe : Int → Int32) (s8 : Slot) (X1173 : Stand p l e Rm8 s m #[(.ref a1), (.ref a2), (.int p1), (.int p2)] below meth c T1173 L1173 5 45088) (e1173 : T1173.heap = h1173) (N1173 : Fr n0 L1173) (Z1173 : n0 ≤ h1173.size) (f1174 : Exa Z h1173 a1 DTn) (f1175 : OwnA Z h1173 ad990 .int rm (fun zi => .int (fe zi))) (f1176 : Fld Z h1173 a1 DTn "entries" "[I" (.ref ad990)) (f1177 : Fld Z h1173 a1 DTn "firstBits" "I" (.int p1)) (f1178 : Fld Z h1173 a1 DTn "width" "I" (.int w3)) (f1179 : Fld Z h1173 a1 DTn "codeLengths" "[I" (.ref a2)) (f1180 : Fld Z h1173 a1 DTn "order" "[I" (.ref od)) (f1181 : Fld Z h1173 a1 DTn "places" "[I" (.ref pl)) (f1182 : Fld Z h1173 a1 DTn "longest" "I" (.int w1)) (f1183 : OwnA Z h1173 od .int (256 : Int32) (fun zi => .int (go1109 zi))) (f1184 : OwnA Z h1173 pl .int (17 : Int32) (fun zi => .int (gq1109 zi))) (K1185 : Keep h0 h1173 [a1, lc, od, pl]) (hs8 : One s8) (hix : ix.toInt = own_Sum (own_num (own_L Lf) 256) fb (Nat.min fb mx + 1)) (hgd : ∀ q : Int, 0 ≤ q → q < ix.toInt → own_good (own_num (own_L Lf) 256) go1109 fb 0 158 q (fe q)), OwnWp p e below s Rm8.cells Rm8.slots (Q3 Z a1 a2 p1 p2 lc od pl en0 fw0 ls0 gc fo fp Lf fe0 fw9 mx fb h0 n0) (T1173.setTop (mkF m 346 #[sA a1, sA a2, sI p1, sI p2, sA b912, sI w2, sI rm, sI ix, s8, sU, sU, sU, sU] [])) := by
    intro T1173 h1173 L1173 ix fe s8 X1173 e1173 N1173 Z1173 f1174 f1175 f1176 f1177 f1178 f1179 f1180 f1181 f1182 f1183 f1184 K1185 hs8 hix hgd
    have hCn : ∀ t, 0 ≤ (own_num (own_L Lf) 256) t := fun t => (hC0 t).1
    have hSf := hSall fb (Nat.min fb mx) (by omega) (Nat.min_le_left _ _)
    have hi0 := own_Sum_le hCn fb (Nat.zero_le (Nat.min fb mx + 1))
    rw [show own_Sum (own_num (own_L Lf) 256) fb 0 = 0 from rfl] at hi0
    refine own_s T1173 (mkF m 347 #[sA a1, sA a2, sI p1, sI p2, sA b912, sI w2, sI rm, sI ix, s8, sU, sU, sU, sU] [(.ref a1)]) (fun t k => ?_) ?_
    ·exact XS.aloadN X1173.here hx rfl (D3 hby 174 rfl) rfl rfl k
    obtain ⟨T1186, X1186, e1186, st1186⟩ := getF X1173 hx hZ hown (host := "") (Or.inl (own_hw hw 51 rfl)) Via.refl e1173 f1182 (g := (mkF m 347 #[sA a1, sA a2, sI p1, sI p2, sA b912, sI w2, sI rm, sI ix, s8, sU, sU, sU, sU] [(.ref a1)])) rfl rfl (D3 hby 175 rfl)
    refine OwnWp.step st1186 ?_
    refine own_s T1186 (mkF m 351 #[sA a1, sA a2, sI p1, sI p2, sA b912, sI w2, sI rm, sI ix, s8, sU, sU, sU, sU] [(.int p1), (.int w1)]) (fun t k => ?_) ?_
    ·exact XS.iloadN X1186.here hx rfl (D3 hby 176 rfl) rfl k
    by_cases c351_1187 : p1 < w1
    ·refine own_s T1186 (mkF m 368 #[sA a1, sA a2, sI p1, sI p2, sA b912, sI w2, sI rm, sI ix, s8, sU, sU, sU, sU] []) (fun t k => ?_) ?_
     ·exact XS.icmpYes X1186.here hx rfl (pc0 := 351) (pc' := 368) rfl (D3 hby 177 rfl) rfl (XT.ii_gt_t c351_1187) (by decide) (by decide) k
     rw [Int32.lt_iff_toInt_lt] at c351_1187
     have hfm : fb < mx := by omega
     have hmin : Nat.min fb mx = fb := Nat.min_eq_left (by omega)
     refine own_s T1186 (mkF m 369 #[sA a1, sA a2, sI p1, sI p2, sA b912, sI w2, sI rm, sI ix, s8, sU, sU, sU, sU] [(.ref a1)]) (fun t k => ?_) ?_
     ·exact XS.aloadN X1186.here hx rfl (D3 hby 186 rfl) rfl rfl k
     obtain ⟨T1188, X1188, e1188, st1188⟩ := getF X1186 hx hZ hown (host := "") (Or.inl (own_hw hw 51 rfl)) Via.refl e1186 f1182 (g := (mkF m 369 #[sA a1, sA a2, sI p1, sI p2, sA b912, sI w2, sI rm, sI ix, s8, sU, sU, sU, sU] [(.ref a1)])) rfl rfl (D3 hby 187 rfl)
     refine OwnWp.step st1188 ?_
     show OwnWp p e below s _ _ _ (T1188.setTop (mkF m 372 #[sA a1, sA a2, sI p1, sI p2, sA b912, sI w2, sI rm, sI ix, s8, sU, sU, sU, sU] [(.int w1)]))
     obtain ⟨w4, qw4⟩ : ∃ z : Int32, z = (w1 - p1) := ⟨_, rfl⟩
     refine own_s T1188 (mkF m 376 #[sA a1, sA a2, sI p1, sI p2, sA b912, sI w2, sI rm, sI ix, sI w4, sU, sU, sU, sU] []) (fun t k => ?_) ?_
     ·refine XS.iloadN X1188.here hx rfl (D3 hby 188 rfl) rfl ?_
      refine XS.isub X1188.here hx rfl (D3 hby 189 rfl) rfl ?_
      refine XS.istoreS X1188.here hx rfl (D3 hby 190 rfl) rfl (o := s8) rfl hs8 ?_
      rw [qw4] at k
      exact k
     refine own_s T1188 (mkF m 380 #[sA a1, sA a2, sI p1, sI p2, sA b912, sI w2, sI rm, sI ix, sI w4, sI w2, sU, sU, sU] []) (fun t k => ?_) ?_
     ·refine XS.iload X1188.here hx rfl (D3 hby 191 rfl) rfl ?_
      exact XS.istore X1188.here hx rfl (D3 hby 192 rfl) rfl (l' := #[sA a1, sA a2, sI p1, sI p2, sA b912, sI w2, sI rm, sI ix, sI w4, sI w2, sU, sU, sU]) rfl k
     have hex : w4.toInt = ((mx - fb : Nat) : Int) := by rw [qw4, own_sub (by omega) (by omega)]; omega
     have hsh := own_sz (p1 := w4) (s5 := (1 : Int32) <<< (w4 &&& 31)) hex (by omega) rfl
     have hp15 := own_p2le hm15
     rw [show (2 : Int) ^ 15 = 32768 from by decide] at hp15
     have hlC : ∀ (k : Nat) (T1189 : State) (h1189 : Heap) (L1189 : List Loc) (ix2 : Int32) (sb : Int32) (m2 : Nat) (g2c : Int → Int32) (X1189 : Stand p l e Rm8 s m #[(.ref a1), (.ref a2), (.int p1), (.int p2)] below meth c T1189 L1189 5 45088) (e1189 : T1189.heap = h1189) (N1189 : Fr n0 L1189) (Z1189 : n0 ≤ h1189.size) (f1190 : Exa Z h1189 a1 DTn) (f1191 : OwnA Z h1189 ad990 .int rm (fun zi => .int (g2c zi))) (f1192 : Fld Z h1189 a1 DTn "entries" "[I" (.ref ad990)) (f1193 : Fld Z h1189 a1 DTn "firstBits" "I" (.int p1)) (f1194 : Fld Z h1189 a1 DTn "width" "I" (.int w3)) (f1195 : Fld Z h1189 a1 DTn "codeLengths" "[I" (.ref a2)) (f1196 : Fld Z h1189 a1 DTn "order" "[I" (.ref od)) (f1197 : Fld Z h1189 a1 DTn "places" "[I" (.ref pl)) (f1198 : Fld Z h1189 a1 DTn "longest" "I" (.int w1)) (f1199 : OwnA Z h1189 od .int (256 : Int32) (fun zi => .int (go1109 zi))) (f1200 : OwnA Z h1189 pl .int (17 : Int32) (fun zi => .int (gq1109 zi))) (K1201 : Keep h0 h1189 [a1, lc, od, pl]) (hi2 : ix2.toInt = ix.toInt + (m2 : Int)) (hsb : sb.toInt = 2 ^ fb + (m2 : Int) * 2 ^ (mx - fb)) (hk2 : ix.toInt + (m2 : Int) + (k : Int) = 2 ^ fb) (hpt : own_ptr fe g2c fb (mx - fb) ix.toInt (m2 : Int)), OwnWp p e below s Rm8.cells Rm8.slots (Q3 Z a1 a2 p1 p2 lc od pl en0 fw0 ls0 gc fo fp Lf fe0 fw9 mx fb h0 n0) (T1189.setTop (mkF m 380 #[sA a1, sA a2, sI p1, sI p2, sA b912, sI w2, sI rm, sI ix2, sI w4, sI sb, sU, sU, sU] [])) := by
      intro k
      induction k with
      | zero =>
       intro T1189 h1189 L1189 ix2 sb m2 g2c X1189 e1189 N1189 Z1189 f1190 f1191 f1192 f1193 f1194 f1195 f1196 f1197 f1198 f1199 f1200 K1201 hi2 hsb hk2 hpt
       refine own_s T1189 (mkF m 384 #[sA a1, sA a2, sI p1, sI p2, sA b912, sI w2, sI rm, sI ix2, sI w4, sI sb, sU, sU, sU] [(.int w2), (.int ix2)]) (fun t k => ?_) ?_
       ·refine XS.iload X1189.here hx rfl (D3 hby 193 rfl) rfl ?_
        exact XS.iload X1189.here hx rfl (D3 hby 194 rfl) rfl k
       by_cases c384_1202 : ix2 < w2
       ·refine own_s T1189 (mkF m 387 #[sA a1, sA a2, sI p1, sI p2, sA b912, sI w2, sI rm, sI ix2, sI w4, sI sb, sU, sU, sU] []) (fun t k => ?_) ?_
        ·exact XS.icmpNo X1189.here hx rfl (D3 hby 195 rfl) rfl (XT.ii_ge_f c384_1202) k
        rw [Int32.lt_iff_toInt_lt] at c384_1202
        have hsbb := own_sbb hfm hm15 (m := m2) (by omega)
        have hrl2 : own_room fb mx = 2 ^ fb + 2 ^ mx := by unfold own_room; rw [if_pos hfm]
        exact absurd c384_1202 (by omega)
       ·refine own_s T1189 (mkF m 417 #[sA a1, sA a2, sI p1, sI p2, sA b912, sI w2, sI rm, sI ix2, sI w4, sI sb, sU, sU, sU] []) (fun t k => ?_) ?_
        ·exact XS.icmpYes X1189.here hx rfl (pc0 := 384) (pc' := 417) rfl (D3 hby 195 rfl) rfl (XT.ii_ge_t c384_1202) (by decide) (by decide) k
        rw [Int32.lt_iff_toInt_lt] at c384_1202
        have hsbb := own_sbb hfm hm15 (m := m2) (by omega)
        have hrl2 : own_room fb mx = 2 ^ fb + 2 ^ mx := by unfold own_room; rw [if_pos hfm]
        have hm2 : (m2 : Int) = 2 ^ fb - ix.toInt := by omega
        rw [hm2] at hpt
        have hSm := hSall mx mx hm15 (Nat.le_refl _)
        have hx0 := own_Sum_le hCn mx (Nat.zero_le (fb + 1))
        rw [show own_Sum (own_num (own_L Lf) 256) mx 0 = 0 from rfl] at hx0
        obtain ⟨w5, qw5⟩ : ∃ z : Int32, z = (p1 + (1 : Int32)) := ⟨_, rfl⟩
        refine own_s T1189 (mkF m 422 #[sA a1, sA a2, sI p1, sI p2, sA b912, sI w2, sI rm, sI ix2, sI w4, sI sb, sI w5, sU, sU] []) (fun t k => ?_) ?_
        ·refine XS.iloadN X1189.here hx rfl (D3 hby 213 rfl) rfl ?_
         refine XT.iconstV X1189.here hx rfl (1 : Int32) (D3 hby 214 rfl) rfl ?_
         refine XS.iadd X1189.here hx rfl (D3 hby 215 rfl) rfl ?_
         refine XS.istore X1189.here hx rfl (D3 hby 216 rfl) rfl (l' := #[sA a1, sA a2, sI p1, sI p2, sA b912, sI w2, sI rm, sI ix2, sI w4, sI sb, sI (p1 + (1 : Int32)), sU, sU]) rfl ?_
         rw [qw5] at k
         exact k
        have hl0 : w5.toInt = ((fb + 1 : Nat) : Int) := by rw [qw5]; exact own_inc hfb (by omega)
        have hlD : ∀ (k : Nat) (T1203 : State) (h1203 : Heap) (L1203 : List Loc) (ix3 : Int32) (ln : Int32) (ll : Nat) (g3c : Int → Int32) (t11 : Slot) (t12 : Slot) (X1203 : Stand p l e Rm8 s m #[(.ref a1), (.ref a2), (.int p1), (.int p2)] below meth c T1203 L1203 5 45088) (e1203 : T1203.heap = h1203) (N1203 : Fr n0 L1203) (Z1203 : n0 ≤ h1203.size) (f1204 : Exa Z h1203 a1 DTn) (f1205 : OwnA Z h1203 ad990 .int rm (fun zi => .int (g3c zi))) (f1206 : Fld Z h1203 a1 DTn "entries" "[I" (.ref ad990)) (f1207 : Fld Z h1203 a1 DTn "firstBits" "I" (.int p1)) (f1208 : Fld Z h1203 a1 DTn "width" "I" (.int w3)) (f1209 : Fld Z h1203 a1 DTn "codeLengths" "[I" (.ref a2)) (f1210 : Fld Z h1203 a1 DTn "order" "[I" (.ref od)) (f1211 : Fld Z h1203 a1 DTn "places" "[I" (.ref pl)) (f1212 : Fld Z h1203 a1 DTn "longest" "I" (.int w1)) (f1213 : OwnA Z h1203 od .int (256 : Int32) (fun zi => .int (go1109 zi))) (f1214 : OwnA Z h1203 pl .int (17 : Int32) (fun zi => .int (gq1109 zi))) (K1215 : Keep h0 h1203 [a1, lc, od, pl]) (ht11 : One t11) (ht12 : One t12) (hln : ln.toInt = (ll : Int)) (hk3 : ll + k = mx + 1) (h1l : fb + 1 ≤ ll) (hi3 : ix3.toInt = 2 ^ fb + (own_Sum (own_num (own_L Lf) 256) mx ll - own_Sum (own_num (own_L Lf) 256) mx (fb + 1))) (hiv : own_invs g2c g3c (own_num (own_L Lf) 256) go1109 mx (0 : Int32).toInt 158 (2 ^ fb - own_Sum (own_num (own_L Lf) 256) mx (fb + 1)) (2 ^ fb) ix3.toInt), OwnWp p e below s Rm8.cells Rm8.slots (Q3 Z a1 a2 p1 p2 lc od pl en0 fw0 ls0 gc fo fp Lf fe0 fw9 mx fb h0 n0) (T1203.setTop (mkF m 422 #[sA a1, sA a2, sI p1, sI p2, sA b912, sI w2, sI rm, sI ix3, sI w4, sI sb, sI ln, t11, t12] [])) := by
         intro k
         induction k with
         | zero =>
          intro T1203 h1203 L1203 ix3 ln ll g3c t11 t12 X1203 e1203 N1203 Z1203 f1204 f1205 f1206 f1207 f1208 f1209 f1210 f1211 f1212 f1213 f1214 K1215 ht11 ht12 hln hk3 h1l hi3 hiv
          refine own_s T1203 (mkF m 425 #[sA a1, sA a2, sI p1, sI p2, sA b912, sI w2, sI rm, sI ix3, sI w4, sI sb, sI ln, t11, t12] [(.ref a1), (.int ln)]) (fun t k => ?_) ?_
          ·refine XS.iload X1203.here hx rfl (D3 hby 217 rfl) rfl ?_
           exact XS.aloadN X1203.here hx rfl (D3 hby 218 rfl) rfl rfl k
          obtain ⟨T1216, X1216, e1216, st1216⟩ := getF X1203 hx hZ hown (host := "") (Or.inl (own_hw hw 51 rfl)) Via.refl e1203 f1212 (g := (mkF m 425 #[sA a1, sA a2, sI p1, sI p2, sA b912, sI w2, sI rm, sI ix3, sI w4, sI sb, sI ln, t11, t12] [(.ref a1), (.int ln)])) rfl rfl (D3 hby 219 rfl)
          refine OwnWp.step st1216 ?_
          by_cases c428_1217 : w1 < ln
          ·refine own_s T1216 (mkF m 507 #[sA a1, sA a2, sI p1, sI p2, sA b912, sI w2, sI rm, sI ix3, sI w4, sI sb, sI ln, t11, t12] []) (fun t k => ?_) ?_
           ·exact XS.icmpYes X1216.here hx rfl (pc0 := 428) (pc' := 507) rfl (D3 hby 220 rfl) rfl (XT.ii_gt_t c428_1217) (by decide) (by decide) k
           rw [Int32.lt_iff_toInt_lt] at c428_1217
           obtain rfl : ll = mx + 1 := by omega
           rw [hi3] at hiv
           refine own_s T1216 (mkF m 508 #[sA a1, sA a2, sI p1, sI p2, sA b912, sI w2, sI rm, sI ix3, sI w4, sI sb, sI ln, t11, t12] [(.ref a1)]) (fun t k => ?_) ?_
           ·exact XS.aloadN X1216.here hx rfl (D3 hby 261 rfl) rfl rfl k
           refine OwnWp.retA X1216 hx hlk Bd.returns rfl rfl (D3 hby 262 rfl) (by decide) (by decide) ?_
           rw [e1216]
           exact ⟨ad990, _, rm, w3, go1109, rfl, N1203, b990, K1215, f1206, f1207, f1208, f1209, f1205, hrm, hwd, (own_fillL hfm hix (by omega) hgd hpt hiv), ho1109⟩
          ·refine own_s T1216 (mkF m 431 #[sA a1, sA a2, sI p1, sI p2, sA b912, sI w2, sI rm, sI ix3, sI w4, sI sb, sI ln, t11, t12] []) (fun t k => ?_) ?_
           ·exact XS.icmpNo X1216.here hx rfl (D3 hby 220 rfl) rfl (XT.ii_gt_f c428_1217) k
           rw [Int32.lt_iff_toInt_lt] at c428_1217
           exact absurd c428_1217 (by omega)
         | succ k ih =>
          intro T1203 h1203 L1203 ix3 ln ll g3c t11 t12 X1203 e1203 N1203 Z1203 f1204 f1205 f1206 f1207 f1208 f1209 f1210 f1211 f1212 f1213 f1214 K1215 ht11 ht12 hln hk3 h1l hi3 hiv
          refine own_s T1203 (mkF m 425 #[sA a1, sA a2, sI p1, sI p2, sA b912, sI w2, sI rm, sI ix3, sI w4, sI sb, sI ln, t11, t12] [(.ref a1), (.int ln)]) (fun t k => ?_) ?_
          ·refine XS.iload X1203.here hx rfl (D3 hby 217 rfl) rfl ?_
           exact XS.aloadN X1203.here hx rfl (D3 hby 218 rfl) rfl rfl k
          obtain ⟨T1218, X1218, e1218, st1218⟩ := getF X1203 hx hZ hown (host := "") (Or.inl (own_hw hw 51 rfl)) Via.refl e1203 f1212 (g := (mkF m 425 #[sA a1, sA a2, sI p1, sI p2, sA b912, sI w2, sI rm, sI ix3, sI w4, sI sb, sI ln, t11, t12] [(.ref a1), (.int ln)])) rfl rfl (D3 hby 219 rfl)
          refine OwnWp.step st1218 ?_
          by_cases c428_1219 : w1 < ln
          ·refine own_s T1218 (mkF m 507 #[sA a1, sA a2, sI p1, sI p2, sA b912, sI w2, sI rm, sI ix3, sI w4, sI sb, sI ln, t11, t12] []) (fun t k => ?_) ?_
           ·exact XS.icmpYes X1218.here hx rfl (pc0 := 428) (pc' := 507) rfl (D3 hby 220 rfl) rfl (XT.ii_gt_t c428_1219) (by decide) (by decide) k
           rw [Int32.lt_iff_toInt_lt] at c428_1219
           exact absurd c428_1219 (by omega)
          ·refine own_s T1218 (mkF m 431 #[sA a1, sA a2, sI p1, sI p2, sA b912, sI w2, sI rm, sI ix3, sI w4, sI sb, sI ln, t11, t12] []) (fun t k => ?_) ?_
           ·exact XS.icmpNo X1218.here hx rfl (D3 hby 220 rfl) rfl (XT.ii_gt_f c428_1219) k
           rw [Int32.lt_iff_toInt_lt] at c428_1219
           refine own_s T1218 (mkF m 433 #[sA a1, sA a2, sI p1, sI p2, sA b912, sI w2, sI rm, sI ix3, sI w4, sI sb, sI ln, t11, t12] [(.ref a1), (.int (1 : Int32))]) (fun t k => ?_) ?_
           ·refine XT.iconstV X1218.here hx rfl (1 : Int32) (D3 hby 221 rfl) rfl ?_
            exact XS.aloadN X1218.here hx rfl (D3 hby 222 rfl) rfl rfl k
           obtain ⟨T1220, X1220, e1220, st1220⟩ := getF X1218 hx hZ hown (host := "") (Or.inl (own_hw hw 51 rfl)) Via.refl e1218 f1212 (g := (mkF m 433 #[sA a1, sA a2, sI p1, sI p2, sA b912, sI w2, sI rm, sI ix3, sI w4, sI sb, sI ln, t11, t12] [(.ref a1), (.int (1 : Int32))])) rfl rfl (D3 hby 223 rfl)
           refine OwnWp.step st1220 ?_
           show OwnWp p e below s _ _ _ (T1220.setTop (mkF m 436 #[sA a1, sA a2, sI p1, sI p2, sA b912, sI w2, sI rm, sI ix3, sI w4, sI sb, sI ln, t11, t12] [(.int w1), (.int (1 : Int32))]))
           obtain ⟨w6, qw6⟩ : ∃ z : Int32, z = ((1 : Int32) <<< ((w1 - ln) &&& 31)) := ⟨_, rfl⟩
           refine own_s T1220 (mkF m 442 #[sA a1, sA a2, sI p1, sI p2, sA b912, sI w2, sI rm, sI ix3, sI w4, sI sb, sI ln, sI w6, t12] []) (fun t k => ?_) ?_
           ·refine XS.iload X1220.here hx rfl (D3 hby 224 rfl) rfl ?_
            refine XS.isub X1220.here hx rfl (D3 hby 225 rfl) rfl ?_
            refine XT.ishl X1220.here hx rfl (D3 hby 226 rfl) rfl ?_
            refine XS.istoreS X1220.here hx rfl (D3 hby 227 rfl) rfl (o := t11) rfl ht11 ?_
            rw [qw6] at k
            exact k
           refine own_s T1220 (mkF m 443 #[sA a1, sA a2, sI p1, sI p2, sA b912, sI w2, sI rm, sI ix3, sI w4, sI sb, sI ln, sI w6, t12] [(.ref a1)]) (fun t k => ?_) ?_
           ·exact XS.aloadN X1220.here hx rfl (D3 hby 228 rfl) rfl rfl k
           obtain ⟨T1221, X1221, e1221, st1221⟩ := getF X1220 hx hZ hown (host := "") (Or.inl (own_hw hw 17 rfl)) Via.refl e1220 f1211 (g := (mkF m 443 #[sA a1, sA a2, sI p1, sI p2, sA b912, sI w2, sI rm, sI ix3, sI w4, sI sb, sI ln, sI w6, t12] [(.ref a1)])) rfl rfl (D3 hby 229 rfl)
           refine OwnWp.step st1221 ?_
           show OwnWp p e below s _ _ _ (T1221.setTop (mkF m 446 #[sA a1, sA a2, sI p1, sI p2, sA b912, sI w2, sI rm, sI ix3, sI w4, sI sb, sI ln, sI w6, t12] [(.ref pl)]))
           obtain ⟨w7, qw7⟩ : ∃ z : Int32, z = (gq1109 ln.toInt) := ⟨_, rfl⟩
           refine own_s T1221 (mkF m 451 #[sA a1, sA a2, sI p1, sI p2, sA b912, sI w2, sI rm, sI ix3, sI w4, sI sb, sI ln, sI w6, sI w7] []) (fun t k => ?_) ?_
           ·refine XS.iload X1221.here hx rfl (D3 hby 230 rfl) rfl ?_
            refine OwnA.ldI X1221 hx hZ e1221 f1214 (by omega) (by rw [show (17 : Int32).toInt = 17 from rfl]; omega) rfl rfl (D3 hby 231 rfl) ?_
            refine XS.istoreS X1221.here hx rfl (D3 hby 232 rfl) rfl (o := t12) rfl ht12 ?_
            rw [qw7] at k
            exact k
           have hd0 : (w1 - ln).toInt = ((mx - ll : Nat) : Int) := by rw [own_sub (by omega) (by omega)]; omega
           have hcp := own_sz hd0 (by omega) qw6
           have hk0 : w7.toInt = own_A (own_num (own_L Lf) 256) ll := by rw [qw7, hq1109 ln.toInt (by omega) (by omega), hln]; rfl
           have hk1 : (gq1109 (ln + (1 : Int32)).toInt).toInt = own_A (own_num (own_L Lf) 256) ll + (own_num (own_L Lf) 256) (ll : Int) := by rw [own_inc hln (by omega), hq1109 _ (by omega) (by omega), show (((ll + 1 : Nat) : Int)).toNat = ll + 1 from rfl, own_A_succ _ (by omega)]
           have hAl := own_A256 hC0 hA16 (l := ll) (by omega) (by omega)
           have hAn := own_A_nn hC0 ll
           have hss := own_Sum_succ (own_num (own_L Lf) 256) mx (l := ll) (by omega)
           have hs1 := own_Sum_le hCn mx (show ll + 1 ≤ mx + 1 by omega)
           have hs2 := own_Sum_le hCn mx (show fb + 1 ≤ ll by omega)
           have hpl2 := own_p2 (mx - ll)
           have hrl2 : own_room fb mx = 2 ^ fb + 2 ^ mx := by unfold own_room; rw [if_pos hfm]
           have hlE : ∀ (k : Nat) (T1222 : State) (h1222 : Heap) (L1222 : List Loc) (kk : Int32) (ix4 : Int32) (r : Nat) (g4c : Int → Int32) (X1222 : Stand p l e Rm8 s m #[(.ref a1), (.ref a2), (.int p1), (.int p2)] below meth c T1222 L1222 5 45088) (e1222 : T1222.heap = h1222) (N1222 : Fr n0 L1222) (Z1222 : n0 ≤ h1222.size) (f1223 : Exa Z h1222 a1 DTn) (f1224 : OwnA Z h1222 ad990 .int rm (fun zi => .int (g4c zi))) (f1225 : Fld Z h1222 a1 DTn "entries" "[I" (.ref ad990)) (f1226 : Fld Z h1222 a1 DTn "firstBits" "I" (.int p1)) (f1227 : Fld Z h1222 a1 DTn "width" "I" (.int w3)) (f1228 : Fld Z h1222 a1 DTn "codeLengths" "[I" (.ref a2)) (f1229 : Fld Z h1222 a1 DTn "order" "[I" (.ref od)) (f1230 : Fld Z h1222 a1 DTn "places" "[I" (.ref pl)) (f1231 : Fld Z h1222 a1 DTn "longest" "I" (.int w1)) (f1232 : OwnA Z h1222 od .int (256 : Int32) (fun zi => .int (go1109 zi))) (f1233 : OwnA Z h1222 pl .int (17 : Int32) (fun zi => .int (gq1109 zi))) (K1234 : Keep h0 h1222 [a1, lc, od, pl]) (hkk : kk.toInt = own_A (own_num (own_L Lf) 256) ll + (r : Int)) (hrk : (r : Int) + (k : Int) = (own_num (own_L Lf) 256) (ll : Int)) (hi4 : ix4.toInt = (2 ^ fb - own_Sum (own_num (own_L Lf) 256) mx (fb + 1)) + own_Sum (own_num (own_L Lf) 256) mx ll + (r : Int) * 2 ^ (mx - ll)) (hiv4 : own_invs g2c g4c (own_num (own_L Lf) 256) go1109 mx (0 : Int32).toInt 158 (2 ^ fb - own_Sum (own_num (own_L Lf) 256) mx (fb + 1)) (2 ^ fb) ix4.toInt), OwnWp p e below s Rm8.cells Rm8.slots (Q3 Z a1 a2 p1 p2 lc od pl en0 fw0 ls0 gc fo fp Lf fe0 fw9 mx fb h0 n0) (T1222.setTop (mkF m 451 #[sA a1, sA a2, sI p1, sI p2, sA b912, sI w2, sI rm, sI ix4, sI w4, sI sb, sI ln, sI w6, sI kk] [])) := by
            intro k
            induction k with
            | zero =>
             intro T1222 h1222 L1222 kk ix4 r g4c X1222 e1222 N1222 Z1222 f1223 f1224 f1225 f1226 f1227 f1228 f1229 f1230 f1231 f1232 f1233 K1234 hkk hrk hi4 hiv4
             refine own_s T1222 (mkF m 454 #[sA a1, sA a2, sI p1, sI p2, sA b912, sI w2, sI rm, sI ix4, sI w4, sI sb, sI ln, sI w6, sI kk] [(.ref a1), (.int kk)]) (fun t k => ?_) ?_
             ·refine XS.iload X1222.here hx rfl (D3 hby 233 rfl) rfl ?_
              exact XS.aloadN X1222.here hx rfl (D3 hby 234 rfl) rfl rfl k
             obtain ⟨T1235, X1235, e1235, st1235⟩ := getF X1222 hx hZ hown (host := "") (Or.inl (own_hw hw 17 rfl)) Via.refl e1222 f1230 (g := (mkF m 454 #[sA a1, sA a2, sI p1, sI p2, sA b912, sI w2, sI rm, sI ix4, sI w4, sI sb, sI ln, sI w6, sI kk] [(.ref a1), (.int kk)])) rfl rfl (D3 hby 235 rfl)
             refine OwnWp.step st1235 ?_
             refine own_s T1235 (mkF m 462 #[sA a1, sA a2, sI p1, sI p2, sA b912, sI w2, sI rm, sI ix4, sI w4, sI sb, sI ln, sI w6, sI kk] [(.int (gq1109 (ln + (1 : Int32)).toInt)), (.int kk)]) (fun t k => ?_) ?_
             ·refine XS.iload X1235.here hx rfl (D3 hby 236 rfl) rfl ?_
              refine XT.iconstV X1235.here hx rfl (1 : Int32) (D3 hby 237 rfl) rfl ?_
              refine XS.iadd X1235.here hx rfl (D3 hby 238 rfl) rfl ?_
              exact OwnA.ldI X1235 hx hZ e1235 f1233 (by rw [own_inc hln (by omega)]; omega) (by rw [own_inc hln (by omega), show (17 : Int32).toInt = 17 from rfl]; omega) rfl rfl (D3 hby 239 rfl) k
             by_cases c462_1236 : kk < (gq1109 (ln + (1 : Int32)).toInt)
             ·refine own_s T1235 (mkF m 465 #[sA a1, sA a2, sI p1, sI p2, sA b912, sI w2, sI rm, sI ix4, sI w4, sI sb, sI ln, sI w6, sI kk] []) (fun t k => ?_) ?_
              ·exact XS.icmpNo X1235.here hx rfl (D3 hby 240 rfl) rfl (XT.ii_ge_f c462_1236) k
              rw [Int32.lt_iff_toInt_lt, hk1] at c462_1236
              exact absurd c462_1236 (by omega)
             ·refine own_s T1235 (mkF m 501 #[sA a1, sA a2, sI p1, sI p2, sA b912, sI w2, sI rm, sI ix4, sI w4, sI sb, sI ln, sI w6, sI kk] []) (fun t k => ?_) ?_
              ·exact XS.icmpYes X1235.here hx rfl (pc0 := 462) (pc' := 501) rfl (D3 hby 240 rfl) rfl (XT.ii_ge_t c462_1236) (by decide) (by decide) k
              rw [Int32.lt_iff_toInt_lt, hk1] at c462_1236
              obtain ⟨w8, qw8⟩ : ∃ z : Int32, z = (ln + (1 : Int32)) := ⟨_, rfl⟩
              refine own_s T1235 (mkF m 504 #[sA a1, sA a2, sI p1, sI p2, sA b912, sI w2, sI rm, sI ix4, sI w4, sI sb, sI w8, sI w6, sI kk] []) (fun t k => ?_) ?_
              ·refine XT.iincV X1235.here hx rfl (1 : Int32) (D3 hby 259 rfl) rfl rfl (l' := #[sA a1, sA a2, sI p1, sI p2, sA b912, sI w2, sI rm, sI ix4, sI w4, sI sb, sI (ln + (1 : Int32)), sI w6, sI kk]) rfl ?_
               rw [qw8] at k
               exact k
              refine own_s T1235 (mkF m 422 #[sA a1, sA a2, sI p1, sI p2, sA b912, sI w2, sI rm, sI ix4, sI w4, sI sb, sI w8, sI w6, sI kk] []) (fun t k => ?_) ?_
              ·exact XS.goto X1235.here hx rfl (pc0 := 504) (pc' := 422) rfl (D3 hby 260 rfl) (by decide) (by decide) k
              have y1 : w8.toInt = ((ll + 1 : Nat) : Int) := by rw [qw8]; exact own_inc hln (by omega)
              exact ih  T1235 h1222 _ ix4 w8 (ll + 1) g4c _ _ X1235 e1235 N1222 Z1222 f1223 f1224 f1225 f1226 f1227 f1228 f1229 f1230 f1231 f1232 f1233 K1234 (One.val rfl) (One.val rfl) y1 (by omega) (by omega) (by rw [hss, hi4, show (r : Int) = (own_num (own_L Lf) 256) (ll : Int) from by omega]; omega) hiv4
            | succ k ih =>
             intro T1222 h1222 L1222 kk ix4 r g4c X1222 e1222 N1222 Z1222 f1223 f1224 f1225 f1226 f1227 f1228 f1229 f1230 f1231 f1232 f1233 K1234 hkk hrk hi4 hiv4
             refine own_s T1222 (mkF m 454 #[sA a1, sA a2, sI p1, sI p2, sA b912, sI w2, sI rm, sI ix4, sI w4, sI sb, sI ln, sI w6, sI kk] [(.ref a1), (.int kk)]) (fun t k => ?_) ?_
             ·refine XS.iload X1222.here hx rfl (D3 hby 233 rfl) rfl ?_
              exact XS.aloadN X1222.here hx rfl (D3 hby 234 rfl) rfl rfl k
             obtain ⟨T1237, X1237, e1237, st1237⟩ := getF X1222 hx hZ hown (host := "") (Or.inl (own_hw hw 17 rfl)) Via.refl e1222 f1230 (g := (mkF m 454 #[sA a1, sA a2, sI p1, sI p2, sA b912, sI w2, sI rm, sI ix4, sI w4, sI sb, sI ln, sI w6, sI kk] [(.ref a1), (.int kk)])) rfl rfl (D3 hby 235 rfl)
             refine OwnWp.step st1237 ?_
             refine own_s T1237 (mkF m 462 #[sA a1, sA a2, sI p1, sI p2, sA b912, sI w2, sI rm, sI ix4, sI w4, sI sb, sI ln, sI w6, sI kk] [(.int (gq1109 (ln + (1 : Int32)).toInt)), (.int kk)]) (fun t k => ?_) ?_
             ·refine XS.iload X1237.here hx rfl (D3 hby 236 rfl) rfl ?_
              refine XT.iconstV X1237.here hx rfl (1 : Int32) (D3 hby 237 rfl) rfl ?_
              refine XS.iadd X1237.here hx rfl (D3 hby 238 rfl) rfl ?_
              exact OwnA.ldI X1237 hx hZ e1237 f1233 (by rw [own_inc hln (by omega)]; omega) (by rw [own_inc hln (by omega), show (17 : Int32).toInt = 17 from rfl]; omega) rfl rfl (D3 hby 239 rfl) k
             by_cases c462_1238 : kk < (gq1109 (ln + (1 : Int32)).toInt)
             ·refine own_s T1237 (mkF m 465 #[sA a1, sA a2, sI p1, sI p2, sA b912, sI w2, sI rm, sI ix4, sI w4, sI sb, sI ln, sI w6, sI kk] []) (fun t k => ?_) ?_
              ·exact XS.icmpNo X1237.here hx rfl (D3 hby 240 rfl) rfl (XT.ii_ge_f c462_1238) k
              rw [Int32.lt_iff_toInt_lt, hk1] at c462_1238
              have hbk := own_blk (r := (r : Int)) (c := (own_num (own_L Lf) 256) (ll : Int)) (i := 2 ^ (mx - ll) - 1) hpl2 (by omega) (by omega) (by omega) (by omega)
              have hrP := Int.mul_nonneg (show (0 : Int) ≤ (r : Int) by omega) (show (0 : Int) ≤ 2 ^ (mx - ll) by omega)
              refine own_s T1237 (mkF m 466 #[sA a1, sA a2, sI p1, sI p2, sA b912, sI w2, sI rm, sI ix4, sI w4, sI sb, sI ln, sI w6, sI kk] [(.ref a1)]) (fun t k => ?_) ?_
              ·exact XS.aloadN X1237.here hx rfl (D3 hby 241 rfl) rfl rfl k
              obtain ⟨T1239, X1239, e1239, st1239⟩ := getF X1237 hx hZ hown (host := "") (Or.inl (own_hw hw 11 rfl)) Via.refl e1237 f1225 (g := (mkF m 466 #[sA a1, sA a2, sI p1, sI p2, sA b912, sI w2, sI rm, sI ix4, sI w4, sI sb, sI ln, sI w6, sI kk] [(.ref a1)])) rfl rfl (D3 hby 242 rfl)
              refine OwnWp.step st1239 ?_
              refine own_s T1239 (mkF m 482 #[sA a1, sA a2, sI p1, sI p2, sA b912, sI w2, sI rm, sI ix4, sI w4, sI sb, sI ln, sI w6, sI kk] [(.int (0 : Int32)), (.int ln), (.int kk), (.ref a1), (.int (ix4 + w6)), (.int ix4), (.ref ad990)]) (fun t k => ?_) ?_
              ·refine XS.iload X1239.here hx rfl (D3 hby 243 rfl) rfl ?_
               refine XS.iload X1239.here hx rfl (D3 hby 244 rfl) rfl ?_
               refine XS.iload X1239.here hx rfl (D3 hby 245 rfl) rfl ?_
               refine XS.iadd X1239.here hx rfl (D3 hby 246 rfl) rfl ?_
               refine XS.aloadN X1239.here hx rfl (D3 hby 247 rfl) rfl rfl ?_
               refine XS.iload X1239.here hx rfl (D3 hby 248 rfl) rfl ?_
               refine XS.iload X1239.here hx rfl (D3 hby 249 rfl) rfl ?_
               exact XT.iconstV X1239.here hx rfl (0 : Int32) (D3 hby 250 rfl) rfl k
              obtain ⟨cl1240, hcl1240, hst1240⟩ := Exa.cell f1223
              obtain ⟨_, _, ⟨T1240, L1240, k1240, n1240⟩, -, X1240, ⟨Lc1240, hQ1240, l1240, y1240, z1240⟩, st1240⟩ := X1239.privateBack hx (y := Mn8) hown (mvT hZ (own_hw hw 96 rfl)) (mvT hZ (own_hw hw 97 rfl)) hsel882 (Cond.privateMethod_at (mvP hZ (own_hw hw 98 rfl) (args := #[]))) (mvT hZ (own_hw hw 99 rfl)) (by decide) (backOf (W := 3) (rm17 l Z a0 hw [] a1 kk ln (0 : Int32) od go1109 h1222 n0 Z1222 f1229 f1232 (by omega) (by omega)) hZ (own_hw hw 99 rfl) (own_hw hw 4 rfl) (by decide) (by decide)) (g := (mkF m 482 #[sA a1, sA a2, sI p1, sI p2, sA b912, sI w2, sI rm, sI ix4, sI w4, sI sb, sI ln, sI w6, sI kk] [(.int (0 : Int32)), (.int ln), (.int kk), (.ref a1), (.int (ix4 + w6)), (.int ix4), (.ref ad990)])) rfl (by rw [hml]; rfl) (Steps.refl _) (a := a1) (by rw [e1239]; exact hcl1240) hst1240 (argsL := [(.int kk), (.int ln), (.int (0 : Int32))]) (rest := [(.int (ix4 + w6)), (.int ix4), (.ref ad990)]) (lenOf pd_17 rfl) rfl (by show 2 * 0 + _ ≤ _; exact Nat.le_of_eq rfl) (D3 hby 251 rfl) (fun _ _ => ⟨rfl, e1239, (by dsimp only [Pt.cells]; decide), (by dsimp only [Pt.slots]; decide)⟩)
              dsimp only [Pt.U, Pt.locs, Pt.cells, Pt.slots] at X1240 l1240 y1240 z1240 st1240 hQ1240
              subst l1240 y1240 z1240
              obtain ⟨rfl, Nc1240, hp1240⟩ := hQ1240
              have N1240 := Fr.app N1222 Nc1240
              refine OwnWp.go st1240 ?_
              have eh1240 : T1240.heap = h1222 := hp1240
              show OwnWp p e below s _ _ _ (T1240.setTop (mkF m 485 #[sA a1, sA a2, sI p1, sI p2, sA b912, sI w2, sI rm, sI ix4, sI w4, sI sb, sI ln, sI w6, sI kk] [(.int (own_code (go1109 kk.toInt) ln (0 : Int32))), (.int (ix4 + w6)), (.int ix4), (.ref ad990)]))
              obtain ⟨w8, qw8⟩ : ∃ z : Int32, z = (own_code (go1109 kk.toInt) ln (0 : Int32)) := ⟨_, rfl⟩
              obtain ⟨w9, qw9⟩ : ∃ z : Int32, z = (ix4 + w6) := ⟨_, rfl⟩
              rw [← qw8, ← qw9]
              show OwnWp p e below s _ _ _ (T1240.setTop (mkF m 485 #[sA a1, sA a2, sI p1, sI p2, sA b912, sI w2, sI rm, sI ix4, sI w4, sI sb, sI ln, sI w6, sI kk] [(.int w8), (.int w9), (.int ix4), (.ref ad990)]))
              have hhi : w9.toInt = ix4.toInt + 2 ^ (mx - ll) := by rw [qw9, own_add (by omega) (by omega), hcp]
              have hvv : own_isval go1109 (own_num (own_L Lf) 256) ll (r : Int) (0 : Int32) 158 w8 := by rw [qw8]; exact own_isval0 (by decide) hy1109 hkk (by omega) (by omega) hln (by omega) (Or.inl rfl)
              obtain ⟨_, _, ⟨T1241, L1241, k1241, n1241⟩, -, X1241, ⟨Lc1241, hQ1241, l1241, y1241, z1241⟩, st1241⟩ := Jvm.LawKit.callS X1240 hx (y := Mn4) hown (mvT hZ (own_hw hw 68 rfl)) (mvT hZ (own_hw hw 69 rfl)) (mvT hZ (own_hw hw 34 rfl)) (mvT hZ (own_hw hw 70 rfl)) (by decide) (backOf (W := 0) (rm11 l Z a0 hw [] ad990 ix4 w9 w8 rm g4c h1222 n0 Z1222 b990 f1224 (by omega) (by omega) (by omega)) hZ (own_hw hw 70 rfl) (own_hw hw 34 rfl) (by decide) (by decide)) (g := (mkF m 485 #[sA a1, sA a2, sI p1, sI p2, sA b912, sI w2, sI rm, sI ix4, sI w4, sI sb, sI ln, sI w6, sI kk] [(.int w8), (.int w9), (.int ix4), (.ref ad990)])) rfl (by rw [hml]; rfl) (argsL := [(.ref ad990), (.int ix4), (.int w9), (.int w8)]) (rest := []) (lenOf pd_11 rfl) rfl (by show 2 * 0 + _ ≤ _; exact Nat.le_of_eq rfl) (D3 hby 252 rfl) (fun _ _ => ⟨rfl, eh1240, (by dsimp only [Pt.cells]; decide), (by dsimp only [Pt.slots]; decide)⟩)
              dsimp only [Pt.U, Pt.locs, Pt.cells, Pt.slots] at X1241 l1241 y1241 z1241 st1241 hQ1241
              subst l1241 y1241 z1241
              obtain ⟨rfl, Nc1241, Kc1241, aa1241⟩ := hQ1241
              have N1241 := Fr.app N1240 Nc1241
              refine OwnWp.step st1241 ?_
              have Z1241 : n0 ≤ T1241.heap.size := Nat.le_trans Z1222 Kc1241.1
              have f1242 := Exa.keep f1223 Kc1241
              have f1244 := Fld.keep f1225 Kc1241 (ninS ne990_991 nin0)
              have f1245 := Fld.keep f1226 Kc1241 (ninS ne990_991 nin0)
              have f1246 := Fld.keep f1227 Kc1241 (ninS ne990_991 nin0)
              have f1247 := Fld.keep f1228 Kc1241 (ninS ne990_991 nin0)
              have f1248 := Fld.keep f1229 Kc1241 (ninS ne990_991 nin0)
              have f1249 := Fld.keep f1230 Kc1241 (ninS ne990_991 nin0)
              have f1250 := Fld.keep f1231 Kc1241 (ninS ne990_991 nin0)
              have f1251 := OwnA.keep f1232 Kc1241 (ninS ne990_992 nin0)
              have f1252 := OwnA.keep f1233 Kc1241 (ninS ne990_993 nin0)
              have K1253 := Keep.trans K1234 Kc1241 (allS (Or.inr bk990) all0)
              show OwnWp p e below s _ _ _ (T1241.setTop (mkF m 488 #[sA a1, sA a2, sI p1, sI p2, sA b912, sI w2, sI rm, sI ix4, sI w4, sI sb, sI ln, sI w6, sI kk] []))
              have hiv5 := own_invs_rng hCn hiv4 (l := ll) (r := (r : Int)) (by omega) (by omega) (by omega) hi4 hhi hvv
              obtain ⟨w10, qw10⟩ : ∃ z : Int32, z = (ix4 + w6) := ⟨_, rfl⟩
              refine own_s T1241 (mkF m 495 #[sA a1, sA a2, sI p1, sI p2, sA b912, sI w2, sI rm, sI w10, sI w4, sI sb, sI ln, sI w6, sI kk] []) (fun t k => ?_) ?_
              ·refine XS.iload X1241.here hx rfl (D3 hby 253 rfl) rfl ?_
               refine XS.iload X1241.here hx rfl (D3 hby 254 rfl) rfl ?_
               refine XS.iadd X1241.here hx rfl (D3 hby 255 rfl) rfl ?_
               refine XS.istore X1241.here hx rfl (D3 hby 256 rfl) rfl (l' := #[sA a1, sA a2, sI p1, sI p2, sA b912, sI w2, sI rm, sI (ix4 + w6), sI w4, sI sb, sI ln, sI w6, sI kk]) rfl ?_
               rw [qw10] at k
               exact k
              obtain ⟨w11, qw11⟩ : ∃ z : Int32, z = (kk + (1 : Int32)) := ⟨_, rfl⟩
              refine own_s T1241 (mkF m 498 #[sA a1, sA a2, sI p1, sI p2, sA b912, sI w2, sI rm, sI w10, sI w4, sI sb, sI ln, sI w6, sI w11] []) (fun t k => ?_) ?_
              ·refine XT.iincV X1241.here hx rfl (1 : Int32) (D3 hby 257 rfl) rfl rfl (l' := #[sA a1, sA a2, sI p1, sI p2, sA b912, sI w2, sI rm, sI w10, sI w4, sI sb, sI ln, sI w6, sI (kk + (1 : Int32))]) rfl ?_
               rw [qw11] at k
               exact k
              refine own_s T1241 (mkF m 451 #[sA a1, sA a2, sI p1, sI p2, sA b912, sI w2, sI rm, sI w10, sI w4, sI sb, sI ln, sI w6, sI w11] []) (fun t k => ?_) ?_
              ·exact XS.goto X1241.here hx rfl (pc0 := 498) (pc' := 451) rfl (D3 hby 258 rfl) (by decide) (by decide) k
              have y1 : w11.toInt = own_A (own_num (own_L Lf) 256) ll + ((r + 1 : Nat) : Int) := by rw [qw11, own_inc1 (by omega) (by omega), hkk]; omega
              have y2 : w10.toInt = w9.toInt := by rw [hhi, qw10, own_add (by omega) (by omega), hcp]
              have y3 : ((r + 1 : Nat) : Int) * 2 ^ (mx - ll) = (r : Int) * 2 ^ (mx - ll) + 2 ^ (mx - ll) := by rw [show ((r + 1 : Nat) : Int) = (r : Int) + 1 from by omega, Int.add_mul, Int.one_mul]
              exact ih  T1241 T1241.heap _ w11 w10 (r + 1) (own_rng g4c ix4.toInt w9.toInt w8) X1241 (rfl : T1241.heap = T1241.heap) N1241 Z1241 f1242 aa1241 f1244 f1245 f1246 f1247 f1248 f1249 f1250 f1251 f1252 K1253 y1 (by omega) (by rw [y3, y2]; omega) (by rw [y2]; exact hiv5)
             ·refine own_s T1237 (mkF m 501 #[sA a1, sA a2, sI p1, sI p2, sA b912, sI w2, sI rm, sI ix4, sI w4, sI sb, sI ln, sI w6, sI kk] []) (fun t k => ?_) ?_
              ·exact XS.icmpYes X1237.here hx rfl (pc0 := 462) (pc' := 501) rfl (D3 hby 240 rfl) rfl (XT.ii_ge_t c462_1238) (by decide) (by decide) k
              rw [Int32.lt_iff_toInt_lt, hk1] at c462_1238
              exact absurd c462_1238 (by omega)
           exact hlE ((own_num (own_L Lf) 256) (ll : Int)).toNat T1221 h1203 _ w7 ix3 0 g3c X1221 e1221 N1203 Z1203 f1204 f1205 f1206 f1207 f1208 f1209 f1210 f1211 f1212 f1213 f1214 K1215 (by omega) (by have := hCn ll; omega) (by rw [hi3]; show _ = _ + (0 : Int) * _; rw [Int.zero_mul]; omega) hiv
        exact hlD (mx - fb) T1189 h1189 _ ix2 w5 (fb + 1) g2c _ _ X1189 e1189 N1189 Z1189 f1190 f1191 f1192 f1193 f1194 f1195 f1196 f1197 f1198 f1199 f1200 K1201 One.u One.u hl0 (by omega) (Nat.le_refl _) (by omega) (by rw [show ix2.toInt = 2 ^ fb from by omega]; exact own_invs0 _ _ _ _ _ _ _ _)
      | succ k ih =>
       intro T1189 h1189 L1189 ix2 sb m2 g2c X1189 e1189 N1189 Z1189 f1190 f1191 f1192 f1193 f1194 f1195 f1196 f1197 f1198 f1199 f1200 K1201 hi2 hsb hk2 hpt
       refine own_s T1189 (mkF m 384 #[sA a1, sA a2, sI p1, sI p2, sA b912, sI w2, sI rm, sI ix2, sI w4, sI sb, sU, sU, sU] [(.int w2), (.int ix2)]) (fun t k => ?_) ?_
       ·refine XS.iload X1189.here hx rfl (D3 hby 193 rfl) rfl ?_
        exact XS.iload X1189.here hx rfl (D3 hby 194 rfl) rfl k
       by_cases c384_1254 : ix2 < w2
       ·refine own_s T1189 (mkF m 387 #[sA a1, sA a2, sI p1, sI p2, sA b912, sI w2, sI rm, sI ix2, sI w4, sI sb, sU, sU, sU] []) (fun t k => ?_) ?_
        ·exact XS.icmpNo X1189.here hx rfl (D3 hby 195 rfl) rfl (XT.ii_ge_f c384_1254) k
        rw [Int32.lt_iff_toInt_lt] at c384_1254
        have hsbb := own_sbb hfm hm15 (m := m2) (by omega)
        have hrl2 : own_room fb mx = 2 ^ fb + 2 ^ mx := by unfold own_room; rw [if_pos hfm]
        refine own_s T1189 (mkF m 388 #[sA a1, sA a2, sI p1, sI p2, sA b912, sI w2, sI rm, sI ix2, sI w4, sI sb, sU, sU, sU] [(.ref a1)]) (fun t k => ?_) ?_
        ·exact XS.aloadN X1189.here hx rfl (D3 hby 196 rfl) rfl rfl k
        obtain ⟨T1255, X1255, e1255, st1255⟩ := getF X1189 hx hZ hown (host := "") (Or.inl (own_hw hw 11 rfl)) Via.refl e1189 f1192 (g := (mkF m 388 #[sA a1, sA a2, sI p1, sI p2, sA b912, sI w2, sI rm, sI ix2, sI w4, sI sb, sU, sU, sU] [(.ref a1)])) rfl rfl (D3 hby 197 rfl)
        refine OwnWp.step st1255 ?_
        show OwnWp p e below s _ _ _ (T1255.setTop (mkF m 391 #[sA a1, sA a2, sI p1, sI p2, sA b912, sI w2, sI rm, sI ix2, sI w4, sI sb, sU, sU, sU] [(.ref ad990)]))
        obtain ⟨w5, qw5⟩ : ∃ z : Int32, z = (ix2 + (1 : Int32)) := ⟨_, rfl⟩
        refine own_s T1255 (mkF m 396 #[sA a1, sA a2, sI p1, sI p2, sA b912, sI w2, sI rm, sI w5, sI w4, sI sb, sU, sU, sU] [(.int ix2), (.ref ad990)]) (fun t k => ?_) ?_
        ·refine XS.iload X1255.here hx rfl (D3 hby 198 rfl) rfl ?_
         refine XT.iincV X1255.here hx rfl (1 : Int32) (D3 hby 199 rfl) rfl rfl (l' := #[sA a1, sA a2, sI p1, sI p2, sA b912, sI w2, sI rm, sI (ix2 + (1 : Int32)), sI w4, sI sb, sU, sU, sU]) rfl ?_
         rw [qw5] at k
         exact k
        refine own_s T1255 (mkF m 404 #[sA a1, sA a2, sI p1, sI p2, sA b912, sI w2, sI rm, sI w5, sI w4, sI sb, sU, sU, sU] [(.int ((sb <<< ((8 : Int32) &&& 31)) ||| w4)), (.int ix2), (.ref ad990)]) (fun t k => ?_) ?_
        ·refine XS.iload X1255.here hx rfl (D3 hby 200 rfl) rfl ?_
         refine XT.bipushV X1255.here hx rfl (8 : Int32) (D3 hby 201 rfl) rfl ?_
         refine XT.ishl X1255.here hx rfl (D3 hby 202 rfl) rfl ?_
         refine XS.iload X1255.here hx rfl (D3 hby 203 rfl) rfl ?_
         exact XT.ior X1255.here hx rfl (D3 hby 204 rfl) rfl k
        have hvx : ((sb <<< ((8 : Int32) &&& 31)) ||| w4).toInt = (2 ^ fb + (m2 : Int) * 2 ^ (mx - fb)) * 256 + ((mx - fb : Nat) : Int) := own_ptrv hsb (by omega) (by omega) hex (by omega)
        obtain ⟨T1256, h1256, L1256, X1256, e1256, N1256, K1256, F1256, st1256⟩ := OwnA.stI X1255 hx hZ e1255 N1189 b990 f1191 (by omega) (by omega) (g := (mkF m 404 #[sA a1, sA a2, sI p1, sI p2, sA b912, sI w2, sI rm, sI w5, sI w4, sI sb, sU, sU, sU] [(.int ((sb <<< ((8 : Int32) &&& 31)) ||| w4)), (.int ix2), (.ref ad990)])) rfl rfl (D3 hby 205 rfl)
        refine OwnWp.step st1256 ?_
        have Z1256 : n0 ≤ h1256.size := Nat.le_trans Z1189 K1256.1
        have f1257 := Exa.keep f1190 K1256
        have f1258 := Fld.keep f1192 K1256 (ninS ne990_991 nin0)
        have f1259 := Fld.keep f1193 K1256 (ninS ne990_991 nin0)
        have f1260 := Fld.keep f1194 K1256 (ninS ne990_991 nin0)
        have f1261 := Fld.keep f1195 K1256 (ninS ne990_991 nin0)
        have f1262 := Fld.keep f1196 K1256 (ninS ne990_991 nin0)
        have f1263 := Fld.keep f1197 K1256 (ninS ne990_991 nin0)
        have f1264 := Fld.keep f1198 K1256 (ninS ne990_991 nin0)
        have f1265 := OwnA.keep f1199 K1256 (ninS ne990_992 nin0)
        have f1266 := OwnA.keep f1200 K1256 (ninS ne990_993 nin0)
        have F1267 : OwnA Z h1256 ad990 .int rm (fun zi => .int ((ownUpd g2c ix2.toInt ((sb <<< ((8 : Int32) &&& 31)) ||| w4)) zi)) := F1256.congr (fun zi _ _ => by exact ownUpd_int g2c _ _ zi)
        have K1268 := Keep.trans K1201 K1256 (allS (Or.inr bk990) all0)
        show OwnWp p e below s _ _ _ (T1256.setTop (mkF m 405 #[sA a1, sA a2, sI p1, sI p2, sA b912, sI w2, sI rm, sI w5, sI w4, sI sb, sU, sU, sU] []))
        obtain ⟨w6, qw6⟩ : ∃ z : Int32, z = (sb + ((1 : Int32) <<< (w4 &&& 31))) := ⟨_, rfl⟩
        refine own_s T1256 (mkF m 414 #[sA a1, sA a2, sI p1, sI p2, sA b912, sI w2, sI rm, sI w5, sI w4, sI w6, sU, sU, sU] []) (fun t k => ?_) ?_
        ·refine XS.iload X1256.here hx rfl (D3 hby 206 rfl) rfl ?_
         refine XT.iconstV X1256.here hx rfl (1 : Int32) (D3 hby 207 rfl) rfl ?_
         refine XS.iload X1256.here hx rfl (D3 hby 208 rfl) rfl ?_
         refine XT.ishl X1256.here hx rfl (D3 hby 209 rfl) rfl ?_
         refine XS.iadd X1256.here hx rfl (D3 hby 210 rfl) rfl ?_
         refine XS.istore X1256.here hx rfl (D3 hby 211 rfl) rfl (l' := #[sA a1, sA a2, sI p1, sI p2, sA b912, sI w2, sI rm, sI w5, sI w4, sI (sb + ((1 : Int32) <<< (w4 &&& 31))), sU, sU, sU]) rfl ?_
         rw [qw6] at k
         exact k
        refine own_s T1256 (mkF m 380 #[sA a1, sA a2, sI p1, sI p2, sA b912, sI w2, sI rm, sI w5, sI w4, sI w6, sU, sU, sU] []) (fun t k => ?_) ?_
        ·exact XS.goto X1256.here hx rfl (pc0 := 414) (pc' := 380) rfl (D3 hby 212 rfl) (by decide) (by decide) k
        have w1x : w5.toInt = ix2.toInt + 1 := by rw [qw5]; exact own_inc1 (by omega) (by omega)
        have w3x : ((m2 + 1 : Nat) : Int) * 2 ^ (mx - fb) = (m2 : Int) * 2 ^ (mx - fb) + 2 ^ (mx - fb) := by rw [show ((m2 + 1 : Nat) : Int) = (m2 : Int) + 1 from by omega, Int.add_mul, Int.one_mul]
        have hp2x := own_p2le (show mx - fb ≤ 15 by omega)
        rw [show (2 : Int) ^ 15 = 32768 from by decide] at hp2x
        have hp2y := own_p2 (mx - fb)
        have w2x : w6.toInt = 2 ^ fb + ((m2 + 1 : Nat) : Int) * 2 ^ (mx - fb) := by rw [qw6, own_add (by omega) (by omega), hsb, hsh, w3x]; omega
        have hpt2 : own_ptr fe (ownUpd g2c ix2.toInt ((sb <<< ((8 : Int32) &&& 31)) ||| w4)) fb (mx - fb) ix.toInt ((m2 + 1 : Nat) : Int) := by rw [hi2]; exact own_ptr_upd hpt (by omega) hvx
        exact ih  T1256 h1256 _ w5 w6 (m2 + 1) (ownUpd g2c ix2.toInt ((sb <<< ((8 : Int32) &&& 31)) ||| w4)) X1256 e1256 N1256 Z1256 f1257 F1267 f1258 f1259 f1260 f1261 f1262 f1263 f1264 f1265 f1266 K1268 (by omega) w2x (by omega) hpt2
       ·refine own_s T1189 (mkF m 417 #[sA a1, sA a2, sI p1, sI p2, sA b912, sI w2, sI rm, sI ix2, sI w4, sI sb, sU, sU, sU] []) (fun t k => ?_) ?_
        ·exact XS.icmpYes X1189.here hx rfl (pc0 := 384) (pc' := 417) rfl (D3 hby 195 rfl) rfl (XT.ii_ge_t c384_1254) (by decide) (by decide) k
        rw [Int32.lt_iff_toInt_lt] at c384_1254
        have hsbb := own_sbb hfm hm15 (m := m2) (by omega)
        have hrl2 : own_room fb mx = 2 ^ fb + 2 ^ mx := by unfold own_room; rw [if_pos hfm]
        exact absurd c384_1254 (by omega)
     exact hlC (2 ^ fb - ix.toInt).toNat T1188 h1173 _ ix w2 0 fe X1188 e1188 N1173 Z1173 f1174 f1175 f1176 f1177 f1178 f1179 f1180 f1181 f1182 f1183 f1184 K1185 (by omega) (by rw [hs5]; show _ = _ + (0 : Int) * _; rw [Int.zero_mul]; omega) (by omega) (own_ptr0 _ _ _ _)
    ·refine own_s T1186 (mkF m 354 #[sA a1, sA a2, sI p1, sI p2, sA b912, sI w2, sI rm, sI ix, s8, sU, sU, sU, sU] []) (fun t k => ?_) ?_
     ·exact XS.icmpNo X1186.here hx rfl (D3 hby 177 rfl) rfl (XT.ii_gt_f c351_1187) k
     rw [Int32.lt_iff_toInt_lt] at c351_1187
     refine own_s T1186 (mkF m 355 #[sA a1, sA a2, sI p1, sI p2, sA b912, sI w2, sI rm, sI ix, s8, sU, sU, sU, sU] [(.ref a1)]) (fun t k => ?_) ?_
     ·exact XS.aloadN X1186.here hx rfl (D3 hby 178 rfl) rfl rfl k
     obtain ⟨T1269, X1269, e1269, st1269⟩ := getF X1186 hx hZ hown (host := "") (Or.inl (own_hw hw 11 rfl)) Via.refl e1186 f1176 (g := (mkF m 355 #[sA a1, sA a2, sI p1, sI p2, sA b912, sI w2, sI rm, sI ix, s8, sU, sU, sU, sU] [(.ref a1)])) rfl rfl (D3 hby 179 rfl)
     refine OwnWp.step st1269 ?_
     refine own_s T1269 (mkF m 363 #[sA a1, sA a2, sI p1, sI p2, sA b912, sI w2, sI rm, sI ix, s8, sU, sU, sU, sU] [(.int (0 : Int32)), (.int w2), (.int ix), (.ref ad990)]) (fun t k => ?_) ?_
     ·refine XS.iload X1269.here hx rfl (D3 hby 180 rfl) rfl ?_
      refine XS.iload X1269.here hx rfl (D3 hby 181 rfl) rfl ?_
      exact XT.iconstV X1269.here hx rfl (0 : Int32) (D3 hby 182 rfl) rfl k
     obtain ⟨_, _, ⟨T1270, L1270, k1270, n1270⟩, -, X1270, ⟨Lc1270, hQ1270, l1270, y1270, z1270⟩, st1270⟩ := Jvm.LawKit.callS X1269 hx (y := Mn4) hown (mvT hZ (own_hw hw 68 rfl)) (mvT hZ (own_hw hw 69 rfl)) (mvT hZ (own_hw hw 34 rfl)) (mvT hZ (own_hw hw 70 rfl)) (by decide) (backOf (W := 0) (rm11 l Z a0 hw [] ad990 ix w2 (0 : Int32) rm fe h1173 n0 Z1173 b990 f1175 (by omega) (by omega) (by omega)) hZ (own_hw hw 70 rfl) (own_hw hw 34 rfl) (by decide) (by decide)) (g := (mkF m 363 #[sA a1, sA a2, sI p1, sI p2, sA b912, sI w2, sI rm, sI ix, s8, sU, sU, sU, sU] [(.int (0 : Int32)), (.int w2), (.int ix), (.ref ad990)])) rfl (by rw [hml]; rfl) (argsL := [(.ref ad990), (.int ix), (.int w2), (.int (0 : Int32))]) (rest := []) (lenOf pd_11 rfl) rfl (by show 2 * 0 + _ ≤ _; exact Nat.le_of_eq rfl) (D3 hby 183 rfl) (fun _ _ => ⟨rfl, e1269, (by dsimp only [Pt.cells]; decide), (by dsimp only [Pt.slots]; decide)⟩)
     dsimp only [Pt.U, Pt.locs, Pt.cells, Pt.slots] at X1270 l1270 y1270 z1270 st1270 hQ1270
     subst l1270 y1270 z1270
     obtain ⟨rfl, Nc1270, Kc1270, aa1270⟩ := hQ1270
     have N1270 := Fr.app N1173 Nc1270
     refine OwnWp.step st1270 ?_
     have Z1270 : n0 ≤ T1270.heap.size := Nat.le_trans Z1173 Kc1270.1
     have f1271 := Exa.keep f1174 Kc1270
     have f1273 := Fld.keep f1176 Kc1270 (ninS ne990_991 nin0)
     have f1274 := Fld.keep f1177 Kc1270 (ninS ne990_991 nin0)
     have f1275 := Fld.keep f1178 Kc1270 (ninS ne990_991 nin0)
     have f1276 := Fld.keep f1179 Kc1270 (ninS ne990_991 nin0)
     have f1277 := Fld.keep f1180 Kc1270 (ninS ne990_991 nin0)
     have f1278 := Fld.keep f1181 Kc1270 (ninS ne990_991 nin0)
     have f1279 := Fld.keep f1182 Kc1270 (ninS ne990_991 nin0)
     have f1280 := OwnA.keep f1183 Kc1270 (ninS ne990_992 nin0)
     have f1281 := OwnA.keep f1184 Kc1270 (ninS ne990_993 nin0)
     have K1282 := Keep.trans K1185 Kc1270 (allS (Or.inr bk990) all0)
     refine own_s T1270 (mkF m 367 #[sA a1, sA a2, sI p1, sI p2, sA b912, sI w2, sI rm, sI ix, s8, sU, sU, sU, sU] [(.ref a1)]) (fun t k => ?_) ?_
     ·exact XS.aloadN X1270.here hx rfl (D3 hby 184 rfl) rfl rfl k
     refine OwnWp.retA X1270 hx hlk Bd.returns rfl rfl (D3 hby 185 rfl) (by decide) (by decide) ?_
     rw [(rfl : T1270.heap = T1270.heap)]
     exact ⟨ad990, _, rm, w3, go1109, rfl, N1270, b990, K1282, f1273, f1274, f1275, f1276, aa1270, hrm, hwd, (own_fillS (by omega) hix hgd hs5), ho1109⟩
   by_cases c196_1283 : (0 : Int32) < sh1109
   ·refine own_s T1172 (mkF m 199 #[sA a1, sA a2, sI p1, sI p2, sA b912, sI w2, sI rm, sI (0 : Int32), sU, sU, sU, sU, sU] []) (fun t k => ?_) ?_
    ·exact XS.ifNo X1172.here hx rfl (D3 hby 95 rfl) rfl (XT.i0_le_f c196_1283) k
    obtain ⟨hs1, hs2, hs3, hs4⟩ := own_short1 hs1109 c196_1283
    obtain ⟨shn, hshn⟩ : ∃ z : Nat, z = sh1109.toInt.toNat := ⟨_, rfl⟩
    rw [← hshn] at hs1 hs2 hs3 hs4
    refine own_s T1172 (mkF m 201 #[sA a1, sA a2, sI p1, sI p2, sA b912, sI w2, sI rm, sI (0 : Int32), sU, sU, sU, sU, sU] [(.int (1 : Int32)), (.int p2)]) (fun t k => ?_) ?_
    ·refine XS.iloadN X1172.here hx rfl (D3 hby 96 rfl) rfl ?_
     exact XT.iconstV X1172.here hx rfl (1 : Int32) (D3 hby 97 rfl) rfl k
    have hSf := hSall fb (Nat.min fb mx) (by omega) (Nat.min_le_left _ _)
    by_cases c201_1284 : p2 = (1 : Int32)
    ·refine own_s T1172 (mkF m 204 #[sA a1, sA a2, sI p1, sI p2, sA b912, sI w2, sI rm, sI (0 : Int32), sU, sU, sU, sU, sU] []) (fun t k => ?_) ?_
     ·exact XS.icmpNo X1172.here hx rfl (D3 hby 98 rfl) rfl (XT.ii_ne_f c201_1284) k
     refine own_s T1172 (mkF m 206 #[sA a1, sA a2, sI p1, sI p2, sA b912, sI w2, sI rm, sI (0 : Int32), sU, sU, sU, sU, sU] [(.ref a1), (.ref a1)]) (fun t k => ?_) ?_
     ·refine XS.aloadN X1172.here hx rfl (D3 hby 99 rfl) rfl rfl ?_
      exact XS.aloadN X1172.here hx rfl (D3 hby 100 rfl) rfl rfl k
     obtain ⟨T1285, X1285, e1285, st1285⟩ := getF X1172 hx hZ hown (host := "") (Or.inl (own_hw hw 11 rfl)) Via.refl e1172 f1158 (g := (mkF m 206 #[sA a1, sA a2, sI p1, sI p2, sA b912, sI w2, sI rm, sI (0 : Int32), sU, sU, sU, sU, sU] [(.ref a1), (.ref a1)])) rfl rfl (D3 hby 101 rfl)
     refine OwnWp.step st1285 ?_
     refine own_s T1285 (mkF m 213 #[sA a1, sA a2, sI p1, sI p2, sA b912, sI w2, sI rm, sI (0 : Int32), sU, sU, sU, sU, sU] [.null, (.int (0 : Int32)), (.int p1), (.int (0 : Int32)), (.ref ad990), (.ref a1)]) (fun t k => ?_) ?_
     ·refine XT.iconstV X1285.here hx rfl (0 : Int32) (D3 hby 102 rfl) rfl ?_
      refine XS.iloadN X1285.here hx rfl (D3 hby 103 rfl) rfl ?_
      refine XT.iconstV X1285.here hx rfl (0 : Int32) (D3 hby 104 rfl) rfl ?_
      exact XS.aconstNull X1285.here hx rfl (D3 hby 105 rfl) k
     obtain ⟨cl1286, hcl1286, hst1286⟩ := Exa.cell f1153
     obtain ⟨_, _, ⟨T1286, L1286, k1286, n1286⟩, -, X1286, ⟨Lc1286, hQ1286, l1286, y1286, z1286⟩, st1286⟩ := X1285.privateBack hx (y := Mn12) hown (mvT hZ (own_hw hw 91 rfl)) (mvT hZ (own_hw hw 92 rfl)) hsel881 (Cond.privateMethod_at (mvP hZ (own_hw hw 93 rfl) (args := #[]))) (mvT hZ (own_hw hw 94 rfl)) (by decide) (backOf (W := 0) (rm16N l Z a0 hw [] a1 ad990 (0 : Int32) p1 (0 : Int32)  od pl go1109 gq1109 sh1109 w1 (own_num (own_L Lf) 256) fb mx shn rm (fun _ => (0 : Int32)) 158  h1152 n0 Z1152 b990 ne990_991 ne990_992 ne990_993  f1153 f1163 f1164 f1165 f1166 f1169 f1170 f1157  hC0 hA16 hq1109 hy1109 hs3 hs1 hs4 hmI hm15 hfb hfb1 hfb12 (by decide) (by rw [show (0 : Int32).toInt = 0 from rfl]; omega) (by omega) hSf (Or.inl rfl) (by decide) ) hZ (own_hw hw 94 rfl) (own_hw hw 4 rfl) (by decide) (by decide)) (g := (mkF m 213 #[sA a1, sA a2, sI p1, sI p2, sA b912, sI w2, sI rm, sI (0 : Int32), sU, sU, sU, sU, sU] [.null, (.int (0 : Int32)), (.int p1), (.int (0 : Int32)), (.ref ad990), (.ref a1)])) rfl (by rw [hml]; rfl) (Steps.refl _) (a := a1) (by rw [e1285]; exact hcl1286) hst1286 (argsL := [(.ref ad990), (.int (0 : Int32)), (.int p1), (.int (0 : Int32)), .null]) (rest := []) (lenOf pd_16 rfl) rfl (by show 2 * 0 + _ ≤ _; exact Nat.le_of_eq rfl) (D3 hby 106 rfl) (fun _ _ => ⟨rfl, e1285, (by dsimp only [Pt.cells]; decide), (by dsimp only [Pt.slots]; decide)⟩)
     dsimp only [Pt.U, Pt.locs, Pt.cells, Pt.slots] at X1286 l1286 y1286 z1286 st1286 hQ1286
     subst l1286 y1286 z1286
     obtain ⟨e91286, g91286, rfl, Nc1286, Kc1286, aa1286, he1286, hin1286⟩ := hQ1286
     have N1286 := Fr.app N1152 Nc1286
     refine OwnWp.go st1286 ?_
     have Z1286 : n0 ≤ T1286.heap.size := Nat.le_trans Z1152 Kc1286.1
     have f1287 := Exa.keep f1153 Kc1286
     have f1288 := OwnA.keep f1155 Kc1286 (ninS ne990_995 nin0)
     have f1290 := Fld.keep f1158 Kc1286 (ninS ne990_991 nin0)
     have f1291 := Fld.keep f1159 Kc1286 (ninS ne990_991 nin0)
     have f1292 := Fld.keep f1160 Kc1286 (ninS ne990_991 nin0)
     have f1293 := Fld.keep f1162 Kc1286 (ninS ne990_991 nin0)
     have f1294 := Fld.keep f1163 Kc1286 (ninS ne990_991 nin0)
     have f1295 := Fld.keep f1164 Kc1286 (ninS ne990_991 nin0)
     have f1296 := Fld.keep f1165 Kc1286 (ninS ne990_991 nin0)
     have f1297 := Fld.keep f1166 Kc1286 (ninS ne990_991 nin0)
     have f1298 := Fld.keep f1167 Kc1286 (ninS ne990_991 nin0)
     have f1299 := Fld.keep f1168 Kc1286 (ninS ne990_991 nin0)
     have f1300 := OwnA.keep f1169 Kc1286 (ninS ne990_992 nin0)
     have f1301 := OwnA.keep f1170 Kc1286 (ninS ne990_993 nin0)
     have K1302 := Keep.trans K1171 Kc1286 (allS (Or.inr bk990) all0)
     refine own_s T1286 (mkF m 346 #[sA a1, sA a2, sI p1, sI p2, sA b912, sI w2, sI rm, sI e91286, sU, sU, sU, sU, sU] []) (fun t k => ?_) ?_
     ·refine XS.istore X1286.here hx rfl (D3 hby 107 rfl) rfl (l' := #[sA a1, sA a2, sI p1, sI p2, sA b912, sI w2, sI rm, sI e91286, sU, sU, sU, sU, sU]) rfl ?_
      exact XS.goto X1286.here hx rfl (pc0 := 218) (pc' := 346) rfl (D3 hby 108 rfl) (by decide) (by decide) k
     exact J346  T1286 T1286.heap _ e91286 g91286 _ (own_widen X1286 (by decide) (by decide)) (rfl : T1286.heap = T1286.heap) N1286 Z1286 f1287 aa1286 f1290 f1291 f1292 f1293 f1294 f1295 f1297 f1300 f1301 K1302 One.u (by rw [he1286, show (0 : Int32).toInt = 0 from rfl]; omega) (fun q h1 h2 => own_good0 (hin1286.2.1 q (by rw [show (0 : Int32).toInt = 0 from rfl]; exact h1) h2) rfl (by rw [show (0 : Int32).toInt = 0 from rfl]; omega))
    ·refine own_s T1172 (mkF m 221 #[sA a1, sA a2, sI p1, sI p2, sA b912, sI w2, sI rm, sI (0 : Int32), sU, sU, sU, sU, sU] []) (fun t k => ?_) ?_
     ·exact XS.icmpYes X1172.here hx rfl (pc0 := 201) (pc' := 221) rfl (D3 hby 98 rfl) rfl (XT.ii_ne_t c201_1284) (by decide) (by decide) k
     have hs50 : (0 : Int32) < w2 := by rw [Int32.lt_iff_toInt_lt, show (0 : Int32).toInt = 0 from rfl]; omega
     refine own_s T1172 (mkF m 222 #[sA a1, sA a2, sI p1, sI p2, sA b912, sI w2, sI rm, sI (0 : Int32), sU, sU, sU, sU, sU] [(.ref a1)]) (fun t k => ?_) ?_
     ·exact XS.aloadN X1172.here hx rfl (D3 hby 109 rfl) rfl rfl k
     obtain ⟨T1303, X1303, e1303, st1303⟩ := getF X1172 hx hZ hown (host := "") (Or.inl (own_hw hw 66 rfl)) Via.refl e1172 f1165 (g := (mkF m 222 #[sA a1, sA a2, sI p1, sI p2, sA b912, sI w2, sI rm, sI (0 : Int32), sU, sU, sU, sU, sU] [(.ref a1)])) rfl rfl (D3 hby 110 rfl)
     refine OwnWp.step st1303 ?_
     refine own_s T1303 (mkF m 229 #[sA a1, sA a2, sI p1, sI p2, sA b912, sI w2, sI rm, sI (0 : Int32), sU, sU, sU, sU, sU] [(.ref a1)]) (fun t k => ?_) ?_
     ·refine XS.ifNo X1303.here hx rfl (D3 hby 111 rfl) rfl (XT.i0_le_f c196_1283) ?_
      exact XS.aloadN X1303.here hx rfl (D3 hby 112 rfl) rfl rfl k
     obtain ⟨T1304, X1304, e1304, st1304⟩ := getF X1303 hx hZ hown (host := "") (Or.inl (own_hw hw 19 rfl)) Via.refl e1303 f1167 (g := (mkF m 229 #[sA a1, sA a2, sI p1, sI p2, sA b912, sI w2, sI rm, sI (0 : Int32), sU, sU, sU, sU, sU] [(.ref a1)])) rfl rfl (D3 hby 113 rfl)
     refine OwnWp.step st1304 ?_
     refine own_s T1304 (mkF m 241 #[sA a1, sA a2, sI p1, sI p2, sA b912, sI w2, sI rm, sI (0 : Int32), sU, sU, sU, sU, sU] [(.int w2), (.ref a1)]) (fun t k => ?_) ?_
     ·refine OwnA.alen X1304 hx hZ e1304 f1155 rfl rfl (D3 hby 114 rfl) ?_
      refine XS.iload X1304.here hx rfl (D3 hby 115 rfl) rfl ?_
      refine XS.icmpNo X1304.here hx rfl (D3 hby 116 rfl) rfl (XT.ii_ge_f hs50) ?_
      refine XS.aloadN X1304.here hx rfl (D3 hby 117 rfl) rfl rfl ?_
      exact XS.iload X1304.here hx rfl (D3 hby 118 rfl) rfl k
     obtain ⟨T1305, h1305, cA1305, X1305, e1305, E1305, Ar1305, st1305⟩ := newP X1304 hx hZ (aty := .int) (own_hw hw 1 rfl) e1304 (g := (mkF m 241 #[sA a1, sA a2, sI p1, sI p2, sA b912, sI w2, sI rm, sI (0 : Int32), sU, sU, sU, sU, sU] [(.int w2), (.ref a1)])) rfl (D3 hby 119 rfl) rfl (by rw [Int32.lt_iff_toInt_lt, show (0 : Int32).toInt = 0 from rfl]; omega) (cap := 4096) (by rw [own_clamp]; omega) (by decide) (by decide) (by decide)
     obtain ⟨ad1305, ga1305⟩ : ∃ z, z = h1152.size := ⟨_, rfl⟩
     rw [← ga1305] at Ar1305 st1305
     refine OwnWp.step st1305 ?_
     have ne1305_1306 : a1 ≠ ad1305 := Nat.ne_of_lt (by rw [ga1305]; exact f1168.lt)
     have ne1305_1307 : ad990 ≠ ad1305 := Nat.ne_of_lt (by rw [ga1305]; exact f1157.lt)
     have ne1305_1308 : od ≠ ad1305 := Nat.ne_of_lt (by rw [ga1305]; exact f1169.lt)
     have ne1305_1309 : pl ≠ ad1305 := Nat.ne_of_lt (by rw [ga1305]; exact f1170.lt)
     have Z1305 : n0 ≤ h1305.size := Nat.le_trans Z1152 E1305.1
     have b1305 : n0 ≤ ad1305 := Nat.le_trans Z1152 (Nat.le_of_eq ga1305.symm)
     have bk1305 : h0.size ≤ ad1305 := by rw [ga1305]; exact K1171.1
     have K1310 := Keep.ext K1171 E1305
     have f1311 := Exa.ext E1305 f1153
     have f1312 := OwnA.ext f1157 E1305
     have f1313 := Fld.ext E1305 f1158
     have f1314 := Fld.ext E1305 f1159
     have f1315 := Fld.ext E1305 f1160
     have f1316 := Fld.ext E1305 f1162
     have f1317 := Fld.ext E1305 f1163
     have f1318 := Fld.ext E1305 f1164
     have f1319 := Fld.ext E1305 f1165
     have f1320 := Fld.ext E1305 f1166
     have f1321 := Fld.ext E1305 f1167
     have f1322 := Fld.ext E1305 f1168
     have f1323 := OwnA.ext f1169 E1305
     have f1324 := OwnA.ext f1170 E1305
     have F1325 : OwnA Z h1305 ad1305 .int w2 (fun _ => (.int (0 : Int32))) := OwnA.new Ar1305 (by omega)
     obtain ⟨T1326, h1326, X1326, e1326, W1326, st1326⟩ := putF X1305 hx hZ hown (host := "") (Or.inl (own_hw hw 19 rfl)) Via.refl e1305 f1321 f1311 (Or.inl (own_hw hw 20 rfl)) (own_hw hw 3 rfl) (ty := (.array .int)) (by decide) rfl rfl (g := (mkF m 243 #[sA a1, sA a2, sI p1, sI p2, sA b912, sI w2, sI rm, sI (0 : Int32), sU, sU, sU, sU, sU] [(.ref ad1305), (.ref a1)])) rfl rfl (D3 hby 120 rfl)
     have N1326 := own_frs (sl := Jvm.RoadKit.slotOf Z DTn "follows" "[I") N1152 g0
     have Z1326 : n0 ≤ h1326.size := by rw [W1326.size]; exact Z1305
     refine OwnWp.step st1326 ?_
     have f1327 := Exa.wr W1326 f1311
     have f1328 := OwnA.other f1312 W1326 ne990_991.symm
     have f1329 := Fld.other W1326 f1313 (Or.inr (slot_ne (C := DTn) (Or.inl (own_hw hw 12 rfl)) (Or.inl (own_hw hw 20 rfl)) (by decide) (t := (.array .int)) (t' := (.array .int)) (by decide) (by decide)))
     have f1330 := Fld.other W1326 f1314 (Or.inr (slot_ne (C := DTn) (Or.inl (own_hw hw 56 rfl)) (Or.inl (own_hw hw 20 rfl)) (by decide) (t := .int) (t' := (.array .int)) (by decide) (by decide)))
     have f1331 := Fld.other W1326 f1315 (Or.inr (slot_ne (C := DTn) (Or.inl (own_hw hw 61 rfl)) (Or.inl (own_hw hw 20 rfl)) (by decide) (t := .int) (t' := (.array .int)) (by decide) (by decide)))
     have f1332 := Fld.other W1326 f1316 (Or.inr (slot_ne (C := DTn) (Or.inl (own_hw hw 54 rfl)) (Or.inl (own_hw hw 20 rfl)) (by decide) (t := (.array .int)) (t' := (.array .int)) (by decide) (by decide)))
     have f1333 := Fld.other W1326 f1317 (Or.inr (slot_ne (C := DTn) (Or.inr (own_hw hw 14 rfl)) (Or.inl (own_hw hw 20 rfl)) (by decide) (t := (.array .int)) (t' := (.array .int)) (by decide) (by decide)))
     have f1334 := Fld.other W1326 f1318 (Or.inr (slot_ne (C := DTn) (Or.inr (own_hw hw 18 rfl)) (Or.inl (own_hw hw 20 rfl)) (by decide) (t := (.array .int)) (t' := (.array .int)) (by decide) (by decide)))
     have f1335 := Fld.other W1326 f1319 (Or.inr (slot_ne (C := DTn) (Or.inl (own_hw hw 67 rfl)) (Or.inl (own_hw hw 20 rfl)) (by decide) (t := .int) (t' := (.array .int)) (by decide) (by decide)))
     have f1336 := Fld.other W1326 f1320 (Or.inr (slot_ne (C := DTn) (Or.inl (own_hw hw 52 rfl)) (Or.inl (own_hw hw 20 rfl)) (by decide) (t := .int) (t' := (.array .int)) (by decide) (by decide)))
     have f1337 := Fld.same W1326 f1321
     have f1338 := Fld.other W1326 f1322 (Or.inr (slot_ne (C := DTn) (Or.inl (own_hw hw 22 rfl)) (Or.inl (own_hw hw 20 rfl)) (by decide) (t := (.array .int)) (t' := (.array .int)) (by decide) (by decide)))
     have f1339 := OwnA.other f1323 W1326 n2.symm
     have f1340 := OwnA.other f1324 W1326 n3.symm
     have f1341 := OwnA.other F1325 W1326 ne1305_1306.symm
     have K1342 := Keep.wr K1310 W1326 (Or.inl (List.mem_of_getElem? (i := 0) rfl))
     refine own_s T1326 (mkF m 249 #[sA a1, sA a2, sI p1, sI p2, sA b912, sI w2, sI rm, sI (0 : Int32), sU, sU, sU, sU, sU] [(.int w2), (.ref a1)]) (fun t k => ?_) ?_
     ·refine XS.aloadN X1326.here hx rfl (D3 hby 121 rfl) rfl rfl ?_
      exact XS.iload X1326.here hx rfl (D3 hby 122 rfl) rfl k
     obtain ⟨T1343, h1343, cA1343, X1343, e1343, E1343, Ar1343, st1343⟩ := newP X1326 hx hZ (aty := .int) (own_hw hw 1 rfl) e1326 (g := (mkF m 249 #[sA a1, sA a2, sI p1, sI p2, sA b912, sI w2, sI rm, sI (0 : Int32), sU, sU, sU, sU, sU] [(.int w2), (.ref a1)])) rfl (D3 hby 123 rfl) rfl (by rw [Int32.lt_iff_toInt_lt, show (0 : Int32).toInt = 0 from rfl]; omega) (cap := 4096) (by rw [own_clamp]; omega) (by decide) (by decide) (by decide)
     obtain ⟨ad1343, ga1343⟩ : ∃ z, z = h1326.size := ⟨_, rfl⟩
     rw [← ga1343] at Ar1343 st1343
     refine OwnWp.step st1343 ?_
     have ne1343_1344 : a1 ≠ ad1343 := Nat.ne_of_lt (by rw [ga1343]; exact f1338.lt)
     have ne1343_1345 : ad990 ≠ ad1343 := Nat.ne_of_lt (by rw [ga1343]; exact f1328.lt)
     have ne1343_1346 : od ≠ ad1343 := Nat.ne_of_lt (by rw [ga1343]; exact f1339.lt)
     have ne1343_1347 : pl ≠ ad1343 := Nat.ne_of_lt (by rw [ga1343]; exact f1340.lt)
     have ne1343_1348 : ad1305 ≠ ad1343 := Nat.ne_of_lt (by rw [ga1343]; exact f1341.lt)
     have Z1343 : n0 ≤ h1343.size := Nat.le_trans Z1326 E1343.1
     have b1343 : n0 ≤ ad1343 := Nat.le_trans Z1326 (Nat.le_of_eq ga1343.symm)
     have bk1343 : h0.size ≤ ad1343 := by rw [ga1343]; exact K1342.1
     have K1349 := Keep.ext K1342 E1343
     have f1350 := Exa.ext E1343 f1327
     have f1351 := OwnA.ext f1328 E1343
     have f1352 := Fld.ext E1343 f1329
     have f1353 := Fld.ext E1343 f1330
     have f1354 := Fld.ext E1343 f1331
     have f1355 := Fld.ext E1343 f1332
     have f1356 := Fld.ext E1343 f1333
     have f1357 := Fld.ext E1343 f1334
     have f1358 := Fld.ext E1343 f1335
     have f1359 := Fld.ext E1343 f1336
     have f1360 := Fld.ext E1343 f1337
     have f1361 := Fld.ext E1343 f1338
     have f1362 := OwnA.ext f1339 E1343
     have f1363 := OwnA.ext f1340 E1343
     have f1364 := OwnA.ext f1341 E1343
     have F1365 : OwnA Z h1343 ad1343 .int w2 (fun _ => (.int (0 : Int32))) := OwnA.new Ar1343 (by omega)
     obtain ⟨T1366, h1366, X1366, e1366, W1366, st1366⟩ := putF X1343 hx hZ hown (host := "") (Or.inl (own_hw hw 21 rfl)) Via.refl e1343 f1361 f1350 (Or.inl (own_hw hw 22 rfl)) (own_hw hw 3 rfl) (ty := (.array .int)) (by decide) rfl rfl (g := (mkF m 251 #[sA a1, sA a2, sI p1, sI p2, sA b912, sI w2, sI rm, sI (0 : Int32), sU, sU, sU, sU, sU] [(.ref ad1343), (.ref a1)])) rfl rfl (D3 hby 124 rfl)
     have N1366 := own_frs (sl := Jvm.RoadKit.slotOf Z DTn "lasts" "[I") N1326 g0
     have Z1366 : n0 ≤ h1366.size := by rw [W1366.size]; exact Z1343
     refine OwnWp.step st1366 ?_
     have f1367 := Exa.wr W1366 f1350
     have f1368 := OwnA.other f1351 W1366 ne990_991.symm
     have f1369 := Fld.other W1366 f1352 (Or.inr (slot_ne (C := DTn) (Or.inl (own_hw hw 12 rfl)) (Or.inl (own_hw hw 22 rfl)) (by decide) (t := (.array .int)) (t' := (.array .int)) (by decide) (by decide)))
     have f1370 := Fld.other W1366 f1353 (Or.inr (slot_ne (C := DTn) (Or.inl (own_hw hw 56 rfl)) (Or.inl (own_hw hw 22 rfl)) (by decide) (t := .int) (t' := (.array .int)) (by decide) (by decide)))
     have f1371 := Fld.other W1366 f1354 (Or.inr (slot_ne (C := DTn) (Or.inl (own_hw hw 61 rfl)) (Or.inl (own_hw hw 22 rfl)) (by decide) (t := .int) (t' := (.array .int)) (by decide) (by decide)))
     have f1372 := Fld.other W1366 f1355 (Or.inr (slot_ne (C := DTn) (Or.inl (own_hw hw 54 rfl)) (Or.inl (own_hw hw 22 rfl)) (by decide) (t := (.array .int)) (t' := (.array .int)) (by decide) (by decide)))
     have f1373 := Fld.other W1366 f1356 (Or.inr (slot_ne (C := DTn) (Or.inr (own_hw hw 14 rfl)) (Or.inl (own_hw hw 22 rfl)) (by decide) (t := (.array .int)) (t' := (.array .int)) (by decide) (by decide)))
     have f1374 := Fld.other W1366 f1357 (Or.inr (slot_ne (C := DTn) (Or.inr (own_hw hw 18 rfl)) (Or.inl (own_hw hw 22 rfl)) (by decide) (t := (.array .int)) (t' := (.array .int)) (by decide) (by decide)))
     have f1375 := Fld.other W1366 f1358 (Or.inr (slot_ne (C := DTn) (Or.inl (own_hw hw 67 rfl)) (Or.inl (own_hw hw 22 rfl)) (by decide) (t := .int) (t' := (.array .int)) (by decide) (by decide)))
     have f1376 := Fld.other W1366 f1359 (Or.inr (slot_ne (C := DTn) (Or.inl (own_hw hw 52 rfl)) (Or.inl (own_hw hw 22 rfl)) (by decide) (t := .int) (t' := (.array .int)) (by decide) (by decide)))
     have f1377 := Fld.other W1366 f1360 (Or.inr (slot_ne (C := DTn) (Or.inl (own_hw hw 20 rfl)) (Or.inl (own_hw hw 22 rfl)) (by decide) (t := (.array .int)) (t' := (.array .int)) (by decide) (by decide)))
     have f1378 := Fld.same W1366 f1361
     have f1379 := OwnA.other f1362 W1366 n2.symm
     have f1380 := OwnA.other f1363 W1366 n3.symm
     have f1381 := OwnA.other f1364 W1366 ne1305_1306.symm
     have f1382 := OwnA.other F1365 W1366 ne1343_1344.symm
     have K1383 := Keep.wr K1349 W1366 (Or.inl (List.mem_of_getElem? (i := 0) rfl))
     refine own_s T1366 (mkF m 255 #[sA a1, sA a2, sI p1, sI p2, sA b912, sI w2, sI rm, sI (0 : Int32), sU, sU, sU, sU, sU] [(.ref a1)]) (fun t k => ?_) ?_
     ·exact XS.aloadN X1366.here hx rfl (D3 hby 125 rfl) rfl rfl k
     obtain ⟨T1384, X1384, e1384, st1384⟩ := getF X1366 hx hZ hown (host := "") (Or.inl (own_hw hw 66 rfl)) Via.refl e1366 f1375 (g := (mkF m 255 #[sA a1, sA a2, sI p1, sI p2, sA b912, sI w2, sI rm, sI (0 : Int32), sU, sU, sU, sU, sU] [(.ref a1)])) rfl rfl (D3 hby 126 rfl)
     refine OwnWp.step st1384 ?_
     refine own_s T1384 (mkF m 260 #[sA a1, sA a2, sI p1, sI p2, sA b912, sI w2, sI rm, sI (0 : Int32), sI sh1109, sU, sU, sU, sU] []) (fun t k => ?_) ?_
     ·exact XS.istore X1384.here hx rfl (D3 hby 127 rfl) rfl (l' := #[sA a1, sA a2, sI p1, sI p2, sA b912, sI w2, sI rm, sI (0 : Int32), sI sh1109, sU, sU, sU, sU]) rfl k
     have hlA : ∀ (k : Nat) (T1385 : State) (h1385 : Heap) (L1385 : List Loc) (rs : Int32) (ll : Nat) (gl : Int → Int32) (X1385 : Stand p l e Rm8 s m #[(.ref a1), (.ref a2), (.int p1), (.int p2)] below meth c T1385 L1385 5 45088) (e1385 : T1385.heap = h1385) (N1385 : Fr n0 L1385) (Z1385 : n0 ≤ h1385.size) (f1386 : Exa Z h1385 a1 DTn) (f1387 : OwnA Z h1385 ad990 .int rm (fun zi => .int ((fun _ => (0 : Int32)) zi))) (f1388 : Fld Z h1385 a1 DTn "entries" "[I" (.ref ad990)) (f1389 : Fld Z h1385 a1 DTn "firstBits" "I" (.int p1)) (f1390 : Fld Z h1385 a1 DTn "width" "I" (.int w3)) (f1391 : Fld Z h1385 a1 DTn "codeLengths" "[I" (.ref a2)) (f1392 : Fld Z h1385 a1 DTn "order" "[I" (.ref od)) (f1393 : Fld Z h1385 a1 DTn "places" "[I" (.ref pl)) (f1394 : Fld Z h1385 a1 DTn "shortest" "I" (.int sh1109)) (f1395 : Fld Z h1385 a1 DTn "longest" "I" (.int w1)) (f1396 : Fld Z h1385 a1 DTn "follows" "[I" (.ref ad1305)) (f1397 : Fld Z h1385 a1 DTn "lasts" "[I" (.ref ad1343)) (f1398 : OwnA Z h1385 od .int (256 : Int32) (fun zi => .int (go1109 zi))) (f1399 : OwnA Z h1385 pl .int (17 : Int32) (fun zi => .int (gq1109 zi))) (f1400 : OwnA Z h1385 ad1305 .int w2 (fun zi => .int ((fun _ => (0 : Int32)) zi))) (f1401 : OwnA Z h1385 ad1343 .int w2 (fun zi => .int (gl zi))) (K1402 : Keep h0 h1385 [a1, lc, od, pl]) (hrs : rs.toInt = (ll : Int)) (hk : k = fb + 1 - 2 * shn - ll) (hsl : shn ≤ ll) (hlogl : own_low gl w2 (79 + 0)), OwnWp p e below s Rm8.cells Rm8.slots (Q3 Z a1 a2 p1 p2 lc od pl en0 fw0 ls0 gc fo fp Lf fe0 fw9 mx fb h0 n0) (T1385.setTop (mkF m 260 #[sA a1, sA a2, sI p1, sI p2, sA b912, sI w2, sI rm, sI (0 : Int32), sI rs, sU, sU, sU, sU] [])) := by
      intro k
      induction k with
      | zero =>
       intro T1385 h1385 L1385 rs ll gl X1385 e1385 N1385 Z1385 f1386 f1387 f1388 f1389 f1390 f1391 f1392 f1393 f1394 f1395 f1396 f1397 f1398 f1399 f1400 f1401 K1402 hrs hk hsl hlogl
       refine own_s T1385 (mkF m 265 #[sA a1, sA a2, sI p1, sI p2, sA b912, sI w2, sI rm, sI (0 : Int32), sI rs, sU, sU, sU, sU] [(.ref a1), (.int (2 : Int32)), (.int p1), (.int rs)]) (fun t k => ?_) ?_
       ·refine XS.iload X1385.here hx rfl (D3 hby 128 rfl) rfl ?_
        refine XS.iloadN X1385.here hx rfl (D3 hby 129 rfl) rfl ?_
        refine XT.iconstV X1385.here hx rfl (2 : Int32) (D3 hby 130 rfl) rfl ?_
        exact XS.aloadN X1385.here hx rfl (D3 hby 131 rfl) rfl rfl k
       obtain ⟨T1403, X1403, e1403, st1403⟩ := getF X1385 hx hZ hown (host := "") (Or.inl (own_hw hw 66 rfl)) Via.refl e1385 f1394 (g := (mkF m 265 #[sA a1, sA a2, sI p1, sI p2, sA b912, sI w2, sI rm, sI (0 : Int32), sI rs, sU, sU, sU, sU] [(.ref a1), (.int (2 : Int32)), (.int p1), (.int rs)])) rfl rfl (D3 hby 132 rfl)
       refine OwnWp.step st1403 ?_
       refine own_s T1403 (mkF m 270 #[sA a1, sA a2, sI p1, sI p2, sA b912, sI w2, sI rm, sI (0 : Int32), sI rs, sU, sU, sU, sU] [(.int (p1 - ((2 : Int32) * sh1109))), (.int rs)]) (fun t k => ?_) ?_
       ·refine XS.imul X1403.here hx rfl (D3 hby 133 rfl) rfl ?_
        exact XS.isub X1403.here hx rfl (D3 hby 134 rfl) rfl k
       by_cases c270_1404 : (p1 - ((2 : Int32) * sh1109)) < rs
       ·refine own_s T1403 (mkF m 291 #[sA a1, sA a2, sI p1, sI p2, sA b912, sI w2, sI rm, sI (0 : Int32), sI rs, sU, sU, sU, sU] []) (fun t k => ?_) ?_
        ·exact XS.icmpYes X1403.here hx rfl (pc0 := 270) (pc' := 291) rfl (D3 hby 135 rfl) rfl (XT.ii_gt_t c270_1404) (by decide) (by decide) k
        rw [Int32.lt_iff_toInt_lt, own_2sh hfb hfb12 (by omega) (by omega)] at c270_1404
        refine own_s T1403 (mkF m 292 #[sA a1, sA a2, sI p1, sI p2, sA b912, sI w2, sI rm, sI (0 : Int32), sI rs, sU, sU, sU, sU] [(.ref a1)]) (fun t k => ?_) ?_
        ·exact XS.aloadN X1403.here hx rfl (D3 hby 145 rfl) rfl rfl k
        obtain ⟨T1405, X1405, e1405, st1405⟩ := getF X1403 hx hZ hown (host := "") (Or.inl (own_hw hw 66 rfl)) Via.refl e1403 f1394 (g := (mkF m 292 #[sA a1, sA a2, sI p1, sI p2, sA b912, sI w2, sI rm, sI (0 : Int32), sI rs, sU, sU, sU, sU] [(.ref a1)])) rfl rfl (D3 hby 146 rfl)
        refine OwnWp.step st1405 ?_
        refine own_s T1405 (mkF m 297 #[sA a1, sA a2, sI p1, sI p2, sA b912, sI w2, sI rm, sI (0 : Int32), sI sh1109, sU, sU, sU, sU] []) (fun t k => ?_) ?_
        ·exact XS.istore X1405.here hx rfl (D3 hby 147 rfl) rfl (l' := #[sA a1, sA a2, sI p1, sI p2, sA b912, sI w2, sI rm, sI (0 : Int32), sI sh1109, sU, sU, sU, sU]) rfl k
        have hlB : ∀ (k : Nat) (T1406 : State) (h1406 : Heap) (L1406 : List Loc) (rs : Int32) (ll : Nat) (gf : Int → Int32) (X1406 : Stand p l e Rm8 s m #[(.ref a1), (.ref a2), (.int p1), (.int p2)] below meth c T1406 L1406 5 45088) (e1406 : T1406.heap = h1406) (N1406 : Fr n0 L1406) (Z1406 : n0 ≤ h1406.size) (f1407 : Exa Z h1406 a1 DTn) (f1408 : OwnA Z h1406 ad990 .int rm (fun zi => .int ((fun _ => (0 : Int32)) zi))) (f1409 : Fld Z h1406 a1 DTn "entries" "[I" (.ref ad990)) (f1410 : Fld Z h1406 a1 DTn "firstBits" "I" (.int p1)) (f1411 : Fld Z h1406 a1 DTn "width" "I" (.int w3)) (f1412 : Fld Z h1406 a1 DTn "codeLengths" "[I" (.ref a2)) (f1413 : Fld Z h1406 a1 DTn "order" "[I" (.ref od)) (f1414 : Fld Z h1406 a1 DTn "places" "[I" (.ref pl)) (f1415 : Fld Z h1406 a1 DTn "shortest" "I" (.int sh1109)) (f1416 : Fld Z h1406 a1 DTn "longest" "I" (.int w1)) (f1417 : Fld Z h1406 a1 DTn "follows" "[I" (.ref ad1305)) (f1418 : Fld Z h1406 a1 DTn "lasts" "[I" (.ref ad1343)) (f1419 : OwnA Z h1406 od .int (256 : Int32) (fun zi => .int (go1109 zi))) (f1420 : OwnA Z h1406 pl .int (17 : Int32) (fun zi => .int (gq1109 zi))) (f1421 : OwnA Z h1406 ad1305 .int w2 (fun zi => .int (gf zi))) (f1422 : OwnA Z h1406 ad1343 .int w2 (fun zi => .int (gl zi))) (K1423 : Keep h0 h1406 [a1, lc, od, pl]) (hrs : rs.toInt = (ll : Int)) (hk : k = fb + 1 - shn - ll) (hsl : shn ≤ ll) (hlogf : own_low gf w2 (79 + 79)), OwnWp p e below s Rm8.cells Rm8.slots (Q3 Z a1 a2 p1 p2 lc od pl en0 fw0 ls0 gc fo fp Lf fe0 fw9 mx fb h0 n0) (T1406.setTop (mkF m 297 #[sA a1, sA a2, sI p1, sI p2, sA b912, sI w2, sI rm, sI (0 : Int32), sI rs, sU, sU, sU, sU] [])) := by
         intro k
         induction k with
         | zero =>
          intro T1406 h1406 L1406 rs ll gf X1406 e1406 N1406 Z1406 f1407 f1408 f1409 f1410 f1411 f1412 f1413 f1414 f1415 f1416 f1417 f1418 f1419 f1420 f1421 f1422 K1423 hrs hk hsl hlogf
          refine own_s T1406 (mkF m 301 #[sA a1, sA a2, sI p1, sI p2, sA b912, sI w2, sI rm, sI (0 : Int32), sI rs, sU, sU, sU, sU] [(.ref a1), (.int p1), (.int rs)]) (fun t k => ?_) ?_
          ·refine XS.iload X1406.here hx rfl (D3 hby 148 rfl) rfl ?_
           refine XS.iloadN X1406.here hx rfl (D3 hby 149 rfl) rfl ?_
           exact XS.aloadN X1406.here hx rfl (D3 hby 150 rfl) rfl rfl k
          obtain ⟨T1424, X1424, e1424, st1424⟩ := getF X1406 hx hZ hown (host := "") (Or.inl (own_hw hw 66 rfl)) Via.refl e1406 f1415 (g := (mkF m 301 #[sA a1, sA a2, sI p1, sI p2, sA b912, sI w2, sI rm, sI (0 : Int32), sI rs, sU, sU, sU, sU] [(.ref a1), (.int p1), (.int rs)])) rfl rfl (D3 hby 151 rfl)
          refine OwnWp.step st1424 ?_
          refine own_s T1424 (mkF m 305 #[sA a1, sA a2, sI p1, sI p2, sA b912, sI w2, sI rm, sI (0 : Int32), sI rs, sU, sU, sU, sU] [(.int (p1 - sh1109)), (.int rs)]) (fun t k => ?_) ?_
          ·exact XS.isub X1424.here hx rfl (D3 hby 152 rfl) rfl k
          by_cases c305_1425 : (p1 - sh1109) < rs
          ·refine own_s T1424 (mkF m 329 #[sA a1, sA a2, sI p1, sI p2, sA b912, sI w2, sI rm, sI (0 : Int32), sI rs, sU, sU, sU, sU] []) (fun t k => ?_) ?_
           ·exact XS.icmpYes X1424.here hx rfl (pc0 := 305) (pc' := 329) rfl (D3 hby 153 rfl) rfl (XT.ii_gt_t c305_1425) (by decide) (by decide) k
           rw [Int32.lt_iff_toInt_lt, own_sub (x := p1) (y := sh1109) (by omega) (by omega)] at c305_1425
           refine own_s T1424 (mkF m 331 #[sA a1, sA a2, sI p1, sI p2, sA b912, sI w2, sI rm, sI (0 : Int32), sI rs, sU, sU, sU, sU] [(.ref a1), (.ref a1)]) (fun t k => ?_) ?_
           ·refine XS.aloadN X1424.here hx rfl (D3 hby 164 rfl) rfl rfl ?_
            exact XS.aloadN X1424.here hx rfl (D3 hby 165 rfl) rfl rfl k
           obtain ⟨T1426, X1426, e1426, st1426⟩ := getF X1424 hx hZ hown (host := "") (Or.inl (own_hw hw 11 rfl)) Via.refl e1424 f1409 (g := (mkF m 331 #[sA a1, sA a2, sI p1, sI p2, sA b912, sI w2, sI rm, sI (0 : Int32), sI rs, sU, sU, sU, sU] [(.ref a1), (.ref a1)])) rfl rfl (D3 hby 166 rfl)
           refine OwnWp.step st1426 ?_
           refine own_s T1426 (mkF m 338 #[sA a1, sA a2, sI p1, sI p2, sA b912, sI w2, sI rm, sI (0 : Int32), sI rs, sU, sU, sU, sU] [(.ref a1), (.int (0 : Int32)), (.int p1), (.int (0 : Int32)), (.ref ad990), (.ref a1)]) (fun t k => ?_) ?_
           ·refine XT.iconstV X1426.here hx rfl (0 : Int32) (D3 hby 167 rfl) rfl ?_
            refine XS.iloadN X1426.here hx rfl (D3 hby 168 rfl) rfl ?_
            refine XT.iconstV X1426.here hx rfl (0 : Int32) (D3 hby 169 rfl) rfl ?_
            exact XS.aloadN X1426.here hx rfl (D3 hby 170 rfl) rfl rfl k
           obtain ⟨T1427, X1427, e1427, st1427⟩ := getF X1426 hx hZ hown (host := "") (Or.inl (own_hw hw 19 rfl)) Via.refl e1426 f1417 (g := (mkF m 338 #[sA a1, sA a2, sI p1, sI p2, sA b912, sI w2, sI rm, sI (0 : Int32), sI rs, sU, sU, sU, sU] [(.ref a1), (.int (0 : Int32)), (.int p1), (.int (0 : Int32)), (.ref ad990), (.ref a1)])) rfl rfl (D3 hby 171 rfl)
           refine OwnWp.step st1427 ?_
           obtain ⟨cl1428, hcl1428, hst1428⟩ := Exa.cell f1407
           obtain ⟨_, _, ⟨T1428, L1428, k1428, n1428⟩, -, X1428, ⟨Lc1428, hQ1428, l1428, y1428, z1428⟩, st1428⟩ := X1427.privateBack hx (y := Mn12) hown (mvT hZ (own_hw hw 91 rfl)) (mvT hZ (own_hw hw 92 rfl)) hsel881 (Cond.privateMethod_at (mvP hZ (own_hw hw 93 rfl) (args := #[]))) (mvT hZ (own_hw hw 94 rfl)) (by decide) (backOf (W := 0) (rm16A l Z a0 hw [] a1 ad990 (0 : Int32) p1 (0 : Int32) ad1305 od pl go1109 gq1109 sh1109 w1 (own_num (own_L Lf) 256) fb mx shn rm (fun _ => (0 : Int32)) 158 w2 gf h1406 n0 Z1406 b990 ne990_991 ne990_992 ne990_993 ne1305_1307.symm f1407 f1413 f1414 f1415 f1416 f1419 f1420 f1408 f1421 hC0 hA16 hq1109 hy1109 hs3 hs1 hs4 hmI hm15 hfb hfb1 hfb12 (by decide) (by rw [show (0 : Int32).toInt = 0 from rfl]; omega) (by omega) hSf (Or.inl rfl) (by decide) (by decide) (own_low_eq hlogf (by decide)) (by omega) (by omega)) hZ (own_hw hw 94 rfl) (own_hw hw 4 rfl) (by decide) (by decide)) (g := (mkF m 341 #[sA a1, sA a2, sI p1, sI p2, sA b912, sI w2, sI rm, sI (0 : Int32), sI rs, sU, sU, sU, sU] [(.ref ad1305), (.int (0 : Int32)), (.int p1), (.int (0 : Int32)), (.ref ad990), (.ref a1)])) rfl (by rw [hml]; rfl) (Steps.refl _) (a := a1) (by rw [e1427]; exact hcl1428) hst1428 (argsL := [(.ref ad990), (.int (0 : Int32)), (.int p1), (.int (0 : Int32)), (.ref ad1305)]) (rest := []) (lenOf pd_16 rfl) rfl (by show 2 * 0 + _ ≤ _; exact Nat.le_of_eq rfl) (D3 hby 172 rfl) (fun _ _ => ⟨rfl, e1427, (by dsimp only [Pt.cells]; decide), (by dsimp only [Pt.slots]; decide)⟩)
           dsimp only [Pt.U, Pt.locs, Pt.cells, Pt.slots] at X1428 l1428 y1428 z1428 st1428 hQ1428
           subst l1428 y1428 z1428
           obtain ⟨e91428, g91428, rfl, Nc1428, Kc1428, aa1428, he1428, hin1428⟩ := hQ1428
           have N1428 := Fr.app N1406 Nc1428
           refine OwnWp.go st1428 ?_
           have Z1428 : n0 ≤ T1428.heap.size := Nat.le_trans Z1406 Kc1428.1
           have f1429 := Exa.keep f1407 Kc1428
           have f1431 := Fld.keep f1409 Kc1428 (ninS ne990_991 nin0)
           have f1432 := Fld.keep f1410 Kc1428 (ninS ne990_991 nin0)
           have f1433 := Fld.keep f1411 Kc1428 (ninS ne990_991 nin0)
           have f1434 := Fld.keep f1412 Kc1428 (ninS ne990_991 nin0)
           have f1435 := Fld.keep f1413 Kc1428 (ninS ne990_991 nin0)
           have f1436 := Fld.keep f1414 Kc1428 (ninS ne990_991 nin0)
           have f1437 := Fld.keep f1415 Kc1428 (ninS ne990_991 nin0)
           have f1438 := Fld.keep f1416 Kc1428 (ninS ne990_991 nin0)
           have f1439 := Fld.keep f1417 Kc1428 (ninS ne990_991 nin0)
           have f1440 := Fld.keep f1418 Kc1428 (ninS ne990_991 nin0)
           have f1441 := OwnA.keep f1419 Kc1428 (ninS ne990_992 nin0)
           have f1442 := OwnA.keep f1420 Kc1428 (ninS ne990_993 nin0)
           have f1443 := OwnA.keep f1421 Kc1428 (ninS ne1305_1307.symm nin0)
           have f1444 := OwnA.keep f1422 Kc1428 (ninS ne1343_1345.symm nin0)
           have K1445 := Keep.trans K1423 Kc1428 (allS (Or.inr bk990) all0)
           refine own_s T1428 (mkF m 346 #[sA a1, sA a2, sI p1, sI p2, sA b912, sI w2, sI rm, sI e91428, sI rs, sU, sU, sU, sU] []) (fun t k => ?_) ?_
           ·exact XS.istore X1428.here hx rfl (D3 hby 173 rfl) rfl (l' := #[sA a1, sA a2, sI p1, sI p2, sA b912, sI w2, sI rm, sI e91428, sI rs, sU, sU, sU, sU]) rfl k
           exact J346  T1428 T1428.heap _ e91428 g91428 _ (own_widen X1428 (by decide) (by decide)) (rfl : T1428.heap = T1428.heap) N1428 Z1428 f1429 aa1428 f1431 f1432 f1433 f1434 f1435 f1436 f1438 f1441 f1442 K1445 (One.val rfl) (by rw [he1428, show (0 : Int32).toInt = 0 from rfl]; omega) (fun q h1 h2 => own_good0 (hin1428.2.1 q (by rw [show (0 : Int32).toInt = 0 from rfl]; exact h1) h2) rfl (by rw [show (0 : Int32).toInt = 0 from rfl]; omega))
          ·refine own_s T1424 (mkF m 308 #[sA a1, sA a2, sI p1, sI p2, sA b912, sI w2, sI rm, sI (0 : Int32), sI rs, sU, sU, sU, sU] []) (fun t k => ?_) ?_
           ·exact XS.icmpNo X1424.here hx rfl (D3 hby 153 rfl) rfl (XT.ii_gt_f c305_1425) k
           rw [Int32.lt_iff_toInt_lt, own_sub (x := p1) (y := sh1109) (by omega) (by omega)] at c305_1425
           exact absurd c305_1425 (by omega)
         | succ k ih =>
          intro T1406 h1406 L1406 rs ll gf X1406 e1406 N1406 Z1406 f1407 f1408 f1409 f1410 f1411 f1412 f1413 f1414 f1415 f1416 f1417 f1418 f1419 f1420 f1421 f1422 K1423 hrs hk hsl hlogf
          refine own_s T1406 (mkF m 301 #[sA a1, sA a2, sI p1, sI p2, sA b912, sI w2, sI rm, sI (0 : Int32), sI rs, sU, sU, sU, sU] [(.ref a1), (.int p1), (.int rs)]) (fun t k => ?_) ?_
          ·refine XS.iload X1406.here hx rfl (D3 hby 148 rfl) rfl ?_
           refine XS.iloadN X1406.here hx rfl (D3 hby 149 rfl) rfl ?_
           exact XS.aloadN X1406.here hx rfl (D3 hby 150 rfl) rfl rfl k
          obtain ⟨T1446, X1446, e1446, st1446⟩ := getF X1406 hx hZ hown (host := "") (Or.inl (own_hw hw 66 rfl)) Via.refl e1406 f1415 (g := (mkF m 301 #[sA a1, sA a2, sI p1, sI p2, sA b912, sI w2, sI rm, sI (0 : Int32), sI rs, sU, sU, sU, sU] [(.ref a1), (.int p1), (.int rs)])) rfl rfl (D3 hby 151 rfl)
          refine OwnWp.step st1446 ?_
          refine own_s T1446 (mkF m 305 #[sA a1, sA a2, sI p1, sI p2, sA b912, sI w2, sI rm, sI (0 : Int32), sI rs, sU, sU, sU, sU] [(.int (p1 - sh1109)), (.int rs)]) (fun t k => ?_) ?_
          ·exact XS.isub X1446.here hx rfl (D3 hby 152 rfl) rfl k
          by_cases c305_1447 : (p1 - sh1109) < rs
          ·refine own_s T1446 (mkF m 329 #[sA a1, sA a2, sI p1, sI p2, sA b912, sI w2, sI rm, sI (0 : Int32), sI rs, sU, sU, sU, sU] []) (fun t k => ?_) ?_
           ·exact XS.icmpYes X1446.here hx rfl (pc0 := 305) (pc' := 329) rfl (D3 hby 153 rfl) rfl (XT.ii_gt_t c305_1447) (by decide) (by decide) k
           rw [Int32.lt_iff_toInt_lt, own_sub (x := p1) (y := sh1109) (by omega) (by omega)] at c305_1447
           exact absurd c305_1447 (by omega)
          ·refine own_s T1446 (mkF m 308 #[sA a1, sA a2, sI p1, sI p2, sA b912, sI w2, sI rm, sI (0 : Int32), sI rs, sU, sU, sU, sU] []) (fun t k => ?_) ?_
           ·exact XS.icmpNo X1446.here hx rfl (D3 hby 153 rfl) rfl (XT.ii_gt_f c305_1447) k
           rw [Int32.lt_iff_toInt_lt, own_sub (x := p1) (y := sh1109) (by omega) (by omega)] at c305_1447
           refine own_s T1446 (mkF m 310 #[sA a1, sA a2, sI p1, sI p2, sA b912, sI w2, sI rm, sI (0 : Int32), sI rs, sU, sU, sU, sU] [(.ref a1), (.ref a1)]) (fun t k => ?_) ?_
           ·refine XS.aloadN X1446.here hx rfl (D3 hby 154 rfl) rfl rfl ?_
            exact XS.aloadN X1446.here hx rfl (D3 hby 155 rfl) rfl rfl k
           obtain ⟨T1448, X1448, e1448, st1448⟩ := getF X1446 hx hZ hown (host := "") (Or.inl (own_hw hw 19 rfl)) Via.refl e1446 f1417 (g := (mkF m 310 #[sA a1, sA a2, sI p1, sI p2, sA b912, sI w2, sI rm, sI (0 : Int32), sI rs, sU, sU, sU, sU] [(.ref a1), (.ref a1)])) rfl rfl (D3 hby 156 rfl)
           refine OwnWp.step st1448 ?_
           refine own_s T1448 (mkF m 317 #[sA a1, sA a2, sI p1, sI p2, sA b912, sI w2, sI rm, sI (0 : Int32), sI rs, sU, sU, sU, sU] [(.ref a1), (.int (1 : Int32)), (.int rs), (.ref ad1305), (.ref a1)]) (fun t k => ?_) ?_
           ·refine XS.iload X1448.here hx rfl (D3 hby 157 rfl) rfl ?_
            refine XT.iconstV X1448.here hx rfl (1 : Int32) (D3 hby 158 rfl) rfl ?_
            exact XS.aloadN X1448.here hx rfl (D3 hby 159 rfl) rfl rfl k
           obtain ⟨T1449, X1449, e1449, st1449⟩ := getF X1448 hx hZ hown (host := "") (Or.inl (own_hw hw 21 rfl)) Via.refl e1448 f1418 (g := (mkF m 317 #[sA a1, sA a2, sI p1, sI p2, sA b912, sI w2, sI rm, sI (0 : Int32), sI rs, sU, sU, sU, sU] [(.ref a1), (.int (1 : Int32)), (.int rs), (.ref ad1305), (.ref a1)])) rfl rfl (D3 hby 160 rfl)
           refine OwnWp.step st1449 ?_
           show OwnWp p e below s _ _ _ (T1449.setTop (mkF m 320 #[sA a1, sA a2, sI p1, sI p2, sA b912, sI w2, sI rm, sI (0 : Int32), sI rs, sU, sU, sU, sU] [(.ref ad1343), (.int (1 : Int32)), (.int rs), (.ref ad1305), (.ref a1)]))
           have hpw := own_p2le (show ll + 1 ≤ fb by omega)
           have hpw2 := own_p2le (show ll ≤ fb by omega)
           obtain ⟨cl1450, hcl1450, hst1450⟩ := Exa.cell f1407
           obtain ⟨_, _, ⟨T1450, L1450, k1450, n1450⟩, -, X1450, ⟨Lc1450, hQ1450, l1450, y1450, z1450⟩, st1450⟩ := X1449.privateBack hx (y := Mn14) hown (mvT hZ (own_hw hw 87 rfl)) (mvT hZ (own_hw hw 88 rfl)) hsel880 (Cond.privateMethod_at (mvP hZ (own_hw hw 89 rfl) (args := #[]))) (mvT hZ (own_hw hw 90 rfl)) (by decide) (backOf (W := 0) (rm15A l Z a0 hw [] a1 ad1305 rs (1 : Int32) ad1343 od pl go1109 gq1109 sh1109 w1 (own_num (own_L Lf) 256) ll mx shn w2 gf 79 w2 gl h1406 n0 Z1406 b1305 ne1305_1306 ne1305_1308 ne1305_1309 ne1343_1348.symm f1407 f1413 f1414 f1415 f1416 f1419 f1420 f1421 f1422 hC0 hA16 hq1109 hy1109 hs3 hs1 hs4 hmI hm15 hrs (by omega) (by omega) (by omega) (by omega) (hSall ll (Nat.min ll mx) (by omega) (Nat.min_le_left _ _)) (Or.inl rfl) (by decide) (by decide) hlogf (own_low_eq hlogl (by decide)) (by omega) (by omega)) hZ (own_hw hw 90 rfl) (own_hw hw 4 rfl) (by decide) (by decide)) (g := (mkF m 320 #[sA a1, sA a2, sI p1, sI p2, sA b912, sI w2, sI rm, sI (0 : Int32), sI rs, sU, sU, sU, sU] [(.ref ad1343), (.int (1 : Int32)), (.int rs), (.ref ad1305), (.ref a1)])) rfl (by rw [hml]; rfl) (Steps.refl _) (a := a1) (by rw [e1449]; exact hcl1450) hst1450 (argsL := [(.ref ad1305), (.int rs), (.int (1 : Int32)), (.ref ad1343)]) (rest := []) (lenOf pd_15 rfl) rfl (by show 2 * 0 + _ ≤ _; exact Nat.le_of_eq rfl) (D3 hby 161 rfl) (fun _ _ => ⟨rfl, e1449, (by dsimp only [Pt.cells]; decide), (by dsimp only [Pt.slots]; decide)⟩)
           dsimp only [Pt.U, Pt.locs, Pt.cells, Pt.slots] at X1450 l1450 y1450 z1450 st1450 hQ1450
           subst l1450 y1450 z1450
           obtain ⟨rfl, Nc1450, Kc1450, ⟨gn1450, an1450, hl1450⟩⟩ := hQ1450
           have N1450 := Fr.app N1406 Nc1450
           refine OwnWp.go st1450 ?_
           have Z1450 : n0 ≤ T1450.heap.size := Nat.le_trans Z1406 Kc1450.1
           have f1451 := Exa.keep f1407 Kc1450
           have f1452 := OwnA.keep f1408 Kc1450 (ninS ne1305_1307 nin0)
           have f1453 := Fld.keep f1409 Kc1450 (ninS ne1305_1306 nin0)
           have f1454 := Fld.keep f1410 Kc1450 (ninS ne1305_1306 nin0)
           have f1455 := Fld.keep f1411 Kc1450 (ninS ne1305_1306 nin0)
           have f1456 := Fld.keep f1412 Kc1450 (ninS ne1305_1306 nin0)
           have f1457 := Fld.keep f1413 Kc1450 (ninS ne1305_1306 nin0)
           have f1458 := Fld.keep f1414 Kc1450 (ninS ne1305_1306 nin0)
           have f1459 := Fld.keep f1415 Kc1450 (ninS ne1305_1306 nin0)
           have f1460 := Fld.keep f1416 Kc1450 (ninS ne1305_1306 nin0)
           have f1461 := Fld.keep f1417 Kc1450 (ninS ne1305_1306 nin0)
           have f1462 := Fld.keep f1418 Kc1450 (ninS ne1305_1306 nin0)
           have f1463 := OwnA.keep f1419 Kc1450 (ninS ne1305_1308 nin0)
           have f1464 := OwnA.keep f1420 Kc1450 (ninS ne1305_1309 nin0)
           have f1466 := OwnA.keep f1422 Kc1450 (ninS ne1343_1348.symm nin0)
           have K1467 := Keep.trans K1423 Kc1450 (allS (Or.inr bk1305) all0)
           show OwnWp p e below s _ _ _ (T1450.setTop (mkF m 323 #[sA a1, sA a2, sI p1, sI p2, sA b912, sI w2, sI rm, sI (0 : Int32), sI rs, sU, sU, sU, sU] []))
           obtain ⟨w12, qw12⟩ : ∃ z : Int32, z = (rs + (1 : Int32)) := ⟨_, rfl⟩
           refine own_s T1450 (mkF m 326 #[sA a1, sA a2, sI p1, sI p2, sA b912, sI w2, sI rm, sI (0 : Int32), sI w12, sU, sU, sU, sU] []) (fun t k => ?_) ?_
           ·refine XT.iincV X1450.here hx rfl (1 : Int32) (D3 hby 162 rfl) rfl rfl (l' := #[sA a1, sA a2, sI p1, sI p2, sA b912, sI w2, sI rm, sI (0 : Int32), sI (rs + (1 : Int32)), sU, sU, sU, sU]) rfl ?_
            rw [qw12] at k
            exact k
           refine own_s T1450 (mkF m 297 #[sA a1, sA a2, sI p1, sI p2, sA b912, sI w2, sI rm, sI (0 : Int32), sI w12, sU, sU, sU, sU] []) (fun t k => ?_) ?_
           ·exact XS.goto X1450.here hx rfl (pc0 := 326) (pc' := 297) rfl (D3 hby 163 rfl) (by decide) (by decide) k
           have hr2 : w12.toInt = ((ll + 1 : Nat) : Int) := by rw [qw12]; exact own_inc hrs (by omega)
           exact ih  T1450 T1450.heap _ w12 (ll + 1) gn1450 X1450 (rfl : T1450.heap = T1450.heap) N1450 Z1450 f1451 f1452 f1453 f1454 f1455 f1456 f1457 f1458 f1459 f1460 f1461 f1462 f1463 f1464 an1450 f1466 K1467 hr2 (by omega) (by omega) hl1450
        exact hlB (fb + 1 - shn - shn) T1405 h1385 _ sh1109 shn (fun _ => (0 : Int32)) X1405 e1405 N1385 Z1385 f1386 f1387 f1388 f1389 f1390 f1391 f1392 f1393 f1394 f1395 f1396 f1397 f1398 f1399 f1400 f1401 K1402 hs3 (by omega) (Nat.le_refl _) (fun i h1 h2 => by show (0 : Int32).toInt % 65536 ≤ _; decide)
       ·refine own_s T1403 (mkF m 273 #[sA a1, sA a2, sI p1, sI p2, sA b912, sI w2, sI rm, sI (0 : Int32), sI rs, sU, sU, sU, sU] []) (fun t k => ?_) ?_
        ·exact XS.icmpNo X1403.here hx rfl (D3 hby 135 rfl) rfl (XT.ii_gt_f c270_1404) k
        rw [Int32.lt_iff_toInt_lt, own_2sh hfb hfb12 (by omega) (by omega)] at c270_1404
        exact absurd c270_1404 (by omega)
      | succ k ih =>
       intro T1385 h1385 L1385 rs ll gl X1385 e1385 N1385 Z1385 f1386 f1387 f1388 f1389 f1390 f1391 f1392 f1393 f1394 f1395 f1396 f1397 f1398 f1399 f1400 f1401 K1402 hrs hk hsl hlogl
       refine own_s T1385 (mkF m 265 #[sA a1, sA a2, sI p1, sI p2, sA b912, sI w2, sI rm, sI (0 : Int32), sI rs, sU, sU, sU, sU] [(.ref a1), (.int (2 : Int32)), (.int p1), (.int rs)]) (fun t k => ?_) ?_
       ·refine XS.iload X1385.here hx rfl (D3 hby 128 rfl) rfl ?_
        refine XS.iloadN X1385.here hx rfl (D3 hby 129 rfl) rfl ?_
        refine XT.iconstV X1385.here hx rfl (2 : Int32) (D3 hby 130 rfl) rfl ?_
        exact XS.aloadN X1385.here hx rfl (D3 hby 131 rfl) rfl rfl k
       obtain ⟨T1468, X1468, e1468, st1468⟩ := getF X1385 hx hZ hown (host := "") (Or.inl (own_hw hw 66 rfl)) Via.refl e1385 f1394 (g := (mkF m 265 #[sA a1, sA a2, sI p1, sI p2, sA b912, sI w2, sI rm, sI (0 : Int32), sI rs, sU, sU, sU, sU] [(.ref a1), (.int (2 : Int32)), (.int p1), (.int rs)])) rfl rfl (D3 hby 132 rfl)
       refine OwnWp.step st1468 ?_
       refine own_s T1468 (mkF m 270 #[sA a1, sA a2, sI p1, sI p2, sA b912, sI w2, sI rm, sI (0 : Int32), sI rs, sU, sU, sU, sU] [(.int (p1 - ((2 : Int32) * sh1109))), (.int rs)]) (fun t k => ?_) ?_
       ·refine XS.imul X1468.here hx rfl (D3 hby 133 rfl) rfl ?_
        exact XS.isub X1468.here hx rfl (D3 hby 134 rfl) rfl k
       by_cases c270_1469 : (p1 - ((2 : Int32) * sh1109)) < rs
       ·refine own_s T1468 (mkF m 291 #[sA a1, sA a2, sI p1, sI p2, sA b912, sI w2, sI rm, sI (0 : Int32), sI rs, sU, sU, sU, sU] []) (fun t k => ?_) ?_
        ·exact XS.icmpYes X1468.here hx rfl (pc0 := 270) (pc' := 291) rfl (D3 hby 135 rfl) rfl (XT.ii_gt_t c270_1469) (by decide) (by decide) k
        rw [Int32.lt_iff_toInt_lt, own_2sh hfb hfb12 (by omega) (by omega)] at c270_1469
        exact absurd c270_1469 (by omega)
       ·refine own_s T1468 (mkF m 273 #[sA a1, sA a2, sI p1, sI p2, sA b912, sI w2, sI rm, sI (0 : Int32), sI rs, sU, sU, sU, sU] []) (fun t k => ?_) ?_
        ·exact XS.icmpNo X1468.here hx rfl (D3 hby 135 rfl) rfl (XT.ii_gt_f c270_1469) k
        rw [Int32.lt_iff_toInt_lt, own_2sh hfb hfb12 (by omega) (by omega)] at c270_1469
        refine own_s T1468 (mkF m 275 #[sA a1, sA a2, sI p1, sI p2, sA b912, sI w2, sI rm, sI (0 : Int32), sI rs, sU, sU, sU, sU] [(.ref a1), (.ref a1)]) (fun t k => ?_) ?_
        ·refine XS.aloadN X1468.here hx rfl (D3 hby 136 rfl) rfl rfl ?_
         exact XS.aloadN X1468.here hx rfl (D3 hby 137 rfl) rfl rfl k
        obtain ⟨T1470, X1470, e1470, st1470⟩ := getF X1468 hx hZ hown (host := "") (Or.inl (own_hw hw 21 rfl)) Via.refl e1468 f1397 (g := (mkF m 275 #[sA a1, sA a2, sI p1, sI p2, sA b912, sI w2, sI rm, sI (0 : Int32), sI rs, sU, sU, sU, sU] [(.ref a1), (.ref a1)])) rfl rfl (D3 hby 138 rfl)
        refine OwnWp.step st1470 ?_
        refine own_s T1470 (mkF m 282 #[sA a1, sA a2, sI p1, sI p2, sA b912, sI w2, sI rm, sI (0 : Int32), sI rs, sU, sU, sU, sU] [.null, (.int (2 : Int32)), (.int rs), (.ref ad1343), (.ref a1)]) (fun t k => ?_) ?_
        ·refine XS.iload X1470.here hx rfl (D3 hby 139 rfl) rfl ?_
         refine XT.iconstV X1470.here hx rfl (2 : Int32) (D3 hby 140 rfl) rfl ?_
         exact XS.aconstNull X1470.here hx rfl (D3 hby 141 rfl) k
        have hpw := own_p2le (show ll + 1 ≤ fb by omega)
        have hpw2 := own_p2le (show ll ≤ fb by omega)
        obtain ⟨cl1471, hcl1471, hst1471⟩ := Exa.cell f1386
        obtain ⟨_, _, ⟨T1471, L1471, k1471, n1471⟩, -, X1471, ⟨Lc1471, hQ1471, l1471, y1471, z1471⟩, st1471⟩ := X1470.privateBack hx (y := Mn14) hown (mvT hZ (own_hw hw 87 rfl)) (mvT hZ (own_hw hw 88 rfl)) hsel880 (Cond.privateMethod_at (mvP hZ (own_hw hw 89 rfl) (args := #[]))) (mvT hZ (own_hw hw 90 rfl)) (by decide) (backOf (W := 0) (rm15N l Z a0 hw [] a1 ad1343 rs (2 : Int32)  od pl go1109 gq1109 sh1109 w1 (own_num (own_L Lf) 256) ll mx shn w2 gl 0  h1385 n0 Z1385 b1343 ne1343_1344 ne1343_1346 ne1343_1347  f1386 f1392 f1393 f1394 f1395 f1398 f1399 f1401  hC0 hA16 hq1109 hy1109 hs3 hs1 hs4 hmI hm15 hrs (by omega) (by omega) (by omega) (by omega) (hSall ll (Nat.min ll mx) (by omega) (Nat.min_le_left _ _)) (Or.inr rfl) (by decide) (by decide) hlogl ) hZ (own_hw hw 90 rfl) (own_hw hw 4 rfl) (by decide) (by decide)) (g := (mkF m 282 #[sA a1, sA a2, sI p1, sI p2, sA b912, sI w2, sI rm, sI (0 : Int32), sI rs, sU, sU, sU, sU] [.null, (.int (2 : Int32)), (.int rs), (.ref ad1343), (.ref a1)])) rfl (by rw [hml]; rfl) (Steps.refl _) (a := a1) (by rw [e1470]; exact hcl1471) hst1471 (argsL := [(.ref ad1343), (.int rs), (.int (2 : Int32)), .null]) (rest := []) (lenOf pd_15 rfl) rfl (by show 2 * 0 + _ ≤ _; exact Nat.le_of_eq rfl) (D3 hby 142 rfl) (fun _ _ => ⟨rfl, e1470, (by dsimp only [Pt.cells]; decide), (by dsimp only [Pt.slots]; decide)⟩)
        dsimp only [Pt.U, Pt.locs, Pt.cells, Pt.slots] at X1471 l1471 y1471 z1471 st1471 hQ1471
        subst l1471 y1471 z1471
        obtain ⟨rfl, Nc1471, Kc1471, ⟨gn1471, an1471, hl1471⟩⟩ := hQ1471
        have N1471 := Fr.app N1385 Nc1471
        refine OwnWp.go st1471 ?_
        have Z1471 : n0 ≤ T1471.heap.size := Nat.le_trans Z1385 Kc1471.1
        have f1472 := Exa.keep f1386 Kc1471
        have f1473 := OwnA.keep f1387 Kc1471 (ninS ne1343_1345 nin0)
        have f1474 := Fld.keep f1388 Kc1471 (ninS ne1343_1344 nin0)
        have f1475 := Fld.keep f1389 Kc1471 (ninS ne1343_1344 nin0)
        have f1476 := Fld.keep f1390 Kc1471 (ninS ne1343_1344 nin0)
        have f1477 := Fld.keep f1391 Kc1471 (ninS ne1343_1344 nin0)
        have f1478 := Fld.keep f1392 Kc1471 (ninS ne1343_1344 nin0)
        have f1479 := Fld.keep f1393 Kc1471 (ninS ne1343_1344 nin0)
        have f1480 := Fld.keep f1394 Kc1471 (ninS ne1343_1344 nin0)
        have f1481 := Fld.keep f1395 Kc1471 (ninS ne1343_1344 nin0)
        have f1482 := Fld.keep f1396 Kc1471 (ninS ne1343_1344 nin0)
        have f1483 := Fld.keep f1397 Kc1471 (ninS ne1343_1344 nin0)
        have f1484 := OwnA.keep f1398 Kc1471 (ninS ne1343_1346 nin0)
        have f1485 := OwnA.keep f1399 Kc1471 (ninS ne1343_1347 nin0)
        have f1486 := OwnA.keep f1400 Kc1471 (ninS ne1343_1348 nin0)
        have K1488 := Keep.trans K1402 Kc1471 (allS (Or.inr bk1343) all0)
        show OwnWp p e below s _ _ _ (T1471.setTop (mkF m 285 #[sA a1, sA a2, sI p1, sI p2, sA b912, sI w2, sI rm, sI (0 : Int32), sI rs, sU, sU, sU, sU] []))
        obtain ⟨w12, qw12⟩ : ∃ z : Int32, z = (rs + (1 : Int32)) := ⟨_, rfl⟩
        refine own_s T1471 (mkF m 288 #[sA a1, sA a2, sI p1, sI p2, sA b912, sI w2, sI rm, sI (0 : Int32), sI w12, sU, sU, sU, sU] []) (fun t k => ?_) ?_
        ·refine XT.iincV X1471.here hx rfl (1 : Int32) (D3 hby 143 rfl) rfl rfl (l' := #[sA a1, sA a2, sI p1, sI p2, sA b912, sI w2, sI rm, sI (0 : Int32), sI (rs + (1 : Int32)), sU, sU, sU, sU]) rfl ?_
         rw [qw12] at k
         exact k
        refine own_s T1471 (mkF m 260 #[sA a1, sA a2, sI p1, sI p2, sA b912, sI w2, sI rm, sI (0 : Int32), sI w12, sU, sU, sU, sU] []) (fun t k => ?_) ?_
        ·exact XS.goto X1471.here hx rfl (pc0 := 288) (pc' := 260) rfl (D3 hby 144 rfl) (by decide) (by decide) k
        have hr2 : w12.toInt = ((ll + 1 : Nat) : Int) := by rw [qw12]; exact own_inc hrs (by omega)
        exact ih  T1471 T1471.heap _ w12 (ll + 1) gn1471 X1471 (rfl : T1471.heap = T1471.heap) N1471 Z1471 f1472 f1473 f1474 f1475 f1476 f1477 f1478 f1479 f1480 f1481 f1482 f1483 f1484 f1485 f1486 an1471 K1488 hr2 (by omega) (by omega) hl1471
     exact hlA (fb + 1 - 2 * shn - shn) T1384 h1366 _ sh1109 shn (fun _ => (0 : Int32)) X1384 e1384 N1366 Z1366 f1367 f1368 f1369 f1370 f1371 f1372 f1373 f1374 f1375 f1376 f1377 f1378 f1379 f1380 f1381 f1382 K1383 hs3 (by omega) (Nat.le_refl _) (fun i h1 h2 => by show (0 : Int32).toInt % 65536 ≤ _; decide)
   ·refine own_s T1172 (mkF m 221 #[sA a1, sA a2, sI p1, sI p2, sA b912, sI w2, sI rm, sI (0 : Int32), sU, sU, sU, sU, sU] []) (fun t k => ?_) ?_
    ·exact XS.ifYes X1172.here hx rfl (pc0 := 196) (pc' := 221) rfl (D3 hby 95 rfl) rfl (XT.i0_le_t c196_1283) (by decide) (by decide) k
    have hmx0 := own_short0 hm hs1109 c196_1283
    refine own_s T1172 (mkF m 222 #[sA a1, sA a2, sI p1, sI p2, sA b912, sI w2, sI rm, sI (0 : Int32), sU, sU, sU, sU, sU] [(.ref a1)]) (fun t k => ?_) ?_
    ·exact XS.aloadN X1172.here hx rfl (D3 hby 109 rfl) rfl rfl k
    obtain ⟨T1489, X1489, e1489, st1489⟩ := getF X1172 hx hZ hown (host := "") (Or.inl (own_hw hw 66 rfl)) Via.refl e1172 f1165 (g := (mkF m 222 #[sA a1, sA a2, sI p1, sI p2, sA b912, sI w2, sI rm, sI (0 : Int32), sU, sU, sU, sU, sU] [(.ref a1)])) rfl rfl (D3 hby 110 rfl)
    refine OwnWp.step st1489 ?_
    refine own_s T1489 (mkF m 346 #[sA a1, sA a2, sI p1, sI p2, sA b912, sI w2, sI rm, sI (0 : Int32), sU, sU, sU, sU, sU] []) (fun t k => ?_) ?_
    ·exact XS.ifYes X1489.here hx rfl (pc0 := 225) (pc' := 346) rfl (D3 hby 111 rfl) rfl (XT.i0_le_t c196_1283) (by decide) (by decide) k
    exact J346  T1489 h1152 _ (0 : Int32) (fun _ => (0 : Int32)) _ (own_widen X1489 (by decide) (by decide)) e1489 N1152 Z1152 f1153 f1157 f1158 f1159 f1160 f1162 f1163 f1164 f1166 f1169 f1170 K1171 One.u (by rw [hmx0, show Nat.min fb 0 = 0 from Nat.min_zero fb]; rfl) (fun q h1 h2 => absurd h2 (by rw [show (0 : Int32).toInt = 0 from rfl]; omega))
  by_cases c131_1490 : (0 : Int32) < sh1109
  ·refine own_s T1151 (mkF m 134 #[sA a1, sA a2, sI p1, sI p2, sA b912, sI w2, sI rm, sU, sU, sU, sU, sU, sU] []) (fun t k => ?_) ?_
   ·exact XS.ifNo X1151.here hx rfl (D3 hby 61 rfl) rfl (XT.i0_le_f c131_1490) k
   have hsm := own_short1 hs1109 c131_1490
   refine own_s T1151 (mkF m 137 #[sA a1, sA a2, sI p1, sI p2, sA b912, sI w2, sI rm, sU, sU, sU, sU, sU, sU] [(.ref a1), (.ref b912)]) (fun t k => ?_) ?_
   ·refine XS.aload X1151.here hx rfl (D3 hby 62 rfl) rfl rfl ?_
    exact XS.aloadN X1151.here hx rfl (D3 hby 63 rfl) rfl rfl k
   obtain ⟨T1491, X1491, e1491, st1491⟩ := getF X1151 hx hZ hown (host := "") (Or.inl (own_hw hw 51 rfl)) Via.refl e1151 f1145 (g := (mkF m 137 #[sA a1, sA a2, sI p1, sI p2, sA b912, sI w2, sI rm, sU, sU, sU, sU, sU, sU] [(.ref a1), (.ref b912)])) rfl rfl (D3 hby 64 rfl)
   refine OwnWp.step st1491 ?_
   refine own_s T1491 (mkF m 142 #[sA a1, sA a2, sI p1, sI p2, sA b912, sI w2, sI rm, sU, sU, sU, sU, sU, sU] [(.int (1 : Int32)), (.int (fb883 w1.toInt))]) (fun t k => ?_) ?_
   ·refine OwnA.ldI X1491 hx hZ e1491 f1135 (by omega) (by omega) rfl rfl (D3 hby 65 rfl) ?_
    exact XT.iconstV X1491.here hx rfl (1 : Int32) (D3 hby 66 rfl) rfl k
   by_cases c142_1492 : (1 : Int32) < (fb883 w1.toInt)
   ·refine own_s T1491 (mkF m 145 #[sA a1, sA a2, sI p1, sI p2, sA b912, sI w2, sI rm, sU, sU, sU, sU, sU, sU] []) (fun t k => ?_) ?_
    ·exact XS.icmpNo X1491.here hx rfl (D3 hby 67 rfl) rfl (XT.ii_le_f c142_1492) k
    refine own_s T1491 (mkF m 146 #[sA a1, sA a2, sI p1, sI p2, sA b912, sI w2, sI rm, sU, sU, sU, sU, sU, sU] [(.ref a1)]) (fun t k => ?_) ?_
    ·exact XS.aloadN X1491.here hx rfl (D3 hby 68 rfl) rfl rfl k
    obtain ⟨T1493, X1493, e1493, st1493⟩ := getF X1491 hx hZ hown (host := "") (Or.inl (own_hw hw 66 rfl)) Via.refl e1491 f1144 (g := (mkF m 146 #[sA a1, sA a2, sI p1, sI p2, sA b912, sI w2, sI rm, sU, sU, sU, sU, sU, sU] [(.ref a1)])) rfl rfl (D3 hby 69 rfl)
    refine OwnWp.step st1493 ?_
    refine own_s T1493 (mkF m 151 #[sA a1, sA a2, sI p1, sI p2, sA b912, sI w2, sI rm, sI sh1109, sU, sU, sU, sU, sU] []) (fun t k => ?_) ?_
    ·exact XS.istore X1493.here hx rfl (D3 hby 70 rfl) rfl (l' := #[sA a1, sA a2, sI p1, sI p2, sA b912, sI w2, sI rm, sI sh1109, sU, sU, sU, sU, sU]) rfl k
    have hlX : ∀ (k : Nat) (T1494 : State) (h1494 : Heap) (L1494 : List Loc) (ln : Int32) (eb : Int32) (ll : Nat) (X1494 : Stand p l e Rm8 s m #[(.ref a1), (.ref a2), (.int p1), (.int p2)] below meth c T1494 L1494 3 36896) (e1494 : T1494.heap = h1494) (N1494 : Fr n0 L1494) (Z1494 : n0 ≤ h1494.size) (f1495 : Exa Z h1494 a1 DTn) (f1496 : OwnA Z h1494 a2 .int (256 : Int32) (fun zi => .int (Lf zi))) (f1497 : OwnA Z h1494 fw0 .int (0 : Int32) (fun zi => .int (fw9 zi))) (f1498 : OwnA Z h1494 b912 .int nn912 (fun zi => .int (fb883 zi))) (f1499 : OwnA Z h1494 ad990 .int rm (fun zi => .int ((fun _ => (0 : Int32)) zi))) (f1500 : Fld Z h1494 a1 DTn "entries" "[I" (.ref ad990)) (f1501 : Fld Z h1494 a1 DTn "firstBits" "I" (.int p1)) (f1502 : Fld Z h1494 a1 DTn "width" "I" (.int w3)) (f1503 : Fld Z h1494 a1 DTn "expectedBits" "I" (.int eb)) (f1504 : Fld Z h1494 a1 DTn "codeLengths" "[I" (.ref a2)) (f1505 : Fld Z h1494 a1 DTn "order" "[I" (.ref od)) (f1506 : Fld Z h1494 a1 DTn "places" "[I" (.ref pl)) (f1507 : Fld Z h1494 a1 DTn "shortest" "I" (.int sh1109)) (f1508 : Fld Z h1494 a1 DTn "longest" "I" (.int w1)) (f1509 : Fld Z h1494 a1 DTn "follows" "[I" (.ref fw0)) (f1510 : Fld Z h1494 a1 DTn "lasts" "[I" (.ref ls0)) (f1511 : OwnA Z h1494 od .int (256 : Int32) (fun zi => .int (go1109 zi))) (f1512 : OwnA Z h1494 pl .int (17 : Int32) (fun zi => .int (gq1109 zi))) (K1513 : Keep h0 h1494 [a1, lc, od, pl]) (hln : ln.toInt = (ll : Int)) (hk : ll + k = mx + 1), OwnWp p e below s Rm8.cells Rm8.slots (Q3 Z a1 a2 p1 p2 lc od pl en0 fw0 ls0 gc fo fp Lf fe0 fw9 mx fb h0 n0) (T1494.setTop (mkF m 151 #[sA a1, sA a2, sI p1, sI p2, sA b912, sI w2, sI rm, sI ln, sU, sU, sU, sU, sU] [])) := by
     intro k
     induction k with
     | zero =>
      intro T1494 h1494 L1494 ln eb ll X1494 e1494 N1494 Z1494 f1495 f1496 f1497 f1498 f1499 f1500 f1501 f1502 f1503 f1504 f1505 f1506 f1507 f1508 f1509 f1510 f1511 f1512 K1513 hln hk
      refine own_s T1494 (mkF m 154 #[sA a1, sA a2, sI p1, sI p2, sA b912, sI w2, sI rm, sI ln, sU, sU, sU, sU, sU] [(.ref a1), (.int ln)]) (fun t k => ?_) ?_
      ·refine XS.iload X1494.here hx rfl (D3 hby 71 rfl) rfl ?_
       exact XS.aloadN X1494.here hx rfl (D3 hby 72 rfl) rfl rfl k
      obtain ⟨T1514, X1514, e1514, st1514⟩ := getF X1494 hx hZ hown (host := "") (Or.inl (own_hw hw 51 rfl)) Via.refl e1494 f1508 (g := (mkF m 154 #[sA a1, sA a2, sI p1, sI p2, sA b912, sI w2, sI rm, sI ln, sU, sU, sU, sU, sU] [(.ref a1), (.int ln)])) rfl rfl (D3 hby 73 rfl)
      refine OwnWp.step st1514 ?_
      by_cases c157_1515 : w1 < ln
      ·refine own_s T1514 (mkF m 189 #[sA a1, sA a2, sI p1, sI p2, sA b912, sI w2, sI rm, sI ln, sU, sU, sU, sU, sU] []) (fun t k => ?_) ?_
       ·exact XS.icmpYes X1514.here hx rfl (pc0 := 157) (pc' := 189) rfl (D3 hby 74 rfl) rfl (XT.ii_gt_t c157_1515) (by decide) (by decide) k
       rw [Int32.lt_iff_toInt_lt] at c157_1515
       exact J189  T1514 h1494 _ eb _ (own_widen X1514 (by decide) (by decide)) e1514 N1494 Z1494 f1495 f1496 f1497 f1498 f1499 f1500 f1501 f1502 f1503 f1504 f1505 f1506 f1507 f1508 f1509 f1510 f1511 f1512 K1513 (One.val rfl)
      ·refine own_s T1514 (mkF m 160 #[sA a1, sA a2, sI p1, sI p2, sA b912, sI w2, sI rm, sI ln, sU, sU, sU, sU, sU] []) (fun t k => ?_) ?_
       ·exact XS.icmpNo X1514.here hx rfl (D3 hby 74 rfl) rfl (XT.ii_gt_f c157_1515) k
       rw [Int32.lt_iff_toInt_lt] at c157_1515
       exact absurd c157_1515 (by omega)
     | succ k ih =>
      intro T1494 h1494 L1494 ln eb ll X1494 e1494 N1494 Z1494 f1495 f1496 f1497 f1498 f1499 f1500 f1501 f1502 f1503 f1504 f1505 f1506 f1507 f1508 f1509 f1510 f1511 f1512 K1513 hln hk
      refine own_s T1494 (mkF m 154 #[sA a1, sA a2, sI p1, sI p2, sA b912, sI w2, sI rm, sI ln, sU, sU, sU, sU, sU] [(.ref a1), (.int ln)]) (fun t k => ?_) ?_
      ·refine XS.iload X1494.here hx rfl (D3 hby 71 rfl) rfl ?_
       exact XS.aloadN X1494.here hx rfl (D3 hby 72 rfl) rfl rfl k
      obtain ⟨T1516, X1516, e1516, st1516⟩ := getF X1494 hx hZ hown (host := "") (Or.inl (own_hw hw 51 rfl)) Via.refl e1494 f1508 (g := (mkF m 154 #[sA a1, sA a2, sI p1, sI p2, sA b912, sI w2, sI rm, sI ln, sU, sU, sU, sU, sU] [(.ref a1), (.int ln)])) rfl rfl (D3 hby 73 rfl)
      refine OwnWp.step st1516 ?_
      by_cases c157_1517 : w1 < ln
      ·refine own_s T1516 (mkF m 189 #[sA a1, sA a2, sI p1, sI p2, sA b912, sI w2, sI rm, sI ln, sU, sU, sU, sU, sU] []) (fun t k => ?_) ?_
       ·exact XS.icmpYes X1516.here hx rfl (pc0 := 157) (pc' := 189) rfl (D3 hby 74 rfl) rfl (XT.ii_gt_t c157_1517) (by decide) (by decide) k
       rw [Int32.lt_iff_toInt_lt] at c157_1517
       exact absurd c157_1517 (by omega)
      ·refine own_s T1516 (mkF m 160 #[sA a1, sA a2, sI p1, sI p2, sA b912, sI w2, sI rm, sI ln, sU, sU, sU, sU, sU] []) (fun t k => ?_) ?_
       ·exact XS.icmpNo X1516.here hx rfl (D3 hby 74 rfl) rfl (XT.ii_gt_f c157_1517) k
       rw [Int32.lt_iff_toInt_lt] at c157_1517
       refine own_s T1516 (mkF m 162 #[sA a1, sA a2, sI p1, sI p2, sA b912, sI w2, sI rm, sI ln, sU, sU, sU, sU, sU] [(.ref a1), (.ref a1)]) (fun t k => ?_) ?_
       ·refine XS.aloadN X1516.here hx rfl (D3 hby 75 rfl) rfl rfl ?_
        exact XS.dup X1516.here hx rfl (D3 hby 76 rfl) rfl rfl k
       obtain ⟨T1518, X1518, e1518, st1518⟩ := getF X1516 hx hZ hown (host := "") (Or.inl (own_hw hw 74 rfl)) Via.refl e1516 f1503 (g := (mkF m 162 #[sA a1, sA a2, sI p1, sI p2, sA b912, sI w2, sI rm, sI ln, sU, sU, sU, sU, sU] [(.ref a1), (.ref a1)])) rfl rfl (D3 hby 77 rfl)
       refine OwnWp.step st1518 ?_
       refine own_s T1518 (mkF m 180 #[sA a1, sA a2, sI p1, sI p2, sA b912, sI w2, sI rm, sI ln, sU, sU, sU, sU, sU] [(.int (eb + (((fb883 ln.toInt) * ln) <<< (((16 : Int32) - ln) &&& 31)))), (.ref a1)]) (fun t k => ?_) ?_
       ·refine XS.aload X1518.here hx rfl (D3 hby 78 rfl) rfl rfl ?_
        refine XS.iload X1518.here hx rfl (D3 hby 79 rfl) rfl ?_
        refine OwnA.ldI X1518 hx hZ e1518 f1498 (by omega) (by omega) rfl rfl (D3 hby 80 rfl) ?_
        refine XS.iload X1518.here hx rfl (D3 hby 81 rfl) rfl ?_
        refine XS.imul X1518.here hx rfl (D3 hby 82 rfl) rfl ?_
        refine XT.bipushV X1518.here hx rfl (16 : Int32) (D3 hby 83 rfl) rfl ?_
        refine XS.iload X1518.here hx rfl (D3 hby 84 rfl) rfl ?_
        refine XS.isub X1518.here hx rfl (D3 hby 85 rfl) rfl ?_
        refine XT.ishl X1518.here hx rfl (D3 hby 86 rfl) rfl ?_
        exact XS.iadd X1518.here hx rfl (D3 hby 87 rfl) rfl k
       obtain ⟨w13, qw13⟩ : ∃ z : Int32, z = (eb + (((fb883 ln.toInt) * ln) <<< (((16 : Int32) - ln) &&& 31))) := ⟨_, rfl⟩
       rw [← qw13]
       obtain ⟨T1519, h1519, X1519, e1519, W1519, st1519⟩ := putF X1518 hx hZ hown (host := "") (Or.inl (own_hw hw 74 rfl)) Via.refl e1518 f1503 f1495 (Or.inl (own_hw hw 75 rfl)) (own_hw hw 3 rfl) (ty := .int) (by decide) rfl rfl (g := (mkF m 180 #[sA a1, sA a2, sI p1, sI p2, sA b912, sI w2, sI rm, sI ln, sU, sU, sU, sU, sU] [(.int w13), (.ref a1)])) rfl rfl (D3 hby 88 rfl)
       have N1519 := own_frs (sl := Jvm.RoadKit.slotOf Z DTn "expectedBits" "I") N1494 g0
       have Z1519 : n0 ≤ h1519.size := by rw [W1519.size]; exact Z1494
       refine OwnWp.step st1519 ?_
       have f1520 := Exa.wr W1519 f1495
       have f1521 := OwnA.other f1496 W1519 n7
       have f1522 := OwnA.other f1497 W1519 n13
       have f1523 := OwnA.other f1498 W1519 na935.symm
       have f1524 := OwnA.other f1499 W1519 ne990_991.symm
       have f1525 := Fld.other W1519 f1500 (Or.inr (slot_ne (C := DTn) (Or.inl (own_hw hw 12 rfl)) (Or.inl (own_hw hw 75 rfl)) (by decide) (t := (.array .int)) (t' := .int) (by decide) (by decide)))
       have f1526 := Fld.other W1519 f1501 (Or.inr (slot_ne (C := DTn) (Or.inl (own_hw hw 56 rfl)) (Or.inl (own_hw hw 75 rfl)) (by decide) (t := .int) (t' := .int) (by decide) (by decide)))
       have f1527 := Fld.other W1519 f1502 (Or.inr (slot_ne (C := DTn) (Or.inl (own_hw hw 61 rfl)) (Or.inl (own_hw hw 75 rfl)) (by decide) (t := .int) (t' := .int) (by decide) (by decide)))
       have f1528 := Fld.same W1519 f1503
       have f1529 := Fld.other W1519 f1504 (Or.inr (slot_ne (C := DTn) (Or.inl (own_hw hw 54 rfl)) (Or.inl (own_hw hw 75 rfl)) (by decide) (t := (.array .int)) (t' := .int) (by decide) (by decide)))
       have f1530 := Fld.other W1519 f1505 (Or.inr (slot_ne (C := DTn) (Or.inr (own_hw hw 14 rfl)) (Or.inl (own_hw hw 75 rfl)) (by decide) (t := (.array .int)) (t' := .int) (by decide) (by decide)))
       have f1531 := Fld.other W1519 f1506 (Or.inr (slot_ne (C := DTn) (Or.inr (own_hw hw 18 rfl)) (Or.inl (own_hw hw 75 rfl)) (by decide) (t := (.array .int)) (t' := .int) (by decide) (by decide)))
       have f1532 := Fld.other W1519 f1507 (Or.inr (slot_ne (C := DTn) (Or.inl (own_hw hw 67 rfl)) (Or.inl (own_hw hw 75 rfl)) (by decide) (t := .int) (t' := .int) (by decide) (by decide)))
       have f1533 := Fld.other W1519 f1508 (Or.inr (slot_ne (C := DTn) (Or.inl (own_hw hw 52 rfl)) (Or.inl (own_hw hw 75 rfl)) (by decide) (t := .int) (t' := .int) (by decide) (by decide)))
       have f1534 := Fld.other W1519 f1509 (Or.inr (slot_ne (C := DTn) (Or.inl (own_hw hw 20 rfl)) (Or.inl (own_hw hw 75 rfl)) (by decide) (t := (.array .int)) (t' := .int) (by decide) (by decide)))
       have f1535 := Fld.other W1519 f1510 (Or.inr (slot_ne (C := DTn) (Or.inl (own_hw hw 22 rfl)) (Or.inl (own_hw hw 75 rfl)) (by decide) (t := (.array .int)) (t' := .int) (by decide) (by decide)))
       have f1536 := OwnA.other f1511 W1519 n2.symm
       have f1537 := OwnA.other f1512 W1519 n3.symm
       have K1538 := Keep.wr K1513 W1519 (Or.inl (List.mem_of_getElem? (i := 0) rfl))
       show OwnWp p e below s _ _ _ (T1519.setTop (mkF m 183 #[sA a1, sA a2, sI p1, sI p2, sA b912, sI w2, sI rm, sI ln, sU, sU, sU, sU, sU] []))
       obtain ⟨w14, qw14⟩ : ∃ z : Int32, z = (ln + (1 : Int32)) := ⟨_, rfl⟩
       refine own_s T1519 (mkF m 186 #[sA a1, sA a2, sI p1, sI p2, sA b912, sI w2, sI rm, sI w14, sU, sU, sU, sU, sU] []) (fun t k => ?_) ?_
       ·refine XT.iincV X1519.here hx rfl (1 : Int32) (D3 hby 89 rfl) rfl rfl (l' := #[sA a1, sA a2, sI p1, sI p2, sA b912, sI w2, sI rm, sI (ln + (1 : Int32)), sU, sU, sU, sU, sU]) rfl ?_
        rw [qw14] at k
        exact k
       refine own_s T1519 (mkF m 151 #[sA a1, sA a2, sI p1, sI p2, sA b912, sI w2, sI rm, sI w14, sU, sU, sU, sU, sU] []) (fun t k => ?_) ?_
       ·exact XS.goto X1519.here hx rfl (pc0 := 186) (pc' := 151) rfl (D3 hby 90 rfl) (by decide) (by decide) k
       have hl2 : w14.toInt = ((ll + 1 : Nat) : Int) := by rw [qw14]; exact own_inc hln (by omega)
       exact ih  T1519 h1519 _ w14 w13 (ll + 1) X1519 e1519 N1519 Z1519 f1520 f1521 f1522 f1523 f1524 f1525 f1526 f1527 f1528 f1529 f1530 f1531 f1532 f1533 f1534 f1535 f1536 f1537 K1538 hl2 (by omega)
    exact hlX (mx + 1 - sh1109.toInt.toNat) T1493 h1131 _ sh1109 (0 : Int32) sh1109.toInt.toNat (own_widen X1493 (by decide) (by decide)) e1493 N1131 Z1131 f1132 f1133 f1134 f1135 f1136 f1137 f1138 f1139 f1140 f1141 f1142 f1143 f1144 f1145 f1146 f1147 f1148 f1149 K1150 hsm.2.2.1 (by omega)
   ·refine own_s T1491 (mkF m 189 #[sA a1, sA a2, sI p1, sI p2, sA b912, sI w2, sI rm, sU, sU, sU, sU, sU, sU] []) (fun t k => ?_) ?_
    ·exact XS.icmpYes X1491.here hx rfl (pc0 := 142) (pc' := 189) rfl (D3 hby 67 rfl) rfl (XT.ii_le_t c142_1492) (by decide) (by decide) k
    exact J189  T1491 h1131 _ (0 : Int32) _ (own_widen X1491 (by decide) (by decide)) e1491 N1131 Z1131 f1132 f1133 f1134 f1135 f1136 f1137 f1138 f1139 f1140 f1141 f1142 f1143 f1144 f1145 f1146 f1147 f1148 f1149 K1150 One.u
  ·refine own_s T1151 (mkF m 189 #[sA a1, sA a2, sI p1, sI p2, sA b912, sI w2, sI rm, sU, sU, sU, sU, sU, sU] []) (fun t k => ?_) ?_
   ·exact XS.ifYes X1151.here hx rfl (pc0 := 131) (pc' := 189) rfl (D3 hby 61 rfl) rfl (XT.i0_le_t c131_1490) (by decide) (by decide) k
   exact J189  T1151 h1131 _ (0 : Int32) _ (own_widen X1151 (by decide) (by decide)) e1151 N1131 Z1131 f1132 f1133 f1134 f1135 f1136 f1137 f1138 f1139 f1140 f1141 f1142 f1143 f1144 f1145 f1146 f1147 f1148 f1149 K1150 One.u
 by_cases c56_1539 : p1 < w1
 ·refine own_s T966 (mkF m 59 #[sA a1, sA a2, sI p1, sI p2, sA b912, sI w2, sU, sU, sU, sU, sU, sU, sU] []) (fun t k => ?_) ?_
  ·exact XS.icmpNo X966.here hx rfl (D3 hby 21 rfl) rfl (XT.ii_le_f c56_1539) k
  refine own_s T966 (mkF m 63 #[sA a1, sA a2, sI p1, sI p2, sA b912, sI w2, sU, sU, sU, sU, sU, sU, sU] [(.ref a1), (.int (1 : Int32)), (.int w2)]) (fun t k => ?_) ?_
  ·refine XS.iload X966.here hx rfl (D3 hby 22 rfl) rfl ?_
   refine XT.iconstV X966.here hx rfl (1 : Int32) (D3 hby 23 rfl) rfl ?_
   exact XS.aloadN X966.here hx rfl (D3 hby 24 rfl) rfl rfl k
  obtain ⟨T1540, X1540, e1540, st1540⟩ := getF X966 hx hZ hown (host := "") (Or.inl (own_hw hw 51 rfl)) Via.refl e966 f955 (g := (mkF m 63 #[sA a1, sA a2, sI p1, sI p2, sA b912, sI w2, sU, sU, sU, sU, sU, sU, sU] [(.ref a1), (.int (1 : Int32)), (.int w2)])) rfl rfl (D3 hby 25 rfl)
  refine OwnWp.step st1540 ?_
  show OwnWp p e below s _ _ _ (T1540.setTop (mkF m 66 #[sA a1, sA a2, sI p1, sI p2, sA b912, sI w2, sU, sU, sU, sU, sU, sU, sU] [(.int w1), (.int (1 : Int32)), (.int w2)]))
  obtain ⟨w15, qw15⟩ : ∃ z : Int32, z = (w2 + ((1 : Int32) <<< (w1 &&& 31))) := ⟨_, rfl⟩
  refine own_s T1540 (mkF m 75 #[sA a1, sA a2, sI p1, sI p2, sA b912, sI w2, sI w15, sU, sU, sU, sU, sU, sU] []) (fun t k => ?_) ?_
  ·refine XT.ishl X1540.here hx rfl (D3 hby 26 rfl) rfl ?_
   refine XS.iadd X1540.here hx rfl (D3 hby 27 rfl) rfl ?_
   refine XS.goto X1540.here hx rfl (pc0 := 68) (pc' := 73) rfl (D3 hby 28 rfl) (by decide) (by decide) ?_
   refine XS.istore X1540.here hx rfl (D3 hby 30 rfl) rfl (l' := #[sA a1, sA a2, sI p1, sI p2, sA b912, sI w2, sI (w2 + ((1 : Int32) <<< (w1 &&& 31))), sU, sU, sU, sU, sU, sU]) rfl ?_
   rw [qw15] at k
   exact k
  exact J75  T1540 h944 _ w15 (own_widen X1540 (by decide) (by decide)) e1540 N944 Z944 f945 f946 f947 f948 f949 f950 f951 f952 f953 f954 f955 f956 f957 f958 f959 f960 f961 f962 f963 f964 K965 (own_roomL hs5 hmI hfb12 hm15 hfb c56_1539 qw15)
 ·refine own_s T966 (mkF m 71 #[sA a1, sA a2, sI p1, sI p2, sA b912, sI w2, sU, sU, sU, sU, sU, sU, sU] []) (fun t k => ?_) ?_
  ·exact XS.icmpYes X966.here hx rfl (pc0 := 56) (pc' := 71) rfl (D3 hby 21 rfl) rfl (XT.ii_le_t c56_1539) (by decide) (by decide) k
  refine own_s T966 (mkF m 75 #[sA a1, sA a2, sI p1, sI p2, sA b912, sI w2, sI w2, sU, sU, sU, sU, sU, sU] []) (fun t k => ?_) ?_
  ·refine XS.iload X966.here hx rfl (D3 hby 29 rfl) rfl ?_
   exact XS.istore X966.here hx rfl (D3 hby 30 rfl) rfl (l' := #[sA a1, sA a2, sI p1, sI p2, sA b912, sI w2, sI w2, sU, sU, sU, sU, sU, sU]) rfl k
  exact J75  T966 h944 _ w2 (own_widen X966 (by decide) (by decide)) e966 N944 Z944 f945 f946 f947 f948 f949 f950 f951 f952 f953 f954 f955 f956 f957 f958 f959 f960 f961 f962 f963 f964 K965 (own_roomS hs5 hmI hfb c56_1539)
/-! the look-up -/
def own_symi (wd fbI : Int32) (x : Int64) : Int32 := (XT.ushrL x (wd - fbI)).toInt32
def own_symj (e : Int32) (x : Int64) : Int32 := (XT.ushr e (8 : Int32)) + (x.toInt32 &&& (((1 : Int32) <<< ((e &&& (15 : Int32)) &&& 31)) - (1 : Int32)))
def own_symr (Lf : Int → Int32) (e : Int32) : Int32 := ((((XT.ushr e (8 : Int32)) &&& (255 : Int32)) <<< ((4 : Int32) &&& 31)) ||| (Lf ((XT.ushr e (8 : Int32)) &&& (255 : Int32)).toInt))
def own_symbol (fe Lf : Int → Int32) (wd fbI : Int32) (x : Int64) : Int32 := if (fe (own_symi wd fbI x).toInt &&& (192 : Int32)) = (0 : Int32) then (if fe (own_symi wd fbI x).toInt = (0 : Int32) then (0 : Int32) else own_symr Lf (fe (own_symj (fe (own_symi wd fbI x).toInt) x).toInt)) else own_symr Lf (fe (own_symi wd fbI x).toInt)
def own_symok (fe : Int → Int32) (rm wd fbI : Int32) (x : Int64) : Prop := (0 ≤ (own_symi wd fbI x).toInt ∧ (own_symi wd fbI x).toInt < rm.toInt) ∧ ((fe (own_symi wd fbI x).toInt &&& (192 : Int32)) = (0 : Int32) → ¬ fe (own_symi wd fbI x).toInt = (0 : Int32) → 0 ≤ (own_symj (fe (own_symi wd fbI x).toInt) x).toInt ∧ (own_symj (fe (own_symi wd fbI x).toInt) x).toInt < rm.toInt)
/-- the low sixteen bits give the symbol -/
theorem own_low16 {e : Int32} {s low : Int} (hs0 : 0 ≤ s) (hs1 : s ≤ 255) (h1 : 64 ≤ low) (h2 : low ≤ 237) (h : e.toInt % 65536 = 256 * s + low) : ¬ (e &&& (192 : Int32)) = (0 : Int32) ∧ ((XT.ushr e (8 : Int32)) &&& (255 : Int32)).toInt = s := by
  have a := c_iushr e 8 8 (by decide) (by decide)
  have a' : (XT.ushr e 8).toInt = (e.toInt % 4294967296) / 256 := a
  have b := c_mask (XT.ushr e 8) 255 8 (by decide) (by decide)
  rw [a', show ((2 ^ 8 : Nat) : Int) = 256 from rfl] at b
  refine ⟨fun q => ?_, by omega⟩
  have m := c_mask e 255 8 (by decide) (by decide)
  rw [show ((2 ^ 8 : Nat) : Int) = 256 from rfl] at m
  obtain ⟨k, hk⟩ := own_fin (x := e &&& 255) (n := 256) (by omega) (by omega)
  have e1 : e &&& 192 = (e &&& 255) &&& 192 := by rw [Int32.and_assoc, show (255 : Int32) &&& 192 = 192 from by decide]
  rw [e1, hk] at q
  have d : ∀ k : Fin 256, (Int32.ofInt (k.1 : Int)) &&& 192 = 0 → k.1 < 64 := by decide +kernel
  have d2 := d k q
  have d3 : (e &&& 255).toInt = (k.1 : Int) := by rw [hk, own_ofi (by omega) (by omega)]
  omega
theorem own_symr_eq {Lf : Int → Int32} {e : Int32} {s : Int} (h : ((XT.ushr e (8 : Int32)) &&& (255 : Int32)).toInt = s) (h0 : 0 ≤ s) (h1 : s ≤ 255) {l : Int} (hl : (Lf s).toInt = l) (l0 : 0 ≤ l) (l1 : l ≤ 15) : (own_symr Lf e).toInt = s * 16 + l := by
  unfold own_symr
  rw [h]
  have a := c_ishl ((XT.ushr e (8 : Int32)) &&& (255 : Int32)) 4 4 (by decide)
  rw [h, show ((2 ^ 4 : Nat) : Int) = 16 from rfl] at a
  have r := rng32 (((XT.ushr e (8 : Int32)) &&& (255 : Int32)) <<< ((4 : Int32) &&& 31))
  have v : (((XT.ushr e (8 : Int32)) &&& (255 : Int32)) <<< ((4 : Int32) &&& 31)).toInt = s * 16 := by omega
  have b := c_or (((XT.ushr e (8 : Int32)) &&& (255 : Int32)) <<< ((4 : Int32) &&& 31)) (Lf s) 4 (by decide) 16 rfl (by omega) (by omega) (by omega)
  have r2 := rng32 ((((XT.ushr e (8 : Int32)) &&& (255 : Int32)) <<< ((4 : Int32) &&& 31)) ||| (Lf s))
  omega
/-- a pointer's parts -/
theorem own_ptr_parts {e : Int32} {X : Int} {ex : Nat} (h0 : 2 ≤ X) (h1 : X ≤ 40000) (he : ex ≤ 15) (h : e.toInt = X * 256 + (ex : Int)) : (e &&& (192 : Int32)) = (0 : Int32) ∧ ¬ e = (0 : Int32) ∧ (XT.ushr e (8 : Int32)).toInt = X ∧ (e &&& (15 : Int32)).toInt = (ex : Int) := by
  have a : (XT.ushr e 8).toInt = (e.toInt % 4294967296) / (2 ^ 8 : Nat) := c_iushr e 8 8 (by decide) (by decide)
  rw [show ((2 ^ 8 : Nat) : Int) = 256 from rfl] at a
  have m := c_mask e 255 8 (by decide) (by decide)
  rw [show ((2 ^ 8 : Nat) : Int) = 256 from rfl] at m
  have m2 := c_mask e 15 4 (by decide) (by decide)
  rw [show ((2 ^ 4 : Nat) : Int) = 16 from rfl] at m2
  refine ⟨?_, fun q => ?_, by omega, by omega⟩
  · have e1 : e &&& 192 = (e &&& 255) &&& 192 := by rw [Int32.and_assoc, show (255 : Int32) &&& 192 = 192 from by decide]
    obtain ⟨k, hk⟩ := own_fin (x := e &&& 255) (n := 16) (by omega) (by omega)
    rw [e1, hk]
    exact (by decide +kernel : ∀ k : Fin 16, (Int32.ofInt (k.1 : Int)) &&& 192 = 0) k
  · rw [q, show (0 : Int32).toInt = 0 from rfl] at h; omega
theorem own_ushrLq {x : Int64} {q : Int32} (h0 : 0 ≤ q.toInt) (h1 : q.toInt < 16) : XT.ushrL x q = (x.toUInt64 >>> (q &&& 0x3f).toInt64.toUInt64).toInt64 := by
  obtain ⟨k, rfl⟩ := own_fin (n := 16) h0 (by omega)
  have d : ∀ k : Fin 16, (Int32.ofInt (k.1 : Int)).toInt64.toUInt64 &&& 63 = ((Int32.ofInt (k.1 : Int)) &&& 0x3f).toInt64.toUInt64 := by decide +kernel
  rw [← d k]; rfl
theorem own_symi_eq {wd fbI : Int32} {W fb : Nat} {x : Int64} (hw : wd.toInt = (W : Int)) (hf : fbI.toInt = (fb : Int)) (h1 : fb ≤ W) (h2 : W ≤ 15) (x0 : 0 ≤ x.toInt) (x1 : x.toInt < 2 ^ W) : (own_symi wd fbI x).toInt = x.toInt / 2 ^ (W - fb) := by
  have e := own_sub (x := wd) (y := fbI) (by omega) (by omega)
  have p := own_p2 (W - fb)
  have p15 := own_p2le h2
  rw [show (2 : Int) ^ 15 = 32768 from by decide] at p15
  have hd0 := Int.ediv_nonneg x0 (show (0 : Int) ≤ 2 ^ (W - fb) by omega)
  have hd1 : x.toInt / 2 ^ (W - fb) ≤ x.toInt := Int.ediv_le_self _ x0
  have u : (XT.ushrL x (wd - fbI)).toInt = x.toInt / 2 ^ (W - fb) := by
    by_cases z : W = fb
    · have e0 : wd - fbI = 0 := Int32.toInt_inj.mp (by rw [e, show (0 : Int32).toInt = 0 from rfl]; omega)
      rw [e0, z, Nat.sub_self]
      have : XT.ushrL x 0 = x := by
        unfold XT.ushrL
        apply Int64.toBitVec_inj.mp
        show (x.toBitVec >>> _) = _
        rw [show (((Int32.toInt64 0).toUInt64 &&& Int64.toUInt64 63).mod 64).toBitVec = 0#64 from by decide]
        simp
      rw [this]; show _ = x.toInt / (2 : Int) ^ 0; rw [Int.pow_zero, Int.ediv_one]
    · have hk : (wd - fbI).toBitVec.toNat % 64 = W - fb := by
        obtain ⟨k, hk⟩ := own_fin (x := wd - fbI) (n := 16) (by omega) (by omega)
        have kk : (wd - fbI).toInt = (k.1 : Int) := by rw [hk, own_ofi (by omega) (by omega)]
        rw [hk, show W - fb = k.1 from by omega]
        exact (by decide +kernel : ∀ k : Fin 16, (Int32.ofInt (k.1 : Int)).toBitVec.toNat % 64 = k.1) k
      have c : (XT.ushrL x (wd - fbI)).toInt = (x.toInt % 18446744073709551616) / (2 ^ (W - fb) : Nat) := by rw [own_ushrLq (by omega) (by omega)]; exact c_lushr x (wd - fbI) (W - fb) hk (by omega)
      rw [c, Int.emod_eq_of_lt x0 (by omega)]
      congr 1
  have l := c_l2i (XT.ushrL x (wd - fbI))
  have r := rng32 (XT.ushrL x (wd - fbI)).toInt32
  show ((XT.ushrL x (wd - fbI)).toInt32).toInt = _
  omega

theorem own_mask15 {y ev : Int32} {ex : Nat} (he : ev.toInt = (ex : Int)) (h : ex ≤ 15) : (y &&& (((1 : Int32) <<< (ev &&& 31)) - (1 : Int32))).toInt = y.toInt % 2 ^ ex := by
  obtain ⟨k, hk⟩ := own_fin (x := ev) (n := 16) (by omega) (by omega)
  have kk : ev.toInt = (k.1 : Int) := by rw [hk, own_ofi (by omega) (by omega)]
  have c := c_mask y (((1 : Int32) <<< (ev &&& 31)) - (1 : Int32)) ex (by omega) (by
    rw [hk, show ex = k.1 from by omega]
    exact (by decide +kernel : ∀ k : Fin 16, (((1 : Int32) <<< (Int32.ofInt (k.1 : Int) &&& 31)) - (1 : Int32)).toBitVec.toNat = 2 ^ k.1 - 1) k)
  rw [c, show ((2 ^ ex : Nat) : Int) = (2 : Int) ^ ex from by push_cast; rfl]
theorem own_ord_at {L : Int → Int} {go : Int → Int32} (G : own_ord L (fun _ => 64) go) {s : Nat} (hs : s < 256) (h1 : 1 ≤ L (s : Int)) : (go (own_A (own_num L 256) (L (s : Int)).toNat + own_num L s (L (s : Int)))).toInt = (s : Int) := by
  have := G (s / 64) (by omega) (s % 64) (by show s % 64 < 64; omega) (by rw [show 64 * (s / 64) + s % 64 = s from by omega]; exact h1)
  rw [show 64 * (s / 64) + s % 64 = s from by omega] at this
  exact this
theorem own_sym_code {Lf fe go : Int → Int32} {fb mx : Nat} {rm wd fbI : Int32} (H : own_filled (own_num (own_L Lf) 256) go fb mx fe) (G : own_ord (own_L Lf) (fun _ => 64) go) (hW : wd.toInt = ((Nat.max fb mx : Nat) : Int)) (hf : fbI.toInt = (fb : Int)) (hfb1 : 1 ≤ fb) (hfb12 : fb ≤ 12) (hm15 : mx ≤ 15) (hrm : rm.toInt = own_room fb mx)
    (hS : ∀ b l : Nat, b ≤ 15 → l ≤ b → own_Sum (own_num (own_L Lf) 256) b (l + 1) ≤ 2 ^ b) {s l : Nat} (hs : s < 256) (hl : (Lf (s : Int)).toInt = (l : Int)) (l1 : 1 ≤ l) (lm : l ≤ mx) {x : Int64} {jk : Int} (j0 : 0 ≤ jk) (j1 : jk < 2 ^ (Nat.max fb mx - l)) (hx : x.toInt = (own_Sum (own_num (own_L Lf) 256) l l + own_num (own_L Lf) s (l : Int)) * 2 ^ (Nat.max fb mx - l) + jk) :
    own_symok fe rm wd fbI x ∧ (own_symbol fe Lf wd fbI x).toInt = (s : Int) * 16 + (l : Int) := by
  obtain ⟨C, hCd⟩ : ∃ C, C = own_num (own_L Lf) 256 := ⟨_, rfl⟩
  obtain ⟨r, hrd⟩ : ∃ r, r = own_num (own_L Lf) s (l : Int) := ⟨_, rfl⟩
  have hCn : ∀ t, 0 ≤ C t := fun t => by rw [hCd]; exact own_num_nonneg _ _ _
  have hLs : own_L Lf (s : Int) = (l : Int) := hl
  have r0 : 0 ≤ r := by rw [hrd]; exact own_num_nonneg _ _ _
  have r1 : r < C (l : Int) := by
    have := own_num_lt (own_L Lf) (s := s) (s' := 256) hs
    rw [hLs] at this
    rw [hrd, hCd]; exact this
  have gs : (go (own_A C l + r)).toInt = (s : Int) := by
    have := own_ord_at G hs (by rw [hLs]; omega)
    rw [hLs, show ((l : Int)).toNat = l from rfl] at this
    rw [hrd, hCd]; exact this
  rw [← hCd] at H hS hx
  rw [← hrd] at hx
  have rl := own_room_le hfb12 hm15
  obtain ⟨W, hWd⟩ : ∃ W, W = Nat.max fb mx := ⟨_, rfl⟩
  rw [← hWd] at hW j1 hx
  have hWf : fb ≤ W := by rw [hWd]; exact Nat.le_max_left _ _
  have hWm : mx ≤ W := by rw [hWd]; exact Nat.le_max_right _ _
  have hW15 : W ≤ 15 := by rw [hWd]; exact Nat.max_le.mpr ⟨by omega, hm15⟩
  -- the code's value
  have sl := own_Sum_succ C l l1
  rw [Nat.sub_self, Int.pow_zero, Int.mul_one] at sl
  have kr := hS l l (by omega) (Nat.le_refl _)
  have s0 := own_Sum_le hCn l (Nat.zero_le l)
  rw [show own_Sum C l 0 = 0 from rfl] at s0
  have pw : (2 : Int) ^ W = 2 ^ l * 2 ^ (W - l) := by rw [← Int.pow_add, show l + (W - l) = W from by omega]
  have pp := own_p2 (W - l)
  have bk := own_blk (r := own_Sum C l l + r) (c := 2 ^ l) pp (by omega) (by omega) j0 j1
  have x0 : 0 ≤ x.toInt := by omega
  have x1 : x.toInt < 2 ^ W := by rw [pw]; omega
  have si := own_symi_eq hW hf hWf hW15 x0 x1
  have p15 := own_p2le hW15
  rw [show (2 : Int) ^ 15 = 32768 from by decide] at p15
  have pf := own_p2 (W - fb)
  have pwf : (2 : Int) ^ W = 2 ^ fb * 2 ^ (W - fb) := by rw [← Int.pow_add, show fb + (W - fb) = W from by omega]
  have q0 : 0 ≤ x.toInt / 2 ^ (W - fb) := Int.ediv_nonneg x0 (by omega)
  have q1 : x.toInt / 2 ^ (W - fb) < 2 ^ fb := Int.ediv_lt_of_lt_mul (by omega) (by rw [← pwf]; exact x1)
  by_cases c : l ≤ fb
  · -- the code ends within the first look-up
    have e1 : (2 : Int) ^ (W - l) = 2 ^ (fb - l) * 2 ^ (W - fb) := by rw [← Int.pow_add, show fb - l + (W - fb) = W - l from by omega]
    have ss : own_Sum C fb l = own_Sum C l l * 2 ^ (fb - l) := by
      have := own_Sum_shift C l (fb - l) l (by omega)
      rwa [show l + (fb - l) = fb from by omega] at this
    have qq : x.toInt / 2 ^ (W - fb) = own_Sum C fb l + r * 2 ^ (fb - l) + jk / 2 ^ (W - fb) := by
      rw [hx, e1, ← Int.mul_assoc, Int.add_comm, Int.add_mul_ediv_right _ _ (by omega), ss, Int.add_mul]; omega
    have jd0 : 0 ≤ jk / 2 ^ (W - fb) := Int.ediv_nonneg j0 (by omega)
    have jd1 : jk / 2 ^ (W - fb) < 2 ^ (fb - l) := Int.ediv_lt_of_lt_mul (by omega) (by rw [← e1]; exact j1)
    have b2 := own_blk (own_p2 (fb - l)) r0 r1 jd0 jd1
    have s1 := own_Sum_succ C fb l1
    have s2 := own_Sum_le hCn fb (show l + 1 ≤ Nat.min fb mx + 1 from Nat.succ_le_succ (Nat.le_min.mpr ⟨c, lm⟩))
    have gd := (H.1 (x.toInt / 2 ^ (W - fb)) q0 (by omega)).2 rfl l r (jk / 2 ^ (W - fb)) l1 c r0 r1 jd0 jd1 qq
    obtain ⟨low, w1, w2, w3⟩ := gd
    rw [gs] at w3
    have lo := own_low16 (s := (s : Int)) (by omega) (by omega) w1 (by omega) w3
    rw [← si] at lo
    refine ⟨⟨⟨by omega, by omega⟩, fun h => absurd h lo.1⟩, ?_⟩
    unfold own_symbol
    rw [if_neg lo.1]
    exact own_symr_eq lo.2 (by omega) (by omega) hl (by omega) (by omega)
  · -- the second look-up
    have hWx : W = mx := by rw [hWd]; exact Nat.max_eq_right (by omega)
    subst hWx
    have hfm : fb < W := by omega
    obtain ⟨h1, h2⟩ := H.2.2 hfm
    have sx := own_Sum_x (C := C) hfm
    have sm := own_Sum_le hCn W (show fb + 1 ≤ l by omega)
    have ss : own_Sum C W l = own_Sum C l l * 2 ^ (W - l) := by
      have := own_Sum_shift C l (W - l) l (by omega)
      rwa [show l + (W - l) = W from by omega] at this
    have hx2 : x.toInt = own_Sum C W l + r * 2 ^ (W - l) + jk := by rw [hx, ss, Int.add_mul]
    have b2 := own_blk pp r0 r1 j0 j1
    have s1 := own_Sum_succ C W l1
    have s2 := own_Sum_le hCn W (show l + 1 ≤ W + 1 by omega)
    have sE0 := own_Sum_le hCn fb (Nat.zero_le (fb + 1))
    rw [show own_Sum C fb 0 = 0 from rfl] at sE0
    have qE : own_Sum C fb (fb + 1) ≤ x.toInt / 2 ^ (W - fb) := (Int.le_ediv_iff_mul_le (by omega)).mpr (by rw [← sx]; omega)
    have hp := h1 (x.toInt / 2 ^ (W - fb)) qE q1
    have ed := Int.mul_ediv_add_emod x.toInt (2 ^ (W - fb))
    rw [Int.mul_comm] at ed
    have m0 := Int.emod_nonneg x.toInt (show (2 : Int) ^ (W - fb) ≠ 0 by omega)
    have X0 : 0 ≤ (x.toInt / 2 ^ (W - fb) - own_Sum C fb (fb + 1)) * 2 ^ (W - fb) := Int.mul_nonneg (by omega) (by omega)
    have X1 : (x.toInt / 2 ^ (W - fb) - own_Sum C fb (fb + 1)) * 2 ^ (W - fb) = x.toInt / 2 ^ (W - fb) * 2 ^ (W - fb) - own_Sum C fb (fb + 1) * 2 ^ (W - fb) := Int.sub_mul _ _ _
    have pfb := own_p2le hfb1
    rw [show (2 : Int) ^ 1 = 2 from by decide] at pfb
    have rw_ : own_room fb W = 2 ^ fb + 2 ^ W := by unfold own_room; rw [if_pos hfm]
    have sE := hS W W hW15 (Nat.le_refl _)
    have sW0 := own_Sum_le hCn W (Nat.zero_le (fb + 1))
    rw [show own_Sum C W 0 = 0 from rfl] at sW0
    have m1 := Int.emod_lt_of_pos x.toInt (show (0 : Int) < 2 ^ (W - fb) by omega)
    have pex := own_p2le (show W - fb ≤ 15 by omega)
    rw [show (2 : Int) ^ 15 = 32768 from by decide] at pex
    have pt := own_ptr_parts (X := 2 ^ fb + (x.toInt / 2 ^ (W - fb) - own_Sum C fb (fb + 1)) * 2 ^ (W - fb)) (ex := W - fb) (by omega) (by omega) (by omega) hp
    rw [← si] at pt
    obtain ⟨pt1, pt2, pt3, pt4⟩ := pt
    have xi : x.toInt32.toInt = x.toInt := by
      have a := c_l2i x
      have b := rng32 x.toInt32
      omega
    have mk := own_mask15 (y := x.toInt32) (ev := fe (own_symi wd fbI x).toInt &&& (15 : Int32)) (ex := W - fb) pt4 (by omega)
    rw [xi] at mk
    have Q : (own_symj (fe (own_symi wd fbI x).toInt) x).toInt = 2 ^ fb + x.toInt - own_Sum C W (fb + 1) := by
      unfold own_symj
      rw [own_add (by rw [pt3, mk, si]; omega) (by rw [pt3, mk, si]; omega), pt3, mk, si, sx]
      omega
    have gd := (h2 (2 ^ fb + x.toInt - own_Sum C W (fb + 1)) (by omega) (by omega)).2 rfl l r jk l1 lm r0 r1 j0 j1 (by omega)
    obtain ⟨low, w1, w2, w3⟩ := gd
    rw [gs] at w3
    have lo := own_low16 (s := (s : Int)) (by omega) (by omega) w1 (by omega) w3
    refine ⟨⟨⟨by omega, by omega⟩, fun _ _ => by rw [Q]; omega⟩, ?_⟩
    unfold own_symbol
    rw [if_pos pt1, if_neg pt2, Q]
    exact own_symr_eq lo.2 (by omega) (by omega) hl (by omega) (by omega)
theorem own_sym_zero {Lf fe go : Int → Int32} {C : Int → Int} {fb mx : Nat} {rm wd fbI : Int32} (H : own_filled C go fb mx fe) (hW : wd.toInt = ((Nat.max fb mx : Nat) : Int)) (hf : fbI.toInt = (fb : Int)) (hfb12 : fb ≤ 12) (hm : mx ≤ fb) (hrm : rm.toInt = own_room fb mx) {x : Int64} (x0 : 0 ≤ x.toInt) (h1 : own_Sum C fb (Nat.min fb mx + 1) ≤ x.toInt) (x1 : x.toInt < 2 ^ fb) :
    own_symok fe rm wd fbI x ∧ own_symbol fe Lf wd fbI x = 0 := by
  have hWx : Nat.max fb mx = fb := Nat.max_eq_left hm
  rw [hWx] at hW
  have si := own_symi_eq hW hf (Nat.le_refl _) (by omega) x0 x1
  rw [Nat.sub_self, Int.pow_zero, Int.ediv_one] at si
  have z := H.2.1 hm x.toInt h1 x1
  rw [← si] at z
  have rl := own_room_le hfb12 (show mx ≤ 15 by omega)
  refine ⟨⟨⟨by omega, by omega⟩, fun _ h => absurd z h⟩, ?_⟩
  unfold own_symbol
  rw [z, if_pos (by decide), if_pos rfl]

def dl1 : List (Nat × Instr × Nat) := [(0, .aload_n 0, 1), (1, .invokespecial 3, 3), (4, .aload_n 0, 1), (5, .iconst 0, 1), (6, .newarray .int, 2), (8, .putfield 9, 3), (11, .aload_n 0, 1), (12, .sipush 256, 3), (15, .newarray .int, 2), (17, .putfield 15, 3), (20, .aload_n 0, 1), (21, .bipush 64, 2), (23, .newarray .int, 2), (25, .putfield 18, 3), (28, .aload_n 0, 1), (29, .bipush 17, 2), (31, .newarray .int, 2), (33, .putfield 21, 3), (36, .aload_n 0, 1), (37, .iconst 0, 1), (38, .newarray .int, 2), (40, .putfield 24, 3), (43, .aload_n 0, 1), (44, .iconst 0, 1), (45, .newarray .int, 2), (47, .putfield 27, 3), (50, .return_, 1)]
theorem da1 : ∀ x ∈ dl1, decode prog_6_method_1_code x.1 = .ok x.2 := by decide +kernel
theorem D1 {c : Code} (h : c.code = prog_6_method_1_code) (i : Nat) {pc : Nat} {ins : Instr} {n : Nat} (e : dl1[i]? = some (pc, ins, n)) : decode c.code pc = .ok (ins, n) := by rw [h]; exact da1 (pc, ins, n) (List.mem_of_getElem? e)
theorem pn_1 : plainFor Mn15 = true := plainFor_of_name (by first | (simp [plainName, overriddenIn]; done) | decide +kernel)
theorem pd_1 : parseMethodDescriptor "()V" = some ⟨[], none⟩ := by decide +kernel
theorem ef_1 (m : MethodId) (x0 : Addr) : entryFrame m #[(.ref x0)] 1 = mkF m 0 #[.val (.ref x0)] [] := by first | (simp [entryFrame, mkF, argsToLocals, Value.category, maxLocals]; done) | rfl
def Q1 (Z : State) (a1 : Addr)  (h0 : Heap) (n0 : Nat) (v : Option Value) (h : Heap) (L : List Loc) : Prop := v = none ∧ Fr n0 L ∧ Keep h0 h [a1] ∧ ∃ en0 od lc pl fw0 ls0 : Addr, h0.size ≤ en0 ∧ h0.size ≤ od ∧ h0.size ≤ lc ∧ h0.size ≤ pl ∧ h0.size ≤ fw0 ∧ h0.size ≤ ls0 ∧ lc ≠ od ∧ lc ≠ pl ∧ od ≠ pl ∧ en0 ≠ lc ∧ fw0 ≠ lc ∧ fw0 ≠ od ∧ fw0 ≠ pl ∧ Fld Z h a1 DTn "entries" "[I" (.ref en0) ∧ Fld Z h a1 DTn "firstBits" "I" (.int (0 : Int32)) ∧ Fld Z h a1 DTn "width" "I" (.int (0 : Int32)) ∧ Fld Z h a1 DTn "expectedBits" "I" (.int (0 : Int32)) ∧ Fld Z h a1 DTn "codeLengths" "[I" .null ∧ Fld Z h a1 DTn "order" "[I" (.ref od) ∧ Fld Z h a1 DTn "laneCounts" "[I" (.ref lc) ∧ Fld Z h a1 DTn "places" "[I" (.ref pl) ∧ Fld Z h a1 DTn "shortest" "I" (.int (0 : Int32)) ∧ Fld Z h a1 DTn "longest" "I" (.int (0 : Int32)) ∧ Fld Z h a1 DTn "follows" "[I" (.ref fw0) ∧ Fld Z h a1 DTn "lasts" "[I" (.ref ls0) ∧ OwnA Z h lc .int (64 : Int32) (fun i => .int ((fun _ => (0 : Int32)) i)) ∧ OwnA Z h od .int (256 : Int32) (fun i => .int ((fun _ => (0 : Int32)) i)) ∧ OwnA Z h pl .int (17 : Int32) (fun i => .int ((fun _ => (0 : Int32)) i)) ∧ OwnA Z h en0 .int (0 : Int32) (fun i => .int ((fun _ => (0 : Int32)) i)) ∧ OwnA Z h fw0 .int (0 : Int32) (fun i => .int ((fun _ => (0 : Int32)) i))
set_option maxRecDepth 65536 in
set_option maxHeartbeats 40000000 in
theorem rm1 (l : Launch) (Z : State) (a0 : Array Value) (hw : ∀ d ∈ tables_1, d.before a0 Z = true) (ws : List Jvm.Cond) (a1 : Addr)  (h0 : Heap) (n0 : Nat) (Z0 : n0 ≤ h0.size) (g0 : n0 ≤ a1) (E0 : Exa Z h0 a1 DTn) (F_entries : Fld Z h0 a1 DTn "entries" "[I" .null) (F_firstBits : Fld Z h0 a1 DTn "firstBits" "I" (.int (0 : Int32))) (F_width : Fld Z h0 a1 DTn "width" "I" (.int (0 : Int32))) (F_expectedBits : Fld Z h0 a1 DTn "expectedBits" "I" (.int (0 : Int32))) (F_codeLengths : Fld Z h0 a1 DTn "codeLengths" "[I" .null) (F_order : Fld Z h0 a1 DTn "order" "[I" .null) (F_laneCounts : Fld Z h0 a1 DTn "laneCounts" "[I" .null) (F_places : Fld Z h0 a1 DTn "places" "[I" .null) (F_shortest : Fld Z h0 a1 DTn "shortest" "I" (.int (0 : Int32))) (F_longest : Fld Z h0 a1 DTn "longest" "I" (.int (0 : Int32))) (F_follows : Fld Z h0 a1 DTn "follows" "[I" .null) (F_lasts : Fld Z h0 a1 DTn "lasts" "[I" .null) :
  MetFree l Mn15 (head1 (Jvm.Cond.code Mn15 prog_6_method_1_code 1 none :: ws) Rm9) (fun a U => a = #[(.ref a1)] ∧ Z.Warmed39 U.vm ∧ U.heap = h0) (fun _ _ _ _ _ => True) (fun _ U oc U' => ∃ v L, oc = .returned v ∧ Q1 Z a1  h0 n0 v U'.heap L ∧ FrameEnd U oc U' L Rm9.cells Rm9.slots) := by
 refine MetFree.of_bodySF pn_1 hisR ?_
 intro p e s m args below meth c s₁ Bd hml0 hP hK
 obtain ⟨rfl, hZ, hh⟩ := hP
 have hx := Bd.exec
 have hby := Bd.bytes
 have hlk := BodyLoose.notSynchronized Bd
 have hml : c.maxLocals = 1 := hml0
 have hown : s.vm.findClass DTn = some m.cls := findClass_of_methodNamed Bd.named
 have hnm := (name_of_methodNamed Bd.named Bd.method).1
 have X0 : Stand p l e Rm9 s m #[(.ref a1)] below meth c s₁ [] 0 0 := Stand.of_body Bd
 have e0 : s₁.heap = h0 := by rw [← hh, Bd.state]; rfl
 have N0 := Fr.nil n0
 show OwnWp p e below s Rm9.cells Rm9.slots (Q1 Z a1  h0 n0) (s₁.setTop (entryFrame m #[(.ref a1)] 1))
 refine OwnWp.cast (ef_1 m a1) ?_
 show OwnWp p e below s _ _ _ (s₁.setTop (mkF m 0 #[sA a1] []))
 have K0 := Keep.refl h0 [a1]
 refine own_s s₁ (mkF m 1 #[sA a1] [(.ref a1)]) (fun t k => ?_) ?_
 ·exact XS.aloadN X0.here hx rfl (D1 hby 0 rfl) rfl rfl k
 obtain ⟨T1541, X1541, e1541, st1541⟩ := initO X0 hx hZ hown (own_hw hw 8 rfl) (own_hw hw 9 rfl) (own_hw hw 10 rfl) e0 (g := (mkF m 1 #[sA a1] [(.ref a1)])) rfl (by rw [hml]; rfl) rfl (D1 hby 1 rfl) (by decide) (W := 0) (by show 2 * 0 + _ ≤ _; exact Nat.le_of_eq rfl) (by decide)
 refine OwnWp.step st1541 ?_
 refine own_s T1541 (mkF m 6 #[sA a1] [(.int (0 : Int32)), (.ref a1)]) (fun t k => ?_) ?_
 ·refine XS.aloadN X1541.here hx rfl (D1 hby 2 rfl) rfl rfl ?_
  exact XT.iconstV X1541.here hx rfl (0 : Int32) (D1 hby 3 rfl) rfl k
 obtain ⟨T1542, h1542, cA1542, X1542, e1542, E1542, Ar1542, st1542⟩ := newP X1541 hx hZ (aty := .int) (own_hw hw 1 rfl) e1541 (g := (mkF m 6 #[sA a1] [(.int (0 : Int32)), (.ref a1)])) rfl (D1 hby 4 rfl) rfl (by decide) (cap := 0) (by decide) (by decide) (by decide) (by decide)
 obtain ⟨ad1542, ga1542⟩ : ∃ z, z = h0.size := ⟨_, rfl⟩
 rw [← ga1542] at Ar1542 st1542
 refine OwnWp.step st1542 ?_
 have ne1542_1543 : a1 ≠ ad1542 := Nat.ne_of_lt (by rw [ga1542]; exact F_lasts.lt)
 have Z1542 : n0 ≤ h1542.size := Nat.le_trans Z0 E1542.1
 have b1542 : n0 ≤ ad1542 := Nat.le_trans Z0 (Nat.le_of_eq ga1542.symm)
 have bk1542 : h0.size ≤ ad1542 := by rw [ga1542]; exact K0.1
 have K1544 := Keep.ext K0 E1542
 have f1545 := Exa.ext E1542 E0
 have f1546 := Fld.ext E1542 F_entries
 have f1547 := Fld.ext E1542 F_firstBits
 have f1548 := Fld.ext E1542 F_width
 have f1549 := Fld.ext E1542 F_expectedBits
 have f1550 := Fld.ext E1542 F_codeLengths
 have f1551 := Fld.ext E1542 F_order
 have f1552 := Fld.ext E1542 F_laneCounts
 have f1553 := Fld.ext E1542 F_places
 have f1554 := Fld.ext E1542 F_shortest
 have f1555 := Fld.ext E1542 F_longest
 have f1556 := Fld.ext E1542 F_follows
 have f1557 := Fld.ext E1542 F_lasts
 have F1558 : OwnA Z h1542 ad1542 .int (0 : Int32) (fun _ => (.int (0 : Int32))) := OwnA.new Ar1542 (by decide)
 obtain ⟨T1559, h1559, X1559, e1559, W1559, st1559⟩ := putF X1542 hx hZ hown (host := "") (Or.inl (own_hw hw 11 rfl)) Via.refl e1542 f1546 f1545 (Or.inl (own_hw hw 12 rfl)) (own_hw hw 3 rfl) (ty := (.array .int)) (by decide) rfl rfl (g := (mkF m 8 #[sA a1] [(.ref ad1542), (.ref a1)])) rfl rfl (D1 hby 5 rfl)
 have N1559 := own_frs (sl := Jvm.RoadKit.slotOf Z DTn "entries" "[I") N0 g0
 have Z1559 : n0 ≤ h1559.size := by rw [W1559.size]; exact Z1542
 refine OwnWp.step st1559 ?_
 have f1560 := Exa.wr W1559 f1545
 have f1561 := Fld.same W1559 f1546
 have f1562 := Fld.other W1559 f1547 (Or.inr (slot_ne (C := DTn) (Or.inl (own_hw hw 56 rfl)) (Or.inl (own_hw hw 12 rfl)) (by decide) (t := .int) (t' := (.array .int)) (by decide) (by decide)))
 have f1563 := Fld.other W1559 f1548 (Or.inr (slot_ne (C := DTn) (Or.inl (own_hw hw 61 rfl)) (Or.inl (own_hw hw 12 rfl)) (by decide) (t := .int) (t' := (.array .int)) (by decide) (by decide)))
 have f1564 := Fld.other W1559 f1549 (Or.inr (slot_ne (C := DTn) (Or.inl (own_hw hw 75 rfl)) (Or.inl (own_hw hw 12 rfl)) (by decide) (t := .int) (t' := (.array .int)) (by decide) (by decide)))
 have f1565 := Fld.other W1559 f1550 (Or.inr (slot_ne (C := DTn) (Or.inl (own_hw hw 54 rfl)) (Or.inl (own_hw hw 12 rfl)) (by decide) (t := (.array .int)) (t' := (.array .int)) (by decide) (by decide)))
 have f1566 := Fld.other W1559 f1551 (Or.inr (slot_ne (C := DTn) (Or.inr (own_hw hw 14 rfl)) (Or.inl (own_hw hw 12 rfl)) (by decide) (t := (.array .int)) (t' := (.array .int)) (by decide) (by decide)))
 have f1567 := Fld.other W1559 f1552 (Or.inr (slot_ne (C := DTn) (Or.inr (own_hw hw 16 rfl)) (Or.inl (own_hw hw 12 rfl)) (by decide) (t := (.array .int)) (t' := (.array .int)) (by decide) (by decide)))
 have f1568 := Fld.other W1559 f1553 (Or.inr (slot_ne (C := DTn) (Or.inr (own_hw hw 18 rfl)) (Or.inl (own_hw hw 12 rfl)) (by decide) (t := (.array .int)) (t' := (.array .int)) (by decide) (by decide)))
 have f1569 := Fld.other W1559 f1554 (Or.inr (slot_ne (C := DTn) (Or.inl (own_hw hw 67 rfl)) (Or.inl (own_hw hw 12 rfl)) (by decide) (t := .int) (t' := (.array .int)) (by decide) (by decide)))
 have f1570 := Fld.other W1559 f1555 (Or.inr (slot_ne (C := DTn) (Or.inl (own_hw hw 52 rfl)) (Or.inl (own_hw hw 12 rfl)) (by decide) (t := .int) (t' := (.array .int)) (by decide) (by decide)))
 have f1571 := Fld.other W1559 f1556 (Or.inr (slot_ne (C := DTn) (Or.inl (own_hw hw 20 rfl)) (Or.inl (own_hw hw 12 rfl)) (by decide) (t := (.array .int)) (t' := (.array .int)) (by decide) (by decide)))
 have f1572 := Fld.other W1559 f1557 (Or.inr (slot_ne (C := DTn) (Or.inl (own_hw hw 22 rfl)) (Or.inl (own_hw hw 12 rfl)) (by decide) (t := (.array .int)) (t' := (.array .int)) (by decide) (by decide)))
 have f1573 := OwnA.other F1558 W1559 ne1542_1543.symm
 have K1574 := Keep.wr K1544 W1559 (Or.inl (List.mem_of_getElem? (i := 0) rfl))
 refine own_s T1559 (mkF m 15 #[sA a1] [(.int (256 : Int32)), (.ref a1)]) (fun t k => ?_) ?_
 ·refine XS.aloadN X1559.here hx rfl (D1 hby 6 rfl) rfl rfl ?_
  exact XT.sipushV X1559.here hx rfl (256 : Int32) (D1 hby 7 rfl) rfl k
 obtain ⟨T1575, h1575, cA1575, X1575, e1575, E1575, Ar1575, st1575⟩ := newP X1559 hx hZ (aty := .int) (own_hw hw 1 rfl) e1559 (g := (mkF m 15 #[sA a1] [(.int (256 : Int32)), (.ref a1)])) rfl (D1 hby 8 rfl) rfl (by decide) (cap := 256) (by decide) (by decide) (by decide) (by decide)
 obtain ⟨ad1575, ga1575⟩ : ∃ z, z = h1559.size := ⟨_, rfl⟩
 rw [← ga1575] at Ar1575 st1575
 refine OwnWp.step st1575 ?_
 have ne1575_1576 : a1 ≠ ad1575 := Nat.ne_of_lt (by rw [ga1575]; exact f1572.lt)
 have ne1575_1577 : ad1542 ≠ ad1575 := Nat.ne_of_lt (by rw [ga1575]; exact f1573.lt)
 have Z1575 : n0 ≤ h1575.size := Nat.le_trans Z1559 E1575.1
 have b1575 : n0 ≤ ad1575 := Nat.le_trans Z1559 (Nat.le_of_eq ga1575.symm)
 have bk1575 : h0.size ≤ ad1575 := by rw [ga1575]; exact K1574.1
 have K1578 := Keep.ext K1574 E1575
 have f1579 := Exa.ext E1575 f1560
 have f1580 := Fld.ext E1575 f1561
 have f1581 := Fld.ext E1575 f1562
 have f1582 := Fld.ext E1575 f1563
 have f1583 := Fld.ext E1575 f1564
 have f1584 := Fld.ext E1575 f1565
 have f1585 := Fld.ext E1575 f1566
 have f1586 := Fld.ext E1575 f1567
 have f1587 := Fld.ext E1575 f1568
 have f1588 := Fld.ext E1575 f1569
 have f1589 := Fld.ext E1575 f1570
 have f1590 := Fld.ext E1575 f1571
 have f1591 := Fld.ext E1575 f1572
 have f1592 := OwnA.ext f1573 E1575
 have F1593 : OwnA Z h1575 ad1575 .int (256 : Int32) (fun _ => (.int (0 : Int32))) := OwnA.new Ar1575 (by decide)
 obtain ⟨T1594, h1594, X1594, e1594, W1594, st1594⟩ := putF X1575 hx hZ hown (host := "") (Or.inl (own_hw hw 13 rfl)) Via.refl e1575 f1585 f1579 (Or.inr ⟨(own_hw hw 14 rfl), rfl, hnm⟩) (own_hw hw 3 rfl) (ty := (.array .int)) (by decide) rfl rfl (g := (mkF m 17 #[sA a1] [(.ref ad1575), (.ref a1)])) rfl rfl (D1 hby 9 rfl)
 have N1594 := own_frs (sl := Jvm.RoadKit.slotOf Z DTn "order" "[I") N1559 g0
 have Z1594 : n0 ≤ h1594.size := by rw [W1594.size]; exact Z1575
 refine OwnWp.step st1594 ?_
 have f1595 := Exa.wr W1594 f1579
 have f1596 := Fld.other W1594 f1580 (Or.inr (slot_ne (C := DTn) (Or.inl (own_hw hw 12 rfl)) (Or.inr (own_hw hw 14 rfl)) (by decide) (t := (.array .int)) (t' := (.array .int)) (by decide) (by decide)))
 have f1597 := Fld.other W1594 f1581 (Or.inr (slot_ne (C := DTn) (Or.inl (own_hw hw 56 rfl)) (Or.inr (own_hw hw 14 rfl)) (by decide) (t := .int) (t' := (.array .int)) (by decide) (by decide)))
 have f1598 := Fld.other W1594 f1582 (Or.inr (slot_ne (C := DTn) (Or.inl (own_hw hw 61 rfl)) (Or.inr (own_hw hw 14 rfl)) (by decide) (t := .int) (t' := (.array .int)) (by decide) (by decide)))
 have f1599 := Fld.other W1594 f1583 (Or.inr (slot_ne (C := DTn) (Or.inl (own_hw hw 75 rfl)) (Or.inr (own_hw hw 14 rfl)) (by decide) (t := .int) (t' := (.array .int)) (by decide) (by decide)))
 have f1600 := Fld.other W1594 f1584 (Or.inr (slot_ne (C := DTn) (Or.inl (own_hw hw 54 rfl)) (Or.inr (own_hw hw 14 rfl)) (by decide) (t := (.array .int)) (t' := (.array .int)) (by decide) (by decide)))
 have f1601 := Fld.same W1594 f1585
 have f1602 := Fld.other W1594 f1586 (Or.inr (slot_ne (C := DTn) (Or.inr (own_hw hw 16 rfl)) (Or.inr (own_hw hw 14 rfl)) (by decide) (t := (.array .int)) (t' := (.array .int)) (by decide) (by decide)))
 have f1603 := Fld.other W1594 f1587 (Or.inr (slot_ne (C := DTn) (Or.inr (own_hw hw 18 rfl)) (Or.inr (own_hw hw 14 rfl)) (by decide) (t := (.array .int)) (t' := (.array .int)) (by decide) (by decide)))
 have f1604 := Fld.other W1594 f1588 (Or.inr (slot_ne (C := DTn) (Or.inl (own_hw hw 67 rfl)) (Or.inr (own_hw hw 14 rfl)) (by decide) (t := .int) (t' := (.array .int)) (by decide) (by decide)))
 have f1605 := Fld.other W1594 f1589 (Or.inr (slot_ne (C := DTn) (Or.inl (own_hw hw 52 rfl)) (Or.inr (own_hw hw 14 rfl)) (by decide) (t := .int) (t' := (.array .int)) (by decide) (by decide)))
 have f1606 := Fld.other W1594 f1590 (Or.inr (slot_ne (C := DTn) (Or.inl (own_hw hw 20 rfl)) (Or.inr (own_hw hw 14 rfl)) (by decide) (t := (.array .int)) (t' := (.array .int)) (by decide) (by decide)))
 have f1607 := Fld.other W1594 f1591 (Or.inr (slot_ne (C := DTn) (Or.inl (own_hw hw 22 rfl)) (Or.inr (own_hw hw 14 rfl)) (by decide) (t := (.array .int)) (t' := (.array .int)) (by decide) (by decide)))
 have f1608 := OwnA.other f1592 W1594 ne1542_1543.symm
 have f1609 := OwnA.other F1593 W1594 ne1575_1576.symm
 have K1610 := Keep.wr K1578 W1594 (Or.inl (List.mem_of_getElem? (i := 0) rfl))
 refine own_s T1594 (mkF m 23 #[sA a1] [(.int (64 : Int32)), (.ref a1)]) (fun t k => ?_) ?_
 ·refine XS.aloadN X1594.here hx rfl (D1 hby 10 rfl) rfl rfl ?_
  exact XT.bipushV X1594.here hx rfl (64 : Int32) (D1 hby 11 rfl) rfl k
 obtain ⟨T1611, h1611, cA1611, X1611, e1611, E1611, Ar1611, st1611⟩ := newP X1594 hx hZ (aty := .int) (own_hw hw 1 rfl) e1594 (g := (mkF m 23 #[sA a1] [(.int (64 : Int32)), (.ref a1)])) rfl (D1 hby 12 rfl) rfl (by decide) (cap := 64) (by decide) (by decide) (by decide) (by decide)
 obtain ⟨ad1611, ga1611⟩ : ∃ z, z = h1594.size := ⟨_, rfl⟩
 rw [← ga1611] at Ar1611 st1611
 refine OwnWp.step st1611 ?_
 have ne1611_1612 : a1 ≠ ad1611 := Nat.ne_of_lt (by rw [ga1611]; exact f1607.lt)
 have ne1611_1613 : ad1542 ≠ ad1611 := Nat.ne_of_lt (by rw [ga1611]; exact f1608.lt)
 have ne1611_1614 : ad1575 ≠ ad1611 := Nat.ne_of_lt (by rw [ga1611]; exact f1609.lt)
 have Z1611 : n0 ≤ h1611.size := Nat.le_trans Z1594 E1611.1
 have b1611 : n0 ≤ ad1611 := Nat.le_trans Z1594 (Nat.le_of_eq ga1611.symm)
 have bk1611 : h0.size ≤ ad1611 := by rw [ga1611]; exact K1610.1
 have K1615 := Keep.ext K1610 E1611
 have f1616 := Exa.ext E1611 f1595
 have f1617 := Fld.ext E1611 f1596
 have f1618 := Fld.ext E1611 f1597
 have f1619 := Fld.ext E1611 f1598
 have f1620 := Fld.ext E1611 f1599
 have f1621 := Fld.ext E1611 f1600
 have f1622 := Fld.ext E1611 f1601
 have f1623 := Fld.ext E1611 f1602
 have f1624 := Fld.ext E1611 f1603
 have f1625 := Fld.ext E1611 f1604
 have f1626 := Fld.ext E1611 f1605
 have f1627 := Fld.ext E1611 f1606
 have f1628 := Fld.ext E1611 f1607
 have f1629 := OwnA.ext f1608 E1611
 have f1630 := OwnA.ext f1609 E1611
 have F1631 : OwnA Z h1611 ad1611 .int (64 : Int32) (fun _ => (.int (0 : Int32))) := OwnA.new Ar1611 (by decide)
 obtain ⟨T1632, h1632, X1632, e1632, W1632, st1632⟩ := putF X1611 hx hZ hown (host := "") (Or.inl (own_hw hw 15 rfl)) Via.refl e1611 f1623 f1616 (Or.inr ⟨(own_hw hw 16 rfl), rfl, hnm⟩) (own_hw hw 3 rfl) (ty := (.array .int)) (by decide) rfl rfl (g := (mkF m 25 #[sA a1] [(.ref ad1611), (.ref a1)])) rfl rfl (D1 hby 13 rfl)
 have N1632 := own_frs (sl := Jvm.RoadKit.slotOf Z DTn "laneCounts" "[I") N1594 g0
 have Z1632 : n0 ≤ h1632.size := by rw [W1632.size]; exact Z1611
 refine OwnWp.step st1632 ?_
 have f1633 := Exa.wr W1632 f1616
 have f1634 := Fld.other W1632 f1617 (Or.inr (slot_ne (C := DTn) (Or.inl (own_hw hw 12 rfl)) (Or.inr (own_hw hw 16 rfl)) (by decide) (t := (.array .int)) (t' := (.array .int)) (by decide) (by decide)))
 have f1635 := Fld.other W1632 f1618 (Or.inr (slot_ne (C := DTn) (Or.inl (own_hw hw 56 rfl)) (Or.inr (own_hw hw 16 rfl)) (by decide) (t := .int) (t' := (.array .int)) (by decide) (by decide)))
 have f1636 := Fld.other W1632 f1619 (Or.inr (slot_ne (C := DTn) (Or.inl (own_hw hw 61 rfl)) (Or.inr (own_hw hw 16 rfl)) (by decide) (t := .int) (t' := (.array .int)) (by decide) (by decide)))
 have f1637 := Fld.other W1632 f1620 (Or.inr (slot_ne (C := DTn) (Or.inl (own_hw hw 75 rfl)) (Or.inr (own_hw hw 16 rfl)) (by decide) (t := .int) (t' := (.array .int)) (by decide) (by decide)))
 have f1638 := Fld.other W1632 f1621 (Or.inr (slot_ne (C := DTn) (Or.inl (own_hw hw 54 rfl)) (Or.inr (own_hw hw 16 rfl)) (by decide) (t := (.array .int)) (t' := (.array .int)) (by decide) (by decide)))
 have f1639 := Fld.other W1632 f1622 (Or.inr (slot_ne (C := DTn) (Or.inr (own_hw hw 14 rfl)) (Or.inr (own_hw hw 16 rfl)) (by decide) (t := (.array .int)) (t' := (.array .int)) (by decide) (by decide)))
 have f1640 := Fld.same W1632 f1623
 have f1641 := Fld.other W1632 f1624 (Or.inr (slot_ne (C := DTn) (Or.inr (own_hw hw 18 rfl)) (Or.inr (own_hw hw 16 rfl)) (by decide) (t := (.array .int)) (t' := (.array .int)) (by decide) (by decide)))
 have f1642 := Fld.other W1632 f1625 (Or.inr (slot_ne (C := DTn) (Or.inl (own_hw hw 67 rfl)) (Or.inr (own_hw hw 16 rfl)) (by decide) (t := .int) (t' := (.array .int)) (by decide) (by decide)))
 have f1643 := Fld.other W1632 f1626 (Or.inr (slot_ne (C := DTn) (Or.inl (own_hw hw 52 rfl)) (Or.inr (own_hw hw 16 rfl)) (by decide) (t := .int) (t' := (.array .int)) (by decide) (by decide)))
 have f1644 := Fld.other W1632 f1627 (Or.inr (slot_ne (C := DTn) (Or.inl (own_hw hw 20 rfl)) (Or.inr (own_hw hw 16 rfl)) (by decide) (t := (.array .int)) (t' := (.array .int)) (by decide) (by decide)))
 have f1645 := Fld.other W1632 f1628 (Or.inr (slot_ne (C := DTn) (Or.inl (own_hw hw 22 rfl)) (Or.inr (own_hw hw 16 rfl)) (by decide) (t := (.array .int)) (t' := (.array .int)) (by decide) (by decide)))
 have f1646 := OwnA.other f1629 W1632 ne1542_1543.symm
 have f1647 := OwnA.other f1630 W1632 ne1575_1576.symm
 have f1648 := OwnA.other F1631 W1632 ne1611_1612.symm
 have K1649 := Keep.wr K1615 W1632 (Or.inl (List.mem_of_getElem? (i := 0) rfl))
 refine own_s T1632 (mkF m 31 #[sA a1] [(.int (17 : Int32)), (.ref a1)]) (fun t k => ?_) ?_
 ·refine XS.aloadN X1632.here hx rfl (D1 hby 14 rfl) rfl rfl ?_
  exact XT.bipushV X1632.here hx rfl (17 : Int32) (D1 hby 15 rfl) rfl k
 obtain ⟨T1650, h1650, cA1650, X1650, e1650, E1650, Ar1650, st1650⟩ := newP X1632 hx hZ (aty := .int) (own_hw hw 1 rfl) e1632 (g := (mkF m 31 #[sA a1] [(.int (17 : Int32)), (.ref a1)])) rfl (D1 hby 16 rfl) rfl (by decide) (cap := 17) (by decide) (by decide) (by decide) (by decide)
 obtain ⟨ad1650, ga1650⟩ : ∃ z, z = h1632.size := ⟨_, rfl⟩
 rw [← ga1650] at Ar1650 st1650
 refine OwnWp.step st1650 ?_
 have ne1650_1651 : a1 ≠ ad1650 := Nat.ne_of_lt (by rw [ga1650]; exact f1645.lt)
 have ne1650_1652 : ad1542 ≠ ad1650 := Nat.ne_of_lt (by rw [ga1650]; exact f1646.lt)
 have ne1650_1653 : ad1575 ≠ ad1650 := Nat.ne_of_lt (by rw [ga1650]; exact f1647.lt)
 have ne1650_1654 : ad1611 ≠ ad1650 := Nat.ne_of_lt (by rw [ga1650]; exact f1648.lt)
 have Z1650 : n0 ≤ h1650.size := Nat.le_trans Z1632 E1650.1
 have b1650 : n0 ≤ ad1650 := Nat.le_trans Z1632 (Nat.le_of_eq ga1650.symm)
 have bk1650 : h0.size ≤ ad1650 := by rw [ga1650]; exact K1649.1
 have K1655 := Keep.ext K1649 E1650
 have f1656 := Exa.ext E1650 f1633
 have f1657 := Fld.ext E1650 f1634
 have f1658 := Fld.ext E1650 f1635
 have f1659 := Fld.ext E1650 f1636
 have f1660 := Fld.ext E1650 f1637
 have f1661 := Fld.ext E1650 f1638
 have f1662 := Fld.ext E1650 f1639
 have f1663 := Fld.ext E1650 f1640
 have f1664 := Fld.ext E1650 f1641
 have f1665 := Fld.ext E1650 f1642
 have f1666 := Fld.ext E1650 f1643
 have f1667 := Fld.ext E1650 f1644
 have f1668 := Fld.ext E1650 f1645
 have f1669 := OwnA.ext f1646 E1650
 have f1670 := OwnA.ext f1647 E1650
 have f1671 := OwnA.ext f1648 E1650
 have F1672 : OwnA Z h1650 ad1650 .int (17 : Int32) (fun _ => (.int (0 : Int32))) := OwnA.new Ar1650 (by decide)
 obtain ⟨T1673, h1673, X1673, e1673, W1673, st1673⟩ := putF X1650 hx hZ hown (host := "") (Or.inl (own_hw hw 17 rfl)) Via.refl e1650 f1664 f1656 (Or.inr ⟨(own_hw hw 18 rfl), rfl, hnm⟩) (own_hw hw 3 rfl) (ty := (.array .int)) (by decide) rfl rfl (g := (mkF m 33 #[sA a1] [(.ref ad1650), (.ref a1)])) rfl rfl (D1 hby 17 rfl)
 have N1673 := own_frs (sl := Jvm.RoadKit.slotOf Z DTn "places" "[I") N1632 g0
 have Z1673 : n0 ≤ h1673.size := by rw [W1673.size]; exact Z1650
 refine OwnWp.step st1673 ?_
 have f1674 := Exa.wr W1673 f1656
 have f1675 := Fld.other W1673 f1657 (Or.inr (slot_ne (C := DTn) (Or.inl (own_hw hw 12 rfl)) (Or.inr (own_hw hw 18 rfl)) (by decide) (t := (.array .int)) (t' := (.array .int)) (by decide) (by decide)))
 have f1676 := Fld.other W1673 f1658 (Or.inr (slot_ne (C := DTn) (Or.inl (own_hw hw 56 rfl)) (Or.inr (own_hw hw 18 rfl)) (by decide) (t := .int) (t' := (.array .int)) (by decide) (by decide)))
 have f1677 := Fld.other W1673 f1659 (Or.inr (slot_ne (C := DTn) (Or.inl (own_hw hw 61 rfl)) (Or.inr (own_hw hw 18 rfl)) (by decide) (t := .int) (t' := (.array .int)) (by decide) (by decide)))
 have f1678 := Fld.other W1673 f1660 (Or.inr (slot_ne (C := DTn) (Or.inl (own_hw hw 75 rfl)) (Or.inr (own_hw hw 18 rfl)) (by decide) (t := .int) (t' := (.array .int)) (by decide) (by decide)))
 have f1679 := Fld.other W1673 f1661 (Or.inr (slot_ne (C := DTn) (Or.inl (own_hw hw 54 rfl)) (Or.inr (own_hw hw 18 rfl)) (by decide) (t := (.array .int)) (t' := (.array .int)) (by decide) (by decide)))
 have f1680 := Fld.other W1673 f1662 (Or.inr (slot_ne (C := DTn) (Or.inr (own_hw hw 14 rfl)) (Or.inr (own_hw hw 18 rfl)) (by decide) (t := (.array .int)) (t' := (.array .int)) (by decide) (by decide)))
 have f1681 := Fld.other W1673 f1663 (Or.inr (slot_ne (C := DTn) (Or.inr (own_hw hw 16 rfl)) (Or.inr (own_hw hw 18 rfl)) (by decide) (t := (.array .int)) (t' := (.array .int)) (by decide) (by decide)))
 have f1682 := Fld.same W1673 f1664
 have f1683 := Fld.other W1673 f1665 (Or.inr (slot_ne (C := DTn) (Or.inl (own_hw hw 67 rfl)) (Or.inr (own_hw hw 18 rfl)) (by decide) (t := .int) (t' := (.array .int)) (by decide) (by decide)))
 have f1684 := Fld.other W1673 f1666 (Or.inr (slot_ne (C := DTn) (Or.inl (own_hw hw 52 rfl)) (Or.inr (own_hw hw 18 rfl)) (by decide) (t := .int) (t' := (.array .int)) (by decide) (by decide)))
 have f1685 := Fld.other W1673 f1667 (Or.inr (slot_ne (C := DTn) (Or.inl (own_hw hw 20 rfl)) (Or.inr (own_hw hw 18 rfl)) (by decide) (t := (.array .int)) (t' := (.array .int)) (by decide) (by decide)))
 have f1686 := Fld.other W1673 f1668 (Or.inr (slot_ne (C := DTn) (Or.inl (own_hw hw 22 rfl)) (Or.inr (own_hw hw 18 rfl)) (by decide) (t := (.array .int)) (t' := (.array .int)) (by decide) (by decide)))
 have f1687 := OwnA.other f1669 W1673 ne1542_1543.symm
 have f1688 := OwnA.other f1670 W1673 ne1575_1576.symm
 have f1689 := OwnA.other f1671 W1673 ne1611_1612.symm
 have f1690 := OwnA.other F1672 W1673 ne1650_1651.symm
 have K1691 := Keep.wr K1655 W1673 (Or.inl (List.mem_of_getElem? (i := 0) rfl))
 refine own_s T1673 (mkF m 38 #[sA a1] [(.int (0 : Int32)), (.ref a1)]) (fun t k => ?_) ?_
 ·refine XS.aloadN X1673.here hx rfl (D1 hby 18 rfl) rfl rfl ?_
  exact XT.iconstV X1673.here hx rfl (0 : Int32) (D1 hby 19 rfl) rfl k
 obtain ⟨T1692, h1692, cA1692, X1692, e1692, E1692, Ar1692, st1692⟩ := newP X1673 hx hZ (aty := .int) (own_hw hw 1 rfl) e1673 (g := (mkF m 38 #[sA a1] [(.int (0 : Int32)), (.ref a1)])) rfl (D1 hby 20 rfl) rfl (by decide) (cap := 0) (by decide) (by decide) (by decide) (by decide)
 obtain ⟨ad1692, ga1692⟩ : ∃ z, z = h1673.size := ⟨_, rfl⟩
 rw [← ga1692] at Ar1692 st1692
 refine OwnWp.step st1692 ?_
 have ne1692_1693 : a1 ≠ ad1692 := Nat.ne_of_lt (by rw [ga1692]; exact f1686.lt)
 have ne1692_1694 : ad1542 ≠ ad1692 := Nat.ne_of_lt (by rw [ga1692]; exact f1687.lt)
 have ne1692_1695 : ad1575 ≠ ad1692 := Nat.ne_of_lt (by rw [ga1692]; exact f1688.lt)
 have ne1692_1696 : ad1611 ≠ ad1692 := Nat.ne_of_lt (by rw [ga1692]; exact f1689.lt)
 have ne1692_1697 : ad1650 ≠ ad1692 := Nat.ne_of_lt (by rw [ga1692]; exact f1690.lt)
 have Z1692 : n0 ≤ h1692.size := Nat.le_trans Z1673 E1692.1
 have b1692 : n0 ≤ ad1692 := Nat.le_trans Z1673 (Nat.le_of_eq ga1692.symm)
 have bk1692 : h0.size ≤ ad1692 := by rw [ga1692]; exact K1691.1
 have K1698 := Keep.ext K1691 E1692
 have f1699 := Exa.ext E1692 f1674
 have f1700 := Fld.ext E1692 f1675
 have f1701 := Fld.ext E1692 f1676
 have f1702 := Fld.ext E1692 f1677
 have f1703 := Fld.ext E1692 f1678
 have f1704 := Fld.ext E1692 f1679
 have f1705 := Fld.ext E1692 f1680
 have f1706 := Fld.ext E1692 f1681
 have f1707 := Fld.ext E1692 f1682
 have f1708 := Fld.ext E1692 f1683
 have f1709 := Fld.ext E1692 f1684
 have f1710 := Fld.ext E1692 f1685
 have f1711 := Fld.ext E1692 f1686
 have f1712 := OwnA.ext f1687 E1692
 have f1713 := OwnA.ext f1688 E1692
 have f1714 := OwnA.ext f1689 E1692
 have f1715 := OwnA.ext f1690 E1692
 have F1716 : OwnA Z h1692 ad1692 .int (0 : Int32) (fun _ => (.int (0 : Int32))) := OwnA.new Ar1692 (by decide)
 obtain ⟨T1717, h1717, X1717, e1717, W1717, st1717⟩ := putF X1692 hx hZ hown (host := "") (Or.inl (own_hw hw 19 rfl)) Via.refl e1692 f1710 f1699 (Or.inl (own_hw hw 20 rfl)) (own_hw hw 3 rfl) (ty := (.array .int)) (by decide) rfl rfl (g := (mkF m 40 #[sA a1] [(.ref ad1692), (.ref a1)])) rfl rfl (D1 hby 21 rfl)
 have N1717 := own_frs (sl := Jvm.RoadKit.slotOf Z DTn "follows" "[I") N1673 g0
 have Z1717 : n0 ≤ h1717.size := by rw [W1717.size]; exact Z1692
 refine OwnWp.step st1717 ?_
 have f1718 := Exa.wr W1717 f1699
 have f1719 := Fld.other W1717 f1700 (Or.inr (slot_ne (C := DTn) (Or.inl (own_hw hw 12 rfl)) (Or.inl (own_hw hw 20 rfl)) (by decide) (t := (.array .int)) (t' := (.array .int)) (by decide) (by decide)))
 have f1720 := Fld.other W1717 f1701 (Or.inr (slot_ne (C := DTn) (Or.inl (own_hw hw 56 rfl)) (Or.inl (own_hw hw 20 rfl)) (by decide) (t := .int) (t' := (.array .int)) (by decide) (by decide)))
 have f1721 := Fld.other W1717 f1702 (Or.inr (slot_ne (C := DTn) (Or.inl (own_hw hw 61 rfl)) (Or.inl (own_hw hw 20 rfl)) (by decide) (t := .int) (t' := (.array .int)) (by decide) (by decide)))
 have f1722 := Fld.other W1717 f1703 (Or.inr (slot_ne (C := DTn) (Or.inl (own_hw hw 75 rfl)) (Or.inl (own_hw hw 20 rfl)) (by decide) (t := .int) (t' := (.array .int)) (by decide) (by decide)))
 have f1723 := Fld.other W1717 f1704 (Or.inr (slot_ne (C := DTn) (Or.inl (own_hw hw 54 rfl)) (Or.inl (own_hw hw 20 rfl)) (by decide) (t := (.array .int)) (t' := (.array .int)) (by decide) (by decide)))
 have f1724 := Fld.other W1717 f1705 (Or.inr (slot_ne (C := DTn) (Or.inr (own_hw hw 14 rfl)) (Or.inl (own_hw hw 20 rfl)) (by decide) (t := (.array .int)) (t' := (.array .int)) (by decide) (by decide)))
 have f1725 := Fld.other W1717 f1706 (Or.inr (slot_ne (C := DTn) (Or.inr (own_hw hw 16 rfl)) (Or.inl (own_hw hw 20 rfl)) (by decide) (t := (.array .int)) (t' := (.array .int)) (by decide) (by decide)))
 have f1726 := Fld.other W1717 f1707 (Or.inr (slot_ne (C := DTn) (Or.inr (own_hw hw 18 rfl)) (Or.inl (own_hw hw 20 rfl)) (by decide) (t := (.array .int)) (t' := (.array .int)) (by decide) (by decide)))
 have f1727 := Fld.other W1717 f1708 (Or.inr (slot_ne (C := DTn) (Or.inl (own_hw hw 67 rfl)) (Or.inl (own_hw hw 20 rfl)) (by decide) (t := .int) (t' := (.array .int)) (by decide) (by decide)))
 have f1728 := Fld.other W1717 f1709 (Or.inr (slot_ne (C := DTn) (Or.inl (own_hw hw 52 rfl)) (Or.inl (own_hw hw 20 rfl)) (by decide) (t := .int) (t' := (.array .int)) (by decide) (by decide)))
 have f1729 := Fld.same W1717 f1710
 have f1730 := Fld.other W1717 f1711 (Or.inr (slot_ne (C := DTn) (Or.inl (own_hw hw 22 rfl)) (Or.inl (own_hw hw 20 rfl)) (by decide) (t := (.array .int)) (t' := (.array .int)) (by decide) (by decide)))
 have f1731 := OwnA.other f1712 W1717 ne1542_1543.symm
 have f1732 := OwnA.other f1713 W1717 ne1575_1576.symm
 have f1733 := OwnA.other f1714 W1717 ne1611_1612.symm
 have f1734 := OwnA.other f1715 W1717 ne1650_1651.symm
 have f1735 := OwnA.other F1716 W1717 ne1692_1693.symm
 have K1736 := Keep.wr K1698 W1717 (Or.inl (List.mem_of_getElem? (i := 0) rfl))
 refine own_s T1717 (mkF m 45 #[sA a1] [(.int (0 : Int32)), (.ref a1)]) (fun t k => ?_) ?_
 ·refine XS.aloadN X1717.here hx rfl (D1 hby 22 rfl) rfl rfl ?_
  exact XT.iconstV X1717.here hx rfl (0 : Int32) (D1 hby 23 rfl) rfl k
 obtain ⟨T1737, h1737, cA1737, X1737, e1737, E1737, Ar1737, st1737⟩ := newP X1717 hx hZ (aty := .int) (own_hw hw 1 rfl) e1717 (g := (mkF m 45 #[sA a1] [(.int (0 : Int32)), (.ref a1)])) rfl (D1 hby 24 rfl) rfl (by decide) (cap := 0) (by decide) (by decide) (by decide) (by decide)
 obtain ⟨ad1737, ga1737⟩ : ∃ z, z = h1717.size := ⟨_, rfl⟩
 rw [← ga1737] at Ar1737 st1737
 refine OwnWp.step st1737 ?_
 have ne1737_1738 : a1 ≠ ad1737 := Nat.ne_of_lt (by rw [ga1737]; exact f1730.lt)
 have ne1737_1739 : ad1542 ≠ ad1737 := Nat.ne_of_lt (by rw [ga1737]; exact f1731.lt)
 have ne1737_1740 : ad1575 ≠ ad1737 := Nat.ne_of_lt (by rw [ga1737]; exact f1732.lt)
 have ne1737_1741 : ad1611 ≠ ad1737 := Nat.ne_of_lt (by rw [ga1737]; exact f1733.lt)
 have ne1737_1742 : ad1650 ≠ ad1737 := Nat.ne_of_lt (by rw [ga1737]; exact f1734.lt)
 have ne1737_1743 : ad1692 ≠ ad1737 := Nat.ne_of_lt (by rw [ga1737]; exact f1735.lt)
 have Z1737 : n0 ≤ h1737.size := Nat.le_trans Z1717 E1737.1
 have b1737 : n0 ≤ ad1737 := Nat.le_trans Z1717 (Nat.le_of_eq ga1737.symm)
 have bk1737 : h0.size ≤ ad1737 := by rw [ga1737]; exact K1736.1
 have K1744 := Keep.ext K1736 E1737
 have f1745 := Exa.ext E1737 f1718
 have f1746 := Fld.ext E1737 f1719
 have f1747 := Fld.ext E1737 f1720
 have f1748 := Fld.ext E1737 f1721
 have f1749 := Fld.ext E1737 f1722
 have f1750 := Fld.ext E1737 f1723
 have f1751 := Fld.ext E1737 f1724
 have f1752 := Fld.ext E1737 f1725
 have f1753 := Fld.ext E1737 f1726
 have f1754 := Fld.ext E1737 f1727
 have f1755 := Fld.ext E1737 f1728
 have f1756 := Fld.ext E1737 f1729
 have f1757 := Fld.ext E1737 f1730
 have f1758 := OwnA.ext f1731 E1737
 have f1759 := OwnA.ext f1732 E1737
 have f1760 := OwnA.ext f1733 E1737
 have f1761 := OwnA.ext f1734 E1737
 have f1762 := OwnA.ext f1735 E1737
 have F1763 : OwnA Z h1737 ad1737 .int (0 : Int32) (fun _ => (.int (0 : Int32))) := OwnA.new Ar1737 (by decide)
 obtain ⟨T1764, h1764, X1764, e1764, W1764, st1764⟩ := putF X1737 hx hZ hown (host := "") (Or.inl (own_hw hw 21 rfl)) Via.refl e1737 f1757 f1745 (Or.inl (own_hw hw 22 rfl)) (own_hw hw 3 rfl) (ty := (.array .int)) (by decide) rfl rfl (g := (mkF m 47 #[sA a1] [(.ref ad1737), (.ref a1)])) rfl rfl (D1 hby 25 rfl)
 have N1764 := own_frs (sl := Jvm.RoadKit.slotOf Z DTn "lasts" "[I") N1717 g0
 have Z1764 : n0 ≤ h1764.size := by rw [W1764.size]; exact Z1737
 refine OwnWp.step st1764 ?_
 have f1765 := Exa.wr W1764 f1745
 have f1766 := Fld.other W1764 f1746 (Or.inr (slot_ne (C := DTn) (Or.inl (own_hw hw 12 rfl)) (Or.inl (own_hw hw 22 rfl)) (by decide) (t := (.array .int)) (t' := (.array .int)) (by decide) (by decide)))
 have f1767 := Fld.other W1764 f1747 (Or.inr (slot_ne (C := DTn) (Or.inl (own_hw hw 56 rfl)) (Or.inl (own_hw hw 22 rfl)) (by decide) (t := .int) (t' := (.array .int)) (by decide) (by decide)))
 have f1768 := Fld.other W1764 f1748 (Or.inr (slot_ne (C := DTn) (Or.inl (own_hw hw 61 rfl)) (Or.inl (own_hw hw 22 rfl)) (by decide) (t := .int) (t' := (.array .int)) (by decide) (by decide)))
 have f1769 := Fld.other W1764 f1749 (Or.inr (slot_ne (C := DTn) (Or.inl (own_hw hw 75 rfl)) (Or.inl (own_hw hw 22 rfl)) (by decide) (t := .int) (t' := (.array .int)) (by decide) (by decide)))
 have f1770 := Fld.other W1764 f1750 (Or.inr (slot_ne (C := DTn) (Or.inl (own_hw hw 54 rfl)) (Or.inl (own_hw hw 22 rfl)) (by decide) (t := (.array .int)) (t' := (.array .int)) (by decide) (by decide)))
 have f1771 := Fld.other W1764 f1751 (Or.inr (slot_ne (C := DTn) (Or.inr (own_hw hw 14 rfl)) (Or.inl (own_hw hw 22 rfl)) (by decide) (t := (.array .int)) (t' := (.array .int)) (by decide) (by decide)))
 have f1772 := Fld.other W1764 f1752 (Or.inr (slot_ne (C := DTn) (Or.inr (own_hw hw 16 rfl)) (Or.inl (own_hw hw 22 rfl)) (by decide) (t := (.array .int)) (t' := (.array .int)) (by decide) (by decide)))
 have f1773 := Fld.other W1764 f1753 (Or.inr (slot_ne (C := DTn) (Or.inr (own_hw hw 18 rfl)) (Or.inl (own_hw hw 22 rfl)) (by decide) (t := (.array .int)) (t' := (.array .int)) (by decide) (by decide)))
 have f1774 := Fld.other W1764 f1754 (Or.inr (slot_ne (C := DTn) (Or.inl (own_hw hw 67 rfl)) (Or.inl (own_hw hw 22 rfl)) (by decide) (t := .int) (t' := (.array .int)) (by decide) (by decide)))
 have f1775 := Fld.other W1764 f1755 (Or.inr (slot_ne (C := DTn) (Or.inl (own_hw hw 52 rfl)) (Or.inl (own_hw hw 22 rfl)) (by decide) (t := .int) (t' := (.array .int)) (by decide) (by decide)))
 have f1776 := Fld.other W1764 f1756 (Or.inr (slot_ne (C := DTn) (Or.inl (own_hw hw 20 rfl)) (Or.inl (own_hw hw 22 rfl)) (by decide) (t := (.array .int)) (t' := (.array .int)) (by decide) (by decide)))
 have f1777 := Fld.same W1764 f1757
 have f1778 := OwnA.other f1758 W1764 ne1542_1543.symm
 have f1779 := OwnA.other f1759 W1764 ne1575_1576.symm
 have f1780 := OwnA.other f1760 W1764 ne1611_1612.symm
 have f1781 := OwnA.other f1761 W1764 ne1650_1651.symm
 have f1782 := OwnA.other f1762 W1764 ne1692_1693.symm
 have f1783 := OwnA.other F1763 W1764 ne1737_1738.symm
 have K1784 := Keep.wr K1744 W1764 (Or.inl (List.mem_of_getElem? (i := 0) rfl))
 show OwnWp p e below s _ _ _ (T1764.setTop (mkF m 50 #[sA a1] []))
 refine OwnWp.retV X1764 hx hlk Bd.returns (D1 hby 26 rfl) (by decide) (by decide) ?_
 rw [e1764]
 exact ⟨rfl, N1764, K1784, ad1542, ad1575, ad1611, ad1650, ad1692, ad1737, bk1542, bk1575, bk1611, bk1650, bk1692, bk1737, ne1611_1614.symm, ne1650_1654, ne1650_1653, ne1611_1613, ne1692_1696.symm, ne1692_1695.symm, ne1692_1697.symm, f1766, f1767, f1768, f1769, f1770, f1771, f1772, f1773, f1774, f1775, f1776, f1777, f1780, f1779, f1781, f1778, f1782⟩
def dl13 : List (Nat × Instr × Nat) := [(0, .aload_n 0, 1), (1, .getfield 9, 3), (4, .lload_n 1, 1), (5, .aload_n 0, 1), (6, .getfield 70, 3), (9, .aload_n 0, 1), (10, .getfield 61, 3), (13, .isub, 1), (14, .lushr, 1), (15, .l2i, 1), (16, .iaload, 1), (17, .istore_n 3, 1), (18, .iload_n 3, 1), (19, .sipush 192, 3), (22, .iand, 1), (23, .ifCond .ne 35, 3), (26, .iload_n 3, 1), (27, .ifCond .ne 5, 3), (30, .iconst 0, 1), (31, .ireturn, 1), (32, .iload_n 3, 1), (33, .bipush 15, 2), (35, .iand, 1), (36, .istore 4, 2), (38, .aload_n 0, 1), (39, .getfield 9, 3), (42, .iload_n 3, 1), (43, .bipush 8, 2), (45, .iushr, 1), (46, .lload_n 1, 1), (47, .l2i, 1), (48, .iconst 1, 1), (49, .iload 4, 2), (51, .ishl, 1), (52, .iconst 1, 1), (53, .isub, 1), (54, .iand, 1), (55, .iadd, 1), (56, .iaload, 1), (57, .istore_n 3, 1), (58, .iload_n 3, 1), (59, .bipush 8, 2), (61, .iushr, 1), (62, .sipush 255, 3), (65, .iand, 1), (66, .istore 4, 2), (68, .iload 4, 2), (70, .iconst 4, 1), (71, .ishl, 1), (72, .aload_n 0, 1), (73, .getfield 58, 3), (76, .iload 4, 2), (78, .iaload, 1), (79, .ior, 1), (80, .ireturn, 1)]
theorem da13 : ∀ x ∈ dl13, decode prog_6_method_9_code x.1 = .ok x.2 := by decide +kernel
theorem D13 {c : Code} (h : c.code = prog_6_method_9_code) (i : Nat) {pc : Nat} {ins : Instr} {n : Nat} (e : dl13[i]? = some (pc, ins, n)) : decode c.code pc = .ok (ins, n) := by rw [h]; exact da13 (pc, ins, n) (List.mem_of_getElem? e)
theorem pn_13 : plainFor Mn16 = true := plainFor_of_name (by first | (simp [plainName, overriddenIn]; done) | decide +kernel)
theorem pd_13 : parseMethodDescriptor "(J)I" = some ⟨[.long], some .int⟩ := by decide +kernel
theorem ef_13 (m : MethodId) (x0 : Addr) (x1 : Int64) : entryFrame m #[(.ref x0), (.long x1)] 5 = mkF m 0 #[.val (.ref x0), .val (.long x1), .second, .unset, .unset] [] := by first | (simp [entryFrame, mkF, argsToLocals, Value.category, maxLocals]; done) | rfl
def Q13 (Z : State) (a1 : Addr) (p1 : Int64) (en : Addr) (cl9 : Addr) (fe : Int → Int32) (Lf : Int → Int32) (rm : Int32) (wd : Int32) (fbI : Int32) (h0 : Heap) (n0 : Nat) (v : Option Value) (h : Heap) (L : List Loc) : Prop := v = some (.int (own_symbol fe Lf wd fbI p1)) ∧ Fr n0 L ∧ h = h0
set_option maxRecDepth 65536 in
set_option maxHeartbeats 40000000 in
theorem rm13 (l : Launch) (Z : State) (a0 : Array Value) (hw : ∀ d ∈ tables_1, d.before a0 Z = true) (ws : List Jvm.Cond) (a1 : Addr) (p1 : Int64) (en : Addr) (cl9 : Addr) (fe : Int → Int32) (Lf : Int → Int32) (rm : Int32) (wd : Int32) (fbI : Int32) (h0 : Heap) (n0 : Nat) (Z0 : n0 ≤ h0.size) (F0 : Fld Z h0 a1 DTn "entries" "[I" (.ref en)) (F1 : Fld Z h0 a1 DTn "width" "I" (.int wd)) (F2 : Fld Z h0 a1 DTn "firstBits" "I" (.int fbI)) (F3 : Fld Z h0 a1 DTn "codeLengths" "[I" (.ref cl9)) (A0 : OwnA Z h0 en .int rm (fun i => .int (fe i))) (A1 : OwnA Z h0 cl9 .int (256 : Int32) (fun i => .int (Lf i))) (hok : own_symok fe rm wd fbI p1) :
  MetFree l Mn16 (head1 (Jvm.Cond.code Mn16 prog_6_method_9_code 5 (some .int) :: ws) Rm1) (fun a U => a = #[(.ref a1), (.long p1)] ∧ Z.Warmed39 U.vm ∧ U.heap = h0) (fun _ _ _ _ _ => True) (fun _ U oc U' => ∃ v L, oc = .returned v ∧ Q13 Z a1 p1 en cl9 fe Lf rm wd fbI h0 n0 v U'.heap L ∧ FrameEnd U oc U' L Rm1.cells Rm1.slots) := by
 refine MetFree.of_bodySF pn_13 hisR ?_
 intro p e s m args below meth c s₁ Bd hml0 hP hK
 obtain ⟨rfl, hZ, hh⟩ := hP
 have hx := Bd.exec
 have hby := Bd.bytes
 have hlk := BodyLoose.notSynchronized Bd
 have hml : c.maxLocals = 5 := hml0
 have hown : s.vm.findClass DTn = some m.cls := findClass_of_methodNamed Bd.named
 have hnm := (name_of_methodNamed Bd.named Bd.method).1
 have X0 : Stand p l e Rm1 s m #[(.ref a1), (.long p1)] below meth c s₁ [] 0 0 := Stand.of_body Bd
 have e0 : s₁.heap = h0 := by rw [← hh, Bd.state]; rfl
 have N0 := Fr.nil n0
 show OwnWp p e below s Rm1.cells Rm1.slots (Q13 Z a1 p1 en cl9 fe Lf rm wd fbI h0 n0) (s₁.setTop (entryFrame m #[(.ref a1), (.long p1)] 5))
 refine OwnWp.cast (ef_13 m a1 p1) ?_
 refine own_s s₁ (mkF m 1 #[sA a1, sJ p1, sS, sU, sU] [(.ref a1)]) (fun t k => ?_) ?_
 ·exact XS.aloadN X0.here hx rfl (D13 hby 0 rfl) rfl rfl k
 obtain ⟨T1785, X1785, e1785, st1785⟩ := getF X0 hx hZ hown (host := "") (Or.inl (own_hw hw 11 rfl)) Via.refl e0 F0 (g := (mkF m 1 #[sA a1, sJ p1, sS, sU, sU] [(.ref a1)])) rfl rfl (D13 hby 1 rfl)
 refine OwnWp.step st1785 ?_
 refine own_s T1785 (mkF m 6 #[sA a1, sJ p1, sS, sU, sU] [(.ref a1), (.long p1), (.ref en)]) (fun t k => ?_) ?_
 ·refine XT.lloadN X1785.here hx rfl (D13 hby 2 rfl) rfl ?_
  exact XS.aloadN X1785.here hx rfl (D13 hby 3 rfl) rfl rfl k
 obtain ⟨T1786, X1786, e1786, st1786⟩ := getF X1785 hx hZ hown (host := "") (Or.inl (own_hw hw 60 rfl)) Via.refl e1785 F1 (g := (mkF m 6 #[sA a1, sJ p1, sS, sU, sU] [(.ref a1), (.long p1), (.ref en)])) rfl rfl (D13 hby 4 rfl)
 refine OwnWp.step st1786 ?_
 refine own_s T1786 (mkF m 10 #[sA a1, sJ p1, sS, sU, sU] [(.ref a1), (.int wd), (.long p1), (.ref en)]) (fun t k => ?_) ?_
 ·exact XS.aloadN X1786.here hx rfl (D13 hby 5 rfl) rfl rfl k
 obtain ⟨T1787, X1787, e1787, st1787⟩ := getF X1786 hx hZ hown (host := "") (Or.inl (own_hw hw 55 rfl)) Via.refl e1786 F2 (g := (mkF m 10 #[sA a1, sJ p1, sS, sU, sU] [(.ref a1), (.int wd), (.long p1), (.ref en)])) rfl rfl (D13 hby 6 rfl)
 refine OwnWp.step st1787 ?_
 show OwnWp p e below s _ _ _ (T1787.setTop (mkF m 13 #[sA a1, sJ p1, sS, sU, sU] [(.int fbI), (.int wd), (.long p1), (.ref en)]))
 obtain ⟨w1, qw1⟩ : ∃ z : Int32, z = (fe (XT.ushrL p1 (wd - fbI)).toInt32.toInt) := ⟨_, rfl⟩
 refine own_s T1787 (mkF m 18 #[sA a1, sJ p1, sS, sI w1, sU] []) (fun t k => ?_) ?_
 ·refine XS.isub X1787.here hx rfl (D13 hby 7 rfl) rfl ?_
  refine XT.lushr X1787.here hx rfl (D13 hby 8 rfl) rfl ?_
  refine XT.l2i X1787.here hx rfl (D13 hby 9 rfl) rfl ?_
  refine OwnA.ldI X1787 hx hZ e1787 A0 hok.1.1 hok.1.2 rfl rfl (D13 hby 10 rfl) ?_
  refine XS.istoreN X1787.here hx rfl (D13 hby 11 rfl) rfl (l' := #[sA a1, sJ p1, sS, sI (fe (XT.ushrL p1 (wd - fbI)).toInt32.toInt), sU]) rfl ?_
  rw [qw1] at k
  exact k
 refine own_s T1787 (mkF m 23 #[sA a1, sJ p1, sS, sI w1, sU] [(.int (w1 &&& (192 : Int32)))]) (fun t k => ?_) ?_
 ·refine XS.iloadN X1787.here hx rfl (D13 hby 12 rfl) rfl ?_
  refine XT.sipushV X1787.here hx rfl (192 : Int32) (D13 hby 13 rfl) rfl ?_
  exact XS.iand X1787.here hx rfl (D13 hby 14 rfl) rfl k
 have hq1 : w1 = fe (own_symi wd fbI p1).toInt := by rw [qw1]; rfl
 by_cases c23_1788 : (w1 &&& (192 : Int32)) = (0 : Int32)
 ·refine own_s T1787 (mkF m 26 #[sA a1, sJ p1, sS, sI w1, sU] []) (fun t k => ?_) ?_
  ·exact XS.ifNo X1787.here hx rfl (D13 hby 15 rfl) rfl (XT.i0_ne_f c23_1788) k
  rw [hq1] at c23_1788
  refine own_s T1787 (mkF m 27 #[sA a1, sJ p1, sS, sI w1, sU] [(.int w1)]) (fun t k => ?_) ?_
  ·exact XS.iloadN X1787.here hx rfl (D13 hby 16 rfl) rfl k
  by_cases c27_1789 : w1 = (0 : Int32)
  ·refine own_s T1787 (mkF m 30 #[sA a1, sJ p1, sS, sI w1, sU] []) (fun t k => ?_) ?_
   ·exact XS.ifNo X1787.here hx rfl (D13 hby 17 rfl) rfl (XT.i0_ne_f c27_1789) k
   rw [hq1] at c27_1789
   refine own_s T1787 (mkF m 31 #[sA a1, sJ p1, sS, sI w1, sU] [(.int (0 : Int32))]) (fun t k => ?_) ?_
   ·exact XT.iconstV X1787.here hx rfl (0 : Int32) (D13 hby 18 rfl) rfl k
   refine OwnWp.retI X1787 hx hlk Bd.returns (D13 hby 19 rfl) (by decide) (by decide) ?_
   refine ⟨?_, N0, e1787⟩
   unfold own_symbol
   rw [if_pos c23_1788, if_pos c27_1789]
  ·refine own_s T1787 (mkF m 32 #[sA a1, sJ p1, sS, sI w1, sU] []) (fun t k => ?_) ?_
   ·exact XS.ifYes X1787.here hx rfl (pc0 := 27) (pc' := 32) rfl (D13 hby 17 rfl) rfl (XT.i0_ne_t c27_1789) (by decide) (by decide) k
   rw [hq1] at c27_1789
   obtain ⟨w2, qw2⟩ : ∃ z : Int32, z = (w1 &&& (15 : Int32)) := ⟨_, rfl⟩
   refine own_s T1787 (mkF m 38 #[sA a1, sJ p1, sS, sI w1, sI w2] []) (fun t k => ?_) ?_
   ·refine XS.iloadN X1787.here hx rfl (D13 hby 20 rfl) rfl ?_
    refine XT.bipushV X1787.here hx rfl (15 : Int32) (D13 hby 21 rfl) rfl ?_
    refine XS.iand X1787.here hx rfl (D13 hby 22 rfl) rfl ?_
    refine XS.istore X1787.here hx rfl (D13 hby 23 rfl) rfl (l' := #[sA a1, sJ p1, sS, sI w1, sI (w1 &&& (15 : Int32))]) rfl ?_
    rw [qw2] at k
    exact k
   have hq2 : ((XT.ushr w1 (8 : Int32)) + (p1.toInt32 &&& (((1 : Int32) <<< (w2 &&& 31)) - (1 : Int32)))) = own_symj (fe (own_symi wd fbI p1).toInt) p1 := by rw [qw2, hq1]; rfl
   refine own_s T1787 (mkF m 39 #[sA a1, sJ p1, sS, sI w1, sI w2] [(.ref a1)]) (fun t k => ?_) ?_
   ·exact XS.aloadN X1787.here hx rfl (D13 hby 24 rfl) rfl rfl k
   obtain ⟨T1790, X1790, e1790, st1790⟩ := getF X1787 hx hZ hown (host := "") (Or.inl (own_hw hw 11 rfl)) Via.refl e1787 F0 (g := (mkF m 39 #[sA a1, sJ p1, sS, sI w1, sI w2] [(.ref a1)])) rfl rfl (D13 hby 25 rfl)
   refine OwnWp.step st1790 ?_
   show OwnWp p e below s _ _ _ (T1790.setTop (mkF m 42 #[sA a1, sJ p1, sS, sI w1, sI w2] [(.ref en)]))
   obtain ⟨w3, qw3⟩ : ∃ z : Int32, z = (fe ((XT.ushr w1 (8 : Int32)) + (p1.toInt32 &&& (((1 : Int32) <<< (w2 &&& 31)) - (1 : Int32)))).toInt) := ⟨_, rfl⟩
   refine own_s T1790 (mkF m 58 #[sA a1, sJ p1, sS, sI w3, sI w2] []) (fun t k => ?_) ?_
   ·refine XS.iloadN X1790.here hx rfl (D13 hby 26 rfl) rfl ?_
    refine XT.bipushV X1790.here hx rfl (8 : Int32) (D13 hby 27 rfl) rfl ?_
    refine XT.iushr X1790.here hx rfl (D13 hby 28 rfl) rfl ?_
    refine XT.lloadN X1790.here hx rfl (D13 hby 29 rfl) rfl ?_
    refine XT.l2i X1790.here hx rfl (D13 hby 30 rfl) rfl ?_
    refine XT.iconstV X1790.here hx rfl (1 : Int32) (D13 hby 31 rfl) rfl ?_
    refine XS.iload X1790.here hx rfl (D13 hby 32 rfl) rfl ?_
    refine XT.ishl X1790.here hx rfl (D13 hby 33 rfl) rfl ?_
    refine XT.iconstV X1790.here hx rfl (1 : Int32) (D13 hby 34 rfl) rfl ?_
    refine XS.isub X1790.here hx rfl (D13 hby 35 rfl) rfl ?_
    refine XS.iand X1790.here hx rfl (D13 hby 36 rfl) rfl ?_
    refine XS.iadd X1790.here hx rfl (D13 hby 37 rfl) rfl ?_
    refine OwnA.ldI X1790 hx hZ e1790 A0 (by rw [hq2]; exact (hok.2 c23_1788 c27_1789).1) (by rw [hq2]; exact (hok.2 c23_1788 c27_1789).2) rfl rfl (D13 hby 38 rfl) ?_
    refine XS.istoreN X1790.here hx rfl (D13 hby 39 rfl) rfl (l' := #[sA a1, sJ p1, sS, sI (fe ((XT.ushr w1 (8 : Int32)) + (p1.toInt32 &&& (((1 : Int32) <<< (w2 &&& 31)) - (1 : Int32)))).toInt), sI w2]) rfl ?_
    show Steps p.tables e below (T1790.setTop (mkF m 58 #[sA a1, sJ p1, sS, sI (fe ((XT.ushr w1 (8 : Int32)) + (p1.toInt32 &&& (((1 : Int32) <<< (w2 &&& 31)) - (1 : Int32)))).toInt), sI w2] [])) _
    rw [qw3] at k
    exact k
   have hq3 : w3 = fe (own_symj (fe (own_symi wd fbI p1).toInt) p1).toInt := by rw [qw3, hq2]
   obtain ⟨w4, qw4⟩ : ∃ z : Int32, z = ((XT.ushr w3 (8 : Int32)) &&& (255 : Int32)) := ⟨_, rfl⟩
   refine own_s T1790 (mkF m 68 #[sA a1, sJ p1, sS, sI w3, sI w4] []) (fun t k => ?_) ?_
   ·refine XS.iloadN X1790.here hx rfl (D13 hby 40 rfl) rfl ?_
    refine XT.bipushV X1790.here hx rfl (8 : Int32) (D13 hby 41 rfl) rfl ?_
    refine XT.iushr X1790.here hx rfl (D13 hby 42 rfl) rfl ?_
    refine XT.sipushV X1790.here hx rfl (255 : Int32) (D13 hby 43 rfl) rfl ?_
    refine XS.iand X1790.here hx rfl (D13 hby 44 rfl) rfl ?_
    refine XS.istore X1790.here hx rfl (D13 hby 45 rfl) rfl (l' := #[sA a1, sJ p1, sS, sI w3, sI ((XT.ushr w3 (8 : Int32)) &&& (255 : Int32))]) rfl ?_
    rw [qw4] at k
    exact k
   refine own_s T1790 (mkF m 73 #[sA a1, sJ p1, sS, sI w3, sI w4] [(.ref a1), (.int (w4 <<< ((4 : Int32) &&& 31)))]) (fun t k => ?_) ?_
   ·refine XS.iload X1790.here hx rfl (D13 hby 46 rfl) rfl ?_
    refine XT.iconstV X1790.here hx rfl (4 : Int32) (D13 hby 47 rfl) rfl ?_
    refine XT.ishl X1790.here hx rfl (D13 hby 48 rfl) rfl ?_
    exact XS.aloadN X1790.here hx rfl (D13 hby 49 rfl) rfl rfl k
   obtain ⟨T1791, X1791, e1791, st1791⟩ := getF X1790 hx hZ hown (host := "") (Or.inl (own_hw hw 53 rfl)) Via.refl e1790 F3 (g := (mkF m 73 #[sA a1, sJ p1, sS, sI w3, sI w4] [(.ref a1), (.int (w4 <<< ((4 : Int32) &&& 31)))])) rfl rfl (D13 hby 50 rfl)
   refine OwnWp.step st1791 ?_
   refine own_s T1791 (mkF m 80 #[sA a1, sJ p1, sS, sI w3, sI w4] [(.int ((w4 <<< ((4 : Int32) &&& 31)) ||| (Lf w4.toInt)))]) (fun t k => ?_) ?_
   ·refine XS.iload X1791.here hx rfl (D13 hby 51 rfl) rfl ?_
    refine OwnA.ldI X1791 hx hZ e1791 A1 (by rw [qw4]; exact (own_m255 _).1) (by rw [qw4]; exact (own_m255 _).2) rfl rfl (D13 hby 52 rfl) ?_
    exact XT.ior X1791.here hx rfl (D13 hby 53 rfl) rfl k
   refine OwnWp.retI X1791 hx hlk Bd.returns (D13 hby 54 rfl) (by decide) (by decide) ?_
   refine ⟨?_, N0, e1791⟩
   unfold own_symbol
   rw [if_pos c23_1788, if_neg c27_1789, ← hq3]
   subst qw4
   rfl
 ·refine own_s T1787 (mkF m 58 #[sA a1, sJ p1, sS, sI w1, sU] []) (fun t k => ?_) ?_
  ·exact XS.ifYes X1787.here hx rfl (pc0 := 23) (pc' := 58) rfl (D13 hby 15 rfl) rfl (XT.i0_ne_t c23_1788) (by decide) (by decide) k
  rw [hq1] at c23_1788
  obtain ⟨w2, qw2⟩ : ∃ z : Int32, z = ((XT.ushr w1 (8 : Int32)) &&& (255 : Int32)) := ⟨_, rfl⟩
  refine own_s T1787 (mkF m 68 #[sA a1, sJ p1, sS, sI w1, sI w2] []) (fun t k => ?_) ?_
  ·refine XS.iloadN X1787.here hx rfl (D13 hby 40 rfl) rfl ?_
   refine XT.bipushV X1787.here hx rfl (8 : Int32) (D13 hby 41 rfl) rfl ?_
   refine XT.iushr X1787.here hx rfl (D13 hby 42 rfl) rfl ?_
   refine XT.sipushV X1787.here hx rfl (255 : Int32) (D13 hby 43 rfl) rfl ?_
   refine XS.iand X1787.here hx rfl (D13 hby 44 rfl) rfl ?_
   refine XS.istore X1787.here hx rfl (D13 hby 45 rfl) rfl (l' := #[sA a1, sJ p1, sS, sI w1, sI ((XT.ushr w1 (8 : Int32)) &&& (255 : Int32))]) rfl ?_
   rw [qw2] at k
   exact k
  refine own_s T1787 (mkF m 73 #[sA a1, sJ p1, sS, sI w1, sI w2] [(.ref a1), (.int (w2 <<< ((4 : Int32) &&& 31)))]) (fun t k => ?_) ?_
  ·refine XS.iload X1787.here hx rfl (D13 hby 46 rfl) rfl ?_
   refine XT.iconstV X1787.here hx rfl (4 : Int32) (D13 hby 47 rfl) rfl ?_
   refine XT.ishl X1787.here hx rfl (D13 hby 48 rfl) rfl ?_
   exact XS.aloadN X1787.here hx rfl (D13 hby 49 rfl) rfl rfl k
  obtain ⟨T1792, X1792, e1792, st1792⟩ := getF X1787 hx hZ hown (host := "") (Or.inl (own_hw hw 53 rfl)) Via.refl e1787 F3 (g := (mkF m 73 #[sA a1, sJ p1, sS, sI w1, sI w2] [(.ref a1), (.int (w2 <<< ((4 : Int32) &&& 31)))])) rfl rfl (D13 hby 50 rfl)
  refine OwnWp.step st1792 ?_
  refine own_s T1792 (mkF m 80 #[sA a1, sJ p1, sS, sI w1, sI w2] [(.int ((w2 <<< ((4 : Int32) &&& 31)) ||| (Lf w2.toInt)))]) (fun t k => ?_) ?_
  ·refine XS.iload X1792.here hx rfl (D13 hby 51 rfl) rfl ?_
   refine OwnA.ldI X1792 hx hZ e1792 A1 (by rw [qw2]; exact (own_m255 _).1) (by rw [qw2]; exact (own_m255 _).2) rfl rfl (D13 hby 52 rfl) ?_
   exact XT.ior X1792.here hx rfl (D13 hby 53 rfl) rfl k
  refine OwnWp.retI X1792 hx hlk Bd.returns (D13 hby 54 rfl) (by decide) (by decide) ?_
  refine ⟨?_, N0, e1792⟩
  unfold own_symbol
  rw [if_neg c23_1788, ← hq1]
  subst qw2
  rfl
/-! the family of lengths -/
def own_M (G t ml j : Int) : Int := if j < G then ml else if j < G + t then j - G + 1 else 0
def own_isfam (L : Int → Int) (off G t ml : Int) : Prop := ∀ s : Int, 0 ≤ s → s < 256 → L s = own_M G t ml ((s - off) % 256)
def own_g (off G m : Int) : Int := if off + G ≤ 256 then (if m ≤ off then 0 else if m ≤ off + G then m - off else G) else (if m ≤ off + G - 256 then m else off + G - 256) + (if m ≤ off then 0 else m - off)
theorem own_g_step {off G m : Int} (o0 : 0 ≤ off) (o1 : off ≤ 255) (g0 : 1 ≤ G) (g1 : G ≤ 8) (m0 : 0 ≤ m) (m1 : m < 256) : own_g off G (m + 1) = own_g off G m + (if (m - off) % 256 < G then 1 else 0) := by
  unfold own_g
  by_cases a : off + G ≤ 256
  · rw [if_pos a, if_pos a]
    by_cases c : (m - off) % 256 < G
    · rw [if_pos c, if_neg (by omega), if_pos (by omega)]
      by_cases d : m ≤ off
      · rw [if_pos d]; omega
      · rw [if_neg d, if_pos (by omega)]; omega
    · rw [if_neg c]
      by_cases d : m + 1 ≤ off
      · rw [if_pos d, if_pos (by omega)]; omega
      · rw [if_neg d, if_neg (by omega), if_neg (by omega)]
        by_cases e : m ≤ off + G
        · rw [if_pos e]; omega
        · rw [if_neg e]; omega
  · rw [if_neg a, if_neg a]
    by_cases c : (m - off) % 256 < G
    · rw [if_pos c]
      by_cases d : m ≤ off
      · by_cases d2 : m + 1 ≤ off
        · rw [if_pos (show m + 1 ≤ off + G - 256 by omega), if_pos d2, if_pos (by omega), if_pos d]
          omega
        · rw [if_neg (show ¬ m + 1 ≤ off + G - 256 by omega), if_neg d2, if_pos d]
          by_cases e : m ≤ off + G - 256
          · rw [if_pos e]; omega
          · rw [if_neg e]; omega
      · rw [if_neg (show ¬ m + 1 ≤ off + G - 256 by omega), if_neg (by omega), if_neg (by omega), if_neg d]; omega
    · rw [if_neg c, if_neg (show ¬ m + 1 ≤ off + G - 256 by omega), if_pos (show m + 1 ≤ off by omega), if_pos (show m ≤ off by omega)]
      by_cases e : m ≤ off + G - 256
      · rw [if_pos e]; omega
      · rw [if_neg e]; omega
theorem own_num_fam {L : Int → Int} {off G t ml : Int} (h : own_isfam L off G t ml) (o0 : 0 ≤ off) (o1 : off ≤ 255) (g0 : 1 ≤ G) (g1 : G ≤ 8) (t0 : 0 ≤ t) (t1 : t ≤ 12) {l : Int} (l1 : 1 ≤ l) : ∀ m : Nat, m ≤ 256 → own_num L m l = (if l = ml then own_g off G m else 0) + (if l ≤ t ∧ (off + G + l - 1) % 256 < (m : Int) then 1 else 0)
  | 0, _ => by
    have z : own_g off G ((0 : Nat) : Int) = 0 := by
      unfold own_g
      by_cases a : off + G ≤ 256
      · rw [if_pos a, if_pos (by omega)]
      · rw [if_neg a, if_pos (by omega), if_pos (by omega)]; rfl
    rw [z, if_neg (show ¬ (l ≤ t ∧ (off + G + l - 1) % 256 < ((0 : Nat) : Int)) by omega)]
    show (0 : Int) = _
    split <;> rfl
  | m + 1, hm => by
    have ih := own_num_fam h o0 o1 g0 g1 t0 t1 l1 m (by omega)
    have gs := own_g_step (off := off) (G := G) (m := (m : Int)) o0 o1 g0 g1 (by omega) (by omega)
    rw [own_num_step, ih, h (m : Int) (by omega) (by omega), show (((m + 1 : Nat)) : Int) = (m : Int) + 1 from by omega, gs]
    unfold own_M
    by_cases a : ((m : Int) - off) % 256 < G
    · rw [if_pos a, if_pos a]
      have e : (l ≤ t ∧ (off + G + l - 1) % 256 < (m : Int) + 1) ↔ (l ≤ t ∧ (off + G + l - 1) % 256 < (m : Int)) := by omega
      by_cases b : l = ml
      · rw [if_pos b, if_pos b, if_pos b.symm]
        by_cases c : l ≤ t ∧ (off + G + l - 1) % 256 < (m : Int)
        · rw [if_pos c, if_pos (e.mpr c)] <;> omega
        · rw [if_neg c, if_neg (fun z => c (e.mp z))] <;> omega
      · rw [if_neg b, if_neg b, if_neg (show ¬ ml = l from fun z => b z.symm)]
        by_cases c : l ≤ t ∧ (off + G + l - 1) % 256 < (m : Int)
        · rw [if_pos c, if_pos (e.mpr c)] <;> omega
        · rw [if_neg c, if_neg (fun z => c (e.mp z))] <;> omega
    · rw [if_neg a, if_neg a, Int.add_zero]
      by_cases q : ((m : Int) - off) % 256 < G + t ∧ ((m : Int) - off) % 256 - G + 1 = l
      · rw [if_pos q.1, if_pos q.2, if_neg (show ¬ (l ≤ t ∧ (off + G + l - 1) % 256 < (m : Int)) by omega), if_pos (show l ≤ t ∧ (off + G + l - 1) % 256 < (m : Int) + 1 by omega)] <;> omega
      · have e : (l ≤ t ∧ (off + G + l - 1) % 256 < (m : Int) + 1) ↔ (l ≤ t ∧ (off + G + l - 1) % 256 < (m : Int)) := by omega
        have z : (if (if ((m : Int) - off) % 256 < G + t then ((m : Int) - off) % 256 - G + 1 else 0) = l then (1 : Int) else 0) = 0 := by
          by_cases c : ((m : Int) - off) % 256 < G + t
          · rw [if_pos c, if_neg (fun w => q ⟨c, w⟩)]
          · rw [if_neg c, if_neg (by omega)]
        rw [z]
        by_cases c : l ≤ t ∧ (off + G + l - 1) % 256 < (m : Int)
        · rw [if_pos c, if_pos (e.mpr c)] <;> omega
        · rw [if_neg c, if_neg (fun w => c (e.mp w))] <;> omega
def own_CC (t G ml l : Int) : Int := (if l = ml then G else 0) + (if l ≤ t then 1 else 0)
theorem own_C_fam {L : Int → Int} {off G t ml : Int} (h : own_isfam L off G t ml) (o0 : 0 ≤ off) (o1 : off ≤ 255) (g0 : 1 ≤ G) (g1 : G ≤ 8) (t0 : 0 ≤ t) (t1 : t ≤ 12) {l : Int} (l1 : 1 ≤ l) : own_num L 256 l = own_CC t G ml l := by
  rw [own_num_fam h o0 o1 g0 g1 t0 t1 l1 256 (Nat.le_refl _)]
  have z : own_g off G ((256 : Nat) : Int) = G := by
    unfold own_g
    by_cases a : off + G ≤ 256
    · rw [if_pos a, if_neg (by omega)]
      by_cases b : ((256 : Nat) : Int) ≤ off + G
      · rw [if_pos b]; omega
      · rw [if_neg b]
    · rw [if_neg a, if_neg (by omega), if_neg (by omega)]; omega
  unfold own_CC
  rw [z]
  congr 1
  by_cases c : l ≤ t
  · rw [if_pos c, if_pos ⟨c, by omega⟩]
  · rw [if_neg c, if_neg (fun w => c w.1)]
theorem own_Sum_congr {C D : Int → Int} (h : ∀ l : Int, 1 ≤ l → C l = D l) (b : Nat) : ∀ n : Nat, own_Sum C b n = own_Sum D b n
  | 0 => rfl
  | n + 1 => by
    have ih := own_Sum_congr h b n
    show own_Sum C b n + _ = own_Sum D b n + _
    rw [ih]
    by_cases q : n = 0
    · rw [if_pos q, if_pos q]
    · rw [if_neg q, if_neg q, h n (by omega)]
theorem own_A_congr {C D : Int → Int} (h : ∀ l : Int, 1 ≤ l → C l = D l) : ∀ n : Nat, own_A C n = own_A D n
  | 0 => rfl
  | n + 1 => by
    have ih := own_A_congr h n
    show own_A C n + _ = own_A D n + _
    rw [ih]
    by_cases q : n = 0
    · rw [if_pos q, if_pos q]
    · rw [if_neg q, if_neg q, h n (by omega)]
theorem own_left_congr {C D : Int → Int} (h : ∀ l : Int, 1 ≤ l → C l = D l) : ∀ n : Nat, own_left C n = own_left D n
  | 0 => rfl
  | n + 1 => by
    have ih := own_left_congr h n
    show 2 * own_left C n - _ = 2 * own_left D n - _
    rw [ih, h _ (by omega)]
def own_D (T K : Nat) : Int → Int := own_CC (T : Int) (2 ^ K) ((T + K : Nat) : Int)
theorem own_dS : ∀ (t : Fin 13) (k : Fin 4) (b : Fin 16), 1 ≤ t.1 + k.1 → own_Sum (own_D t.1 k.1) b.1 (b.1 + 1) ≤ 2 ^ b.1 := by decide +kernel
theorem own_dL : ∀ (t : Fin 13) (k : Fin 4) (l : Fin 16), 1 ≤ t.1 + k.1 → l.1 ≤ t.1 + k.1 → 0 ≤ own_left (own_D t.1 k.1) l.1 ∧ own_left (own_D t.1 k.1) l.1 ≤ 32768 := by decide +kernel
theorem own_dL0 : ∀ (t : Fin 13) (k : Fin 4), 1 ≤ t.1 + k.1 → own_left (own_D t.1 k.1) (t.1 + k.1) = 0 := by decide +kernel
theorem own_dA : ∀ (t : Fin 13) (k : Fin 4) (l : Fin 16), 1 ≤ l.1 → l.1 ≤ t.1 → own_Sum (own_D t.1 k.1) l.1 l.1 = 2 ^ l.1 - 2 := by decide +kernel
theorem own_dB : ∀ (t : Fin 13) (k : Fin 4), 1 ≤ k.1 → own_Sum (own_D t.1 k.1) (t.1 + k.1) (t.1 + k.1) = (2 ^ t.1 - 1) * 2 ^ k.1 := by decide +kernel
theorem own_lS : ∀ b : Fin 16, own_Sum (own_CC 0 1 1) b.1 (b.1 + 1) ≤ 2 ^ b.1 := by decide +kernel

/-! the law's own numbers -/
theorem own_pars {p1 p2 p3 w1 w2 w3 w7 w8 : Int32} (q1 : w1 = ((p1 &&& (15 : Int32)) % (13 : Int32))) (q2 : w2 = ((XT.ushr p1 (4 : Int32)) &&& (3 : Int32))) (q3 : w3 = (p2 &&& (255 : Int32))) (q7 : w7 = ((1 : Int32) + (((XT.ushr p3 (2 : Int32)) &&& (65535 : Int32)) % (12 : Int32)))) (q8 : w8 = ((1 : Int32) <<< (w2 &&& 31))) :
    ∃ (T K : Nat) (off : Int) (F : Nat), w1.toInt = (T : Int) ∧ T ≤ 12 ∧ w2.toInt = (K : Int) ∧ K ≤ 3 ∧ w3.toInt = off ∧ 0 ≤ off ∧ off ≤ 255 ∧ w7.toInt = (F : Int) ∧ 1 ≤ F ∧ F ≤ 12 ∧ w8.toInt = 2 ^ K ∧ (1 : Int) ≤ 2 ^ K ∧ (2 : Int) ^ K ≤ 8 := by
  have a1 := c_mask p1 15 4 (by decide) (by decide)
  rw [show ((2 ^ 4 : Nat) : Int) = 16 from rfl] at a1
  have a2 := (c_irem (p1 &&& 15) 13 13 rfl).1 (by omega)
  have b1 := c_mask (XT.ushr p1 4) 3 2 (by decide) (by decide)
  rw [show ((2 ^ 2 : Nat) : Int) = 4 from rfl] at b1
  have d1 := c_mask p2 255 8 (by decide) (by decide)
  rw [show ((2 ^ 8 : Nat) : Int) = 256 from rfl] at d1
  have e1 := c_mask (XT.ushr p3 2) 65535 16 (by decide) (by decide)
  rw [show ((2 ^ 16 : Nat) : Int) = 65536 from rfl] at e1
  have e2 := (c_irem ((XT.ushr p3 2) &&& 65535) 12 12 rfl).1 (by omega)
  have e3 := own_add (x := 1) (y := ((XT.ushr p3 2) &&& 65535) % 12) (by rw [show (1 : Int32).toInt = 1 from rfl]; omega) (by rw [show (1 : Int32).toInt = 1 from rfl]; omega)
  rw [show (1 : Int32).toInt = 1 from rfl] at e3
  rw [← q1] at a2
  rw [← q2] at b1
  rw [← q3] at d1
  rw [← q7] at e3
  have p := own_p2 w2.toInt.toNat
  have p3' := own_p2le (show w2.toInt.toNat ≤ 3 by omega)
  rw [show (2 : Int) ^ 3 = 8 from by decide] at p3'
  refine ⟨w1.toInt.toNat, w2.toInt.toNat, w3.toInt, w7.toInt.toNat, by omega, by omega, by omega, by omega, rfl, by omega, by omega, by omega, by omega, by omega, ?_, p, p3'⟩
  rw [q8, own_shl1 (by omega) (by omega)]
def own_case (T K ml : Nat) : Prop := (T = 0 ∧ K = 0 ∧ ml = 1) ∨ (1 ≤ T + K ∧ ml = T + K)
theorem own_wsum {w1 w2 : Int32} {T K : Nat} (hT : w1.toInt = (T : Int)) (hK : w2.toInt = (K : Int)) (h1 : T ≤ 12) (h2 : K ≤ 3) : (w1 + w2).toInt = ((T + K : Nat) : Int) ∧ (w1 + w2 = (0 : Int32) ↔ T + K = 0) := by
  have a := own_add (x := w1) (y := w2) (by omega) (by omega)
  refine ⟨by omega, fun q => ?_, fun q => Int32.toInt_inj.mp (by rw [a, show (0 : Int32).toInt = 0 from rfl]; omega)⟩
  rw [q, show (0 : Int32).toInt = 0 from rfl] at a; omega
theorem own_cases {w1 w2 w5 w6 w9 : Int32} {T K : Nat} (hT : w1.toInt = (T : Int)) (h1 : T ≤ 12) (hK : w2.toInt = (K : Int)) (h2 : K ≤ 3) (q6 : w6 = (if (w1 + w2) = (0 : Int32) then (if w5 = (0 : Int32) then (1 : Int32) else (0 : Int32)) else (0 : Int32))) (q9 : w9 = (if w6 = (0 : Int32) then (w1 + w2) else (1 : Int32))) (c : w5 = (0 : Int32)) : ∃ ml : Nat, w9.toInt = (ml : Int) ∧ own_case T K ml := by
  obtain ⟨s1, s2⟩ := own_wsum hT hK h1 h2
  by_cases z : w1 + w2 = (0 : Int32)
  · rw [if_pos z, if_pos c] at q6
    rw [if_neg (by rw [q6]; decide)] at q9
    have := s2.mp z
    exact ⟨1, by rw [q9]; rfl, Or.inl ⟨by omega, by omega, rfl⟩⟩
  · rw [if_neg z] at q6
    rw [if_pos q6] at q9
    exact ⟨T + K, by rw [q9]; exact s1, Or.inr ⟨by have : ¬ T + K = 0 := fun e => z (s2.mpr e); omega, rfl⟩⟩
theorem own_lone {w1 w2 w5 w6 : Int32} {T K ml : Nat} (hT : w1.toInt = (T : Int)) (h1 : T ≤ 12) (hK : w2.toInt = (K : Int)) (h2 : K ≤ 3) (q6 : w6 = (if (w1 + w2) = (0 : Int32) then (if w5 = (0 : Int32) then (1 : Int32) else (0 : Int32)) else (0 : Int32))) (c : ¬ w6 = (0 : Int32)) (h : own_case T K ml) : T = 0 ∧ K = 0 ∧ ml = 1 := by
  obtain ⟨s1, s2⟩ := own_wsum hT hK h1 h2
  by_cases z : w1 + w2 = (0 : Int32)
  · have := s2.mp z
    rcases h with h | h
    · exact h
    · exact absurd h.1 (by omega)
  · rw [if_neg z] at q6; exact absurd q6 c
theorem own_gen {w1 w2 w5 w6 : Int32} {T K ml : Nat} (hT : w1.toInt = (T : Int)) (h1 : T ≤ 12) (hK : w2.toInt = (K : Int)) (h2 : K ≤ 3) (q6 : w6 = (if (w1 + w2) = (0 : Int32) then (if w5 = (0 : Int32) then (1 : Int32) else (0 : Int32)) else (0 : Int32))) (c5 : w5 = (0 : Int32)) (c : w6 = (0 : Int32)) (h : own_case T K ml) : 1 ≤ T + K ∧ ml = T + K := by
  obtain ⟨s1, s2⟩ := own_wsum hT hK h1 h2
  by_cases z : w1 + w2 = (0 : Int32)
  · rw [if_pos z, if_pos c5, c] at q6; exact absurd q6 (by decide)
  · rcases h with h | h
    · exact absurd (s2.mpr (by omega)) z
    · exact h
theorem own_n0 {w1 w8 w12 : Int32} {T K : Nat} (hT : w1.toInt = (T : Int)) (h1 : T ≤ 12) (hc : w8.toInt = 2 ^ K) (g0 : (1 : Int) ≤ 2 ^ K) (g8 : (2 : Int) ^ K ≤ 8) (q : w12 = w1 + w8) : w12 ≠ (0 : Int32) := by
  intro z
  have a := own_add (x := w1) (y := w8) (by omega) (by omega)
  rw [← q, z, show (0 : Int32).toInt = 0 from rfl] at a; omega
theorem own_i24 {p4 w1 w8 w12 w13 : Int32} {T K : Nat} (hT : w1.toInt = (T : Int)) (h1 : T ≤ 12) (hc : w8.toInt = 2 ^ K) (g0 : (1 : Int) ≤ 2 ^ K) (g8 : (2 : Int) ^ K ≤ 8) (q : w12 = w1 + w8) (q13 : w13 = (p4 &&& (2147483647 : Int32)) % w12) : 0 ≤ w13.toInt ∧ w13.toInt < (T : Int) + 2 ^ K := by
  have a := own_add (x := w1) (y := w8) (by omega) (by omega)
  rw [← q] at a
  have b := c_mask p4 2147483647 31 (by decide) (by decide)
  have e := (c_iremV (p4 &&& 2147483647) w12).1 (by rw [b]; exact Int.emod_nonneg _ (by decide)) (by omega)
  rw [← q13] at e
  omega
theorem own_wI {w7 w9 w11 : Int32} {F ml : Nat} (hF : w7.toInt = (F : Int)) (q : w11 = own_max w7 w9) (hm : w9.toInt = (ml : Int)) : w11.toInt = ((Nat.max F ml : Nat) : Int) := by rw [q]; exact own_maxb hF hm
/-! the lengths that the law puts -/
def own_Hg (off G ml i : Int) (f : Int → Int32) : Prop := ∀ s : Int, 0 ≤ s → s < 256 → (f s).toInt = if (s - off) % 256 < (if i < G then i else G) then ml else 0
def own_Hs (off G t ml j : Int) (f : Int → Int32) : Prop := ∀ s : Int, 0 ≤ s → s < 256 → (f s).toInt = own_M G (if j < t then j else t) ml ((s - off) % 256)
theorem own_Hg0 (off G ml : Int) {f : Int → Int32} (g0 : 1 ≤ G) (h : ∀ i, f i = 0) : own_Hg off G ml 0 f := fun s h1 h2 => by
  rw [h, if_pos (show (0 : Int) < G by omega), if_neg (by omega)]; rfl
theorem own_putg {f f' : Int → Int32} {o8 iI c13 m14 : Int32} {off G ml i : Int} (H : own_Hg off G ml i f) (ho : o8.toInt = off) (o0 : 0 ≤ off) (o1 : off ≤ 255) (hi : iI.toInt = i) (i0 : 0 ≤ i) (i7 : i ≤ 7) (hc : c13.toInt = G) (g0 : 1 ≤ G) (g8 : G ≤ 8) (hm : m14.toInt = ml) (q : f' = own_put f o8 iI c13 m14) : own_Hg off G ml (i + 1) f' := by
  have a := own_add (x := o8) (y := iI) (by omega) (by omega)
  have b := c_mask (o8 + iI) 255 8 (by decide) (by decide)
  rw [show ((2 ^ 8 : Nat) : Int) = 256 from rfl, a, ho, hi] at b
  intro s h1 h2
  have hs := H s h1 h2
  rw [q]
  unfold own_put
  by_cases c : iI < c13
  · rw [if_pos c]
    rw [Int32.lt_iff_toInt_lt] at c
    have e : (if i < G then i else G) = i := if_pos (by omega)
    have e2 : (if i + 1 < G then i + 1 else G) = i + 1 := by by_cases z : i + 1 < G; exact if_pos z; rw [if_neg z]; omega
    rw [e] at hs
    rw [e2]
    by_cases z : s = ((o8 + iI) &&& (255 : Int32)).toInt
    · rw [z, ownUpd_same, hm, if_pos (by omega)]
    · rw [ownUpd_ne _ _ _ z, hs]
      by_cases y : (s - off) % 256 < i
      · rw [if_pos y, if_pos (by omega)]
      · rw [if_neg y, if_neg (by omega)]
  · rw [if_neg c, hs]
    rw [Int32.lt_iff_toInt_lt] at c
    rw [if_neg (show ¬ i < G by omega), if_neg (show ¬ i + 1 < G by omega)]
theorem own_Hs0 {f : Int → Int32} {off G t ml : Int} (t0 : 0 ≤ t) (g8 : G ≤ 8) (H : own_Hg off G ml 8 f) : own_Hs off G t ml 0 f := fun s h1 h2 => by
  have hs := H s h1 h2
  rw [if_neg (show ¬ (8 : Int) < G by omega)] at hs
  have e : (if (0 : Int) < t then 0 else t) = 0 := by by_cases z : (0 : Int) < t; exact if_pos z; rw [if_neg z]; omega
  rw [hs, e]
  unfold own_M
  by_cases c : (s - off) % 256 < G
  · rw [if_pos c, if_pos c]
  · rw [if_neg c, if_neg c, if_neg (by omega)]
theorem own_puts {f f' : Int → Int32} {o8 c13 jI t6 lI : Int32} {off G t ml j : Int} (H : own_Hs off G t ml j f) (ho : o8.toInt = off) (o0 : 0 ≤ off) (o1 : off ≤ 255) (hj : jI.toInt = j) (j0 : 0 ≤ j) (j11 : j ≤ 11) (hc : c13.toInt = G) (g0 : 1 ≤ G) (g8 : G ≤ 8) (ht : t6.toInt = t) (t0 : 0 ≤ t) (hl : lI.toInt = j + 1) (q : f' = own_put f (o8 + c13) jI t6 lI) : own_Hs off G t ml (j + 1) f' := by
  have a0 := own_add (x := o8) (y := c13) (by omega) (by omega)
  have a := own_add (x := o8 + c13) (y := jI) (by omega) (by omega)
  have b := c_mask (o8 + c13 + jI) 255 8 (by decide) (by decide)
  rw [show ((2 ^ 8 : Nat) : Int) = 256 from rfl, a, a0, ho, hc, hj] at b
  intro s h1 h2
  have hs := H s h1 h2
  rw [q]
  unfold own_put
  by_cases c : jI < t6
  · rw [if_pos c]
    rw [Int32.lt_iff_toInt_lt] at c
    have e : (if j < t then j else t) = j := if_pos (by omega)
    have e2 : (if j + 1 < t then j + 1 else t) = j + 1 := by by_cases z : j + 1 < t; exact if_pos z; rw [if_neg z]; omega
    rw [e] at hs
    rw [e2]
    unfold own_M at hs ⊢
    by_cases z : s = ((o8 + c13 + jI) &&& (255 : Int32)).toInt
    · rw [z, ownUpd_same, hl, if_neg (by omega), if_pos (by omega)]; omega
    · rw [ownUpd_ne _ _ _ z, hs]
      by_cases y : (s - off) % 256 < G
      · rw [if_pos y, if_pos y]
      · rw [if_neg y, if_neg y]
        by_cases x : (s - off) % 256 < G + j
        · rw [if_pos x, if_pos (by omega)]
        · rw [if_neg x, if_neg (by omega)]
  · rw [if_neg c, hs]
    rw [Int32.lt_iff_toInt_lt] at c
    rw [if_neg (show ¬ j < t by omega), if_neg (show ¬ j + 1 < t by omega)]
theorem own_Hs12 {f : Int → Int32} {off G t ml : Int} (t1 : t ≤ 12) (H : own_Hs off G t ml 12 f) : own_isfam (own_L f) off G t ml := fun s h1 h2 => by
  have hs := H s h1 h2
  rw [if_neg (show ¬ (12 : Int) < t by omega)] at hs
  exact hs
theorem own_Lb {f : Int → Int32} {off G t ml : Int} (h : own_isfam (own_L f) off G t ml) (m0 : 0 ≤ ml) (m1 : ml < 16) (t1 : t ≤ 12) : ∀ i : Int, 0 ≤ i → i < 256 → 0 ≤ (f i).toInt ∧ (f i).toInt < 16 := fun i h1 h2 => by
  have e : (f i).toInt = own_M G t ml ((i - off) % 256) := h i h1 h2
  rw [e]
  unfold own_M
  split
  · omega
  · split <;> omega
theorem own_Lzero {f : Int → Int32} (h : ∀ i, f i = 0) : ∀ s : Int, own_L f s = 0 := fun s => by unfold own_L; rw [h]; rfl
theorem own_Lb0 {f : Int → Int32} (h : ∀ i, f i = 0) : ∀ i : Int, 0 ≤ i → i < 256 → 0 ≤ (f i).toInt ∧ (f i).toInt < 16 := fun i _ _ => by rw [h]; decide
theorem own_num0 {L : Int → Int} (h : ∀ s, L s = 0) {l : Int} (l1 : 1 ≤ l) : ∀ m : Nat, own_num L m l = 0
  | 0 => rfl
  | m + 1 => by rw [own_num_step, own_num0 h l1 m, h, if_neg (by omega)]; rfl
theorem own_none {L : Int → Int} (h : ∀ s, L s = 0) : own_mx (own_num L 256) 0 ∧ own_kraft (own_num L 256) 0 ∧ ∀ b l : Nat, b ≤ 15 → l ≤ b → own_Sum (own_num L 256) b (l + 1) ≤ 2 ^ b := by
  refine ⟨⟨by decide, fun t h1 h2 => own_num0 h (by omega) 256, Or.inl rfl⟩, fun q => absurd q (by rw [own_A1]; decide), fun b l _ _ => ?_⟩
  rw [own_Sum_congr (D := fun _ => 0) (fun l l1 => own_num0 h l1 256)]
  have z : ∀ n : Nat, own_Sum (fun _ => 0) b n = 0 := by
    intro n
    induction n with
    | zero => rfl
    | succ n ih => show own_Sum (fun _ => 0) b n + _ = 0; rw [ih, Int.zero_mul]; split <;> rfl
  rw [z]
  exact Int.le_trans (by decide) (own_p2 b)
theorem own_famok {L : Int → Int} {off : Int} {T K ml : Nat} (h : own_isfam L off (2 ^ K) (T : Int) (ml : Int)) (o0 : 0 ≤ off) (o1 : off ≤ 255) (hT : T ≤ 12) (hK : K ≤ 3) (hc : own_case T K ml) :
    own_mx (own_num L 256) ml ∧ own_kraft (own_num L 256) ml ∧ (∀ b l : Nat, b ≤ 15 → l ≤ b → own_Sum (own_num L 256) b (l + 1) ≤ 2 ^ b) ∧ ∀ l : Int, 1 ≤ l → own_num L 256 l = own_CC (T : Int) (2 ^ K) (ml : Int) l := by
  have g0 := own_p2 K
  have g8 := own_p2le hK
  rw [show (2 : Int) ^ 3 = 8 from by decide] at g8
  have cf : ∀ l : Int, 1 ≤ l → own_num L 256 l = own_CC (T : Int) (2 ^ K) (ml : Int) l := fun l l1 => own_C_fam h o0 o1 g0 g8 (by omega) (by omega) l1
  have hCn : ∀ t, 0 ≤ own_num L 256 t := fun t => own_num_nonneg L 256 t
  have mlT : T ≤ ml ∧ 1 ≤ ml ∧ ml ≤ 15 := by rcases hc with q | q <;> omega
  refine ⟨⟨mlT.2.2, fun t h1 h2 => ?_, Or.inr ?_⟩, ?_, ?_, cf⟩
  · rw [cf t (by omega)]; unfold own_CC; rw [if_neg (by omega), if_neg (by omega)]; rfl
  · rw [cf ml (by omega)]; unfold own_CC; rw [if_pos rfl]; split <;> omega
  · intro _ nl
    rcases hc with ⟨q1, q2, q3⟩ | ⟨q1, q2⟩
    · subst q1 q2 q3
      refine absurd ?_ nl
      have c1 := cf 1 (by decide)
      have : own_CC ((0 : Nat) : Int) (2 ^ 0) ((1 : Nat) : Int) 1 = 1 := by decide
      rw [this] at c1
      exact ⟨by rw [own_A_succ _ (by decide), own_A1]; show (0 : Int) + own_num L 256 1 = 1; rw [c1]; rfl, c1⟩
    · subst q2
      rw [own_left_congr cf]
      refine ⟨fun l hl => ?_, own_dL0 ⟨T, by omega⟩ ⟨K, by omega⟩ q1⟩
      rw [own_left_congr cf]
      exact own_dL ⟨T, by omega⟩ ⟨K, by omega⟩ ⟨l, by omega⟩ q1 hl
  · intro b l hb hl
    refine Int.le_trans (own_Sum_le hCn b (show l + 1 ≤ b + 1 by omega)) ?_
    rw [own_Sum_congr cf]
    rcases hc with ⟨q1, q2, q3⟩ | ⟨q1, q2⟩
    · subst q1 q2 q3; exact own_lS ⟨b, by omega⟩
    · subst q2; exact own_dS ⟨T, by omega⟩ ⟨K, by omega⟩ ⟨b, by omega⟩ q1

/-! the roads -/
theorem own_lshq {q : Int32} (h0 : 0 ≤ q.toInt) (h1 : q.toInt < 16) : q.toInt64 &&& (63 : Int64) = (q &&& 0x3f).toInt64 := by
  obtain ⟨k, rfl⟩ := own_fin (n := 16) h0 (by omega)
  exact (by decide +kernel : ∀ k : Fin 16, (Int32.ofInt (k.1 : Int)).toInt64 &&& (63 : Int64) = ((Int32.ofInt (k.1 : Int)) &&& 0x3f).toInt64) k
theorem own_lshv {cw : Int64} {q : Int32} {n : Nat} (hq : q.toInt = (n : Int)) (hn : n ≤ 15) (c0 : 0 ≤ cw.toInt) (c1 : cw.toInt ≤ 65536) : (cw <<< (q.toInt64 &&& (63 : Int64))).toInt = cw.toInt * 2 ^ n := by
  rw [own_lshq (by omega) (by omega)]
  obtain ⟨k, hk⟩ := own_fin (x := q) (n := 16) (by omega) (by omega)
  have kk : q.toInt = (k.1 : Int) := by rw [hk, own_ofi (by omega) (by omega)]
  have hm : q.toBitVec.toNat % 64 = n := by
    rw [hk, show n = k.1 from by omega]
    exact (by decide +kernel : ∀ k : Fin 16, (Int32.ofInt (k.1 : Int)).toBitVec.toNat % 64 = k.1) k
  have a := c_lshl cw q n hm
  rw [show ((2 ^ n : Nat) : Int) = (2 : Int) ^ n from by push_cast; rfl] at a
  have r := rng64 (cw <<< (q &&& 0x3f).toInt64)
  have p := own_p2le hn
  rw [show (2 : Int) ^ 15 = 32768 from by decide] at p
  have p0 := own_p2 n
  have m0 := Int.mul_nonneg c0 (show (0 : Int) ≤ 2 ^ n by omega)
  have m1 := Int.mul_le_mul c1 p (show (0 : Int) ≤ 2 ^ n by omega) (by decide)
  omega
theorem own_next {cw p5 : Int64} {q : Int32} {n : Nat} (hq : q.toInt = (n : Int)) (hn : n ≤ 15) (c0 : 0 ≤ cw.toInt) (c1 : cw.toInt ≤ 65536) :
    ((cw <<< (q.toInt64 &&& (63 : Int64))) ||| (p5 &&& (((1 : Int64) <<< (q.toInt64 &&& (63 : Int64))) - (1 : Int64)))).toInt = cw.toInt * 2 ^ n + p5.toInt % 2 ^ n := by
  have a := own_lshv (cw := cw) hq hn c0 c1
  obtain ⟨k, hk⟩ := own_fin (x := q) (n := 16) (by omega) (by omega)
  have kk : q.toInt = (k.1 : Int) := by rw [hk, own_ofi (by omega) (by omega)]
  have hm : (((1 : Int64) <<< (q.toInt64 &&& (63 : Int64))) - (1 : Int64)).toBitVec.toNat = 2 ^ n - 1 := by
    rw [hk, show n = k.1 from by omega]
    exact (by decide +kernel : ∀ k : Fin 16, (((1 : Int64) <<< ((Int32.ofInt (k.1 : Int)).toInt64 &&& (63 : Int64))) - (1 : Int64)).toBitVec.toNat = 2 ^ k.1 - 1) k
  have b := c_maskL p5 (((1 : Int64) <<< (q.toInt64 &&& (63 : Int64))) - (1 : Int64)) n (by omega) hm
  have pc : ((2 ^ n : Nat) : Int) = (2 : Int) ^ n := by push_cast; rfl
  rw [pc] at b
  have p := own_p2le hn
  rw [show (2 : Int) ^ 15 = 32768 from by decide] at p
  have p0 := own_p2 n
  have e0 := Int.emod_nonneg p5.toInt (show (2 : Int) ^ n ≠ 0 by omega)
  have e1 := Int.emod_lt_of_pos p5.toInt (show (0 : Int) < 2 ^ n by omega)
  have o := c_orL (cw <<< (q.toInt64 &&& (63 : Int64))) (p5 &&& (((1 : Int64) <<< (q.toInt64 &&& (63 : Int64))) - (1 : Int64))) n (by omega) (2 ^ n) pc.symm (by rw [a]; exact Int.mul_emod_left _ _) (by omega) (by omega)
  have r := rng64 ((cw <<< (q.toInt64 &&& (63 : Int64))) ||| (p5 &&& (((1 : Int64) <<< (q.toInt64 &&& (63 : Int64))) - (1 : Int64))))
  have m0 := Int.mul_nonneg c0 (show (0 : Int) ≤ 2 ^ n by omega)
  have m1 := Int.mul_le_mul c1 p (show (0 : Int) ≤ 2 ^ n by omega) (by decide)
  omega
theorem own_exv {sI lI ex : Int32} {s l : Nat} (hs : sI.toInt = (s : Int)) (h1 : s < 256) (hl : lI.toInt = (l : Int)) (h2 : l ≤ 15) (q : ex = ((sI <<< ((4 : Int32) &&& 31)) ||| lI)) : ex.toInt = (s : Int) * 16 + (l : Int) := by
  have a := c_ishl sI 4 4 (by decide)
  rw [hs, show ((2 ^ 4 : Nat) : Int) = 16 from rfl] at a
  have r := rng32 (sI <<< ((4 : Int32) &&& 31))
  have v : (sI <<< ((4 : Int32) &&& 31)).toInt = (s : Int) * 16 := by omega
  have b := c_or (sI <<< ((4 : Int32) &&& 31)) lI 4 (by decide) 16 rfl (by omega) (by omega) (by omega)
  have r2 := rng32 ((sI <<< ((4 : Int32) &&& 31)) ||| lI)
  rw [q]; omega
theorem own_road {Lf fe go : Int → Int32} {fb mx : Nat} {rm wd fbI wI : Int32} (H : own_filled (own_num (own_L Lf) 256) go fb mx fe) (G : own_ord (own_L Lf) (fun _ => 64) go) (hW : wd.toInt = ((Nat.max fb mx : Nat) : Int)) (hf : fbI.toInt = (fb : Int)) (hfb1 : 1 ≤ fb) (hfb12 : fb ≤ 12) (hm15 : mx ≤ 15) (hrm : rm.toInt = own_room fb mx)
    (hS : ∀ b l : Nat, b ≤ 15 → l ≤ b → own_Sum (own_num (own_L Lf) 256) b (l + 1) ≤ 2 ^ b) (hwI : wI.toInt = ((Nat.max fb mx : Nat) : Int)) {s l : Nat} (hs : s < 256) (hl : (Lf (s : Int)).toInt = (l : Int)) (l1 : 1 ≤ l) (lm : l ≤ mx) {sI lI ex : Int32} {cw p5 nx : Int64} (hsI : sI.toInt = (s : Int)) (hlI : lI.toInt = (l : Int)) (hcw : cw.toInt = own_Sum (own_num (own_L Lf) 256) l l + own_num (own_L Lf) s (l : Int))
    (qex : ex = ((sI <<< ((4 : Int32) &&& 31)) ||| lI)) (qnx : nx = ((cw <<< ((wI - lI).toInt64 &&& 63)) ||| (p5 &&& (((1 : Int64) <<< ((wI - lI).toInt64 &&& 63)) - (1 : Int64))))) :
    own_symok fe rm wd fbI nx ∧ own_symbol fe Lf wd fbI nx = ex := by
  have hCn : ∀ t, 0 ≤ own_num (own_L Lf) 256 t := fun t => own_num_nonneg _ _ _
  have hWm : mx ≤ Nat.max fb mx := Nat.le_max_right _ _
  have hW15 : Nat.max fb mx ≤ 15 := Nat.max_le.mpr ⟨by omega, hm15⟩
  have sl := own_Sum_succ (own_num (own_L Lf) 256) l l1
  rw [Nat.sub_self, Int.pow_zero, Int.mul_one] at sl
  have kr := hS l l (by omega) (Nat.le_refl _)
  have s0 := own_Sum_le hCn l (Nat.zero_le l)
  rw [show own_Sum (own_num (own_L Lf) 256) l 0 = 0 from rfl] at s0
  have r0 := own_num_nonneg (own_L Lf) s (l : Int)
  have r1 := own_num_lt (own_L Lf) (s := s) (s' := 256) hs
  rw [show own_L Lf (s : Int) = (l : Int) from hl] at r1
  have p15 := own_p2le (show l ≤ 15 by omega)
  rw [show (2 : Int) ^ 15 = 32768 from by decide] at p15
  have hq : (wI - lI).toInt = ((Nat.max fb mx - l : Nat) : Int) := by rw [own_sub (by omega) (by omega)]; omega
  have nv := own_next (cw := cw) (p5 := p5) hq (by omega) (by omega) (by omega)
  rw [← qnx] at nv
  have p0 := own_p2 (Nat.max fb mx - l)
  have e0 := Int.emod_nonneg p5.toInt (show (2 : Int) ^ (Nat.max fb mx - l) ≠ 0 by omega)
  have e1 := Int.emod_lt_of_pos p5.toInt (show (0 : Int) < 2 ^ (Nat.max fb mx - l) by omega)
  have c := own_sym_code H G hW hf hfb1 hfb12 hm15 hrm hS hs hl l1 lm (x := nx) e0 e1 (by rw [nv, hcw])
  exact ⟨c.1, Int32.toInt_inj.mp (by rw [c.2, own_exv hsI hs hlI (by omega) qex])⟩
theorem own_natI {x : Int} (h : 0 ≤ x) : ((x.toNat : Nat) : Int) = x := by omega
theorem own_cwA {w13 : Int32} {w15 : Int64} {i : Nat} (h : w13.toInt = (i : Int)) (hi : i ≤ 11) (q : w15 = ((((1 : Int64) <<< (w13.toInt64 &&& 63)) - (1 : Int64)) <<< ((1 : Int32).toInt64 &&& 63))) : w15.toInt = 2 ^ (i + 1) - 2 ∧ w15 &&& (1 : Int64) = (0 : Int64) := by
  obtain ⟨k, hk⟩ := own_fin (x := w13) (n := 12) (by omega) (by omega)
  have kk : w13.toInt = (k.1 : Int) := by rw [hk, own_ofi (by omega) (by omega)]
  rw [q, hk, show i = k.1 from by omega]
  exact (by decide +kernel : ∀ k : Fin 12, ((((1 : Int64) <<< ((Int32.ofInt (k.1 : Int)).toInt64 &&& 63)) - (1 : Int64)) <<< ((1 : Int32).toInt64 &&& 63)).toInt = 2 ^ (k.1 + 1) - 2 ∧ ((((1 : Int64) <<< ((Int32.ofInt (k.1 : Int)).toInt64 &&& 63)) - (1 : Int64)) <<< ((1 : Int32).toInt64 &&& 63)) &&& (1 : Int64) = (0 : Int64)) k
theorem own_cwB {w1 w2 w14 : Int32} {w16 : Int64} {T K d : Nat} (h1 : w1.toInt = (T : Int)) (hT : T ≤ 12) (h2 : w2.toInt = (K : Int)) (hK : K ≤ 3) (h3 : w14.toInt = (d : Int)) (hd : d < 2 ^ K) (q : w16 = (((((1 : Int64) <<< (w1.toInt64 &&& 63)) - (1 : Int64)) <<< (w2.toInt64 &&& 63)) ||| w14.toInt64)) : w16.toInt = (2 ^ T - 1) * 2 ^ K + (d : Int) ∧ (1 ≤ T → K = 0 → ¬ w16 &&& (1 : Int64) = (0 : Int64)) := by
  have d8 : d < 8 := Nat.lt_of_lt_of_le hd (Nat.pow_le_pow_right (by decide) hK)
  obtain ⟨a, ha⟩ := own_fin (x := w1) (n := 13) (by omega) (by omega)
  obtain ⟨b, hb⟩ := own_fin (x := w2) (n := 4) (by omega) (by omega)
  obtain ⟨c, hc⟩ := own_fin (x := w14) (n := 8) (by omega) (by omega)
  have ka : w1.toInt = (a.1 : Int) := by rw [ha, own_ofi (by omega) (by omega)]
  have kb : w2.toInt = (b.1 : Int) := by rw [hb, own_ofi (by omega) (by omega)]
  have kc : w14.toInt = (c.1 : Int) := by rw [hc, own_ofi (by omega) (by omega)]
  obtain rfl : T = a.1 := by omega
  obtain rfl : K = b.1 := by omega
  obtain rfl : d = c.1 := by omega
  rw [q, ha, hb, hc]
  exact (by decide +kernel : ∀ (a : Fin 13) (b : Fin 4) (c : Fin 8), c.1 < 2 ^ b.1 → (((((1 : Int64) <<< ((Int32.ofInt (a.1 : Int)).toInt64 &&& 63)) - (1 : Int64)) <<< ((Int32.ofInt (b.1 : Int)).toInt64 &&& 63)) ||| (Int32.ofInt (c.1 : Int)).toInt64).toInt = (2 ^ a.1 - 1) * 2 ^ b.1 + (c.1 : Int) ∧ (1 ≤ a.1 → b.1 = 0 → ¬ (((((1 : Int64) <<< ((Int32.ofInt (a.1 : Int)).toInt64 &&& 63)) - (1 : Int64)) <<< ((Int32.ofInt (b.1 : Int)).toInt64 &&& 63)) ||| (Int32.ofInt (c.1 : Int)).toInt64) &&& (1 : Int64) = (0 : Int64))) a b c hd

theorem own_roadA {pu fe go : Int → Int32} {T K F ml : Nat} {off : Int} {w1 w2 w3 w7 w8 w11 rm wd : Int32} {p5 nx w15 : Int64} {w13 w14 w16 ex : Int32} (hfm : own_isfam (own_L pu) off (2 ^ K) (T : Int) (ml : Int)) (ho0 : 0 ≤ off) (ho1 : off ≤ 255) (ho : w3.toInt = off) (hT : w1.toInt = (T : Int)) (hT12 : T ≤ 12) (hK : w2.toInt = (K : Int)) (hK3 : K ≤ 3) (hc13 : w8.toInt = 2 ^ K) (hTK : 1 ≤ T + K) (hml : ml = T + K) (hfl : own_filled (own_num (own_L pu) 256) go F ml fe) (hor : own_ord (own_L pu) (fun _ => 64) go) (hwd : wd.toInt = ((Nat.max F ml : Nat) : Int)) (hF : w7.toInt = (F : Int)) (hF1 : 1 ≤ F) (hF12 : F ≤ 12) (hfam : own_mx (own_num (own_L pu) 256) ml ∧ own_kraft (own_num (own_L pu) 256) ml ∧ (∀ b l : Nat, b ≤ 15 → l ≤ b → own_Sum (own_num (own_L pu) 256) b (l + 1) ≤ 2 ^ b) ∧ ∀ l : Int, 1 ≤ l → own_num (own_L pu) 256 l = own_CC (T : Int) (2 ^ K) (ml : Int) l) (hrm : rm.toInt = own_room F ml) (hwI : w11.toInt = ((Nat.max F ml : Nat) : Int)) (hi : 0 ≤ w13.toInt ∧ w13.toInt < (T : Int) + 2 ^ K) (c3 : w13 < w1) (q14 : w14 = (w13 + (1 : Int32))) (q15 : w15 = ((((1 : Int64) <<< (w13.toInt64 &&& 63)) - (1 : Int64)) <<< ((1 : Int32).toInt64 &&& 63))) (q16 : w16 = (((w3 + w8) + w13) &&& (255 : Int32))) (cd : (¬ w2 = (0 : Int32)) ∨ ¬ w14 = w1) (qex : ex = ((w16 <<< ((4 : Int32) &&& 31)) ||| w14)) (qnx : nx = ((w15 <<< ((w11 - w14).toInt64 &&& 63)) ||| (p5 &&& (((1 : Int64) <<< ((w11 - w14).toInt64 &&& 63)) - (1 : Int64))))) : own_symok fe rm wd w7 nx ∧ own_symbol fe pu wd w7 nx = ex := by
  have g0 := own_p2 K
  have g8 := own_p2le hK3
  rw [show (2 : Int) ^ 3 = 8 from by decide] at g8
  have nf := fun (m : Nat) (hm : m ≤ 256) (l : Int) (l1 : 1 ≤ l) => own_num_fam hfm ho0 ho1 g0 g8 (by omega) (by omega) l1 m hm
  have hm15 := hfam.1.1
  rw [Int32.lt_iff_toInt_lt] at c3
  obtain ⟨i, hi'⟩ : ∃ i : Nat, w13.toInt = (i : Int) := ⟨w13.toInt.toNat, by omega⟩
  have hl14 : w14.toInt = ((i + 1 : Nat) : Int) := by rw [q14]; exact own_inc hi' (by omega)
  obtain ⟨cv, ce⟩ := own_cwA hi' (by omega) q15
  have a0 := own_add (x := w3) (y := w8) (by omega) (by omega)
  have a1 := own_add (x := w3 + w8) (y := w13) (by omega) (by omega)
  have m := c_mask (w3 + w8 + w13) 255 8 (by decide) (by decide)
  rw [show ((2 ^ 8 : Nat) : Int) = 256 from rfl, ← q16] at m
  obtain ⟨s, hs⟩ : ∃ s : Nat, w16.toInt = (s : Int) := ⟨w16.toInt.toNat, by omega⟩
  have hne : ¬ ((i + 1 : Nat) : Int) = (ml : Int) := by
    rcases cd with c | c
    · have : ¬ K = 0 := fun z => c (Int32.toInt_inj.mp (by rw [hK, z]; rfl))
      omega
    · have : ¬ i + 1 = T := fun z => c (Int32.toInt_inj.mp (by rw [hl14, hT, z]))
      omega
  have sA : own_Sum (own_num (own_L pu) 256) (i + 1) (i + 1) = 2 ^ (i + 1) - 2 := by
    rw [own_Sum_congr hfam.2.2.2, hml]
    exact own_dA ⟨T, by omega⟩ ⟨K, by omega⟩ ⟨i + 1, by omega⟩ (by show 1 ≤ i + 1; omega) (by show i + 1 ≤ T; omega)
  have nv := nf s (by omega) ((i + 1 : Nat) : Int) (by omega)
  rw [if_neg hne, if_neg (by omega)] at nv
  have hLs : (pu (s : Int)).toInt = ((i + 1 : Nat) : Int) := by
    have e : (pu (s : Int)).toInt = own_M (2 ^ K) (T : Int) (ml : Int) (((s : Int) - off) % 256) := hfm s (by omega) (by omega)
    rw [e]; unfold own_M; rw [if_neg (by omega), if_pos (by omega)]; omega
  exact own_road hfl hor hwd hF hF1 hF12 hm15 hrm hfam.2.2.1 hwI (s := s) (l := i + 1) (by omega) hLs (by omega) (by omega) hs hl14 (by rw [cv, sA, nv]; omega) qex qnx
theorem own_roadAmin {pu fe go : Int → Int32} {T K F ml : Nat} {off : Int} {w1 w2 w3 w7 w8 w11 rm wd : Int32} {p5 nx w15 : Int64} {w13 w14 w16 w17s w18s ex : Int32} (hfm : own_isfam (own_L pu) off (2 ^ K) (T : Int) (ml : Int)) (ho0 : 0 ≤ off) (ho1 : off ≤ 255) (ho : w3.toInt = off) (hT : w1.toInt = (T : Int)) (hT12 : T ≤ 12) (hK : w2.toInt = (K : Int)) (hK3 : K ≤ 3) (hc13 : w8.toInt = 2 ^ K) (hTK : 1 ≤ T + K) (hml : ml = T + K) (hfl : own_filled (own_num (own_L pu) 256) go F ml fe) (hor : own_ord (own_L pu) (fun _ => 64) go) (hwd : wd.toInt = ((Nat.max F ml : Nat) : Int)) (hF : w7.toInt = (F : Int)) (hF1 : 1 ≤ F) (hF12 : F ≤ 12) (hfam : own_mx (own_num (own_L pu) 256) ml ∧ own_kraft (own_num (own_L pu) 256) ml ∧ (∀ b l : Nat, b ≤ 15 → l ≤ b → own_Sum (own_num (own_L pu) 256) b (l + 1) ≤ 2 ^ b) ∧ ∀ l : Int, 1 ≤ l → own_num (own_L pu) 256 l = own_CC (T : Int) (2 ^ K) (ml : Int) l) (hrm : rm.toInt = own_room F ml) (hwI : w11.toInt = ((Nat.max F ml : Nat) : Int)) (hi : 0 ≤ w13.toInt ∧ w13.toInt < (T : Int) + 2 ^ K) (c3 : w13 < w1) (q14 : w14 = (w13 + (1 : Int32))) (q15 : w15 = ((((1 : Int64) <<< (w13.toInt64 &&& 63)) - (1 : Int64)) <<< ((1 : Int32).toInt64 &&& 63))) (q16 : w16 = (((w3 + w8) + w13) &&& (255 : Int32))) (c4 : w2 = (0 : Int32)) (c5 : w14 = w1) (q17s : w17s = ((w3 + w1) &&& (255 : Int32))) (c6 : (w15 &&& (1 : Int64)) = (0 : Int64)) (q18s : w18s = own_min w17s w3) (qex : ex = ((w18s <<< ((4 : Int32) &&& 31)) ||| w14)) (qnx : nx = ((w15 <<< ((w11 - w14).toInt64 &&& 63)) ||| (p5 &&& (((1 : Int64) <<< ((w11 - w14).toInt64 &&& 63)) - (1 : Int64))))) : own_symok fe rm wd w7 nx ∧ own_symbol fe pu wd w7 nx = ex := by
  have g0 := own_p2 K
  have g8 := own_p2le hK3
  rw [show (2 : Int) ^ 3 = 8 from by decide] at g8
  have nf := fun (m : Nat) (hm : m ≤ 256) (l : Int) (l1 : 1 ≤ l) => own_num_fam hfm ho0 ho1 g0 g8 (by omega) (by omega) l1 m hm
  have hm15 := hfam.1.1
  rw [Int32.lt_iff_toInt_lt] at c3
  obtain ⟨i, hi'⟩ : ∃ i : Nat, w13.toInt = (i : Int) := ⟨w13.toInt.toNat, by omega⟩
  have hl14 : w14.toInt = ((i + 1 : Nat) : Int) := by rw [q14]; exact own_inc hi' (by omega)
  obtain ⟨cv, ce⟩ := own_cwA hi' (by omega) q15
  have K0 : K = 0 := by rw [c4, show (0 : Int32).toInt = 0 from rfl] at hK; omega
  subst K0
  rw [show (2 : Int) ^ 0 = 1 from by decide] at *
  have b0 := own_add (x := w3) (y := w1) (by omega) (by omega)
  have m := c_mask (w3 + w1) 255 8 (by decide) (by decide)
  rw [show ((2 ^ 8 : Nat) : Int) = 256 from rfl, ← q17s] at m
  have mn := own_min_eq w17s w3
  rw [← q18s] at mn
  have hiT : i + 1 = T := by rw [c5, hT] at hl14; omega
  obtain ⟨s, hs⟩ : ∃ s : Nat, w18s.toInt = (s : Int) := ⟨w18s.toInt.toNat, by split at mn <;> omega⟩
  have hs2 : (s : Int) ≤ off ∧ (s : Int) ≤ (off + T) % 256 ∧ ((s : Int) = off ∨ (s : Int) = (off + T) % 256) := by split at mn <;> omega
  have hLs : (pu (s : Int)).toInt = ((T : Nat) : Int) := by
    have e : (pu (s : Int)).toInt = own_M 1 (T : Int) (ml : Int) (((s : Int) - off) % 256) := hfm s (by omega) (by omega)
    rw [e]; unfold own_M
    by_cases z : ((s : Int) - off) % 256 < 1
    · rw [if_pos z]; omega
    · rw [if_neg z, if_pos (by omega)]; omega
  have nv := nf s (by omega) (T : Int) (by omega)
  rw [if_pos (show (T : Int) = (ml : Int) by omega)] at nv
  unfold own_g at nv
  rw [if_pos (show off + 1 ≤ 256 by omega)] at nv
  have sA : own_Sum (own_num (own_L pu) 256) T T = 2 ^ T - 2 := by
    rw [own_Sum_congr hfam.2.2.2, hml]
    exact own_dA ⟨T, by omega⟩ ⟨0, by decide⟩ ⟨T, by omega⟩ (by show 1 ≤ T; omega) (Nat.le_refl _)
  rw [if_pos hs2.1, if_neg (by omega)] at nv
  exact own_road hfl hor hwd hF hF1 hF12 hm15 hrm hfam.2.2.1 hwI (s := s) (l := T) (by omega) hLs (by omega) (by omega) hs (by rw [hl14, hiT]) (by rw [cv, hiT, sA, nv]; omega) qex qnx
theorem own_roadAmax {pu fe go : Int → Int32} {T K F ml : Nat} {off : Int} {w1 w2 w3 w7 w8 w11 rm wd : Int32} {p5 nx w15 : Int64} {w13 w14 w16 w17s w18s ex : Int32} (hfm : own_isfam (own_L pu) off (2 ^ K) (T : Int) (ml : Int)) (ho0 : 0 ≤ off) (ho1 : off ≤ 255) (ho : w3.toInt = off) (hT : w1.toInt = (T : Int)) (hT12 : T ≤ 12) (hK : w2.toInt = (K : Int)) (hK3 : K ≤ 3) (hc13 : w8.toInt = 2 ^ K) (hTK : 1 ≤ T + K) (hml : ml = T + K) (hfl : own_filled (own_num (own_L pu) 256) go F ml fe) (hor : own_ord (own_L pu) (fun _ => 64) go) (hwd : wd.toInt = ((Nat.max F ml : Nat) : Int)) (hF : w7.toInt = (F : Int)) (hF1 : 1 ≤ F) (hF12 : F ≤ 12) (hfam : own_mx (own_num (own_L pu) 256) ml ∧ own_kraft (own_num (own_L pu) 256) ml ∧ (∀ b l : Nat, b ≤ 15 → l ≤ b → own_Sum (own_num (own_L pu) 256) b (l + 1) ≤ 2 ^ b) ∧ ∀ l : Int, 1 ≤ l → own_num (own_L pu) 256 l = own_CC (T : Int) (2 ^ K) (ml : Int) l) (hrm : rm.toInt = own_room F ml) (hwI : w11.toInt = ((Nat.max F ml : Nat) : Int)) (hi : 0 ≤ w13.toInt ∧ w13.toInt < (T : Int) + 2 ^ K) (c3 : w13 < w1) (q14 : w14 = (w13 + (1 : Int32))) (q15 : w15 = ((((1 : Int64) <<< (w13.toInt64 &&& 63)) - (1 : Int64)) <<< ((1 : Int32).toInt64 &&& 63))) (q16 : w16 = (((w3 + w8) + w13) &&& (255 : Int32))) (c4 : w2 = (0 : Int32)) (c5 : w14 = w1) (q17s : w17s = ((w3 + w1) &&& (255 : Int32))) (c6 : ¬ (w15 &&& (1 : Int64)) = (0 : Int64)) (q18s : w18s = own_max w17s w3) (qex : ex = ((w18s <<< ((4 : Int32) &&& 31)) ||| w14)) (qnx : nx = ((w15 <<< ((w11 - w14).toInt64 &&& 63)) ||| (p5 &&& (((1 : Int64) <<< ((w11 - w14).toInt64 &&& 63)) - (1 : Int64))))) : own_symok fe rm wd w7 nx ∧ own_symbol fe pu wd w7 nx = ex := by
  rw [Int32.lt_iff_toInt_lt] at c3
  obtain ⟨i, hi'⟩ : ∃ i : Nat, w13.toInt = (i : Int) := ⟨w13.toInt.toNat, by omega⟩
  have hl14 : w14.toInt = ((i + 1 : Nat) : Int) := by rw [q14]; exact own_inc hi' (by omega)
  obtain ⟨cv, ce⟩ := own_cwA hi' (by omega) q15
  exact absurd ce c6
theorem own_roadB {pu fe go : Int → Int32} {T K F ml : Nat} {off : Int} {w1 w2 w3 w7 w8 w11 rm wd : Int32} {p5 nx w16 : Int64} {w13 w14 w15 w17 w18 w19 ex : Int32} (hfm : own_isfam (own_L pu) off (2 ^ K) (T : Int) (ml : Int)) (ho0 : 0 ≤ off) (ho1 : off ≤ 255) (ho : w3.toInt = off) (hT : w1.toInt = (T : Int)) (hT12 : T ≤ 12) (hK : w2.toInt = (K : Int)) (hK3 : K ≤ 3) (hc13 : w8.toInt = 2 ^ K) (hTK : 1 ≤ T + K) (hml : ml = T + K) (hfl : own_filled (own_num (own_L pu) 256) go F ml fe) (hor : own_ord (own_L pu) (fun _ => 64) go) (hwd : wd.toInt = ((Nat.max F ml : Nat) : Int)) (hF : w7.toInt = (F : Int)) (hF1 : 1 ≤ F) (hF12 : F ≤ 12) (hfam : own_mx (own_num (own_L pu) 256) ml ∧ own_kraft (own_num (own_L pu) 256) ml ∧ (∀ b l : Nat, b ≤ 15 → l ≤ b → own_Sum (own_num (own_L pu) 256) b (l + 1) ≤ 2 ^ b) ∧ ∀ l : Int, 1 ≤ l → own_num (own_L pu) 256 l = own_CC (T : Int) (2 ^ K) (ml : Int) l) (hrm : rm.toInt = own_room F ml) (hwI : w11.toInt = ((Nat.max F ml : Nat) : Int)) (hi : 0 ≤ w13.toInt ∧ w13.toInt < (T : Int) + 2 ^ K) (c3 : ¬ w13 < w1) (q14 : w14 = (w13 - w1)) (q15 : w15 = (w1 + w2)) (q16 : w16 = (((((1 : Int64) <<< (w1.toInt64 &&& 63)) - (1 : Int64)) <<< (w2.toInt64 &&& 63)) ||| w14.toInt64)) (q17 : w17 = (w8 - ((256 : Int32) - w3))) (q18 : w18 = (own_max (0 : Int32) w17)) (q19 : w19 = (if w14 < w18 then w14 else ((w3 + w14) - w18))) (cd : (¬ w2 = (0 : Int32)) ∨ ¬ w15 = w1) (qex : ex = ((w19 <<< ((4 : Int32) &&& 31)) ||| w15)) (qnx : nx = ((w16 <<< ((w11 - w15).toInt64 &&& 63)) ||| (p5 &&& (((1 : Int64) <<< ((w11 - w15).toInt64 &&& 63)) - (1 : Int64))))) : own_symok fe rm wd w7 nx ∧ own_symbol fe pu wd w7 nx = ex := by
  have g0 := own_p2 K
  have g8 := own_p2le hK3
  rw [show (2 : Int) ^ 3 = 8 from by decide] at g8
  have nf := fun (m : Nat) (hm : m ≤ 256) (l : Int) (l1 : 1 ≤ l) => own_num_fam hfm ho0 ho1 g0 g8 (by omega) (by omega) l1 m hm
  have hm15 := hfam.1.1
  rw [Int32.lt_iff_toInt_lt] at c3
  have v14 : w14.toInt = w13.toInt - w1.toInt := by rw [q14, own_sub (by omega) (by omega)]
  obtain ⟨d, hd⟩ : ∃ d : Nat, w14.toInt = (d : Int) := ⟨w14.toInt.toNat, by omega⟩
  have pK : ((2 ^ K : Nat) : Int) = (2 : Int) ^ K := by push_cast; rfl
  have hd2 : d < 2 ^ K := by omega
  obtain ⟨hl15, -⟩ := own_wsum hT hK hT12 hK3
  rw [← q15] at hl15
  obtain ⟨cv, ce⟩ := own_cwB hT hT12 hK hK3 hd hd2 q16
  have hK1 : 1 ≤ K := by
    rcases cd with c | c
    · have : ¬ K = 0 := fun z => c (Int32.toInt_inj.mp (by rw [hK, z]; rfl))
      omega
    · have : ¬ K = 0 := fun z => c (Int32.toInt_inj.mp (by rw [hl15, hT, z]; rfl))
      omega
  have b1 := own_sub (x := 256) (y := w3) (by rw [show (256 : Int32).toInt = 256 from rfl]; omega) (by rw [show (256 : Int32).toInt = 256 from rfl]; omega)
  rw [show (256 : Int32).toInt = 256 from rfl] at b1
  have b2 := own_sub (x := w8) (y := (256 : Int32) - w3) (by omega) (by omega)
  rw [← q17] at b2
  have b3 := own_max_eq 0 w17
  rw [← q18, show (0 : Int32).toInt = 0 from rfl] at b3
  have v18 : w18.toInt = if off + 2 ^ K ≤ 256 then 0 else off + 2 ^ K - 256 := by
    split at b3 <;> split <;> omega
  have b4 := own_add (x := w3) (y := w14) (by omega) (by omega)
  have b5 := own_sub (x := w3 + w14) (y := w18) (by split at v18 <;> omega) (by split at v18 <;> omega)
  have v19 : w19.toInt = if (d : Int) < w18.toInt then (d : Int) else off + (d : Int) - w18.toInt := by
    by_cases z : w14 < w18
    · rw [q19, if_pos z]; rw [Int32.lt_iff_toInt_lt] at z; rw [if_pos (by omega)]; omega
    · rw [q19, if_neg z]; rw [Int32.lt_iff_toInt_lt] at z; rw [if_neg (by omega)]; omega
  obtain ⟨s, hs⟩ : ∃ s : Nat, w19.toInt = (s : Int) := ⟨w19.toInt.toNat, by split at v18 <;> split at v19 <;> omega⟩
  have hsr : (s : Int) < 256 ∧ ((s : Int) - off) % 256 < 2 ^ K ∧ own_g off (2 ^ K) (s : Int) = (d : Int) := by
    unfold own_g
    by_cases z : off + 2 ^ K ≤ 256
    · rw [if_pos z] at v18
      rw [if_neg (by omega)] at v19
      rw [if_pos z]
      refine ⟨by omega, by omega, ?_⟩
      by_cases y : (s : Int) ≤ off
      · rw [if_pos y]; omega
      · rw [if_neg y, if_pos (by omega)]; omega
    · rw [if_neg z] at v18
      rw [if_neg z]
      by_cases y : (d : Int) < w18.toInt
      · rw [if_pos y] at v19
        refine ⟨by omega, by omega, ?_⟩
        rw [if_pos (by omega), if_pos (by omega)]; omega
      · rw [if_neg y] at v19
        refine ⟨by omega, by omega, ?_⟩
        by_cases x : (s : Int) ≤ off
        · rw [if_pos x]
          by_cases u : (s : Int) ≤ off + 2 ^ K - 256
          · rw [if_pos u]; omega
          · rw [if_neg u]; omega
        · rw [if_neg x, if_neg (by omega)]; omega
  have sB : own_Sum (own_num (own_L pu) 256) (T + K) (T + K) = (2 ^ T - 1) * 2 ^ K := by
    rw [own_Sum_congr hfam.2.2.2, hml]
    exact own_dB ⟨T, by omega⟩ ⟨K, by omega⟩ hK1
  have nv := nf s (by omega) ((T + K : Nat) : Int) (by omega)
  rw [if_pos (by omega), if_neg (by omega), hsr.2.2] at nv
  have hLs : (pu (s : Int)).toInt = ((T + K : Nat) : Int) := by
    have e : (pu (s : Int)).toInt = own_M (2 ^ K) (T : Int) (ml : Int) (((s : Int) - off) % 256) := hfm s (by omega) hsr.1
    rw [e]; unfold own_M; rw [if_pos hsr.2.1]; omega
  exact own_road hfl hor hwd hF hF1 hF12 hm15 hrm hfam.2.2.1 hwI (s := s) (l := T + K) (by omega) hLs (by omega) (by omega) hs hl15 (by rw [cv, sB, nv]; omega) qex qnx
theorem own_roadBmin {pu fe go : Int → Int32} {T K F ml : Nat} {off : Int} {w1 w2 w3 w7 w8 w11 rm wd : Int32} {p5 nx w16 : Int64} {w13 w14 w15 w17 w18 w19 w17s w18s ex : Int32} (hfm : own_isfam (own_L pu) off (2 ^ K) (T : Int) (ml : Int)) (ho0 : 0 ≤ off) (ho1 : off ≤ 255) (ho : w3.toInt = off) (hT : w1.toInt = (T : Int)) (hT12 : T ≤ 12) (hK : w2.toInt = (K : Int)) (hK3 : K ≤ 3) (hc13 : w8.toInt = 2 ^ K) (hTK : 1 ≤ T + K) (hml : ml = T + K) (hfl : own_filled (own_num (own_L pu) 256) go F ml fe) (hor : own_ord (own_L pu) (fun _ => 64) go) (hwd : wd.toInt = ((Nat.max F ml : Nat) : Int)) (hF : w7.toInt = (F : Int)) (hF1 : 1 ≤ F) (hF12 : F ≤ 12) (hfam : own_mx (own_num (own_L pu) 256) ml ∧ own_kraft (own_num (own_L pu) 256) ml ∧ (∀ b l : Nat, b ≤ 15 → l ≤ b → own_Sum (own_num (own_L pu) 256) b (l + 1) ≤ 2 ^ b) ∧ ∀ l : Int, 1 ≤ l → own_num (own_L pu) 256 l = own_CC (T : Int) (2 ^ K) (ml : Int) l) (hrm : rm.toInt = own_room F ml) (hwI : w11.toInt = ((Nat.max F ml : Nat) : Int)) (hi : 0 ≤ w13.toInt ∧ w13.toInt < (T : Int) + 2 ^ K) (c3 : ¬ w13 < w1) (q14 : w14 = (w13 - w1)) (q15 : w15 = (w1 + w2)) (q16 : w16 = (((((1 : Int64) <<< (w1.toInt64 &&& 63)) - (1 : Int64)) <<< (w2.toInt64 &&& 63)) ||| w14.toInt64)) (q17 : w17 = (w8 - ((256 : Int32) - w3))) (q18 : w18 = (own_max (0 : Int32) w17)) (q19 : w19 = (if w14 < w18 then w14 else ((w3 + w14) - w18))) (c4 : w2 = (0 : Int32)) (c5 : w15 = w1) (q17s : w17s = ((w3 + w1) &&& (255 : Int32))) (c6 : (w16 &&& (1 : Int64)) = (0 : Int64)) (q18s : w18s = own_min w17s w3) (qex : ex = ((w18s <<< ((4 : Int32) &&& 31)) ||| w15)) (qnx : nx = ((w16 <<< ((w11 - w15).toInt64 &&& 63)) ||| (p5 &&& (((1 : Int64) <<< ((w11 - w15).toInt64 &&& 63)) - (1 : Int64))))) : own_symok fe rm wd w7 nx ∧ own_symbol fe pu wd w7 nx = ex := by
  have g0 := own_p2 K
  have g8 := own_p2le hK3
  rw [show (2 : Int) ^ 3 = 8 from by decide] at g8
  have nf := fun (m : Nat) (hm : m ≤ 256) (l : Int) (l1 : 1 ≤ l) => own_num_fam hfm ho0 ho1 g0 g8 (by omega) (by omega) l1 m hm
  have hm15 := hfam.1.1
  rw [Int32.lt_iff_toInt_lt] at c3
  have v14 : w14.toInt = w13.toInt - w1.toInt := by rw [q14, own_sub (by omega) (by omega)]
  obtain ⟨d, hd⟩ : ∃ d : Nat, w14.toInt = (d : Int) := ⟨w14.toInt.toNat, by omega⟩
  have pK : ((2 ^ K : Nat) : Int) = (2 : Int) ^ K := by push_cast; rfl
  have hd2 : d < 2 ^ K := by omega
  obtain ⟨hl15, -⟩ := own_wsum hT hK hT12 hK3
  rw [← q15] at hl15
  obtain ⟨cv, ce⟩ := own_cwB hT hT12 hK hK3 hd hd2 q16
  have K0 : K = 0 := by rw [c4, show (0 : Int32).toInt = 0 from rfl] at hK; omega
  exact absurd c6 (ce (by omega) K0)
theorem own_roadBmax {pu fe go : Int → Int32} {T K F ml : Nat} {off : Int} {w1 w2 w3 w7 w8 w11 rm wd : Int32} {p5 nx w16 : Int64} {w13 w14 w15 w17 w18 w19 w17s w18s ex : Int32} (hfm : own_isfam (own_L pu) off (2 ^ K) (T : Int) (ml : Int)) (ho0 : 0 ≤ off) (ho1 : off ≤ 255) (ho : w3.toInt = off) (hT : w1.toInt = (T : Int)) (hT12 : T ≤ 12) (hK : w2.toInt = (K : Int)) (hK3 : K ≤ 3) (hc13 : w8.toInt = 2 ^ K) (hTK : 1 ≤ T + K) (hml : ml = T + K) (hfl : own_filled (own_num (own_L pu) 256) go F ml fe) (hor : own_ord (own_L pu) (fun _ => 64) go) (hwd : wd.toInt = ((Nat.max F ml : Nat) : Int)) (hF : w7.toInt = (F : Int)) (hF1 : 1 ≤ F) (hF12 : F ≤ 12) (hfam : own_mx (own_num (own_L pu) 256) ml ∧ own_kraft (own_num (own_L pu) 256) ml ∧ (∀ b l : Nat, b ≤ 15 → l ≤ b → own_Sum (own_num (own_L pu) 256) b (l + 1) ≤ 2 ^ b) ∧ ∀ l : Int, 1 ≤ l → own_num (own_L pu) 256 l = own_CC (T : Int) (2 ^ K) (ml : Int) l) (hrm : rm.toInt = own_room F ml) (hwI : w11.toInt = ((Nat.max F ml : Nat) : Int)) (hi : 0 ≤ w13.toInt ∧ w13.toInt < (T : Int) + 2 ^ K) (c3 : ¬ w13 < w1) (q14 : w14 = (w13 - w1)) (q15 : w15 = (w1 + w2)) (q16 : w16 = (((((1 : Int64) <<< (w1.toInt64 &&& 63)) - (1 : Int64)) <<< (w2.toInt64 &&& 63)) ||| w14.toInt64)) (q17 : w17 = (w8 - ((256 : Int32) - w3))) (q18 : w18 = (own_max (0 : Int32) w17)) (q19 : w19 = (if w14 < w18 then w14 else ((w3 + w14) - w18))) (c4 : w2 = (0 : Int32)) (c5 : w15 = w1) (q17s : w17s = ((w3 + w1) &&& (255 : Int32))) (c6 : ¬ (w16 &&& (1 : Int64)) = (0 : Int64)) (q18s : w18s = own_max w17s w3) (qex : ex = ((w18s <<< ((4 : Int32) &&& 31)) ||| w15)) (qnx : nx = ((w16 <<< ((w11 - w15).toInt64 &&& 63)) ||| (p5 &&& (((1 : Int64) <<< ((w11 - w15).toInt64 &&& 63)) - (1 : Int64))))) : own_symok fe rm wd w7 nx ∧ own_symbol fe pu wd w7 nx = ex := by
  have g0 := own_p2 K
  have g8 := own_p2le hK3
  rw [show (2 : Int) ^ 3 = 8 from by decide] at g8
  have nf := fun (m : Nat) (hm : m ≤ 256) (l : Int) (l1 : 1 ≤ l) => own_num_fam hfm ho0 ho1 g0 g8 (by omega) (by omega) l1 m hm
  have hm15 := hfam.1.1
  rw [Int32.lt_iff_toInt_lt] at c3
  have v14 : w14.toInt = w13.toInt - w1.toInt := by rw [q14, own_sub (by omega) (by omega)]
  obtain ⟨d, hd⟩ : ∃ d : Nat, w14.toInt = (d : Int) := ⟨w14.toInt.toNat, by omega⟩
  have pK : ((2 ^ K : Nat) : Int) = (2 : Int) ^ K := by push_cast; rfl
  have hd2 : d < 2 ^ K := by omega
  obtain ⟨hl15, -⟩ := own_wsum hT hK hT12 hK3
  rw [← q15] at hl15
  obtain ⟨cv, ce⟩ := own_cwB hT hT12 hK hK3 hd hd2 q16
  have K0 : K = 0 := by rw [c4, show (0 : Int32).toInt = 0 from rfl] at hK; omega
  subst K0
  rw [show (2 : Int) ^ 0 = 1 from by decide] at *
  have b0 := own_add (x := w3) (y := w1) (by omega) (by omega)
  have m := c_mask (w3 + w1) 255 8 (by decide) (by decide)
  rw [show ((2 ^ 8 : Nat) : Int) = 256 from rfl, ← q17s] at m
  have mn := own_max_eq w17s w3
  rw [← q18s] at mn
  obtain ⟨s, hs⟩ : ∃ s : Nat, w18s.toInt = (s : Int) := ⟨w18s.toInt.toNat, by split at mn <;> omega⟩
  have hs2 : off ≤ (s : Int) ∧ (off + T) % 256 ≤ (s : Int) ∧ ((s : Int) = off ∨ (s : Int) = (off + T) % 256) := by split at mn <;> omega
  have hLs : (pu (s : Int)).toInt = ((T : Nat) : Int) := by
    have e : (pu (s : Int)).toInt = own_M 1 (T : Int) (ml : Int) (((s : Int) - off) % 256) := hfm s (by omega) (by omega)
    rw [e]; unfold own_M
    by_cases z : ((s : Int) - off) % 256 < 1
    · rw [if_pos z]; omega
    · rw [if_neg z, if_pos (by omega)]; omega
  have nv := nf s (by omega) (T : Int) (by omega)
  rw [if_pos (show (T : Int) = (ml : Int) by omega)] at nv
  unfold own_g at nv
  rw [if_pos (show off + 1 ≤ 256 by omega)] at nv
  have sA : own_Sum (own_num (own_L pu) 256) T T = 2 ^ T - 2 := by
    rw [own_Sum_congr hfam.2.2.2, hml]
    exact own_dA ⟨T, by omega⟩ ⟨0, by decide⟩ ⟨T, by omega⟩ (by show 1 ≤ T; omega) (Nat.le_refl _)
  have nv2 : own_num (own_L pu) s (T : Int) = 1 := by
    rw [nv]
    by_cases y : (s : Int) ≤ off
    · rw [if_pos y, if_pos (by omega)]; rfl
    · rw [if_neg y, if_neg (show ¬ ((T : Int) ≤ (T : Int) ∧ (off + 1 + (T : Int) - 1) % 256 < (s : Int)) by omega)]
      by_cases x : (s : Int) ≤ off + 1
      · rw [if_pos x]; omega
      · rw [if_neg x]; rfl
  have p2T := own_p2 T
  exact own_road hfl hor hwd hF hF1 hF12 hm15 hrm hfam.2.2.1 hwI (s := s) (l := T) (by omega) hLs (by omega) (by omega) hs (by rw [hl15]; rfl) (by rw [cv, sA, nv2]; omega) qex qnx
theorem own_roadL {pu fe go : Int → Int32} {F : Nat} {off : Int} {p4 w3 w7 w11 w13 rm wd : Int32} {p5 nx w12 : Int64} (hfm : own_isfam (own_L pu) off (2 ^ 0) ((0 : Nat) : Int) ((1 : Nat) : Int)) (ho0 : 0 ≤ off) (ho1 : off ≤ 255) (ho : w3.toInt = off) (hfl : own_filled (own_num (own_L pu) 256) go F 1 fe) (hor : own_ord (own_L pu) (fun _ => 64) go) (hwd : wd.toInt = ((Nat.max F 1 : Nat) : Int)) (hF : w7.toInt = (F : Int)) (hF1 : 1 ≤ F) (hF12 : F ≤ 12) (hfam : own_mx (own_num (own_L pu) 256) 1 ∧ own_kraft (own_num (own_L pu) 256) 1 ∧ (∀ b l : Nat, b ≤ 15 → l ≤ b → own_Sum (own_num (own_L pu) 256) b (l + 1) ≤ 2 ^ b) ∧ ∀ l : Int, 1 ≤ l → own_num (own_L pu) 256 l = own_CC ((0 : Nat) : Int) (2 ^ 0) ((1 : Nat) : Int) l) (hrm : rm.toInt = own_room F 1) (hwI : w11.toInt = ((Nat.max F 1 : Nat) : Int)) (q12 : w12 = (p4 &&& (1 : Int32)).toInt64) (q13 : w13 = (if w12 = (0 : Int64) then ((w3 <<< ((4 : Int32) &&& 31)) ||| (1 : Int32)) else (0 : Int32))) (qnx : nx = ((w12 <<< ((w11 - (1 : Int32)).toInt64 &&& 63)) ||| (p5 &&& (((1 : Int64) <<< ((w11 - (1 : Int32)).toInt64 &&& 63)) - (1 : Int64))))) : own_symok fe rm wd w7 nx ∧ own_symbol fe pu wd w7 nx = w13 := by
  rw [show (2 : Int) ^ 0 = 1 from by decide] at *
  have m := c_mask p4 1 1 (by decide) (by decide)
  have v12 : w12.toInt = p4.toInt % 2 := by rw [q12, c_i2l, m]; rfl
  by_cases z : w12 = (0 : Int64)
  · rw [if_pos z] at q13
    obtain ⟨s, hs⟩ : ∃ s : Nat, w3.toInt = (s : Int) := ⟨w3.toInt.toNat, by omega⟩
    have hLs : (pu (s : Int)).toInt = ((1 : Nat) : Int) := by
      have e : (pu (s : Int)).toInt = own_M 1 ((0 : Nat) : Int) ((1 : Nat) : Int) (((s : Int) - off) % 256) := hfm s (by omega) (by omega)
      rw [e]; unfold own_M; rw [if_pos (by omega)]
    have nv := own_num_fam hfm ho0 ho1 (by decide) (by decide) (by decide) (by decide) (l := ((1 : Nat) : Int)) (by decide) s (by omega)
    rw [if_pos rfl, if_neg (by omega)] at nv
    unfold own_g at nv
    rw [if_pos (by omega), if_pos (by omega)] at nv
    exact own_road hfl hor hwd hF hF1 hF12 hfam.1.1 hrm hfam.2.2.1 hwI (s := s) (l := 1) (by omega) hLs (by decide) (by decide) hs rfl (by rw [z, nv]; rfl) q13 qnx
  · rw [if_neg z] at q13
    have w1' : w12.toInt = 1 := by
      have : w12.toInt ≠ 0 := fun e => z (Int64.toInt_inj.mp e)
      omega
    have hmax : Nat.max F 1 = F := Nat.max_eq_left hF1
    have hmin : Nat.min F 1 = 1 := Nat.min_eq_right hF1
    have hq : (w11 - (1 : Int32)).toInt = ((F - 1 : Nat) : Int) := by rw [own_sub (by rw [show (1 : Int32).toInt = 1 from rfl]; omega) (by rw [show (1 : Int32).toInt = 1 from rfl]; omega), show (1 : Int32).toInt = 1 from rfl]; omega
    have nv := own_next (cw := w12) (p5 := p5) hq (by omega) (by omega) (by omega)
    rw [← qnx, w1', Int.one_mul] at nv
    have p0 := own_p2 (F - 1)
    have ps := own_p2s (F - 1)
    rw [show F - 1 + 1 = F from by omega] at ps
    have e0 := Int.emod_nonneg p5.toInt (show (2 : Int) ^ (F - 1) ≠ 0 by omega)
    have e1 := Int.emod_lt_of_pos p5.toInt (show (0 : Int) < 2 ^ (F - 1) by omega)
    have c1 := hfam.2.2.2 1 (by decide)
    have : own_CC ((0 : Nat) : Int) 1 ((1 : Nat) : Int) 1 = 1 := by decide
    rw [this] at c1
    have sv : own_Sum (own_num (own_L pu) 256) F (Nat.min F 1 + 1) = 2 ^ (F - 1) := by
      rw [hmin, own_Sum_succ _ _ (by decide), own_Sum1, Int.zero_add]
      show own_num (own_L pu) 256 1 * _ = _
      rw [c1, Int.one_mul]
    rw [q13]
    exact own_sym_zero hfl hwd hF hF12 hF1 hrm (by omega) (by rw [sv]; omega) (by omega)
theorem own_roadN {Lf fe go : Int → Int32} {F : Nat} {w7 w11 rm wd : Int32} {p5 nx : Int64} (hfl : own_filled (own_num (own_L Lf) 256) go F 0 fe) (hwd : wd.toInt = ((Nat.max F 0 : Nat) : Int)) (hrm : rm.toInt = own_room F 0) (hF : w7.toInt = (F : Int)) (hF1 : 1 ≤ F) (hF12 : F ≤ 12) (qnx : nx = (((0 : Int64) <<< ((w11 - (0 : Int32)).toInt64 &&& 63)) ||| (p5 &&& (((1 : Int64) <<< ((w11 - (0 : Int32)).toInt64 &&& 63)) - (1 : Int64))))) (q11 : w11 = (own_max w7 (0 : Int32))) : own_symok fe rm wd w7 nx ∧ own_symbol fe Lf wd w7 nx = (0 : Int32) := by
  have v11 : w11.toInt = ((Nat.max F 0 : Nat) : Int) := by rw [q11]; exact own_maxb hF (mx := 0) rfl
  have hmax : Nat.max F 0 = F := Nat.max_eq_left (Nat.zero_le _)
  have hq : (w11 - (0 : Int32)).toInt = (F : Int) := by rw [own_sub (by rw [show (0 : Int32).toInt = 0 from rfl]; omega) (by rw [show (0 : Int32).toInt = 0 from rfl]; omega), show (0 : Int32).toInt = 0 from rfl]; omega
  have nv := own_next (cw := (0 : Int64)) (p5 := p5) hq (by omega) (by decide) (by decide)
  rw [← qnx, show (0 : Int64).toInt = 0 from rfl, Int.zero_mul, Int.zero_add] at nv
  have p0 := own_p2 F
  have e0 := Int.emod_nonneg p5.toInt (show (2 : Int) ^ F ≠ 0 by omega)
  have e1 := Int.emod_lt_of_pos p5.toInt (show (0 : Int) < 2 ^ F by omega)
  have sv : own_Sum (own_num (own_L Lf) 256) F (Nat.min F 0 + 1) = 0 := by rw [show Nat.min F 0 = 0 from Nat.min_zero F]; exact own_Sum1 _ _
  exact own_sym_zero hfl hwd hF hF12 (Nat.zero_le _) hrm (by omega) (by rw [sv]; omega) (by omega)

theorem pn_0 : plainFor Mn17 = true := plainFor_of_name (by first | (simp [plainName, overriddenIn]; done) | decide +kernel)
theorem pd_0 : parseMethodDescriptor "(IIIIJ)Z" = some ⟨[.int, .int, .int, .int, .long], some .boolean⟩ := by decide +kernel
theorem ef_0 (m : MethodId) (x0 : Int32) (x1 : Int32) (x2 : Int32) (x3 : Int32) (x4 : Int64) : entryFrame m #[(.int x0), (.int x1), (.int x2), (.int x3), (.long x4)] maxLocals = mkF m 0 #[.val (.int x0), .val (.int x1), .val (.int x2), .val (.int x3), .val (.long x4), .second, .unset, .unset, .unset, .unset, .unset, .unset, .unset, .unset, .unset, .unset, .unset, .unset, .unset, .unset, .unset, .unset, .unset, .unset, .unset, .unset, .unset, .unset] [] := by first | (simp [entryFrame, mkF, argsToLocals, Value.category, maxLocals]; done) | rfl
def Q0 (Z : State) (p1 : Int32) (p2 : Int32) (p3 : Int32) (p4 : Int32) (p5 : Int64)  (h0 : Heap) (n0 : Nat) (v : Option Value) (h : Heap) (L : List Loc) : Prop := v = some (.int 1) ∧ Fr n0 L
set_option maxRecDepth 65536 in
set_option maxHeartbeats 40000000 in
theorem rm0 (l : Launch) (Z : State) (a0 : Array Value) (hw : ∀ d ∈ tables_1, d.before a0 Z = true) (ws : List Jvm.Cond) (p1 : Int32) (p2 : Int32) (p3 : Int32) (p4 : Int32) (p5 : Int64)  (h0 : Heap) (n0 : Nat) (Z0 : n0 ≤ h0.size)  :
  MetFree l x (head1 (Jvm.Cond.code x code maxLocals ret :: ws) room_1) (fun a U => a = #[(.int p1), (.int p2), (.int p3), (.int p4), (.long p5)] ∧ Z.Warmed39 U.vm ∧ U.heap = h0) (fun _ _ _ _ _ => True) (fun _ U oc U' => ∃ v L, oc = .returned v ∧ Q0 Z p1 p2 p3 p4 p5  h0 n0 v U'.heap L ∧ FrameEnd U oc U' L room_1.cells room_1.slots) := by
 refine MetFree.of_bodySF pn_0 hisR ?_
 intro p e s m args below meth c s₁ Bd hml0 hP hK
 obtain ⟨rfl, hZ, hh⟩ := hP
 have hx := Bd.exec
 have hby := Bd.bytes
 have hlk := BodyLoose.notSynchronized Bd
 have hml : c.maxLocals = 28 := hml0
 have hown : s.vm.findClass "com/example/leafcode/leafcode/DecodingTableSymbolPinLaw" = some m.cls := findClass_of_methodNamed Bd.named
 have hnm := (name_of_methodNamed Bd.named Bd.method).1
 have X0 : Stand p l e room_1 s m #[(.int p1), (.int p2), (.int p3), (.int p4), (.long p5)] below meth c s₁ [] 0 0 := Stand.of_body Bd
 have e0 : s₁.heap = h0 := by rw [← hh, Bd.state]; rfl
 have N0 := Fr.nil n0
 show OwnWp p e below s room_1.cells room_1.slots (Q0 Z p1 p2 p3 p4 p5  h0 n0) (s₁.setTop (entryFrame m #[(.int p1), (.int p2), (.int p3), (.int p4), (.long p5)] maxLocals))
 refine OwnWp.cast (ef_0 m p1 p2 p3 p4 p5) ?_
 show OwnWp p e below s _ _ _ (s₁.setTop (mkF m 0 #[sI p1, sI p2, sI p3, sI p4, sJ p5, sS, sU, sU, sU, sU, sU, sU, sU, sU, sU, sU, sU, sU, sU, sU, sU, sU, sU, sU, sU, sU, sU, sU] []))
 obtain ⟨w1, qw1⟩ : ∃ z : Int32, z = ((p1 &&& (15 : Int32)) % (13 : Int32)) := ⟨_, rfl⟩
 refine own_s s₁ (mkF m 9 #[sI p1, sI p2, sI p3, sI p4, sJ p5, sS, sI w1, sU, sU, sU, sU, sU, sU, sU, sU, sU, sU, sU, sU, sU, sU, sU, sU, sU, sU, sU, sU, sU] []) (fun t k => ?_) ?_
 ·refine XS.iloadN X0.here hx rfl (hb hby at_0) rfl ?_
  refine XT.bipushV X0.here hx rfl (15 : Int32) (hb hby at_1) rfl ?_
  refine XS.iand X0.here hx rfl (hb hby at_3) rfl ?_
  refine XT.bipushV X0.here hx rfl (13 : Int32) (hb hby at_4) rfl ?_
  refine iremM X0 hx rfl (hb hby at_6) rfl (by decide) ?_
  refine XS.istore X0.here hx rfl (hb hby at_7) rfl (l' := #[sI p1, sI p2, sI p3, sI p4, sJ p5, sS, sI ((p1 &&& (15 : Int32)) % (13 : Int32)), sU, sU, sU, sU, sU, sU, sU, sU, sU, sU, sU, sU, sU, sU, sU, sU, sU, sU, sU, sU, sU]) rfl ?_
  rw [qw1] at k
  exact k
 obtain ⟨w2, qw2⟩ : ∃ z : Int32, z = ((XT.ushr p1 (4 : Int32)) &&& (3 : Int32)) := ⟨_, rfl⟩
 refine own_s s₁ (mkF m 16 #[sI p1, sI p2, sI p3, sI p4, sJ p5, sS, sI w1, sI w2, sU, sU, sU, sU, sU, sU, sU, sU, sU, sU, sU, sU, sU, sU, sU, sU, sU, sU, sU, sU] []) (fun t k => ?_) ?_
 ·refine XS.iloadN X0.here hx rfl (hb hby at_9) rfl ?_
  refine XT.iconstV X0.here hx rfl (4 : Int32) (hb hby at_10) rfl ?_
  refine XT.iushr X0.here hx rfl (hb hby at_11) rfl ?_
  refine XT.iconstV X0.here hx rfl (3 : Int32) (hb hby at_12) rfl ?_
  refine XS.iand X0.here hx rfl (hb hby at_13) rfl ?_
  refine XS.istore X0.here hx rfl (hb hby at_14) rfl (l' := #[sI p1, sI p2, sI p3, sI p4, sJ p5, sS, sI w1, sI ((XT.ushr p1 (4 : Int32)) &&& (3 : Int32)), sU, sU, sU, sU, sU, sU, sU, sU, sU, sU, sU, sU, sU, sU, sU, sU, sU, sU, sU, sU]) rfl ?_
  rw [qw2] at k
  exact k
 obtain ⟨w3, qw3⟩ : ∃ z : Int32, z = (p2 &&& (255 : Int32)) := ⟨_, rfl⟩
 refine own_s s₁ (mkF m 23 #[sI p1, sI p2, sI p3, sI p4, sJ p5, sS, sI w1, sI w2, sI w3, sU, sU, sU, sU, sU, sU, sU, sU, sU, sU, sU, sU, sU, sU, sU, sU, sU, sU, sU] []) (fun t k => ?_) ?_
 ·refine XS.iloadN X0.here hx rfl (hb hby at_16) rfl ?_
  refine XT.sipushV X0.here hx rfl (255 : Int32) (hb hby at_17) rfl ?_
  refine XS.iand X0.here hx rfl (hb hby at_20) rfl ?_
  refine XS.istore X0.here hx rfl (hb hby at_21) rfl (l' := #[sI p1, sI p2, sI p3, sI p4, sJ p5, sS, sI w1, sI w2, sI (p2 &&& (255 : Int32)), sU, sU, sU, sU, sU, sU, sU, sU, sU, sU, sU, sU, sU, sU, sU, sU, sU, sU, sU]) rfl ?_
  rw [qw3] at k
  exact k
 refine own_s s₁ (mkF m 26 #[sI p1, sI p2, sI p3, sI p4, sJ p5, sS, sI w1, sI w2, sI w3, sU, sU, sU, sU, sU, sU, sU, sU, sU, sU, sU, sU, sU, sU, sU, sU, sU, sU, sU] [(.int (p3 &&& (1 : Int32)))]) (fun t k => ?_) ?_
 ·refine XS.iloadN X0.here hx rfl (hb hby at_23) rfl ?_
  refine XT.iconstV X0.here hx rfl (1 : Int32) (hb hby at_24) rfl ?_
  exact XS.iand X0.here hx rfl (hb hby at_25) rfl k
 obtain ⟨w4, qw4⟩ : ∃ z : Int32, z = (if (p3 &&& (1 : Int32)) = (0 : Int32) then (0 : Int32) else (1 : Int32)) := ⟨_, rfl⟩
 refine own_s s₁ (mkF m 34 #[sI p1, sI p2, sI p3, sI p4, sJ p5, sS, sI w1, sI w2, sI w3, sU, sU, sU, sU, sU, sU, sU, sU, sU, sU, sU, sU, sU, sU, sU, sU, sU, sU, sU] [(.int w4)]) (fun t k => ?_) ?_
 ·by_cases c26_1793 : (p3 &&& (1 : Int32)) = (0 : Int32)
  ·refine XS.ifYes X0.here hx rfl (pc0 := 26) (pc' := 33) rfl (hb hby at_26) rfl (XT.i0_eq_t c26_1793) (by decide) (by decide) ?_
   refine XT.iconstV X0.here hx rfl (0 : Int32) (hb hby at_33) rfl ?_
   rw [show w4 = (0 : Int32) from by rw [qw4, if_pos c26_1793]] at k
   exact k
  ·refine XS.ifNo X0.here hx rfl (hb hby at_26) rfl (XT.i0_eq_f c26_1793) ?_
   refine XT.iconstV X0.here hx rfl (1 : Int32) (hb hby at_29) rfl ?_
   refine XS.goto X0.here hx rfl (pc0 := 30) (pc' := 34) rfl (hb hby at_30) (by decide) (by decide) ?_
   rw [show w4 = (1 : Int32) from by rw [qw4, if_neg c26_1793]] at k
   exact k
 refine own_s s₁ (mkF m 41 #[sI p1, sI p2, sI p3, sI p4, sJ p5, sS, sI w1, sI w2, sI w3, sI w4, sU, sU, sU, sU, sU, sU, sU, sU, sU, sU, sU, sU, sU, sU, sU, sU, sU, sU] [(.int (w1 + w2))]) (fun t k => ?_) ?_
 ·refine XS.istore X0.here hx rfl (hb hby at_34) rfl (l' := #[sI p1, sI p2, sI p3, sI p4, sJ p5, sS, sI w1, sI w2, sI w3, sI w4, sU, sU, sU, sU, sU, sU, sU, sU, sU, sU, sU, sU, sU, sU, sU, sU, sU, sU]) rfl ?_
  refine XS.iload X0.here hx rfl (hb hby at_36) rfl ?_
  refine XS.iload X0.here hx rfl (hb hby at_38) rfl ?_
  exact XS.iadd X0.here hx rfl (hb hby at_40) rfl k
 obtain ⟨w5, qw5⟩ : ∃ z : Int32, z = (if (w1 + w2) = (0 : Int32) then (if (p3 &&& (2 : Int32)) = (0 : Int32) then (0 : Int32) else (1 : Int32)) else (0 : Int32)) := ⟨_, rfl⟩
 refine own_s s₁ (mkF m 55 #[sI p1, sI p2, sI p3, sI p4, sJ p5, sS, sI w1, sI w2, sI w3, sI w4, sU, sU, sU, sU, sU, sU, sU, sU, sU, sU, sU, sU, sU, sU, sU, sU, sU, sU] [(.int w5)]) (fun t k => ?_) ?_
 ·by_cases c41_1794 : (w1 + w2) = (0 : Int32)
  ·refine XS.ifNo X0.here hx rfl (hb hby at_41) rfl (XT.i0_ne_f c41_1794) ?_
   refine XS.iloadN X0.here hx rfl (hb hby at_44) rfl ?_
   refine XT.iconstV X0.here hx rfl (2 : Int32) (hb hby at_45) rfl ?_
   refine XS.iand X0.here hx rfl (hb hby at_46) rfl ?_
   by_cases c47_1795 : (p3 &&& (2 : Int32)) = (0 : Int32)
   ·refine XS.ifYes X0.here hx rfl (pc0 := 47) (pc' := 54) rfl (hb hby at_47) rfl (XT.i0_eq_t c47_1795) (by decide) (by decide) ?_
    refine XT.iconstV X0.here hx rfl (0 : Int32) (hb hby at_54) rfl ?_
    rw [show w5 = (0 : Int32) from by rw [qw5, if_pos c41_1794, if_pos c47_1795]] at k
    exact k
   ·refine XS.ifNo X0.here hx rfl (hb hby at_47) rfl (XT.i0_eq_f c47_1795) ?_
    refine XT.iconstV X0.here hx rfl (1 : Int32) (hb hby at_50) rfl ?_
    refine XS.goto X0.here hx rfl (pc0 := 51) (pc' := 55) rfl (hb hby at_51) (by decide) (by decide) ?_
    rw [show w5 = (1 : Int32) from by rw [qw5, if_pos c41_1794, if_neg c47_1795]] at k
    exact k
  ·refine XS.ifYes X0.here hx rfl (pc0 := 41) (pc' := 54) rfl (hb hby at_41) rfl (XT.i0_ne_t c41_1794) (by decide) (by decide) ?_
   refine XT.iconstV X0.here hx rfl (0 : Int32) (hb hby at_54) rfl ?_
   rw [show w5 = (0 : Int32) from by rw [qw5, if_neg c41_1794]] at k
   exact k
 refine own_s s₁ (mkF m 62 #[sI p1, sI p2, sI p3, sI p4, sJ p5, sS, sI w1, sI w2, sI w3, sI w4, sI w5, sU, sU, sU, sU, sU, sU, sU, sU, sU, sU, sU, sU, sU, sU, sU, sU, sU] [(.int (w1 + w2))]) (fun t k => ?_) ?_
 ·refine XS.istore X0.here hx rfl (hb hby at_55) rfl (l' := #[sI p1, sI p2, sI p3, sI p4, sJ p5, sS, sI w1, sI w2, sI w3, sI w4, sI w5, sU, sU, sU, sU, sU, sU, sU, sU, sU, sU, sU, sU, sU, sU, sU, sU, sU]) rfl ?_
  refine XS.iload X0.here hx rfl (hb hby at_57) rfl ?_
  refine XS.iload X0.here hx rfl (hb hby at_59) rfl ?_
  exact XS.iadd X0.here hx rfl (hb hby at_61) rfl k
 obtain ⟨w6, qw6⟩ : ∃ z : Int32, z = (if (w1 + w2) = (0 : Int32) then (if w5 = (0 : Int32) then (1 : Int32) else (0 : Int32)) else (0 : Int32)) := ⟨_, rfl⟩
 refine own_s s₁ (mkF m 75 #[sI p1, sI p2, sI p3, sI p4, sJ p5, sS, sI w1, sI w2, sI w3, sI w4, sI w5, sU, sU, sU, sU, sU, sU, sU, sU, sU, sU, sU, sU, sU, sU, sU, sU, sU] [(.int w6)]) (fun t k => ?_) ?_
 ·by_cases c62_1796 : (w1 + w2) = (0 : Int32)
  ·refine XS.ifNo X0.here hx rfl (hb hby at_62) rfl (XT.i0_ne_f c62_1796) ?_
   refine XS.iload X0.here hx rfl (hb hby at_65) rfl ?_
   by_cases c67_1797 : w5 = (0 : Int32)
   ·refine XS.ifNo X0.here hx rfl (hb hby at_67) rfl (XT.i0_ne_f c67_1797) ?_
    refine XT.iconstV X0.here hx rfl (1 : Int32) (hb hby at_70) rfl ?_
    refine XS.goto X0.here hx rfl (pc0 := 71) (pc' := 75) rfl (hb hby at_71) (by decide) (by decide) ?_
    rw [show w6 = (1 : Int32) from by rw [qw6, if_pos c62_1796, if_pos c67_1797]] at k
    exact k
   ·refine XS.ifYes X0.here hx rfl (pc0 := 67) (pc' := 74) rfl (hb hby at_67) rfl (XT.i0_ne_t c67_1797) (by decide) (by decide) ?_
    refine XT.iconstV X0.here hx rfl (0 : Int32) (hb hby at_74) rfl ?_
    rw [show w6 = (0 : Int32) from by rw [qw6, if_pos c62_1796, if_neg c67_1797]] at k
    exact k
  ·refine XS.ifYes X0.here hx rfl (pc0 := 62) (pc' := 74) rfl (hb hby at_62) rfl (XT.i0_ne_t c62_1796) (by decide) (by decide) ?_
   refine XT.iconstV X0.here hx rfl (0 : Int32) (hb hby at_74) rfl ?_
   rw [show w6 = (0 : Int32) from by rw [qw6, if_neg c62_1796]] at k
   exact k
 obtain ⟨w7, qw7⟩ : ∃ z : Int32, z = ((1 : Int32) + (((XT.ushr p3 (2 : Int32)) &&& (65535 : Int32)) % (12 : Int32))) := ⟨_, rfl⟩
 refine own_s s₁ (mkF m 90 #[sI p1, sI p2, sI p3, sI p4, sJ p5, sS, sI w1, sI w2, sI w3, sI w4, sI w5, sI w6, sI w7, sU, sU, sU, sU, sU, sU, sU, sU, sU, sU, sU, sU, sU, sU, sU] []) (fun t k => ?_) ?_
 ·refine XS.istore X0.here hx rfl (hb hby at_75) rfl (l' := #[sI p1, sI p2, sI p3, sI p4, sJ p5, sS, sI w1, sI w2, sI w3, sI w4, sI w5, sI w6, sU, sU, sU, sU, sU, sU, sU, sU, sU, sU, sU, sU, sU, sU, sU, sU]) rfl ?_
  refine XT.iconstV X0.here hx rfl (1 : Int32) (hb hby at_77) rfl ?_
  refine XS.iloadN X0.here hx rfl (hb hby at_78) rfl ?_
  refine XT.iconstV X0.here hx rfl (2 : Int32) (hb hby at_79) rfl ?_
  refine XT.iushr X0.here hx rfl (hb hby at_80) rfl ?_
  refine X0.ldcI hx hown (mvT hZ (own_hw hw 0 rfl)) rfl (hb hby at_81) ?_
  refine XS.iand X0.here hx rfl (hb hby at_83) rfl ?_
  refine XT.bipushV X0.here hx rfl (12 : Int32) (hb hby at_84) rfl ?_
  refine iremM X0 hx rfl (hb hby at_86) rfl (by decide) ?_
  refine XS.iadd X0.here hx rfl (hb hby at_87) rfl ?_
  refine XS.istore X0.here hx rfl (hb hby at_88) rfl (l' := #[sI p1, sI p2, sI p3, sI p4, sJ p5, sS, sI w1, sI w2, sI w3, sI w4, sI w5, sI w6, sI ((1 : Int32) + (((XT.ushr p3 (2 : Int32)) &&& (65535 : Int32)) % (12 : Int32))), sU, sU, sU, sU, sU, sU, sU, sU, sU, sU, sU, sU, sU, sU, sU]) rfl ?_
  rw [qw7] at k
  exact k
 obtain ⟨w8, qw8⟩ : ∃ z : Int32, z = ((1 : Int32) <<< (w2 &&& 31)) := ⟨_, rfl⟩
 refine own_s s₁ (mkF m 96 #[sI p1, sI p2, sI p3, sI p4, sJ p5, sS, sI w1, sI w2, sI w3, sI w4, sI w5, sI w6, sI w7, sI w8, sU, sU, sU, sU, sU, sU, sU, sU, sU, sU, sU, sU, sU, sU] []) (fun t k => ?_) ?_
 ·refine XT.iconstV X0.here hx rfl (1 : Int32) (hb hby at_90) rfl ?_
  refine XS.iload X0.here hx rfl (hb hby at_91) rfl ?_
  refine XT.ishl X0.here hx rfl (hb hby at_93) rfl ?_
  refine XS.istore X0.here hx rfl (hb hby at_94) rfl (l' := #[sI p1, sI p2, sI p3, sI p4, sJ p5, sS, sI w1, sI w2, sI w3, sI w4, sI w5, sI w6, sI w7, sI ((1 : Int32) <<< (w2 &&& 31)), sU, sU, sU, sU, sU, sU, sU, sU, sU, sU, sU, sU, sU, sU]) rfl ?_
  rw [qw8] at k
  exact k
 refine own_s s₁ (mkF m 98 #[sI p1, sI p2, sI p3, sI p4, sJ p5, sS, sI w1, sI w2, sI w3, sI w4, sI w5, sI w6, sI w7, sI w8, sU, sU, sU, sU, sU, sU, sU, sU, sU, sU, sU, sU, sU, sU] [(.int w6)]) (fun t k => ?_) ?_
 ·exact XS.iload X0.here hx rfl (hb hby at_96) rfl k
 obtain ⟨w9, qw9⟩ : ∃ z : Int32, z = (if w6 = (0 : Int32) then (w1 + w2) else (1 : Int32)) := ⟨_, rfl⟩
 refine own_s s₁ (mkF m 110 #[sI p1, sI p2, sI p3, sI p4, sJ p5, sS, sI w1, sI w2, sI w3, sI w4, sI w5, sI w6, sI w7, sI w8, sU, sU, sU, sU, sU, sU, sU, sU, sU, sU, sU, sU, sU, sU] [(.int w9)]) (fun t k => ?_) ?_
 ·by_cases c98_1798 : w6 = (0 : Int32)
  ·refine XS.ifYes X0.here hx rfl (pc0 := 98) (pc' := 105) rfl (hb hby at_98) rfl (XT.i0_eq_t c98_1798) (by decide) (by decide) ?_
   refine XS.iload X0.here hx rfl (hb hby at_105) rfl ?_
   refine XS.iload X0.here hx rfl (hb hby at_107) rfl ?_
   refine XS.iadd X0.here hx rfl (hb hby at_109) rfl ?_
   rw [show w9 = (w1 + w2) from by rw [qw9, if_pos c98_1798]] at k
   exact k
  ·refine XS.ifNo X0.here hx rfl (hb hby at_98) rfl (XT.i0_eq_f c98_1798) ?_
   refine XT.iconstV X0.here hx rfl (1 : Int32) (hb hby at_101) rfl ?_
   refine XS.goto X0.here hx rfl (pc0 := 102) (pc' := 110) rfl (hb hby at_102) (by decide) (by decide) ?_
   rw [show w9 = (1 : Int32) from by rw [qw9, if_neg c98_1798]] at k
   exact k
 refine own_s s₁ (mkF m 112 #[sI p1, sI p2, sI p3, sI p4, sJ p5, sS, sI w1, sI w2, sI w3, sI w4, sI w5, sI w6, sI w7, sI w8, sI w9, sU, sU, sU, sU, sU, sU, sU, sU, sU, sU, sU, sU, sU] []) (fun t k => ?_) ?_
 ·exact XS.istore X0.here hx rfl (hb hby at_110) rfl (l' := #[sI p1, sI p2, sI p3, sI p4, sJ p5, sS, sI w1, sI w2, sI w3, sI w4, sI w5, sI w6, sI w7, sI w8, sI w9, sU, sU, sU, sU, sU, sU, sU, sU, sU, sU, sU, sU, sU]) rfl k
 obtain ⟨T, K, off, F, hT, hT12, hK, hK3, ho, ho0, ho1, hF, hF1, hF12, hc13, hG0, hG8⟩ := own_pars qw1 qw2 qw3 qw7 qw8
 refine own_s s₁ (mkF m 115 #[sI p1, sI p2, sI p3, sI p4, sJ p5, sS, sI w1, sI w2, sI w3, sI w4, sI w5, sI w6, sI w7, sI w8, sI w9, sU, sU, sU, sU, sU, sU, sU, sU, sU, sU, sU, sU, sU] [(.int (256 : Int32))]) (fun t k => ?_) ?_
 ·exact XT.sipushV X0.here hx rfl (256 : Int32) (hb hby at_112) rfl k
 obtain ⟨T1799, h1799, cA1799, X1799, e1799, E1799, Ar1799, st1799⟩ := newP X0 hx hZ (aty := .int) (own_hw hw 1 rfl) e0 (g := (mkF m 115 #[sI p1, sI p2, sI p3, sI p4, sJ p5, sS, sI w1, sI w2, sI w3, sI w4, sI w5, sI w6, sI w7, sI w8, sI w9, sU, sU, sU, sU, sU, sU, sU, sU, sU, sU, sU, sU, sU] [(.int (256 : Int32))])) rfl (hb hby at_115) rfl (by decide) (cap := 256) (by decide) (by decide) (by decide) (by decide)
 obtain ⟨ad1799, ga1799⟩ : ∃ z, z = h0.size := ⟨_, rfl⟩
 rw [← ga1799] at Ar1799 st1799
 refine OwnWp.step st1799 ?_
 have Z1799 : n0 ≤ h1799.size := Nat.le_trans Z0 E1799.1
 have b1799 : n0 ≤ ad1799 := Nat.le_trans Z0 (Nat.le_of_eq ga1799.symm)
 have F1800 : OwnA Z h1799 ad1799 .int (256 : Int32) (fun _ => (.int (0 : Int32))) := OwnA.new Ar1799 (by decide)
 refine own_s T1799 (mkF m 121 #[sI p1, sI p2, sI p3, sI p4, sJ p5, sS, sI w1, sI w2, sI w3, sI w4, sI w5, sI w6, sI w7, sI w8, sI w9, sA ad1799, sU, sU, sU, sU, sU, sU, sU, sU, sU, sU, sU, sU] [(.int w5)]) (fun t k => ?_) ?_
 ·refine XS.astore X1799.here hx rfl (hb hby at_117) rfl rfl (l' := #[sI p1, sI p2, sI p3, sI p4, sJ p5, sS, sI w1, sI w2, sI w3, sI w4, sI w5, sI w6, sI w7, sI w8, sI w9, sA ad1799, sU, sU, sU, sU, sU, sU, sU, sU, sU, sU, sU, sU]) rfl ?_
  exact XS.iload X1799.here hx rfl (hb hby at_119) rfl k
 by_cases c121_1801 : w5 = (0 : Int32)
 ·refine own_s T1799 (mkF m 124 #[sI p1, sI p2, sI p3, sI p4, sJ p5, sS, sI w1, sI w2, sI w3, sI w4, sI w5, sI w6, sI w7, sI w8, sI w9, sA ad1799, sU, sU, sU, sU, sU, sU, sU, sU, sU, sU, sU, sU] []) (fun t k => ?_) ?_
  ·exact XS.ifNo X1799.here hx rfl (hb hby at_121) rfl (XT.i0_ne_f c121_1801) k
  have hcase := own_cases hT hT12 hK hK3 qw6 qw9 c121_1801
  obtain ⟨ml, hmv, hcs⟩ := hcase
  obtain ⟨pz, hpz⟩ : ∃ z : Int → Int32, z = (fun _ => (0 : Int32)) := ⟨_, rfl⟩
  have f1802 : OwnA Z h1799 ad1799 .int (256 : Int32) (fun zi => .int (pz zi)) := by rw [hpz]; exact F1800
  have hg0 := own_Hg0 off (2 ^ K) (ml : Int) (f := pz) hG0 (fun i => by rw [hpz])
  refine own_s T1799 (mkF m 133 #[sI p1, sI p2, sI p3, sI p4, sJ p5, sS, sI w1, sI w2, sI w3, sI w4, sI w5, sI w6, sI w7, sI w8, sI w9, sA ad1799, sU, sU, sU, sU, sU, sU, sU, sU, sU, sU, sU, sU] [(.int w9), (.int w8), (.int (0 : Int32)), (.int w3), (.ref ad1799)]) (fun t k => ?_) ?_
  ·refine XS.aload X1799.here hx rfl (hb hby at_124) rfl rfl ?_
   refine XS.iload X1799.here hx rfl (hb hby at_126) rfl ?_
   refine XT.iconstV X1799.here hx rfl (0 : Int32) (hb hby at_128) rfl ?_
   refine XS.iload X1799.here hx rfl (hb hby at_129) rfl ?_
   exact XS.iload X1799.here hx rfl (hb hby at_131) rfl k
  obtain ⟨_, _, ⟨T1803, L1803, k1803, n1803⟩, -, X1803, ⟨Lc1803, hQ1803, l1803, y1803, z1803⟩, st1803⟩ := Jvm.LawKit.callS X1799 hx (y := Mn7) hown (mvT hZ (own_hw hw 82 rfl)) (mvT hZ (own_hw hw 83 rfl)) (mvT hZ (own_hw hw 84 rfl)) (mvT hZ (own_hw hw 85 rfl)) (by decide) (backOf (W := 0) (rm14 l Z a0 hw [] ad1799 w3 (0 : Int32) w8 w9 pz h1799 n0 Z1799 b1799 f1802) hZ (own_hw hw 85 rfl) (own_hw hw 84 rfl) (by decide) (by decide)) (g := (mkF m 133 #[sI p1, sI p2, sI p3, sI p4, sJ p5, sS, sI w1, sI w2, sI w3, sI w4, sI w5, sI w6, sI w7, sI w8, sI w9, sA ad1799, sU, sU, sU, sU, sU, sU, sU, sU, sU, sU, sU, sU] [(.int w9), (.int w8), (.int (0 : Int32)), (.int w3), (.ref ad1799)])) rfl (by rw [hml]; rfl) (argsL := [(.ref ad1799), (.int w3), (.int (0 : Int32)), (.int w8), (.int w9)]) (rest := []) (lenOf pd_14 rfl) rfl (by show 2 * 0 + _ ≤ _; exact Nat.le_of_eq rfl) (hb hby at_133) (fun _ _ => ⟨rfl, e1799, (by dsimp only [Pt.cells]; decide), (by dsimp only [Pt.slots]; decide)⟩)
  dsimp only [Pt.U, Pt.locs, Pt.cells, Pt.slots] at X1803 l1803 y1803 z1803 st1803 hQ1803
  subst l1803 y1803 z1803
  obtain ⟨rfl, Nc1803, Kc1803, aa1803⟩ := hQ1803
  have N1803 := Fr.app N0 Nc1803
  refine OwnWp.step st1803 ?_
  have Z1803 : n0 ≤ T1803.heap.size := Nat.le_trans Z1799 Kc1803.1
  obtain ⟨Lg1803, Xg1803, Ng1803⟩ := own_fold (c' := 1) (s' := 256) X1803 N1803 (by decide) (by decide)
  show OwnWp p e below s _ _ _ (T1803.setTop (mkF m 136 #[sI p1, sI p2, sI p3, sI p4, sJ p5, sS, sI w1, sI w2, sI w3, sI w4, sI w5, sI w6, sI w7, sI w8, sI w9, sA ad1799, sU, sU, sU, sU, sU, sU, sU, sU, sU, sU, sU, sU] []))
  obtain ⟨pu0, hpu0⟩ : ∃ z : Int → Int32, z = (own_put pz w3 (0 : Int32) w8 w9) := ⟨_, rfl⟩
  have f1805 : OwnA Z T1803.heap ad1799 .int (256 : Int32) (fun zi => .int (pu0 zi)) := by rw [hpu0]; exact aa1803
  have hg1 := own_putg (iI := (0 : Int32)) (i := 0) hg0 ho ho0 ho1 rfl (by decide) (by decide) hc13 hG0 hG8 hmv hpu0
  refine own_s T1803 (mkF m 145 #[sI p1, sI p2, sI p3, sI p4, sJ p5, sS, sI w1, sI w2, sI w3, sI w4, sI w5, sI w6, sI w7, sI w8, sI w9, sA ad1799, sU, sU, sU, sU, sU, sU, sU, sU, sU, sU, sU, sU] [(.int w9), (.int w8), (.int (1 : Int32)), (.int w3), (.ref ad1799)]) (fun t k => ?_) ?_
  ·refine XS.aload Xg1803.here hx rfl (hb hby at_136) rfl rfl ?_
   refine XS.iload Xg1803.here hx rfl (hb hby at_138) rfl ?_
   refine XT.iconstV Xg1803.here hx rfl (1 : Int32) (hb hby at_140) rfl ?_
   refine XS.iload Xg1803.here hx rfl (hb hby at_141) rfl ?_
   exact XS.iload Xg1803.here hx rfl (hb hby at_143) rfl k
  obtain ⟨_, _, ⟨T1806, L1806, k1806, n1806⟩, -, X1806, ⟨Lc1806, hQ1806, l1806, y1806, z1806⟩, st1806⟩ := Jvm.LawKit.callS Xg1803 hx (y := Mn7) hown (mvT hZ (own_hw hw 82 rfl)) (mvT hZ (own_hw hw 83 rfl)) (mvT hZ (own_hw hw 84 rfl)) (mvT hZ (own_hw hw 85 rfl)) (by decide) (backOf (W := 0) (rm14 l Z a0 hw [] ad1799 w3 (1 : Int32) w8 w9 pu0 T1803.heap n0 Z1803 b1799 f1805) hZ (own_hw hw 85 rfl) (own_hw hw 84 rfl) (by decide) (by decide)) (g := (mkF m 145 #[sI p1, sI p2, sI p3, sI p4, sJ p5, sS, sI w1, sI w2, sI w3, sI w4, sI w5, sI w6, sI w7, sI w8, sI w9, sA ad1799, sU, sU, sU, sU, sU, sU, sU, sU, sU, sU, sU, sU] [(.int w9), (.int w8), (.int (1 : Int32)), (.int w3), (.ref ad1799)])) rfl (by rw [hml]; rfl) (argsL := [(.ref ad1799), (.int w3), (.int (1 : Int32)), (.int w8), (.int w9)]) (rest := []) (lenOf pd_14 rfl) rfl (by show 2 * 0 + _ ≤ _; exact Nat.le_of_eq rfl) (hb hby at_145) (fun _ _ => ⟨rfl, (rfl : T1803.heap = T1803.heap), (by dsimp only [Pt.cells]; decide), (by dsimp only [Pt.slots]; decide)⟩)
  dsimp only [Pt.U, Pt.locs, Pt.cells, Pt.slots] at X1806 l1806 y1806 z1806 st1806 hQ1806
  subst l1806 y1806 z1806
  obtain ⟨rfl, Nc1806, Kc1806, aa1806⟩ := hQ1806
  have N1806 := Fr.app Ng1803 Nc1806
  refine OwnWp.step st1806 ?_
  have Z1806 : n0 ≤ T1806.heap.size := Nat.le_trans Z1803 Kc1806.1
  obtain ⟨Lg1806, Xg1806, Ng1806⟩ := own_fold (c' := 1) (s' := 256) X1806 N1806 (by decide) (by decide)
  show OwnWp p e below s _ _ _ (T1806.setTop (mkF m 148 #[sI p1, sI p2, sI p3, sI p4, sJ p5, sS, sI w1, sI w2, sI w3, sI w4, sI w5, sI w6, sI w7, sI w8, sI w9, sA ad1799, sU, sU, sU, sU, sU, sU, sU, sU, sU, sU, sU, sU] []))
  obtain ⟨pu1, hpu1⟩ : ∃ z : Int → Int32, z = (own_put pu0 w3 (1 : Int32) w8 w9) := ⟨_, rfl⟩
  have f1808 : OwnA Z T1806.heap ad1799 .int (256 : Int32) (fun zi => .int (pu1 zi)) := by rw [hpu1]; exact aa1806
  have hg2 := own_putg (iI := (1 : Int32)) (i := 1) hg1 ho ho0 ho1 rfl (by decide) (by decide) hc13 hG0 hG8 hmv hpu1
  refine own_s T1806 (mkF m 157 #[sI p1, sI p2, sI p3, sI p4, sJ p5, sS, sI w1, sI w2, sI w3, sI w4, sI w5, sI w6, sI w7, sI w8, sI w9, sA ad1799, sU, sU, sU, sU, sU, sU, sU, sU, sU, sU, sU, sU] [(.int w9), (.int w8), (.int (2 : Int32)), (.int w3), (.ref ad1799)]) (fun t k => ?_) ?_
  ·refine XS.aload Xg1806.here hx rfl (hb hby at_148) rfl rfl ?_
   refine XS.iload Xg1806.here hx rfl (hb hby at_150) rfl ?_
   refine XT.iconstV Xg1806.here hx rfl (2 : Int32) (hb hby at_152) rfl ?_
   refine XS.iload Xg1806.here hx rfl (hb hby at_153) rfl ?_
   exact XS.iload Xg1806.here hx rfl (hb hby at_155) rfl k
  obtain ⟨_, _, ⟨T1809, L1809, k1809, n1809⟩, -, X1809, ⟨Lc1809, hQ1809, l1809, y1809, z1809⟩, st1809⟩ := Jvm.LawKit.callS Xg1806 hx (y := Mn7) hown (mvT hZ (own_hw hw 82 rfl)) (mvT hZ (own_hw hw 83 rfl)) (mvT hZ (own_hw hw 84 rfl)) (mvT hZ (own_hw hw 85 rfl)) (by decide) (backOf (W := 0) (rm14 l Z a0 hw [] ad1799 w3 (2 : Int32) w8 w9 pu1 T1806.heap n0 Z1806 b1799 f1808) hZ (own_hw hw 85 rfl) (own_hw hw 84 rfl) (by decide) (by decide)) (g := (mkF m 157 #[sI p1, sI p2, sI p3, sI p4, sJ p5, sS, sI w1, sI w2, sI w3, sI w4, sI w5, sI w6, sI w7, sI w8, sI w9, sA ad1799, sU, sU, sU, sU, sU, sU, sU, sU, sU, sU, sU, sU] [(.int w9), (.int w8), (.int (2 : Int32)), (.int w3), (.ref ad1799)])) rfl (by rw [hml]; rfl) (argsL := [(.ref ad1799), (.int w3), (.int (2 : Int32)), (.int w8), (.int w9)]) (rest := []) (lenOf pd_14 rfl) rfl (by show 2 * 0 + _ ≤ _; exact Nat.le_of_eq rfl) (hb hby at_157) (fun _ _ => ⟨rfl, (rfl : T1806.heap = T1806.heap), (by dsimp only [Pt.cells]; decide), (by dsimp only [Pt.slots]; decide)⟩)
  dsimp only [Pt.U, Pt.locs, Pt.cells, Pt.slots] at X1809 l1809 y1809 z1809 st1809 hQ1809
  subst l1809 y1809 z1809
  obtain ⟨rfl, Nc1809, Kc1809, aa1809⟩ := hQ1809
  have N1809 := Fr.app Ng1806 Nc1809
  refine OwnWp.step st1809 ?_
  have Z1809 : n0 ≤ T1809.heap.size := Nat.le_trans Z1806 Kc1809.1
  obtain ⟨Lg1809, Xg1809, Ng1809⟩ := own_fold (c' := 1) (s' := 256) X1809 N1809 (by decide) (by decide)
  show OwnWp p e below s _ _ _ (T1809.setTop (mkF m 160 #[sI p1, sI p2, sI p3, sI p4, sJ p5, sS, sI w1, sI w2, sI w3, sI w4, sI w5, sI w6, sI w7, sI w8, sI w9, sA ad1799, sU, sU, sU, sU, sU, sU, sU, sU, sU, sU, sU, sU] []))
  obtain ⟨pu2, hpu2⟩ : ∃ z : Int → Int32, z = (own_put pu1 w3 (2 : Int32) w8 w9) := ⟨_, rfl⟩
  have f1811 : OwnA Z T1809.heap ad1799 .int (256 : Int32) (fun zi => .int (pu2 zi)) := by rw [hpu2]; exact aa1809
  have hg3 := own_putg (iI := (2 : Int32)) (i := 2) hg2 ho ho0 ho1 rfl (by decide) (by decide) hc13 hG0 hG8 hmv hpu2
  refine own_s T1809 (mkF m 169 #[sI p1, sI p2, sI p3, sI p4, sJ p5, sS, sI w1, sI w2, sI w3, sI w4, sI w5, sI w6, sI w7, sI w8, sI w9, sA ad1799, sU, sU, sU, sU, sU, sU, sU, sU, sU, sU, sU, sU] [(.int w9), (.int w8), (.int (3 : Int32)), (.int w3), (.ref ad1799)]) (fun t k => ?_) ?_
  ·refine XS.aload Xg1809.here hx rfl (hb hby at_160) rfl rfl ?_
   refine XS.iload Xg1809.here hx rfl (hb hby at_162) rfl ?_
   refine XT.iconstV Xg1809.here hx rfl (3 : Int32) (hb hby at_164) rfl ?_
   refine XS.iload Xg1809.here hx rfl (hb hby at_165) rfl ?_
   exact XS.iload Xg1809.here hx rfl (hb hby at_167) rfl k
  obtain ⟨_, _, ⟨T1812, L1812, k1812, n1812⟩, -, X1812, ⟨Lc1812, hQ1812, l1812, y1812, z1812⟩, st1812⟩ := Jvm.LawKit.callS Xg1809 hx (y := Mn7) hown (mvT hZ (own_hw hw 82 rfl)) (mvT hZ (own_hw hw 83 rfl)) (mvT hZ (own_hw hw 84 rfl)) (mvT hZ (own_hw hw 85 rfl)) (by decide) (backOf (W := 0) (rm14 l Z a0 hw [] ad1799 w3 (3 : Int32) w8 w9 pu2 T1809.heap n0 Z1809 b1799 f1811) hZ (own_hw hw 85 rfl) (own_hw hw 84 rfl) (by decide) (by decide)) (g := (mkF m 169 #[sI p1, sI p2, sI p3, sI p4, sJ p5, sS, sI w1, sI w2, sI w3, sI w4, sI w5, sI w6, sI w7, sI w8, sI w9, sA ad1799, sU, sU, sU, sU, sU, sU, sU, sU, sU, sU, sU, sU] [(.int w9), (.int w8), (.int (3 : Int32)), (.int w3), (.ref ad1799)])) rfl (by rw [hml]; rfl) (argsL := [(.ref ad1799), (.int w3), (.int (3 : Int32)), (.int w8), (.int w9)]) (rest := []) (lenOf pd_14 rfl) rfl (by show 2 * 0 + _ ≤ _; exact Nat.le_of_eq rfl) (hb hby at_169) (fun _ _ => ⟨rfl, (rfl : T1809.heap = T1809.heap), (by dsimp only [Pt.cells]; decide), (by dsimp only [Pt.slots]; decide)⟩)
  dsimp only [Pt.U, Pt.locs, Pt.cells, Pt.slots] at X1812 l1812 y1812 z1812 st1812 hQ1812
  subst l1812 y1812 z1812
  obtain ⟨rfl, Nc1812, Kc1812, aa1812⟩ := hQ1812
  have N1812 := Fr.app Ng1809 Nc1812
  refine OwnWp.step st1812 ?_
  have Z1812 : n0 ≤ T1812.heap.size := Nat.le_trans Z1809 Kc1812.1
  obtain ⟨Lg1812, Xg1812, Ng1812⟩ := own_fold (c' := 1) (s' := 256) X1812 N1812 (by decide) (by decide)
  show OwnWp p e below s _ _ _ (T1812.setTop (mkF m 172 #[sI p1, sI p2, sI p3, sI p4, sJ p5, sS, sI w1, sI w2, sI w3, sI w4, sI w5, sI w6, sI w7, sI w8, sI w9, sA ad1799, sU, sU, sU, sU, sU, sU, sU, sU, sU, sU, sU, sU] []))
  obtain ⟨pu3, hpu3⟩ : ∃ z : Int → Int32, z = (own_put pu2 w3 (3 : Int32) w8 w9) := ⟨_, rfl⟩
  have f1814 : OwnA Z T1812.heap ad1799 .int (256 : Int32) (fun zi => .int (pu3 zi)) := by rw [hpu3]; exact aa1812
  have hg4 := own_putg (iI := (3 : Int32)) (i := 3) hg3 ho ho0 ho1 rfl (by decide) (by decide) hc13 hG0 hG8 hmv hpu3
  refine own_s T1812 (mkF m 181 #[sI p1, sI p2, sI p3, sI p4, sJ p5, sS, sI w1, sI w2, sI w3, sI w4, sI w5, sI w6, sI w7, sI w8, sI w9, sA ad1799, sU, sU, sU, sU, sU, sU, sU, sU, sU, sU, sU, sU] [(.int w9), (.int w8), (.int (4 : Int32)), (.int w3), (.ref ad1799)]) (fun t k => ?_) ?_
  ·refine XS.aload Xg1812.here hx rfl (hb hby at_172) rfl rfl ?_
   refine XS.iload Xg1812.here hx rfl (hb hby at_174) rfl ?_
   refine XT.iconstV Xg1812.here hx rfl (4 : Int32) (hb hby at_176) rfl ?_
   refine XS.iload Xg1812.here hx rfl (hb hby at_177) rfl ?_
   exact XS.iload Xg1812.here hx rfl (hb hby at_179) rfl k
  obtain ⟨_, _, ⟨T1815, L1815, k1815, n1815⟩, -, X1815, ⟨Lc1815, hQ1815, l1815, y1815, z1815⟩, st1815⟩ := Jvm.LawKit.callS Xg1812 hx (y := Mn7) hown (mvT hZ (own_hw hw 82 rfl)) (mvT hZ (own_hw hw 83 rfl)) (mvT hZ (own_hw hw 84 rfl)) (mvT hZ (own_hw hw 85 rfl)) (by decide) (backOf (W := 0) (rm14 l Z a0 hw [] ad1799 w3 (4 : Int32) w8 w9 pu3 T1812.heap n0 Z1812 b1799 f1814) hZ (own_hw hw 85 rfl) (own_hw hw 84 rfl) (by decide) (by decide)) (g := (mkF m 181 #[sI p1, sI p2, sI p3, sI p4, sJ p5, sS, sI w1, sI w2, sI w3, sI w4, sI w5, sI w6, sI w7, sI w8, sI w9, sA ad1799, sU, sU, sU, sU, sU, sU, sU, sU, sU, sU, sU, sU] [(.int w9), (.int w8), (.int (4 : Int32)), (.int w3), (.ref ad1799)])) rfl (by rw [hml]; rfl) (argsL := [(.ref ad1799), (.int w3), (.int (4 : Int32)), (.int w8), (.int w9)]) (rest := []) (lenOf pd_14 rfl) rfl (by show 2 * 0 + _ ≤ _; exact Nat.le_of_eq rfl) (hb hby at_181) (fun _ _ => ⟨rfl, (rfl : T1812.heap = T1812.heap), (by dsimp only [Pt.cells]; decide), (by dsimp only [Pt.slots]; decide)⟩)
  dsimp only [Pt.U, Pt.locs, Pt.cells, Pt.slots] at X1815 l1815 y1815 z1815 st1815 hQ1815
  subst l1815 y1815 z1815
  obtain ⟨rfl, Nc1815, Kc1815, aa1815⟩ := hQ1815
  have N1815 := Fr.app Ng1812 Nc1815
  refine OwnWp.step st1815 ?_
  have Z1815 : n0 ≤ T1815.heap.size := Nat.le_trans Z1812 Kc1815.1
  obtain ⟨Lg1815, Xg1815, Ng1815⟩ := own_fold (c' := 1) (s' := 256) X1815 N1815 (by decide) (by decide)
  show OwnWp p e below s _ _ _ (T1815.setTop (mkF m 184 #[sI p1, sI p2, sI p3, sI p4, sJ p5, sS, sI w1, sI w2, sI w3, sI w4, sI w5, sI w6, sI w7, sI w8, sI w9, sA ad1799, sU, sU, sU, sU, sU, sU, sU, sU, sU, sU, sU, sU] []))
  obtain ⟨pu4, hpu4⟩ : ∃ z : Int → Int32, z = (own_put pu3 w3 (4 : Int32) w8 w9) := ⟨_, rfl⟩
  have f1817 : OwnA Z T1815.heap ad1799 .int (256 : Int32) (fun zi => .int (pu4 zi)) := by rw [hpu4]; exact aa1815
  have hg5 := own_putg (iI := (4 : Int32)) (i := 4) hg4 ho ho0 ho1 rfl (by decide) (by decide) hc13 hG0 hG8 hmv hpu4
  refine own_s T1815 (mkF m 193 #[sI p1, sI p2, sI p3, sI p4, sJ p5, sS, sI w1, sI w2, sI w3, sI w4, sI w5, sI w6, sI w7, sI w8, sI w9, sA ad1799, sU, sU, sU, sU, sU, sU, sU, sU, sU, sU, sU, sU] [(.int w9), (.int w8), (.int (5 : Int32)), (.int w3), (.ref ad1799)]) (fun t k => ?_) ?_
  ·refine XS.aload Xg1815.here hx rfl (hb hby at_184) rfl rfl ?_
   refine XS.iload Xg1815.here hx rfl (hb hby at_186) rfl ?_
   refine XT.iconstV Xg1815.here hx rfl (5 : Int32) (hb hby at_188) rfl ?_
   refine XS.iload Xg1815.here hx rfl (hb hby at_189) rfl ?_
   exact XS.iload Xg1815.here hx rfl (hb hby at_191) rfl k
  obtain ⟨_, _, ⟨T1818, L1818, k1818, n1818⟩, -, X1818, ⟨Lc1818, hQ1818, l1818, y1818, z1818⟩, st1818⟩ := Jvm.LawKit.callS Xg1815 hx (y := Mn7) hown (mvT hZ (own_hw hw 82 rfl)) (mvT hZ (own_hw hw 83 rfl)) (mvT hZ (own_hw hw 84 rfl)) (mvT hZ (own_hw hw 85 rfl)) (by decide) (backOf (W := 0) (rm14 l Z a0 hw [] ad1799 w3 (5 : Int32) w8 w9 pu4 T1815.heap n0 Z1815 b1799 f1817) hZ (own_hw hw 85 rfl) (own_hw hw 84 rfl) (by decide) (by decide)) (g := (mkF m 193 #[sI p1, sI p2, sI p3, sI p4, sJ p5, sS, sI w1, sI w2, sI w3, sI w4, sI w5, sI w6, sI w7, sI w8, sI w9, sA ad1799, sU, sU, sU, sU, sU, sU, sU, sU, sU, sU, sU, sU] [(.int w9), (.int w8), (.int (5 : Int32)), (.int w3), (.ref ad1799)])) rfl (by rw [hml]; rfl) (argsL := [(.ref ad1799), (.int w3), (.int (5 : Int32)), (.int w8), (.int w9)]) (rest := []) (lenOf pd_14 rfl) rfl (by show 2 * 0 + _ ≤ _; exact Nat.le_of_eq rfl) (hb hby at_193) (fun _ _ => ⟨rfl, (rfl : T1815.heap = T1815.heap), (by dsimp only [Pt.cells]; decide), (by dsimp only [Pt.slots]; decide)⟩)
  dsimp only [Pt.U, Pt.locs, Pt.cells, Pt.slots] at X1818 l1818 y1818 z1818 st1818 hQ1818
  subst l1818 y1818 z1818
  obtain ⟨rfl, Nc1818, Kc1818, aa1818⟩ := hQ1818
  have N1818 := Fr.app Ng1815 Nc1818
  refine OwnWp.step st1818 ?_
  have Z1818 : n0 ≤ T1818.heap.size := Nat.le_trans Z1815 Kc1818.1
  obtain ⟨Lg1818, Xg1818, Ng1818⟩ := own_fold (c' := 1) (s' := 256) X1818 N1818 (by decide) (by decide)
  show OwnWp p e below s _ _ _ (T1818.setTop (mkF m 196 #[sI p1, sI p2, sI p3, sI p4, sJ p5, sS, sI w1, sI w2, sI w3, sI w4, sI w5, sI w6, sI w7, sI w8, sI w9, sA ad1799, sU, sU, sU, sU, sU, sU, sU, sU, sU, sU, sU, sU] []))
  obtain ⟨pu5, hpu5⟩ : ∃ z : Int → Int32, z = (own_put pu4 w3 (5 : Int32) w8 w9) := ⟨_, rfl⟩
  have f1820 : OwnA Z T1818.heap ad1799 .int (256 : Int32) (fun zi => .int (pu5 zi)) := by rw [hpu5]; exact aa1818
  have hg6 := own_putg (iI := (5 : Int32)) (i := 5) hg5 ho ho0 ho1 rfl (by decide) (by decide) hc13 hG0 hG8 hmv hpu5
  refine own_s T1818 (mkF m 206 #[sI p1, sI p2, sI p3, sI p4, sJ p5, sS, sI w1, sI w2, sI w3, sI w4, sI w5, sI w6, sI w7, sI w8, sI w9, sA ad1799, sU, sU, sU, sU, sU, sU, sU, sU, sU, sU, sU, sU] [(.int w9), (.int w8), (.int (6 : Int32)), (.int w3), (.ref ad1799)]) (fun t k => ?_) ?_
  ·refine XS.aload Xg1818.here hx rfl (hb hby at_196) rfl rfl ?_
   refine XS.iload Xg1818.here hx rfl (hb hby at_198) rfl ?_
   refine XT.bipushV Xg1818.here hx rfl (6 : Int32) (hb hby at_200) rfl ?_
   refine XS.iload Xg1818.here hx rfl (hb hby at_202) rfl ?_
   exact XS.iload Xg1818.here hx rfl (hb hby at_204) rfl k
  obtain ⟨_, _, ⟨T1821, L1821, k1821, n1821⟩, -, X1821, ⟨Lc1821, hQ1821, l1821, y1821, z1821⟩, st1821⟩ := Jvm.LawKit.callS Xg1818 hx (y := Mn7) hown (mvT hZ (own_hw hw 82 rfl)) (mvT hZ (own_hw hw 83 rfl)) (mvT hZ (own_hw hw 84 rfl)) (mvT hZ (own_hw hw 85 rfl)) (by decide) (backOf (W := 0) (rm14 l Z a0 hw [] ad1799 w3 (6 : Int32) w8 w9 pu5 T1818.heap n0 Z1818 b1799 f1820) hZ (own_hw hw 85 rfl) (own_hw hw 84 rfl) (by decide) (by decide)) (g := (mkF m 206 #[sI p1, sI p2, sI p3, sI p4, sJ p5, sS, sI w1, sI w2, sI w3, sI w4, sI w5, sI w6, sI w7, sI w8, sI w9, sA ad1799, sU, sU, sU, sU, sU, sU, sU, sU, sU, sU, sU, sU] [(.int w9), (.int w8), (.int (6 : Int32)), (.int w3), (.ref ad1799)])) rfl (by rw [hml]; rfl) (argsL := [(.ref ad1799), (.int w3), (.int (6 : Int32)), (.int w8), (.int w9)]) (rest := []) (lenOf pd_14 rfl) rfl (by show 2 * 0 + _ ≤ _; exact Nat.le_of_eq rfl) (hb hby at_206) (fun _ _ => ⟨rfl, (rfl : T1818.heap = T1818.heap), (by dsimp only [Pt.cells]; decide), (by dsimp only [Pt.slots]; decide)⟩)
  dsimp only [Pt.U, Pt.locs, Pt.cells, Pt.slots] at X1821 l1821 y1821 z1821 st1821 hQ1821
  subst l1821 y1821 z1821
  obtain ⟨rfl, Nc1821, Kc1821, aa1821⟩ := hQ1821
  have N1821 := Fr.app Ng1818 Nc1821
  refine OwnWp.step st1821 ?_
  have Z1821 : n0 ≤ T1821.heap.size := Nat.le_trans Z1818 Kc1821.1
  obtain ⟨Lg1821, Xg1821, Ng1821⟩ := own_fold (c' := 1) (s' := 256) X1821 N1821 (by decide) (by decide)
  show OwnWp p e below s _ _ _ (T1821.setTop (mkF m 209 #[sI p1, sI p2, sI p3, sI p4, sJ p5, sS, sI w1, sI w2, sI w3, sI w4, sI w5, sI w6, sI w7, sI w8, sI w9, sA ad1799, sU, sU, sU, sU, sU, sU, sU, sU, sU, sU, sU, sU] []))
  obtain ⟨pu6, hpu6⟩ : ∃ z : Int → Int32, z = (own_put pu5 w3 (6 : Int32) w8 w9) := ⟨_, rfl⟩
  have f1823 : OwnA Z T1821.heap ad1799 .int (256 : Int32) (fun zi => .int (pu6 zi)) := by rw [hpu6]; exact aa1821
  have hg7 := own_putg (iI := (6 : Int32)) (i := 6) hg6 ho ho0 ho1 rfl (by decide) (by decide) hc13 hG0 hG8 hmv hpu6
  refine own_s T1821 (mkF m 219 #[sI p1, sI p2, sI p3, sI p4, sJ p5, sS, sI w1, sI w2, sI w3, sI w4, sI w5, sI w6, sI w7, sI w8, sI w9, sA ad1799, sU, sU, sU, sU, sU, sU, sU, sU, sU, sU, sU, sU] [(.int w9), (.int w8), (.int (7 : Int32)), (.int w3), (.ref ad1799)]) (fun t k => ?_) ?_
  ·refine XS.aload Xg1821.here hx rfl (hb hby at_209) rfl rfl ?_
   refine XS.iload Xg1821.here hx rfl (hb hby at_211) rfl ?_
   refine XT.bipushV Xg1821.here hx rfl (7 : Int32) (hb hby at_213) rfl ?_
   refine XS.iload Xg1821.here hx rfl (hb hby at_215) rfl ?_
   exact XS.iload Xg1821.here hx rfl (hb hby at_217) rfl k
  obtain ⟨_, _, ⟨T1824, L1824, k1824, n1824⟩, -, X1824, ⟨Lc1824, hQ1824, l1824, y1824, z1824⟩, st1824⟩ := Jvm.LawKit.callS Xg1821 hx (y := Mn7) hown (mvT hZ (own_hw hw 82 rfl)) (mvT hZ (own_hw hw 83 rfl)) (mvT hZ (own_hw hw 84 rfl)) (mvT hZ (own_hw hw 85 rfl)) (by decide) (backOf (W := 0) (rm14 l Z a0 hw [] ad1799 w3 (7 : Int32) w8 w9 pu6 T1821.heap n0 Z1821 b1799 f1823) hZ (own_hw hw 85 rfl) (own_hw hw 84 rfl) (by decide) (by decide)) (g := (mkF m 219 #[sI p1, sI p2, sI p3, sI p4, sJ p5, sS, sI w1, sI w2, sI w3, sI w4, sI w5, sI w6, sI w7, sI w8, sI w9, sA ad1799, sU, sU, sU, sU, sU, sU, sU, sU, sU, sU, sU, sU] [(.int w9), (.int w8), (.int (7 : Int32)), (.int w3), (.ref ad1799)])) rfl (by rw [hml]; rfl) (argsL := [(.ref ad1799), (.int w3), (.int (7 : Int32)), (.int w8), (.int w9)]) (rest := []) (lenOf pd_14 rfl) rfl (by show 2 * 0 + _ ≤ _; exact Nat.le_of_eq rfl) (hb hby at_219) (fun _ _ => ⟨rfl, (rfl : T1821.heap = T1821.heap), (by dsimp only [Pt.cells]; decide), (by dsimp only [Pt.slots]; decide)⟩)
  dsimp only [Pt.U, Pt.locs, Pt.cells, Pt.slots] at X1824 l1824 y1824 z1824 st1824 hQ1824
  subst l1824 y1824 z1824
  obtain ⟨rfl, Nc1824, Kc1824, aa1824⟩ := hQ1824
  have N1824 := Fr.app Ng1821 Nc1824
  refine OwnWp.step st1824 ?_
  have Z1824 : n0 ≤ T1824.heap.size := Nat.le_trans Z1821 Kc1824.1
  obtain ⟨Lg1824, Xg1824, Ng1824⟩ := own_fold (c' := 1) (s' := 256) X1824 N1824 (by decide) (by decide)
  show OwnWp p e below s _ _ _ (T1824.setTop (mkF m 222 #[sI p1, sI p2, sI p3, sI p4, sJ p5, sS, sI w1, sI w2, sI w3, sI w4, sI w5, sI w6, sI w7, sI w8, sI w9, sA ad1799, sU, sU, sU, sU, sU, sU, sU, sU, sU, sU, sU, sU] []))
  obtain ⟨pu7, hpu7⟩ : ∃ z : Int → Int32, z = (own_put pu6 w3 (7 : Int32) w8 w9) := ⟨_, rfl⟩
  have f1826 : OwnA Z T1824.heap ad1799 .int (256 : Int32) (fun zi => .int (pu7 zi)) := by rw [hpu7]; exact aa1824
  have hg8 := own_putg (iI := (7 : Int32)) (i := 7) hg7 ho ho0 ho1 rfl (by decide) (by decide) hc13 hG0 hG8 hmv hpu7
  refine own_s T1824 (mkF m 233 #[sI p1, sI p2, sI p3, sI p4, sJ p5, sS, sI w1, sI w2, sI w3, sI w4, sI w5, sI w6, sI w7, sI w8, sI w9, sA ad1799, sU, sU, sU, sU, sU, sU, sU, sU, sU, sU, sU, sU] [(.int (1 : Int32)), (.int w1), (.int (0 : Int32)), (.int (w3 + w8)), (.ref ad1799)]) (fun t k => ?_) ?_
  ·refine XS.aload Xg1824.here hx rfl (hb hby at_222) rfl rfl ?_
   refine XS.iload Xg1824.here hx rfl (hb hby at_224) rfl ?_
   refine XS.iload Xg1824.here hx rfl (hb hby at_226) rfl ?_
   refine XS.iadd Xg1824.here hx rfl (hb hby at_228) rfl ?_
   refine XT.iconstV Xg1824.here hx rfl (0 : Int32) (hb hby at_229) rfl ?_
   refine XS.iload Xg1824.here hx rfl (hb hby at_230) rfl ?_
   exact XT.iconstV Xg1824.here hx rfl (1 : Int32) (hb hby at_232) rfl k
  obtain ⟨_, _, ⟨T1827, L1827, k1827, n1827⟩, -, X1827, ⟨Lc1827, hQ1827, l1827, y1827, z1827⟩, st1827⟩ := Jvm.LawKit.callS Xg1824 hx (y := Mn7) hown (mvT hZ (own_hw hw 82 rfl)) (mvT hZ (own_hw hw 83 rfl)) (mvT hZ (own_hw hw 84 rfl)) (mvT hZ (own_hw hw 85 rfl)) (by decide) (backOf (W := 0) (rm14 l Z a0 hw [] ad1799 (w3 + w8) (0 : Int32) w1 (1 : Int32) pu7 T1824.heap n0 Z1824 b1799 f1826) hZ (own_hw hw 85 rfl) (own_hw hw 84 rfl) (by decide) (by decide)) (g := (mkF m 233 #[sI p1, sI p2, sI p3, sI p4, sJ p5, sS, sI w1, sI w2, sI w3, sI w4, sI w5, sI w6, sI w7, sI w8, sI w9, sA ad1799, sU, sU, sU, sU, sU, sU, sU, sU, sU, sU, sU, sU] [(.int (1 : Int32)), (.int w1), (.int (0 : Int32)), (.int (w3 + w8)), (.ref ad1799)])) rfl (by rw [hml]; rfl) (argsL := [(.ref ad1799), (.int (w3 + w8)), (.int (0 : Int32)), (.int w1), (.int (1 : Int32))]) (rest := []) (lenOf pd_14 rfl) rfl (by show 2 * 0 + _ ≤ _; exact Nat.le_of_eq rfl) (hb hby at_233) (fun _ _ => ⟨rfl, (rfl : T1824.heap = T1824.heap), (by dsimp only [Pt.cells]; decide), (by dsimp only [Pt.slots]; decide)⟩)
  dsimp only [Pt.U, Pt.locs, Pt.cells, Pt.slots] at X1827 l1827 y1827 z1827 st1827 hQ1827
  subst l1827 y1827 z1827
  obtain ⟨rfl, Nc1827, Kc1827, aa1827⟩ := hQ1827
  have N1827 := Fr.app Ng1824 Nc1827
  refine OwnWp.step st1827 ?_
  have Z1827 : n0 ≤ T1827.heap.size := Nat.le_trans Z1824 Kc1827.1
  obtain ⟨Lg1827, Xg1827, Ng1827⟩ := own_fold (c' := 1) (s' := 256) X1827 N1827 (by decide) (by decide)
  show OwnWp p e below s _ _ _ (T1827.setTop (mkF m 236 #[sI p1, sI p2, sI p3, sI p4, sJ p5, sS, sI w1, sI w2, sI w3, sI w4, sI w5, sI w6, sI w7, sI w8, sI w9, sA ad1799, sU, sU, sU, sU, sU, sU, sU, sU, sU, sU, sU, sU] []))
  obtain ⟨pu8, hpu8⟩ : ∃ z : Int → Int32, z = (own_put pu7 (w3 + w8) (0 : Int32) w1 (1 : Int32)) := ⟨_, rfl⟩
  have f1829 : OwnA Z T1827.heap ad1799 .int (256 : Int32) (fun zi => .int (pu8 zi)) := by rw [hpu8]; exact aa1827
  have hh0 := own_Hs0 (t := (T : Int)) (by omega) hG8 hg8
  have hh1 := own_puts (jI := (0 : Int32)) (j := 0) (lI := (1 : Int32)) hh0 ho ho0 ho1 rfl (by decide) (by decide) hc13 hG0 hG8 hT (by omega) (by decide) hpu8
  refine own_s T1827 (mkF m 247 #[sI p1, sI p2, sI p3, sI p4, sJ p5, sS, sI w1, sI w2, sI w3, sI w4, sI w5, sI w6, sI w7, sI w8, sI w9, sA ad1799, sU, sU, sU, sU, sU, sU, sU, sU, sU, sU, sU, sU] [(.int (2 : Int32)), (.int w1), (.int (1 : Int32)), (.int (w3 + w8)), (.ref ad1799)]) (fun t k => ?_) ?_
  ·refine XS.aload Xg1827.here hx rfl (hb hby at_236) rfl rfl ?_
   refine XS.iload Xg1827.here hx rfl (hb hby at_238) rfl ?_
   refine XS.iload Xg1827.here hx rfl (hb hby at_240) rfl ?_
   refine XS.iadd Xg1827.here hx rfl (hb hby at_242) rfl ?_
   refine XT.iconstV Xg1827.here hx rfl (1 : Int32) (hb hby at_243) rfl ?_
   refine XS.iload Xg1827.here hx rfl (hb hby at_244) rfl ?_
   exact XT.iconstV Xg1827.here hx rfl (2 : Int32) (hb hby at_246) rfl k
  obtain ⟨_, _, ⟨T1830, L1830, k1830, n1830⟩, -, X1830, ⟨Lc1830, hQ1830, l1830, y1830, z1830⟩, st1830⟩ := Jvm.LawKit.callS Xg1827 hx (y := Mn7) hown (mvT hZ (own_hw hw 82 rfl)) (mvT hZ (own_hw hw 83 rfl)) (mvT hZ (own_hw hw 84 rfl)) (mvT hZ (own_hw hw 85 rfl)) (by decide) (backOf (W := 0) (rm14 l Z a0 hw [] ad1799 (w3 + w8) (1 : Int32) w1 (2 : Int32) pu8 T1827.heap n0 Z1827 b1799 f1829) hZ (own_hw hw 85 rfl) (own_hw hw 84 rfl) (by decide) (by decide)) (g := (mkF m 247 #[sI p1, sI p2, sI p3, sI p4, sJ p5, sS, sI w1, sI w2, sI w3, sI w4, sI w5, sI w6, sI w7, sI w8, sI w9, sA ad1799, sU, sU, sU, sU, sU, sU, sU, sU, sU, sU, sU, sU] [(.int (2 : Int32)), (.int w1), (.int (1 : Int32)), (.int (w3 + w8)), (.ref ad1799)])) rfl (by rw [hml]; rfl) (argsL := [(.ref ad1799), (.int (w3 + w8)), (.int (1 : Int32)), (.int w1), (.int (2 : Int32))]) (rest := []) (lenOf pd_14 rfl) rfl (by show 2 * 0 + _ ≤ _; exact Nat.le_of_eq rfl) (hb hby at_247) (fun _ _ => ⟨rfl, (rfl : T1827.heap = T1827.heap), (by dsimp only [Pt.cells]; decide), (by dsimp only [Pt.slots]; decide)⟩)
  dsimp only [Pt.U, Pt.locs, Pt.cells, Pt.slots] at X1830 l1830 y1830 z1830 st1830 hQ1830
  subst l1830 y1830 z1830
  obtain ⟨rfl, Nc1830, Kc1830, aa1830⟩ := hQ1830
  have N1830 := Fr.app Ng1827 Nc1830
  refine OwnWp.step st1830 ?_
  have Z1830 : n0 ≤ T1830.heap.size := Nat.le_trans Z1827 Kc1830.1
  obtain ⟨Lg1830, Xg1830, Ng1830⟩ := own_fold (c' := 1) (s' := 256) X1830 N1830 (by decide) (by decide)
  show OwnWp p e below s _ _ _ (T1830.setTop (mkF m 250 #[sI p1, sI p2, sI p3, sI p4, sJ p5, sS, sI w1, sI w2, sI w3, sI w4, sI w5, sI w6, sI w7, sI w8, sI w9, sA ad1799, sU, sU, sU, sU, sU, sU, sU, sU, sU, sU, sU, sU] []))
  obtain ⟨pu9, hpu9⟩ : ∃ z : Int → Int32, z = (own_put pu8 (w3 + w8) (1 : Int32) w1 (2 : Int32)) := ⟨_, rfl⟩
  have f1832 : OwnA Z T1830.heap ad1799 .int (256 : Int32) (fun zi => .int (pu9 zi)) := by rw [hpu9]; exact aa1830
  have hh2 := own_puts (jI := (1 : Int32)) (j := 1) (lI := (2 : Int32)) hh1 ho ho0 ho1 rfl (by decide) (by decide) hc13 hG0 hG8 hT (by omega) (by decide) hpu9
  refine own_s T1830 (mkF m 261 #[sI p1, sI p2, sI p3, sI p4, sJ p5, sS, sI w1, sI w2, sI w3, sI w4, sI w5, sI w6, sI w7, sI w8, sI w9, sA ad1799, sU, sU, sU, sU, sU, sU, sU, sU, sU, sU, sU, sU] [(.int (3 : Int32)), (.int w1), (.int (2 : Int32)), (.int (w3 + w8)), (.ref ad1799)]) (fun t k => ?_) ?_
  ·refine XS.aload Xg1830.here hx rfl (hb hby at_250) rfl rfl ?_
   refine XS.iload Xg1830.here hx rfl (hb hby at_252) rfl ?_
   refine XS.iload Xg1830.here hx rfl (hb hby at_254) rfl ?_
   refine XS.iadd Xg1830.here hx rfl (hb hby at_256) rfl ?_
   refine XT.iconstV Xg1830.here hx rfl (2 : Int32) (hb hby at_257) rfl ?_
   refine XS.iload Xg1830.here hx rfl (hb hby at_258) rfl ?_
   exact XT.iconstV Xg1830.here hx rfl (3 : Int32) (hb hby at_260) rfl k
  obtain ⟨_, _, ⟨T1833, L1833, k1833, n1833⟩, -, X1833, ⟨Lc1833, hQ1833, l1833, y1833, z1833⟩, st1833⟩ := Jvm.LawKit.callS Xg1830 hx (y := Mn7) hown (mvT hZ (own_hw hw 82 rfl)) (mvT hZ (own_hw hw 83 rfl)) (mvT hZ (own_hw hw 84 rfl)) (mvT hZ (own_hw hw 85 rfl)) (by decide) (backOf (W := 0) (rm14 l Z a0 hw [] ad1799 (w3 + w8) (2 : Int32) w1 (3 : Int32) pu9 T1830.heap n0 Z1830 b1799 f1832) hZ (own_hw hw 85 rfl) (own_hw hw 84 rfl) (by decide) (by decide)) (g := (mkF m 261 #[sI p1, sI p2, sI p3, sI p4, sJ p5, sS, sI w1, sI w2, sI w3, sI w4, sI w5, sI w6, sI w7, sI w8, sI w9, sA ad1799, sU, sU, sU, sU, sU, sU, sU, sU, sU, sU, sU, sU] [(.int (3 : Int32)), (.int w1), (.int (2 : Int32)), (.int (w3 + w8)), (.ref ad1799)])) rfl (by rw [hml]; rfl) (argsL := [(.ref ad1799), (.int (w3 + w8)), (.int (2 : Int32)), (.int w1), (.int (3 : Int32))]) (rest := []) (lenOf pd_14 rfl) rfl (by show 2 * 0 + _ ≤ _; exact Nat.le_of_eq rfl) (hb hby at_261) (fun _ _ => ⟨rfl, (rfl : T1830.heap = T1830.heap), (by dsimp only [Pt.cells]; decide), (by dsimp only [Pt.slots]; decide)⟩)
  dsimp only [Pt.U, Pt.locs, Pt.cells, Pt.slots] at X1833 l1833 y1833 z1833 st1833 hQ1833
  subst l1833 y1833 z1833
  obtain ⟨rfl, Nc1833, Kc1833, aa1833⟩ := hQ1833
  have N1833 := Fr.app Ng1830 Nc1833
  refine OwnWp.step st1833 ?_
  have Z1833 : n0 ≤ T1833.heap.size := Nat.le_trans Z1830 Kc1833.1
  obtain ⟨Lg1833, Xg1833, Ng1833⟩ := own_fold (c' := 1) (s' := 256) X1833 N1833 (by decide) (by decide)
  show OwnWp p e below s _ _ _ (T1833.setTop (mkF m 264 #[sI p1, sI p2, sI p3, sI p4, sJ p5, sS, sI w1, sI w2, sI w3, sI w4, sI w5, sI w6, sI w7, sI w8, sI w9, sA ad1799, sU, sU, sU, sU, sU, sU, sU, sU, sU, sU, sU, sU] []))
  obtain ⟨pu10, hpu10⟩ : ∃ z : Int → Int32, z = (own_put pu9 (w3 + w8) (2 : Int32) w1 (3 : Int32)) := ⟨_, rfl⟩
  have f1835 : OwnA Z T1833.heap ad1799 .int (256 : Int32) (fun zi => .int (pu10 zi)) := by rw [hpu10]; exact aa1833
  have hh3 := own_puts (jI := (2 : Int32)) (j := 2) (lI := (3 : Int32)) hh2 ho ho0 ho1 rfl (by decide) (by decide) hc13 hG0 hG8 hT (by omega) (by decide) hpu10
  refine own_s T1833 (mkF m 275 #[sI p1, sI p2, sI p3, sI p4, sJ p5, sS, sI w1, sI w2, sI w3, sI w4, sI w5, sI w6, sI w7, sI w8, sI w9, sA ad1799, sU, sU, sU, sU, sU, sU, sU, sU, sU, sU, sU, sU] [(.int (4 : Int32)), (.int w1), (.int (3 : Int32)), (.int (w3 + w8)), (.ref ad1799)]) (fun t k => ?_) ?_
  ·refine XS.aload Xg1833.here hx rfl (hb hby at_264) rfl rfl ?_
   refine XS.iload Xg1833.here hx rfl (hb hby at_266) rfl ?_
   refine XS.iload Xg1833.here hx rfl (hb hby at_268) rfl ?_
   refine XS.iadd Xg1833.here hx rfl (hb hby at_270) rfl ?_
   refine XT.iconstV Xg1833.here hx rfl (3 : Int32) (hb hby at_271) rfl ?_
   refine XS.iload Xg1833.here hx rfl (hb hby at_272) rfl ?_
   exact XT.iconstV Xg1833.here hx rfl (4 : Int32) (hb hby at_274) rfl k
  obtain ⟨_, _, ⟨T1836, L1836, k1836, n1836⟩, -, X1836, ⟨Lc1836, hQ1836, l1836, y1836, z1836⟩, st1836⟩ := Jvm.LawKit.callS Xg1833 hx (y := Mn7) hown (mvT hZ (own_hw hw 82 rfl)) (mvT hZ (own_hw hw 83 rfl)) (mvT hZ (own_hw hw 84 rfl)) (mvT hZ (own_hw hw 85 rfl)) (by decide) (backOf (W := 0) (rm14 l Z a0 hw [] ad1799 (w3 + w8) (3 : Int32) w1 (4 : Int32) pu10 T1833.heap n0 Z1833 b1799 f1835) hZ (own_hw hw 85 rfl) (own_hw hw 84 rfl) (by decide) (by decide)) (g := (mkF m 275 #[sI p1, sI p2, sI p3, sI p4, sJ p5, sS, sI w1, sI w2, sI w3, sI w4, sI w5, sI w6, sI w7, sI w8, sI w9, sA ad1799, sU, sU, sU, sU, sU, sU, sU, sU, sU, sU, sU, sU] [(.int (4 : Int32)), (.int w1), (.int (3 : Int32)), (.int (w3 + w8)), (.ref ad1799)])) rfl (by rw [hml]; rfl) (argsL := [(.ref ad1799), (.int (w3 + w8)), (.int (3 : Int32)), (.int w1), (.int (4 : Int32))]) (rest := []) (lenOf pd_14 rfl) rfl (by show 2 * 0 + _ ≤ _; exact Nat.le_of_eq rfl) (hb hby at_275) (fun _ _ => ⟨rfl, (rfl : T1833.heap = T1833.heap), (by dsimp only [Pt.cells]; decide), (by dsimp only [Pt.slots]; decide)⟩)
  dsimp only [Pt.U, Pt.locs, Pt.cells, Pt.slots] at X1836 l1836 y1836 z1836 st1836 hQ1836
  subst l1836 y1836 z1836
  obtain ⟨rfl, Nc1836, Kc1836, aa1836⟩ := hQ1836
  have N1836 := Fr.app Ng1833 Nc1836
  refine OwnWp.step st1836 ?_
  have Z1836 : n0 ≤ T1836.heap.size := Nat.le_trans Z1833 Kc1836.1
  obtain ⟨Lg1836, Xg1836, Ng1836⟩ := own_fold (c' := 1) (s' := 256) X1836 N1836 (by decide) (by decide)
  show OwnWp p e below s _ _ _ (T1836.setTop (mkF m 278 #[sI p1, sI p2, sI p3, sI p4, sJ p5, sS, sI w1, sI w2, sI w3, sI w4, sI w5, sI w6, sI w7, sI w8, sI w9, sA ad1799, sU, sU, sU, sU, sU, sU, sU, sU, sU, sU, sU, sU] []))
  obtain ⟨pu11, hpu11⟩ : ∃ z : Int → Int32, z = (own_put pu10 (w3 + w8) (3 : Int32) w1 (4 : Int32)) := ⟨_, rfl⟩
  have f1838 : OwnA Z T1836.heap ad1799 .int (256 : Int32) (fun zi => .int (pu11 zi)) := by rw [hpu11]; exact aa1836
  have hh4 := own_puts (jI := (3 : Int32)) (j := 3) (lI := (4 : Int32)) hh3 ho ho0 ho1 rfl (by decide) (by decide) hc13 hG0 hG8 hT (by omega) (by decide) hpu11
  refine own_s T1836 (mkF m 289 #[sI p1, sI p2, sI p3, sI p4, sJ p5, sS, sI w1, sI w2, sI w3, sI w4, sI w5, sI w6, sI w7, sI w8, sI w9, sA ad1799, sU, sU, sU, sU, sU, sU, sU, sU, sU, sU, sU, sU] [(.int (5 : Int32)), (.int w1), (.int (4 : Int32)), (.int (w3 + w8)), (.ref ad1799)]) (fun t k => ?_) ?_
  ·refine XS.aload Xg1836.here hx rfl (hb hby at_278) rfl rfl ?_
   refine XS.iload Xg1836.here hx rfl (hb hby at_280) rfl ?_
   refine XS.iload Xg1836.here hx rfl (hb hby at_282) rfl ?_
   refine XS.iadd Xg1836.here hx rfl (hb hby at_284) rfl ?_
   refine XT.iconstV Xg1836.here hx rfl (4 : Int32) (hb hby at_285) rfl ?_
   refine XS.iload Xg1836.here hx rfl (hb hby at_286) rfl ?_
   exact XT.iconstV Xg1836.here hx rfl (5 : Int32) (hb hby at_288) rfl k
  obtain ⟨_, _, ⟨T1839, L1839, k1839, n1839⟩, -, X1839, ⟨Lc1839, hQ1839, l1839, y1839, z1839⟩, st1839⟩ := Jvm.LawKit.callS Xg1836 hx (y := Mn7) hown (mvT hZ (own_hw hw 82 rfl)) (mvT hZ (own_hw hw 83 rfl)) (mvT hZ (own_hw hw 84 rfl)) (mvT hZ (own_hw hw 85 rfl)) (by decide) (backOf (W := 0) (rm14 l Z a0 hw [] ad1799 (w3 + w8) (4 : Int32) w1 (5 : Int32) pu11 T1836.heap n0 Z1836 b1799 f1838) hZ (own_hw hw 85 rfl) (own_hw hw 84 rfl) (by decide) (by decide)) (g := (mkF m 289 #[sI p1, sI p2, sI p3, sI p4, sJ p5, sS, sI w1, sI w2, sI w3, sI w4, sI w5, sI w6, sI w7, sI w8, sI w9, sA ad1799, sU, sU, sU, sU, sU, sU, sU, sU, sU, sU, sU, sU] [(.int (5 : Int32)), (.int w1), (.int (4 : Int32)), (.int (w3 + w8)), (.ref ad1799)])) rfl (by rw [hml]; rfl) (argsL := [(.ref ad1799), (.int (w3 + w8)), (.int (4 : Int32)), (.int w1), (.int (5 : Int32))]) (rest := []) (lenOf pd_14 rfl) rfl (by show 2 * 0 + _ ≤ _; exact Nat.le_of_eq rfl) (hb hby at_289) (fun _ _ => ⟨rfl, (rfl : T1836.heap = T1836.heap), (by dsimp only [Pt.cells]; decide), (by dsimp only [Pt.slots]; decide)⟩)
  dsimp only [Pt.U, Pt.locs, Pt.cells, Pt.slots] at X1839 l1839 y1839 z1839 st1839 hQ1839
  subst l1839 y1839 z1839
  obtain ⟨rfl, Nc1839, Kc1839, aa1839⟩ := hQ1839
  have N1839 := Fr.app Ng1836 Nc1839
  refine OwnWp.step st1839 ?_
  have Z1839 : n0 ≤ T1839.heap.size := Nat.le_trans Z1836 Kc1839.1
  obtain ⟨Lg1839, Xg1839, Ng1839⟩ := own_fold (c' := 1) (s' := 256) X1839 N1839 (by decide) (by decide)
  show OwnWp p e below s _ _ _ (T1839.setTop (mkF m 292 #[sI p1, sI p2, sI p3, sI p4, sJ p5, sS, sI w1, sI w2, sI w3, sI w4, sI w5, sI w6, sI w7, sI w8, sI w9, sA ad1799, sU, sU, sU, sU, sU, sU, sU, sU, sU, sU, sU, sU] []))
  obtain ⟨pu12, hpu12⟩ : ∃ z : Int → Int32, z = (own_put pu11 (w3 + w8) (4 : Int32) w1 (5 : Int32)) := ⟨_, rfl⟩
  have f1841 : OwnA Z T1839.heap ad1799 .int (256 : Int32) (fun zi => .int (pu12 zi)) := by rw [hpu12]; exact aa1839
  have hh5 := own_puts (jI := (4 : Int32)) (j := 4) (lI := (5 : Int32)) hh4 ho ho0 ho1 rfl (by decide) (by decide) hc13 hG0 hG8 hT (by omega) (by decide) hpu12
  refine own_s T1839 (mkF m 304 #[sI p1, sI p2, sI p3, sI p4, sJ p5, sS, sI w1, sI w2, sI w3, sI w4, sI w5, sI w6, sI w7, sI w8, sI w9, sA ad1799, sU, sU, sU, sU, sU, sU, sU, sU, sU, sU, sU, sU] [(.int (6 : Int32)), (.int w1), (.int (5 : Int32)), (.int (w3 + w8)), (.ref ad1799)]) (fun t k => ?_) ?_
  ·refine XS.aload Xg1839.here hx rfl (hb hby at_292) rfl rfl ?_
   refine XS.iload Xg1839.here hx rfl (hb hby at_294) rfl ?_
   refine XS.iload Xg1839.here hx rfl (hb hby at_296) rfl ?_
   refine XS.iadd Xg1839.here hx rfl (hb hby at_298) rfl ?_
   refine XT.iconstV Xg1839.here hx rfl (5 : Int32) (hb hby at_299) rfl ?_
   refine XS.iload Xg1839.here hx rfl (hb hby at_300) rfl ?_
   exact XT.bipushV Xg1839.here hx rfl (6 : Int32) (hb hby at_302) rfl k
  obtain ⟨_, _, ⟨T1842, L1842, k1842, n1842⟩, -, X1842, ⟨Lc1842, hQ1842, l1842, y1842, z1842⟩, st1842⟩ := Jvm.LawKit.callS Xg1839 hx (y := Mn7) hown (mvT hZ (own_hw hw 82 rfl)) (mvT hZ (own_hw hw 83 rfl)) (mvT hZ (own_hw hw 84 rfl)) (mvT hZ (own_hw hw 85 rfl)) (by decide) (backOf (W := 0) (rm14 l Z a0 hw [] ad1799 (w3 + w8) (5 : Int32) w1 (6 : Int32) pu12 T1839.heap n0 Z1839 b1799 f1841) hZ (own_hw hw 85 rfl) (own_hw hw 84 rfl) (by decide) (by decide)) (g := (mkF m 304 #[sI p1, sI p2, sI p3, sI p4, sJ p5, sS, sI w1, sI w2, sI w3, sI w4, sI w5, sI w6, sI w7, sI w8, sI w9, sA ad1799, sU, sU, sU, sU, sU, sU, sU, sU, sU, sU, sU, sU] [(.int (6 : Int32)), (.int w1), (.int (5 : Int32)), (.int (w3 + w8)), (.ref ad1799)])) rfl (by rw [hml]; rfl) (argsL := [(.ref ad1799), (.int (w3 + w8)), (.int (5 : Int32)), (.int w1), (.int (6 : Int32))]) (rest := []) (lenOf pd_14 rfl) rfl (by show 2 * 0 + _ ≤ _; exact Nat.le_of_eq rfl) (hb hby at_304) (fun _ _ => ⟨rfl, (rfl : T1839.heap = T1839.heap), (by dsimp only [Pt.cells]; decide), (by dsimp only [Pt.slots]; decide)⟩)
  dsimp only [Pt.U, Pt.locs, Pt.cells, Pt.slots] at X1842 l1842 y1842 z1842 st1842 hQ1842
  subst l1842 y1842 z1842
  obtain ⟨rfl, Nc1842, Kc1842, aa1842⟩ := hQ1842
  have N1842 := Fr.app Ng1839 Nc1842
  refine OwnWp.step st1842 ?_
  have Z1842 : n0 ≤ T1842.heap.size := Nat.le_trans Z1839 Kc1842.1
  obtain ⟨Lg1842, Xg1842, Ng1842⟩ := own_fold (c' := 1) (s' := 256) X1842 N1842 (by decide) (by decide)
  show OwnWp p e below s _ _ _ (T1842.setTop (mkF m 307 #[sI p1, sI p2, sI p3, sI p4, sJ p5, sS, sI w1, sI w2, sI w3, sI w4, sI w5, sI w6, sI w7, sI w8, sI w9, sA ad1799, sU, sU, sU, sU, sU, sU, sU, sU, sU, sU, sU, sU] []))
  obtain ⟨pu13, hpu13⟩ : ∃ z : Int → Int32, z = (own_put pu12 (w3 + w8) (5 : Int32) w1 (6 : Int32)) := ⟨_, rfl⟩
  have f1844 : OwnA Z T1842.heap ad1799 .int (256 : Int32) (fun zi => .int (pu13 zi)) := by rw [hpu13]; exact aa1842
  have hh6 := own_puts (jI := (5 : Int32)) (j := 5) (lI := (6 : Int32)) hh5 ho ho0 ho1 rfl (by decide) (by decide) hc13 hG0 hG8 hT (by omega) (by decide) hpu13
  refine own_s T1842 (mkF m 320 #[sI p1, sI p2, sI p3, sI p4, sJ p5, sS, sI w1, sI w2, sI w3, sI w4, sI w5, sI w6, sI w7, sI w8, sI w9, sA ad1799, sU, sU, sU, sU, sU, sU, sU, sU, sU, sU, sU, sU] [(.int (7 : Int32)), (.int w1), (.int (6 : Int32)), (.int (w3 + w8)), (.ref ad1799)]) (fun t k => ?_) ?_
  ·refine XS.aload Xg1842.here hx rfl (hb hby at_307) rfl rfl ?_
   refine XS.iload Xg1842.here hx rfl (hb hby at_309) rfl ?_
   refine XS.iload Xg1842.here hx rfl (hb hby at_311) rfl ?_
   refine XS.iadd Xg1842.here hx rfl (hb hby at_313) rfl ?_
   refine XT.bipushV Xg1842.here hx rfl (6 : Int32) (hb hby at_314) rfl ?_
   refine XS.iload Xg1842.here hx rfl (hb hby at_316) rfl ?_
   exact XT.bipushV Xg1842.here hx rfl (7 : Int32) (hb hby at_318) rfl k
  obtain ⟨_, _, ⟨T1845, L1845, k1845, n1845⟩, -, X1845, ⟨Lc1845, hQ1845, l1845, y1845, z1845⟩, st1845⟩ := Jvm.LawKit.callS Xg1842 hx (y := Mn7) hown (mvT hZ (own_hw hw 82 rfl)) (mvT hZ (own_hw hw 83 rfl)) (mvT hZ (own_hw hw 84 rfl)) (mvT hZ (own_hw hw 85 rfl)) (by decide) (backOf (W := 0) (rm14 l Z a0 hw [] ad1799 (w3 + w8) (6 : Int32) w1 (7 : Int32) pu13 T1842.heap n0 Z1842 b1799 f1844) hZ (own_hw hw 85 rfl) (own_hw hw 84 rfl) (by decide) (by decide)) (g := (mkF m 320 #[sI p1, sI p2, sI p3, sI p4, sJ p5, sS, sI w1, sI w2, sI w3, sI w4, sI w5, sI w6, sI w7, sI w8, sI w9, sA ad1799, sU, sU, sU, sU, sU, sU, sU, sU, sU, sU, sU, sU] [(.int (7 : Int32)), (.int w1), (.int (6 : Int32)), (.int (w3 + w8)), (.ref ad1799)])) rfl (by rw [hml]; rfl) (argsL := [(.ref ad1799), (.int (w3 + w8)), (.int (6 : Int32)), (.int w1), (.int (7 : Int32))]) (rest := []) (lenOf pd_14 rfl) rfl (by show 2 * 0 + _ ≤ _; exact Nat.le_of_eq rfl) (hb hby at_320) (fun _ _ => ⟨rfl, (rfl : T1842.heap = T1842.heap), (by dsimp only [Pt.cells]; decide), (by dsimp only [Pt.slots]; decide)⟩)
  dsimp only [Pt.U, Pt.locs, Pt.cells, Pt.slots] at X1845 l1845 y1845 z1845 st1845 hQ1845
  subst l1845 y1845 z1845
  obtain ⟨rfl, Nc1845, Kc1845, aa1845⟩ := hQ1845
  have N1845 := Fr.app Ng1842 Nc1845
  refine OwnWp.step st1845 ?_
  have Z1845 : n0 ≤ T1845.heap.size := Nat.le_trans Z1842 Kc1845.1
  obtain ⟨Lg1845, Xg1845, Ng1845⟩ := own_fold (c' := 1) (s' := 256) X1845 N1845 (by decide) (by decide)
  show OwnWp p e below s _ _ _ (T1845.setTop (mkF m 323 #[sI p1, sI p2, sI p3, sI p4, sJ p5, sS, sI w1, sI w2, sI w3, sI w4, sI w5, sI w6, sI w7, sI w8, sI w9, sA ad1799, sU, sU, sU, sU, sU, sU, sU, sU, sU, sU, sU, sU] []))
  obtain ⟨pu14, hpu14⟩ : ∃ z : Int → Int32, z = (own_put pu13 (w3 + w8) (6 : Int32) w1 (7 : Int32)) := ⟨_, rfl⟩
  have f1847 : OwnA Z T1845.heap ad1799 .int (256 : Int32) (fun zi => .int (pu14 zi)) := by rw [hpu14]; exact aa1845
  have hh7 := own_puts (jI := (6 : Int32)) (j := 6) (lI := (7 : Int32)) hh6 ho ho0 ho1 rfl (by decide) (by decide) hc13 hG0 hG8 hT (by omega) (by decide) hpu14
  refine own_s T1845 (mkF m 336 #[sI p1, sI p2, sI p3, sI p4, sJ p5, sS, sI w1, sI w2, sI w3, sI w4, sI w5, sI w6, sI w7, sI w8, sI w9, sA ad1799, sU, sU, sU, sU, sU, sU, sU, sU, sU, sU, sU, sU] [(.int (8 : Int32)), (.int w1), (.int (7 : Int32)), (.int (w3 + w8)), (.ref ad1799)]) (fun t k => ?_) ?_
  ·refine XS.aload Xg1845.here hx rfl (hb hby at_323) rfl rfl ?_
   refine XS.iload Xg1845.here hx rfl (hb hby at_325) rfl ?_
   refine XS.iload Xg1845.here hx rfl (hb hby at_327) rfl ?_
   refine XS.iadd Xg1845.here hx rfl (hb hby at_329) rfl ?_
   refine XT.bipushV Xg1845.here hx rfl (7 : Int32) (hb hby at_330) rfl ?_
   refine XS.iload Xg1845.here hx rfl (hb hby at_332) rfl ?_
   exact XT.bipushV Xg1845.here hx rfl (8 : Int32) (hb hby at_334) rfl k
  obtain ⟨_, _, ⟨T1848, L1848, k1848, n1848⟩, -, X1848, ⟨Lc1848, hQ1848, l1848, y1848, z1848⟩, st1848⟩ := Jvm.LawKit.callS Xg1845 hx (y := Mn7) hown (mvT hZ (own_hw hw 82 rfl)) (mvT hZ (own_hw hw 83 rfl)) (mvT hZ (own_hw hw 84 rfl)) (mvT hZ (own_hw hw 85 rfl)) (by decide) (backOf (W := 0) (rm14 l Z a0 hw [] ad1799 (w3 + w8) (7 : Int32) w1 (8 : Int32) pu14 T1845.heap n0 Z1845 b1799 f1847) hZ (own_hw hw 85 rfl) (own_hw hw 84 rfl) (by decide) (by decide)) (g := (mkF m 336 #[sI p1, sI p2, sI p3, sI p4, sJ p5, sS, sI w1, sI w2, sI w3, sI w4, sI w5, sI w6, sI w7, sI w8, sI w9, sA ad1799, sU, sU, sU, sU, sU, sU, sU, sU, sU, sU, sU, sU] [(.int (8 : Int32)), (.int w1), (.int (7 : Int32)), (.int (w3 + w8)), (.ref ad1799)])) rfl (by rw [hml]; rfl) (argsL := [(.ref ad1799), (.int (w3 + w8)), (.int (7 : Int32)), (.int w1), (.int (8 : Int32))]) (rest := []) (lenOf pd_14 rfl) rfl (by show 2 * 0 + _ ≤ _; exact Nat.le_of_eq rfl) (hb hby at_336) (fun _ _ => ⟨rfl, (rfl : T1845.heap = T1845.heap), (by dsimp only [Pt.cells]; decide), (by dsimp only [Pt.slots]; decide)⟩)
  dsimp only [Pt.U, Pt.locs, Pt.cells, Pt.slots] at X1848 l1848 y1848 z1848 st1848 hQ1848
  subst l1848 y1848 z1848
  obtain ⟨rfl, Nc1848, Kc1848, aa1848⟩ := hQ1848
  have N1848 := Fr.app Ng1845 Nc1848
  refine OwnWp.step st1848 ?_
  have Z1848 : n0 ≤ T1848.heap.size := Nat.le_trans Z1845 Kc1848.1
  obtain ⟨Lg1848, Xg1848, Ng1848⟩ := own_fold (c' := 1) (s' := 256) X1848 N1848 (by decide) (by decide)
  show OwnWp p e below s _ _ _ (T1848.setTop (mkF m 339 #[sI p1, sI p2, sI p3, sI p4, sJ p5, sS, sI w1, sI w2, sI w3, sI w4, sI w5, sI w6, sI w7, sI w8, sI w9, sA ad1799, sU, sU, sU, sU, sU, sU, sU, sU, sU, sU, sU, sU] []))
  obtain ⟨pu15, hpu15⟩ : ∃ z : Int → Int32, z = (own_put pu14 (w3 + w8) (7 : Int32) w1 (8 : Int32)) := ⟨_, rfl⟩
  have f1850 : OwnA Z T1848.heap ad1799 .int (256 : Int32) (fun zi => .int (pu15 zi)) := by rw [hpu15]; exact aa1848
  have hh8 := own_puts (jI := (7 : Int32)) (j := 7) (lI := (8 : Int32)) hh7 ho ho0 ho1 rfl (by decide) (by decide) hc13 hG0 hG8 hT (by omega) (by decide) hpu15
  refine own_s T1848 (mkF m 352 #[sI p1, sI p2, sI p3, sI p4, sJ p5, sS, sI w1, sI w2, sI w3, sI w4, sI w5, sI w6, sI w7, sI w8, sI w9, sA ad1799, sU, sU, sU, sU, sU, sU, sU, sU, sU, sU, sU, sU] [(.int (9 : Int32)), (.int w1), (.int (8 : Int32)), (.int (w3 + w8)), (.ref ad1799)]) (fun t k => ?_) ?_
  ·refine XS.aload Xg1848.here hx rfl (hb hby at_339) rfl rfl ?_
   refine XS.iload Xg1848.here hx rfl (hb hby at_341) rfl ?_
   refine XS.iload Xg1848.here hx rfl (hb hby at_343) rfl ?_
   refine XS.iadd Xg1848.here hx rfl (hb hby at_345) rfl ?_
   refine XT.bipushV Xg1848.here hx rfl (8 : Int32) (hb hby at_346) rfl ?_
   refine XS.iload Xg1848.here hx rfl (hb hby at_348) rfl ?_
   exact XT.bipushV Xg1848.here hx rfl (9 : Int32) (hb hby at_350) rfl k
  obtain ⟨_, _, ⟨T1851, L1851, k1851, n1851⟩, -, X1851, ⟨Lc1851, hQ1851, l1851, y1851, z1851⟩, st1851⟩ := Jvm.LawKit.callS Xg1848 hx (y := Mn7) hown (mvT hZ (own_hw hw 82 rfl)) (mvT hZ (own_hw hw 83 rfl)) (mvT hZ (own_hw hw 84 rfl)) (mvT hZ (own_hw hw 85 rfl)) (by decide) (backOf (W := 0) (rm14 l Z a0 hw [] ad1799 (w3 + w8) (8 : Int32) w1 (9 : Int32) pu15 T1848.heap n0 Z1848 b1799 f1850) hZ (own_hw hw 85 rfl) (own_hw hw 84 rfl) (by decide) (by decide)) (g := (mkF m 352 #[sI p1, sI p2, sI p3, sI p4, sJ p5, sS, sI w1, sI w2, sI w3, sI w4, sI w5, sI w6, sI w7, sI w8, sI w9, sA ad1799, sU, sU, sU, sU, sU, sU, sU, sU, sU, sU, sU, sU] [(.int (9 : Int32)), (.int w1), (.int (8 : Int32)), (.int (w3 + w8)), (.ref ad1799)])) rfl (by rw [hml]; rfl) (argsL := [(.ref ad1799), (.int (w3 + w8)), (.int (8 : Int32)), (.int w1), (.int (9 : Int32))]) (rest := []) (lenOf pd_14 rfl) rfl (by show 2 * 0 + _ ≤ _; exact Nat.le_of_eq rfl) (hb hby at_352) (fun _ _ => ⟨rfl, (rfl : T1848.heap = T1848.heap), (by dsimp only [Pt.cells]; decide), (by dsimp only [Pt.slots]; decide)⟩)
  dsimp only [Pt.U, Pt.locs, Pt.cells, Pt.slots] at X1851 l1851 y1851 z1851 st1851 hQ1851
  subst l1851 y1851 z1851
  obtain ⟨rfl, Nc1851, Kc1851, aa1851⟩ := hQ1851
  have N1851 := Fr.app Ng1848 Nc1851
  refine OwnWp.step st1851 ?_
  have Z1851 : n0 ≤ T1851.heap.size := Nat.le_trans Z1848 Kc1851.1
  obtain ⟨Lg1851, Xg1851, Ng1851⟩ := own_fold (c' := 1) (s' := 256) X1851 N1851 (by decide) (by decide)
  show OwnWp p e below s _ _ _ (T1851.setTop (mkF m 355 #[sI p1, sI p2, sI p3, sI p4, sJ p5, sS, sI w1, sI w2, sI w3, sI w4, sI w5, sI w6, sI w7, sI w8, sI w9, sA ad1799, sU, sU, sU, sU, sU, sU, sU, sU, sU, sU, sU, sU] []))
  obtain ⟨pu16, hpu16⟩ : ∃ z : Int → Int32, z = (own_put pu15 (w3 + w8) (8 : Int32) w1 (9 : Int32)) := ⟨_, rfl⟩
  have f1853 : OwnA Z T1851.heap ad1799 .int (256 : Int32) (fun zi => .int (pu16 zi)) := by rw [hpu16]; exact aa1851
  have hh9 := own_puts (jI := (8 : Int32)) (j := 8) (lI := (9 : Int32)) hh8 ho ho0 ho1 rfl (by decide) (by decide) hc13 hG0 hG8 hT (by omega) (by decide) hpu16
  refine own_s T1851 (mkF m 368 #[sI p1, sI p2, sI p3, sI p4, sJ p5, sS, sI w1, sI w2, sI w3, sI w4, sI w5, sI w6, sI w7, sI w8, sI w9, sA ad1799, sU, sU, sU, sU, sU, sU, sU, sU, sU, sU, sU, sU] [(.int (10 : Int32)), (.int w1), (.int (9 : Int32)), (.int (w3 + w8)), (.ref ad1799)]) (fun t k => ?_) ?_
  ·refine XS.aload Xg1851.here hx rfl (hb hby at_355) rfl rfl ?_
   refine XS.iload Xg1851.here hx rfl (hb hby at_357) rfl ?_
   refine XS.iload Xg1851.here hx rfl (hb hby at_359) rfl ?_
   refine XS.iadd Xg1851.here hx rfl (hb hby at_361) rfl ?_
   refine XT.bipushV Xg1851.here hx rfl (9 : Int32) (hb hby at_362) rfl ?_
   refine XS.iload Xg1851.here hx rfl (hb hby at_364) rfl ?_
   exact XT.bipushV Xg1851.here hx rfl (10 : Int32) (hb hby at_366) rfl k
  obtain ⟨_, _, ⟨T1854, L1854, k1854, n1854⟩, -, X1854, ⟨Lc1854, hQ1854, l1854, y1854, z1854⟩, st1854⟩ := Jvm.LawKit.callS Xg1851 hx (y := Mn7) hown (mvT hZ (own_hw hw 82 rfl)) (mvT hZ (own_hw hw 83 rfl)) (mvT hZ (own_hw hw 84 rfl)) (mvT hZ (own_hw hw 85 rfl)) (by decide) (backOf (W := 0) (rm14 l Z a0 hw [] ad1799 (w3 + w8) (9 : Int32) w1 (10 : Int32) pu16 T1851.heap n0 Z1851 b1799 f1853) hZ (own_hw hw 85 rfl) (own_hw hw 84 rfl) (by decide) (by decide)) (g := (mkF m 368 #[sI p1, sI p2, sI p3, sI p4, sJ p5, sS, sI w1, sI w2, sI w3, sI w4, sI w5, sI w6, sI w7, sI w8, sI w9, sA ad1799, sU, sU, sU, sU, sU, sU, sU, sU, sU, sU, sU, sU] [(.int (10 : Int32)), (.int w1), (.int (9 : Int32)), (.int (w3 + w8)), (.ref ad1799)])) rfl (by rw [hml]; rfl) (argsL := [(.ref ad1799), (.int (w3 + w8)), (.int (9 : Int32)), (.int w1), (.int (10 : Int32))]) (rest := []) (lenOf pd_14 rfl) rfl (by show 2 * 0 + _ ≤ _; exact Nat.le_of_eq rfl) (hb hby at_368) (fun _ _ => ⟨rfl, (rfl : T1851.heap = T1851.heap), (by dsimp only [Pt.cells]; decide), (by dsimp only [Pt.slots]; decide)⟩)
  dsimp only [Pt.U, Pt.locs, Pt.cells, Pt.slots] at X1854 l1854 y1854 z1854 st1854 hQ1854
  subst l1854 y1854 z1854
  obtain ⟨rfl, Nc1854, Kc1854, aa1854⟩ := hQ1854
  have N1854 := Fr.app Ng1851 Nc1854
  refine OwnWp.step st1854 ?_
  have Z1854 : n0 ≤ T1854.heap.size := Nat.le_trans Z1851 Kc1854.1
  obtain ⟨Lg1854, Xg1854, Ng1854⟩ := own_fold (c' := 1) (s' := 256) X1854 N1854 (by decide) (by decide)
  show OwnWp p e below s _ _ _ (T1854.setTop (mkF m 371 #[sI p1, sI p2, sI p3, sI p4, sJ p5, sS, sI w1, sI w2, sI w3, sI w4, sI w5, sI w6, sI w7, sI w8, sI w9, sA ad1799, sU, sU, sU, sU, sU, sU, sU, sU, sU, sU, sU, sU] []))
  obtain ⟨pu17, hpu17⟩ : ∃ z : Int → Int32, z = (own_put pu16 (w3 + w8) (9 : Int32) w1 (10 : Int32)) := ⟨_, rfl⟩
  have f1856 : OwnA Z T1854.heap ad1799 .int (256 : Int32) (fun zi => .int (pu17 zi)) := by rw [hpu17]; exact aa1854
  have hh10 := own_puts (jI := (9 : Int32)) (j := 9) (lI := (10 : Int32)) hh9 ho ho0 ho1 rfl (by decide) (by decide) hc13 hG0 hG8 hT (by omega) (by decide) hpu17
  refine own_s T1854 (mkF m 384 #[sI p1, sI p2, sI p3, sI p4, sJ p5, sS, sI w1, sI w2, sI w3, sI w4, sI w5, sI w6, sI w7, sI w8, sI w9, sA ad1799, sU, sU, sU, sU, sU, sU, sU, sU, sU, sU, sU, sU] [(.int (11 : Int32)), (.int w1), (.int (10 : Int32)), (.int (w3 + w8)), (.ref ad1799)]) (fun t k => ?_) ?_
  ·refine XS.aload Xg1854.here hx rfl (hb hby at_371) rfl rfl ?_
   refine XS.iload Xg1854.here hx rfl (hb hby at_373) rfl ?_
   refine XS.iload Xg1854.here hx rfl (hb hby at_375) rfl ?_
   refine XS.iadd Xg1854.here hx rfl (hb hby at_377) rfl ?_
   refine XT.bipushV Xg1854.here hx rfl (10 : Int32) (hb hby at_378) rfl ?_
   refine XS.iload Xg1854.here hx rfl (hb hby at_380) rfl ?_
   exact XT.bipushV Xg1854.here hx rfl (11 : Int32) (hb hby at_382) rfl k
  obtain ⟨_, _, ⟨T1857, L1857, k1857, n1857⟩, -, X1857, ⟨Lc1857, hQ1857, l1857, y1857, z1857⟩, st1857⟩ := Jvm.LawKit.callS Xg1854 hx (y := Mn7) hown (mvT hZ (own_hw hw 82 rfl)) (mvT hZ (own_hw hw 83 rfl)) (mvT hZ (own_hw hw 84 rfl)) (mvT hZ (own_hw hw 85 rfl)) (by decide) (backOf (W := 0) (rm14 l Z a0 hw [] ad1799 (w3 + w8) (10 : Int32) w1 (11 : Int32) pu17 T1854.heap n0 Z1854 b1799 f1856) hZ (own_hw hw 85 rfl) (own_hw hw 84 rfl) (by decide) (by decide)) (g := (mkF m 384 #[sI p1, sI p2, sI p3, sI p4, sJ p5, sS, sI w1, sI w2, sI w3, sI w4, sI w5, sI w6, sI w7, sI w8, sI w9, sA ad1799, sU, sU, sU, sU, sU, sU, sU, sU, sU, sU, sU, sU] [(.int (11 : Int32)), (.int w1), (.int (10 : Int32)), (.int (w3 + w8)), (.ref ad1799)])) rfl (by rw [hml]; rfl) (argsL := [(.ref ad1799), (.int (w3 + w8)), (.int (10 : Int32)), (.int w1), (.int (11 : Int32))]) (rest := []) (lenOf pd_14 rfl) rfl (by show 2 * 0 + _ ≤ _; exact Nat.le_of_eq rfl) (hb hby at_384) (fun _ _ => ⟨rfl, (rfl : T1854.heap = T1854.heap), (by dsimp only [Pt.cells]; decide), (by dsimp only [Pt.slots]; decide)⟩)
  dsimp only [Pt.U, Pt.locs, Pt.cells, Pt.slots] at X1857 l1857 y1857 z1857 st1857 hQ1857
  subst l1857 y1857 z1857
  obtain ⟨rfl, Nc1857, Kc1857, aa1857⟩ := hQ1857
  have N1857 := Fr.app Ng1854 Nc1857
  refine OwnWp.step st1857 ?_
  have Z1857 : n0 ≤ T1857.heap.size := Nat.le_trans Z1854 Kc1857.1
  obtain ⟨Lg1857, Xg1857, Ng1857⟩ := own_fold (c' := 1) (s' := 256) X1857 N1857 (by decide) (by decide)
  show OwnWp p e below s _ _ _ (T1857.setTop (mkF m 387 #[sI p1, sI p2, sI p3, sI p4, sJ p5, sS, sI w1, sI w2, sI w3, sI w4, sI w5, sI w6, sI w7, sI w8, sI w9, sA ad1799, sU, sU, sU, sU, sU, sU, sU, sU, sU, sU, sU, sU] []))
  obtain ⟨pu18, hpu18⟩ : ∃ z : Int → Int32, z = (own_put pu17 (w3 + w8) (10 : Int32) w1 (11 : Int32)) := ⟨_, rfl⟩
  have f1859 : OwnA Z T1857.heap ad1799 .int (256 : Int32) (fun zi => .int (pu18 zi)) := by rw [hpu18]; exact aa1857
  have hh11 := own_puts (jI := (10 : Int32)) (j := 10) (lI := (11 : Int32)) hh10 ho ho0 ho1 rfl (by decide) (by decide) hc13 hG0 hG8 hT (by omega) (by decide) hpu18
  refine own_s T1857 (mkF m 400 #[sI p1, sI p2, sI p3, sI p4, sJ p5, sS, sI w1, sI w2, sI w3, sI w4, sI w5, sI w6, sI w7, sI w8, sI w9, sA ad1799, sU, sU, sU, sU, sU, sU, sU, sU, sU, sU, sU, sU] [(.int (12 : Int32)), (.int w1), (.int (11 : Int32)), (.int (w3 + w8)), (.ref ad1799)]) (fun t k => ?_) ?_
  ·refine XS.aload Xg1857.here hx rfl (hb hby at_387) rfl rfl ?_
   refine XS.iload Xg1857.here hx rfl (hb hby at_389) rfl ?_
   refine XS.iload Xg1857.here hx rfl (hb hby at_391) rfl ?_
   refine XS.iadd Xg1857.here hx rfl (hb hby at_393) rfl ?_
   refine XT.bipushV Xg1857.here hx rfl (11 : Int32) (hb hby at_394) rfl ?_
   refine XS.iload Xg1857.here hx rfl (hb hby at_396) rfl ?_
   exact XT.bipushV Xg1857.here hx rfl (12 : Int32) (hb hby at_398) rfl k
  obtain ⟨_, _, ⟨T1860, L1860, k1860, n1860⟩, -, X1860, ⟨Lc1860, hQ1860, l1860, y1860, z1860⟩, st1860⟩ := Jvm.LawKit.callS Xg1857 hx (y := Mn7) hown (mvT hZ (own_hw hw 82 rfl)) (mvT hZ (own_hw hw 83 rfl)) (mvT hZ (own_hw hw 84 rfl)) (mvT hZ (own_hw hw 85 rfl)) (by decide) (backOf (W := 0) (rm14 l Z a0 hw [] ad1799 (w3 + w8) (11 : Int32) w1 (12 : Int32) pu18 T1857.heap n0 Z1857 b1799 f1859) hZ (own_hw hw 85 rfl) (own_hw hw 84 rfl) (by decide) (by decide)) (g := (mkF m 400 #[sI p1, sI p2, sI p3, sI p4, sJ p5, sS, sI w1, sI w2, sI w3, sI w4, sI w5, sI w6, sI w7, sI w8, sI w9, sA ad1799, sU, sU, sU, sU, sU, sU, sU, sU, sU, sU, sU, sU] [(.int (12 : Int32)), (.int w1), (.int (11 : Int32)), (.int (w3 + w8)), (.ref ad1799)])) rfl (by rw [hml]; rfl) (argsL := [(.ref ad1799), (.int (w3 + w8)), (.int (11 : Int32)), (.int w1), (.int (12 : Int32))]) (rest := []) (lenOf pd_14 rfl) rfl (by show 2 * 0 + _ ≤ _; exact Nat.le_of_eq rfl) (hb hby at_400) (fun _ _ => ⟨rfl, (rfl : T1857.heap = T1857.heap), (by dsimp only [Pt.cells]; decide), (by dsimp only [Pt.slots]; decide)⟩)
  dsimp only [Pt.U, Pt.locs, Pt.cells, Pt.slots] at X1860 l1860 y1860 z1860 st1860 hQ1860
  subst l1860 y1860 z1860
  obtain ⟨rfl, Nc1860, Kc1860, aa1860⟩ := hQ1860
  have N1860 := Fr.app Ng1857 Nc1860
  refine OwnWp.step st1860 ?_
  have Z1860 : n0 ≤ T1860.heap.size := Nat.le_trans Z1857 Kc1860.1
  obtain ⟨Lg1860, Xg1860, Ng1860⟩ := own_fold (c' := 1) (s' := 256) X1860 N1860 (by decide) (by decide)
  show OwnWp p e below s _ _ _ (T1860.setTop (mkF m 403 #[sI p1, sI p2, sI p3, sI p4, sJ p5, sS, sI w1, sI w2, sI w3, sI w4, sI w5, sI w6, sI w7, sI w8, sI w9, sA ad1799, sU, sU, sU, sU, sU, sU, sU, sU, sU, sU, sU, sU] []))
  obtain ⟨pu19, hpu19⟩ : ∃ z : Int → Int32, z = (own_put pu18 (w3 + w8) (11 : Int32) w1 (12 : Int32)) := ⟨_, rfl⟩
  have f1862 : OwnA Z T1860.heap ad1799 .int (256 : Int32) (fun zi => .int (pu19 zi)) := by rw [hpu19]; exact aa1860
  have hh12 := own_puts (jI := (11 : Int32)) (j := 11) (lI := (12 : Int32)) hh11 ho ho0 ho1 rfl (by decide) (by decide) hc13 hG0 hG8 hT (by omega) (by decide) hpu19
  have hfm := own_Hs12 (by omega) hh12
  have hfam := own_famok hfm ho0 ho1 hT12 hK3 hcs
  have hfok : own_mx (own_num (own_L pu19) 256) ml ∧ own_kraft (own_num (own_L pu19) 256) ml ∧ ∀ b l : Nat, b ≤ 15 → l ≤ b → own_Sum (own_num (own_L pu19) 256) b (l + 1) ≤ 2 ^ b := ⟨hfam.1, hfam.2.1, hfam.2.2.1⟩
  have hlb := own_Lb hfm (by omega) (show (ml : Int) < 16 by have := hfam.1.1; omega) (by omega)
  obtain ⟨T1863, h1863, X1863, e1863, E1863, A1863, D1863, -, st1863⟩ := newO Xg1860 hx hZ hown (own_hw hw 2 rfl) (own_hw hw 3 rfl) (own_hw hw 4 rfl) (rfl : T1860.heap = T1860.heap) (g := (mkF m 403 #[sI p1, sI p2, sI p3, sI p4, sJ p5, sS, sI w1, sI w2, sI w3, sI w4, sI w5, sI w6, sI w7, sI w8, sI w9, sA ad1799, sU, sU, sU, sU, sU, sU, sU, sU, sU, sU, sU, sU] [])) rfl (hb hby at_403) (by decide) (by decide)
  obtain ⟨ad1863, ga1863⟩ : ∃ z, z = T1860.heap.size := ⟨_, rfl⟩
  rw [← ga1863] at A1863 D1863 st1863
  refine OwnWp.step st1863 ?_
  have ne1863_1864 : ad1799 ≠ ad1863 := Nat.ne_of_lt (by rw [ga1863]; exact f1862.lt)
  have Z1863 : n0 ≤ h1863.size := Nat.le_trans Z1860 E1863.1
  have b1863 : n0 ≤ ad1863 := Nat.le_trans Z1860 (Nat.le_of_eq ga1863.symm)
  have f1865 := OwnA.ext f1862 E1863
  have F1866 : Fld Z h1863 ad1863 DTn "entries" "[I" .null := D1863 (Or.inl (own_hw hw 12 rfl)) (ty := (.array .int)) (by decide)
  have F1867 : Fld Z h1863 ad1863 DTn "firstBits" "I" (.int (0 : Int32)) := D1863 (Or.inl (own_hw hw 56 rfl)) (ty := .int) (by decide)
  have F1868 : Fld Z h1863 ad1863 DTn "width" "I" (.int (0 : Int32)) := D1863 (Or.inl (own_hw hw 61 rfl)) (ty := .int) (by decide)
  have F1869 : Fld Z h1863 ad1863 DTn "expectedBits" "I" (.int (0 : Int32)) := D1863 (Or.inl (own_hw hw 75 rfl)) (ty := .int) (by decide)
  have F1870 : Fld Z h1863 ad1863 DTn "codeLengths" "[I" .null := D1863 (Or.inl (own_hw hw 54 rfl)) (ty := (.array .int)) (by decide)
  have F1871 : Fld Z h1863 ad1863 DTn "order" "[I" .null := D1863 (Or.inr (own_hw hw 14 rfl)) (ty := (.array .int)) (by decide)
  have F1872 : Fld Z h1863 ad1863 DTn "laneCounts" "[I" .null := D1863 (Or.inr (own_hw hw 16 rfl)) (ty := (.array .int)) (by decide)
  have F1873 : Fld Z h1863 ad1863 DTn "places" "[I" .null := D1863 (Or.inr (own_hw hw 18 rfl)) (ty := (.array .int)) (by decide)
  have F1874 : Fld Z h1863 ad1863 DTn "shortest" "I" (.int (0 : Int32)) := D1863 (Or.inl (own_hw hw 67 rfl)) (ty := .int) (by decide)
  have F1875 : Fld Z h1863 ad1863 DTn "longest" "I" (.int (0 : Int32)) := D1863 (Or.inl (own_hw hw 52 rfl)) (ty := .int) (by decide)
  have F1876 : Fld Z h1863 ad1863 DTn "follows" "[I" .null := D1863 (Or.inl (own_hw hw 20 rfl)) (ty := (.array .int)) (by decide)
  have F1877 : Fld Z h1863 ad1863 DTn "lasts" "[I" .null := D1863 (Or.inl (own_hw hw 22 rfl)) (ty := (.array .int)) (by decide)
  refine own_s T1863 (mkF m 407 #[sI p1, sI p2, sI p3, sI p4, sJ p5, sS, sI w1, sI w2, sI w3, sI w4, sI w5, sI w6, sI w7, sI w8, sI w9, sA ad1799, sU, sU, sU, sU, sU, sU, sU, sU, sU, sU, sU, sU] [(.ref ad1863), (.ref ad1863)]) (fun t k => ?_) ?_
  ·exact XS.dup X1863.here hx rfl (hb hby at_406) rfl rfl k
  obtain ⟨_, _, ⟨T1878, L1878, k1878, n1878⟩, -, X1878, ⟨Lc1878, hQ1878, l1878, y1878, z1878⟩, st1878⟩ := X1863.specialBack hx (y := Mn15) rfl hown (mvT hZ (own_hw hw 5 rfl)) (mvT hZ (own_hw hw 6 rfl)) (mvT hZ (own_hw hw 7 rfl)) (by decide) (backOf (W := 1) (rm1 l Z a0 hw [] ad1863 h1863 n0 Z1863 b1863 A1863 F1866 F1867 F1868 F1869 F1870 F1871 F1872 F1873 F1874 F1875 F1876 F1877) hZ (own_hw hw 7 rfl) (own_hw hw 4 rfl) (by decide) (by decide)) (g := (mkF m 407 #[sI p1, sI p2, sI p3, sI p4, sJ p5, sS, sI w1, sI w2, sI w3, sI w4, sI w5, sI w6, sI w7, sI w8, sI w9, sA ad1799, sU, sU, sU, sU, sU, sU, sU, sU, sU, sU, sU, sU] [(.ref ad1863), (.ref ad1863)])) rfl (by rw [hml]; rfl) (Steps.refl _) (a := ad1863) (argsL := []) (rest := [(.ref ad1863)]) (lenOf pd_1 rfl) rfl (by show 2 * 0 + _ ≤ _; exact Nat.le_of_eq rfl) (hb hby at_407) (fun _ _ => ⟨rfl, e1863, (by dsimp only [Pt.cells]; decide), (by dsimp only [Pt.slots]; decide)⟩)
  dsimp only [Pt.U, Pt.locs, Pt.cells, Pt.slots] at X1878 l1878 y1878 z1878 st1878 hQ1878
  subst l1878 y1878 z1878
  obtain ⟨rfl, Nc1878, Kc1878, ⟨en1878, od1878, lc1878, pl1878, fw1878, ls1878, z11878, z21878, z31878, z41878, z51878, z61878, k01878, k11878, k21878, k31878, k41878, k51878, k61878, v0_1878, v1_1878, v2_1878, v3_1878, v4_1878, v5_1878, v6_1878, v7_1878, v8_1878, v9_1878, v10_1878, v11_1878, ay11878, ay21878, ay31878, ay41878, ay51878⟩⟩ := hQ1878
  have N1878 := Fr.app Ng1860 Nc1878
  refine OwnWp.go st1878 ?_
  have Z1878 : n0 ≤ T1878.heap.size := Nat.le_trans Z1863 Kc1878.1
  have f1879 := OwnA.keep f1865 Kc1878 (ninS ne1863_1864 nin0)
  have f1880 := Exa.keep A1863 Kc1878
  show OwnWp p e below s _ _ _ (T1878.setTop (mkF m 410 #[sI p1, sI p2, sI p3, sI p4, sJ p5, sS, sI w1, sI w2, sI w3, sI w4, sI w5, sI w6, sI w7, sI w8, sI w9, sA ad1799, sU, sU, sU, sU, sU, sU, sU, sU, sU, sU, sU, sU] [(.ref ad1863)]))
  have lwen0_1878 : n0 ≤ en1878 := Nat.le_trans Z1863 z11878
  have na1893 : ad1799 ≠ en1878 := Nat.ne_of_lt (Nat.lt_of_lt_of_le (f1865).lt z11878)
  have na1894 : ad1863 ≠ en1878 := Nat.ne_of_lt (Nat.lt_of_lt_of_le (F1877).lt z11878)
  have lwod_1878 : n0 ≤ od1878 := Nat.le_trans Z1863 z21878
  have na1895 : ad1799 ≠ od1878 := Nat.ne_of_lt (Nat.lt_of_lt_of_le (f1865).lt z21878)
  have na1896 : ad1863 ≠ od1878 := Nat.ne_of_lt (Nat.lt_of_lt_of_le (F1877).lt z21878)
  have lwlc_1878 : n0 ≤ lc1878 := Nat.le_trans Z1863 z31878
  have na1897 : ad1799 ≠ lc1878 := Nat.ne_of_lt (Nat.lt_of_lt_of_le (f1865).lt z31878)
  have na1898 : ad1863 ≠ lc1878 := Nat.ne_of_lt (Nat.lt_of_lt_of_le (F1877).lt z31878)
  have lwpl_1878 : n0 ≤ pl1878 := Nat.le_trans Z1863 z41878
  have na1899 : ad1799 ≠ pl1878 := Nat.ne_of_lt (Nat.lt_of_lt_of_le (f1865).lt z41878)
  have na1900 : ad1863 ≠ pl1878 := Nat.ne_of_lt (Nat.lt_of_lt_of_le (F1877).lt z41878)
  have lwfw0_1878 : n0 ≤ fw1878 := Nat.le_trans Z1863 z51878
  have na1901 : ad1799 ≠ fw1878 := Nat.ne_of_lt (Nat.lt_of_lt_of_le (f1865).lt z51878)
  have na1902 : ad1863 ≠ fw1878 := Nat.ne_of_lt (Nat.lt_of_lt_of_le (F1877).lt z51878)
  have lwls0_1878 : n0 ≤ ls1878 := Nat.le_trans Z1863 z61878
  have na1903 : ad1799 ≠ ls1878 := Nat.ne_of_lt (Nat.lt_of_lt_of_le (f1865).lt z61878)
  have na1904 : ad1863 ≠ ls1878 := Nat.ne_of_lt (Nat.lt_of_lt_of_le (F1877).lt z61878)
  refine own_s T1878 (mkF m 420 #[sI p1, sI p2, sI p3, sI p4, sJ p5, sS, sI w1, sI w2, sI w3, sI w4, sI w5, sI w6, sI w7, sI w8, sI w9, sA ad1799, sA ad1863, sU, sU, sU, sU, sU, sU, sU, sU, sU, sU, sU] [(.int w4), (.int w7), (.ref ad1799), (.ref ad1863)]) (fun t k => ?_) ?_
  ·refine XS.astore X1878.here hx rfl (hb hby at_410) rfl rfl (l' := #[sI p1, sI p2, sI p3, sI p4, sJ p5, sS, sI w1, sI w2, sI w3, sI w4, sI w5, sI w6, sI w7, sI w8, sI w9, sA ad1799, sA ad1863, sU, sU, sU, sU, sU, sU, sU, sU, sU, sU, sU]) rfl ?_
   refine XS.aload X1878.here hx rfl (hb hby at_412) rfl rfl ?_
   refine XS.aload X1878.here hx rfl (hb hby at_414) rfl rfl ?_
   refine XS.iload X1878.here hx rfl (hb hby at_416) rfl ?_
   exact XS.iload X1878.here hx rfl (hb hby at_418) rfl k
  obtain ⟨w10, qw10⟩ : ∃ z : Int32, z = (if w4 = (0 : Int32) then (1 : Int32) else (3 : Int32)) := ⟨_, rfl⟩
  refine own_s T1878 (mkF m 428 #[sI p1, sI p2, sI p3, sI p4, sJ p5, sS, sI w1, sI w2, sI w3, sI w4, sI w5, sI w6, sI w7, sI w8, sI w9, sA ad1799, sA ad1863, sU, sU, sU, sU, sU, sU, sU, sU, sU, sU, sU] [(.int w10), (.int w7), (.ref ad1799), (.ref ad1863)]) (fun t k => ?_) ?_
  ·by_cases c420_1905 : w4 = (0 : Int32)
   ·refine XS.ifYes X1878.here hx rfl (pc0 := 420) (pc' := 427) rfl (hb hby at_420) rfl (XT.i0_eq_t c420_1905) (by decide) (by decide) ?_
    refine XT.iconstV X1878.here hx rfl (1 : Int32) (hb hby at_427) rfl ?_
    rw [show w10 = (1 : Int32) from by rw [qw10, if_pos c420_1905]] at k
    exact k
   ·refine XS.ifNo X1878.here hx rfl (hb hby at_420) rfl (XT.i0_eq_f c420_1905) ?_
    refine XT.iconstV X1878.here hx rfl (3 : Int32) (hb hby at_423) rfl ?_
    refine XS.goto X1878.here hx rfl (pc0 := 424) (pc' := 428) rfl (hb hby at_424) (by decide) (by decide) ?_
    rw [show w10 = (3 : Int32) from by rw [qw10, if_neg c420_1905]] at k
    exact k
  obtain ⟨cq1906, kq1906, qa1906, qb1906, qc1906⟩ := isOf hZ (rfl : T1878.heap = T1878.heap) f1880
  obtain ⟨_, _, ⟨T1906, L1906, k1906, n1906⟩, -, X1906, ⟨Lc1906, hQ1906, l1906, y1906, z1906⟩, st1906⟩ := X1878.virtualBack hx (y := Mn13) (z := Mn13) hown (mvT hZ (own_hw hw 23 rfl)) (mvT hZ (own_hw hw 24 rfl)) (notFace_of_selects (args := #[]) (mvT hZ (own_hw hw 26 rfl))) (mvT hZ (own_hw hw 26 rfl)) (mvT hZ (own_hw hw 25 rfl)) (by decide) (backOfWith (W := 0) (rm3 l Z a0 hw [] ad1863 ad1799 w7 w10 lc1878 od1878 pl1878 en1878 fw1878 ls1878 (fun _ => (0 : Int32)) (fun _ => (0 : Int32)) (fun _ => (0 : Int32)) pu19 (fun _ => (0 : Int32)) (fun _ => (0 : Int32)) ml F T1878.heap n0 Z1878 b1863 lwlc_1878 lwod_1878 lwpl_1878 (na1898) (na1896) (na1900) (k01878) (k11878) (k21878) (ne1863_1864) (na1897) (na1895) (na1899) (na1894.symm) (k31878) (na1902.symm) (k41878) (k51878) (k61878) f1880 v0_1878 v1_1878 v2_1878 v3_1878 v4_1878 v5_1878 v6_1878 v7_1878 v8_1878 v9_1878 v10_1878 v11_1878 ay11878 ay21878 ay31878 f1879 ay41878 ay51878 hlb hfok.1 hfok.2.1 hfok.2.2 (fun i _ _ => by show 0 ≤ (0 : Int32).toInt ∧ (0 : Int32).toInt ≤ 255; decide) hF hF1 hF12) hZ (own_hw hw 27 rfl) (own_hw hw 4 rfl) (by decide) (by decide)) qa1906 qc1906 (g := (mkF m 428 #[sI p1, sI p2, sI p3, sI p4, sJ p5, sS, sI w1, sI w2, sI w3, sI w4, sI w5, sI w6, sI w7, sI w8, sI w9, sA ad1799, sA ad1863, sU, sU, sU, sU, sU, sU, sU, sU, sU, sU, sU] [(.int w10), (.int w7), (.ref ad1799), (.ref ad1863)])) rfl (by rw [hml]; rfl) (Steps.refl _) (argsL := [(.ref ad1799), (.int w7), (.int w10)]) (rest := []) (lenOf pd_3 rfl) rfl (by show 2 * 0 + _ ≤ _; exact Nat.le_of_eq rfl) (hb hby at_428) (fun _ _ => ⟨rfl, (rfl : T1878.heap = T1878.heap), (by dsimp only [Pt.cells]; decide), (by dsimp only [Pt.slots]; decide)⟩)
  dsimp only [Pt.U, Pt.locs, Pt.cells, Pt.slots] at X1906 l1906 y1906 z1906 st1906 hQ1906
  subst l1906 y1906 z1906
  obtain ⟨en1906, fe1906, rm1906, wd1906, go1906, rfl, Nc1906, lw1906, Kc1906, u11906, u21906, u31906, u41906, ae1906, hrm1906, hwd1906, hfl1906, hor1906⟩ := hQ1906
  have N1906 := Fr.app N1878 Nc1906
  refine OwnWp.go st1906 ?_
  have Z1906 : n0 ≤ T1906.heap.size := Nat.le_trans Z1878 Kc1906.1
  have f1907 := OwnA.keep f1879 Kc1906 (ninS ne1863_1864 (ninS na1897 (ninS na1895 (ninS na1899 nin0))))
  have f1908 := Exa.keep f1880 Kc1906
  refine own_s T1906 (mkF m 449 #[sI p1, sI p2, sI p3, sI p4, sJ p5, sS, sI w1, sI w2, sI w3, sI w4, sI w5, sI w6, sI w7, sI w8, sI w9, sA ad1799, sA ad1863, sI w9, sU, sU, sU, sU, sU, sU, sU, sU, sU, sU] [(.int w9), (.int w7)]) (fun t k => ?_) ?_
  ·refine XT.pop X1906.here hx rfl (hb hby at_431) rfl rfl ?_
   refine XS.iload X1906.here hx rfl (hb hby at_432) rfl ?_
   refine XS.ifYes X1906.here hx rfl (pc0 := 434) (pc' := 441) rfl (hb hby at_434) rfl (XT.i0_eq_t c121_1801) (by decide) (by decide) ?_
   refine XS.iload X1906.here hx rfl (hb hby at_441) rfl ?_
   refine XS.istore X1906.here hx rfl (hb hby at_443) rfl (l' := #[sI p1, sI p2, sI p3, sI p4, sJ p5, sS, sI w1, sI w2, sI w3, sI w4, sI w5, sI w6, sI w7, sI w8, sI w9, sA ad1799, sA ad1863, sI w9, sU, sU, sU, sU, sU, sU, sU, sU, sU, sU]) rfl ?_
   refine XS.iload X1906.here hx rfl (hb hby at_445) rfl ?_
   exact XS.iload X1906.here hx rfl (hb hby at_447) rfl k
  obtain ⟨_, _, ⟨T1924, L1924, k1924, n1924⟩, -, X1924, ⟨Lc1924, hQ1924, l1924, y1924, z1924⟩, st1924⟩ := Jvm.LawKit.callS X1906 hx (y := Mn2) hown (mvT hZ (own_hw hw 76 rfl)) (mvT hZ (own_hw hw 58 rfl)) (mvT hZ (own_hw hw 45 rfl)) (mvT hZ (own_hw hw 59 rfl)) (by decide) (backOf (W := 0) (rm9 l Z a0 hw [] w7 w9 T1906.heap n0 Z1906 ) hZ (own_hw hw 59 rfl) (own_hw hw 45 rfl) (by decide) (by decide)) (g := (mkF m 449 #[sI p1, sI p2, sI p3, sI p4, sJ p5, sS, sI w1, sI w2, sI w3, sI w4, sI w5, sI w6, sI w7, sI w8, sI w9, sA ad1799, sA ad1863, sI w9, sU, sU, sU, sU, sU, sU, sU, sU, sU, sU] [(.int w9), (.int w7)])) rfl (by rw [hml]; rfl) (argsL := [(.int w7), (.int w9)]) (rest := []) (lenOf pd_9 rfl) rfl (by show 2 * 0 + _ ≤ _; exact Nat.le_of_eq rfl) (hb hby at_449) (fun _ _ => ⟨rfl, (rfl : T1906.heap = T1906.heap), (by dsimp only [Pt.cells]; decide), (by dsimp only [Pt.slots]; decide)⟩)
  dsimp only [Pt.U, Pt.locs, Pt.cells, Pt.slots] at X1924 l1924 y1924 z1924 st1924 hQ1924
  subst l1924 y1924 z1924
  obtain ⟨rfl, Nc1924, hp1924⟩ := hQ1924
  have N1924 := Fr.app N1906 Nc1924
  refine OwnWp.step st1924 ?_
  have eh1924 : T1924.heap = T1906.heap := hp1924
  show OwnWp p e below s _ _ _ (T1924.setTop (mkF m 452 #[sI p1, sI p2, sI p3, sI p4, sJ p5, sS, sI w1, sI w2, sI w3, sI w4, sI w5, sI w6, sI w7, sI w8, sI w9, sA ad1799, sA ad1863, sI w9, sU, sU, sU, sU, sU, sU, sU, sU, sU, sU] [(.int (own_max w7 w9))]))
  obtain ⟨w11, qw11⟩ : ∃ z : Int32, z = (own_max w7 w9) := ⟨_, rfl⟩
  refine own_s T1924 (mkF m 454 #[sI p1, sI p2, sI p3, sI p4, sJ p5, sS, sI w1, sI w2, sI w3, sI w4, sI w5, sI w6, sI w7, sI w8, sI w9, sA ad1799, sA ad1863, sI w9, sI w11, sU, sU, sU, sU, sU, sU, sU, sU, sU] []) (fun t k => ?_) ?_
  ·refine XS.istore X1924.here hx rfl (hb hby at_452) rfl (l' := #[sI p1, sI p2, sI p3, sI p4, sJ p5, sS, sI w1, sI w2, sI w3, sI w4, sI w5, sI w6, sI w7, sI w8, sI w9, sA ad1799, sA ad1863, sI w9, sI (own_max w7 w9), sU, sU, sU, sU, sU, sU, sU, sU, sU]) rfl ?_
   rw [qw11] at k
   exact k
  have hwI : w11.toInt = ((Nat.max F ml : Nat) : Int) := own_wI hF qw11 hmv
  refine own_s T1924 (mkF m 473 #[sI p1, sI p2, sI p3, sI p4, sJ p5, sS, sI w1, sI w2, sI w3, sI w4, sI w5, sI w6, sI w7, sI w8, sI w9, sA ad1799, sA ad1863, sI w9, sI w11, sU, sU, sU, sU, sU, sU, sU, sU, sU] [(.int w6)]) (fun t k => ?_) ?_
  ·refine XS.iload X1924.here hx rfl (hb hby at_454) rfl ?_
   refine XS.ifYes X1924.here hx rfl (pc0 := 456) (pc' := 471) rfl (hb hby at_456) rfl (XT.i0_eq_t c121_1801) (by decide) (by decide) ?_
   exact XS.iload X1924.here hx rfl (hb hby at_471) rfl k
  by_cases c473_1925 : w6 = (0 : Int32)
  ·refine own_s T1924 (mkF m 507 #[sI p1, sI p2, sI p3, sI p4, sJ p5, sS, sI w1, sI w2, sI w3, sI w4, sI w5, sI w6, sI w7, sI w8, sI w9, sA ad1799, sA ad1863, sI w9, sI w11, sU, sU, sU, sU, sU, sU, sU, sU, sU] []) (fun t k => ?_) ?_
   ·exact XS.ifYes X1924.here hx rfl (pc0 := 473) (pc' := 507) rfl (hb hby at_473) rfl (XT.i0_eq_t c473_1925) (by decide) (by decide) k
   obtain ⟨hTK, hmlTK⟩ := own_gen hT hT12 hK hK3 qw6 c121_1801 c473_1925 hcs
   have J689 : ∀ (T1926 : State) (h1926 : Heap) (L1926 : List Loc) (ln9 : Int32) (cw9 : Int64) (ex9 : Int32) (a23 : Int32) (a24 : Int32) (a25 : Int32) (b26 : Slot) (b27 : Slot) (X1926 : Stand p l e room_1 s m #[(.int p1), (.int p2), (.int p3), (.int p4), (.long p5)] below meth c T1926 L1926 13 45693) (e1926 : T1926.heap = h1926) (N1926 : Fr n0 L1926) (Z1926 : n0 ≤ h1926.size) (f1927 : OwnA Z h1926 ad1799 .int (256 : Int32) (fun zi => .int (pu19 zi))) (f1928 : Exa Z h1926 ad1863 DTn) (f1929 : Fld Z h1926 ad1863 DTn "entries" "[I" (.ref en1906)) (f1930 : Fld Z h1926 ad1863 DTn "firstBits" "I" (.int w7)) (f1931 : Fld Z h1926 ad1863 DTn "width" "I" (.int wd1906)) (f1932 : Fld Z h1926 ad1863 DTn "codeLengths" "[I" (.ref ad1799)) (f1933 : OwnA Z h1926 en1906 .int rm1906 (fun zi => .int (fe1906 zi))) (hb26 : One b26) (hb27 : One b27) (hgo : ∀ nx : Int64, nx = ((cw9 <<< ((w11 - ln9).toInt64 &&& 63)) ||| (p5 &&& (((1 : Int64) <<< ((w11 - ln9).toInt64 &&& 63)) - (1 : Int64)))) → own_symok fe1906 rm1906 wd1906 w7 nx ∧ own_symbol fe1906 pu19 wd1906 w7 nx = ex9), OwnWp p e below s room_1.cells room_1.slots (Q0 Z p1 p2 p3 p4 p5  h0 n0) (T1926.setTop (mkF m 689 #[sI p1, sI p2, sI p3, sI p4, sJ p5, sS, sI w1, sI w2, sI w3, sI w4, sI w5, sI w6, sI w7, sI w8, sI w9, sA ad1799, sA ad1863, sI w9, sI w11, sI ln9, sJ cw9, sS, sI ex9, sI a23, sI a24, sI a25, b26, b27] [])) := by
    intro T1926 h1926 L1926 ln9 cw9 ex9 a23 a24 a25 b26 b27 X1926 e1926 N1926 Z1926 f1927 f1928 f1929 f1930 f1931 f1932 f1933 hb26 hb27 hgo
    obtain ⟨w12, qw12⟩ : ∃ z : Int64, z = ((cw9 <<< ((w11 - ln9).toInt64 &&& 63)) ||| (p5 &&& (((1 : Int64) <<< ((w11 - ln9).toInt64 &&& 63)) - (1 : Int64)))) := ⟨_, rfl⟩
    refine own_s T1926 (mkF m 712 #[sI p1, sI p2, sI p3, sI p4, sJ p5, sS, sI w1, sI w2, sI w3, sI w4, sI w5, sI w6, sI w7, sI w8, sI w9, sA ad1799, sA ad1863, sI w9, sI w11, sI ln9, sJ cw9, sS, sI ex9, sJ w12, sS, sI a25, b26, b27] []) (fun t k => ?_) ?_
    ·refine XT.lload X1926.here hx rfl (hb hby at_689) rfl ?_
     refine XS.iload X1926.here hx rfl (hb hby at_691) rfl ?_
     refine XS.iload X1926.here hx rfl (hb hby at_693) rfl ?_
     refine XS.isub X1926.here hx rfl (hb hby at_695) rfl ?_
     refine XT.lshl X1926.here hx rfl (hb hby at_696) rfl ?_
     refine XT.lload X1926.here hx rfl (hb hby at_697) rfl ?_
     refine XT.lconstV X1926.here hx rfl (1 : Int64) (hb hby at_699) rfl ?_
     refine XS.iload X1926.here hx rfl (hb hby at_700) rfl ?_
     refine XS.iload X1926.here hx rfl (hb hby at_702) rfl ?_
     refine XS.isub X1926.here hx rfl (hb hby at_704) rfl ?_
     refine XT.lshl X1926.here hx rfl (hb hby at_705) rfl ?_
     refine XT.lconstV X1926.here hx rfl (1 : Int64) (hb hby at_706) rfl ?_
     refine XT.lsub X1926.here hx rfl (hb hby at_707) rfl ?_
     refine XT.land X1926.here hx rfl (hb hby at_708) rfl ?_
     show Steps p.tables e below (T1926.setTop (mkF m 709 #[sI p1, sI p2, sI p3, sI p4, sJ p5, sS, sI w1, sI w2, sI w3, sI w4, sI w5, sI w6, sI w7, sI w8, sI w9, sA ad1799, sA ad1863, sI w9, sI w11, sI ln9, sJ cw9, sS, sI ex9, sI a23, sI a24, sI a25, b26, b27] [(.long (p5 &&& (((1 : Int64) <<< ((w11 - ln9).toInt64 &&& 63)) - (1 : Int64)))), (.long (cw9 <<< ((w11 - ln9).toInt64 &&& 63)))])) _
     refine XT.lor X1926.here hx rfl (hb hby at_709) rfl ?_
     refine XT.lstore X1926.here hx rfl (hb hby at_710) rfl (l' := #[sI p1, sI p2, sI p3, sI p4, sJ p5, sS, sI w1, sI w2, sI w3, sI w4, sI w5, sI w6, sI w7, sI w8, sI w9, sA ad1799, sA ad1863, sI w9, sI w11, sI ln9, sJ cw9, sS, sI ex9, sJ ((cw9 <<< ((w11 - ln9).toInt64 &&& 63)) ||| (p5 &&& (((1 : Int64) <<< ((w11 - ln9).toInt64 &&& 63)) - (1 : Int64)))), sS, sI a25, b26, b27]) rfl ?_
     rw [qw12] at k
     exact k
    refine own_s T1926 (mkF m 716 #[sI p1, sI p2, sI p3, sI p4, sJ p5, sS, sI w1, sI w2, sI w3, sI w4, sI w5, sI w6, sI w7, sI w8, sI w9, sA ad1799, sA ad1863, sI w9, sI w11, sI ln9, sJ cw9, sS, sI ex9, sJ w12, sS, sI a25, b26, b27] [(.long w12), (.ref ad1863)]) (fun t k => ?_) ?_
    ·refine XS.aload X1926.here hx rfl (hb hby at_712) rfl rfl ?_
     exact XT.lload X1926.here hx rfl (hb hby at_714) rfl k
    obtain ⟨hok, hval⟩ : own_symok fe1906 rm1906 wd1906 w7 w12 ∧ own_symbol fe1906 pu19 wd1906 w7 w12 = ex9 := hgo w12 qw12
    obtain ⟨cq1934, kq1934, qa1934, qb1934, qc1934⟩ := isOf hZ e1926 f1928
    obtain ⟨_, _, ⟨T1934, L1934, k1934, n1934⟩, -, X1934, ⟨Lc1934, hQ1934, l1934, y1934, z1934⟩, st1934⟩ := X1926.virtualBack hx (y := Mn16) (z := Mn16) hown (mvT hZ (own_hw hw 77 rfl)) (mvT hZ (own_hw hw 78 rfl)) (notFace_of_selects (args := #[]) (mvT hZ (own_hw hw 80 rfl))) (mvT hZ (own_hw hw 80 rfl)) (mvT hZ (own_hw hw 79 rfl)) (by decide) (backOf (W := 0) (rm13 l Z a0 hw [] ad1863 w12 en1906 ad1799 fe1906 pu19 rm1906 wd1906 w7 h1926 n0 Z1926 f1929 f1931 f1930 f1932 f1933 f1927 hok) hZ (own_hw hw 81 rfl) (own_hw hw 4 rfl) (by decide) (by decide)) qa1934 qc1934 (g := (mkF m 716 #[sI p1, sI p2, sI p3, sI p4, sJ p5, sS, sI w1, sI w2, sI w3, sI w4, sI w5, sI w6, sI w7, sI w8, sI w9, sA ad1799, sA ad1863, sI w9, sI w11, sI ln9, sJ cw9, sS, sI ex9, sJ w12, sS, sI a25, b26, b27] [(.long w12), (.ref ad1863)])) rfl (by rw [hml]; rfl) (Steps.refl _) (argsL := [(.long w12)]) (rest := []) (lenOf pd_13 rfl) rfl (by show 2 * 0 + _ ≤ _; exact Nat.le_of_eq rfl) (hb hby at_716) (fun _ _ => ⟨rfl, e1926, (by dsimp only [Pt.cells]; decide), (by dsimp only [Pt.slots]; decide)⟩)
    dsimp only [Pt.U, Pt.locs, Pt.cells, Pt.slots] at X1934 l1934 y1934 z1934 st1934 hQ1934
    subst l1934 y1934 z1934
    obtain ⟨rfl, Nc1934, hp1934⟩ := hQ1934
    have N1934 := Fr.app N1926 Nc1934
    refine OwnWp.go st1934 ?_
    have eh1934 : T1934.heap = h1926 := hp1934
    refine own_s T1934 (mkF m 729 #[sI p1, sI p2, sI p3, sI p4, sJ p5, sS, sI w1, sI w2, sI w3, sI w4, sI w5, sI w6, sI w7, sI w8, sI w9, sA ad1799, sA ad1863, sI w9, sI w11, sI ln9, sJ cw9, sS, sI ex9, sJ w12, sS, sI a25, b26, b27] [(.int (1 : Int32))]) (fun t k => ?_) ?_
    ·refine XS.iload X1934.here hx rfl (hb hby at_719) rfl ?_
     refine XS.icmpNo X1934.here hx rfl (hb hby at_721) rfl (XT.ii_ne_f hval) ?_
     refine XT.iconstV X1934.here hx rfl (1 : Int32) (hb hby at_724) rfl ?_
     exact XS.goto X1934.here hx rfl (pc0 := 725) (pc' := 729) rfl (hb hby at_725) (by decide) (by decide) k
    refine OwnWp.retZ X1934 hx hlk Bd.returns (hb hby at_729) (by decide) (by decide) (by decide) ?_
    exact ⟨rfl, N1934⟩
   obtain ⟨w13, qw13⟩ : ∃ z : Int32, z = (w1 + w8) := ⟨_, rfl⟩
   refine own_s T1924 (mkF m 514 #[sI p1, sI p2, sI p3, sI p4, sJ p5, sS, sI w1, sI w2, sI w3, sI w4, sI w5, sI w6, sI w7, sI w8, sI w9, sA ad1799, sA ad1863, sI w9, sI w11, sU, sU, sU, sU, sI w13, sU, sU, sU, sU] []) (fun t k => ?_) ?_
   ·refine XS.iload X1924.here hx rfl (hb hby at_507) rfl ?_
    refine XS.iload X1924.here hx rfl (hb hby at_509) rfl ?_
    refine XS.iadd X1924.here hx rfl (hb hby at_511) rfl ?_
    refine XS.istore X1924.here hx rfl (hb hby at_512) rfl (l' := #[sI p1, sI p2, sI p3, sI p4, sJ p5, sS, sI w1, sI w2, sI w3, sI w4, sI w5, sI w6, sI w7, sI w8, sI w9, sA ad1799, sA ad1863, sI w9, sI w11, sU, sU, sU, sU, sI (w1 + w8), sU, sU, sU, sU]) rfl ?_
    rw [qw13] at k
    exact k
   obtain ⟨w14, qw14⟩ : ∃ z : Int32, z = ((p4 &&& (2147483647 : Int32)) % w13) := ⟨_, rfl⟩
   refine own_s T1924 (mkF m 523 #[sI p1, sI p2, sI p3, sI p4, sJ p5, sS, sI w1, sI w2, sI w3, sI w4, sI w5, sI w6, sI w7, sI w8, sI w9, sA ad1799, sA ad1863, sI w9, sI w11, sU, sU, sU, sU, sI w13, sI w14, sU, sU, sU] []) (fun t k => ?_) ?_
   ·refine XS.iloadN X1924.here hx rfl (hb hby at_514) rfl ?_
    refine X1924.ldcI hx hown (mvT hZ (own_hw hw 100 rfl)) rfl (hb hby at_515) ?_
    refine XS.iand X1924.here hx rfl (hb hby at_517) rfl ?_
    refine XS.iload X1924.here hx rfl (hb hby at_518) rfl ?_
    refine iremM X1924 hx rfl (hb hby at_520) rfl (own_n0 hT hT12 hc13 hG0 hG8 qw13) ?_
    refine XS.istore X1924.here hx rfl (hb hby at_521) rfl (l' := #[sI p1, sI p2, sI p3, sI p4, sJ p5, sS, sI w1, sI w2, sI w3, sI w4, sI w5, sI w6, sI w7, sI w8, sI w9, sA ad1799, sA ad1863, sI w9, sI w11, sU, sU, sU, sU, sI w13, sI ((p4 &&& (2147483647 : Int32)) % w13), sU, sU, sU]) rfl ?_
    rw [qw14] at k
    exact k
   refine own_s T1924 (mkF m 527 #[sI p1, sI p2, sI p3, sI p4, sJ p5, sS, sI w1, sI w2, sI w3, sI w4, sI w5, sI w6, sI w7, sI w8, sI w9, sA ad1799, sA ad1863, sI w9, sI w11, sU, sU, sU, sU, sI w13, sI w14, sU, sU, sU] [(.int w1), (.int w14)]) (fun t k => ?_) ?_
   ·refine XS.iload X1924.here hx rfl (hb hby at_523) rfl ?_
    exact XS.iload X1924.here hx rfl (hb hby at_525) rfl k
   have hi24 := own_i24 hT hT12 hc13 hG0 hG8 qw13 qw14
   by_cases c527_1935 : w14 < w1
   ·refine own_s T1924 (mkF m 530 #[sI p1, sI p2, sI p3, sI p4, sJ p5, sS, sI w1, sI w2, sI w3, sI w4, sI w5, sI w6, sI w7, sI w8, sI w9, sA ad1799, sA ad1863, sI w9, sI w11, sU, sU, sU, sU, sI w13, sI w14, sU, sU, sU] []) (fun t k => ?_) ?_
    ·exact XS.icmpNo X1924.here hx rfl (hb hby at_527) rfl (XT.ii_ge_f c527_1935) k
    obtain ⟨w15, qw15⟩ : ∃ z : Int32, z = (w14 + (1 : Int32)) := ⟨_, rfl⟩
    refine own_s T1924 (mkF m 536 #[sI p1, sI p2, sI p3, sI p4, sJ p5, sS, sI w1, sI w2, sI w3, sI w4, sI w5, sI w6, sI w7, sI w8, sI w9, sA ad1799, sA ad1863, sI w9, sI w11, sI w15, sU, sU, sU, sI w13, sI w14, sU, sU, sU] []) (fun t k => ?_) ?_
    ·refine XS.iload X1924.here hx rfl (hb hby at_530) rfl ?_
     refine XT.iconstV X1924.here hx rfl (1 : Int32) (hb hby at_532) rfl ?_
     refine XS.iadd X1924.here hx rfl (hb hby at_533) rfl ?_
     refine XS.istore X1924.here hx rfl (hb hby at_534) rfl (l' := #[sI p1, sI p2, sI p3, sI p4, sJ p5, sS, sI w1, sI w2, sI w3, sI w4, sI w5, sI w6, sI w7, sI w8, sI w9, sA ad1799, sA ad1863, sI w9, sI w11, sI (w14 + (1 : Int32)), sU, sU, sU, sI w13, sI w14, sU, sU, sU]) rfl ?_
     rw [qw15] at k
     exact k
    obtain ⟨w16, qw16⟩ : ∃ z : Int64, z = ((((1 : Int64) <<< (w14.toInt64 &&& 63)) - (1 : Int64)) <<< ((1 : Int32).toInt64 &&& 63)) := ⟨_, rfl⟩
    refine own_s T1924 (mkF m 546 #[sI p1, sI p2, sI p3, sI p4, sJ p5, sS, sI w1, sI w2, sI w3, sI w4, sI w5, sI w6, sI w7, sI w8, sI w9, sA ad1799, sA ad1863, sI w9, sI w11, sI w15, sJ w16, sS, sU, sI w13, sI w14, sU, sU, sU] []) (fun t k => ?_) ?_
    ·refine XT.lconstV X1924.here hx rfl (1 : Int64) (hb hby at_536) rfl ?_
     refine XS.iload X1924.here hx rfl (hb hby at_537) rfl ?_
     refine XT.lshl X1924.here hx rfl (hb hby at_539) rfl ?_
     refine XT.lconstV X1924.here hx rfl (1 : Int64) (hb hby at_540) rfl ?_
     refine XT.lsub X1924.here hx rfl (hb hby at_541) rfl ?_
     refine XT.iconstV X1924.here hx rfl (1 : Int32) (hb hby at_542) rfl ?_
     refine XT.lshl X1924.here hx rfl (hb hby at_543) rfl ?_
     refine XT.lstore X1924.here hx rfl (hb hby at_544) rfl (l' := #[sI p1, sI p2, sI p3, sI p4, sJ p5, sS, sI w1, sI w2, sI w3, sI w4, sI w5, sI w6, sI w7, sI w8, sI w9, sA ad1799, sA ad1863, sI w9, sI w11, sI w15, sJ ((((1 : Int64) <<< (w14.toInt64 &&& 63)) - (1 : Int64)) <<< ((1 : Int32).toInt64 &&& 63)), sS, sU, sI w13, sI w14, sU, sU, sU]) rfl ?_
     rw [qw16] at k
     exact k
    obtain ⟨w17, qw17⟩ : ∃ z : Int32, z = (((w3 + w8) + w14) &&& (255 : Int32)) := ⟨_, rfl⟩
    refine own_s T1924 (mkF m 560 #[sI p1, sI p2, sI p3, sI p4, sJ p5, sS, sI w1, sI w2, sI w3, sI w4, sI w5, sI w6, sI w7, sI w8, sI w9, sA ad1799, sA ad1863, sI w9, sI w11, sI w15, sJ w16, sS, sU, sI w13, sI w14, sI w17, sU, sU] []) (fun t k => ?_) ?_
    ·refine XS.iload X1924.here hx rfl (hb hby at_546) rfl ?_
     refine XS.iload X1924.here hx rfl (hb hby at_548) rfl ?_
     refine XS.iadd X1924.here hx rfl (hb hby at_550) rfl ?_
     refine XS.iload X1924.here hx rfl (hb hby at_551) rfl ?_
     refine XS.iadd X1924.here hx rfl (hb hby at_553) rfl ?_
     refine XT.sipushV X1924.here hx rfl (255 : Int32) (hb hby at_554) rfl ?_
     refine XS.iand X1924.here hx rfl (hb hby at_557) rfl ?_
     refine XS.istore X1924.here hx rfl (hb hby at_558) rfl (l' := #[sI p1, sI p2, sI p3, sI p4, sJ p5, sS, sI w1, sI w2, sI w3, sI w4, sI w5, sI w6, sI w7, sI w8, sI w9, sA ad1799, sA ad1863, sI w9, sI w11, sI w15, sJ w16, sS, sU, sI w13, sI w14, sI (((w3 + w8) + w14) &&& (255 : Int32)), sU, sU]) rfl ?_
     rw [qw17] at k
     exact k
    refine own_s T1924 (mkF m 629 #[sI p1, sI p2, sI p3, sI p4, sJ p5, sS, sI w1, sI w2, sI w3, sI w4, sI w5, sI w6, sI w7, sI w8, sI w9, sA ad1799, sA ad1863, sI w9, sI w11, sI w15, sJ w16, sS, sU, sI w13, sI w14, sI w17, sU, sU] []) (fun t k => ?_) ?_
    ·exact XS.goto X1924.here hx rfl (pc0 := 560) (pc' := 629) rfl (hb hby at_560) (by decide) (by decide) k
    refine own_s T1924 (mkF m 631 #[sI p1, sI p2, sI p3, sI p4, sJ p5, sS, sI w1, sI w2, sI w3, sI w4, sI w5, sI w6, sI w7, sI w8, sI w9, sA ad1799, sA ad1863, sI w9, sI w11, sI w15, sJ w16, sS, sU, sI w13, sI w14, sI w17, sU, sU] [(.int w2)]) (fun t k => ?_) ?_
    ·exact XS.iload X1924.here hx rfl (hb hby at_629) rfl k
    by_cases c631_1936 : w2 = (0 : Int32)
    ·refine own_s T1924 (mkF m 634 #[sI p1, sI p2, sI p3, sI p4, sJ p5, sS, sI w1, sI w2, sI w3, sI w4, sI w5, sI w6, sI w7, sI w8, sI w9, sA ad1799, sA ad1863, sI w9, sI w11, sI w15, sJ w16, sS, sU, sI w13, sI w14, sI w17, sU, sU] []) (fun t k => ?_) ?_
     ·exact XS.ifNo X1924.here hx rfl (hb hby at_631) rfl (XT.i0_ne_f c631_1936) k
     refine own_s T1924 (mkF m 638 #[sI p1, sI p2, sI p3, sI p4, sJ p5, sS, sI w1, sI w2, sI w3, sI w4, sI w5, sI w6, sI w7, sI w8, sI w9, sA ad1799, sA ad1863, sI w9, sI w11, sI w15, sJ w16, sS, sU, sI w13, sI w14, sI w17, sU, sU] [(.int w1), (.int w15)]) (fun t k => ?_) ?_
     ·refine XS.iload X1924.here hx rfl (hb hby at_634) rfl ?_
      exact XS.iload X1924.here hx rfl (hb hby at_636) rfl k
     by_cases c638_1937 : w15 = w1
     ·refine own_s T1924 (mkF m 641 #[sI p1, sI p2, sI p3, sI p4, sJ p5, sS, sI w1, sI w2, sI w3, sI w4, sI w5, sI w6, sI w7, sI w8, sI w9, sA ad1799, sA ad1863, sI w9, sI w11, sI w15, sJ w16, sS, sU, sI w13, sI w14, sI w17, sU, sU] []) (fun t k => ?_) ?_
      ·exact XS.icmpNo X1924.here hx rfl (hb hby at_638) rfl (XT.ii_ne_f c638_1937) k
      obtain ⟨w18, qw18⟩ : ∃ z : Int32, z = ((w3 + w1) &&& (255 : Int32)) := ⟨_, rfl⟩
      refine own_s T1924 (mkF m 652 #[sI p1, sI p2, sI p3, sI p4, sJ p5, sS, sI w1, sI w2, sI w3, sI w4, sI w5, sI w6, sI w7, sI w8, sI w9, sA ad1799, sA ad1863, sI w9, sI w11, sI w15, sJ w16, sS, sU, sI w13, sI w14, sI w17, sI w18, sU] []) (fun t k => ?_) ?_
      ·refine XS.iload X1924.here hx rfl (hb hby at_641) rfl ?_
       refine XS.iload X1924.here hx rfl (hb hby at_643) rfl ?_
       refine XS.iadd X1924.here hx rfl (hb hby at_645) rfl ?_
       refine XT.sipushV X1924.here hx rfl (255 : Int32) (hb hby at_646) rfl ?_
       refine XS.iand X1924.here hx rfl (hb hby at_649) rfl ?_
       refine XS.istore X1924.here hx rfl (hb hby at_650) rfl (l' := #[sI p1, sI p2, sI p3, sI p4, sJ p5, sS, sI w1, sI w2, sI w3, sI w4, sI w5, sI w6, sI w7, sI w8, sI w9, sA ad1799, sA ad1863, sI w9, sI w11, sI w15, sJ w16, sS, sU, sI w13, sI w14, sI w17, sI ((w3 + w1) &&& (255 : Int32)), sU]) rfl ?_
       rw [qw18] at k
       exact k
      refine own_s T1924 (mkF m 658 #[sI p1, sI p2, sI p3, sI p4, sJ p5, sS, sI w1, sI w2, sI w3, sI w4, sI w5, sI w6, sI w7, sI w8, sI w9, sA ad1799, sA ad1863, sI w9, sI w11, sI w15, sJ w16, sS, sU, sI w13, sI w14, sI w17, sI w18, sU] [(.int (XT.cmpL (w16 &&& (1 : Int64)) (0 : Int64)))]) (fun t k => ?_) ?_
      ·refine XT.lload X1924.here hx rfl (hb hby at_652) rfl ?_
       refine XT.lconstV X1924.here hx rfl (1 : Int64) (hb hby at_654) rfl ?_
       refine XT.land X1924.here hx rfl (hb hby at_655) rfl ?_
       refine XT.lconstV X1924.here hx rfl (0 : Int64) (hb hby at_656) rfl ?_
       exact XT.lcmp X1924.here hx rfl (hb hby at_657) rfl k
      by_cases c658_1938 : (w16 &&& (1 : Int64)) = (0 : Int64)
      ·refine own_s T1924 (mkF m 661 #[sI p1, sI p2, sI p3, sI p4, sJ p5, sS, sI w1, sI w2, sI w3, sI w4, sI w5, sI w6, sI w7, sI w8, sI w9, sA ad1799, sA ad1863, sI w9, sI w11, sI w15, sJ w16, sS, sU, sI w13, sI w14, sI w17, sI w18, sU] []) (fun t k => ?_) ?_
       ·exact XS.ifNo X1924.here hx rfl (hb hby at_658) rfl (XT.ll_ne_f c658_1938) k
       refine own_s T1924 (mkF m 665 #[sI p1, sI p2, sI p3, sI p4, sJ p5, sS, sI w1, sI w2, sI w3, sI w4, sI w5, sI w6, sI w7, sI w8, sI w9, sA ad1799, sA ad1863, sI w9, sI w11, sI w15, sJ w16, sS, sU, sI w13, sI w14, sI w17, sI w18, sU] [(.int w3), (.int w18)]) (fun t k => ?_) ?_
       ·refine XS.iload X1924.here hx rfl (hb hby at_661) rfl ?_
        exact XS.iload X1924.here hx rfl (hb hby at_663) rfl k
       obtain ⟨_, _, ⟨T1939, L1939, k1939, n1939⟩, -, X1939, ⟨Lc1939, hQ1939, l1939, y1939, z1939⟩, st1939⟩ := Jvm.LawKit.callS X1924 hx (y := Mn1) hown (mvT hZ (own_hw hw 102 rfl)) (mvT hZ (own_hw hw 44 rfl)) (mvT hZ (own_hw hw 45 rfl)) (mvT hZ (own_hw hw 46 rfl)) (by decide) (backOf (W := 0) (rm8 l Z a0 hw [] w18 w3 T1906.heap n0 Z1906 ) hZ (own_hw hw 46 rfl) (own_hw hw 45 rfl) (by decide) (by decide)) (g := (mkF m 665 #[sI p1, sI p2, sI p3, sI p4, sJ p5, sS, sI w1, sI w2, sI w3, sI w4, sI w5, sI w6, sI w7, sI w8, sI w9, sA ad1799, sA ad1863, sI w9, sI w11, sI w15, sJ w16, sS, sU, sI w13, sI w14, sI w17, sI w18, sU] [(.int w3), (.int w18)])) rfl (by rw [hml]; rfl) (argsL := [(.int w18), (.int w3)]) (rest := []) (lenOf pd_8 rfl) rfl (by show 2 * 0 + _ ≤ _; exact Nat.le_of_eq rfl) (hb hby at_665) (fun _ _ => ⟨rfl, eh1924, (by dsimp only [Pt.cells]; decide), (by dsimp only [Pt.slots]; decide)⟩)
       dsimp only [Pt.U, Pt.locs, Pt.cells, Pt.slots] at X1939 l1939 y1939 z1939 st1939 hQ1939
       subst l1939 y1939 z1939
       obtain ⟨rfl, Nc1939, hp1939⟩ := hQ1939
       have N1939 := Fr.app N1924 Nc1939
       refine OwnWp.step st1939 ?_
       have eh1939 : T1939.heap = T1906.heap := hp1939
       show OwnWp p e below s _ _ _ (T1939.setTop (mkF m 668 #[sI p1, sI p2, sI p3, sI p4, sJ p5, sS, sI w1, sI w2, sI w3, sI w4, sI w5, sI w6, sI w7, sI w8, sI w9, sA ad1799, sA ad1863, sI w9, sI w11, sI w15, sJ w16, sS, sU, sI w13, sI w14, sI w17, sI w18, sU] [(.int (own_min w18 w3))]))
       obtain ⟨w19, qw19⟩ : ∃ z : Int32, z = (own_min w18 w3) := ⟨_, rfl⟩
       refine own_s T1939 (mkF m 680 #[sI p1, sI p2, sI p3, sI p4, sJ p5, sS, sI w1, sI w2, sI w3, sI w4, sI w5, sI w6, sI w7, sI w8, sI w9, sA ad1799, sA ad1863, sI w9, sI w11, sI w15, sJ w16, sS, sU, sI w13, sI w14, sI w19, sI w18, sU] []) (fun t k => ?_) ?_
       ·refine XS.goto X1939.here hx rfl (pc0 := 668) (pc' := 678) rfl (hb hby at_668) (by decide) (by decide) ?_
        refine XS.istore X1939.here hx rfl (hb hby at_678) rfl (l' := #[sI p1, sI p2, sI p3, sI p4, sJ p5, sS, sI w1, sI w2, sI w3, sI w4, sI w5, sI w6, sI w7, sI w8, sI w9, sA ad1799, sA ad1863, sI w9, sI w11, sI w15, sJ w16, sS, sU, sI w13, sI w14, sI (own_min w18 w3), sI w18, sU]) rfl ?_
        rw [qw19] at k
        exact k
       obtain ⟨w20, qw20⟩ : ∃ z : Int32, z = ((w19 <<< ((4 : Int32) &&& 31)) ||| w15) := ⟨_, rfl⟩
       refine own_s T1939 (mkF m 689 #[sI p1, sI p2, sI p3, sI p4, sJ p5, sS, sI w1, sI w2, sI w3, sI w4, sI w5, sI w6, sI w7, sI w8, sI w9, sA ad1799, sA ad1863, sI w9, sI w11, sI w15, sJ w16, sS, sI w20, sI w13, sI w14, sI w19, sI w18, sU] []) (fun t k => ?_) ?_
       ·refine XS.iload X1939.here hx rfl (hb hby at_680) rfl ?_
        refine XT.iconstV X1939.here hx rfl (4 : Int32) (hb hby at_682) rfl ?_
        refine XT.ishl X1939.here hx rfl (hb hby at_683) rfl ?_
        refine XS.iload X1939.here hx rfl (hb hby at_684) rfl ?_
        refine XT.ior X1939.here hx rfl (hb hby at_686) rfl ?_
        refine XS.istore X1939.here hx rfl (hb hby at_687) rfl (l' := #[sI p1, sI p2, sI p3, sI p4, sJ p5, sS, sI w1, sI w2, sI w3, sI w4, sI w5, sI w6, sI w7, sI w8, sI w9, sA ad1799, sA ad1863, sI w9, sI w11, sI w15, sJ w16, sS, sI ((w19 <<< ((4 : Int32) &&& 31)) ||| w15), sI w13, sI w14, sI w19, sI w18, sU]) rfl ?_
        rw [qw20] at k
        exact k
       exact J689  T1939 T1906.heap _ w15 w16 w20 w13 w14 w19 _ _ (own_widen X1939 (by decide) (by decide)) eh1939 N1939 Z1906 f1907 f1908 u11906 u21906 u31906 u41906 ae1906  (One.val rfl) One.u (fun nx qnx => own_roadAmin hfm ho0 ho1 ho hT hT12 hK hK3 hc13 hTK hmlTK hfl1906 hor1906 hwd1906 hF hF1 hF12 hfam hrm1906 hwI hi24 c527_1935 qw15 qw16 qw17 c631_1936 c638_1937 qw18 c658_1938 qw19 qw20 qnx)
      ·refine own_s T1924 (mkF m 671 #[sI p1, sI p2, sI p3, sI p4, sJ p5, sS, sI w1, sI w2, sI w3, sI w4, sI w5, sI w6, sI w7, sI w8, sI w9, sA ad1799, sA ad1863, sI w9, sI w11, sI w15, sJ w16, sS, sU, sI w13, sI w14, sI w17, sI w18, sU] []) (fun t k => ?_) ?_
       ·exact XS.ifYes X1924.here hx rfl (pc0 := 658) (pc' := 671) rfl (hb hby at_658) rfl (XT.ll_ne_t c658_1938) (by decide) (by decide) k
       refine own_s T1924 (mkF m 675 #[sI p1, sI p2, sI p3, sI p4, sJ p5, sS, sI w1, sI w2, sI w3, sI w4, sI w5, sI w6, sI w7, sI w8, sI w9, sA ad1799, sA ad1863, sI w9, sI w11, sI w15, sJ w16, sS, sU, sI w13, sI w14, sI w17, sI w18, sU] [(.int w3), (.int w18)]) (fun t k => ?_) ?_
       ·refine XS.iload X1924.here hx rfl (hb hby at_671) rfl ?_
        exact XS.iload X1924.here hx rfl (hb hby at_673) rfl k
       obtain ⟨_, _, ⟨T1940, L1940, k1940, n1940⟩, -, X1940, ⟨Lc1940, hQ1940, l1940, y1940, z1940⟩, st1940⟩ := Jvm.LawKit.callS X1924 hx (y := Mn2) hown (mvT hZ (own_hw hw 76 rfl)) (mvT hZ (own_hw hw 58 rfl)) (mvT hZ (own_hw hw 45 rfl)) (mvT hZ (own_hw hw 59 rfl)) (by decide) (backOf (W := 0) (rm9 l Z a0 hw [] w18 w3 T1906.heap n0 Z1906 ) hZ (own_hw hw 59 rfl) (own_hw hw 45 rfl) (by decide) (by decide)) (g := (mkF m 675 #[sI p1, sI p2, sI p3, sI p4, sJ p5, sS, sI w1, sI w2, sI w3, sI w4, sI w5, sI w6, sI w7, sI w8, sI w9, sA ad1799, sA ad1863, sI w9, sI w11, sI w15, sJ w16, sS, sU, sI w13, sI w14, sI w17, sI w18, sU] [(.int w3), (.int w18)])) rfl (by rw [hml]; rfl) (argsL := [(.int w18), (.int w3)]) (rest := []) (lenOf pd_9 rfl) rfl (by show 2 * 0 + _ ≤ _; exact Nat.le_of_eq rfl) (hb hby at_675) (fun _ _ => ⟨rfl, eh1924, (by dsimp only [Pt.cells]; decide), (by dsimp only [Pt.slots]; decide)⟩)
       dsimp only [Pt.U, Pt.locs, Pt.cells, Pt.slots] at X1940 l1940 y1940 z1940 st1940 hQ1940
       subst l1940 y1940 z1940
       obtain ⟨rfl, Nc1940, hp1940⟩ := hQ1940
       have N1940 := Fr.app N1924 Nc1940
       refine OwnWp.step st1940 ?_
       have eh1940 : T1940.heap = T1906.heap := hp1940
       show OwnWp p e below s _ _ _ (T1940.setTop (mkF m 678 #[sI p1, sI p2, sI p3, sI p4, sJ p5, sS, sI w1, sI w2, sI w3, sI w4, sI w5, sI w6, sI w7, sI w8, sI w9, sA ad1799, sA ad1863, sI w9, sI w11, sI w15, sJ w16, sS, sU, sI w13, sI w14, sI w17, sI w18, sU] [(.int (own_max w18 w3))]))
       obtain ⟨w19, qw19⟩ : ∃ z : Int32, z = (own_max w18 w3) := ⟨_, rfl⟩
       refine own_s T1940 (mkF m 680 #[sI p1, sI p2, sI p3, sI p4, sJ p5, sS, sI w1, sI w2, sI w3, sI w4, sI w5, sI w6, sI w7, sI w8, sI w9, sA ad1799, sA ad1863, sI w9, sI w11, sI w15, sJ w16, sS, sU, sI w13, sI w14, sI w19, sI w18, sU] []) (fun t k => ?_) ?_
       ·refine XS.istore X1940.here hx rfl (hb hby at_678) rfl (l' := #[sI p1, sI p2, sI p3, sI p4, sJ p5, sS, sI w1, sI w2, sI w3, sI w4, sI w5, sI w6, sI w7, sI w8, sI w9, sA ad1799, sA ad1863, sI w9, sI w11, sI w15, sJ w16, sS, sU, sI w13, sI w14, sI (own_max w18 w3), sI w18, sU]) rfl ?_
        rw [qw19] at k
        exact k
       obtain ⟨w20, qw20⟩ : ∃ z : Int32, z = ((w19 <<< ((4 : Int32) &&& 31)) ||| w15) := ⟨_, rfl⟩
       refine own_s T1940 (mkF m 689 #[sI p1, sI p2, sI p3, sI p4, sJ p5, sS, sI w1, sI w2, sI w3, sI w4, sI w5, sI w6, sI w7, sI w8, sI w9, sA ad1799, sA ad1863, sI w9, sI w11, sI w15, sJ w16, sS, sI w20, sI w13, sI w14, sI w19, sI w18, sU] []) (fun t k => ?_) ?_
       ·refine XS.iload X1940.here hx rfl (hb hby at_680) rfl ?_
        refine XT.iconstV X1940.here hx rfl (4 : Int32) (hb hby at_682) rfl ?_
        refine XT.ishl X1940.here hx rfl (hb hby at_683) rfl ?_
        refine XS.iload X1940.here hx rfl (hb hby at_684) rfl ?_
        refine XT.ior X1940.here hx rfl (hb hby at_686) rfl ?_
        refine XS.istore X1940.here hx rfl (hb hby at_687) rfl (l' := #[sI p1, sI p2, sI p3, sI p4, sJ p5, sS, sI w1, sI w2, sI w3, sI w4, sI w5, sI w6, sI w7, sI w8, sI w9, sA ad1799, sA ad1863, sI w9, sI w11, sI w15, sJ w16, sS, sI ((w19 <<< ((4 : Int32) &&& 31)) ||| w15), sI w13, sI w14, sI w19, sI w18, sU]) rfl ?_
        rw [qw20] at k
        exact k
       exact J689  T1940 T1906.heap _ w15 w16 w20 w13 w14 w19 _ _ (own_widen X1940 (by decide) (by decide)) eh1940 N1940 Z1906 f1907 f1908 u11906 u21906 u31906 u41906 ae1906  (One.val rfl) One.u (fun nx qnx => own_roadAmax hfm ho0 ho1 ho hT hT12 hK hK3 hc13 hTK hmlTK hfl1906 hor1906 hwd1906 hF hF1 hF12 hfam hrm1906 hwI hi24 c527_1935 qw15 qw16 qw17 c631_1936 c638_1937 qw18 c658_1938 qw19 qw20 qnx)
     ·refine own_s T1924 (mkF m 680 #[sI p1, sI p2, sI p3, sI p4, sJ p5, sS, sI w1, sI w2, sI w3, sI w4, sI w5, sI w6, sI w7, sI w8, sI w9, sA ad1799, sA ad1863, sI w9, sI w11, sI w15, sJ w16, sS, sU, sI w13, sI w14, sI w17, sU, sU] []) (fun t k => ?_) ?_
      ·exact XS.icmpYes X1924.here hx rfl (pc0 := 638) (pc' := 680) rfl (hb hby at_638) rfl (XT.ii_ne_t c638_1937) (by decide) (by decide) k
      obtain ⟨w18, qw18⟩ : ∃ z : Int32, z = ((w17 <<< ((4 : Int32) &&& 31)) ||| w15) := ⟨_, rfl⟩
      refine own_s T1924 (mkF m 689 #[sI p1, sI p2, sI p3, sI p4, sJ p5, sS, sI w1, sI w2, sI w3, sI w4, sI w5, sI w6, sI w7, sI w8, sI w9, sA ad1799, sA ad1863, sI w9, sI w11, sI w15, sJ w16, sS, sI w18, sI w13, sI w14, sI w17, sU, sU] []) (fun t k => ?_) ?_
      ·refine XS.iload X1924.here hx rfl (hb hby at_680) rfl ?_
       refine XT.iconstV X1924.here hx rfl (4 : Int32) (hb hby at_682) rfl ?_
       refine XT.ishl X1924.here hx rfl (hb hby at_683) rfl ?_
       refine XS.iload X1924.here hx rfl (hb hby at_684) rfl ?_
       refine XT.ior X1924.here hx rfl (hb hby at_686) rfl ?_
       refine XS.istore X1924.here hx rfl (hb hby at_687) rfl (l' := #[sI p1, sI p2, sI p3, sI p4, sJ p5, sS, sI w1, sI w2, sI w3, sI w4, sI w5, sI w6, sI w7, sI w8, sI w9, sA ad1799, sA ad1863, sI w9, sI w11, sI w15, sJ w16, sS, sI ((w17 <<< ((4 : Int32) &&& 31)) ||| w15), sI w13, sI w14, sI w17, sU, sU]) rfl ?_
       rw [qw18] at k
       exact k
      exact J689  T1924 T1906.heap _ w15 w16 w18 w13 w14 w17 _ _ (own_widen X1924 (by decide) (by decide)) eh1924 N1924 Z1906 f1907 f1908 u11906 u21906 u31906 u41906 ae1906  One.u One.u (fun nx qnx => own_roadA hfm ho0 ho1 ho hT hT12 hK hK3 hc13 hTK hmlTK hfl1906 hor1906 hwd1906 hF hF1 hF12 hfam hrm1906 hwI hi24 c527_1935 qw15 qw16 qw17 (Or.inr c638_1937) qw18 qnx)
    ·refine own_s T1924 (mkF m 680 #[sI p1, sI p2, sI p3, sI p4, sJ p5, sS, sI w1, sI w2, sI w3, sI w4, sI w5, sI w6, sI w7, sI w8, sI w9, sA ad1799, sA ad1863, sI w9, sI w11, sI w15, sJ w16, sS, sU, sI w13, sI w14, sI w17, sU, sU] []) (fun t k => ?_) ?_
     ·exact XS.ifYes X1924.here hx rfl (pc0 := 631) (pc' := 680) rfl (hb hby at_631) rfl (XT.i0_ne_t c631_1936) (by decide) (by decide) k
     obtain ⟨w18, qw18⟩ : ∃ z : Int32, z = ((w17 <<< ((4 : Int32) &&& 31)) ||| w15) := ⟨_, rfl⟩
     refine own_s T1924 (mkF m 689 #[sI p1, sI p2, sI p3, sI p4, sJ p5, sS, sI w1, sI w2, sI w3, sI w4, sI w5, sI w6, sI w7, sI w8, sI w9, sA ad1799, sA ad1863, sI w9, sI w11, sI w15, sJ w16, sS, sI w18, sI w13, sI w14, sI w17, sU, sU] []) (fun t k => ?_) ?_
     ·refine XS.iload X1924.here hx rfl (hb hby at_680) rfl ?_
      refine XT.iconstV X1924.here hx rfl (4 : Int32) (hb hby at_682) rfl ?_
      refine XT.ishl X1924.here hx rfl (hb hby at_683) rfl ?_
      refine XS.iload X1924.here hx rfl (hb hby at_684) rfl ?_
      refine XT.ior X1924.here hx rfl (hb hby at_686) rfl ?_
      refine XS.istore X1924.here hx rfl (hb hby at_687) rfl (l' := #[sI p1, sI p2, sI p3, sI p4, sJ p5, sS, sI w1, sI w2, sI w3, sI w4, sI w5, sI w6, sI w7, sI w8, sI w9, sA ad1799, sA ad1863, sI w9, sI w11, sI w15, sJ w16, sS, sI ((w17 <<< ((4 : Int32) &&& 31)) ||| w15), sI w13, sI w14, sI w17, sU, sU]) rfl ?_
      rw [qw18] at k
      exact k
     exact J689  T1924 T1906.heap _ w15 w16 w18 w13 w14 w17 _ _ (own_widen X1924 (by decide) (by decide)) eh1924 N1924 Z1906 f1907 f1908 u11906 u21906 u31906 u41906 ae1906  One.u One.u (fun nx qnx => own_roadA hfm ho0 ho1 ho hT hT12 hK hK3 hc13 hTK hmlTK hfl1906 hor1906 hwd1906 hF hF1 hF12 hfam hrm1906 hwI hi24 c527_1935 qw15 qw16 qw17 (Or.inl c631_1936) qw18 qnx)
   ·refine own_s T1924 (mkF m 563 #[sI p1, sI p2, sI p3, sI p4, sJ p5, sS, sI w1, sI w2, sI w3, sI w4, sI w5, sI w6, sI w7, sI w8, sI w9, sA ad1799, sA ad1863, sI w9, sI w11, sU, sU, sU, sU, sI w13, sI w14, sU, sU, sU] []) (fun t k => ?_) ?_
    ·exact XS.icmpYes X1924.here hx rfl (pc0 := 527) (pc' := 563) rfl (hb hby at_527) rfl (XT.ii_ge_t c527_1935) (by decide) (by decide) k
    obtain ⟨w15, qw15⟩ : ∃ z : Int32, z = (w14 - w1) := ⟨_, rfl⟩
    refine own_s T1924 (mkF m 570 #[sI p1, sI p2, sI p3, sI p4, sJ p5, sS, sI w1, sI w2, sI w3, sI w4, sI w5, sI w6, sI w7, sI w8, sI w9, sA ad1799, sA ad1863, sI w9, sI w11, sU, sU, sU, sU, sI w13, sI w14, sU, sI w15, sU] []) (fun t k => ?_) ?_
    ·refine XS.iload X1924.here hx rfl (hb hby at_563) rfl ?_
     refine XS.iload X1924.here hx rfl (hb hby at_565) rfl ?_
     refine XS.isub X1924.here hx rfl (hb hby at_567) rfl ?_
     refine XS.istore X1924.here hx rfl (hb hby at_568) rfl (l' := #[sI p1, sI p2, sI p3, sI p4, sJ p5, sS, sI w1, sI w2, sI w3, sI w4, sI w5, sI w6, sI w7, sI w8, sI w9, sA ad1799, sA ad1863, sI w9, sI w11, sU, sU, sU, sU, sI w13, sI w14, sU, sI (w14 - w1), sU]) rfl ?_
     rw [qw15] at k
     exact k
    obtain ⟨w16, qw16⟩ : ∃ z : Int32, z = (w1 + w2) := ⟨_, rfl⟩
    refine own_s T1924 (mkF m 577 #[sI p1, sI p2, sI p3, sI p4, sJ p5, sS, sI w1, sI w2, sI w3, sI w4, sI w5, sI w6, sI w7, sI w8, sI w9, sA ad1799, sA ad1863, sI w9, sI w11, sI w16, sU, sU, sU, sI w13, sI w14, sU, sI w15, sU] []) (fun t k => ?_) ?_
    ·refine XS.iload X1924.here hx rfl (hb hby at_570) rfl ?_
     refine XS.iload X1924.here hx rfl (hb hby at_572) rfl ?_
     refine XS.iadd X1924.here hx rfl (hb hby at_574) rfl ?_
     refine XS.istore X1924.here hx rfl (hb hby at_575) rfl (l' := #[sI p1, sI p2, sI p3, sI p4, sJ p5, sS, sI w1, sI w2, sI w3, sI w4, sI w5, sI w6, sI w7, sI w8, sI w9, sA ad1799, sA ad1863, sI w9, sI w11, sI (w1 + w2), sU, sU, sU, sI w13, sI w14, sU, sI w15, sU]) rfl ?_
     rw [qw16] at k
     exact k
    obtain ⟨w17, qw17⟩ : ∃ z : Int64, z = (((((1 : Int64) <<< (w1.toInt64 &&& 63)) - (1 : Int64)) <<< (w2.toInt64 &&& 63)) ||| w15.toInt64) := ⟨_, rfl⟩
    refine own_s T1924 (mkF m 592 #[sI p1, sI p2, sI p3, sI p4, sJ p5, sS, sI w1, sI w2, sI w3, sI w4, sI w5, sI w6, sI w7, sI w8, sI w9, sA ad1799, sA ad1863, sI w9, sI w11, sI w16, sJ w17, sS, sU, sI w13, sI w14, sU, sI w15, sU] []) (fun t k => ?_) ?_
    ·refine XT.lconstV X1924.here hx rfl (1 : Int64) (hb hby at_577) rfl ?_
     refine XS.iload X1924.here hx rfl (hb hby at_578) rfl ?_
     refine XT.lshl X1924.here hx rfl (hb hby at_580) rfl ?_
     refine XT.lconstV X1924.here hx rfl (1 : Int64) (hb hby at_581) rfl ?_
     refine XT.lsub X1924.here hx rfl (hb hby at_582) rfl ?_
     refine XS.iload X1924.here hx rfl (hb hby at_583) rfl ?_
     refine XT.lshl X1924.here hx rfl (hb hby at_585) rfl ?_
     refine XS.iload X1924.here hx rfl (hb hby at_586) rfl ?_
     refine XT.i2l X1924.here hx rfl (hb hby at_588) rfl ?_
     refine XT.lor X1924.here hx rfl (hb hby at_589) rfl ?_
     refine XT.lstore X1924.here hx rfl (hb hby at_590) rfl (l' := #[sI p1, sI p2, sI p3, sI p4, sJ p5, sS, sI w1, sI w2, sI w3, sI w4, sI w5, sI w6, sI w7, sI w8, sI w9, sA ad1799, sA ad1863, sI w9, sI w11, sI w16, sJ (((((1 : Int64) <<< (w1.toInt64 &&& 63)) - (1 : Int64)) <<< (w2.toInt64 &&& 63)) ||| w15.toInt64), sS, sU, sI w13, sI w14, sU, sI w15, sU]) rfl ?_
     rw [qw17] at k
     exact k
    refine own_s T1924 (mkF m 602 #[sI p1, sI p2, sI p3, sI p4, sJ p5, sS, sI w1, sI w2, sI w3, sI w4, sI w5, sI w6, sI w7, sI w8, sI w9, sA ad1799, sA ad1863, sI w9, sI w11, sI w16, sJ w17, sS, sU, sI w13, sI w14, sU, sI w15, sU] [(.int (w8 - ((256 : Int32) - w3))), (.int (0 : Int32))]) (fun t k => ?_) ?_
    ·refine XT.iconstV X1924.here hx rfl (0 : Int32) (hb hby at_592) rfl ?_
     refine XS.iload X1924.here hx rfl (hb hby at_593) rfl ?_
     refine XT.sipushV X1924.here hx rfl (256 : Int32) (hb hby at_595) rfl ?_
     refine XS.iload X1924.here hx rfl (hb hby at_598) rfl ?_
     refine XS.isub X1924.here hx rfl (hb hby at_600) rfl ?_
     exact XS.isub X1924.here hx rfl (hb hby at_601) rfl k
    obtain ⟨w18, qw18⟩ : ∃ z : Int32, z = (w8 - ((256 : Int32) - w3)) := ⟨_, rfl⟩
    rw [← qw18]
    obtain ⟨_, _, ⟨T1941, L1941, k1941, n1941⟩, -, X1941, ⟨Lc1941, hQ1941, l1941, y1941, z1941⟩, st1941⟩ := Jvm.LawKit.callS X1924 hx (y := Mn2) hown (mvT hZ (own_hw hw 76 rfl)) (mvT hZ (own_hw hw 58 rfl)) (mvT hZ (own_hw hw 45 rfl)) (mvT hZ (own_hw hw 59 rfl)) (by decide) (backOf (W := 0) (rm9 l Z a0 hw [] (0 : Int32) w18 T1906.heap n0 Z1906 ) hZ (own_hw hw 59 rfl) (own_hw hw 45 rfl) (by decide) (by decide)) (g := (mkF m 602 #[sI p1, sI p2, sI p3, sI p4, sJ p5, sS, sI w1, sI w2, sI w3, sI w4, sI w5, sI w6, sI w7, sI w8, sI w9, sA ad1799, sA ad1863, sI w9, sI w11, sI w16, sJ w17, sS, sU, sI w13, sI w14, sU, sI w15, sU] [(.int w18), (.int (0 : Int32))])) rfl (by rw [hml]; rfl) (argsL := [(.int (0 : Int32)), (.int w18)]) (rest := []) (lenOf pd_9 rfl) rfl (by show 2 * 0 + _ ≤ _; exact Nat.le_of_eq rfl) (hb hby at_602) (fun _ _ => ⟨rfl, eh1924, (by dsimp only [Pt.cells]; decide), (by dsimp only [Pt.slots]; decide)⟩)
    dsimp only [Pt.U, Pt.locs, Pt.cells, Pt.slots] at X1941 l1941 y1941 z1941 st1941 hQ1941
    subst l1941 y1941 z1941
    obtain ⟨rfl, Nc1941, hp1941⟩ := hQ1941
    have N1941 := Fr.app N1924 Nc1941
    refine OwnWp.step st1941 ?_
    have eh1941 : T1941.heap = T1906.heap := hp1941
    show OwnWp p e below s _ _ _ (T1941.setTop (mkF m 605 #[sI p1, sI p2, sI p3, sI p4, sJ p5, sS, sI w1, sI w2, sI w3, sI w4, sI w5, sI w6, sI w7, sI w8, sI w9, sA ad1799, sA ad1863, sI w9, sI w11, sI w16, sJ w17, sS, sU, sI w13, sI w14, sU, sI w15, sU] [(.int (own_max (0 : Int32) w18))]))
    obtain ⟨w19, qw19⟩ : ∃ z : Int32, z = (own_max (0 : Int32) w18) := ⟨_, rfl⟩
    refine own_s T1941 (mkF m 607 #[sI p1, sI p2, sI p3, sI p4, sJ p5, sS, sI w1, sI w2, sI w3, sI w4, sI w5, sI w6, sI w7, sI w8, sI w9, sA ad1799, sA ad1863, sI w9, sI w11, sI w16, sJ w17, sS, sU, sI w13, sI w14, sU, sI w15, sI w19] []) (fun t k => ?_) ?_
    ·refine XS.istore X1941.here hx rfl (hb hby at_605) rfl (l' := #[sI p1, sI p2, sI p3, sI p4, sJ p5, sS, sI w1, sI w2, sI w3, sI w4, sI w5, sI w6, sI w7, sI w8, sI w9, sA ad1799, sA ad1863, sI w9, sI w11, sI w16, sJ w17, sS, sU, sI w13, sI w14, sU, sI w15, sI (own_max (0 : Int32) w18)]) rfl ?_
     rw [qw19] at k
     exact k
    refine own_s T1941 (mkF m 611 #[sI p1, sI p2, sI p3, sI p4, sJ p5, sS, sI w1, sI w2, sI w3, sI w4, sI w5, sI w6, sI w7, sI w8, sI w9, sA ad1799, sA ad1863, sI w9, sI w11, sI w16, sJ w17, sS, sU, sI w13, sI w14, sU, sI w15, sI w19] [(.int w19), (.int w15)]) (fun t k => ?_) ?_
    ·refine XS.iload X1941.here hx rfl (hb hby at_607) rfl ?_
     exact XS.iload X1941.here hx rfl (hb hby at_609) rfl k
    obtain ⟨w20, qw20⟩ : ∃ z : Int32, z = (if w15 < w19 then w15 else ((w3 + w15) - w19)) := ⟨_, rfl⟩
    refine own_s T1941 (mkF m 627 #[sI p1, sI p2, sI p3, sI p4, sJ p5, sS, sI w1, sI w2, sI w3, sI w4, sI w5, sI w6, sI w7, sI w8, sI w9, sA ad1799, sA ad1863, sI w9, sI w11, sI w16, sJ w17, sS, sU, sI w13, sI w14, sU, sI w15, sI w19] [(.int w20)]) (fun t k => ?_) ?_
    ·by_cases c611_1942 : w15 < w19
     ·refine XS.icmpNo X1941.here hx rfl (hb hby at_611) rfl (XT.ii_ge_f c611_1942) ?_
      refine XS.iload X1941.here hx rfl (hb hby at_614) rfl ?_
      refine XS.goto X1941.here hx rfl (pc0 := 616) (pc' := 627) rfl (hb hby at_616) (by decide) (by decide) ?_
      rw [show w20 = w15 from by rw [qw20, if_pos c611_1942]] at k
      exact k
     ·refine XS.icmpYes X1941.here hx rfl (pc0 := 611) (pc' := 619) rfl (hb hby at_611) rfl (XT.ii_ge_t c611_1942) (by decide) (by decide) ?_
      refine XS.iload X1941.here hx rfl (hb hby at_619) rfl ?_
      refine XS.iload X1941.here hx rfl (hb hby at_621) rfl ?_
      refine XS.iadd X1941.here hx rfl (hb hby at_623) rfl ?_
      refine XS.iload X1941.here hx rfl (hb hby at_624) rfl ?_
      refine XS.isub X1941.here hx rfl (hb hby at_626) rfl ?_
      rw [show w20 = ((w3 + w15) - w19) from by rw [qw20, if_neg c611_1942]] at k
      exact k
    refine own_s T1941 (mkF m 629 #[sI p1, sI p2, sI p3, sI p4, sJ p5, sS, sI w1, sI w2, sI w3, sI w4, sI w5, sI w6, sI w7, sI w8, sI w9, sA ad1799, sA ad1863, sI w9, sI w11, sI w16, sJ w17, sS, sU, sI w13, sI w14, sI w20, sI w15, sI w19] []) (fun t k => ?_) ?_
    ·exact XS.istore X1941.here hx rfl (hb hby at_627) rfl (l' := #[sI p1, sI p2, sI p3, sI p4, sJ p5, sS, sI w1, sI w2, sI w3, sI w4, sI w5, sI w6, sI w7, sI w8, sI w9, sA ad1799, sA ad1863, sI w9, sI w11, sI w16, sJ w17, sS, sU, sI w13, sI w14, sI w20, sI w15, sI w19]) rfl k
    refine own_s T1941 (mkF m 631 #[sI p1, sI p2, sI p3, sI p4, sJ p5, sS, sI w1, sI w2, sI w3, sI w4, sI w5, sI w6, sI w7, sI w8, sI w9, sA ad1799, sA ad1863, sI w9, sI w11, sI w16, sJ w17, sS, sU, sI w13, sI w14, sI w20, sI w15, sI w19] [(.int w2)]) (fun t k => ?_) ?_
    ·exact XS.iload X1941.here hx rfl (hb hby at_629) rfl k
    by_cases c631_1943 : w2 = (0 : Int32)
    ·refine own_s T1941 (mkF m 634 #[sI p1, sI p2, sI p3, sI p4, sJ p5, sS, sI w1, sI w2, sI w3, sI w4, sI w5, sI w6, sI w7, sI w8, sI w9, sA ad1799, sA ad1863, sI w9, sI w11, sI w16, sJ w17, sS, sU, sI w13, sI w14, sI w20, sI w15, sI w19] []) (fun t k => ?_) ?_
     ·exact XS.ifNo X1941.here hx rfl (hb hby at_631) rfl (XT.i0_ne_f c631_1943) k
     refine own_s T1941 (mkF m 638 #[sI p1, sI p2, sI p3, sI p4, sJ p5, sS, sI w1, sI w2, sI w3, sI w4, sI w5, sI w6, sI w7, sI w8, sI w9, sA ad1799, sA ad1863, sI w9, sI w11, sI w16, sJ w17, sS, sU, sI w13, sI w14, sI w20, sI w15, sI w19] [(.int w1), (.int w16)]) (fun t k => ?_) ?_
     ·refine XS.iload X1941.here hx rfl (hb hby at_634) rfl ?_
      exact XS.iload X1941.here hx rfl (hb hby at_636) rfl k
     by_cases c638_1944 : w16 = w1
     ·refine own_s T1941 (mkF m 641 #[sI p1, sI p2, sI p3, sI p4, sJ p5, sS, sI w1, sI w2, sI w3, sI w4, sI w5, sI w6, sI w7, sI w8, sI w9, sA ad1799, sA ad1863, sI w9, sI w11, sI w16, sJ w17, sS, sU, sI w13, sI w14, sI w20, sI w15, sI w19] []) (fun t k => ?_) ?_
      ·exact XS.icmpNo X1941.here hx rfl (hb hby at_638) rfl (XT.ii_ne_f c638_1944) k
      obtain ⟨w21, qw21⟩ : ∃ z : Int32, z = ((w3 + w1) &&& (255 : Int32)) := ⟨_, rfl⟩
      refine own_s T1941 (mkF m 652 #[sI p1, sI p2, sI p3, sI p4, sJ p5, sS, sI w1, sI w2, sI w3, sI w4, sI w5, sI w6, sI w7, sI w8, sI w9, sA ad1799, sA ad1863, sI w9, sI w11, sI w16, sJ w17, sS, sU, sI w13, sI w14, sI w20, sI w21, sI w19] []) (fun t k => ?_) ?_
      ·refine XS.iload X1941.here hx rfl (hb hby at_641) rfl ?_
       refine XS.iload X1941.here hx rfl (hb hby at_643) rfl ?_
       refine XS.iadd X1941.here hx rfl (hb hby at_645) rfl ?_
       refine XT.sipushV X1941.here hx rfl (255 : Int32) (hb hby at_646) rfl ?_
       refine XS.iand X1941.here hx rfl (hb hby at_649) rfl ?_
       refine XS.istore X1941.here hx rfl (hb hby at_650) rfl (l' := #[sI p1, sI p2, sI p3, sI p4, sJ p5, sS, sI w1, sI w2, sI w3, sI w4, sI w5, sI w6, sI w7, sI w8, sI w9, sA ad1799, sA ad1863, sI w9, sI w11, sI w16, sJ w17, sS, sU, sI w13, sI w14, sI w20, sI ((w3 + w1) &&& (255 : Int32)), sI w19]) rfl ?_
       rw [qw21] at k
       exact k
      refine own_s T1941 (mkF m 658 #[sI p1, sI p2, sI p3, sI p4, sJ p5, sS, sI w1, sI w2, sI w3, sI w4, sI w5, sI w6, sI w7, sI w8, sI w9, sA ad1799, sA ad1863, sI w9, sI w11, sI w16, sJ w17, sS, sU, sI w13, sI w14, sI w20, sI w21, sI w19] [(.int (XT.cmpL (w17 &&& (1 : Int64)) (0 : Int64)))]) (fun t k => ?_) ?_
      ·refine XT.lload X1941.here hx rfl (hb hby at_652) rfl ?_
       refine XT.lconstV X1941.here hx rfl (1 : Int64) (hb hby at_654) rfl ?_
       refine XT.land X1941.here hx rfl (hb hby at_655) rfl ?_
       refine XT.lconstV X1941.here hx rfl (0 : Int64) (hb hby at_656) rfl ?_
       exact XT.lcmp X1941.here hx rfl (hb hby at_657) rfl k
      by_cases c658_1945 : (w17 &&& (1 : Int64)) = (0 : Int64)
      ·refine own_s T1941 (mkF m 661 #[sI p1, sI p2, sI p3, sI p4, sJ p5, sS, sI w1, sI w2, sI w3, sI w4, sI w5, sI w6, sI w7, sI w8, sI w9, sA ad1799, sA ad1863, sI w9, sI w11, sI w16, sJ w17, sS, sU, sI w13, sI w14, sI w20, sI w21, sI w19] []) (fun t k => ?_) ?_
       ·exact XS.ifNo X1941.here hx rfl (hb hby at_658) rfl (XT.ll_ne_f c658_1945) k
       refine own_s T1941 (mkF m 665 #[sI p1, sI p2, sI p3, sI p4, sJ p5, sS, sI w1, sI w2, sI w3, sI w4, sI w5, sI w6, sI w7, sI w8, sI w9, sA ad1799, sA ad1863, sI w9, sI w11, sI w16, sJ w17, sS, sU, sI w13, sI w14, sI w20, sI w21, sI w19] [(.int w3), (.int w21)]) (fun t k => ?_) ?_
       ·refine XS.iload X1941.here hx rfl (hb hby at_661) rfl ?_
        exact XS.iload X1941.here hx rfl (hb hby at_663) rfl k
       obtain ⟨_, _, ⟨T1946, L1946, k1946, n1946⟩, -, X1946, ⟨Lc1946, hQ1946, l1946, y1946, z1946⟩, st1946⟩ := Jvm.LawKit.callS X1941 hx (y := Mn1) hown (mvT hZ (own_hw hw 102 rfl)) (mvT hZ (own_hw hw 44 rfl)) (mvT hZ (own_hw hw 45 rfl)) (mvT hZ (own_hw hw 46 rfl)) (by decide) (backOf (W := 0) (rm8 l Z a0 hw [] w21 w3 T1906.heap n0 Z1906 ) hZ (own_hw hw 46 rfl) (own_hw hw 45 rfl) (by decide) (by decide)) (g := (mkF m 665 #[sI p1, sI p2, sI p3, sI p4, sJ p5, sS, sI w1, sI w2, sI w3, sI w4, sI w5, sI w6, sI w7, sI w8, sI w9, sA ad1799, sA ad1863, sI w9, sI w11, sI w16, sJ w17, sS, sU, sI w13, sI w14, sI w20, sI w21, sI w19] [(.int w3), (.int w21)])) rfl (by rw [hml]; rfl) (argsL := [(.int w21), (.int w3)]) (rest := []) (lenOf pd_8 rfl) rfl (by show 2 * 0 + _ ≤ _; exact Nat.le_of_eq rfl) (hb hby at_665) (fun _ _ => ⟨rfl, eh1941, (by dsimp only [Pt.cells]; decide), (by dsimp only [Pt.slots]; decide)⟩)
       dsimp only [Pt.U, Pt.locs, Pt.cells, Pt.slots] at X1946 l1946 y1946 z1946 st1946 hQ1946
       subst l1946 y1946 z1946
       obtain ⟨rfl, Nc1946, hp1946⟩ := hQ1946
       have N1946 := Fr.app N1941 Nc1946
       refine OwnWp.step st1946 ?_
       have eh1946 : T1946.heap = T1906.heap := hp1946
       show OwnWp p e below s _ _ _ (T1946.setTop (mkF m 668 #[sI p1, sI p2, sI p3, sI p4, sJ p5, sS, sI w1, sI w2, sI w3, sI w4, sI w5, sI w6, sI w7, sI w8, sI w9, sA ad1799, sA ad1863, sI w9, sI w11, sI w16, sJ w17, sS, sU, sI w13, sI w14, sI w20, sI w21, sI w19] [(.int (own_min w21 w3))]))
       obtain ⟨w22, qw22⟩ : ∃ z : Int32, z = (own_min w21 w3) := ⟨_, rfl⟩
       refine own_s T1946 (mkF m 680 #[sI p1, sI p2, sI p3, sI p4, sJ p5, sS, sI w1, sI w2, sI w3, sI w4, sI w5, sI w6, sI w7, sI w8, sI w9, sA ad1799, sA ad1863, sI w9, sI w11, sI w16, sJ w17, sS, sU, sI w13, sI w14, sI w22, sI w21, sI w19] []) (fun t k => ?_) ?_
       ·refine XS.goto X1946.here hx rfl (pc0 := 668) (pc' := 678) rfl (hb hby at_668) (by decide) (by decide) ?_
        refine XS.istore X1946.here hx rfl (hb hby at_678) rfl (l' := #[sI p1, sI p2, sI p3, sI p4, sJ p5, sS, sI w1, sI w2, sI w3, sI w4, sI w5, sI w6, sI w7, sI w8, sI w9, sA ad1799, sA ad1863, sI w9, sI w11, sI w16, sJ w17, sS, sU, sI w13, sI w14, sI (own_min w21 w3), sI w21, sI w19]) rfl ?_
        rw [qw22] at k
        exact k
       obtain ⟨w23, qw23⟩ : ∃ z : Int32, z = ((w22 <<< ((4 : Int32) &&& 31)) ||| w16) := ⟨_, rfl⟩
       refine own_s T1946 (mkF m 689 #[sI p1, sI p2, sI p3, sI p4, sJ p5, sS, sI w1, sI w2, sI w3, sI w4, sI w5, sI w6, sI w7, sI w8, sI w9, sA ad1799, sA ad1863, sI w9, sI w11, sI w16, sJ w17, sS, sI w23, sI w13, sI w14, sI w22, sI w21, sI w19] []) (fun t k => ?_) ?_
       ·refine XS.iload X1946.here hx rfl (hb hby at_680) rfl ?_
        refine XT.iconstV X1946.here hx rfl (4 : Int32) (hb hby at_682) rfl ?_
        refine XT.ishl X1946.here hx rfl (hb hby at_683) rfl ?_
        refine XS.iload X1946.here hx rfl (hb hby at_684) rfl ?_
        refine XT.ior X1946.here hx rfl (hb hby at_686) rfl ?_
        refine XS.istore X1946.here hx rfl (hb hby at_687) rfl (l' := #[sI p1, sI p2, sI p3, sI p4, sJ p5, sS, sI w1, sI w2, sI w3, sI w4, sI w5, sI w6, sI w7, sI w8, sI w9, sA ad1799, sA ad1863, sI w9, sI w11, sI w16, sJ w17, sS, sI ((w22 <<< ((4 : Int32) &&& 31)) ||| w16), sI w13, sI w14, sI w22, sI w21, sI w19]) rfl ?_
        rw [qw23] at k
        exact k
       exact J689  T1946 T1906.heap _ w16 w17 w23 w13 w14 w22 _ _ (own_widen X1946 (by decide) (by decide)) eh1946 N1946 Z1906 f1907 f1908 u11906 u21906 u31906 u41906 ae1906  (One.val rfl) (One.val rfl) (fun nx qnx => own_roadBmin hfm ho0 ho1 ho hT hT12 hK hK3 hc13 hTK hmlTK hfl1906 hor1906 hwd1906 hF hF1 hF12 hfam hrm1906 hwI hi24 c527_1935 qw15 qw16 qw17 qw18 qw19 qw20 c631_1943 c638_1944 qw21 c658_1945 qw22 qw23 qnx)
      ·refine own_s T1941 (mkF m 671 #[sI p1, sI p2, sI p3, sI p4, sJ p5, sS, sI w1, sI w2, sI w3, sI w4, sI w5, sI w6, sI w7, sI w8, sI w9, sA ad1799, sA ad1863, sI w9, sI w11, sI w16, sJ w17, sS, sU, sI w13, sI w14, sI w20, sI w21, sI w19] []) (fun t k => ?_) ?_
       ·exact XS.ifYes X1941.here hx rfl (pc0 := 658) (pc' := 671) rfl (hb hby at_658) rfl (XT.ll_ne_t c658_1945) (by decide) (by decide) k
       refine own_s T1941 (mkF m 675 #[sI p1, sI p2, sI p3, sI p4, sJ p5, sS, sI w1, sI w2, sI w3, sI w4, sI w5, sI w6, sI w7, sI w8, sI w9, sA ad1799, sA ad1863, sI w9, sI w11, sI w16, sJ w17, sS, sU, sI w13, sI w14, sI w20, sI w21, sI w19] [(.int w3), (.int w21)]) (fun t k => ?_) ?_
       ·refine XS.iload X1941.here hx rfl (hb hby at_671) rfl ?_
        exact XS.iload X1941.here hx rfl (hb hby at_673) rfl k
       obtain ⟨_, _, ⟨T1947, L1947, k1947, n1947⟩, -, X1947, ⟨Lc1947, hQ1947, l1947, y1947, z1947⟩, st1947⟩ := Jvm.LawKit.callS X1941 hx (y := Mn2) hown (mvT hZ (own_hw hw 76 rfl)) (mvT hZ (own_hw hw 58 rfl)) (mvT hZ (own_hw hw 45 rfl)) (mvT hZ (own_hw hw 59 rfl)) (by decide) (backOf (W := 0) (rm9 l Z a0 hw [] w21 w3 T1906.heap n0 Z1906 ) hZ (own_hw hw 59 rfl) (own_hw hw 45 rfl) (by decide) (by decide)) (g := (mkF m 675 #[sI p1, sI p2, sI p3, sI p4, sJ p5, sS, sI w1, sI w2, sI w3, sI w4, sI w5, sI w6, sI w7, sI w8, sI w9, sA ad1799, sA ad1863, sI w9, sI w11, sI w16, sJ w17, sS, sU, sI w13, sI w14, sI w20, sI w21, sI w19] [(.int w3), (.int w21)])) rfl (by rw [hml]; rfl) (argsL := [(.int w21), (.int w3)]) (rest := []) (lenOf pd_9 rfl) rfl (by show 2 * 0 + _ ≤ _; exact Nat.le_of_eq rfl) (hb hby at_675) (fun _ _ => ⟨rfl, eh1941, (by dsimp only [Pt.cells]; decide), (by dsimp only [Pt.slots]; decide)⟩)
       dsimp only [Pt.U, Pt.locs, Pt.cells, Pt.slots] at X1947 l1947 y1947 z1947 st1947 hQ1947
       subst l1947 y1947 z1947
       obtain ⟨rfl, Nc1947, hp1947⟩ := hQ1947
       have N1947 := Fr.app N1941 Nc1947
       refine OwnWp.step st1947 ?_
       have eh1947 : T1947.heap = T1906.heap := hp1947
       show OwnWp p e below s _ _ _ (T1947.setTop (mkF m 678 #[sI p1, sI p2, sI p3, sI p4, sJ p5, sS, sI w1, sI w2, sI w3, sI w4, sI w5, sI w6, sI w7, sI w8, sI w9, sA ad1799, sA ad1863, sI w9, sI w11, sI w16, sJ w17, sS, sU, sI w13, sI w14, sI w20, sI w21, sI w19] [(.int (own_max w21 w3))]))
       obtain ⟨w22, qw22⟩ : ∃ z : Int32, z = (own_max w21 w3) := ⟨_, rfl⟩
       refine own_s T1947 (mkF m 680 #[sI p1, sI p2, sI p3, sI p4, sJ p5, sS, sI w1, sI w2, sI w3, sI w4, sI w5, sI w6, sI w7, sI w8, sI w9, sA ad1799, sA ad1863, sI w9, sI w11, sI w16, sJ w17, sS, sU, sI w13, sI w14, sI w22, sI w21, sI w19] []) (fun t k => ?_) ?_
       ·refine XS.istore X1947.here hx rfl (hb hby at_678) rfl (l' := #[sI p1, sI p2, sI p3, sI p4, sJ p5, sS, sI w1, sI w2, sI w3, sI w4, sI w5, sI w6, sI w7, sI w8, sI w9, sA ad1799, sA ad1863, sI w9, sI w11, sI w16, sJ w17, sS, sU, sI w13, sI w14, sI (own_max w21 w3), sI w21, sI w19]) rfl ?_
        rw [qw22] at k
        exact k
       obtain ⟨w23, qw23⟩ : ∃ z : Int32, z = ((w22 <<< ((4 : Int32) &&& 31)) ||| w16) := ⟨_, rfl⟩
       refine own_s T1947 (mkF m 689 #[sI p1, sI p2, sI p3, sI p4, sJ p5, sS, sI w1, sI w2, sI w3, sI w4, sI w5, sI w6, sI w7, sI w8, sI w9, sA ad1799, sA ad1863, sI w9, sI w11, sI w16, sJ w17, sS, sI w23, sI w13, sI w14, sI w22, sI w21, sI w19] []) (fun t k => ?_) ?_
       ·refine XS.iload X1947.here hx rfl (hb hby at_680) rfl ?_
        refine XT.iconstV X1947.here hx rfl (4 : Int32) (hb hby at_682) rfl ?_
        refine XT.ishl X1947.here hx rfl (hb hby at_683) rfl ?_
        refine XS.iload X1947.here hx rfl (hb hby at_684) rfl ?_
        refine XT.ior X1947.here hx rfl (hb hby at_686) rfl ?_
        refine XS.istore X1947.here hx rfl (hb hby at_687) rfl (l' := #[sI p1, sI p2, sI p3, sI p4, sJ p5, sS, sI w1, sI w2, sI w3, sI w4, sI w5, sI w6, sI w7, sI w8, sI w9, sA ad1799, sA ad1863, sI w9, sI w11, sI w16, sJ w17, sS, sI ((w22 <<< ((4 : Int32) &&& 31)) ||| w16), sI w13, sI w14, sI w22, sI w21, sI w19]) rfl ?_
        rw [qw23] at k
        exact k
       exact J689  T1947 T1906.heap _ w16 w17 w23 w13 w14 w22 _ _ (own_widen X1947 (by decide) (by decide)) eh1947 N1947 Z1906 f1907 f1908 u11906 u21906 u31906 u41906 ae1906  (One.val rfl) (One.val rfl) (fun nx qnx => own_roadBmax hfm ho0 ho1 ho hT hT12 hK hK3 hc13 hTK hmlTK hfl1906 hor1906 hwd1906 hF hF1 hF12 hfam hrm1906 hwI hi24 c527_1935 qw15 qw16 qw17 qw18 qw19 qw20 c631_1943 c638_1944 qw21 c658_1945 qw22 qw23 qnx)
     ·refine own_s T1941 (mkF m 680 #[sI p1, sI p2, sI p3, sI p4, sJ p5, sS, sI w1, sI w2, sI w3, sI w4, sI w5, sI w6, sI w7, sI w8, sI w9, sA ad1799, sA ad1863, sI w9, sI w11, sI w16, sJ w17, sS, sU, sI w13, sI w14, sI w20, sI w15, sI w19] []) (fun t k => ?_) ?_
      ·exact XS.icmpYes X1941.here hx rfl (pc0 := 638) (pc' := 680) rfl (hb hby at_638) rfl (XT.ii_ne_t c638_1944) (by decide) (by decide) k
      obtain ⟨w21, qw21⟩ : ∃ z : Int32, z = ((w20 <<< ((4 : Int32) &&& 31)) ||| w16) := ⟨_, rfl⟩
      refine own_s T1941 (mkF m 689 #[sI p1, sI p2, sI p3, sI p4, sJ p5, sS, sI w1, sI w2, sI w3, sI w4, sI w5, sI w6, sI w7, sI w8, sI w9, sA ad1799, sA ad1863, sI w9, sI w11, sI w16, sJ w17, sS, sI w21, sI w13, sI w14, sI w20, sI w15, sI w19] []) (fun t k => ?_) ?_
      ·refine XS.iload X1941.here hx rfl (hb hby at_680) rfl ?_
       refine XT.iconstV X1941.here hx rfl (4 : Int32) (hb hby at_682) rfl ?_
       refine XT.ishl X1941.here hx rfl (hb hby at_683) rfl ?_
       refine XS.iload X1941.here hx rfl (hb hby at_684) rfl ?_
       refine XT.ior X1941.here hx rfl (hb hby at_686) rfl ?_
       refine XS.istore X1941.here hx rfl (hb hby at_687) rfl (l' := #[sI p1, sI p2, sI p3, sI p4, sJ p5, sS, sI w1, sI w2, sI w3, sI w4, sI w5, sI w6, sI w7, sI w8, sI w9, sA ad1799, sA ad1863, sI w9, sI w11, sI w16, sJ w17, sS, sI ((w20 <<< ((4 : Int32) &&& 31)) ||| w16), sI w13, sI w14, sI w20, sI w15, sI w19]) rfl ?_
       rw [qw21] at k
       exact k
      exact J689  T1941 T1906.heap _ w16 w17 w21 w13 w14 w20 _ _ (own_widen X1941 (by decide) (by decide)) eh1941 N1941 Z1906 f1907 f1908 u11906 u21906 u31906 u41906 ae1906  (One.val rfl) (One.val rfl) (fun nx qnx => own_roadB hfm ho0 ho1 ho hT hT12 hK hK3 hc13 hTK hmlTK hfl1906 hor1906 hwd1906 hF hF1 hF12 hfam hrm1906 hwI hi24 c527_1935 qw15 qw16 qw17 qw18 qw19 qw20 (Or.inr c638_1944) qw21 qnx)
    ·refine own_s T1941 (mkF m 680 #[sI p1, sI p2, sI p3, sI p4, sJ p5, sS, sI w1, sI w2, sI w3, sI w4, sI w5, sI w6, sI w7, sI w8, sI w9, sA ad1799, sA ad1863, sI w9, sI w11, sI w16, sJ w17, sS, sU, sI w13, sI w14, sI w20, sI w15, sI w19] []) (fun t k => ?_) ?_
     ·exact XS.ifYes X1941.here hx rfl (pc0 := 631) (pc' := 680) rfl (hb hby at_631) rfl (XT.i0_ne_t c631_1943) (by decide) (by decide) k
     obtain ⟨w21, qw21⟩ : ∃ z : Int32, z = ((w20 <<< ((4 : Int32) &&& 31)) ||| w16) := ⟨_, rfl⟩
     refine own_s T1941 (mkF m 689 #[sI p1, sI p2, sI p3, sI p4, sJ p5, sS, sI w1, sI w2, sI w3, sI w4, sI w5, sI w6, sI w7, sI w8, sI w9, sA ad1799, sA ad1863, sI w9, sI w11, sI w16, sJ w17, sS, sI w21, sI w13, sI w14, sI w20, sI w15, sI w19] []) (fun t k => ?_) ?_
     ·refine XS.iload X1941.here hx rfl (hb hby at_680) rfl ?_
      refine XT.iconstV X1941.here hx rfl (4 : Int32) (hb hby at_682) rfl ?_
      refine XT.ishl X1941.here hx rfl (hb hby at_683) rfl ?_
      refine XS.iload X1941.here hx rfl (hb hby at_684) rfl ?_
      refine XT.ior X1941.here hx rfl (hb hby at_686) rfl ?_
      refine XS.istore X1941.here hx rfl (hb hby at_687) rfl (l' := #[sI p1, sI p2, sI p3, sI p4, sJ p5, sS, sI w1, sI w2, sI w3, sI w4, sI w5, sI w6, sI w7, sI w8, sI w9, sA ad1799, sA ad1863, sI w9, sI w11, sI w16, sJ w17, sS, sI ((w20 <<< ((4 : Int32) &&& 31)) ||| w16), sI w13, sI w14, sI w20, sI w15, sI w19]) rfl ?_
      rw [qw21] at k
      exact k
     exact J689  T1941 T1906.heap _ w16 w17 w21 w13 w14 w20 _ _ (own_widen X1941 (by decide) (by decide)) eh1941 N1941 Z1906 f1907 f1908 u11906 u21906 u31906 u41906 ae1906  (One.val rfl) (One.val rfl) (fun nx qnx => own_roadB hfm ho0 ho1 ho hT hT12 hK hK3 hc13 hTK hmlTK hfl1906 hor1906 hwd1906 hF hF1 hF12 hfam hrm1906 hwI hi24 c527_1935 qw15 qw16 qw17 qw18 qw19 qw20 (Or.inl c631_1943) qw21 qnx)
  ·refine own_s T1924 (mkF m 476 #[sI p1, sI p2, sI p3, sI p4, sJ p5, sS, sI w1, sI w2, sI w3, sI w4, sI w5, sI w6, sI w7, sI w8, sI w9, sA ad1799, sA ad1863, sI w9, sI w11, sU, sU, sU, sU, sU, sU, sU, sU, sU] []) (fun t k => ?_) ?_
   ·exact XS.ifNo X1924.here hx rfl (hb hby at_473) rfl (XT.i0_eq_f c473_1925) k
   obtain ⟨w12, qw12⟩ : ∃ z : Int64, z = (p4 &&& (1 : Int32)).toInt64 := ⟨_, rfl⟩
   refine own_s T1924 (mkF m 485 #[sI p1, sI p2, sI p3, sI p4, sJ p5, sS, sI w1, sI w2, sI w3, sI w4, sI w5, sI w6, sI w7, sI w8, sI w9, sA ad1799, sA ad1863, sI w9, sI w11, sI (1 : Int32), sJ w12, sS, sU, sU, sU, sU, sU, sU] []) (fun t k => ?_) ?_
   ·refine XT.iconstV X1924.here hx rfl (1 : Int32) (hb hby at_476) rfl ?_
    refine XS.istore X1924.here hx rfl (hb hby at_477) rfl (l' := #[sI p1, sI p2, sI p3, sI p4, sJ p5, sS, sI w1, sI w2, sI w3, sI w4, sI w5, sI w6, sI w7, sI w8, sI w9, sA ad1799, sA ad1863, sI w9, sI w11, sI (1 : Int32), sU, sU, sU, sU, sU, sU, sU, sU]) rfl ?_
    refine XS.iloadN X1924.here hx rfl (hb hby at_479) rfl ?_
    refine XT.iconstV X1924.here hx rfl (1 : Int32) (hb hby at_480) rfl ?_
    refine XS.iand X1924.here hx rfl (hb hby at_481) rfl ?_
    refine XT.i2l X1924.here hx rfl (hb hby at_482) rfl ?_
    refine XT.lstore X1924.here hx rfl (hb hby at_483) rfl (l' := #[sI p1, sI p2, sI p3, sI p4, sJ p5, sS, sI w1, sI w2, sI w3, sI w4, sI w5, sI w6, sI w7, sI w8, sI w9, sA ad1799, sA ad1863, sI w9, sI w11, sI (1 : Int32), sJ (p4 &&& (1 : Int32)).toInt64, sS, sU, sU, sU, sU, sU, sU]) rfl ?_
    rw [qw12] at k
    exact k
   refine own_s T1924 (mkF m 489 #[sI p1, sI p2, sI p3, sI p4, sJ p5, sS, sI w1, sI w2, sI w3, sI w4, sI w5, sI w6, sI w7, sI w8, sI w9, sA ad1799, sA ad1863, sI w9, sI w11, sI (1 : Int32), sJ w12, sS, sU, sU, sU, sU, sU, sU] [(.int (XT.cmpL w12 (0 : Int64)))]) (fun t k => ?_) ?_
   ·refine XT.lload X1924.here hx rfl (hb hby at_485) rfl ?_
    refine XT.lconstV X1924.here hx rfl (0 : Int64) (hb hby at_487) rfl ?_
    exact XT.lcmp X1924.here hx rfl (hb hby at_488) rfl k
   obtain ⟨w13, qw13⟩ : ∃ z : Int32, z = (if w12 = (0 : Int64) then ((w3 <<< ((4 : Int32) &&& 31)) ||| (1 : Int32)) else (0 : Int32)) := ⟨_, rfl⟩
   refine own_s T1924 (mkF m 502 #[sI p1, sI p2, sI p3, sI p4, sJ p5, sS, sI w1, sI w2, sI w3, sI w4, sI w5, sI w6, sI w7, sI w8, sI w9, sA ad1799, sA ad1863, sI w9, sI w11, sI (1 : Int32), sJ w12, sS, sU, sU, sU, sU, sU, sU] [(.int w13)]) (fun t k => ?_) ?_
   ·by_cases c489_1948 : w12 = (0 : Int64)
    ·refine XS.ifNo X1924.here hx rfl (hb hby at_489) rfl (XT.ll_ne_f c489_1948) ?_
     refine XS.iload X1924.here hx rfl (hb hby at_492) rfl ?_
     refine XT.iconstV X1924.here hx rfl (4 : Int32) (hb hby at_494) rfl ?_
     refine XT.ishl X1924.here hx rfl (hb hby at_495) rfl ?_
     refine XT.iconstV X1924.here hx rfl (1 : Int32) (hb hby at_496) rfl ?_
     refine XT.ior X1924.here hx rfl (hb hby at_497) rfl ?_
     refine XS.goto X1924.here hx rfl (pc0 := 498) (pc' := 502) rfl (hb hby at_498) (by decide) (by decide) ?_
     rw [show w13 = ((w3 <<< ((4 : Int32) &&& 31)) ||| (1 : Int32)) from by rw [qw13, if_pos c489_1948]] at k
     exact k
    ·refine XS.ifYes X1924.here hx rfl (pc0 := 489) (pc' := 501) rfl (hb hby at_489) rfl (XT.ll_ne_t c489_1948) (by decide) (by decide) ?_
     refine XT.iconstV X1924.here hx rfl (0 : Int32) (hb hby at_501) rfl ?_
     rw [show w13 = (0 : Int32) from by rw [qw13, if_neg c489_1948]] at k
     exact k
   refine own_s T1924 (mkF m 689 #[sI p1, sI p2, sI p3, sI p4, sJ p5, sS, sI w1, sI w2, sI w3, sI w4, sI w5, sI w6, sI w7, sI w8, sI w9, sA ad1799, sA ad1863, sI w9, sI w11, sI (1 : Int32), sJ w12, sS, sI w13, sU, sU, sU, sU, sU] []) (fun t k => ?_) ?_
   ·refine XS.istore X1924.here hx rfl (hb hby at_502) rfl (l' := #[sI p1, sI p2, sI p3, sI p4, sJ p5, sS, sI w1, sI w2, sI w3, sI w4, sI w5, sI w6, sI w7, sI w8, sI w9, sA ad1799, sA ad1863, sI w9, sI w11, sI (1 : Int32), sJ w12, sS, sI w13, sU, sU, sU, sU, sU]) rfl ?_
    exact XS.goto X1924.here hx rfl (pc0 := 504) (pc' := 689) rfl (hb hby at_504) (by decide) (by decide) k
   obtain ⟨rfl, rfl, rfl⟩ := own_lone hT hT12 hK hK3 qw6 c473_1925 hcs
   obtain ⟨w14, qw14⟩ : ∃ z : Int64, z = ((w12 <<< ((w11 - (1 : Int32)).toInt64 &&& 63)) ||| (p5 &&& (((1 : Int64) <<< ((w11 - (1 : Int32)).toInt64 &&& 63)) - (1 : Int64)))) := ⟨_, rfl⟩
   refine own_s T1924 (mkF m 712 #[sI p1, sI p2, sI p3, sI p4, sJ p5, sS, sI w1, sI w2, sI w3, sI w4, sI w5, sI w6, sI w7, sI w8, sI w9, sA ad1799, sA ad1863, sI w9, sI w11, sI (1 : Int32), sJ w12, sS, sI w13, sJ w14, sS, sU, sU, sU] []) (fun t k => ?_) ?_
   ·refine XT.lload X1924.here hx rfl (hb hby at_689) rfl ?_
    refine XS.iload X1924.here hx rfl (hb hby at_691) rfl ?_
    refine XS.iload X1924.here hx rfl (hb hby at_693) rfl ?_
    refine XS.isub X1924.here hx rfl (hb hby at_695) rfl ?_
    refine XT.lshl X1924.here hx rfl (hb hby at_696) rfl ?_
    refine XT.lload X1924.here hx rfl (hb hby at_697) rfl ?_
    refine XT.lconstV X1924.here hx rfl (1 : Int64) (hb hby at_699) rfl ?_
    refine XS.iload X1924.here hx rfl (hb hby at_700) rfl ?_
    refine XS.iload X1924.here hx rfl (hb hby at_702) rfl ?_
    refine XS.isub X1924.here hx rfl (hb hby at_704) rfl ?_
    refine XT.lshl X1924.here hx rfl (hb hby at_705) rfl ?_
    refine XT.lconstV X1924.here hx rfl (1 : Int64) (hb hby at_706) rfl ?_
    refine XT.lsub X1924.here hx rfl (hb hby at_707) rfl ?_
    refine XT.land X1924.here hx rfl (hb hby at_708) rfl ?_
    show Steps p.tables e below (T1924.setTop (mkF m 709 #[sI p1, sI p2, sI p3, sI p4, sJ p5, sS, sI w1, sI w2, sI w3, sI w4, sI w5, sI w6, sI w7, sI w8, sI w9, sA ad1799, sA ad1863, sI w9, sI w11, sI (1 : Int32), sJ w12, sS, sI w13, sU, sU, sU, sU, sU] [(.long (p5 &&& (((1 : Int64) <<< ((w11 - (1 : Int32)).toInt64 &&& 63)) - (1 : Int64)))), (.long (w12 <<< ((w11 - (1 : Int32)).toInt64 &&& 63)))])) _
    refine XT.lor X1924.here hx rfl (hb hby at_709) rfl ?_
    refine XT.lstore X1924.here hx rfl (hb hby at_710) rfl (l' := #[sI p1, sI p2, sI p3, sI p4, sJ p5, sS, sI w1, sI w2, sI w3, sI w4, sI w5, sI w6, sI w7, sI w8, sI w9, sA ad1799, sA ad1863, sI w9, sI w11, sI (1 : Int32), sJ w12, sS, sI w13, sJ ((w12 <<< ((w11 - (1 : Int32)).toInt64 &&& 63)) ||| (p5 &&& (((1 : Int64) <<< ((w11 - (1 : Int32)).toInt64 &&& 63)) - (1 : Int64)))), sS, sU, sU, sU]) rfl ?_
    rw [qw14] at k
    exact k
   refine own_s T1924 (mkF m 716 #[sI p1, sI p2, sI p3, sI p4, sJ p5, sS, sI w1, sI w2, sI w3, sI w4, sI w5, sI w6, sI w7, sI w8, sI w9, sA ad1799, sA ad1863, sI w9, sI w11, sI (1 : Int32), sJ w12, sS, sI w13, sJ w14, sS, sU, sU, sU] [(.long w14), (.ref ad1863)]) (fun t k => ?_) ?_
   ·refine XS.aload X1924.here hx rfl (hb hby at_712) rfl rfl ?_
    exact XT.lload X1924.here hx rfl (hb hby at_714) rfl k
   obtain ⟨hok, hval⟩ : own_symok fe1906 rm1906 wd1906 w7 w14 ∧ own_symbol fe1906 pu19 wd1906 w7 w14 = w13 := own_roadL hfm ho0 ho1 ho hfl1906 hor1906 hwd1906 hF hF1 hF12 hfam hrm1906 hwI qw12 qw13 qw14
   obtain ⟨cq1949, kq1949, qa1949, qb1949, qc1949⟩ := isOf hZ eh1924 f1908
   obtain ⟨_, _, ⟨T1949, L1949, k1949, n1949⟩, -, X1949, ⟨Lc1949, hQ1949, l1949, y1949, z1949⟩, st1949⟩ := X1924.virtualBack hx (y := Mn16) (z := Mn16) hown (mvT hZ (own_hw hw 77 rfl)) (mvT hZ (own_hw hw 78 rfl)) (notFace_of_selects (args := #[]) (mvT hZ (own_hw hw 80 rfl))) (mvT hZ (own_hw hw 80 rfl)) (mvT hZ (own_hw hw 79 rfl)) (by decide) (backOf (W := 0) (rm13 l Z a0 hw [] ad1863 w14 en1906 ad1799 fe1906 pu19 rm1906 wd1906 w7 T1906.heap n0 Z1906 u11906 u31906 u21906 u41906 ae1906 f1907 hok) hZ (own_hw hw 81 rfl) (own_hw hw 4 rfl) (by decide) (by decide)) qa1949 qc1949 (g := (mkF m 716 #[sI p1, sI p2, sI p3, sI p4, sJ p5, sS, sI w1, sI w2, sI w3, sI w4, sI w5, sI w6, sI w7, sI w8, sI w9, sA ad1799, sA ad1863, sI w9, sI w11, sI (1 : Int32), sJ w12, sS, sI w13, sJ w14, sS, sU, sU, sU] [(.long w14), (.ref ad1863)])) rfl (by rw [hml]; rfl) (Steps.refl _) (argsL := [(.long w14)]) (rest := []) (lenOf pd_13 rfl) rfl (by show 2 * 0 + _ ≤ _; exact Nat.le_of_eq rfl) (hb hby at_716) (fun _ _ => ⟨rfl, eh1924, (by dsimp only [Pt.cells]; decide), (by dsimp only [Pt.slots]; decide)⟩)
   dsimp only [Pt.U, Pt.locs, Pt.cells, Pt.slots] at X1949 l1949 y1949 z1949 st1949 hQ1949
   subst l1949 y1949 z1949
   obtain ⟨rfl, Nc1949, hp1949⟩ := hQ1949
   have N1949 := Fr.app N1924 Nc1949
   refine OwnWp.go st1949 ?_
   have eh1949 : T1949.heap = T1906.heap := hp1949
   refine own_s T1949 (mkF m 729 #[sI p1, sI p2, sI p3, sI p4, sJ p5, sS, sI w1, sI w2, sI w3, sI w4, sI w5, sI w6, sI w7, sI w8, sI w9, sA ad1799, sA ad1863, sI w9, sI w11, sI (1 : Int32), sJ w12, sS, sI w13, sJ w14, sS, sU, sU, sU] [(.int (1 : Int32))]) (fun t k => ?_) ?_
   ·refine XS.iload X1949.here hx rfl (hb hby at_719) rfl ?_
    refine XS.icmpNo X1949.here hx rfl (hb hby at_721) rfl (XT.ii_ne_f hval) ?_
    refine XT.iconstV X1949.here hx rfl (1 : Int32) (hb hby at_724) rfl ?_
    exact XS.goto X1949.here hx rfl (pc0 := 725) (pc' := 729) rfl (hb hby at_725) (by decide) (by decide) k
   refine OwnWp.retZ X1949 hx hlk Bd.returns (hb hby at_729) (by decide) (by decide) (by decide) ?_
   exact ⟨rfl, N1949⟩
 ·refine own_s T1799 (mkF m 403 #[sI p1, sI p2, sI p3, sI p4, sJ p5, sS, sI w1, sI w2, sI w3, sI w4, sI w5, sI w6, sI w7, sI w8, sI w9, sA ad1799, sU, sU, sU, sU, sU, sU, sU, sU, sU, sU, sU, sU] []) (fun t k => ?_) ?_
  ·exact XS.ifYes X1799.here hx rfl (pc0 := 121) (pc' := 403) rfl (hb hby at_121) rfl (XT.i0_ne_t c121_1801) (by decide) (by decide) k
  obtain ⟨Lf, hLf⟩ : ∃ z : Int → Int32, z = (fun _ => (0 : Int32)) := ⟨_, rfl⟩
  have f1950 : OwnA Z h1799 ad1799 .int (256 : Int32) (fun zi => .int (Lf zi)) := by rw [hLf]; exact F1800
  have hLf : ∀ i : Int, Lf i = 0 := fun i => by rw [hLf]
  have hfam := own_none (own_Lzero hLf)
  obtain ⟨T1951, h1951, X1951, e1951, E1951, A1951, D1951, -, st1951⟩ := newO X1799 hx hZ hown (own_hw hw 2 rfl) (own_hw hw 3 rfl) (own_hw hw 4 rfl) e1799 (g := (mkF m 403 #[sI p1, sI p2, sI p3, sI p4, sJ p5, sS, sI w1, sI w2, sI w3, sI w4, sI w5, sI w6, sI w7, sI w8, sI w9, sA ad1799, sU, sU, sU, sU, sU, sU, sU, sU, sU, sU, sU, sU] [])) rfl (hb hby at_403) (by decide) (by decide)
  obtain ⟨ad1951, ga1951⟩ : ∃ z, z = h1799.size := ⟨_, rfl⟩
  rw [← ga1951] at A1951 D1951 st1951
  refine OwnWp.step st1951 ?_
  have ne1951_1952 : ad1799 ≠ ad1951 := Nat.ne_of_lt (by rw [ga1951]; exact f1950.lt)
  have Z1951 : n0 ≤ h1951.size := Nat.le_trans Z1799 E1951.1
  have b1951 : n0 ≤ ad1951 := Nat.le_trans Z1799 (Nat.le_of_eq ga1951.symm)
  have f1953 := OwnA.ext f1950 E1951
  have F1954 : Fld Z h1951 ad1951 DTn "entries" "[I" .null := D1951 (Or.inl (own_hw hw 12 rfl)) (ty := (.array .int)) (by decide)
  have F1955 : Fld Z h1951 ad1951 DTn "firstBits" "I" (.int (0 : Int32)) := D1951 (Or.inl (own_hw hw 56 rfl)) (ty := .int) (by decide)
  have F1956 : Fld Z h1951 ad1951 DTn "width" "I" (.int (0 : Int32)) := D1951 (Or.inl (own_hw hw 61 rfl)) (ty := .int) (by decide)
  have F1957 : Fld Z h1951 ad1951 DTn "expectedBits" "I" (.int (0 : Int32)) := D1951 (Or.inl (own_hw hw 75 rfl)) (ty := .int) (by decide)
  have F1958 : Fld Z h1951 ad1951 DTn "codeLengths" "[I" .null := D1951 (Or.inl (own_hw hw 54 rfl)) (ty := (.array .int)) (by decide)
  have F1959 : Fld Z h1951 ad1951 DTn "order" "[I" .null := D1951 (Or.inr (own_hw hw 14 rfl)) (ty := (.array .int)) (by decide)
  have F1960 : Fld Z h1951 ad1951 DTn "laneCounts" "[I" .null := D1951 (Or.inr (own_hw hw 16 rfl)) (ty := (.array .int)) (by decide)
  have F1961 : Fld Z h1951 ad1951 DTn "places" "[I" .null := D1951 (Or.inr (own_hw hw 18 rfl)) (ty := (.array .int)) (by decide)
  have F1962 : Fld Z h1951 ad1951 DTn "shortest" "I" (.int (0 : Int32)) := D1951 (Or.inl (own_hw hw 67 rfl)) (ty := .int) (by decide)
  have F1963 : Fld Z h1951 ad1951 DTn "longest" "I" (.int (0 : Int32)) := D1951 (Or.inl (own_hw hw 52 rfl)) (ty := .int) (by decide)
  have F1964 : Fld Z h1951 ad1951 DTn "follows" "[I" .null := D1951 (Or.inl (own_hw hw 20 rfl)) (ty := (.array .int)) (by decide)
  have F1965 : Fld Z h1951 ad1951 DTn "lasts" "[I" .null := D1951 (Or.inl (own_hw hw 22 rfl)) (ty := (.array .int)) (by decide)
  refine own_s T1951 (mkF m 407 #[sI p1, sI p2, sI p3, sI p4, sJ p5, sS, sI w1, sI w2, sI w3, sI w4, sI w5, sI w6, sI w7, sI w8, sI w9, sA ad1799, sU, sU, sU, sU, sU, sU, sU, sU, sU, sU, sU, sU] [(.ref ad1951), (.ref ad1951)]) (fun t k => ?_) ?_
  ·exact XS.dup X1951.here hx rfl (hb hby at_406) rfl rfl k
  obtain ⟨_, _, ⟨T1966, L1966, k1966, n1966⟩, -, X1966, ⟨Lc1966, hQ1966, l1966, y1966, z1966⟩, st1966⟩ := X1951.specialBack hx (y := Mn15) rfl hown (mvT hZ (own_hw hw 5 rfl)) (mvT hZ (own_hw hw 6 rfl)) (mvT hZ (own_hw hw 7 rfl)) (by decide) (backOf (W := 1) (rm1 l Z a0 hw [] ad1951 h1951 n0 Z1951 b1951 A1951 F1954 F1955 F1956 F1957 F1958 F1959 F1960 F1961 F1962 F1963 F1964 F1965) hZ (own_hw hw 7 rfl) (own_hw hw 4 rfl) (by decide) (by decide)) (g := (mkF m 407 #[sI p1, sI p2, sI p3, sI p4, sJ p5, sS, sI w1, sI w2, sI w3, sI w4, sI w5, sI w6, sI w7, sI w8, sI w9, sA ad1799, sU, sU, sU, sU, sU, sU, sU, sU, sU, sU, sU, sU] [(.ref ad1951), (.ref ad1951)])) rfl (by rw [hml]; rfl) (Steps.refl _) (a := ad1951) (argsL := []) (rest := [(.ref ad1951)]) (lenOf pd_1 rfl) rfl (by show 2 * 0 + _ ≤ _; exact Nat.le_of_eq rfl) (hb hby at_407) (fun _ _ => ⟨rfl, e1951, (by dsimp only [Pt.cells]; decide), (by dsimp only [Pt.slots]; decide)⟩)
  dsimp only [Pt.U, Pt.locs, Pt.cells, Pt.slots] at X1966 l1966 y1966 z1966 st1966 hQ1966
  subst l1966 y1966 z1966
  obtain ⟨rfl, Nc1966, Kc1966, ⟨en1966, od1966, lc1966, pl1966, fw1966, ls1966, z11966, z21966, z31966, z41966, z51966, z61966, k01966, k11966, k21966, k31966, k41966, k51966, k61966, v0_1966, v1_1966, v2_1966, v3_1966, v4_1966, v5_1966, v6_1966, v7_1966, v8_1966, v9_1966, v10_1966, v11_1966, ay11966, ay21966, ay31966, ay41966, ay51966⟩⟩ := hQ1966
  have N1966 := Fr.app N0 Nc1966
  refine OwnWp.go st1966 ?_
  have Z1966 : n0 ≤ T1966.heap.size := Nat.le_trans Z1951 Kc1966.1
  have f1967 := OwnA.keep f1953 Kc1966 (ninS ne1951_1952 nin0)
  have f1968 := Exa.keep A1951 Kc1966
  show OwnWp p e below s _ _ _ (T1966.setTop (mkF m 410 #[sI p1, sI p2, sI p3, sI p4, sJ p5, sS, sI w1, sI w2, sI w3, sI w4, sI w5, sI w6, sI w7, sI w8, sI w9, sA ad1799, sU, sU, sU, sU, sU, sU, sU, sU, sU, sU, sU, sU] [(.ref ad1951)]))
  have lwen0_1966 : n0 ≤ en1966 := Nat.le_trans Z1951 z11966
  have na1981 : ad1799 ≠ en1966 := Nat.ne_of_lt (Nat.lt_of_lt_of_le (f1953).lt z11966)
  have na1982 : ad1951 ≠ en1966 := Nat.ne_of_lt (Nat.lt_of_lt_of_le (F1965).lt z11966)
  have lwod_1966 : n0 ≤ od1966 := Nat.le_trans Z1951 z21966
  have na1983 : ad1799 ≠ od1966 := Nat.ne_of_lt (Nat.lt_of_lt_of_le (f1953).lt z21966)
  have na1984 : ad1951 ≠ od1966 := Nat.ne_of_lt (Nat.lt_of_lt_of_le (F1965).lt z21966)
  have lwlc_1966 : n0 ≤ lc1966 := Nat.le_trans Z1951 z31966
  have na1985 : ad1799 ≠ lc1966 := Nat.ne_of_lt (Nat.lt_of_lt_of_le (f1953).lt z31966)
  have na1986 : ad1951 ≠ lc1966 := Nat.ne_of_lt (Nat.lt_of_lt_of_le (F1965).lt z31966)
  have lwpl_1966 : n0 ≤ pl1966 := Nat.le_trans Z1951 z41966
  have na1987 : ad1799 ≠ pl1966 := Nat.ne_of_lt (Nat.lt_of_lt_of_le (f1953).lt z41966)
  have na1988 : ad1951 ≠ pl1966 := Nat.ne_of_lt (Nat.lt_of_lt_of_le (F1965).lt z41966)
  have lwfw0_1966 : n0 ≤ fw1966 := Nat.le_trans Z1951 z51966
  have na1989 : ad1799 ≠ fw1966 := Nat.ne_of_lt (Nat.lt_of_lt_of_le (f1953).lt z51966)
  have na1990 : ad1951 ≠ fw1966 := Nat.ne_of_lt (Nat.lt_of_lt_of_le (F1965).lt z51966)
  have lwls0_1966 : n0 ≤ ls1966 := Nat.le_trans Z1951 z61966
  have na1991 : ad1799 ≠ ls1966 := Nat.ne_of_lt (Nat.lt_of_lt_of_le (f1953).lt z61966)
  have na1992 : ad1951 ≠ ls1966 := Nat.ne_of_lt (Nat.lt_of_lt_of_le (F1965).lt z61966)
  refine own_s T1966 (mkF m 420 #[sI p1, sI p2, sI p3, sI p4, sJ p5, sS, sI w1, sI w2, sI w3, sI w4, sI w5, sI w6, sI w7, sI w8, sI w9, sA ad1799, sA ad1951, sU, sU, sU, sU, sU, sU, sU, sU, sU, sU, sU] [(.int w4), (.int w7), (.ref ad1799), (.ref ad1951)]) (fun t k => ?_) ?_
  ·refine XS.astore X1966.here hx rfl (hb hby at_410) rfl rfl (l' := #[sI p1, sI p2, sI p3, sI p4, sJ p5, sS, sI w1, sI w2, sI w3, sI w4, sI w5, sI w6, sI w7, sI w8, sI w9, sA ad1799, sA ad1951, sU, sU, sU, sU, sU, sU, sU, sU, sU, sU, sU]) rfl ?_
   refine XS.aload X1966.here hx rfl (hb hby at_412) rfl rfl ?_
   refine XS.aload X1966.here hx rfl (hb hby at_414) rfl rfl ?_
   refine XS.iload X1966.here hx rfl (hb hby at_416) rfl ?_
   exact XS.iload X1966.here hx rfl (hb hby at_418) rfl k
  obtain ⟨w10, qw10⟩ : ∃ z : Int32, z = (if w4 = (0 : Int32) then (1 : Int32) else (3 : Int32)) := ⟨_, rfl⟩
  refine own_s T1966 (mkF m 428 #[sI p1, sI p2, sI p3, sI p4, sJ p5, sS, sI w1, sI w2, sI w3, sI w4, sI w5, sI w6, sI w7, sI w8, sI w9, sA ad1799, sA ad1951, sU, sU, sU, sU, sU, sU, sU, sU, sU, sU, sU] [(.int w10), (.int w7), (.ref ad1799), (.ref ad1951)]) (fun t k => ?_) ?_
  ·by_cases c420_1993 : w4 = (0 : Int32)
   ·refine XS.ifYes X1966.here hx rfl (pc0 := 420) (pc' := 427) rfl (hb hby at_420) rfl (XT.i0_eq_t c420_1993) (by decide) (by decide) ?_
    refine XT.iconstV X1966.here hx rfl (1 : Int32) (hb hby at_427) rfl ?_
    rw [show w10 = (1 : Int32) from by rw [qw10, if_pos c420_1993]] at k
    exact k
   ·refine XS.ifNo X1966.here hx rfl (hb hby at_420) rfl (XT.i0_eq_f c420_1993) ?_
    refine XT.iconstV X1966.here hx rfl (3 : Int32) (hb hby at_423) rfl ?_
    refine XS.goto X1966.here hx rfl (pc0 := 424) (pc' := 428) rfl (hb hby at_424) (by decide) (by decide) ?_
    rw [show w10 = (3 : Int32) from by rw [qw10, if_neg c420_1993]] at k
    exact k
  obtain ⟨cq1994, kq1994, qa1994, qb1994, qc1994⟩ := isOf hZ (rfl : T1966.heap = T1966.heap) f1968
  obtain ⟨_, _, ⟨T1994, L1994, k1994, n1994⟩, -, X1994, ⟨Lc1994, hQ1994, l1994, y1994, z1994⟩, st1994⟩ := X1966.virtualBack hx (y := Mn13) (z := Mn13) hown (mvT hZ (own_hw hw 23 rfl)) (mvT hZ (own_hw hw 24 rfl)) (notFace_of_selects (args := #[]) (mvT hZ (own_hw hw 26 rfl))) (mvT hZ (own_hw hw 26 rfl)) (mvT hZ (own_hw hw 25 rfl)) (by decide) (backOfWith (W := 0) (rm3 l Z a0 hw [] ad1951 ad1799 w7 w10 lc1966 od1966 pl1966 en1966 fw1966 ls1966 (fun _ => (0 : Int32)) (fun _ => (0 : Int32)) (fun _ => (0 : Int32)) Lf (fun _ => (0 : Int32)) (fun _ => (0 : Int32)) 0 F T1966.heap n0 Z1966 b1951 lwlc_1966 lwod_1966 lwpl_1966 (na1986) (na1984) (na1988) (k01966) (k11966) (k21966) (ne1951_1952) (na1985) (na1983) (na1987) (na1982.symm) (k31966) (na1990.symm) (k41966) (k51966) (k61966) f1968 v0_1966 v1_1966 v2_1966 v3_1966 v4_1966 v5_1966 v6_1966 v7_1966 v8_1966 v9_1966 v10_1966 v11_1966 ay11966 ay21966 ay31966 f1967 ay41966 ay51966 (own_Lb0 hLf) hfam.1 hfam.2.1 hfam.2.2 (fun i _ _ => by show 0 ≤ (0 : Int32).toInt ∧ (0 : Int32).toInt ≤ 255; decide) hF hF1 hF12) hZ (own_hw hw 27 rfl) (own_hw hw 4 rfl) (by decide) (by decide)) qa1994 qc1994 (g := (mkF m 428 #[sI p1, sI p2, sI p3, sI p4, sJ p5, sS, sI w1, sI w2, sI w3, sI w4, sI w5, sI w6, sI w7, sI w8, sI w9, sA ad1799, sA ad1951, sU, sU, sU, sU, sU, sU, sU, sU, sU, sU, sU] [(.int w10), (.int w7), (.ref ad1799), (.ref ad1951)])) rfl (by rw [hml]; rfl) (Steps.refl _) (argsL := [(.ref ad1799), (.int w7), (.int w10)]) (rest := []) (lenOf pd_3 rfl) rfl (by show 2 * 0 + _ ≤ _; exact Nat.le_of_eq rfl) (hb hby at_428) (fun _ _ => ⟨rfl, (rfl : T1966.heap = T1966.heap), (by dsimp only [Pt.cells]; decide), (by dsimp only [Pt.slots]; decide)⟩)
  dsimp only [Pt.U, Pt.locs, Pt.cells, Pt.slots] at X1994 l1994 y1994 z1994 st1994 hQ1994
  subst l1994 y1994 z1994
  obtain ⟨en1994, fe1994, rm1994, wd1994, go1994, rfl, Nc1994, lw1994, Kc1994, u11994, u21994, u31994, u41994, ae1994, hrm1994, hwd1994, hfl1994, hor1994⟩ := hQ1994
  have N1994 := Fr.app N1966 Nc1994
  refine OwnWp.go st1994 ?_
  have Z1994 : n0 ≤ T1994.heap.size := Nat.le_trans Z1966 Kc1994.1
  have f1995 := OwnA.keep f1967 Kc1994 (ninS ne1951_1952 (ninS na1985 (ninS na1983 (ninS na1987 nin0))))
  have f1996 := Exa.keep f1968 Kc1994
  refine own_s T1994 (mkF m 449 #[sI p1, sI p2, sI p3, sI p4, sJ p5, sS, sI w1, sI w2, sI w3, sI w4, sI w5, sI w6, sI w7, sI w8, sI w9, sA ad1799, sA ad1951, sI (0 : Int32), sU, sU, sU, sU, sU, sU, sU, sU, sU, sU] [(.int (0 : Int32)), (.int w7)]) (fun t k => ?_) ?_
  ·refine XT.pop X1994.here hx rfl (hb hby at_431) rfl rfl ?_
   refine XS.iload X1994.here hx rfl (hb hby at_432) rfl ?_
   refine XS.ifNo X1994.here hx rfl (hb hby at_434) rfl (XT.i0_eq_f c121_1801) ?_
   refine XT.iconstV X1994.here hx rfl (0 : Int32) (hb hby at_437) rfl ?_
   refine XS.goto X1994.here hx rfl (pc0 := 438) (pc' := 443) rfl (hb hby at_438) (by decide) (by decide) ?_
   refine XS.istore X1994.here hx rfl (hb hby at_443) rfl (l' := #[sI p1, sI p2, sI p3, sI p4, sJ p5, sS, sI w1, sI w2, sI w3, sI w4, sI w5, sI w6, sI w7, sI w8, sI w9, sA ad1799, sA ad1951, sI (0 : Int32), sU, sU, sU, sU, sU, sU, sU, sU, sU, sU]) rfl ?_
   refine XS.iload X1994.here hx rfl (hb hby at_445) rfl ?_
   exact XS.iload X1994.here hx rfl (hb hby at_447) rfl k
  obtain ⟨_, _, ⟨T2012, L2012, k2012, n2012⟩, -, X2012, ⟨Lc2012, hQ2012, l2012, y2012, z2012⟩, st2012⟩ := Jvm.LawKit.callS X1994 hx (y := Mn2) hown (mvT hZ (own_hw hw 76 rfl)) (mvT hZ (own_hw hw 58 rfl)) (mvT hZ (own_hw hw 45 rfl)) (mvT hZ (own_hw hw 59 rfl)) (by decide) (backOf (W := 0) (rm9 l Z a0 hw [] w7 (0 : Int32) T1994.heap n0 Z1994 ) hZ (own_hw hw 59 rfl) (own_hw hw 45 rfl) (by decide) (by decide)) (g := (mkF m 449 #[sI p1, sI p2, sI p3, sI p4, sJ p5, sS, sI w1, sI w2, sI w3, sI w4, sI w5, sI w6, sI w7, sI w8, sI w9, sA ad1799, sA ad1951, sI (0 : Int32), sU, sU, sU, sU, sU, sU, sU, sU, sU, sU] [(.int (0 : Int32)), (.int w7)])) rfl (by rw [hml]; rfl) (argsL := [(.int w7), (.int (0 : Int32))]) (rest := []) (lenOf pd_9 rfl) rfl (by show 2 * 0 + _ ≤ _; exact Nat.le_of_eq rfl) (hb hby at_449) (fun _ _ => ⟨rfl, (rfl : T1994.heap = T1994.heap), (by dsimp only [Pt.cells]; decide), (by dsimp only [Pt.slots]; decide)⟩)
  dsimp only [Pt.U, Pt.locs, Pt.cells, Pt.slots] at X2012 l2012 y2012 z2012 st2012 hQ2012
  subst l2012 y2012 z2012
  obtain ⟨rfl, Nc2012, hp2012⟩ := hQ2012
  have N2012 := Fr.app N1994 Nc2012
  refine OwnWp.step st2012 ?_
  have eh2012 : T2012.heap = T1994.heap := hp2012
  show OwnWp p e below s _ _ _ (T2012.setTop (mkF m 452 #[sI p1, sI p2, sI p3, sI p4, sJ p5, sS, sI w1, sI w2, sI w3, sI w4, sI w5, sI w6, sI w7, sI w8, sI w9, sA ad1799, sA ad1951, sI (0 : Int32), sU, sU, sU, sU, sU, sU, sU, sU, sU, sU] [(.int (own_max w7 (0 : Int32)))]))
  obtain ⟨w11, qw11⟩ : ∃ z : Int32, z = (own_max w7 (0 : Int32)) := ⟨_, rfl⟩
  refine own_s T2012 (mkF m 454 #[sI p1, sI p2, sI p3, sI p4, sJ p5, sS, sI w1, sI w2, sI w3, sI w4, sI w5, sI w6, sI w7, sI w8, sI w9, sA ad1799, sA ad1951, sI (0 : Int32), sI w11, sU, sU, sU, sU, sU, sU, sU, sU, sU] []) (fun t k => ?_) ?_
  ·refine XS.istore X2012.here hx rfl (hb hby at_452) rfl (l' := #[sI p1, sI p2, sI p3, sI p4, sJ p5, sS, sI w1, sI w2, sI w3, sI w4, sI w5, sI w6, sI w7, sI w8, sI w9, sA ad1799, sA ad1951, sI (0 : Int32), sI (own_max w7 (0 : Int32)), sU, sU, sU, sU, sU, sU, sU, sU, sU]) rfl ?_
   rw [qw11] at k
   exact k
  refine own_s T2012 (mkF m 689 #[sI p1, sI p2, sI p3, sI p4, sJ p5, sS, sI w1, sI w2, sI w3, sI w4, sI w5, sI w6, sI w7, sI w8, sI w9, sA ad1799, sA ad1951, sI (0 : Int32), sI w11, sI (0 : Int32), sJ (0 : Int64), sS, sI (0 : Int32), sU, sU, sU, sU, sU] []) (fun t k => ?_) ?_
  ·refine XS.iload X2012.here hx rfl (hb hby at_454) rfl ?_
   refine XS.ifNo X2012.here hx rfl (hb hby at_456) rfl (XT.i0_eq_f c121_1801) ?_
   refine XT.iconstV X2012.here hx rfl (0 : Int32) (hb hby at_459) rfl ?_
   refine XS.istore X2012.here hx rfl (hb hby at_460) rfl (l' := #[sI p1, sI p2, sI p3, sI p4, sJ p5, sS, sI w1, sI w2, sI w3, sI w4, sI w5, sI w6, sI w7, sI w8, sI w9, sA ad1799, sA ad1951, sI (0 : Int32), sI w11, sI (0 : Int32), sU, sU, sU, sU, sU, sU, sU, sU]) rfl ?_
   refine XT.lconstV X2012.here hx rfl (0 : Int64) (hb hby at_462) rfl ?_
   refine XT.lstore X2012.here hx rfl (hb hby at_463) rfl (l' := #[sI p1, sI p2, sI p3, sI p4, sJ p5, sS, sI w1, sI w2, sI w3, sI w4, sI w5, sI w6, sI w7, sI w8, sI w9, sA ad1799, sA ad1951, sI (0 : Int32), sI w11, sI (0 : Int32), sJ (0 : Int64), sS, sU, sU, sU, sU, sU, sU]) rfl ?_
   refine XT.iconstV X2012.here hx rfl (0 : Int32) (hb hby at_465) rfl ?_
   refine XS.istore X2012.here hx rfl (hb hby at_466) rfl (l' := #[sI p1, sI p2, sI p3, sI p4, sJ p5, sS, sI w1, sI w2, sI w3, sI w4, sI w5, sI w6, sI w7, sI w8, sI w9, sA ad1799, sA ad1951, sI (0 : Int32), sI w11, sI (0 : Int32), sJ (0 : Int64), sS, sI (0 : Int32), sU, sU, sU, sU, sU]) rfl ?_
   exact XS.goto X2012.here hx rfl (pc0 := 468) (pc' := 689) rfl (hb hby at_468) (by decide) (by decide) k
  obtain ⟨w12, qw12⟩ : ∃ z : Int64, z = (((0 : Int64) <<< ((w11 - (0 : Int32)).toInt64 &&& 63)) ||| (p5 &&& (((1 : Int64) <<< ((w11 - (0 : Int32)).toInt64 &&& 63)) - (1 : Int64)))) := ⟨_, rfl⟩
  refine own_s T2012 (mkF m 712 #[sI p1, sI p2, sI p3, sI p4, sJ p5, sS, sI w1, sI w2, sI w3, sI w4, sI w5, sI w6, sI w7, sI w8, sI w9, sA ad1799, sA ad1951, sI (0 : Int32), sI w11, sI (0 : Int32), sJ (0 : Int64), sS, sI (0 : Int32), sJ w12, sS, sU, sU, sU] []) (fun t k => ?_) ?_
  ·refine XT.lload X2012.here hx rfl (hb hby at_689) rfl ?_
   refine XS.iload X2012.here hx rfl (hb hby at_691) rfl ?_
   refine XS.iload X2012.here hx rfl (hb hby at_693) rfl ?_
   refine XS.isub X2012.here hx rfl (hb hby at_695) rfl ?_
   refine XT.lshl X2012.here hx rfl (hb hby at_696) rfl ?_
   refine XT.lload X2012.here hx rfl (hb hby at_697) rfl ?_
   refine XT.lconstV X2012.here hx rfl (1 : Int64) (hb hby at_699) rfl ?_
   refine XS.iload X2012.here hx rfl (hb hby at_700) rfl ?_
   refine XS.iload X2012.here hx rfl (hb hby at_702) rfl ?_
   refine XS.isub X2012.here hx rfl (hb hby at_704) rfl ?_
   refine XT.lshl X2012.here hx rfl (hb hby at_705) rfl ?_
   refine XT.lconstV X2012.here hx rfl (1 : Int64) (hb hby at_706) rfl ?_
   refine XT.lsub X2012.here hx rfl (hb hby at_707) rfl ?_
   refine XT.land X2012.here hx rfl (hb hby at_708) rfl ?_
   show Steps p.tables e below (T2012.setTop (mkF m 709 #[sI p1, sI p2, sI p3, sI p4, sJ p5, sS, sI w1, sI w2, sI w3, sI w4, sI w5, sI w6, sI w7, sI w8, sI w9, sA ad1799, sA ad1951, sI (0 : Int32), sI w11, sI (0 : Int32), sJ (0 : Int64), sS, sI (0 : Int32), sU, sU, sU, sU, sU] [(.long (p5 &&& (((1 : Int64) <<< ((w11 - (0 : Int32)).toInt64 &&& 63)) - (1 : Int64)))), (.long ((0 : Int64) <<< ((w11 - (0 : Int32)).toInt64 &&& 63)))])) _
   refine XT.lor X2012.here hx rfl (hb hby at_709) rfl ?_
   refine XT.lstore X2012.here hx rfl (hb hby at_710) rfl (l' := #[sI p1, sI p2, sI p3, sI p4, sJ p5, sS, sI w1, sI w2, sI w3, sI w4, sI w5, sI w6, sI w7, sI w8, sI w9, sA ad1799, sA ad1951, sI (0 : Int32), sI w11, sI (0 : Int32), sJ (0 : Int64), sS, sI (0 : Int32), sJ (((0 : Int64) <<< ((w11 - (0 : Int32)).toInt64 &&& 63)) ||| (p5 &&& (((1 : Int64) <<< ((w11 - (0 : Int32)).toInt64 &&& 63)) - (1 : Int64)))), sS, sU, sU, sU]) rfl ?_
   rw [qw12] at k
   exact k
  refine own_s T2012 (mkF m 716 #[sI p1, sI p2, sI p3, sI p4, sJ p5, sS, sI w1, sI w2, sI w3, sI w4, sI w5, sI w6, sI w7, sI w8, sI w9, sA ad1799, sA ad1951, sI (0 : Int32), sI w11, sI (0 : Int32), sJ (0 : Int64), sS, sI (0 : Int32), sJ w12, sS, sU, sU, sU] [(.long w12), (.ref ad1951)]) (fun t k => ?_) ?_
  ·refine XS.aload X2012.here hx rfl (hb hby at_712) rfl rfl ?_
   exact XT.lload X2012.here hx rfl (hb hby at_714) rfl k
  obtain ⟨hok, hval⟩ : own_symok fe1994 rm1994 wd1994 w7 w12 ∧ own_symbol fe1994 Lf wd1994 w7 w12 = (0 : Int32) := own_roadN hfl1994 hwd1994 hrm1994 hF hF1 hF12 qw12 qw11
  obtain ⟨cq2013, kq2013, qa2013, qb2013, qc2013⟩ := isOf hZ eh2012 f1996
  obtain ⟨_, _, ⟨T2013, L2013, k2013, n2013⟩, -, X2013, ⟨Lc2013, hQ2013, l2013, y2013, z2013⟩, st2013⟩ := X2012.virtualBack hx (y := Mn16) (z := Mn16) hown (mvT hZ (own_hw hw 77 rfl)) (mvT hZ (own_hw hw 78 rfl)) (notFace_of_selects (args := #[]) (mvT hZ (own_hw hw 80 rfl))) (mvT hZ (own_hw hw 80 rfl)) (mvT hZ (own_hw hw 79 rfl)) (by decide) (backOf (W := 0) (rm13 l Z a0 hw [] ad1951 w12 en1994 ad1799 fe1994 Lf rm1994 wd1994 w7 T1994.heap n0 Z1994 u11994 u31994 u21994 u41994 ae1994 f1995 hok) hZ (own_hw hw 81 rfl) (own_hw hw 4 rfl) (by decide) (by decide)) qa2013 qc2013 (g := (mkF m 716 #[sI p1, sI p2, sI p3, sI p4, sJ p5, sS, sI w1, sI w2, sI w3, sI w4, sI w5, sI w6, sI w7, sI w8, sI w9, sA ad1799, sA ad1951, sI (0 : Int32), sI w11, sI (0 : Int32), sJ (0 : Int64), sS, sI (0 : Int32), sJ w12, sS, sU, sU, sU] [(.long w12), (.ref ad1951)])) rfl (by rw [hml]; rfl) (Steps.refl _) (argsL := [(.long w12)]) (rest := []) (lenOf pd_13 rfl) rfl (by show 2 * 0 + _ ≤ _; exact Nat.le_of_eq rfl) (hb hby at_716) (fun _ _ => ⟨rfl, eh2012, (by dsimp only [Pt.cells]; decide), (by dsimp only [Pt.slots]; decide)⟩)
  dsimp only [Pt.U, Pt.locs, Pt.cells, Pt.slots] at X2013 l2013 y2013 z2013 st2013 hQ2013
  subst l2013 y2013 z2013
  obtain ⟨rfl, Nc2013, hp2013⟩ := hQ2013
  have N2013 := Fr.app N2012 Nc2013
  refine OwnWp.go st2013 ?_
  have eh2013 : T2013.heap = T1994.heap := hp2013
  refine own_s T2013 (mkF m 729 #[sI p1, sI p2, sI p3, sI p4, sJ p5, sS, sI w1, sI w2, sI w3, sI w4, sI w5, sI w6, sI w7, sI w8, sI w9, sA ad1799, sA ad1951, sI (0 : Int32), sI w11, sI (0 : Int32), sJ (0 : Int64), sS, sI (0 : Int32), sJ w12, sS, sU, sU, sU] [(.int (1 : Int32))]) (fun t k => ?_) ?_
  ·refine XS.iload X2013.here hx rfl (hb hby at_719) rfl ?_
   refine XS.icmpNo X2013.here hx rfl (hb hby at_721) rfl (XT.ii_ne_f hval) ?_
   refine XT.iconstV X2013.here hx rfl (1 : Int32) (hb hby at_724) rfl ?_
   exact XS.goto X2013.here hx rfl (pc0 := 725) (pc' := 729) rfl (hb hby at_725) (by decide) (by decide) k
  refine OwnWp.retZ X2013 hx hlk Bd.returns (hb hby at_729) (by decide) (by decide) (by decide) ?_
  exact ⟨rfl, N2013⟩
set_option maxRecDepth 65536 in
set_option maxHeartbeats 40000000 in
theorem comes_1 {Post : Tables → Env → Array Value → State → Outcome → State → Prop} (hpost : ∀ tb e args s v u, (limb_1_1.after args s (.returned v) u = true ∧ limb_1_2.after args s (.returned v) u = true ∧ True) → FrameEnd s (.returned v) u (Jvm.fieldLocs frame_1_writes args s ++ Jvm.arrayLocs frame_1_arrays args s ++ Jvm.staticLocs frame_1_statics s) 40 79168 → Post tb e args s (.returned v) u) :
    ArmFor flags0 classFile x code maxLocals ret World_1 tables_1 room_1 Calls_1 rest_1 Pre_1 Post := by
  intro l hfl _ _ p e ha hc hk s m args below hf hA hF happ hP
  obtain ⟨hcalls, hrest, hpre⟩ := hP
  obtain ⟨-, -, -, hnamed, -, -, -, hat⟩ := (Spec.applies_iff hf).mp happ
  obtain ⟨hg, hn⟩ := and_e (Cond.before_iff.mp (show (Jvm.Cond.and given_1 narrow_1).before args s = true from hpre))
  obtain ⟨hcount, g0⟩ := and_e hg
  obtain ⟨w0, w1, w2, w3, w4, rfl⟩ : ∃ w0 w1 w2 w3 w4 : Value, args = #[w0, w1, w2, w3, w4] := by
    have hs : args.size = 5 := by simpa [Cond.value, given_1] using hcount
    obtain ⟨L⟩ := args
    match L, hs with
    | [w0, w1, w2, w3, w4], _ => exact ⟨w0, w1, w2, w3, w4, rfl⟩
  have hw := fun d (hd : d ∈ tables_1) => atoms_spec (ws := Jvm.Cond.code x code maxLocals ret :: tables_1) hat d (List.mem_cons_of_mem _ hd)
  obtain ⟨u0, g1⟩ := and_e g0
  obtain ⟨i0, e0⟩ := is_v u0
  obtain rfl : w0 = (.int i0) := Option.some.inj e0
  obtain ⟨u1, g2⟩ := and_e g1
  obtain ⟨i1, e1⟩ := is_v u1
  obtain rfl : w1 = (.int i1) := Option.some.inj e1
  obtain ⟨u2, g3⟩ := and_e g2
  obtain ⟨i2, e2⟩ := is_v u2
  obtain rfl : w2 = (.int i2) := Option.some.inj e2
  obtain ⟨u3, g4⟩ := and_e g3
  obtain ⟨i3, e3⟩ := is_v u3
  obtain rfl : w3 = (.int i3) := Option.some.inj e3
  obtain ⟨i4, e4⟩ := isL_v g4
  obtain rfl : w4 = (.long i4) := Option.some.inj e4
  obtain ⟨n, o, h1, h2, h3, _, L, rfl, ⟨rfl, N⟩, hq⟩ := rm0 l s _ hw tables_1 i0 i1 i2 i3 i4 s.heap s.heap.size (Nat.le_refl _) p e ha hc hk s m _ below hf ((Spec.applies_iff_loose hf).mp happ).1 ⟨rfl, State.Warmed39.refl s, rfl⟩ trivial
  refine ⟨n, _, h1, h2, h3, hpost _ _ _ _ _ _ ⟨Cond.after_iff.mpr rfl, Cond.after_iff.mpr (eq_i res_at (Term.int_eval (1)) rfl), trivial⟩ ⟨hq.1, hq.2.1, (hq.2.2.sift fun y hy => Or.inr (N y hy)).mono (by decide) (by decide)⟩⟩
theorem main_1_1 : Claimed_1_1 := comes_1 fun _ _ _ _ _ _ h hF => ⟨h.1, hF⟩
theorem main_1_2 : Claimed_1_2 := comes_1 fun _ _ _ _ _ _ h hF => ⟨h.2.1, hF⟩
end Jvm.Pilot.@@N@@
namespace Jvm.Pilot.@@N@@
open Jvm Jvm.ClassFile Sem Op Lib Jvm.Free Jvm.Stand Jvm.Pilot.@@N@@.Jvm.D
/-! MADE BY PROGRAM (witnessworld.py) out of the Statement's table words and the real class files: 13 classes; the members and pool entries that the words name. The judged class is class 1, her method 2. -/
namespace start1
open Jvm.ClassFile
def u (s : String) : CpInfo := .utf8 (stringToUtf16 s)
/-- a pool by its gaps: so many unusable entries, then the entry; so many at the end -/
def gap : Nat → List CpInfo → List CpInfo
  | 0, r => r
  | n + 1, r => .unusable :: gap n r
def poolList (es : List (Nat × CpInfo)) (last : Nat) : List CpInfo := es.foldr (fun e r => gap e.1 (e.2 :: r)) (gap last [])
def pool (es : List (Nat × CpInfo)) (last : Nat) : Array CpInfo := ⟨poolList es last⟩
def fileOf (pool : Array CpInfo) (this : Nat) (attrs : Array Attribute := #[]) (ms : Array MethodInfo := #[]) (fl : Nat := 33) (sup : Nat := 0) (ifs : Array Nat := #[]) (fds : Array FieldInfo := #[]) : ClassFile where
  minorVersion := 0
  majorVersion := 65
  constantPool := pool
  accessFlags := fl
  thisClass := this
  superClass := sup
  interfaces := ifs
  fields := fds
  methods := ms
  attributes := attrs
def plain (name : String) (sup : Option ClassId) : Class where
  name := name
  kind := .ordinary
  loader := none
  accessFlags := 33
  super := sup
  interfaces := #[]
  cf := none
  fields := #[]
  methods := #[]
  instanceTypes := #[]
  staticTypes := #[]
  resolved := #[]
  callSites := []
  init := .initialized
  statics := none
  mirror := none

def pool0 : Array CpInfo := pool [(5, u "<init>"), (0, u "()V"), (1, .class_ 10), (1, u "java/lang/Object"), (85, u "clone"), (0, u "()Ljava/lang/Object;")] 26

def k0c0 : Code := { maxStack := 0, maxLocals := 1, code := object_method_1_code, exceptionTable := #[], attributes := #[] }
def k0m0 : Method := { name := "<init>", desc := "()V", sig := { parameters := [], returnType := none }, accessFlags := 1, code := some k0c0 }
def k0m1 : Method := { name := "clone", desc := "()Ljava/lang/Object;", sig := { parameters := [], returnType := some (.object "java/lang/Object") }, accessFlags := 260, code := none }
/-- java/lang/Object -/
def k0 : Class := { plain "java/lang/Object" none with
  accessFlags := 33
  interfaces := #[]
  cf := some (fileOf pool0 8 #[] #[{ accessFlags := 1, nameIndex := 5, descriptorIndex := 6, attributes := #[] }, { accessFlags := 260, nameIndex := 96, descriptorIndex := 97, attributes := #[] }] 33 0 #[] #[])
  fields := #[]
  methods := #[k0m0, k0m1]
  instanceTypes := #[]
  staticTypes := #[]
  resolved := Array.replicate 124 none
  statics := none }

def pool1 : Array CpInfo := pool [(2, .class_ 4), (0, .nameAndType 5 6), (0, u "java/lang/Object"), (0, u "<init>"), (0, u "()V"), (0, .integer 65535), (0, .methodref 9 10), (0, .class_ 11), (0, .nameAndType 12 13), (0, u "com/example/leafcode/leafcode/DecodingTableSymbolPinLaw"), (0, u "put"), (0, u "([IIIII)V"), (0, .class_ 15), (0, u "com/example/leafcode/leafcode/DecodingTable"), (0, .methodref 14 3), (0, .methodref 14 18), (0, .nameAndType 19 20), (0, u "fill"), (0, u "([III)Lcom/example/leafcode/leafcode/DecodingTable;"), (0, .methodref 22 23), (0, .class_ 24), (0, .nameAndType 25 26), (0, u "java/lang/Math"), (0, u "max"), (0, u "(II)I"), (0, .integer 2147483647), (0, .methodref 22 29), (0, .nameAndType 30 26), (0, u "min"), (0, .methodref 14 32), (0, .nameAndType 33 34), (0, u "symbol"), (0, u "(J)I"), (3, u "law"), (0, u "(IIIIJ)Z")] 7

def k1m0 : Method := { name := "<init>", desc := "()V", sig := { parameters := [], returnType := none }, accessFlags := 1, code := none }
def k1c1 : Code := { maxStack := 3, maxLocals := 5, code := method_2_code, exceptionTable := #[], attributes := #[] }
def k1m1 : Method := { name := "put", desc := "([IIIII)V", sig := { parameters := [(.array .int), .int, .int, .int, .int], returnType := none }, accessFlags := 10, code := some k1c1 }
def k1c2 : Code := { maxStack := 8, maxLocals := 28, code := code, exceptionTable := #[], attributes := #[] }
def k1m2 : Method := { name := "law", desc := "(IIIIJ)Z", sig := { parameters := [.int, .int, .int, .int, .long], returnType := some .boolean }, accessFlags := 9, code := some k1c2 }
/-- com/example/leafcode/leafcode/DecodingTableSymbolPinLaw -/
def k1 : Class := { plain "com/example/leafcode/leafcode/DecodingTableSymbolPinLaw" (some 0) with
  accessFlags := 49
  interfaces := #[]
  cf := some (fileOf pool1 9 #[] #[{ accessFlags := 1, nameIndex := 5, descriptorIndex := 6, attributes := #[] }, { accessFlags := 10, nameIndex := 12, descriptorIndex := 13, attributes := #[] }, { accessFlags := 9, nameIndex := 38, descriptorIndex := 39, attributes := #[] }] 49 2 #[] #[])
  fields := #[]
  methods := #[k1m0, k1m1, k1m2]
  instanceTypes := #[]
  staticTypes := #[]
  resolved := Array.replicate 47 none
  statics := none }

def pool2 : Array CpInfo := pool [(3, .methodref 4 5), (0, .class_ 6), (0, .nameAndType 7 8), (0, u "java/lang/Object"), (0, u "<init>"), (0, u "()V"), (0, .fieldref 10 11), (0, .class_ 12), (0, .nameAndType 13 14), (0, u "com/example/leafcode/leafcode/DecodingTable"), (0, u "entries"), (0, u "[I"), (0, .fieldref 10 16), (0, .nameAndType 17 14), (0, u "order"), (0, .fieldref 10 19), (0, .nameAndType 20 14), (0, u "laneCounts"), (0, .fieldref 10 22), (0, .nameAndType 23 14), (0, u "places"), (0, .fieldref 10 25), (0, .nameAndType 26 14), (0, u "follows"), (0, .fieldref 10 28), (0, .nameAndType 29 14), (0, u "lasts"), (0, .methodref 10 31), (0, .nameAndType 32 33), (0, u "countByLane"), (0, u "([I)[I"), (0, .methodref 35 36), (0, .class_ 37), (0, .nameAndType 38 33), (0, u "com/example/leafcode/leafcode/PrefixCode"), (0, u "checkLengthCounts"), (15, .fieldref 10 55), (0, .nameAndType 56 57), (0, u "longest"), (0, u "I"), (0, .fieldref 10 59), (0, .nameAndType 60 14), (0, u "codeLengths"), (0, .fieldref 10 62), (0, .nameAndType 63 57), (0, u "firstBits"), (0, .methodref 65 66), (0, .class_ 67), (0, .nameAndType 68 69), (0, u "java/lang/Math"), (0, u "max"), (0, u "(II)I"), (0, .fieldref 10 71), (0, .nameAndType 72 57), (0, u "width"), (0, .methodref 10 74), (0, .nameAndType 75 76), (0, u "sortByCode"), (0, u "([I[I)V"), (0, .fieldref 10 78), (0, .nameAndType 79 57), (0, u "expectedBits"), (0, .fieldref 10 81), (0, .nameAndType 82 57), (0, u "shortest"), (0, .methodref 10 84), (0, .nameAndType 85 86), (0, u "fillCodes"), (0, u "([IIII[I)I"), (0, .methodref 10 88), (0, .nameAndType 89 90), (0, u "fillFollowing"), (0, u "([III[I)V"), (0, .methodref 92 93), (0, .class_ 94), (0, .nameAndType 95 96), (0, u "java/util/Arrays"), (0, u "fill"), (0, u "([IIII)V"), (0, .methodref 10 98), (0, .nameAndType 99 100), (0, u "code"), (0, u "(III)I"), (0, .methodref 92 102), (0, .nameAndType 95 103), (0, u "([II)V"), (2, .methodref 65 107), (0, .nameAndType 108 69), (0, u "min"), (0, .methodref 110 111), (0, .class_ 112), (0, .nameAndType 113 114), (0, u "java/lang/System"), (0, u "arraycopy"), (0, u "(Ljava/lang/Object;ILjava/lang/Object;II)V"), (2, u "BLOCK_BITS"), (2, u "MOST_CODES"), (1, u "EXPECTED_SHIFT"), (1, u "NO_CODE"), (1, u "CODES"), (1, u "FEW_BITS"), (1, u "BULK"), (1, u "LANES"), (0, u "LANE"), (2, u "([III)Lcom/example/leafcode/leafcode/DecodingTable;"), (5, u "symbol"), (0, u "(J)I")] 17

def k2c0 : Code := { maxStack := 2, maxLocals := 1, code := prog_6_method_1_code, exceptionTable := #[], attributes := #[] }
def k2m0 : Method := { name := "<init>", desc := "()V", sig := { parameters := [], returnType := none }, accessFlags := 0, code := some k2c0 }
def k2c1 : Code := { maxStack := 7, maxLocals := 13, code := prog_6_method_2_code, exceptionTable := #[{ startPc := 7, endPc := 14, handlerPc := 17, catchType := 39 }], attributes := #[] }
def k2m1 : Method := { name := "fill", desc := "([III)Lcom/example/leafcode/leafcode/DecodingTable;", sig := { parameters := [(.array .int), .int, .int], returnType := some (.object "com/example/leafcode/leafcode/DecodingTable") }, accessFlags := 0, code := some k2c1 }
def k2c2 : Code := { maxStack := 6, maxLocals := 6, code := prog_6_method_3_code, exceptionTable := #[], attributes := #[] }
def k2m2 : Method := { name := "countByLane", desc := "([I)[I", sig := { parameters := [(.array .int)], returnType := some (.array .int) }, accessFlags := 2, code := some k2c2 }
def k2c3 : Code := { maxStack := 6, maxLocals := 8, code := prog_6_method_4_code, exceptionTable := #[], attributes := #[] }
def k2m3 : Method := { name := "sortByCode", desc := "([I[I)V", sig := { parameters := [(.array .int), (.array .int)], returnType := none }, accessFlags := 2, code := some k2c3 }
def k2c4 : Code := { maxStack := 6, maxLocals := 7, code := prog_6_method_5_code, exceptionTable := #[], attributes := #[] }
def k2m4 : Method := { name := "fillFollowing", desc := "([III[I)V", sig := { parameters := [(.array .int), .int, .int, (.array .int)], returnType := none }, accessFlags := 2, code := some k2c4 }
def k2c5 : Code := { maxStack := 7, maxLocals := 18, code := prog_6_method_6_code, exceptionTable := #[], attributes := #[] }
def k2m5 : Method := { name := "fillCodes", desc := "([IIII[I)I", sig := { parameters := [(.array .int), .int, .int, .int, (.array .int)], returnType := some .int }, accessFlags := 2, code := some k2c5 }
def k2c6 : Code := { maxStack := 5, maxLocals := 4, code := prog_6_method_7_code, exceptionTable := #[], attributes := #[] }
def k2m6 : Method := { name := "code", desc := "(III)I", sig := { parameters := [.int, .int, .int], returnType := some .int }, accessFlags := 2, code := some k2c6 }
def k2c7 : Code := { maxStack := 5, maxLocals := 5, code := prog_6_method_9_code, exceptionTable := #[], attributes := #[] }
def k2m7 : Method := { name := "symbol", desc := "(J)I", sig := { parameters := [.long], returnType := some .int }, accessFlags := 0, code := some k2c7 }
/-- com/example/leafcode/leafcode/DecodingTable -/
def k2 : Class := { plain "com/example/leafcode/leafcode/DecodingTable" (some 0) with
  accessFlags := 48
  interfaces := #[]
  cf := some (fileOf pool2 10 #[] #[{ accessFlags := 0, nameIndex := 7, descriptorIndex := 8, attributes := #[] }, { accessFlags := 0, nameIndex := 95, descriptorIndex := 136, attributes := #[] }, { accessFlags := 2, nameIndex := 32, descriptorIndex := 33, attributes := #[] }, { accessFlags := 2, nameIndex := 75, descriptorIndex := 76, attributes := #[] }, { accessFlags := 2, nameIndex := 89, descriptorIndex := 90, attributes := #[] }, { accessFlags := 2, nameIndex := 85, descriptorIndex := 86, attributes := #[] }, { accessFlags := 2, nameIndex := 99, descriptorIndex := 100, attributes := #[] }, { accessFlags := 0, nameIndex := 142, descriptorIndex := 143, attributes := #[] }] 48 4 #[] #[{ accessFlags := 24, nameIndex := 117, descriptorIndex := 57, attributes := #[] }, { accessFlags := 24, nameIndex := 120, descriptorIndex := 57, attributes := #[] }, { accessFlags := 24, nameIndex := 122, descriptorIndex := 57, attributes := #[] }, { accessFlags := 24, nameIndex := 124, descriptorIndex := 57, attributes := #[] }, { accessFlags := 24, nameIndex := 126, descriptorIndex := 57, attributes := #[] }, { accessFlags := 26, nameIndex := 128, descriptorIndex := 57, attributes := #[] }, { accessFlags := 26, nameIndex := 130, descriptorIndex := 57, attributes := #[] }, { accessFlags := 0, nameIndex := 13, descriptorIndex := 14, attributes := #[] }, { accessFlags := 0, nameIndex := 63, descriptorIndex := 57, attributes := #[] }, { accessFlags := 0, nameIndex := 72, descriptorIndex := 57, attributes := #[] }, { accessFlags := 0, nameIndex := 79, descriptorIndex := 57, attributes := #[] }, { accessFlags := 2, nameIndex := 60, descriptorIndex := 14, attributes := #[] }, { accessFlags := 18, nameIndex := 17, descriptorIndex := 14, attributes := #[] }, { accessFlags := 26, nameIndex := 132, descriptorIndex := 57, attributes := #[] }, { accessFlags := 26, nameIndex := 133, descriptorIndex := 57, attributes := #[] }, { accessFlags := 18, nameIndex := 20, descriptorIndex := 14, attributes := #[] }, { accessFlags := 18, nameIndex := 23, descriptorIndex := 14, attributes := #[] }, { accessFlags := 2, nameIndex := 82, descriptorIndex := 57, attributes := #[] }, { accessFlags := 2, nameIndex := 56, descriptorIndex := 57, attributes := #[] }, { accessFlags := 2, nameIndex := 26, descriptorIndex := 14, attributes := #[] }, { accessFlags := 2, nameIndex := 29, descriptorIndex := 14, attributes := #[] }])
  fields := #[{ name := "BLOCK_BITS", type := .int, accessFlags := 24, slot := 0, constantValue := 0 }, { name := "MOST_CODES", type := .int, accessFlags := 24, slot := 1, constantValue := 0 }, { name := "EXPECTED_SHIFT", type := .int, accessFlags := 24, slot := 2, constantValue := 0 }, { name := "NO_CODE", type := .int, accessFlags := 24, slot := 3, constantValue := 0 }, { name := "CODES", type := .int, accessFlags := 24, slot := 4, constantValue := 0 }, { name := "FEW_BITS", type := .int, accessFlags := 26, slot := 5, constantValue := 0 }, { name := "BULK", type := .int, accessFlags := 26, slot := 6, constantValue := 0 }, { name := "entries", type := (.array .int), accessFlags := 0, slot := 0, constantValue := 0 }, { name := "firstBits", type := .int, accessFlags := 0, slot := 1, constantValue := 0 }, { name := "width", type := .int, accessFlags := 0, slot := 2, constantValue := 0 }, { name := "expectedBits", type := .int, accessFlags := 0, slot := 3, constantValue := 0 }, { name := "codeLengths", type := (.array .int), accessFlags := 2, slot := 4, constantValue := 0 }, { name := "order", type := (.array .int), accessFlags := 18, slot := 5, constantValue := 0 }, { name := "LANES", type := .int, accessFlags := 26, slot := 7, constantValue := 0 }, { name := "LANE", type := .int, accessFlags := 26, slot := 8, constantValue := 0 }, { name := "laneCounts", type := (.array .int), accessFlags := 18, slot := 6, constantValue := 0 }, { name := "places", type := (.array .int), accessFlags := 18, slot := 7, constantValue := 0 }, { name := "shortest", type := .int, accessFlags := 2, slot := 8, constantValue := 0 }, { name := "longest", type := .int, accessFlags := 2, slot := 9, constantValue := 0 }, { name := "follows", type := (.array .int), accessFlags := 2, slot := 10, constantValue := 0 }, { name := "lasts", type := (.array .int), accessFlags := 2, slot := 11, constantValue := 0 }]
  methods := #[k2m0, k2m1, k2m2, k2m3, k2m4, k2m5, k2m6, k2m7]
  instanceTypes := #[(.array .int), .int, .int, .int, (.array .int), (.array .int), (.array .int), (.array .int), .int, .int, (.array .int), (.array .int)]
  staticTypes := #[.int, .int, .int, .int, .int, .int, .int, .int, .int]
  resolved := Array.replicate 161 none
  statics := none }

def pool3 : Array CpInfo := pool [(2, .class_ 4), (1, u "java/lang/Object"), (0, u "<init>"), (0, u "()V"), (5, u "([IIII)V"), (0, .methodref 14 15), (0, .class_ 16), (0, .nameAndType 17 18), (0, u "java/util/Arrays"), (0, u "rangeCheck"), (0, u "(III)V"), (55, .class_ 76), (1, u "java/util/Arrays$NaturalOrder"), (32, u "()Ljava/lang/Object;"), (3, .class_ 115), (1, u "java/util/Arrays$LegacyMergeSort"), (1, u "Z"), (10, .nameAndType 129 109), (0, u "clone"), (20, .methodref 151 152), (0, .class_ 153), (0, .nameAndType 154 155), (0, u "java/lang/System"), (0, u "arraycopy"), (0, u "(Ljava/lang/Object;ILjava/lang/Object;II)V"), (146, u "copyOf"), (1, .methodref 305 306), (0, .class_ 307), (0, .nameAndType 308 309), (0, u "java/lang/Math"), (0, u "min"), (0, u "(II)I"), (6, .methodref 317 128), (0, .class_ 318), (0, u "[I"), (56, .class_ 376), (0, u "java/util/Arrays$ArrayList"), (68, u "$assertionsDisabled"), (269, u "MIN_ARRAY_SORT_GRAN"), (0, u "I"), (2, u "INSERTIONSORT_THRESHOLD"), (120, u "fill"), (4, u "([II)V"), (25, u "([II)[I"), (103, .class_ 976), (0, u "java/util/Arrays$ArrayItr")] 52

def k3m0 : Method := { name := "<init>", desc := "()V", sig := { parameters := [], returnType := none }, accessFlags := 2, code := none }
def k3c1 : Code := { maxStack := 4, maxLocals := 3, code := jdk_65_method_30_code, exceptionTable := #[], attributes := #[] }
def k3m1 : Method := { name := "rangeCheck", desc := "(III)V", sig := { parameters := [.int, .int, .int], returnType := none }, accessFlags := 8, code := some k3c1 }
def k3c2 : Code := { maxStack := 3, maxLocals := 4, code := jdk_65_method_103_code, exceptionTable := #[], attributes := #[] }
def k3m2 : Method := { name := "fill", desc := "([II)V", sig := { parameters := [(.array .int), .int], returnType := none }, accessFlags := 9, code := some k3c2 }
def k3c3 : Code := { maxStack := 3, maxLocals := 5, code := jdk_65_method_104_code, exceptionTable := #[], attributes := #[] }
def k3m3 : Method := { name := "fill", desc := "([IIII)V", sig := { parameters := [(.array .int), .int, .int, .int], returnType := none }, accessFlags := 9, code := some k3c3 }
def k3c4 : Code := { maxStack := 6, maxLocals := 3, code := jdk_65_method_123_code, exceptionTable := #[], attributes := #[] }
def k3m4 : Method := { name := "copyOf", desc := "([II)[I", sig := { parameters := [(.array .int), .int], returnType := some (.array .int) }, accessFlags := 9, code := some k3c4 }
/-- java/util/Arrays -/
def k3 : Class := { plain "java/util/Arrays" (some 0) with
  accessFlags := 49
  interfaces := #[]
  cf := some (fileOf pool3 14 #[.nestMembers #[975, 375, 113, 74]] #[{ accessFlags := 2, nameIndex := 5, descriptorIndex := 6, attributes := #[] }, { accessFlags := 8, nameIndex := 17, descriptorIndex := 18, attributes := #[] }, { accessFlags := 9, nameIndex := 840, descriptorIndex := 845, attributes := #[] }, { accessFlags := 9, nameIndex := 840, descriptorIndex := 12, attributes := #[] }, { accessFlags := 9, nameIndex := 302, descriptorIndex := 871, attributes := #[] }] 49 2 #[] #[{ accessFlags := 26, nameIndex := 715, descriptorIndex := 716, attributes := #[] }, { accessFlags := 26, nameIndex := 719, descriptorIndex := 716, attributes := #[] }, { accessFlags := 4120, nameIndex := 445, descriptorIndex := 117, attributes := #[] }])
  fields := #[{ name := "MIN_ARRAY_SORT_GRAN", type := .int, accessFlags := 26, slot := 0, constantValue := 0 }, { name := "INSERTIONSORT_THRESHOLD", type := .int, accessFlags := 26, slot := 1, constantValue := 0 }, { name := "$assertionsDisabled", type := .boolean, accessFlags := 4120, slot := 2, constantValue := 0 }]
  methods := #[k3m0, k3m1, k3m2, k3m3, k3m4]
  instanceTypes := #[]
  staticTypes := #[.int, .int, .boolean]
  resolved := Array.replicate 1029 none
  statics := none }

def pool4 : Array CpInfo := pool [(2, .class_ 4), (1, u "java/lang/Object"), (3, .class_ 10), (1, u "com/example/leafcode/leafcode/PrefixCode"), (0, u "lengths"), (0, u "[I"), (2, u "codes"), (0, u "[J"), (2, u "maxLength"), (0, u "I"), (24, .long 2), (56, .class_ 104), (1, u "java/util/Arrays"), (15, u "([I)[I"), (10, u "checkLengthCounts"), (4, .methodref 102 137), (0, .nameAndType 138 139), (0, u "copyOf"), (0, u "([II)[I"), (0, u "MAX_LENGTH"), (2, u "MAX_WEIGHT_SUM"), (0, u "J"), (0, u "MAX_TOTAL")] 52

def k4c0 : Code := { maxStack := 4, maxLocals := 7, code := prog_12_method_12_code, exceptionTable := #[], attributes := #[] }
def k4m0 : Method := { name := "checkLengthCounts", desc := "([I)[I", sig := { parameters := [(.array .int)], returnType := some (.array .int) }, accessFlags := 8, code := some k4c0 }
/-- com/example/leafcode/leafcode/PrefixCode -/
def k4 : Class := { plain "com/example/leafcode/leafcode/PrefixCode" (some 0) with
  accessFlags := 49
  interfaces := #[]
  cf := some (fileOf pool4 8 #[] #[{ accessFlags := 8, nameIndex := 131, descriptorIndex := 120, attributes := #[] }] 49 2 #[] #[{ accessFlags := 24, nameIndex := 140, descriptorIndex := 20, attributes := #[] }, { accessFlags := 25, nameIndex := 143, descriptorIndex := 144, attributes := #[] }, { accessFlags := 26, nameIndex := 145, descriptorIndex := 144, attributes := #[] }, { accessFlags := 18, nameIndex := 11, descriptorIndex := 12, attributes := #[] }, { accessFlags := 18, nameIndex := 15, descriptorIndex := 16, attributes := #[] }, { accessFlags := 18, nameIndex := 19, descriptorIndex := 20, attributes := #[] }])
  fields := #[{ name := "MAX_LENGTH", type := .int, accessFlags := 24, slot := 0, constantValue := 0 }, { name := "MAX_WEIGHT_SUM", type := .long, accessFlags := 25, slot := 1, constantValue := 0 }, { name := "MAX_TOTAL", type := .long, accessFlags := 26, slot := 2, constantValue := 0 }, { name := "lengths", type := (.array .int), accessFlags := 18, slot := 0, constantValue := 0 }, { name := "codes", type := (.array .long), accessFlags := 18, slot := 1, constantValue := 0 }, { name := "maxLength", type := .int, accessFlags := 18, slot := 2, constantValue := 0 }]
  methods := #[k4m0]
  instanceTypes := #[(.array .int), (.array .long), .int]
  staticTypes := #[.int, .long, .long]
  resolved := Array.replicate 198 none
  statics := none }

def pool5 : Array CpInfo := pool [(1, .class_ 2), (0, u "java/lang/Math"), (1, .class_ 6), (1, u "java/lang/Object"), (0, u "<init>"), (0, u "()V"), (89, .class_ 100), (1, u "java/lang/Math$RandomNumberGeneratorHolder"), (71, u "negativeZeroFloatBits"), (0, u "J"), (2, u "negativeZeroDoubleBits"), (21, u "max"), (2, u "min"), (43, u "$assertionsDisabled"), (0, u "Z"), (88, u "(II)I"), (2, u "twoToTheDoubleScaleDown"), (0, u "D"), (4, u "twoToTheDoubleScaleUp"), (9, u "E"), (3, u "PI"), (2, u "TAU"), (2, u "DEGREES_TO_RADIANS"), (0, u "RADIANS_TO_DEGREES")] 94

def k5m0 : Method := { name := "<init>", desc := "()V", sig := { parameters := [], returnType := none }, accessFlags := 2, code := none }
def k5c1 : Code := { maxStack := 2, maxLocals := 2, code := jdk_29_method_65_code, exceptionTable := #[], attributes := #[] }
def k5m1 : Method := { name := "max", desc := "(II)I", sig := { parameters := [.int, .int], returnType := some .int }, accessFlags := 9, code := some k5c1 }
def k5c2 : Code := { maxStack := 2, maxLocals := 2, code := jdk_29_method_69_code, exceptionTable := #[], attributes := #[] }
def k5m2 : Method := { name := "min", desc := "(II)I", sig := { parameters := [.int, .int], returnType := some .int }, accessFlags := 9, code := some k5c2 }
/-- java/lang/Math -/
def k5 : Class := { plain "java/lang/Math" (some 0) with
  accessFlags := 49
  interfaces := #[]
  cf := some (fileOf pool5 1 #[.nestMembers #[98]] #[{ accessFlags := 2, nameIndex := 7, descriptorIndex := 8, attributes := #[] }, { accessFlags := 9, nameIndex := 198, descriptorIndex := 335, attributes := #[] }, { accessFlags := 9, nameIndex := 201, descriptorIndex := 335, attributes := #[] }] 49 4 #[] #[{ accessFlags := 25, nameIndex := 354, descriptorIndex := 339, attributes := #[] }, { accessFlags := 25, nameIndex := 358, descriptorIndex := 339, attributes := #[] }, { accessFlags := 25, nameIndex := 361, descriptorIndex := 339, attributes := #[] }, { accessFlags := 26, nameIndex := 364, descriptorIndex := 339, attributes := #[] }, { accessFlags := 26, nameIndex := 365, descriptorIndex := 339, attributes := #[] }, { accessFlags := 26, nameIndex := 172, descriptorIndex := 173, attributes := #[] }, { accessFlags := 26, nameIndex := 176, descriptorIndex := 173, attributes := #[] }, { accessFlags := 8, nameIndex := 344, descriptorIndex := 339, attributes := #[] }, { accessFlags := 8, nameIndex := 338, descriptorIndex := 339, attributes := #[] }, { accessFlags := 4120, nameIndex := 245, descriptorIndex := 246, attributes := #[] }])
  fields := #[{ name := "E", type := .double, accessFlags := 25, slot := 0, constantValue := 0 }, { name := "PI", type := .double, accessFlags := 25, slot := 1, constantValue := 0 }, { name := "TAU", type := .double, accessFlags := 25, slot := 2, constantValue := 0 }, { name := "DEGREES_TO_RADIANS", type := .double, accessFlags := 26, slot := 3, constantValue := 0 }, { name := "RADIANS_TO_DEGREES", type := .double, accessFlags := 26, slot := 4, constantValue := 0 }, { name := "negativeZeroFloatBits", type := .long, accessFlags := 26, slot := 5, constantValue := 0 }, { name := "negativeZeroDoubleBits", type := .long, accessFlags := 26, slot := 6, constantValue := 0 }, { name := "twoToTheDoubleScaleUp", type := .double, accessFlags := 8, slot := 7, constantValue := 0 }, { name := "twoToTheDoubleScaleDown", type := .double, accessFlags := 8, slot := 8, constantValue := 0 }, { name := "$assertionsDisabled", type := .boolean, accessFlags := 4120, slot := 9, constantValue := 0 }]
  methods := #[k5m0, k5m1, k5m2]
  instanceTypes := #[]
  staticTypes := #[.double, .double, .double, .double, .double, .long, .long, .double, .double, .boolean]
  resolved := Array.replicate 460 none
  statics := none }

def pool6 : Array CpInfo := pool [(2, .class_ 4), (1, u "java/lang/Object"), (0, u "<init>"), (0, u "()V"), (1, .class_ 10), (1, u "java/lang/System"), (0, u "allowSecurityManager"), (0, u "I"), (16, u "cons"), (0, u "Ljava/io/Console;"), (77, .class_ 110), (1, u "java/lang/System$CallersHolder"), (43, u "initialErrStream"), (0, u "Ljava/io/PrintStream;"), (19, u "security"), (0, u "Ljava/lang/SecurityManager;"), (31, .class_ 209), (0, u "java/lang/System$1"), (7, u "props"), (0, u "Ljava/util/Properties;"), (2, u "lineSeparator"), (0, u "Ljava/lang/String;"), (96, .class_ 321), (1, u "java/lang/System$LoggerFinder"), (5, .class_ 328), (0, u "java/lang/System$Logger"), (67, u "err"), (2, u "out"), (91, u "notSupportedJnuEncoding"), (15, u "in"), (17, u "initialIn"), (0, u "Ljava/io/InputStream;"), (35, u "bootLayer"), (0, u "Ljava/lang/ModuleLayer;"), (99, .class_ 664), (0, u "java/lang/System$2"), (9, u "NEVER"), (2, u "MAYBE"), (49, u "arraycopy"), (0, u "(Ljava/lang/Object;ILjava/lang/Object;II)V"), (72, .class_ 802), (0, u "java/lang/System$Logger$Level")] 31

def k6m0 : Method := { name := "<init>", desc := "()V", sig := { parameters := [], returnType := none }, accessFlags := 2, code := none }
def k6m1 : Method := { name := "arraycopy", desc := "(Ljava/lang/Object;ILjava/lang/Object;II)V", sig := { parameters := [(.object "java/lang/Object"), .int, (.object "java/lang/Object"), .int, .int], returnType := none }, accessFlags := 265, code := none }
/-- java/lang/System -/
def k6 : Class := { plain "java/lang/System" (some 0) with
  accessFlags := 49
  interfaces := #[]
  cf := some (fileOf pool6 8 #[.nestMembers #[319, 327, 801, 108, 663, 208]] #[{ accessFlags := 2, nameIndex := 5, descriptorIndex := 6, attributes := #[] }, { accessFlags := 265, nameIndex := 727, descriptorIndex := 728, attributes := #[] }] 49 2 #[] #[{ accessFlags := 25, nameIndex := 507, descriptorIndex := 526, attributes := #[] }, { accessFlags := 25, nameIndex := 399, descriptorIndex := 155, attributes := #[] }, { accessFlags := 25, nameIndex := 396, descriptorIndex := 155, attributes := #[] }, { accessFlags := 10, nameIndex := 525, descriptorIndex := 526, attributes := #[] }, { accessFlags := 26, nameIndex := 674, descriptorIndex := 12, attributes := #[] }, { accessFlags := 26, nameIndex := 677, descriptorIndex := 12, attributes := #[] }, { accessFlags := 10, nameIndex := 11, descriptorIndex := 12, attributes := #[] }, { accessFlags := 74, nameIndex := 175, descriptorIndex := 176, attributes := #[] }, { accessFlags := 10, nameIndex := 491, descriptorIndex := 222, attributes := #[] }, { accessFlags := 74, nameIndex := 29, descriptorIndex := 30, attributes := #[] }, { accessFlags := 74, nameIndex := 154, descriptorIndex := 155, attributes := #[] }, { accessFlags := 10, nameIndex := 217, descriptorIndex := 218, attributes := #[] }, { accessFlags := 10, nameIndex := 221, descriptorIndex := 222, attributes := #[] }, { accessFlags := 8, nameIndex := 562, descriptorIndex := 563, attributes := #[] }])
  fields := #[{ name := "in", type := (.object "java/io/InputStream"), accessFlags := 25, slot := 0, constantValue := 0 }, { name := "out", type := (.object "java/io/PrintStream"), accessFlags := 25, slot := 1, constantValue := 0 }, { name := "err", type := (.object "java/io/PrintStream"), accessFlags := 25, slot := 2, constantValue := 0 }, { name := "initialIn", type := (.object "java/io/InputStream"), accessFlags := 10, slot := 3, constantValue := 0 }, { name := "NEVER", type := .int, accessFlags := 26, slot := 4, constantValue := 0 }, { name := "MAYBE", type := .int, accessFlags := 26, slot := 5, constantValue := 0 }, { name := "allowSecurityManager", type := .int, accessFlags := 10, slot := 6, constantValue := 0 }, { name := "security", type := (.object "java/lang/SecurityManager"), accessFlags := 74, slot := 7, constantValue := 0 }, { name := "notSupportedJnuEncoding", type := (.object "java/lang/String"), accessFlags := 10, slot := 8, constantValue := 0 }, { name := "cons", type := (.object "java/io/Console"), accessFlags := 74, slot := 9, constantValue := 0 }, { name := "initialErrStream", type := (.object "java/io/PrintStream"), accessFlags := 74, slot := 10, constantValue := 0 }, { name := "props", type := (.object "java/util/Properties"), accessFlags := 10, slot := 11, constantValue := 0 }, { name := "lineSeparator", type := (.object "java/lang/String"), accessFlags := 10, slot := 12, constantValue := 0 }, { name := "bootLayer", type := (.object "java/lang/ModuleLayer"), accessFlags := 8, slot := 13, constantValue := 0 }]
  methods := #[k6m0, k6m1]
  instanceTypes := #[]
  staticTypes := #[(.object "java/io/InputStream"), (.object "java/io/PrintStream"), (.object "java/io/PrintStream"), (.object "java/io/InputStream"), .int, .int, .int, (.object "java/lang/SecurityManager"), (.object "java/lang/String"), (.object "java/io/Console"), (.object "java/io/PrintStream"), (.object "java/util/Properties"), (.object "java/lang/String"), (.object "java/lang/ModuleLayer")]
  resolved := Array.replicate 834 none
  statics := none }

def pool7 : Array CpInfo := pool [(1, .class_ 2), (0, u "java/lang/Cloneable"), (0, .class_ 4), (0, u "java/lang/Object")] 2

/-- java/lang/Cloneable -/
def k7 : Class := { plain "java/lang/Cloneable" (some 0) with
  accessFlags := 1537
  interfaces := #[]
  cf := some (fileOf pool7 1 #[] #[] 1537 3 #[] #[])
  fields := #[]
  methods := #[]
  instanceTypes := #[]
  staticTypes := #[]
  resolved := Array.replicate 7 none
  statics := none }

def pool8 : Array CpInfo := pool [(1, u "java/io/Serializable"), (0, .class_ 1), (0, u "java/lang/Object"), (0, .class_ 3)] 3

/-- java/io/Serializable -/
def k8 : Class := { plain "java/io/Serializable" (some 0) with
  accessFlags := 1537
  interfaces := #[]
  cf := some (fileOf pool8 2 #[] #[] 1537 4 #[] #[])
  fields := #[]
  methods := #[]
  instanceTypes := #[]
  staticTypes := #[]
  resolved := Array.replicate 8 none
  statics := none }

/-- the primitive byte -/
def k9 : Class := { plain "byte" none with kind := .primitive 'B', accessFlags := 0x411 }
/-- [B -/
def k10 : Class := { plain "[B" (some 0) with kind := .array 9 .byte, interfaces := #[7, 8], accessFlags := 1041 }

/-- the primitive int -/
def k11 : Class := { plain "int" none with kind := .primitive 'I', accessFlags := 0x411 }
/-- [I -/
def k12 : Class := { plain "[I" (some 0) with kind := .array 11 .int, interfaces := #[7, 8], accessFlags := 1041 }

def heap : Heap := #[]
def classes : Array Class := #[k0, k1, k2, k3, k4, k5, k6, k7, k8, k9, k10, k11, k12]
def interned : List (Array UInt16 × Addr) := []
def slotsUsed : Nat := 0
def theMethod : MethodId := ⟨1, 2⟩
def args0 : Array Value := #[.int 5, .int 3, .int 7, .int 48, .long 2]
def aboutOver (below : List Frame) : State where
  vm := { classes := classes, interned := interned.toArray }
  heap := heap
  slotsUsed := slotsUsed
  threads := #[{ frames := .invoking theMethod args0 :: below }]
def below0 : List Frame := [.native { method := ⟨0, 0⟩, args := #[] }]
def about1 : State := aboutOver below0
def p0 : Program := .bare "" "" ""
def e0 : Env := launch0.env 0 0 0
theorem w_frames : about1.frames = Frame.invoking theMethod args0 :: below0 := rfl
set_option maxRecDepth 65536 in
theorem w_args : argsFit about1.vm theMethod args0 = true := by decide +kernel
set_option maxRecDepth 65536 in
theorem w_heap : heapFits about1 = true := by decide +kernel
set_option maxRecDepth 65536 in
theorem w_runnable : about1.curStatus? = some .runnable := by decide +kernel
set_option maxRecDepth 65536 in
theorem w_alone : about1.alone = true := by decide +kernel
set_option maxRecDepth 65536 in
theorem w_named : about1.methodNamed? x = some theMethod := by decide +kernel
set_option maxRecDepth 65536 in
theorem w_hears : about1.hears theMethod below0 = true := by decide +kernel
set_option maxRecDepth 65536 in
theorem w_ripe : about1.ripe theMethod args0 below0 = true := by decide +kernel
theorem w_running : about1.status = .running := rfl
set_option maxRecDepth 65536 in
theorem w_room : about1.hasRoom e0.platform room_1 = true :=
  launch0.hasRoom_least _ room_1 (by decide +kernel) (by decide +kernel) (by decide +kernel) (by decide +kernel) (by decide +kernel) (by decide +kernel)
theorem allAtoms_all (ts : List Jvm.Cond) (a : Array Jvm.Value) (st : Jvm.State) : (allAtoms ts).before a st = ts.all (fun c => c.before a st) := by
  induction ts with
  | nil => rfl
  | cons c t ih =>
    show (Jvm.Cond.and c (allAtoms t)).before a st = _
    rw [Jvm.Cond.before_and, ih, List.all_cons]
def words1 : List Jvm.Cond := Jvm.Cond.code x code maxLocals ret :: tables_1
/-- a 'code' word, met by the world's own term for the bytes: nothing is compared byte by byte -/
theorem code_word {y : MethodName} {bytes : ByteArray} {mx : Nat} {rt : Option FieldType} {a : Array Value} {s : State} {m : MethodId} {meth : Method} {c : Code} (h1 : s.methodNamed? y = some m) (h2 : s.vm.method? m = some meth) (h3 : meth.code = some c) (h4 : c.code = bytes)
    (h5 : (c.maxLocals == mx && c.exceptionTable.isEmpty && decide (c.maxStack ≤ mostOperands) && decide (meth.sig.returnType = rt) && !meth.locks && decide (parseMethodDescriptor y.desc = some meth.sig)) = true) : (Jvm.Cond.code y bytes mx rt).before a s = true := by
  simp only [Bool.and_eq_true, beq_iff_eq, Bool.not_eq_true', decide_eq_true_eq] at h5
  obtain ⟨⟨⟨⟨⟨g1, g2⟩, g3⟩, g4⟩, g5⟩, g6⟩ := h5
  simp [Cond.before, Cond.holds, Cond.value, h1, h2, h3, h4, g1, g2, g3, g4, g5, g6]
def isCode : Jvm.Cond → Bool
  | .code _ _ _ _ => true
  | _ => false
theorem all_split {L : List Jvm.Cond} {P : Jvm.Cond → Bool} (h1 : L.all (fun c => isCode c || P c) = true) (h2 : ∀ c ∈ L.filter isCode, P c = true) : L.all P = true := by
  refine List.all_eq_true.mpr fun c hc => ?_
  have h := List.all_eq_true.mp h1 c hc
  rcases Bool.eq_false_or_eq_true (isCode c) with hi | hi
  · exact h2 c (List.mem_filter.mpr ⟨hc, hi⟩)
  · simpa [hi] using h
set_option maxRecDepth 65536 in
theorem w_c0 : (Jvm.Cond.code x code maxLocals ret).before args0 about1 = true := code_word (m := ⟨1, 2⟩) (meth := k1m2) (c := k1c2) (by decide +kernel) rfl rfl rfl (by decide +kernel)
set_option maxRecDepth 65536 in
theorem w_c1 : (Jvm.Cond.code ({ cls := "com/example/leafcode/leafcode/DecodingTable", name := "<init>", desc := "()V" } : Jvm.MethodName) prog_6_method_1_code (1 : Nat) (Option.none : Option Jvm.ClassFile.FieldType)).before args0 about1 = true := code_word (m := ⟨2, 0⟩) (meth := k2m0) (c := k2c0) (by decide +kernel) rfl rfl rfl (by decide +kernel)
set_option maxRecDepth 65536 in
theorem w_c2 : (Jvm.Cond.code ({ cls := "java/lang/Object", name := "<init>", desc := "()V" } : Jvm.MethodName) object_method_1_code (1 : Nat) (Option.none : Option Jvm.ClassFile.FieldType)).before args0 about1 = true := code_word (m := ⟨0, 0⟩) (meth := k0m0) (c := k0c0) (by decide +kernel) rfl rfl rfl (by decide +kernel)
set_option maxRecDepth 65536 in
theorem w_c3 : (Jvm.Cond.code ({ cls := "com/example/leafcode/leafcode/DecodingTable", name := "countByLane", desc := "([I)[I" } : Jvm.MethodName) prog_6_method_3_code (6 : Nat) (Option.some (Jvm.ClassFile.FieldType.array Jvm.ClassFile.FieldType.int))).before args0 about1 = true := code_word (m := ⟨2, 2⟩) (meth := k2m2) (c := k2c2) (by decide +kernel) rfl rfl rfl (by decide +kernel)
set_option maxRecDepth 65536 in
theorem w_c4 : (Jvm.Cond.code ({ cls := "java/util/Arrays", name := "fill", desc := "([II)V" } : Jvm.MethodName) jdk_65_method_103_code (4 : Nat) (Option.none : Option Jvm.ClassFile.FieldType)).before args0 about1 = true := code_word (m := ⟨3, 2⟩) (meth := k3m2) (c := k3c2) (by decide +kernel) rfl rfl rfl (by decide +kernel)
set_option maxRecDepth 65536 in
theorem w_c5 : (Jvm.Cond.code ({ cls := "com/example/leafcode/leafcode/PrefixCode", name := "checkLengthCounts", desc := "([I)[I" } : Jvm.MethodName) prog_12_method_12_code (7 : Nat) (Option.some (Jvm.ClassFile.FieldType.array Jvm.ClassFile.FieldType.int))).before args0 about1 = true := code_word (m := ⟨4, 0⟩) (meth := k4m0) (c := k4c0) (by decide +kernel) rfl rfl rfl (by decide +kernel)
set_option maxRecDepth 65536 in
theorem w_c6 : (Jvm.Cond.code ({ cls := "java/util/Arrays", name := "copyOf", desc := "([II)[I" } : Jvm.MethodName) jdk_65_method_123_code (3 : Nat) (Option.some (Jvm.ClassFile.FieldType.array Jvm.ClassFile.FieldType.int))).before args0 about1 = true := code_word (m := ⟨3, 4⟩) (meth := k3m4) (c := k3c4) (by decide +kernel) rfl rfl rfl (by decide +kernel)
set_option maxRecDepth 65536 in
theorem w_c7 : (Jvm.Cond.code ({ cls := "java/lang/Math", name := "min", desc := "(II)I" } : Jvm.MethodName) jdk_29_method_69_code (2 : Nat) (Option.some Jvm.ClassFile.FieldType.int)).before args0 about1 = true := code_word (m := ⟨5, 2⟩) (meth := k5m2) (c := k5c2) (by decide +kernel) rfl rfl rfl (by decide +kernel)
set_option maxRecDepth 65536 in
theorem w_c8 : (Jvm.Cond.code ({ cls := "java/lang/Math", name := "max", desc := "(II)I" } : Jvm.MethodName) jdk_29_method_65_code (2 : Nat) (Option.some Jvm.ClassFile.FieldType.int)).before args0 about1 = true := code_word (m := ⟨5, 1⟩) (meth := k5m1) (c := k5c1) (by decide +kernel) rfl rfl rfl (by decide +kernel)
set_option maxRecDepth 65536 in
theorem w_c9 : (Jvm.Cond.code ({ cls := "com/example/leafcode/leafcode/DecodingTable", name := "sortByCode", desc := "([I[I)V" } : Jvm.MethodName) prog_6_method_4_code (8 : Nat) (Option.none : Option Jvm.ClassFile.FieldType)).before args0 about1 = true := code_word (m := ⟨2, 3⟩) (meth := k2m3) (c := k2c3) (by decide +kernel) rfl rfl rfl (by decide +kernel)
set_option maxRecDepth 65536 in
theorem w_c10 : (Jvm.Cond.code ({ cls := "java/util/Arrays", name := "fill", desc := "([IIII)V" } : Jvm.MethodName) jdk_65_method_104_code (5 : Nat) (Option.none : Option Jvm.ClassFile.FieldType)).before args0 about1 = true := code_word (m := ⟨3, 3⟩) (meth := k3m3) (c := k3c3) (by decide +kernel) rfl rfl rfl (by decide +kernel)
set_option maxRecDepth 65536 in
theorem w_c11 : (Jvm.Cond.code ({ cls := "java/util/Arrays", name := "rangeCheck", desc := "(III)V" } : Jvm.MethodName) jdk_65_method_30_code (3 : Nat) (Option.none : Option Jvm.ClassFile.FieldType)).before args0 about1 = true := code_word (m := ⟨3, 1⟩) (meth := k3m1) (c := k3c1) (by decide +kernel) rfl rfl rfl (by decide +kernel)
set_option maxRecDepth 65536 in
theorem w_c12 : (Jvm.Cond.code ({ cls := "com/example/leafcode/leafcode/DecodingTable", name := "symbol", desc := "(J)I" } : Jvm.MethodName) prog_6_method_9_code (5 : Nat) (Option.some Jvm.ClassFile.FieldType.int)).before args0 about1 = true := code_word (m := ⟨2, 7⟩) (meth := k2m7) (c := k2c7) (by decide +kernel) rfl rfl rfl (by decide +kernel)
set_option maxRecDepth 65536 in
theorem w_c13 : (Jvm.Cond.code ({ cls := "com/example/leafcode/leafcode/DecodingTableSymbolPinLaw", name := "put", desc := "([IIIII)V" } : Jvm.MethodName) method_2_code (5 : Nat) (Option.none : Option Jvm.ClassFile.FieldType)).before args0 about1 = true := code_word (m := ⟨1, 1⟩) (meth := k1m1) (c := k1c1) (by decide +kernel) rfl rfl rfl (by decide +kernel)
set_option maxRecDepth 65536 in
theorem w_c14 : (Jvm.Cond.code ({ cls := "com/example/leafcode/leafcode/DecodingTable", name := "fillFollowing", desc := "([III[I)V" } : Jvm.MethodName) prog_6_method_5_code (7 : Nat) (Option.none : Option Jvm.ClassFile.FieldType)).before args0 about1 = true := code_word (m := ⟨2, 4⟩) (meth := k2m4) (c := k2c4) (by decide +kernel) rfl rfl rfl (by decide +kernel)
set_option maxRecDepth 65536 in
theorem w_c15 : (Jvm.Cond.code ({ cls := "com/example/leafcode/leafcode/DecodingTable", name := "fillCodes", desc := "([IIII[I)I" } : Jvm.MethodName) prog_6_method_6_code (18 : Nat) (Option.some Jvm.ClassFile.FieldType.int)).before args0 about1 = true := code_word (m := ⟨2, 5⟩) (meth := k2m5) (c := k2c5) (by decide +kernel) rfl rfl rfl (by decide +kernel)
set_option maxRecDepth 65536 in
theorem w_c16 : (Jvm.Cond.code ({ cls := "com/example/leafcode/leafcode/DecodingTable", name := "code", desc := "(III)I" } : Jvm.MethodName) prog_6_method_7_code (4 : Nat) (Option.some Jvm.ClassFile.FieldType.int)).before args0 about1 = true := code_word (m := ⟨2, 6⟩) (meth := k2m6) (c := k2c6) (by decide +kernel) rfl rfl rfl (by decide +kernel)
def codes1 : List Jvm.Cond := [Jvm.Cond.code x code maxLocals ret, Jvm.Cond.code ({ cls := "com/example/leafcode/leafcode/DecodingTable", name := "<init>", desc := "()V" } : Jvm.MethodName) prog_6_method_1_code (1 : Nat) (Option.none : Option Jvm.ClassFile.FieldType), Jvm.Cond.code ({ cls := "java/lang/Object", name := "<init>", desc := "()V" } : Jvm.MethodName) object_method_1_code (1 : Nat) (Option.none : Option Jvm.ClassFile.FieldType), Jvm.Cond.code ({ cls := "com/example/leafcode/leafcode/DecodingTable", name := "countByLane", desc := "([I)[I" } : Jvm.MethodName) prog_6_method_3_code (6 : Nat) (Option.some (Jvm.ClassFile.FieldType.array Jvm.ClassFile.FieldType.int)), Jvm.Cond.code ({ cls := "java/util/Arrays", name := "fill", desc := "([II)V" } : Jvm.MethodName) jdk_65_method_103_code (4 : Nat) (Option.none : Option Jvm.ClassFile.FieldType), Jvm.Cond.code ({ cls := "com/example/leafcode/leafcode/PrefixCode", name := "checkLengthCounts", desc := "([I)[I" } : Jvm.MethodName) prog_12_method_12_code (7 : Nat) (Option.some (Jvm.ClassFile.FieldType.array Jvm.ClassFile.FieldType.int)), Jvm.Cond.code ({ cls := "java/util/Arrays", name := "copyOf", desc := "([II)[I" } : Jvm.MethodName) jdk_65_method_123_code (3 : Nat) (Option.some (Jvm.ClassFile.FieldType.array Jvm.ClassFile.FieldType.int)), Jvm.Cond.code ({ cls := "java/lang/Math", name := "min", desc := "(II)I" } : Jvm.MethodName) jdk_29_method_69_code (2 : Nat) (Option.some Jvm.ClassFile.FieldType.int), Jvm.Cond.code ({ cls := "java/lang/Math", name := "max", desc := "(II)I" } : Jvm.MethodName) jdk_29_method_65_code (2 : Nat) (Option.some Jvm.ClassFile.FieldType.int), Jvm.Cond.code ({ cls := "com/example/leafcode/leafcode/DecodingTable", name := "sortByCode", desc := "([I[I)V" } : Jvm.MethodName) prog_6_method_4_code (8 : Nat) (Option.none : Option Jvm.ClassFile.FieldType), Jvm.Cond.code ({ cls := "java/util/Arrays", name := "fill", desc := "([IIII)V" } : Jvm.MethodName) jdk_65_method_104_code (5 : Nat) (Option.none : Option Jvm.ClassFile.FieldType), Jvm.Cond.code ({ cls := "java/util/Arrays", name := "rangeCheck", desc := "(III)V" } : Jvm.MethodName) jdk_65_method_30_code (3 : Nat) (Option.none : Option Jvm.ClassFile.FieldType), Jvm.Cond.code ({ cls := "com/example/leafcode/leafcode/DecodingTable", name := "symbol", desc := "(J)I" } : Jvm.MethodName) prog_6_method_9_code (5 : Nat) (Option.some Jvm.ClassFile.FieldType.int), Jvm.Cond.code ({ cls := "com/example/leafcode/leafcode/DecodingTableSymbolPinLaw", name := "put", desc := "([IIIII)V" } : Jvm.MethodName) method_2_code (5 : Nat) (Option.none : Option Jvm.ClassFile.FieldType), Jvm.Cond.code ({ cls := "com/example/leafcode/leafcode/DecodingTable", name := "fillFollowing", desc := "([III[I)V" } : Jvm.MethodName) prog_6_method_5_code (7 : Nat) (Option.none : Option Jvm.ClassFile.FieldType), Jvm.Cond.code ({ cls := "com/example/leafcode/leafcode/DecodingTable", name := "fillCodes", desc := "([IIII[I)I" } : Jvm.MethodName) prog_6_method_6_code (18 : Nat) (Option.some Jvm.ClassFile.FieldType.int), Jvm.Cond.code ({ cls := "com/example/leafcode/leafcode/DecodingTable", name := "code", desc := "(III)I" } : Jvm.MethodName) prog_6_method_7_code (4 : Nat) (Option.some Jvm.ClassFile.FieldType.int)]
set_option maxRecDepth 65536 in
theorem codes_eq : words1.filter isCode = codes1 := rfl
theorem w_codes : ∀ c ∈ words1.filter isCode, c.before args0 about1 = true := by
  rw [codes_eq]
  intro c hc
  simp only [codes1, List.mem_cons, List.not_mem_nil, or_false] at hc
  rcases hc with rfl | rfl | rfl | rfl | rfl | rfl | rfl | rfl | rfl | rfl | rfl | rfl | rfl | rfl | rfl | rfl | rfl
  · exact w_c0
  · exact w_c1
  · exact w_c2
  · exact w_c3
  · exact w_c4
  · exact w_c5
  · exact w_c6
  · exact w_c7
  · exact w_c8
  · exact w_c9
  · exact w_c10
  · exact w_c11
  · exact w_c12
  · exact w_c13
  · exact w_c14
  · exact w_c15
  · exact w_c16
set_option maxRecDepth 65536 in
theorem w_t1 : (words1.take 24).all (fun c => isCode c || c.before args0 about1) = true := by decide +kernel
set_option maxRecDepth 65536 in
theorem w_t2 : ((words1.drop 24).take 24).all (fun c => isCode c || c.before args0 about1) = true := by decide +kernel
set_option maxRecDepth 65536 in
theorem w_t3 : (((words1.drop 24).drop 24).take 24).all (fun c => isCode c || c.before args0 about1) = true := by decide +kernel
set_option maxRecDepth 65536 in
theorem w_t4 : ((((words1.drop 24).drop 24).drop 24).take 24).all (fun c => isCode c || c.before args0 about1) = true := by decide +kernel
set_option maxRecDepth 65536 in
theorem w_t5 : ((((words1.drop 24).drop 24).drop 24).drop 24).all (fun c => isCode c || c.before args0 about1) = true := by decide +kernel
theorem w_tables : (allAtoms (Jvm.Cond.code x code maxLocals ret :: tables_1)).before args0 about1 = true := by
  rw [allAtoms_all]
  show words1.all (fun c => c.before args0 about1) = true
  refine all_split ?_ w_codes
  rw [← List.take_append_drop 24 words1, List.all_append, w_t1, ← List.take_append_drop 24 (words1.drop 24), List.all_append, w_t2, ← List.take_append_drop 24 ((words1.drop 24).drop 24), List.all_append, w_t3, ← List.take_append_drop 24 (((words1.drop 24).drop 24).drop 24), List.all_append, w_t4, w_t5]
  rfl
set_option maxRecDepth 65536 in
theorem w_case : (Jvm.Cond.and given_1 narrow_1).before args0 about1 = true := by decide +kernel
theorem w_applies : (headSpec (Jvm.Cond.code x code maxLocals ret :: tables_1) room_1).applies x e0.platform about1 = true :=
  (Spec.applies_iff w_frames).mpr ⟨w_running, w_runnable, w_alone, w_named, w_hears, w_ripe, w_room, w_tables⟩
theorem atStart : AtStart classFile x code maxLocals ret World_1 tables_1 room_1 Calls_1 rest_1 Pre_1 launch0 p0 e0 about1 theMethod args0 below0 :=
  ⟨lists_1, trivial, launch0.admits_env _ _ _, launch0.least_env, fairChoices_fair.cas, fairChoices_fair.clock, w_frames, w_args, w_heap, w_applies, trivial, trivial, w_case⟩
end start1
theorem witness_1 : WitnessClaimed_1 := ⟨start1.p0, start1.e0, start1.about1, start1.theMethod, start1.args0, start1.below0, start1.atStart⟩
end Jvm.Pilot.@@N@@
