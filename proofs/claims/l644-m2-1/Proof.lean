import JvmDerived
import JvmDerived.Pilot.@@N@@Statement
import JvmDerived.Pilot.@@N@@Code
set_option linter.unusedVariables false
set_option linter.unusedSimpArgs false
set_option maxHeartbeats 2000000
namespace Jvm.Pilot.@@N@@
open Jvm Jvm.ClassFile Sem Op Lib Jvm.Free Jvm.Stand Jvm.LawKit Jvm.RoadKit Bundle Jvm.Pilot.@@N@@.Jvm.D
section OwnKit
variable {p : Program} {l : Launch} {e : Env} {R : Room} {s : State} {m : MethodId} {args : Array Value} {below : List Frame} {meth : Method} {c : Code} {T : State} {locs : List Loc} {cells slots : Nat} {Z : State} {h h' : Heap} {a b : Addr}
def OwnWp (p : Program) (e : Env) (below : List Frame) (s : State) (C S : Nat) (Q : Option Value → Heap → List Loc → Prop) (U : State) : Prop :=
  ∃ s₂ o, Steps p.tables e below U s₂ ∧ s₂.status = .running ∧ Ended s₂ below o ∧ ∃ v L, o = .returned v ∧ Q v s₂.heap L ∧ FrameEnd s o s₂ L C S
variable {C S : Nat} {Q : Option Value → Heap → List Loc → Prop}
theorem OwnWp.step {U U' : State} (hs : ∀ t, Steps p.tables e below U' t → Steps p.tables e below U t) (k : OwnWp p e below s C S Q U') : OwnWp p e below s C S Q U := by
  obtain ⟨s2, o, h1, r⟩ := k
  exact ⟨s2, o, hs _ h1, r⟩
theorem OwnWp.go {U U' : State} (hs : Steps p.tables e below U U') (k : OwnWp p e below s C S Q U') : OwnWp p e below s C S Q U := k.step fun _ q => hs.trans q
theorem OwnWp.cast {g g' : JFrame} (q : g = g') (k : OwnWp p e below s C S Q (T.setTop g')) : OwnWp p e below s C S Q (T.setTop g) := q ▸ k
theorem OwnWp.retI (X : Stand p l e R s m args below meth c T locs cells slots) (hx : p.tables.exec = Jvm.exec) (hlk : meth.locks = false) (hret : meth.sig.returnType = some .int) {pc : Nat} {Ls : Array Slot} {z : Int32} {rest : List Value} (hd : decode c.code pc = .ok (.ireturn, 1)) (hC : cells ≤ C) (hS : slots ≤ S) (hQ : Q (some (.int z)) T.heap locs) :
    OwnWp p e below s C S Q (T.setTop (mkF m pc Ls (.int z :: rest))) := by
  obtain ⟨fs, hr, hrun, hended, hW, hsame⟩ := X.leave (v := some (.int z)) (fun h => by rw [hret] at h; cases h) hlk
  exact ⟨_, _, retOut X hx hret rfl (Or.inl ⟨rfl, Or.inl rfl, z, rfl⟩) hd hr, hrun, hended, _, _, rfl, hQ, ⟨_, rfl⟩, hW, hsame.mono hC hS⟩
theorem OwnWp.retJ (X : Stand p l e R s m args below meth c T locs cells slots) (hx : p.tables.exec = Jvm.exec) (hlk : meth.locks = false) (hret : meth.sig.returnType = some .long) {pc : Nat} {Ls : Array Slot} {z : Int64} {rest : List Value} (hd : decode c.code pc = .ok (.lreturn, 1)) (hC : cells ≤ C) (hS : slots ≤ S) (hQ : Q (some (.long z)) T.heap locs) :
    OwnWp p e below s C S Q (T.setTop (mkF m pc Ls (.long z :: rest))) := by
  obtain ⟨fs, hr, hrun, hended, hW, hsame⟩ := X.leave (v := some (.long z)) (fun h => by rw [hret] at h; cases h) hlk
  exact ⟨_, _, retOut X hx hret rfl (Or.inr (Or.inl ⟨rfl, rfl, z, rfl⟩)) hd hr, hrun, hended, _, _, rfl, hQ, ⟨_, rfl⟩, hW, hsame.mono hC hS⟩
theorem OwnWp.retA (X : Stand p l e R s m args below meth c T locs cells slots) (hx : p.tables.exec = Jvm.exec) (hlk : meth.locks = false) {t : FieldType} (hret : meth.sig.returnType = some t) (ht : t.isReference = true) {pc : Nat} {Ls : Array Slot} {z : Addr} {rest : List Value} (hn : narrow t (.ref z) = .ref z) (hd : decode c.code pc = .ok (.areturn, 1)) (hC : cells ≤ C) (hS : slots ≤ S) (hQ : Q (some (.ref z)) T.heap locs) :
    OwnWp p e below s C S Q (T.setTop (mkF m pc Ls (.ref z :: rest))) := by
  obtain ⟨fs, hr, hrun, hended, hW, hsame⟩ := X.leave (v := some (.ref z)) (fun h => by rw [hret] at h; cases h) hlk
  exact ⟨_, _, retOut X hx hret hn (Or.inr (Or.inr (Or.inr (Or.inr ⟨rfl, ht, rfl⟩)))) hd hr, hrun, hended, _, _, rfl, hQ, ⟨_, rfl⟩, hW, hsame.mono hC hS⟩
theorem OwnWp.retZ (X : Stand p l e R s m args below meth c T locs cells slots) (hx : p.tables.exec = Jvm.exec) (hlk : meth.locks = false) (hret : meth.sig.returnType = some .boolean) {pc : Nat} {Ls : Array Slot} {z : Int32} {rest : List Value} (hd : decode c.code pc = .ok (.ireturn, 1)) (hC : cells ≤ C) (hS : slots ≤ S) (hz : z = 0 ∨ z = 1) (hQ : Q (some (.int z)) T.heap locs) :
    OwnWp p e below s C S Q (T.setTop (mkF m pc Ls (.int z :: rest))) := by
  have hn : nar .boolean z = z := by rcases hz with rfl | rfl <;> rfl
  obtain ⟨fs, hr, hrun, hended, hW, hsame⟩ := X.leave (v := some (.int (nar .boolean z))) (fun h => by rw [hret] at h; cases h) hlk
  exact ⟨_, _, retN X hx hret (Or.inl rfl) hd hr, hrun, hended, _, _, rfl, by rw [hn]; exact hQ, ⟨_, rfl⟩, hW, hsame.mono hC hS⟩
theorem OwnWp.retV (X : Stand p l e R s m args below meth c T locs cells slots) (hx : p.tables.exec = Jvm.exec) (hlk : meth.locks = false) (hret : meth.sig.returnType = none) {pc : Nat} {Ls : Array Slot} (hd : decode c.code pc = .ok (.return_, 1)) (hC : cells ≤ C) (hS : slots ≤ S) (hQ : Q none T.heap locs) :
    OwnWp p e below s C S Q (T.setTop (mkF m pc Ls [])) := by
  obtain ⟨fs, hr, hrun, hended, hW, hsame⟩ := X.leave (v := none) (fun _ => rfl) hlk
  exact ⟨_, _, X.returnOut hx hret hd hr, hrun, hended, _, _, rfl, hQ, ⟨_, rfl⟩, hW, hsame.mono hC hS⟩
theorem own_widen {cells' slots' : Nat} (X : Stand p l e R s m args below meth c T locs cells slots) (h1 : cells ≤ cells') (h2 : slots ≤ slots') : Stand p l e R s m args below meth c T locs cells' slots' := { X with same := X.same.mono h1 h2 }
theorem own_fold {n0 c' s' : Nat} (X : Stand p l e R s m args below meth c T locs cells slots) (N : Fr n0 locs) (h1 : cells ≤ c') (h2 : slots ≤ s') : ∃ L', Stand p l e R s m args below meth c T L' c' s' ∧ Fr n0 L' := ⟨locs, own_widen X h1 h2, N⟩
theorem own_lrem {g : JFrame} {target : State} (X : Stand p l e R s m args below meth c T locs cells slots) (hx : p.tables.exec = Jvm.exec) (hg : g.method = m) {x y : Int64} {rest : List Value} (hd : decode c.code g.pc = .ok (.lrem, 1)) (hs : g.stack = .long y :: .long x :: rest) (hy : y ≠ 0)
    (hr : Steps p.tables e below (T.setTop { g with pc := g.pc + 1, stack := .long (x % y) :: rest }) target) : Steps p.tables e below (T.setTop g) target :=
  XT.lrem X.here hx hg hd hs hy (by rw [lrem_mod]; exact hr)
/-- an array: its kind, its length, what place i holds -/
def OwnA (Z : State) (h : Heap) (a : Addr) (ty : FieldType) (n : Int32) (f : Int → Value) : Prop :=
  ∃ cl : Cell, Arr Z h a cl ty ∧ (cl.slots.size : Int) = n.toInt ∧ ∀ i : Int, 0 ≤ i → i < n.toInt → cl.slots[i.toNat]? = some (f i)
def ownUpd {α : Type} (f : Int → α) (j : Int) (x : α) : Int → α := fun i => if i = j then x else f i
theorem ownUpd_same {α : Type} (f : Int → α) (j : Int) (x : α) : ownUpd f j x j = x := if_pos rfl
theorem ownUpd_ne {α : Type} (f : Int → α) (j : Int) (x : α) {i : Int} (q : i ≠ j) : ownUpd f j x i = f i := if_neg q
theorem ownUpd_int (f : Int → Int32) (j : Int) (x : Int32) (i : Int) : ownUpd (fun i => Value.int (f i)) j (Value.int x) i = Value.int (ownUpd f j x i) := by unfold ownUpd; split <;> rfl
theorem ownUpd_long (f : Int → Int64) (j : Int) (x : Int64) (i : Int) : ownUpd (fun i => Value.long (f i)) j (Value.long x) i = Value.long (ownUpd f j x i) := by unfold ownUpd; split <;> rfl
variable {ty : FieldType} {n : Int32} {f : Int → Value} {ws : List Addr}
theorem OwnA.lt (F : OwnA Z h a ty n f) : a < h.size := by obtain ⟨_, A, -⟩ := F; exact A.lt
theorem OwnA.ext (F : OwnA Z h a ty n f) (E : Ext h h') : OwnA Z h' a ty n f := by obtain ⟨cl, A, r⟩ := F; exact ⟨cl, A.ext E, r⟩
theorem OwnA.keep (F : OwnA Z h a ty n f) (K : Keep h h' ws) (q : a ∉ ws) : OwnA Z h' a ty n f := by obtain ⟨cl, A, r⟩ := F; exact ⟨cl, ⟨K.2.1 a cl A.1 q, A.2⟩, r⟩
theorem OwnA.other {sl : Nat} {v : Value} (F : OwnA Z h b ty n f) (W : Wr h h' a sl v) (q : b ≠ a) : OwnA Z h' b ty n f := by obtain ⟨cl, A, r⟩ := F; exact ⟨cl, A.other W q, r⟩
theorem OwnA.len (F : OwnA Z h a ty n f) : 0 ≤ n.toInt := by obtain ⟨cl, _, r, _⟩ := F; omega
theorem OwnA.congr {f' : Int → Value} (F : OwnA Z h a ty n f) (q : ∀ i, 0 ≤ i → i < n.toInt → f i = f' i) : OwnA Z h a ty n f' := by obtain ⟨cl, A, r1, r2⟩ := F; exact ⟨cl, A, r1, fun i h1 h2 => by rw [← q i h1 h2]; exact r2 i h1 h2⟩
theorem own_clamp (j : Int32) : j.toNatClampNeg = j.toInt.toNat := rfl
theorem own_in {cl : Cell} {j : Int32} (r : (cl.slots.size : Int) = n.toInt) (h1 : 0 ≤ j.toInt) (h2 : j.toInt < n.toInt) : ¬ (j < 0 ∨ cl.slots.size ≤ j.toNatClampNeg) := by
  rw [own_clamp, Int32.lt_iff_toInt_lt, Int32.toInt_zero]; omega
theorem OwnA.new {k : ClassId} {z : Int32} (A : Arr Z h a (newA k ty z) ty) (q : 0 ≤ z.toInt) : OwnA Z h a ty z (fun _ => defaultValue ty) := by
  refine ⟨_, A, ?_, fun i h1 h2 => ?_⟩
  · rw [sz_new, own_clamp]; omega
  · have hi : i.toNat < z.toNatClampNeg := by rw [own_clamp]; omega
    show (Array.replicate z.toNatClampNeg (defaultValue ty))[i.toNat]? = _
    rw [Array.getElem?_replicate, if_pos hi]
theorem OwnA.set {j : Int32} {v : Value} (F : OwnA Z h a ty n f) (h1 : 0 ≤ j.toInt) (h2 : j.toInt < n.toInt) (W : Wr h h' a j.toNatClampNeg v) : OwnA Z h' a ty n (ownUpd f j.toInt v) := by
  obtain ⟨cl, A, r1, r2⟩ := F
  refine ⟨_, A.same W, by rw [sz_set]; exact r1, fun i g1 g2 => ?_⟩
  by_cases q : i = j.toInt
  · subst q
    rw [ownUpd_same]
    have hi : j.toNatClampNeg < cl.slots.size := by rw [own_clamp]; omega
    exact Array.getElem?_setIfInBounds_self_of_lt hi
  · rw [ownUpd_ne _ _ _ q, ← r2 i g1 g2, own_clamp]
    exact Array.getElem?_setIfInBounds_ne (by omega)
variable {g : JFrame} {target : State} {rest : List Value} {j : Int32}
theorem OwnA.alen (X : Stand p l e R s m args below meth c T locs cells slots) (hx : p.tables.exec = Jvm.exec) (hZ : Z.Warmed39 s.vm) (eT : T.heap = h) (F : OwnA Z h a ty n f) (hg : g.method = m) (hs : g.stack = .ref a :: rest) (hd : decode c.code g.pc = .ok (.arraylength, 1))
    (hr : Steps p.tables e below (T.setTop { g with pc := g.pc + 1, stack := .int n :: rest }) target) : Steps p.tables e below (T.setTop g) target := by
  obtain ⟨cl, A, r1, r2⟩ := F
  subst eT
  refine X.arraylength hx A.1 (State.isArrayOf_alike hZ.alike A.2.1) hg hs hd target ?_
  have q : cl.slots.size.toInt32 = n := by
    have q0 : cl.slots.size = n.toNatClampNeg := by rw [own_clamp]; omega
    exact len_of q0 (by rw [Int32.lt_iff_toInt_lt, Int32.toInt_zero]; omega)
  rw [q]; exact hr
theorem OwnA.ldI (X : Stand p l e R s m args below meth c T locs cells slots) (hx : p.tables.exec = Jvm.exec) (hZ : Z.Warmed39 s.vm) (eT : T.heap = h) (F : OwnA Z h a .int n f) (h1 : 0 ≤ j.toInt) (h2 : j.toInt < n.toInt) (hg : g.method = m) (hs : g.stack = .int j :: .ref a :: rest) (hd : decode c.code g.pc = .ok (.iaload, 1))
    (hr : Steps p.tables e below (T.setTop { g with pc := g.pc + 1, stack := f j.toInt :: rest }) target) : Steps p.tables e below (T.setTop g) target := by
  obtain ⟨cl, A, r1, r2⟩ := F
  subst eT
  exact X.iaload hx A.1 (State.isArrayOf_alike hZ.alike A.2.1) A.2.2 (own_in r1 h1 h2) (r2 _ h1 h2) hg hs hd target hr
theorem OwnA.ldJ (X : Stand p l e R s m args below meth c T locs cells slots) (hx : p.tables.exec = Jvm.exec) (hZ : Z.Warmed39 s.vm) (eT : T.heap = h) (F : OwnA Z h a .long n f) (h1 : 0 ≤ j.toInt) (h2 : j.toInt < n.toInt) (hg : g.method = m) (hs : g.stack = .int j :: .ref a :: rest) (hd : decode c.code g.pc = .ok (.laload, 1))
    (hr : Steps p.tables e below (T.setTop { g with pc := g.pc + 1, stack := f j.toInt :: rest }) target) : Steps p.tables e below (T.setTop g) target := by
  obtain ⟨cl, A, r1, r2⟩ := F
  subst eT
  exact X.laload hx A.1 (State.isArrayOf_alike hZ.alike A.2.1) A.2.2 (own_in r1 h1 h2) (r2 _ h1 h2) hg hs hd target hr
theorem OwnA.ldC (X : Stand p l e R s m args below meth c T locs cells slots) (hx : p.tables.exec = Jvm.exec) (hZ : Z.Warmed39 s.vm) (eT : T.heap = h) (F : OwnA Z h a .char n f) (h1 : 0 ≤ j.toInt) (h2 : j.toInt < n.toInt) (hg : g.method = m) (hs : g.stack = .int j :: .ref a :: rest) (hd : decode c.code g.pc = .ok (.caload, 1))
    (hr : Steps p.tables e below (T.setTop { g with pc := g.pc + 1, stack := f j.toInt :: rest }) target) : Steps p.tables e below (T.setTop g) target := by
  obtain ⟨cl, A, r1, r2⟩ := F
  subst eT
  exact X.caload hx A.1 (State.isArrayOf_alike hZ.alike A.2.1) A.2.2 (own_in r1 h1 h2) (r2 _ h1 h2) hg hs hd target hr
theorem OwnA.ldB (X : Stand p l e R s m args below meth c T locs cells slots) (hx : p.tables.exec = Jvm.exec) (hZ : Z.Warmed39 s.vm) (eT : T.heap = h) (F : OwnA Z h a .byte n f) (h1 : 0 ≤ j.toInt) (h2 : j.toInt < n.toInt) (hg : g.method = m) (hs : g.stack = .int j :: .ref a :: rest) (hd : decode c.code g.pc = .ok (.baload, 1))
    (hr : Steps p.tables e below (T.setTop { g with pc := g.pc + 1, stack := f j.toInt :: rest }) target) : Steps p.tables e below (T.setTop g) target := by
  obtain ⟨cl, A, r1, r2⟩ := F
  subst eT
  exact X.baloadBytes hx A.1 (State.isArrayOf_alike hZ.alike A.2.1) A.2.2 (own_in r1 h1 h2) (r2 _ h1 h2) hg hs hd target hr
theorem OwnA.ldZ (X : Stand p l e R s m args below meth c T locs cells slots) (hx : p.tables.exec = Jvm.exec) (hZ : Z.Warmed39 s.vm) (eT : T.heap = h) (F : OwnA Z h a .boolean n f) (h1 : 0 ≤ j.toInt) (h2 : j.toInt < n.toInt) (hg : g.method = m) (hs : g.stack = .int j :: .ref a :: rest) (hd : decode c.code g.pc = .ok (.baload, 1))
    (hr : Steps p.tables e below (T.setTop { g with pc := g.pc + 1, stack := f j.toInt :: rest }) target) : Steps p.tables e below (T.setTop g) target := by
  obtain ⟨cl, A, r1, r2⟩ := F
  subst eT
  exact X.baloadBooleans hx A.1 (State.isArrayOf_alike hZ.alike A.2.1) A.2.2 (own_in r1 h1 h2) (r2 _ h1 h2) hg hs hd target hr
theorem own_frs {k : Nat} {sl : Nat} (N : Fr k locs) (q : k ≤ a) : Fr k (locs ++ [⟨a, sl⟩]) := N.app fun y hy => by cases List.mem_singleton.mp hy; exact q
theorem OwnA.stI {n0 : Nat} {x : Int32} (X : Stand p l e R s m args below meth c T locs cells slots) (hx : p.tables.exec = Jvm.exec) (hZ : Z.Warmed39 s.vm) (eT : T.heap = h) (N : Fr n0 locs) (q : n0 ≤ a) (F : OwnA Z h a .int n f) (h1 : 0 ≤ j.toInt) (h2 : j.toInt < n.toInt) (hg : g.method = m) (hs : g.stack = .int x :: .int j :: .ref a :: rest) (hd : decode c.code g.pc = .ok (.iastore, 1)) :
    ∃ T' h' L', Stand p l e R s m args below meth c T' L' cells slots ∧ T'.heap = h' ∧ Fr n0 L' ∧ Keep h h' [a] ∧ OwnA Z h' a .int n (ownUpd f j.toInt (.int x)) ∧ ∀ target, Steps p.tables e below (T'.setTop { g with pc := g.pc + 1, stack := rest }) target → Steps p.tables e below (T.setTop g) target := by
  obtain ⟨cl, A, r1, r2⟩ := id F
  obtain ⟨T', h', X', e', W, st⟩ := RoadKit.stI X hx hZ eT A (own_in r1 h1 h2) hg hs hd
  exact ⟨T', h', _, X', e', own_frs N q, Keep.of_wr W, F.set h1 h2 W, st⟩
theorem OwnA.stJ {n0 : Nat} {x : Int64} (X : Stand p l e R s m args below meth c T locs cells slots) (hx : p.tables.exec = Jvm.exec) (hZ : Z.Warmed39 s.vm) (eT : T.heap = h) (N : Fr n0 locs) (q : n0 ≤ a) (F : OwnA Z h a .long n f) (h1 : 0 ≤ j.toInt) (h2 : j.toInt < n.toInt) (hg : g.method = m) (hs : g.stack = .long x :: .int j :: .ref a :: rest) (hd : decode c.code g.pc = .ok (.lastore, 1)) :
    ∃ T' h' L', Stand p l e R s m args below meth c T' L' cells slots ∧ T'.heap = h' ∧ Fr n0 L' ∧ Keep h h' [a] ∧ OwnA Z h' a .long n (ownUpd f j.toInt (.long x)) ∧ ∀ target, Steps p.tables e below (T'.setTop { g with pc := g.pc + 1, stack := rest }) target → Steps p.tables e below (T.setTop g) target := by
  obtain ⟨cl, A, r1, r2⟩ := id F
  obtain ⟨T', h', X', e', W, st⟩ := RoadKit.stJ X hx hZ eT A (own_in r1 h1 h2) hg hs hd
  exact ⟨T', h', _, X', e', own_frs N q, Keep.of_wr W, F.set h1 h2 W, st⟩
theorem OwnA.stC {n0 : Nat} {x : Int32} (X : Stand p l e R s m args below meth c T locs cells slots) (hx : p.tables.exec = Jvm.exec) (hZ : Z.Warmed39 s.vm) (eT : T.heap = h) (N : Fr n0 locs) (q : n0 ≤ a) (F : OwnA Z h a .char n f) (h1 : 0 ≤ j.toInt) (h2 : j.toInt < n.toInt) (hg : g.method = m) (hs : g.stack = .int x :: .int j :: .ref a :: rest) (hd : decode c.code g.pc = .ok (.castore, 1)) :
    ∃ T' h' L', Stand p l e R s m args below meth c T' L' cells slots ∧ T'.heap = h' ∧ Fr n0 L' ∧ Keep h h' [a] ∧ OwnA Z h' a .char n (ownUpd f j.toInt (.int (nar .char x))) ∧ ∀ target, Steps p.tables e below (T'.setTop { g with pc := g.pc + 1, stack := rest }) target → Steps p.tables e below (T.setTop g) target := by
  obtain ⟨cl, A, r1, r2⟩ := id F
  obtain ⟨T', h', X', e', W, st⟩ := RoadKit.stC X hx hZ eT A (own_in r1 h1 h2) hg hs hd
  exact ⟨T', h', _, X', e', own_frs N q, Keep.of_wr W, F.set h1 h2 W, st⟩
theorem OwnA.stB {n0 : Nat} {x : Int32} (X : Stand p l e R s m args below meth c T locs cells slots) (hx : p.tables.exec = Jvm.exec) (hZ : Z.Warmed39 s.vm) (eT : T.heap = h) (N : Fr n0 locs) (q : n0 ≤ a) (F : OwnA Z h a .byte n f) (h1 : 0 ≤ j.toInt) (h2 : j.toInt < n.toInt) (hg : g.method = m) (hs : g.stack = .int x :: .int j :: .ref a :: rest) (hd : decode c.code g.pc = .ok (.bastore, 1)) :
    ∃ T' h' L', Stand p l e R s m args below meth c T' L' cells slots ∧ T'.heap = h' ∧ Fr n0 L' ∧ Keep h h' [a] ∧ OwnA Z h' a .byte n (ownUpd f j.toInt (.int (nar .byte x))) ∧ ∀ target, Steps p.tables e below (T'.setTop { g with pc := g.pc + 1, stack := rest }) target → Steps p.tables e below (T.setTop g) target := by
  obtain ⟨cl, A, r1, r2⟩ := id F
  obtain ⟨T', h', X', e', W, st⟩ := RoadKit.stB X hx hZ eT A (own_in r1 h1 h2) hg hs hd
  exact ⟨T', h', _, X', e', own_frs N q, Keep.of_wr W, F.set h1 h2 W, st⟩
theorem OwnA.stZ {n0 : Nat} {x : Int32} (X : Stand p l e R s m args below meth c T locs cells slots) (hx : p.tables.exec = Jvm.exec) (hZ : Z.Warmed39 s.vm) (eT : T.heap = h) (N : Fr n0 locs) (q : n0 ≤ a) (F : OwnA Z h a .boolean n f) (h1 : 0 ≤ j.toInt) (h2 : j.toInt < n.toInt) (hg : g.method = m) (hs : g.stack = .int x :: .int j :: .ref a :: rest) (hd : decode c.code g.pc = .ok (.bastore, 1)) :
    ∃ T' h' L', Stand p l e R s m args below meth c T' L' cells slots ∧ T'.heap = h' ∧ Fr n0 L' ∧ Keep h h' [a] ∧ OwnA Z h' a .boolean n (ownUpd f j.toInt (.int (nar .boolean x))) ∧ ∀ target, Steps p.tables e below (T'.setTop { g with pc := g.pc + 1, stack := rest }) target → Steps p.tables e below (T.setTop g) target := by
  obtain ⟨cl, A, r1, r2⟩ := id F
  obtain ⟨T', h', X', e', W, st⟩ := RoadKit.stZ X hx hZ eT A (own_in r1 h1 h2) hg hs hd
  exact ⟨T', h', _, X', e', own_frs N q, Keep.of_wr W, F.set h1 h2 W, st⟩
end OwnKit
theorem own_ofi {n : Int} (h1 : -2147483648 ≤ n) (h2 : n < 2147483648) : (Int32.ofInt n).toInt = n := by
  rw [Int32.toInt_ofInt, show Int32.size = 4294967296 from rfl, Int.bmod_eq_of_le (by omega) (by omega)]
theorem own_ofj {n : Int} (h1 : -9223372036854775808 ≤ n) (h2 : n < 9223372036854775808) : (Int64.ofInt n).toInt = n := by
  rw [Int64.toInt_ofInt, show Int64.size = 18446744073709551616 from rfl, Int.bmod_eq_of_le (by omega) (by omega)]
/-- an int between 0 and n is one of finitely many -/
theorem own_fin {x : Int32} {n : Nat} (h1 : 0 ≤ x.toInt) (h2 : x.toInt < n) : ∃ k : Fin n, x = Int32.ofInt (k.1 : Int) := by
  have h3 := x.toInt_lt
  refine ⟨⟨x.toInt.toNat, by omega⟩, Int32.toInt_inj.mp ?_⟩
  show _ = (Int32.ofInt ((x.toInt.toNat : Nat) : Int)).toInt
  rw [own_ofi (by omega) (by omega)]; omega
def own_digit (x : Int64) (j : Int) : Int := (x.toInt / 10 ^ (15 - j).toNat) % 10
theorem own_bnd (d : Int32) {z : Int} (h : d.toInt = 48 + z % 10) (w : Int32) (q : w = d) : ¬ w < (48 : Int32) ∧ ¬ (57 : Int32) < w := by
  rw [q, Int32.lt_iff_toInt_lt, Int32.lt_iff_toInt_lt, show (48 : Int32).toInt = 48 from rfl, show (57 : Int32).toInt = 57 from rfl]; omega
theorem own_ush0 (x : Int64) (y : Int32) (h : 0 ≤ x.toInt) : 0 ≤ (XT.ushrL x y).toInt := by
  have h1 : x.toBitVec.toNat < 2 ^ 63 := by
    have := BitVec.toInt_eq_toNat_cond x.toBitVec
    have h2 : x.toInt = x.toBitVec.toInt := rfl
    have h3 := x.toBitVec.isLt
    split at this <;> omega
  have h4 : (XT.ushrL x y).toBitVec.toNat ≤ x.toBitVec.toNat := by
    show (x.toUInt64 >>> (y.toInt64.toUInt64 &&& Int64.toUInt64 63)).toNat ≤ x.toUInt64.toNat
    rw [UInt64.toNat_shiftRight, Nat.shiftRight_eq_div_pow]
    exact Nat.div_le_self _ _
  have h5 : (XT.ushrL x y).toInt = (XT.ushrL x y).toBitVec.toInt := rfl
  rw [h5, BitVec.toInt_eq_toNat_cond, if_pos (by omega)]; omega
theorem own_index (p1 : Int64) (p2 : Int32) (w : Int64) (q : w = XT.ushrL (p1 &&& (9223372036854775807 : Int64)) (p2 &&& (63 : Int32))) : 0 ≤ w.toInt := by
  rw [q]; apply own_ush0
  have := c_maskL p1 9223372036854775807 63 (by decide) (by decide)
  omega
theorem own_pdiv (x : Int) (n : Nat) : x / 10 ^ n / 10 = x / 10 ^ (n + 1) := by
  rw [Int.pow_succ, Int.ediv_ediv_of_nonneg (Int.pow_nonneg (by decide))]
theorem own_byte (r : Int64) (h : 0 ≤ r.toInt) : (nar .byte ((48 : Int64) + (r % (10 : Int64))).toInt32.toInt8.toInt32).toInt = 48 + r.toInt % 10 := by
  have a1 := (c_lrem r 10 10 rfl).1 h
  rw [lrem_mod] at a1
  have a2 := c_ladd 48 (r % 10)
  rw [show (48 : Int64).toInt = 48 from rfl] at a2
  have a3 := rng64 (48 + r % 10)
  have a4 := c_l2i (48 + r % 10)
  have a5 := rng32 (48 + r % 10).toInt32
  have a6 := c_i2b (48 + r % 10).toInt32
  have a7 := c_i2b (48 + r % 10).toInt32.toInt8.toInt32
  show ((48 + r % 10).toInt32.toInt8.toInt32.toInt8.toInt32).toInt = _
  omega
theorem own_turn (p1 : Int64) (hp : 0 ≤ p1.toInt) (k : Nat) (i : Int32) (rs : Int64) (f : Int → Int32) (i2 : Int32) (r2 : Int64) (hi : i.toInt + 1 = ((k + 1 : Nat) : Int)) (hk : ((k + 1 : Nat) : Int) ≤ 16) (hr : rs.toInt = p1.toInt / 10 ^ (16 - (k + 1)))
    (hf : ∀ j : Int, i.toInt < j → j < 16 → (f j).toInt = 48 + own_digit p1 j) (q2 : i2 = i + ((-1) : Int32)) (q1 : r2 = rs / (10 : Int64)) :
    i2.toInt + 1 = (k : Int) ∧ (k : Int) ≤ 16 ∧ r2.toInt = p1.toInt / 10 ^ (16 - k) ∧ ∀ j : Int, i2.toInt < j → j < 16 → (ownUpd f i.toInt (nar .byte ((48 : Int64) + (rs % (10 : Int64))).toInt32.toInt8.toInt32) j).toInt = 48 + own_digit p1 j := by
  have a1 := c_iadd i (-1)
  rw [← q2, show ((-1) : Int32).toInt = -1 from rfl] at a1
  have a2 := rng32 i2
  have h0 : 0 ≤ rs.toInt := by rw [hr]; exact Int.ediv_nonneg hp (Int.pow_nonneg (by decide))
  have hi2 : i2.toInt = i.toInt - 1 := by omega
  refine ⟨by omega, by omega, ?_, fun j h1 h2 => ?_⟩
  · have a3 := (c_ldiv rs 10 10 rfl (by decide)).1 h0
    rw [q1, a3, hr, own_pdiv, show 16 - (k + 1) + 1 = 16 - k from by omega]
  · by_cases q : j = i.toInt
    · subst q
      rw [ownUpd_same, own_byte rs h0, hr]
      unfold own_digit
      rw [show (15 - i.toInt).toNat = 16 - (k + 1) from by omega]
    · rw [ownUpd_ne _ _ _ q]
      exact hf j (by omega) h2

theorem d1_0 : decode prog_10_method_2_code 0 = .ok (.bipush 16, 2) := by decide +kernel
theorem d1_2 : decode prog_10_method_2_code 2 = .ok (.newarray .byte, 2) := by decide +kernel
theorem d1_4 : decode prog_10_method_2_code 4 = .ok (.astore_n 2, 1) := by decide +kernel
theorem d1_5 : decode prog_10_method_2_code 5 = .ok (.lload_n 0, 1) := by decide +kernel
theorem d1_6 : decode prog_10_method_2_code 6 = .ok (.lstore_n 3, 1) := by decide +kernel
theorem d1_7 : decode prog_10_method_2_code 7 = .ok (.bipush 15, 2) := by decide +kernel
theorem d1_9 : decode prog_10_method_2_code 9 = .ok (.istore 5, 2) := by decide +kernel
theorem d1_11 : decode prog_10_method_2_code 11 = .ok (.iload 5, 2) := by decide +kernel
theorem d1_13 : decode prog_10_method_2_code 13 = .ok (.ifCond .lt 30, 3) := by decide +kernel
theorem d1_16 : decode prog_10_method_2_code 16 = .ok (.aload_n 2, 1) := by decide +kernel
theorem d1_17 : decode prog_10_method_2_code 17 = .ok (.iload 5, 2) := by decide +kernel
theorem d1_19 : decode prog_10_method_2_code 19 = .ok (.ldc2_w 9, 3) := by decide +kernel
theorem d1_22 : decode prog_10_method_2_code 22 = .ok (.lload_n 3, 1) := by decide +kernel
theorem d1_23 : decode prog_10_method_2_code 23 = .ok (.ldc2_w 11, 3) := by decide +kernel
theorem d1_26 : decode prog_10_method_2_code 26 = .ok (.lrem, 1) := by decide +kernel
theorem d1_27 : decode prog_10_method_2_code 27 = .ok (.ladd, 1) := by decide +kernel
theorem d1_28 : decode prog_10_method_2_code 28 = .ok (.l2i, 1) := by decide +kernel
theorem d1_29 : decode prog_10_method_2_code 29 = .ok (.i2b, 1) := by decide +kernel
theorem d1_30 : decode prog_10_method_2_code 30 = .ok (.bastore, 1) := by decide +kernel
theorem d1_31 : decode prog_10_method_2_code 31 = .ok (.lload_n 3, 1) := by decide +kernel
theorem d1_32 : decode prog_10_method_2_code 32 = .ok (.ldc2_w 11, 3) := by decide +kernel
theorem d1_35 : decode prog_10_method_2_code 35 = .ok (.ldiv, 1) := by decide +kernel
theorem d1_36 : decode prog_10_method_2_code 36 = .ok (.lstore_n 3, 1) := by decide +kernel
theorem d1_37 : decode prog_10_method_2_code 37 = .ok (.iinc 5 (-1), 3) := by decide +kernel
theorem d1_40 : decode prog_10_method_2_code 40 = .ok (.goto (-29), 3) := by decide +kernel
theorem d1_43 : decode prog_10_method_2_code 43 = .ok (.aload_n 2, 1) := by decide +kernel
theorem d1_44 : decode prog_10_method_2_code 44 = .ok (.areturn, 1) := by decide +kernel
theorem pn_1 : plainFor (⟨"leafrun/bench/BenchData", "key", "(J)[B"⟩ : MethodName) = true := plainFor_of_name (by first | (simp [plainName, overriddenIn]; done) | decide +kernel)
theorem pd_1 : parseMethodDescriptor "(J)[B" = some ⟨[.long], some (.array .byte)⟩ := by decide +kernel
theorem ef_1 (m : MethodId) (x0 : Int64) : entryFrame m #[(.long x0)] 6 = mkF m 0 #[.val (.long x0), .second, .unset, .unset, .unset, .unset] [] := by first | (simp [entryFrame, mkF, argsToLocals, Value.category, maxLocals]; done) | rfl
def Q1 (Z : State) (p1 : Int64)  (h0 : Heap) (n0 : Nat) (v : Option Value) (h : Heap) (L : List Loc) : Prop := ∃ (b : Addr) (f : Int → Int32), v = some (.ref b) ∧ Fr n0 L ∧ n0 ≤ b ∧ Keep h0 h [] ∧ OwnA Z h b .byte (16 : Int32) (fun i => .int (f i)) ∧ ∀ j : Int, 0 ≤ j → j < 16 → (f j).toInt = 48 + own_digit p1 j
set_option maxRecDepth 65536 in
set_option maxHeartbeats 40000000 in
theorem rm1 (l : Launch) (Z : State) (a0 : Array Value) (hw : ∀ d ∈ tables_1, d.before a0 Z = true) (ws : List Jvm.Cond) (p1 : Int64)  (h0 : Heap) (n0 : Nat) (Z0 : n0 ≤ h0.size) (hp : 0 ≤ p1.toInt) :
    MetFree l (⟨"leafrun/bench/BenchData", "key", "(J)[B"⟩ : MethodName) (head1 (Jvm.Cond.code (⟨"leafrun/bench/BenchData", "key", "(J)[B"⟩ : MethodName) prog_10_method_2_code 6 (some (.array .byte)) :: ws) ({ frames := 0, cells := 1, slots := 16, locals := 0 } : Room)) (fun a U => a = #[(.long p1)] ∧ Z.Warmed39 U.vm ∧ U.heap = h0) (fun _ _ _ _ _ => True) (fun _ U oc U' => ∃ v L, oc = .returned v ∧ Q1 Z p1  h0 n0 v U'.heap L ∧ FrameEnd U oc U' L ({ frames := 0, cells := 1, slots := 16, locals := 0 } : Room).cells ({ frames := 0, cells := 1, slots := 16, locals := 0 } : Room).slots) := by
  refine MetFree.of_bodySF pn_1 hisR ?_
  intro p e s m args below meth c s₁ Bd hml0 hP hK
  obtain ⟨rfl, hZ, hh⟩ := hP
  have hx := Bd.exec
  have hby := Bd.bytes
  have hlk := BodyLoose.notSynchronized Bd
  have hml : c.maxLocals = 6 := hml0
  have hown : s.vm.findClass "leafrun/bench/BenchData" = some m.cls := findClass_of_methodNamed Bd.named
  have hnm := (name_of_methodNamed Bd.named Bd.method).1
  have X0 : Stand p l e ({ frames := 0, cells := 1, slots := 16, locals := 0 } : Room) s m #[(.long p1)] below meth c s₁ [] 0 0 := Stand.of_body Bd
  have e0 : s₁.heap = h0 := by rw [← hh, Bd.state]; rfl
  have N0 := Fr.nil n0
  show OwnWp p e below s ({ frames := 0, cells := 1, slots := 16, locals := 0 } : Room).cells ({ frames := 0, cells := 1, slots := 16, locals := 0 } : Room).slots (Q1 Z p1  h0 n0) (s₁.setTop (entryFrame m #[(.long p1)] 6))
  refine OwnWp.cast (ef_1 m p1) ?_
  show OwnWp p e below s _ _ _ (s₁.setTop (mkF m 0 #[.val (.long p1), .second, .unset, .unset, .unset, .unset] []))
  have K0 := Keep.refl h0 []
  refine OwnWp.step (U' := s₁.setTop (mkF m 2 #[.val (.long p1), .second, .unset, .unset, .unset, .unset] [(.int (16 : Int32))])) (fun t k => ?_) ?_
  · show Steps p.tables e below (s₁.setTop (mkF m 0 #[.val (.long p1), .second, .unset, .unset, .unset, .unset] [])) _
    refine XT.bipushV X0.here hx rfl (16 : Int32) (hb hby d1_0) rfl ?_
    show Steps p.tables e below (s₁.setTop (mkF m 2 #[.val (.long p1), .second, .unset, .unset, .unset, .unset] [(.int (16 : Int32))])) _
    exact k
  obtain ⟨T1, h1, cA1, X1, e1, E1, Ar1, st1⟩ := newP X0 hx hZ (aty := .byte) (hw _ (List.mem_of_getElem? (i := 5) rfl)) e0 (g := (mkF m 2 #[.val (.long p1), .second, .unset, .unset, .unset, .unset] [(.int (16 : Int32))])) rfl (hb hby d1_2) rfl (by decide) (cap := 16) (by decide) (by decide) (by decide) (by decide)
  obtain ⟨ad1, ga1⟩ : ∃ z, z = h0.size := ⟨_, rfl⟩
  rw [← ga1] at Ar1 st1
  refine OwnWp.step st1 ?_
  have Z1 : n0 ≤ h1.size := Nat.le_trans Z0 E1.1
  have b1 : n0 ≤ ad1 := Nat.le_trans Z0 (Nat.le_of_eq ga1.symm)
  have bk1 : h0.size ≤ ad1 := by rw [ga1]; exact K0.1
  have K2 := Keep.ext K0 E1
  have F3 : OwnA Z h1 ad1 .byte (16 : Int32) (fun _ => (.int (0 : Int32))) := OwnA.new Ar1 (by decide)
  show OwnWp p e below s _ _ _ (T1.setTop (mkF m 4 #[.val (.long p1), .second, .unset, .unset, .unset, .unset] [(.ref ad1)]))
  refine OwnWp.step (U' := T1.setTop (mkF m 11 #[.val (.long p1), .second, .val (.ref ad1), .val (.long p1), .second, .val (.int (15 : Int32))] [])) (fun t k => ?_) ?_
  · show Steps p.tables e below (T1.setTop (mkF m 4 #[.val (.long p1), .second, .unset, .unset, .unset, .unset] [(.ref ad1)])) _
    refine XS.astoreN X1.here hx rfl (hb hby d1_4) rfl rfl (l' := #[.val (.long p1), .second, .val (.ref ad1), .unset, .unset, .unset]) rfl ?_
    show Steps p.tables e below (T1.setTop (mkF m 5 #[.val (.long p1), .second, .val (.ref ad1), .unset, .unset, .unset] [])) _
    refine XT.lloadN X1.here hx rfl (hb hby d1_5) rfl ?_
    show Steps p.tables e below (T1.setTop (mkF m 6 #[.val (.long p1), .second, .val (.ref ad1), .unset, .unset, .unset] [(.long p1)])) _
    refine XT.lstoreN X1.here hx rfl (hb hby d1_6) rfl (l' := #[.val (.long p1), .second, .val (.ref ad1), .val (.long p1), .second, .unset]) rfl ?_
    show Steps p.tables e below (T1.setTop (mkF m 7 #[.val (.long p1), .second, .val (.ref ad1), .val (.long p1), .second, .unset] [])) _
    refine XT.bipushV X1.here hx rfl (15 : Int32) (hb hby d1_7) rfl ?_
    show Steps p.tables e below (T1.setTop (mkF m 9 #[.val (.long p1), .second, .val (.ref ad1), .val (.long p1), .second, .unset] [(.int (15 : Int32))])) _
    refine XS.istore X1.here hx rfl (hb hby d1_9) rfl (l' := #[.val (.long p1), .second, .val (.ref ad1), .val (.long p1), .second, .val (.int (15 : Int32))]) rfl ?_
    show Steps p.tables e below (T1.setTop (mkF m 11 #[.val (.long p1), .second, .val (.ref ad1), .val (.long p1), .second, .val (.int (15 : Int32))] [])) _
    exact k
  have hloop : ∀ (k : Nat) (T4 : State) (h4 : Heap) (L4 : List Loc) (i : Int32) (rs : Int64) (f : Int → Int32) (X4 : Stand p l e ({ frames := 0, cells := 1, slots := 16, locals := 0 } : Room) s m #[(.long p1)] below meth c T4 L4 (0 + 1) (0 + 16)) (e4 : T4.heap = h4) (N4 : Fr n0 L4) (Z4 : n0 ≤ h4.size) (f5 : OwnA Z h4 ad1 .byte (16 : Int32) (fun zi => .int (f zi))) (K6 : Keep h0 h4 []) (hi : i.toInt + 1 = (k : Int)) (hk : (k : Int) ≤ 16) (hr : rs.toInt = p1.toInt / 10 ^ (16 - k)) (hf : ∀ j : Int, i.toInt < j → j < 16 → (f j).toInt = 48 + own_digit p1 j), OwnWp p e below s ({ frames := 0, cells := 1, slots := 16, locals := 0 } : Room).cells ({ frames := 0, cells := 1, slots := 16, locals := 0 } : Room).slots (Q1 Z p1  h0 n0) (T4.setTop (mkF m 11 #[.val (.long p1), .second, .val (.ref ad1), .val (.long rs), .second, .val (.int i)] [])) := by
    intro k
    induction k with
    | zero =>
      intro T4 h4 L4 i rs f X4 e4 N4 Z4 f5 K6 hi hk hr hf
      refine OwnWp.step (U' := T4.setTop (mkF m 13 #[.val (.long p1), .second, .val (.ref ad1), .val (.long rs), .second, .val (.int i)] [(.int i)])) (fun t k => ?_) ?_
      · show Steps p.tables e below (T4.setTop (mkF m 11 #[.val (.long p1), .second, .val (.ref ad1), .val (.long rs), .second, .val (.int i)] [])) _
        refine XS.iload X4.here hx rfl (hb hby d1_11) rfl ?_
        show Steps p.tables e below (T4.setTop (mkF m 13 #[.val (.long p1), .second, .val (.ref ad1), .val (.long rs), .second, .val (.int i)] [(.int i)])) _
        exact k
      by_cases c13_7 : i < (0 : Int32)
      · refine OwnWp.step (U' := T4.setTop (mkF m 43 #[.val (.long p1), .second, .val (.ref ad1), .val (.long rs), .second, .val (.int i)] [])) (fun t k => ?_) ?_
        · show Steps p.tables e below (T4.setTop (mkF m 13 #[.val (.long p1), .second, .val (.ref ad1), .val (.long rs), .second, .val (.int i)] [(.int i)])) _
          refine XS.ifYes X4.here hx rfl (pc0 := 13) (pc' := 43) rfl (hb hby d1_13) rfl (XT.i0_lt_t c13_7) (by decide) (by decide) ?_
          exact k
        have hsg : i.toInt < (0 : Int32).toInt := by rw [Int32.lt_iff_toInt_lt] at c13_7; exact c13_7
        rw [show (0 : Int32).toInt = 0 from rfl] at hsg
        refine OwnWp.step (U' := T4.setTop (mkF m 44 #[.val (.long p1), .second, .val (.ref ad1), .val (.long rs), .second, .val (.int i)] [(.ref ad1)])) (fun t k => ?_) ?_
        · show Steps p.tables e below (T4.setTop (mkF m 43 #[.val (.long p1), .second, .val (.ref ad1), .val (.long rs), .second, .val (.int i)] [])) _
          refine XS.aloadN X4.here hx rfl (hb hby d1_43) rfl rfl ?_
          show Steps p.tables e below (T4.setTop (mkF m 44 #[.val (.long p1), .second, .val (.ref ad1), .val (.long rs), .second, .val (.int i)] [(.ref ad1)])) _
          exact k
        refine OwnWp.retA X4 hx hlk Bd.returns rfl rfl (hb hby d1_44) (by decide) (by decide) ?_
        rw [e4]
        exact ⟨ad1, f, rfl, N4, b1, K6, f5, fun j h1 h2 => hf j (by omega) h2⟩
      · refine OwnWp.step (U' := T4.setTop (mkF m 16 #[.val (.long p1), .second, .val (.ref ad1), .val (.long rs), .second, .val (.int i)] [])) (fun t k => ?_) ?_
        · show Steps p.tables e below (T4.setTop (mkF m 13 #[.val (.long p1), .second, .val (.ref ad1), .val (.long rs), .second, .val (.int i)] [(.int i)])) _
          refine XS.ifNo X4.here hx rfl (hb hby d1_13) rfl (XT.i0_lt_f c13_7) ?_
          exact k
        have hsg : ¬ i.toInt < (0 : Int32).toInt := by rw [Int32.lt_iff_toInt_lt] at c13_7; exact c13_7
        rw [show (0 : Int32).toInt = 0 from rfl] at hsg
        exact absurd hi (by omega)
    | succ k ih =>
      intro T4 h4 L4 i rs f X4 e4 N4 Z4 f5 K6 hi hk hr hf
      refine OwnWp.step (U' := T4.setTop (mkF m 13 #[.val (.long p1), .second, .val (.ref ad1), .val (.long rs), .second, .val (.int i)] [(.int i)])) (fun t k => ?_) ?_
      · show Steps p.tables e below (T4.setTop (mkF m 11 #[.val (.long p1), .second, .val (.ref ad1), .val (.long rs), .second, .val (.int i)] [])) _
        refine XS.iload X4.here hx rfl (hb hby d1_11) rfl ?_
        show Steps p.tables e below (T4.setTop (mkF m 13 #[.val (.long p1), .second, .val (.ref ad1), .val (.long rs), .second, .val (.int i)] [(.int i)])) _
        exact k
      by_cases c13_8 : i < (0 : Int32)
      · refine OwnWp.step (U' := T4.setTop (mkF m 43 #[.val (.long p1), .second, .val (.ref ad1), .val (.long rs), .second, .val (.int i)] [])) (fun t k => ?_) ?_
        · show Steps p.tables e below (T4.setTop (mkF m 13 #[.val (.long p1), .second, .val (.ref ad1), .val (.long rs), .second, .val (.int i)] [(.int i)])) _
          refine XS.ifYes X4.here hx rfl (pc0 := 13) (pc' := 43) rfl (hb hby d1_13) rfl (XT.i0_lt_t c13_8) (by decide) (by decide) ?_
          exact k
        have hsg : i.toInt < (0 : Int32).toInt := by rw [Int32.lt_iff_toInt_lt] at c13_8; exact c13_8
        rw [show (0 : Int32).toInt = 0 from rfl] at hsg
        exact absurd hi (by omega)
      · refine OwnWp.step (U' := T4.setTop (mkF m 16 #[.val (.long p1), .second, .val (.ref ad1), .val (.long rs), .second, .val (.int i)] [])) (fun t k => ?_) ?_
        · show Steps p.tables e below (T4.setTop (mkF m 13 #[.val (.long p1), .second, .val (.ref ad1), .val (.long rs), .second, .val (.int i)] [(.int i)])) _
          refine XS.ifNo X4.here hx rfl (hb hby d1_13) rfl (XT.i0_lt_f c13_8) ?_
          exact k
        have hsg : ¬ i.toInt < (0 : Int32).toInt := by rw [Int32.lt_iff_toInt_lt] at c13_8; exact c13_8
        rw [show (0 : Int32).toInt = 0 from rfl] at hsg
        refine OwnWp.step (U' := T4.setTop (mkF m 30 #[.val (.long p1), .second, .val (.ref ad1), .val (.long rs), .second, .val (.int i)] [(.int ((48 : Int64) + (rs % (10 : Int64))).toInt32.toInt8.toInt32), (.int i), (.ref ad1)])) (fun t k => ?_) ?_
        · show Steps p.tables e below (T4.setTop (mkF m 16 #[.val (.long p1), .second, .val (.ref ad1), .val (.long rs), .second, .val (.int i)] [])) _
          refine XS.aloadN X4.here hx rfl (hb hby d1_16) rfl rfl ?_
          show Steps p.tables e below (T4.setTop (mkF m 17 #[.val (.long p1), .second, .val (.ref ad1), .val (.long rs), .second, .val (.int i)] [(.ref ad1)])) _
          refine XS.iload X4.here hx rfl (hb hby d1_17) rfl ?_
          show Steps p.tables e below (T4.setTop (mkF m 19 #[.val (.long p1), .second, .val (.ref ad1), .val (.long rs), .second, .val (.int i)] [(.int i), (.ref ad1)])) _
          refine X4.ldc2J hx hown (mvT hZ (hw _ (List.mem_of_getElem? (i := 6) rfl))) rfl (hb hby d1_19) ?_
          show Steps p.tables e below (T4.setTop (mkF m 22 #[.val (.long p1), .second, .val (.ref ad1), .val (.long rs), .second, .val (.int i)] [(.long (48 : Int64)), (.int i), (.ref ad1)])) _
          refine XT.lloadN X4.here hx rfl (hb hby d1_22) rfl ?_
          show Steps p.tables e below (T4.setTop (mkF m 23 #[.val (.long p1), .second, .val (.ref ad1), .val (.long rs), .second, .val (.int i)] [(.long rs), (.long (48 : Int64)), (.int i), (.ref ad1)])) _
          refine X4.ldc2J hx hown (mvT hZ (hw _ (List.mem_of_getElem? (i := 7) rfl))) rfl (hb hby d1_23) ?_
          show Steps p.tables e below (T4.setTop (mkF m 26 #[.val (.long p1), .second, .val (.ref ad1), .val (.long rs), .second, .val (.int i)] [(.long (10 : Int64)), (.long rs), (.long (48 : Int64)), (.int i), (.ref ad1)])) _
          refine own_lrem X4 hx rfl (hb hby d1_26) rfl (by decide) ?_
          show Steps p.tables e below (T4.setTop (mkF m 27 #[.val (.long p1), .second, .val (.ref ad1), .val (.long rs), .second, .val (.int i)] [(.long (rs % (10 : Int64))), (.long (48 : Int64)), (.int i), (.ref ad1)])) _
          refine XT.ladd X4.here hx rfl (hb hby d1_27) rfl ?_
          show Steps p.tables e below (T4.setTop (mkF m 28 #[.val (.long p1), .second, .val (.ref ad1), .val (.long rs), .second, .val (.int i)] [(.long ((48 : Int64) + (rs % (10 : Int64)))), (.int i), (.ref ad1)])) _
          refine XT.l2i X4.here hx rfl (hb hby d1_28) rfl ?_
          show Steps p.tables e below (T4.setTop (mkF m 29 #[.val (.long p1), .second, .val (.ref ad1), .val (.long rs), .second, .val (.int i)] [(.int ((48 : Int64) + (rs % (10 : Int64))).toInt32), (.int i), (.ref ad1)])) _
          refine XT.i2b X4.here hx rfl (hb hby d1_29) rfl ?_
          show Steps p.tables e below (T4.setTop (mkF m 30 #[.val (.long p1), .second, .val (.ref ad1), .val (.long rs), .second, .val (.int i)] [(.int ((48 : Int64) + (rs % (10 : Int64))).toInt32.toInt8.toInt32), (.int i), (.ref ad1)])) _
          exact k
        obtain ⟨T9, h9, L9, X9, e9, N9, K9, F9, st9⟩ := OwnA.stB X4 hx hZ e4 N4 b1 f5 (by omega) (by rw [show (16 : Int32).toInt = 16 from rfl]; omega) (g := (mkF m 30 #[.val (.long p1), .second, .val (.ref ad1), .val (.long rs), .second, .val (.int i)] [(.int ((48 : Int64) + (rs % (10 : Int64))).toInt32.toInt8.toInt32), (.int i), (.ref ad1)])) rfl rfl (hb hby d1_30)
        refine OwnWp.step st9 ?_
        have Z9 : n0 ≤ h9.size := Nat.le_trans Z4 K9.1
        have F10 : OwnA Z h9 ad1 .byte (16 : Int32) (fun zi => .int ((ownUpd f i.toInt (nar .byte ((48 : Int64) + (rs % (10 : Int64))).toInt32.toInt8.toInt32)) zi)) := F9.congr (fun zi _ _ => by exact ownUpd_int f _ _ zi)
        have K11 := Keep.trans K6 K9 (allS (Or.inr bk1) all0)
        show OwnWp p e below s _ _ _ (T9.setTop (mkF m 31 #[.val (.long p1), .second, .val (.ref ad1), .val (.long rs), .second, .val (.int i)] []))
        obtain ⟨w1, qw1⟩ : ∃ z : Int64, z = (rs / (10 : Int64)) := ⟨_, rfl⟩
        refine OwnWp.step (U' := T9.setTop (mkF m 37 #[.val (.long p1), .second, .val (.ref ad1), .val (.long w1), .second, .val (.int i)] [])) (fun t k => ?_) ?_
        · show Steps p.tables e below (T9.setTop (mkF m 31 #[.val (.long p1), .second, .val (.ref ad1), .val (.long rs), .second, .val (.int i)] [])) _
          refine XT.lloadN X9.here hx rfl (hb hby d1_31) rfl ?_
          show Steps p.tables e below (T9.setTop (mkF m 32 #[.val (.long p1), .second, .val (.ref ad1), .val (.long rs), .second, .val (.int i)] [(.long rs)])) _
          refine X9.ldc2J hx hown (mvT hZ (hw _ (List.mem_of_getElem? (i := 7) rfl))) rfl (hb hby d1_32) ?_
          show Steps p.tables e below (T9.setTop (mkF m 35 #[.val (.long p1), .second, .val (.ref ad1), .val (.long rs), .second, .val (.int i)] [(.long (10 : Int64)), (.long rs)])) _
          refine XT.ldiv X9.here hx rfl (hb hby d1_35) rfl (by decide) ?_
          show Steps p.tables e below (T9.setTop (mkF m 36 #[.val (.long p1), .second, .val (.ref ad1), .val (.long rs), .second, .val (.int i)] [(.long (rs / (10 : Int64)))])) _
          refine XT.lstoreN X9.here hx rfl (hb hby d1_36) rfl (l' := #[.val (.long p1), .second, .val (.ref ad1), .val (.long (rs / (10 : Int64))), .second, .val (.int i)]) rfl ?_
          show Steps p.tables e below (T9.setTop (mkF m 37 #[.val (.long p1), .second, .val (.ref ad1), .val (.long (rs / (10 : Int64))), .second, .val (.int i)] [])) _
          rw [qw1] at k
          exact k
        obtain ⟨w2, qw2⟩ : ∃ z : Int32, z = (i + ((-1) : Int32)) := ⟨_, rfl⟩
        refine OwnWp.step (U' := T9.setTop (mkF m 40 #[.val (.long p1), .second, .val (.ref ad1), .val (.long w1), .second, .val (.int w2)] [])) (fun t k => ?_) ?_
        · show Steps p.tables e below (T9.setTop (mkF m 37 #[.val (.long p1), .second, .val (.ref ad1), .val (.long w1), .second, .val (.int i)] [])) _
          refine XT.iincV X9.here hx rfl ((-1) : Int32) (hb hby d1_37) rfl rfl (l' := #[.val (.long p1), .second, .val (.ref ad1), .val (.long w1), .second, .val (.int (i + ((-1) : Int32)))]) rfl ?_
          show Steps p.tables e below (T9.setTop (mkF m 40 #[.val (.long p1), .second, .val (.ref ad1), .val (.long w1), .second, .val (.int (i + ((-1) : Int32)))] [])) _
          rw [qw2] at k
          exact k
        refine OwnWp.step (U' := T9.setTop (mkF m 11 #[.val (.long p1), .second, .val (.ref ad1), .val (.long w1), .second, .val (.int w2)] [])) (fun t k => ?_) ?_
        · show Steps p.tables e below (T9.setTop (mkF m 40 #[.val (.long p1), .second, .val (.ref ad1), .val (.long w1), .second, .val (.int w2)] [])) _
          refine XS.goto X9.here hx rfl (pc0 := 40) (pc' := 11) rfl (hb hby d1_40) (by decide) (by decide) ?_
          show Steps p.tables e below (T9.setTop (mkF m 11 #[.val (.long p1), .second, .val (.ref ad1), .val (.long w1), .second, .val (.int w2)] [])) _
          exact k
        obtain ⟨t1, t2, t3, t4⟩ := own_turn p1 hp k i rs f w2 w1 hi hk hr hf qw2 qw1
        exact ih  T9 h9 _ w2 w1 (ownUpd f i.toInt (nar .byte ((48 : Int64) + (rs % (10 : Int64))).toInt32.toInt8.toInt32)) X9 e9 N9 Z9 F10 K11 t1 t2 t3 t4
  exact hloop 16 T1 h1 _ (15 : Int32) p1 (fun _ => (0 : Int32)) X1 e1 N0 Z1 F3 K2 (by decide) (by decide) (by rw [show 16 - 16 = 0 from rfl, Int.pow_zero, Int.ediv_one]) (fun j h1 h2 => absurd h1 (by rw [show (15 : Int32).toInt = 15 from rfl]; omega))
theorem d2_0 : decode method_2_code 0 = .ok (.iload_n 0, 1) := by decide +kernel
theorem d2_1 : decode method_2_code 1 = .ok (.bipush 48, 2) := by decide +kernel
theorem d2_3 : decode method_2_code 3 = .ok (.if_icmp .lt 13, 3) := by decide +kernel
theorem d2_6 : decode method_2_code 6 = .ok (.iload_n 0, 1) := by decide +kernel
theorem d2_7 : decode method_2_code 7 = .ok (.bipush 57, 2) := by decide +kernel
theorem d2_9 : decode method_2_code 9 = .ok (.if_icmp .gt 7, 3) := by decide +kernel
theorem d2_12 : decode method_2_code 12 = .ok (.iconst 1, 1) := by decide +kernel
theorem d2_13 : decode method_2_code 13 = .ok (.goto 4, 3) := by decide +kernel
theorem d2_17 : decode method_2_code 17 = .ok (.ireturn, 1) := by decide +kernel
theorem pn_2 : plainFor (⟨"leafrun/bench/BenchDataKeyPinLaw", "isDigit", "(B)Z"⟩ : MethodName) = true := plainFor_of_name (by first | (simp [plainName, overriddenIn]; done) | decide +kernel)
theorem pd_2 : parseMethodDescriptor "(B)Z" = some ⟨[.byte], some .boolean⟩ := by decide +kernel
theorem ef_2 (m : MethodId) (x0 : Int32) : entryFrame m #[(.int x0)] 1 = mkF m 0 #[.val (.int x0)] [] := by first | (simp [entryFrame, mkF, argsToLocals, Value.category, maxLocals]; done) | rfl
def own_isd (p1 : Int32) : Int32 := (1 : Int32)
def Q2 (Z : State) (p1 : Int32)  (h0 : Heap) (n0 : Nat) (v : Option Value) (h : Heap) (L : List Loc) : Prop := v = some (.int (own_isd p1)) ∧ Fr n0 L ∧ h = h0
set_option maxRecDepth 65536 in
set_option maxHeartbeats 40000000 in
theorem rm2 (l : Launch) (Z : State) (a0 : Array Value) (hw : ∀ d ∈ tables_1, d.before a0 Z = true) (ws : List Jvm.Cond) (p1 : Int32)  (h0 : Heap) (n0 : Nat) (Z0 : n0 ≤ h0.size) (hA : ¬ p1 < (48 : Int32)) (hB : ¬ (57 : Int32) < p1) :
    MetFree l (⟨"leafrun/bench/BenchDataKeyPinLaw", "isDigit", "(B)Z"⟩ : MethodName) (head1 (Jvm.Cond.code (⟨"leafrun/bench/BenchDataKeyPinLaw", "isDigit", "(B)Z"⟩ : MethodName) method_2_code 1 (some .boolean) :: ws) ({ frames := 0, cells := 0, slots := 0, locals := 0 } : Room)) (fun a U => a = #[(.int p1)] ∧ Z.Warmed39 U.vm ∧ U.heap = h0) (fun _ _ _ _ _ => True) (fun _ U oc U' => ∃ v L, oc = .returned v ∧ Q2 Z p1  h0 n0 v U'.heap L ∧ FrameEnd U oc U' L ({ frames := 0, cells := 0, slots := 0, locals := 0 } : Room).cells ({ frames := 0, cells := 0, slots := 0, locals := 0 } : Room).slots) := by
  refine MetFree.of_bodySF pn_2 hisR ?_
  intro p e s m args below meth c s₁ Bd hml0 hP hK
  obtain ⟨rfl, hZ, hh⟩ := hP
  have hx := Bd.exec
  have hby := Bd.bytes
  have hlk := BodyLoose.notSynchronized Bd
  have hml : c.maxLocals = 1 := hml0
  have hown : s.vm.findClass "leafrun/bench/BenchDataKeyPinLaw" = some m.cls := findClass_of_methodNamed Bd.named
  have hnm := (name_of_methodNamed Bd.named Bd.method).1
  have X0 : Stand p l e ({ frames := 0, cells := 0, slots := 0, locals := 0 } : Room) s m #[(.int p1)] below meth c s₁ [] 0 0 := Stand.of_body Bd
  have e0 : s₁.heap = h0 := by rw [← hh, Bd.state]; rfl
  have N0 := Fr.nil n0
  show OwnWp p e below s ({ frames := 0, cells := 0, slots := 0, locals := 0 } : Room).cells ({ frames := 0, cells := 0, slots := 0, locals := 0 } : Room).slots (Q2 Z p1  h0 n0) (s₁.setTop (entryFrame m #[(.int p1)] 1))
  refine OwnWp.cast (ef_2 m p1) ?_
  show OwnWp p e below s _ _ _ (s₁.setTop (mkF m 0 #[.val (.int p1)] []))
  refine OwnWp.step (U' := s₁.setTop (mkF m 17 #[.val (.int p1)] [(.int (1 : Int32))])) (fun t k => ?_) ?_
  · show Steps p.tables e below (s₁.setTop (mkF m 0 #[.val (.int p1)] [])) _
    refine XS.iloadN X0.here hx rfl (hb hby d2_0) rfl ?_
    show Steps p.tables e below (s₁.setTop (mkF m 1 #[.val (.int p1)] [(.int p1)])) _
    refine XT.bipushV X0.here hx rfl (48 : Int32) (hb hby d2_1) rfl ?_
    show Steps p.tables e below (s₁.setTop (mkF m 3 #[.val (.int p1)] [(.int (48 : Int32)), (.int p1)])) _
    refine XS.icmpNo X0.here hx rfl (hb hby d2_3) rfl (XT.ii_lt_f hA) ?_
    show Steps p.tables e below (s₁.setTop (mkF m 6 #[.val (.int p1)] [])) _
    refine XS.iloadN X0.here hx rfl (hb hby d2_6) rfl ?_
    show Steps p.tables e below (s₁.setTop (mkF m 7 #[.val (.int p1)] [(.int p1)])) _
    refine XT.bipushV X0.here hx rfl (57 : Int32) (hb hby d2_7) rfl ?_
    show Steps p.tables e below (s₁.setTop (mkF m 9 #[.val (.int p1)] [(.int (57 : Int32)), (.int p1)])) _
    refine XS.icmpNo X0.here hx rfl (hb hby d2_9) rfl (XT.ii_gt_f hB) ?_
    show Steps p.tables e below (s₁.setTop (mkF m 12 #[.val (.int p1)] [])) _
    refine XT.iconstV X0.here hx rfl (1 : Int32) (hb hby d2_12) rfl ?_
    show Steps p.tables e below (s₁.setTop (mkF m 13 #[.val (.int p1)] [(.int (1 : Int32))])) _
    refine XS.goto X0.here hx rfl (pc0 := 13) (pc' := 17) rfl (hb hby d2_13) (by decide) (by decide) ?_
    show Steps p.tables e below (s₁.setTop (mkF m 17 #[.val (.int p1)] [(.int (1 : Int32))])) _
    exact k
  refine OwnWp.retZ X0 hx hlk Bd.returns (hb hby d2_17) (by decide) (by decide) (by decide) ?_
  refine ⟨?_, N0, e0⟩
  show some (Value.int (1 : Int32)) = some (.int (own_isd p1))
  unfold own_isd
  rfl
theorem d3_0 : decode method_3_code 0 = .ok (.lload_n 0, 1) := by decide +kernel
theorem d3_1 : decode method_3_code 1 = .ok (.ldc2_w 7, 3) := by decide +kernel
theorem d3_4 : decode method_3_code 4 = .ok (.lmul, 1) := by decide +kernel
theorem d3_5 : decode method_3_code 5 = .ok (.iload_n 2, 1) := by decide +kernel
theorem d3_6 : decode method_3_code 6 = .ok (.bipush 48, 2) := by decide +kernel
theorem d3_8 : decode method_3_code 8 = .ok (.isub, 1) := by decide +kernel
theorem d3_9 : decode method_3_code 9 = .ok (.i2l, 1) := by decide +kernel
theorem d3_10 : decode method_3_code 10 = .ok (.ladd, 1) := by decide +kernel
theorem d3_11 : decode method_3_code 11 = .ok (.lreturn, 1) := by decide +kernel
theorem pn_3 : plainFor (⟨"leafrun/bench/BenchDataKeyPinLaw", "step", "(JB)J"⟩ : MethodName) = true := plainFor_of_name (by first | (simp [plainName, overriddenIn]; done) | decide +kernel)
theorem pd_3 : parseMethodDescriptor "(JB)J" = some ⟨[.long, .byte], some .long⟩ := by decide +kernel
theorem ef_3 (m : MethodId) (x0 : Int64) (x1 : Int32) : entryFrame m #[(.long x0), (.int x1)] 3 = mkF m 0 #[.val (.long x0), .second, .val (.int x1)] [] := by first | (simp [entryFrame, mkF, argsToLocals, Value.category, maxLocals]; done) | rfl
def own_stp (p1 : Int64) (p2 : Int32) : Int64 := ((p1 * (10 : Int64)) + (p2 - (48 : Int32)).toInt64)
def Q3 (Z : State) (p1 : Int64) (p2 : Int32)  (h0 : Heap) (n0 : Nat) (v : Option Value) (h : Heap) (L : List Loc) : Prop := v = some (.long (own_stp p1 p2)) ∧ Fr n0 L ∧ h = h0
set_option maxRecDepth 65536 in
set_option maxHeartbeats 40000000 in
theorem rm3 (l : Launch) (Z : State) (a0 : Array Value) (hw : ∀ d ∈ tables_1, d.before a0 Z = true) (ws : List Jvm.Cond) (p1 : Int64) (p2 : Int32)  (h0 : Heap) (n0 : Nat) (Z0 : n0 ≤ h0.size)  :
    MetFree l (⟨"leafrun/bench/BenchDataKeyPinLaw", "step", "(JB)J"⟩ : MethodName) (head1 (Jvm.Cond.code (⟨"leafrun/bench/BenchDataKeyPinLaw", "step", "(JB)J"⟩ : MethodName) method_3_code 3 (some .long) :: ws) ({ frames := 0, cells := 0, slots := 0, locals := 0 } : Room)) (fun a U => a = #[(.long p1), (.int p2)] ∧ Z.Warmed39 U.vm ∧ U.heap = h0) (fun _ _ _ _ _ => True) (fun _ U oc U' => ∃ v L, oc = .returned v ∧ Q3 Z p1 p2  h0 n0 v U'.heap L ∧ FrameEnd U oc U' L ({ frames := 0, cells := 0, slots := 0, locals := 0 } : Room).cells ({ frames := 0, cells := 0, slots := 0, locals := 0 } : Room).slots) := by
  refine MetFree.of_bodySF pn_3 hisR ?_
  intro p e s m args below meth c s₁ Bd hml0 hP hK
  obtain ⟨rfl, hZ, hh⟩ := hP
  have hx := Bd.exec
  have hby := Bd.bytes
  have hlk := BodyLoose.notSynchronized Bd
  have hml : c.maxLocals = 3 := hml0
  have hown : s.vm.findClass "leafrun/bench/BenchDataKeyPinLaw" = some m.cls := findClass_of_methodNamed Bd.named
  have hnm := (name_of_methodNamed Bd.named Bd.method).1
  have X0 : Stand p l e ({ frames := 0, cells := 0, slots := 0, locals := 0 } : Room) s m #[(.long p1), (.int p2)] below meth c s₁ [] 0 0 := Stand.of_body Bd
  have e0 : s₁.heap = h0 := by rw [← hh, Bd.state]; rfl
  have N0 := Fr.nil n0
  show OwnWp p e below s ({ frames := 0, cells := 0, slots := 0, locals := 0 } : Room).cells ({ frames := 0, cells := 0, slots := 0, locals := 0 } : Room).slots (Q3 Z p1 p2  h0 n0) (s₁.setTop (entryFrame m #[(.long p1), (.int p2)] 3))
  refine OwnWp.cast (ef_3 m p1 p2) ?_
  show OwnWp p e below s _ _ _ (s₁.setTop (mkF m 0 #[.val (.long p1), .second, .val (.int p2)] []))
  refine OwnWp.step (U' := s₁.setTop (mkF m 11 #[.val (.long p1), .second, .val (.int p2)] [(.long ((p1 * (10 : Int64)) + (p2 - (48 : Int32)).toInt64))])) (fun t k => ?_) ?_
  · show Steps p.tables e below (s₁.setTop (mkF m 0 #[.val (.long p1), .second, .val (.int p2)] [])) _
    refine XT.lloadN X0.here hx rfl (hb hby d3_0) rfl ?_
    show Steps p.tables e below (s₁.setTop (mkF m 1 #[.val (.long p1), .second, .val (.int p2)] [(.long p1)])) _
    refine X0.ldc2J hx hown (mvT hZ (hw _ (List.mem_of_getElem? (i := 15) rfl))) rfl (hb hby d3_1) ?_
    show Steps p.tables e below (s₁.setTop (mkF m 4 #[.val (.long p1), .second, .val (.int p2)] [(.long (10 : Int64)), (.long p1)])) _
    refine XT.lmul X0.here hx rfl (hb hby d3_4) rfl ?_
    show Steps p.tables e below (s₁.setTop (mkF m 5 #[.val (.long p1), .second, .val (.int p2)] [(.long (p1 * (10 : Int64)))])) _
    refine XS.iloadN X0.here hx rfl (hb hby d3_5) rfl ?_
    show Steps p.tables e below (s₁.setTop (mkF m 6 #[.val (.long p1), .second, .val (.int p2)] [(.int p2), (.long (p1 * (10 : Int64)))])) _
    refine XT.bipushV X0.here hx rfl (48 : Int32) (hb hby d3_6) rfl ?_
    show Steps p.tables e below (s₁.setTop (mkF m 8 #[.val (.long p1), .second, .val (.int p2)] [(.int (48 : Int32)), (.int p2), (.long (p1 * (10 : Int64)))])) _
    refine XS.isub X0.here hx rfl (hb hby d3_8) rfl ?_
    show Steps p.tables e below (s₁.setTop (mkF m 9 #[.val (.long p1), .second, .val (.int p2)] [(.int (p2 - (48 : Int32))), (.long (p1 * (10 : Int64)))])) _
    refine XT.i2l X0.here hx rfl (hb hby d3_9) rfl ?_
    show Steps p.tables e below (s₁.setTop (mkF m 10 #[.val (.long p1), .second, .val (.int p2)] [(.long (p2 - (48 : Int32)).toInt64), (.long (p1 * (10 : Int64)))])) _
    refine XT.ladd X0.here hx rfl (hb hby d3_10) rfl ?_
    show Steps p.tables e below (s₁.setTop (mkF m 11 #[.val (.long p1), .second, .val (.int p2)] [(.long ((p1 * (10 : Int64)) + (p2 - (48 : Int32)).toInt64))])) _
    exact k
  refine OwnWp.retJ X0 hx hlk Bd.returns (hb hby d3_11) (by decide) (by decide) ?_
  refine ⟨?_, N0, e0⟩
  show some (Value.long ((p1 * (10 : Int64)) + (p2 - (48 : Int32)).toInt64)) = some (.long (own_stp p1 p2))
  unfold own_stp
  rfl
theorem own_vs (v b : Int) (v0 : Int64) (b0 : Int32) (h1 : v0.toInt = v) (h2 : b0.toInt = 48 + b) (h3 : 0 ≤ v) (h4 : v < 1000000000000000) (h5 : 0 ≤ b) (h6 : b < 10) : (own_stp v0 b0).toInt = v * 10 + b := by
  have a1 := c_lmul v0 10
  rw [show (10 : Int64).toInt = 10 from rfl] at a1
  have a2 := rng64 (v0 * 10)
  have a3 := c_isub b0 48
  rw [show (48 : Int32).toInt = 48 from rfl] at a3
  have a4 := rng32 (b0 - 48)
  have a5 := c_ladd (v0 * 10) (b0 - 48).toInt64
  rw [c_i2l] at a5
  have a6 := rng64 (v0 * 10 + (b0 - 48).toInt64)
  unfold own_stp
  omega

theorem own_pd0 (x : Int) : 0 ≤ (0 : Int) ∧ (0 : Int) < 1000000000000000 ∧ 0 ≤ (x / 1000000000000000) % 10 ∧ (x / 1000000000000000) % 10 < 10 ∧ (0 : Int) * 10 + (x / 1000000000000000) % 10 = (x / 1000000000000000) % 10 := by
  generalize x / 1000000000000000 = y
  omega
theorem own_pd1 (x : Int) : 0 ≤ ((x / 1000000000000000) % 10) ∧ ((x / 1000000000000000) % 10) < 1000000000000000 ∧ 0 ≤ (x / 100000000000000) % 10 ∧ (x / 100000000000000) % 10 < 10 ∧ ((x / 1000000000000000) % 10) * 10 + (x / 100000000000000) % 10 = (x / 100000000000000) % 100 := by
  have e : x / 1000000000000000 = x / 100000000000000 / 10 := by rw [Int.ediv_ediv_of_nonneg (by decide)]; rfl
  rw [e]
  generalize x / 100000000000000 = y
  omega
theorem own_pd2 (x : Int) : 0 ≤ ((x / 100000000000000) % 100) ∧ ((x / 100000000000000) % 100) < 1000000000000000 ∧ 0 ≤ (x / 10000000000000) % 10 ∧ (x / 10000000000000) % 10 < 10 ∧ ((x / 100000000000000) % 100) * 10 + (x / 10000000000000) % 10 = (x / 10000000000000) % 1000 := by
  have e : x / 100000000000000 = x / 10000000000000 / 10 := by rw [Int.ediv_ediv_of_nonneg (by decide)]; rfl
  rw [e]
  generalize x / 10000000000000 = y
  omega
theorem own_pd3 (x : Int) : 0 ≤ ((x / 10000000000000) % 1000) ∧ ((x / 10000000000000) % 1000) < 1000000000000000 ∧ 0 ≤ (x / 1000000000000) % 10 ∧ (x / 1000000000000) % 10 < 10 ∧ ((x / 10000000000000) % 1000) * 10 + (x / 1000000000000) % 10 = (x / 1000000000000) % 10000 := by
  have e : x / 10000000000000 = x / 1000000000000 / 10 := by rw [Int.ediv_ediv_of_nonneg (by decide)]; rfl
  rw [e]
  generalize x / 1000000000000 = y
  omega
theorem own_pd4 (x : Int) : 0 ≤ ((x / 1000000000000) % 10000) ∧ ((x / 1000000000000) % 10000) < 1000000000000000 ∧ 0 ≤ (x / 100000000000) % 10 ∧ (x / 100000000000) % 10 < 10 ∧ ((x / 1000000000000) % 10000) * 10 + (x / 100000000000) % 10 = (x / 100000000000) % 100000 := by
  have e : x / 1000000000000 = x / 100000000000 / 10 := by rw [Int.ediv_ediv_of_nonneg (by decide)]; rfl
  rw [e]
  generalize x / 100000000000 = y
  omega
theorem own_pd5 (x : Int) : 0 ≤ ((x / 100000000000) % 100000) ∧ ((x / 100000000000) % 100000) < 1000000000000000 ∧ 0 ≤ (x / 10000000000) % 10 ∧ (x / 10000000000) % 10 < 10 ∧ ((x / 100000000000) % 100000) * 10 + (x / 10000000000) % 10 = (x / 10000000000) % 1000000 := by
  have e : x / 100000000000 = x / 10000000000 / 10 := by rw [Int.ediv_ediv_of_nonneg (by decide)]; rfl
  rw [e]
  generalize x / 10000000000 = y
  omega
theorem own_pd6 (x : Int) : 0 ≤ ((x / 10000000000) % 1000000) ∧ ((x / 10000000000) % 1000000) < 1000000000000000 ∧ 0 ≤ (x / 1000000000) % 10 ∧ (x / 1000000000) % 10 < 10 ∧ ((x / 10000000000) % 1000000) * 10 + (x / 1000000000) % 10 = (x / 1000000000) % 10000000 := by
  have e : x / 10000000000 = x / 1000000000 / 10 := by rw [Int.ediv_ediv_of_nonneg (by decide)]; rfl
  rw [e]
  generalize x / 1000000000 = y
  omega
theorem own_pd7 (x : Int) : 0 ≤ ((x / 1000000000) % 10000000) ∧ ((x / 1000000000) % 10000000) < 1000000000000000 ∧ 0 ≤ (x / 100000000) % 10 ∧ (x / 100000000) % 10 < 10 ∧ ((x / 1000000000) % 10000000) * 10 + (x / 100000000) % 10 = (x / 100000000) % 100000000 := by
  have e : x / 1000000000 = x / 100000000 / 10 := by rw [Int.ediv_ediv_of_nonneg (by decide)]; rfl
  rw [e]
  generalize x / 100000000 = y
  omega
theorem own_pd8 (x : Int) : 0 ≤ ((x / 100000000) % 100000000) ∧ ((x / 100000000) % 100000000) < 1000000000000000 ∧ 0 ≤ (x / 10000000) % 10 ∧ (x / 10000000) % 10 < 10 ∧ ((x / 100000000) % 100000000) * 10 + (x / 10000000) % 10 = (x / 10000000) % 1000000000 := by
  have e : x / 100000000 = x / 10000000 / 10 := by rw [Int.ediv_ediv_of_nonneg (by decide)]; rfl
  rw [e]
  generalize x / 10000000 = y
  omega
theorem own_pd9 (x : Int) : 0 ≤ ((x / 10000000) % 1000000000) ∧ ((x / 10000000) % 1000000000) < 1000000000000000 ∧ 0 ≤ (x / 1000000) % 10 ∧ (x / 1000000) % 10 < 10 ∧ ((x / 10000000) % 1000000000) * 10 + (x / 1000000) % 10 = (x / 1000000) % 10000000000 := by
  have e : x / 10000000 = x / 1000000 / 10 := by rw [Int.ediv_ediv_of_nonneg (by decide)]; rfl
  rw [e]
  generalize x / 1000000 = y
  omega
theorem own_pd10 (x : Int) : 0 ≤ ((x / 1000000) % 10000000000) ∧ ((x / 1000000) % 10000000000) < 1000000000000000 ∧ 0 ≤ (x / 100000) % 10 ∧ (x / 100000) % 10 < 10 ∧ ((x / 1000000) % 10000000000) * 10 + (x / 100000) % 10 = (x / 100000) % 100000000000 := by
  have e : x / 1000000 = x / 100000 / 10 := by rw [Int.ediv_ediv_of_nonneg (by decide)]; rfl
  rw [e]
  generalize x / 100000 = y
  omega
theorem own_pd11 (x : Int) : 0 ≤ ((x / 100000) % 100000000000) ∧ ((x / 100000) % 100000000000) < 1000000000000000 ∧ 0 ≤ (x / 10000) % 10 ∧ (x / 10000) % 10 < 10 ∧ ((x / 100000) % 100000000000) * 10 + (x / 10000) % 10 = (x / 10000) % 1000000000000 := by
  have e : x / 100000 = x / 10000 / 10 := by rw [Int.ediv_ediv_of_nonneg (by decide)]; rfl
  rw [e]
  generalize x / 10000 = y
  omega
theorem own_pd12 (x : Int) : 0 ≤ ((x / 10000) % 1000000000000) ∧ ((x / 10000) % 1000000000000) < 1000000000000000 ∧ 0 ≤ (x / 1000) % 10 ∧ (x / 1000) % 10 < 10 ∧ ((x / 10000) % 1000000000000) * 10 + (x / 1000) % 10 = (x / 1000) % 10000000000000 := by
  have e : x / 10000 = x / 1000 / 10 := by rw [Int.ediv_ediv_of_nonneg (by decide)]; rfl
  rw [e]
  generalize x / 1000 = y
  omega
theorem own_pd13 (x : Int) : 0 ≤ ((x / 1000) % 10000000000000) ∧ ((x / 1000) % 10000000000000) < 1000000000000000 ∧ 0 ≤ (x / 100) % 10 ∧ (x / 100) % 10 < 10 ∧ ((x / 1000) % 10000000000000) * 10 + (x / 100) % 10 = (x / 100) % 100000000000000 := by
  have e : x / 1000 = x / 100 / 10 := by rw [Int.ediv_ediv_of_nonneg (by decide)]; rfl
  rw [e]
  generalize x / 100 = y
  omega
theorem own_pd14 (x : Int) : 0 ≤ ((x / 100) % 100000000000000) ∧ ((x / 100) % 100000000000000) < 1000000000000000 ∧ 0 ≤ (x / 10) % 10 ∧ (x / 10) % 10 < 10 ∧ ((x / 100) % 100000000000000) * 10 + (x / 10) % 10 = (x / 10) % 1000000000000000 := by
  have e : x / 100 = x / 10 / 10 := by rw [Int.ediv_ediv_of_nonneg (by decide)]; rfl
  rw [e]
  generalize x / 10 = y
  omega
theorem own_pd15 (x : Int) : 0 ≤ ((x / 10) % 1000000000000000) ∧ ((x / 10) % 1000000000000000) < 1000000000000000 ∧ 0 ≤ (x / 1) % 10 ∧ (x / 1) % 10 < 10 ∧ ((x / 10) % 1000000000000000) * 10 + (x / 1) % 10 = (x / 1) % 10000000000000000 := by
  have e : x / 10 = x / 1 / 10 := by rw [Int.ediv_ediv_of_nonneg (by decide)]; rfl
  rw [e]
  generalize x / 1 = y
  omega
theorem own_law (w1 : Int64) (hp : 0 ≤ w1.toInt) (f12 : Int → Int32) (hf : ∀ j : Int, 0 ≤ j → j < 16 → (f12 j).toInt = 48 + own_digit w1 j) (w2 : Int32) (qw2 : w2 = (f12 (0 : Int32).toInt)) (w3 : Int32) (qw3 : w3 = (f12 (1 : Int32).toInt)) (w4 : Int32) (qw4 : w4 = (f12 (2 : Int32).toInt)) (w5 : Int32) (qw5 : w5 = (f12 (3 : Int32).toInt)) (w6 : Int32) (qw6 : w6 = (f12 (4 : Int32).toInt)) (w7 : Int32) (qw7 : w7 = (f12 (5 : Int32).toInt)) (w8 : Int32) (qw8 : w8 = (f12 (6 : Int32).toInt)) (w9 : Int32) (qw9 : w9 = (f12 (7 : Int32).toInt)) (w10 : Int32) (qw10 : w10 = (f12 (8 : Int32).toInt)) (w11 : Int32) (qw11 : w11 = (f12 (9 : Int32).toInt)) (w12 : Int32) (qw12 : w12 = (f12 (10 : Int32).toInt)) (w13 : Int32) (qw13 : w13 = (f12 (11 : Int32).toInt)) (w14 : Int32) (qw14 : w14 = (f12 (12 : Int32).toInt)) (w15 : Int32) (qw15 : w15 = (f12 (13 : Int32).toInt)) (w16 : Int32) (qw16 : w16 = (f12 (14 : Int32).toInt)) (w17 : Int32) (qw17 : w17 = (f12 (15 : Int32).toInt)) (w18 : Int32) (qw18 : w18 = (f12 (0 : Int32).toInt)) (w19 : Int64) (qw19 : w19 = (own_stp (0 : Int64) w18)) (w20 : Int32) (qw20 : w20 = (f12 (1 : Int32).toInt)) (w21 : Int64) (qw21 : w21 = (own_stp w19 w20)) (w22 : Int32) (qw22 : w22 = (f12 (2 : Int32).toInt)) (w23 : Int64) (qw23 : w23 = (own_stp w21 w22)) (w24 : Int32) (qw24 : w24 = (f12 (3 : Int32).toInt)) (w25 : Int64) (qw25 : w25 = (own_stp w23 w24)) (w26 : Int32) (qw26 : w26 = (f12 (4 : Int32).toInt)) (w27 : Int64) (qw27 : w27 = (own_stp w25 w26)) (w28 : Int32) (qw28 : w28 = (f12 (5 : Int32).toInt)) (w29 : Int64) (qw29 : w29 = (own_stp w27 w28)) (w30 : Int32) (qw30 : w30 = (f12 (6 : Int32).toInt)) (w31 : Int64) (qw31 : w31 = (own_stp w29 w30)) (w32 : Int32) (qw32 : w32 = (f12 (7 : Int32).toInt)) (w33 : Int64) (qw33 : w33 = (own_stp w31 w32)) (w34 : Int32) (qw34 : w34 = (f12 (8 : Int32).toInt)) (w35 : Int64) (qw35 : w35 = (own_stp w33 w34)) (w36 : Int32) (qw36 : w36 = (f12 (9 : Int32).toInt)) (w37 : Int64) (qw37 : w37 = (own_stp w35 w36)) (w38 : Int32) (qw38 : w38 = (f12 (10 : Int32).toInt)) (w39 : Int64) (qw39 : w39 = (own_stp w37 w38)) (w40 : Int32) (qw40 : w40 = (f12 (11 : Int32).toInt)) (w41 : Int64) (qw41 : w41 = (own_stp w39 w40)) (w42 : Int32) (qw42 : w42 = (f12 (12 : Int32).toInt)) (w43 : Int64) (qw43 : w43 = (own_stp w41 w42)) (w44 : Int32) (qw44 : w44 = (f12 (13 : Int32).toInt)) (w45 : Int64) (qw45 : w45 = (own_stp w43 w44)) (w46 : Int32) (qw46 : w46 = (f12 (14 : Int32).toInt)) (w47 : Int64) (qw47 : w47 = (own_stp w45 w46)) (w48 : Int32) (qw48 : w48 = (f12 (15 : Int32).toInt)) (w49 : Int64) (qw49 : w49 = (own_stp w47 w48)) (w50 : Int32) (qw50 : w50 = (if w49 = (w1 % (10000000000000000 : Int64)) then (1 : Int32) else (0 : Int32))) : w50 = 1 := by
  obtain ⟨x, hx⟩ : ∃ x, x = w1.toInt := ⟨_, rfl⟩
  rw [← hx] at hp
  have b0 : w18.toInt = 48 + (x / 1000000000000000) % 10 := by
    have h := hf 0 (by decide) (by decide)
    unfold own_digit at h
    rw [qw18]
    rw [← hx] at h
    exact h
  have v0 : w19.toInt = (x / 1000000000000000) % 10 := by
    rw [qw19, own_vs 0 ((x / 1000000000000000) % 10) _ _ rfl b0 (own_pd0 x).1 (own_pd0 x).2.1 (own_pd0 x).2.2.1 (own_pd0 x).2.2.2.1]; exact (own_pd0 x).2.2.2.2
  have b1 : w20.toInt = 48 + (x / 100000000000000) % 10 := by
    have h := hf 1 (by decide) (by decide)
    unfold own_digit at h
    rw [qw20]
    rw [← hx] at h
    exact h
  have v1 : w21.toInt = (x / 100000000000000) % 100 := by
    rw [qw21, own_vs ((x / 1000000000000000) % 10) ((x / 100000000000000) % 10) _ _ v0 b1 (own_pd1 x).1 (own_pd1 x).2.1 (own_pd1 x).2.2.1 (own_pd1 x).2.2.2.1]; exact (own_pd1 x).2.2.2.2
  have b2 : w22.toInt = 48 + (x / 10000000000000) % 10 := by
    have h := hf 2 (by decide) (by decide)
    unfold own_digit at h
    rw [qw22]
    rw [← hx] at h
    exact h
  have v2 : w23.toInt = (x / 10000000000000) % 1000 := by
    rw [qw23, own_vs ((x / 100000000000000) % 100) ((x / 10000000000000) % 10) _ _ v1 b2 (own_pd2 x).1 (own_pd2 x).2.1 (own_pd2 x).2.2.1 (own_pd2 x).2.2.2.1]; exact (own_pd2 x).2.2.2.2
  have b3 : w24.toInt = 48 + (x / 1000000000000) % 10 := by
    have h := hf 3 (by decide) (by decide)
    unfold own_digit at h
    rw [qw24]
    rw [← hx] at h
    exact h
  have v3 : w25.toInt = (x / 1000000000000) % 10000 := by
    rw [qw25, own_vs ((x / 10000000000000) % 1000) ((x / 1000000000000) % 10) _ _ v2 b3 (own_pd3 x).1 (own_pd3 x).2.1 (own_pd3 x).2.2.1 (own_pd3 x).2.2.2.1]; exact (own_pd3 x).2.2.2.2
  have b4 : w26.toInt = 48 + (x / 100000000000) % 10 := by
    have h := hf 4 (by decide) (by decide)
    unfold own_digit at h
    rw [qw26]
    rw [← hx] at h
    exact h
  have v4 : w27.toInt = (x / 100000000000) % 100000 := by
    rw [qw27, own_vs ((x / 1000000000000) % 10000) ((x / 100000000000) % 10) _ _ v3 b4 (own_pd4 x).1 (own_pd4 x).2.1 (own_pd4 x).2.2.1 (own_pd4 x).2.2.2.1]; exact (own_pd4 x).2.2.2.2
  have b5 : w28.toInt = 48 + (x / 10000000000) % 10 := by
    have h := hf 5 (by decide) (by decide)
    unfold own_digit at h
    rw [qw28]
    rw [← hx] at h
    exact h
  have v5 : w29.toInt = (x / 10000000000) % 1000000 := by
    rw [qw29, own_vs ((x / 100000000000) % 100000) ((x / 10000000000) % 10) _ _ v4 b5 (own_pd5 x).1 (own_pd5 x).2.1 (own_pd5 x).2.2.1 (own_pd5 x).2.2.2.1]; exact (own_pd5 x).2.2.2.2
  have b6 : w30.toInt = 48 + (x / 1000000000) % 10 := by
    have h := hf 6 (by decide) (by decide)
    unfold own_digit at h
    rw [qw30]
    rw [← hx] at h
    exact h
  have v6 : w31.toInt = (x / 1000000000) % 10000000 := by
    rw [qw31, own_vs ((x / 10000000000) % 1000000) ((x / 1000000000) % 10) _ _ v5 b6 (own_pd6 x).1 (own_pd6 x).2.1 (own_pd6 x).2.2.1 (own_pd6 x).2.2.2.1]; exact (own_pd6 x).2.2.2.2
  have b7 : w32.toInt = 48 + (x / 100000000) % 10 := by
    have h := hf 7 (by decide) (by decide)
    unfold own_digit at h
    rw [qw32]
    rw [← hx] at h
    exact h
  have v7 : w33.toInt = (x / 100000000) % 100000000 := by
    rw [qw33, own_vs ((x / 1000000000) % 10000000) ((x / 100000000) % 10) _ _ v6 b7 (own_pd7 x).1 (own_pd7 x).2.1 (own_pd7 x).2.2.1 (own_pd7 x).2.2.2.1]; exact (own_pd7 x).2.2.2.2
  have b8 : w34.toInt = 48 + (x / 10000000) % 10 := by
    have h := hf 8 (by decide) (by decide)
    unfold own_digit at h
    rw [qw34]
    rw [← hx] at h
    exact h
  have v8 : w35.toInt = (x / 10000000) % 1000000000 := by
    rw [qw35, own_vs ((x / 100000000) % 100000000) ((x / 10000000) % 10) _ _ v7 b8 (own_pd8 x).1 (own_pd8 x).2.1 (own_pd8 x).2.2.1 (own_pd8 x).2.2.2.1]; exact (own_pd8 x).2.2.2.2
  have b9 : w36.toInt = 48 + (x / 1000000) % 10 := by
    have h := hf 9 (by decide) (by decide)
    unfold own_digit at h
    rw [qw36]
    rw [← hx] at h
    exact h
  have v9 : w37.toInt = (x / 1000000) % 10000000000 := by
    rw [qw37, own_vs ((x / 10000000) % 1000000000) ((x / 1000000) % 10) _ _ v8 b9 (own_pd9 x).1 (own_pd9 x).2.1 (own_pd9 x).2.2.1 (own_pd9 x).2.2.2.1]; exact (own_pd9 x).2.2.2.2
  have b10 : w38.toInt = 48 + (x / 100000) % 10 := by
    have h := hf 10 (by decide) (by decide)
    unfold own_digit at h
    rw [qw38]
    rw [← hx] at h
    exact h
  have v10 : w39.toInt = (x / 100000) % 100000000000 := by
    rw [qw39, own_vs ((x / 1000000) % 10000000000) ((x / 100000) % 10) _ _ v9 b10 (own_pd10 x).1 (own_pd10 x).2.1 (own_pd10 x).2.2.1 (own_pd10 x).2.2.2.1]; exact (own_pd10 x).2.2.2.2
  have b11 : w40.toInt = 48 + (x / 10000) % 10 := by
    have h := hf 11 (by decide) (by decide)
    unfold own_digit at h
    rw [qw40]
    rw [← hx] at h
    exact h
  have v11 : w41.toInt = (x / 10000) % 1000000000000 := by
    rw [qw41, own_vs ((x / 100000) % 100000000000) ((x / 10000) % 10) _ _ v10 b11 (own_pd11 x).1 (own_pd11 x).2.1 (own_pd11 x).2.2.1 (own_pd11 x).2.2.2.1]; exact (own_pd11 x).2.2.2.2
  have b12 : w42.toInt = 48 + (x / 1000) % 10 := by
    have h := hf 12 (by decide) (by decide)
    unfold own_digit at h
    rw [qw42]
    rw [← hx] at h
    exact h
  have v12 : w43.toInt = (x / 1000) % 10000000000000 := by
    rw [qw43, own_vs ((x / 10000) % 1000000000000) ((x / 1000) % 10) _ _ v11 b12 (own_pd12 x).1 (own_pd12 x).2.1 (own_pd12 x).2.2.1 (own_pd12 x).2.2.2.1]; exact (own_pd12 x).2.2.2.2
  have b13 : w44.toInt = 48 + (x / 100) % 10 := by
    have h := hf 13 (by decide) (by decide)
    unfold own_digit at h
    rw [qw44]
    rw [← hx] at h
    exact h
  have v13 : w45.toInt = (x / 100) % 100000000000000 := by
    rw [qw45, own_vs ((x / 1000) % 10000000000000) ((x / 100) % 10) _ _ v12 b13 (own_pd13 x).1 (own_pd13 x).2.1 (own_pd13 x).2.2.1 (own_pd13 x).2.2.2.1]; exact (own_pd13 x).2.2.2.2
  have b14 : w46.toInt = 48 + (x / 10) % 10 := by
    have h := hf 14 (by decide) (by decide)
    unfold own_digit at h
    rw [qw46]
    rw [← hx] at h
    exact h
  have v14 : w47.toInt = (x / 10) % 1000000000000000 := by
    rw [qw47, own_vs ((x / 100) % 100000000000000) ((x / 10) % 10) _ _ v13 b14 (own_pd14 x).1 (own_pd14 x).2.1 (own_pd14 x).2.2.1 (own_pd14 x).2.2.2.1]; exact (own_pd14 x).2.2.2.2
  have b15 : w48.toInt = 48 + (x / 1) % 10 := by
    have h := hf 15 (by decide) (by decide)
    unfold own_digit at h
    rw [qw48]
    rw [← hx] at h
    exact h
  have v15 : w49.toInt = (x / 1) % 10000000000000000 := by
    rw [qw49, own_vs ((x / 10) % 1000000000000000) ((x / 1) % 10) _ _ v14 b15 (own_pd15 x).1 (own_pd15 x).2.1 (own_pd15 x).2.2.1 (own_pd15 x).2.2.2.1]; exact (own_pd15 x).2.2.2.2
  have m := (c_lrem w1 10000000000000000 10000000000000000 rfl).1 (by rw [← hx]; exact hp)
  rw [lrem_mod, ← hx] at m
  rw [qw50, if_pos]
  apply Int64.toInt_inj.mp
  rw [v15, m, Int.ediv_one]
theorem pn_0 : plainFor (⟨"leafrun/bench/BenchDataKeyPinLaw", "law", "(JI)Z"⟩ : MethodName) = true := plainFor_of_name (by first | (simp [plainName, overriddenIn]; done) | decide +kernel)
theorem pd_0 : parseMethodDescriptor "(JI)Z" = some ⟨[.long, .int], some .boolean⟩ := by decide +kernel
theorem ef_0 (m : MethodId) (x0 : Int64) (x1 : Int32) : entryFrame m #[(.long x0), (.int x1)] maxLocals = mkF m 0 #[.val (.long x0), .second, .val (.int x1), .unset, .unset, .unset, .unset, .unset, .unset] [] := by first | (simp [entryFrame, mkF, argsToLocals, Value.category, maxLocals]; done) | rfl
def Q0 (Z : State) (p1 : Int64) (p2 : Int32)  (h0 : Heap) (n0 : Nat) (v : Option Value) (h : Heap) (L : List Loc) : Prop := v = some (.int 1) ∧ Fr n0 L
set_option maxRecDepth 65536 in
set_option maxHeartbeats 40000000 in
theorem rm0 (l : Launch) (Z : State) (a0 : Array Value) (hw : ∀ d ∈ tables_1, d.before a0 Z = true) (ws : List Jvm.Cond) (p1 : Int64) (p2 : Int32)  (h0 : Heap) (n0 : Nat) (Z0 : n0 ≤ h0.size)  :
    MetFree l x (head1 (Jvm.Cond.code x code maxLocals ret :: ws) room_1) (fun a U => a = #[(.long p1), (.int p2)] ∧ Z.Warmed39 U.vm ∧ U.heap = h0) (fun _ _ _ _ _ => True) (fun _ U oc U' => ∃ v L, oc = .returned v ∧ Q0 Z p1 p2  h0 n0 v U'.heap L ∧ FrameEnd U oc U' L room_1.cells room_1.slots) := by
  refine MetFree.of_bodySF pn_0 hisR ?_
  intro p e s m args below meth c s₁ Bd hml0 hP hK
  obtain ⟨rfl, hZ, hh⟩ := hP
  have hx := Bd.exec
  have hby := Bd.bytes
  have hlk := BodyLoose.notSynchronized Bd
  have hml : c.maxLocals = 9 := hml0
  have hown : s.vm.findClass "leafrun/bench/BenchDataKeyPinLaw" = some m.cls := findClass_of_methodNamed Bd.named
  have hnm := (name_of_methodNamed Bd.named Bd.method).1
  have X0 : Stand p l e room_1 s m #[(.long p1), (.int p2)] below meth c s₁ [] 0 0 := Stand.of_body Bd
  have e0 : s₁.heap = h0 := by rw [← hh, Bd.state]; rfl
  have N0 := Fr.nil n0
  show OwnWp p e below s room_1.cells room_1.slots (Q0 Z p1 p2  h0 n0) (s₁.setTop (entryFrame m #[(.long p1), (.int p2)] maxLocals))
  refine OwnWp.cast (ef_0 m p1 p2) ?_
  show OwnWp p e below s _ _ _ (s₁.setTop (mkF m 0 #[.val (.long p1), .second, .val (.int p2), .unset, .unset, .unset, .unset, .unset, .unset] []))
  obtain ⟨w1, qw1⟩ : ∃ z : Int64, z = (XT.ushrL (p1 &&& (9223372036854775807 : Int64)) (p2 &&& (63 : Int32))) := ⟨_, rfl⟩
  refine OwnWp.step (U' := s₁.setTop (mkF m 11 #[.val (.long p1), .second, .val (.int p2), .val (.long w1), .second, .unset, .unset, .unset, .unset] [])) (fun t k => ?_) ?_
  · show Steps p.tables e below (s₁.setTop (mkF m 0 #[.val (.long p1), .second, .val (.int p2), .unset, .unset, .unset, .unset, .unset, .unset] [])) _
    refine XT.lloadN X0.here hx rfl (hb hby at_0) rfl ?_
    show Steps p.tables e below (s₁.setTop (mkF m 1 #[.val (.long p1), .second, .val (.int p2), .unset, .unset, .unset, .unset, .unset, .unset] [(.long p1)])) _
    refine X0.ldc2J hx hown (mvT hZ (hw _ (List.mem_of_getElem? (i := 0) rfl))) rfl (hb hby at_1) ?_
    show Steps p.tables e below (s₁.setTop (mkF m 4 #[.val (.long p1), .second, .val (.int p2), .unset, .unset, .unset, .unset, .unset, .unset] [(.long (9223372036854775807 : Int64)), (.long p1)])) _
    refine XT.land X0.here hx rfl (hb hby at_4) rfl ?_
    show Steps p.tables e below (s₁.setTop (mkF m 5 #[.val (.long p1), .second, .val (.int p2), .unset, .unset, .unset, .unset, .unset, .unset] [(.long (p1 &&& (9223372036854775807 : Int64)))])) _
    refine XS.iloadN X0.here hx rfl (hb hby at_5) rfl ?_
    show Steps p.tables e below (s₁.setTop (mkF m 6 #[.val (.long p1), .second, .val (.int p2), .unset, .unset, .unset, .unset, .unset, .unset] [(.int p2), (.long (p1 &&& (9223372036854775807 : Int64)))])) _
    refine XT.bipushV X0.here hx rfl (63 : Int32) (hb hby at_6) rfl ?_
    show Steps p.tables e below (s₁.setTop (mkF m 8 #[.val (.long p1), .second, .val (.int p2), .unset, .unset, .unset, .unset, .unset, .unset] [(.int (63 : Int32)), (.int p2), (.long (p1 &&& (9223372036854775807 : Int64)))])) _
    refine XS.iand X0.here hx rfl (hb hby at_8) rfl ?_
    show Steps p.tables e below (s₁.setTop (mkF m 9 #[.val (.long p1), .second, .val (.int p2), .unset, .unset, .unset, .unset, .unset, .unset] [(.int (p2 &&& (63 : Int32))), (.long (p1 &&& (9223372036854775807 : Int64)))])) _
    refine XT.lushr X0.here hx rfl (hb hby at_9) rfl ?_
    show Steps p.tables e below (s₁.setTop (mkF m 10 #[.val (.long p1), .second, .val (.int p2), .unset, .unset, .unset, .unset, .unset, .unset] [(.long (XT.ushrL (p1 &&& (9223372036854775807 : Int64)) (p2 &&& (63 : Int32))))])) _
    refine XT.lstoreN X0.here hx rfl (hb hby at_10) rfl (l' := #[.val (.long p1), .second, .val (.int p2), .val (.long (XT.ushrL (p1 &&& (9223372036854775807 : Int64)) (p2 &&& (63 : Int32)))), .second, .unset, .unset, .unset, .unset]) rfl ?_
    show Steps p.tables e below (s₁.setTop (mkF m 11 #[.val (.long p1), .second, .val (.int p2), .val (.long (XT.ushrL (p1 &&& (9223372036854775807 : Int64)) (p2 &&& (63 : Int32)))), .second, .unset, .unset, .unset, .unset] [])) _
    rw [qw1] at k
    exact k
  refine OwnWp.step (U' := s₁.setTop (mkF m 12 #[.val (.long p1), .second, .val (.int p2), .val (.long w1), .second, .unset, .unset, .unset, .unset] [(.long w1)])) (fun t k => ?_) ?_
  · show Steps p.tables e below (s₁.setTop (mkF m 11 #[.val (.long p1), .second, .val (.int p2), .val (.long w1), .second, .unset, .unset, .unset, .unset] [])) _
    refine XT.lloadN X0.here hx rfl (hb hby at_11) rfl ?_
    show Steps p.tables e below (s₁.setTop (mkF m 12 #[.val (.long p1), .second, .val (.int p2), .val (.long w1), .second, .unset, .unset, .unset, .unset] [(.long w1)])) _
    exact k
  have hp := own_index p1 p2 w1 qw1
  obtain ⟨_, _, ⟨T12, L12, k12, n12⟩, -, X12, ⟨Lc12, hQ12, l12, y12, z12⟩, st12⟩ := Jvm.LawKit.callS X0 hx (y := (⟨"leafrun/bench/BenchData", "key", "(J)[B"⟩ : MethodName)) hown (mvT hZ (hw _ (List.mem_of_getElem? (i := 1) rfl))) (mvT hZ (hw _ (List.mem_of_getElem? (i := 2) rfl))) (mvT hZ (hw _ (List.mem_of_getElem? (i := 3) rfl))) (mvT hZ (hw _ (List.mem_of_getElem? (i := 4) rfl))) (by decide) (backOf (W := 0) (rm1 l Z a0 hw [] w1 h0 n0 Z0 hp) hZ (hw _ (List.mem_of_getElem? (i := 4) rfl)) (hw _ (List.mem_of_getElem? (i := 3) rfl)) (by decide) (by decide)) (g := (mkF m 12 #[.val (.long p1), .second, .val (.int p2), .val (.long w1), .second, .unset, .unset, .unset, .unset] [(.long w1)])) rfl (by rw [hml]; rfl) (argsL := [(.long w1)]) (rest := []) (lenOf pd_1 rfl) rfl (by show 2 * 0 + _ ≤ _; exact Nat.le_of_eq rfl) (hb hby at_12) (fun _ _ => ⟨rfl, e0, (by dsimp only [Pt.cells]; decide), (by dsimp only [Pt.slots]; decide)⟩)
  dsimp only [Pt.U, Pt.locs, Pt.cells, Pt.slots] at X12 l12 y12 z12 st12 hQ12
  subst l12 y12 z12
  obtain ⟨b12, f12, rfl, Nc12, lb12, Kc12, ab12, hf12⟩ := hQ12
  have N12 := Fr.app N0 Nc12
  refine OwnWp.step st12 ?_
  have Z12 : n0 ≤ T12.heap.size := Nat.le_trans Z0 Kc12.1
  show OwnWp p e below s _ _ _ (T12.setTop (mkF m 15 #[.val (.long p1), .second, .val (.int p2), .val (.long w1), .second, .unset, .unset, .unset, .unset] [(.ref b12)]))
  have hf := hf12
  refine OwnWp.step (U' := T12.setTop (mkF m 36 #[.val (.long p1), .second, .val (.int p2), .val (.long w1), .second, .val (.ref b12), .unset, .unset, .unset] [(.int (f12 (0 : Int32).toInt))])) (fun t k => ?_) ?_
  · show Steps p.tables e below (T12.setTop (mkF m 15 #[.val (.long p1), .second, .val (.int p2), .val (.long w1), .second, .unset, .unset, .unset, .unset] [(.ref b12)])) _
    refine XS.astore X12.here hx rfl (hb hby at_15) rfl rfl (l' := #[.val (.long p1), .second, .val (.int p2), .val (.long w1), .second, .val (.ref b12), .unset, .unset, .unset]) rfl ?_
    show Steps p.tables e below (T12.setTop (mkF m 17 #[.val (.long p1), .second, .val (.int p2), .val (.long w1), .second, .val (.ref b12), .unset, .unset, .unset] [])) _
    refine XS.aload X12.here hx rfl (hb hby at_17) rfl rfl ?_
    show Steps p.tables e below (T12.setTop (mkF m 19 #[.val (.long p1), .second, .val (.int p2), .val (.long w1), .second, .val (.ref b12), .unset, .unset, .unset] [(.ref b12)])) _
    refine XS.ifnullNo X12.here hx rfl (hb hby at_19) rfl ?_
    show Steps p.tables e below (T12.setTop (mkF m 22 #[.val (.long p1), .second, .val (.int p2), .val (.long w1), .second, .val (.ref b12), .unset, .unset, .unset] [])) _
    refine XS.aload X12.here hx rfl (hb hby at_22) rfl rfl ?_
    show Steps p.tables e below (T12.setTop (mkF m 24 #[.val (.long p1), .second, .val (.int p2), .val (.long w1), .second, .val (.ref b12), .unset, .unset, .unset] [(.ref b12)])) _
    refine OwnA.alen X12 hx hZ (rfl : T12.heap = T12.heap) ab12 rfl rfl (hb hby at_24) ?_
    show Steps p.tables e below (T12.setTop (mkF m 25 #[.val (.long p1), .second, .val (.int p2), .val (.long w1), .second, .val (.ref b12), .unset, .unset, .unset] [(.int (16 : Int32))])) _
    refine XT.bipushV X12.here hx rfl (16 : Int32) (hb hby at_25) rfl ?_
    show Steps p.tables e below (T12.setTop (mkF m 27 #[.val (.long p1), .second, .val (.int p2), .val (.long w1), .second, .val (.ref b12), .unset, .unset, .unset] [(.int (16 : Int32)), (.int (16 : Int32))])) _
    refine XS.icmpYes X12.here hx rfl (pc0 := 27) (pc' := 32) rfl (hb hby at_27) rfl (XT.ii_eq_t (by decide)) (by decide) (by decide) ?_
    show Steps p.tables e below (T12.setTop (mkF m 32 #[.val (.long p1), .second, .val (.int p2), .val (.long w1), .second, .val (.ref b12), .unset, .unset, .unset] [])) _
    refine XS.aload X12.here hx rfl (hb hby at_32) rfl rfl ?_
    show Steps p.tables e below (T12.setTop (mkF m 34 #[.val (.long p1), .second, .val (.int p2), .val (.long w1), .second, .val (.ref b12), .unset, .unset, .unset] [(.ref b12)])) _
    refine XT.iconstV X12.here hx rfl (0 : Int32) (hb hby at_34) rfl ?_
    show Steps p.tables e below (T12.setTop (mkF m 35 #[.val (.long p1), .second, .val (.int p2), .val (.long w1), .second, .val (.ref b12), .unset, .unset, .unset] [(.int (0 : Int32)), (.ref b12)])) _
    refine OwnA.ldB X12 hx hZ (rfl : T12.heap = T12.heap) ab12 (by decide) (by decide) rfl rfl (hb hby at_35) ?_
    show Steps p.tables e below (T12.setTop (mkF m 36 #[.val (.long p1), .second, .val (.int p2), .val (.long w1), .second, .val (.ref b12), .unset, .unset, .unset] [(.int (f12 (0 : Int32).toInt))])) _
    exact k
  obtain ⟨w2, qw2⟩ : ∃ z : Int32, z = (f12 (0 : Int32).toInt) := ⟨_, rfl⟩
  rw [← qw2]
  show OwnWp p e below s _ _ _ (T12.setTop (mkF m 36 #[.val (.long p1), .second, .val (.int p2), .val (.long w1), .second, .val (.ref b12), .unset, .unset, .unset] [(.int w2)]))
  obtain ⟨_, _, ⟨T13, L13, k13, n13⟩, -, X13, ⟨Lc13, hQ13, l13, y13, z13⟩, st13⟩ := Jvm.LawKit.callS X12 hx (y := (⟨"leafrun/bench/BenchDataKeyPinLaw", "isDigit", "(B)Z"⟩ : MethodName)) hown (mvT hZ (hw _ (List.mem_of_getElem? (i := 8) rfl))) (mvT hZ (hw _ (List.mem_of_getElem? (i := 9) rfl))) (mvT hZ (hw _ (List.mem_of_getElem? (i := 10) rfl))) (mvT hZ (hw _ (List.mem_of_getElem? (i := 11) rfl))) (by decide) (backOf (W := 0) (rm2 l Z a0 hw [] w2 T12.heap n0 Z12 (own_bnd _ (hf 0 (by decide) (by decide)) w2 qw2).1 (own_bnd _ (hf 0 (by decide) (by decide)) w2 qw2).2) hZ (hw _ (List.mem_of_getElem? (i := 11) rfl)) (hw _ (List.mem_of_getElem? (i := 10) rfl)) (by decide) (by decide)) (g := (mkF m 36 #[.val (.long p1), .second, .val (.int p2), .val (.long w1), .second, .val (.ref b12), .unset, .unset, .unset] [(.int w2)])) rfl (by rw [hml]; rfl) (argsL := [(.int w2)]) (rest := []) (lenOf pd_2 rfl) rfl (by show 2 * 0 + _ ≤ _; exact Nat.le_of_eq rfl) (hb hby at_36) (fun _ _ => ⟨rfl, (rfl : T12.heap = T12.heap), (by dsimp only [Pt.cells]; decide), (by dsimp only [Pt.slots]; decide)⟩)
  dsimp only [Pt.U, Pt.locs, Pt.cells, Pt.slots] at X13 l13 y13 z13 st13 hQ13
  subst l13 y13 z13
  obtain ⟨rfl, Nc13, hp13⟩ := hQ13
  have N13 := Fr.app N12 Nc13
  refine OwnWp.step st13 ?_
  have eh13 : T13.heap = T12.heap := hp13
  obtain ⟨Lg13, Xg13, Ng13⟩ := own_fold (c' := 1) (s' := 16) X13 N13 (by decide) (by decide)
  show OwnWp p e below s _ _ _ (T13.setTop (mkF m 39 #[.val (.long p1), .second, .val (.int p2), .val (.long w1), .second, .val (.ref b12), .unset, .unset, .unset] [(.int (1 : Int32))]))
  refine OwnWp.step (U' := T13.setTop (mkF m 46 #[.val (.long p1), .second, .val (.int p2), .val (.long w1), .second, .val (.ref b12), .unset, .unset, .unset] [(.int (f12 (1 : Int32).toInt))])) (fun t k => ?_) ?_
  · show Steps p.tables e below (T13.setTop (mkF m 39 #[.val (.long p1), .second, .val (.int p2), .val (.long w1), .second, .val (.ref b12), .unset, .unset, .unset] [(.int (1 : Int32))])) _
    refine XS.ifNo Xg13.here hx rfl (hb hby at_39) rfl (XT.i0_eq_f (by decide)) ?_
    show Steps p.tables e below (T13.setTop (mkF m 42 #[.val (.long p1), .second, .val (.int p2), .val (.long w1), .second, .val (.ref b12), .unset, .unset, .unset] [])) _
    refine XS.aload Xg13.here hx rfl (hb hby at_42) rfl rfl ?_
    show Steps p.tables e below (T13.setTop (mkF m 44 #[.val (.long p1), .second, .val (.int p2), .val (.long w1), .second, .val (.ref b12), .unset, .unset, .unset] [(.ref b12)])) _
    refine XT.iconstV Xg13.here hx rfl (1 : Int32) (hb hby at_44) rfl ?_
    show Steps p.tables e below (T13.setTop (mkF m 45 #[.val (.long p1), .second, .val (.int p2), .val (.long w1), .second, .val (.ref b12), .unset, .unset, .unset] [(.int (1 : Int32)), (.ref b12)])) _
    refine OwnA.ldB Xg13 hx hZ eh13 ab12 (by decide) (by decide) rfl rfl (hb hby at_45) ?_
    show Steps p.tables e below (T13.setTop (mkF m 46 #[.val (.long p1), .second, .val (.int p2), .val (.long w1), .second, .val (.ref b12), .unset, .unset, .unset] [(.int (f12 (1 : Int32).toInt))])) _
    exact k
  obtain ⟨w3, qw3⟩ : ∃ z : Int32, z = (f12 (1 : Int32).toInt) := ⟨_, rfl⟩
  rw [← qw3]
  show OwnWp p e below s _ _ _ (T13.setTop (mkF m 46 #[.val (.long p1), .second, .val (.int p2), .val (.long w1), .second, .val (.ref b12), .unset, .unset, .unset] [(.int w3)]))
  obtain ⟨_, _, ⟨T14, L14, k14, n14⟩, -, X14, ⟨Lc14, hQ14, l14, y14, z14⟩, st14⟩ := Jvm.LawKit.callS Xg13 hx (y := (⟨"leafrun/bench/BenchDataKeyPinLaw", "isDigit", "(B)Z"⟩ : MethodName)) hown (mvT hZ (hw _ (List.mem_of_getElem? (i := 8) rfl))) (mvT hZ (hw _ (List.mem_of_getElem? (i := 9) rfl))) (mvT hZ (hw _ (List.mem_of_getElem? (i := 10) rfl))) (mvT hZ (hw _ (List.mem_of_getElem? (i := 11) rfl))) (by decide) (backOf (W := 0) (rm2 l Z a0 hw [] w3 T12.heap n0 Z12 (own_bnd _ (hf 1 (by decide) (by decide)) w3 qw3).1 (own_bnd _ (hf 1 (by decide) (by decide)) w3 qw3).2) hZ (hw _ (List.mem_of_getElem? (i := 11) rfl)) (hw _ (List.mem_of_getElem? (i := 10) rfl)) (by decide) (by decide)) (g := (mkF m 46 #[.val (.long p1), .second, .val (.int p2), .val (.long w1), .second, .val (.ref b12), .unset, .unset, .unset] [(.int w3)])) rfl (by rw [hml]; rfl) (argsL := [(.int w3)]) (rest := []) (lenOf pd_2 rfl) rfl (by show 2 * 0 + _ ≤ _; exact Nat.le_of_eq rfl) (hb hby at_46) (fun _ _ => ⟨rfl, eh13, (by dsimp only [Pt.cells]; decide), (by dsimp only [Pt.slots]; decide)⟩)
  dsimp only [Pt.U, Pt.locs, Pt.cells, Pt.slots] at X14 l14 y14 z14 st14 hQ14
  subst l14 y14 z14
  obtain ⟨rfl, Nc14, hp14⟩ := hQ14
  have N14 := Fr.app Ng13 Nc14
  refine OwnWp.step st14 ?_
  have eh14 : T14.heap = T12.heap := hp14
  obtain ⟨Lg14, Xg14, Ng14⟩ := own_fold (c' := 1) (s' := 16) X14 N14 (by decide) (by decide)
  show OwnWp p e below s _ _ _ (T14.setTop (mkF m 49 #[.val (.long p1), .second, .val (.int p2), .val (.long w1), .second, .val (.ref b12), .unset, .unset, .unset] [(.int (1 : Int32))]))
  refine OwnWp.step (U' := T14.setTop (mkF m 56 #[.val (.long p1), .second, .val (.int p2), .val (.long w1), .second, .val (.ref b12), .unset, .unset, .unset] [(.int (f12 (2 : Int32).toInt))])) (fun t k => ?_) ?_
  · show Steps p.tables e below (T14.setTop (mkF m 49 #[.val (.long p1), .second, .val (.int p2), .val (.long w1), .second, .val (.ref b12), .unset, .unset, .unset] [(.int (1 : Int32))])) _
    refine XS.ifNo Xg14.here hx rfl (hb hby at_49) rfl (XT.i0_eq_f (by decide)) ?_
    show Steps p.tables e below (T14.setTop (mkF m 52 #[.val (.long p1), .second, .val (.int p2), .val (.long w1), .second, .val (.ref b12), .unset, .unset, .unset] [])) _
    refine XS.aload Xg14.here hx rfl (hb hby at_52) rfl rfl ?_
    show Steps p.tables e below (T14.setTop (mkF m 54 #[.val (.long p1), .second, .val (.int p2), .val (.long w1), .second, .val (.ref b12), .unset, .unset, .unset] [(.ref b12)])) _
    refine XT.iconstV Xg14.here hx rfl (2 : Int32) (hb hby at_54) rfl ?_
    show Steps p.tables e below (T14.setTop (mkF m 55 #[.val (.long p1), .second, .val (.int p2), .val (.long w1), .second, .val (.ref b12), .unset, .unset, .unset] [(.int (2 : Int32)), (.ref b12)])) _
    refine OwnA.ldB Xg14 hx hZ eh14 ab12 (by decide) (by decide) rfl rfl (hb hby at_55) ?_
    show Steps p.tables e below (T14.setTop (mkF m 56 #[.val (.long p1), .second, .val (.int p2), .val (.long w1), .second, .val (.ref b12), .unset, .unset, .unset] [(.int (f12 (2 : Int32).toInt))])) _
    exact k
  obtain ⟨w4, qw4⟩ : ∃ z : Int32, z = (f12 (2 : Int32).toInt) := ⟨_, rfl⟩
  rw [← qw4]
  show OwnWp p e below s _ _ _ (T14.setTop (mkF m 56 #[.val (.long p1), .second, .val (.int p2), .val (.long w1), .second, .val (.ref b12), .unset, .unset, .unset] [(.int w4)]))
  obtain ⟨_, _, ⟨T15, L15, k15, n15⟩, -, X15, ⟨Lc15, hQ15, l15, y15, z15⟩, st15⟩ := Jvm.LawKit.callS Xg14 hx (y := (⟨"leafrun/bench/BenchDataKeyPinLaw", "isDigit", "(B)Z"⟩ : MethodName)) hown (mvT hZ (hw _ (List.mem_of_getElem? (i := 8) rfl))) (mvT hZ (hw _ (List.mem_of_getElem? (i := 9) rfl))) (mvT hZ (hw _ (List.mem_of_getElem? (i := 10) rfl))) (mvT hZ (hw _ (List.mem_of_getElem? (i := 11) rfl))) (by decide) (backOf (W := 0) (rm2 l Z a0 hw [] w4 T12.heap n0 Z12 (own_bnd _ (hf 2 (by decide) (by decide)) w4 qw4).1 (own_bnd _ (hf 2 (by decide) (by decide)) w4 qw4).2) hZ (hw _ (List.mem_of_getElem? (i := 11) rfl)) (hw _ (List.mem_of_getElem? (i := 10) rfl)) (by decide) (by decide)) (g := (mkF m 56 #[.val (.long p1), .second, .val (.int p2), .val (.long w1), .second, .val (.ref b12), .unset, .unset, .unset] [(.int w4)])) rfl (by rw [hml]; rfl) (argsL := [(.int w4)]) (rest := []) (lenOf pd_2 rfl) rfl (by show 2 * 0 + _ ≤ _; exact Nat.le_of_eq rfl) (hb hby at_56) (fun _ _ => ⟨rfl, eh14, (by dsimp only [Pt.cells]; decide), (by dsimp only [Pt.slots]; decide)⟩)
  dsimp only [Pt.U, Pt.locs, Pt.cells, Pt.slots] at X15 l15 y15 z15 st15 hQ15
  subst l15 y15 z15
  obtain ⟨rfl, Nc15, hp15⟩ := hQ15
  have N15 := Fr.app Ng14 Nc15
  refine OwnWp.step st15 ?_
  have eh15 : T15.heap = T12.heap := hp15
  obtain ⟨Lg15, Xg15, Ng15⟩ := own_fold (c' := 1) (s' := 16) X15 N15 (by decide) (by decide)
  show OwnWp p e below s _ _ _ (T15.setTop (mkF m 59 #[.val (.long p1), .second, .val (.int p2), .val (.long w1), .second, .val (.ref b12), .unset, .unset, .unset] [(.int (1 : Int32))]))
  refine OwnWp.step (U' := T15.setTop (mkF m 66 #[.val (.long p1), .second, .val (.int p2), .val (.long w1), .second, .val (.ref b12), .unset, .unset, .unset] [(.int (f12 (3 : Int32).toInt))])) (fun t k => ?_) ?_
  · show Steps p.tables e below (T15.setTop (mkF m 59 #[.val (.long p1), .second, .val (.int p2), .val (.long w1), .second, .val (.ref b12), .unset, .unset, .unset] [(.int (1 : Int32))])) _
    refine XS.ifNo Xg15.here hx rfl (hb hby at_59) rfl (XT.i0_eq_f (by decide)) ?_
    show Steps p.tables e below (T15.setTop (mkF m 62 #[.val (.long p1), .second, .val (.int p2), .val (.long w1), .second, .val (.ref b12), .unset, .unset, .unset] [])) _
    refine XS.aload Xg15.here hx rfl (hb hby at_62) rfl rfl ?_
    show Steps p.tables e below (T15.setTop (mkF m 64 #[.val (.long p1), .second, .val (.int p2), .val (.long w1), .second, .val (.ref b12), .unset, .unset, .unset] [(.ref b12)])) _
    refine XT.iconstV Xg15.here hx rfl (3 : Int32) (hb hby at_64) rfl ?_
    show Steps p.tables e below (T15.setTop (mkF m 65 #[.val (.long p1), .second, .val (.int p2), .val (.long w1), .second, .val (.ref b12), .unset, .unset, .unset] [(.int (3 : Int32)), (.ref b12)])) _
    refine OwnA.ldB Xg15 hx hZ eh15 ab12 (by decide) (by decide) rfl rfl (hb hby at_65) ?_
    show Steps p.tables e below (T15.setTop (mkF m 66 #[.val (.long p1), .second, .val (.int p2), .val (.long w1), .second, .val (.ref b12), .unset, .unset, .unset] [(.int (f12 (3 : Int32).toInt))])) _
    exact k
  obtain ⟨w5, qw5⟩ : ∃ z : Int32, z = (f12 (3 : Int32).toInt) := ⟨_, rfl⟩
  rw [← qw5]
  show OwnWp p e below s _ _ _ (T15.setTop (mkF m 66 #[.val (.long p1), .second, .val (.int p2), .val (.long w1), .second, .val (.ref b12), .unset, .unset, .unset] [(.int w5)]))
  obtain ⟨_, _, ⟨T16, L16, k16, n16⟩, -, X16, ⟨Lc16, hQ16, l16, y16, z16⟩, st16⟩ := Jvm.LawKit.callS Xg15 hx (y := (⟨"leafrun/bench/BenchDataKeyPinLaw", "isDigit", "(B)Z"⟩ : MethodName)) hown (mvT hZ (hw _ (List.mem_of_getElem? (i := 8) rfl))) (mvT hZ (hw _ (List.mem_of_getElem? (i := 9) rfl))) (mvT hZ (hw _ (List.mem_of_getElem? (i := 10) rfl))) (mvT hZ (hw _ (List.mem_of_getElem? (i := 11) rfl))) (by decide) (backOf (W := 0) (rm2 l Z a0 hw [] w5 T12.heap n0 Z12 (own_bnd _ (hf 3 (by decide) (by decide)) w5 qw5).1 (own_bnd _ (hf 3 (by decide) (by decide)) w5 qw5).2) hZ (hw _ (List.mem_of_getElem? (i := 11) rfl)) (hw _ (List.mem_of_getElem? (i := 10) rfl)) (by decide) (by decide)) (g := (mkF m 66 #[.val (.long p1), .second, .val (.int p2), .val (.long w1), .second, .val (.ref b12), .unset, .unset, .unset] [(.int w5)])) rfl (by rw [hml]; rfl) (argsL := [(.int w5)]) (rest := []) (lenOf pd_2 rfl) rfl (by show 2 * 0 + _ ≤ _; exact Nat.le_of_eq rfl) (hb hby at_66) (fun _ _ => ⟨rfl, eh15, (by dsimp only [Pt.cells]; decide), (by dsimp only [Pt.slots]; decide)⟩)
  dsimp only [Pt.U, Pt.locs, Pt.cells, Pt.slots] at X16 l16 y16 z16 st16 hQ16
  subst l16 y16 z16
  obtain ⟨rfl, Nc16, hp16⟩ := hQ16
  have N16 := Fr.app Ng15 Nc16
  refine OwnWp.step st16 ?_
  have eh16 : T16.heap = T12.heap := hp16
  obtain ⟨Lg16, Xg16, Ng16⟩ := own_fold (c' := 1) (s' := 16) X16 N16 (by decide) (by decide)
  show OwnWp p e below s _ _ _ (T16.setTop (mkF m 69 #[.val (.long p1), .second, .val (.int p2), .val (.long w1), .second, .val (.ref b12), .unset, .unset, .unset] [(.int (1 : Int32))]))
  refine OwnWp.step (U' := T16.setTop (mkF m 76 #[.val (.long p1), .second, .val (.int p2), .val (.long w1), .second, .val (.ref b12), .unset, .unset, .unset] [(.int (f12 (4 : Int32).toInt))])) (fun t k => ?_) ?_
  · show Steps p.tables e below (T16.setTop (mkF m 69 #[.val (.long p1), .second, .val (.int p2), .val (.long w1), .second, .val (.ref b12), .unset, .unset, .unset] [(.int (1 : Int32))])) _
    refine XS.ifNo Xg16.here hx rfl (hb hby at_69) rfl (XT.i0_eq_f (by decide)) ?_
    show Steps p.tables e below (T16.setTop (mkF m 72 #[.val (.long p1), .second, .val (.int p2), .val (.long w1), .second, .val (.ref b12), .unset, .unset, .unset] [])) _
    refine XS.aload Xg16.here hx rfl (hb hby at_72) rfl rfl ?_
    show Steps p.tables e below (T16.setTop (mkF m 74 #[.val (.long p1), .second, .val (.int p2), .val (.long w1), .second, .val (.ref b12), .unset, .unset, .unset] [(.ref b12)])) _
    refine XT.iconstV Xg16.here hx rfl (4 : Int32) (hb hby at_74) rfl ?_
    show Steps p.tables e below (T16.setTop (mkF m 75 #[.val (.long p1), .second, .val (.int p2), .val (.long w1), .second, .val (.ref b12), .unset, .unset, .unset] [(.int (4 : Int32)), (.ref b12)])) _
    refine OwnA.ldB Xg16 hx hZ eh16 ab12 (by decide) (by decide) rfl rfl (hb hby at_75) ?_
    show Steps p.tables e below (T16.setTop (mkF m 76 #[.val (.long p1), .second, .val (.int p2), .val (.long w1), .second, .val (.ref b12), .unset, .unset, .unset] [(.int (f12 (4 : Int32).toInt))])) _
    exact k
  obtain ⟨w6, qw6⟩ : ∃ z : Int32, z = (f12 (4 : Int32).toInt) := ⟨_, rfl⟩
  rw [← qw6]
  show OwnWp p e below s _ _ _ (T16.setTop (mkF m 76 #[.val (.long p1), .second, .val (.int p2), .val (.long w1), .second, .val (.ref b12), .unset, .unset, .unset] [(.int w6)]))
  obtain ⟨_, _, ⟨T17, L17, k17, n17⟩, -, X17, ⟨Lc17, hQ17, l17, y17, z17⟩, st17⟩ := Jvm.LawKit.callS Xg16 hx (y := (⟨"leafrun/bench/BenchDataKeyPinLaw", "isDigit", "(B)Z"⟩ : MethodName)) hown (mvT hZ (hw _ (List.mem_of_getElem? (i := 8) rfl))) (mvT hZ (hw _ (List.mem_of_getElem? (i := 9) rfl))) (mvT hZ (hw _ (List.mem_of_getElem? (i := 10) rfl))) (mvT hZ (hw _ (List.mem_of_getElem? (i := 11) rfl))) (by decide) (backOf (W := 0) (rm2 l Z a0 hw [] w6 T12.heap n0 Z12 (own_bnd _ (hf 4 (by decide) (by decide)) w6 qw6).1 (own_bnd _ (hf 4 (by decide) (by decide)) w6 qw6).2) hZ (hw _ (List.mem_of_getElem? (i := 11) rfl)) (hw _ (List.mem_of_getElem? (i := 10) rfl)) (by decide) (by decide)) (g := (mkF m 76 #[.val (.long p1), .second, .val (.int p2), .val (.long w1), .second, .val (.ref b12), .unset, .unset, .unset] [(.int w6)])) rfl (by rw [hml]; rfl) (argsL := [(.int w6)]) (rest := []) (lenOf pd_2 rfl) rfl (by show 2 * 0 + _ ≤ _; exact Nat.le_of_eq rfl) (hb hby at_76) (fun _ _ => ⟨rfl, eh16, (by dsimp only [Pt.cells]; decide), (by dsimp only [Pt.slots]; decide)⟩)
  dsimp only [Pt.U, Pt.locs, Pt.cells, Pt.slots] at X17 l17 y17 z17 st17 hQ17
  subst l17 y17 z17
  obtain ⟨rfl, Nc17, hp17⟩ := hQ17
  have N17 := Fr.app Ng16 Nc17
  refine OwnWp.step st17 ?_
  have eh17 : T17.heap = T12.heap := hp17
  obtain ⟨Lg17, Xg17, Ng17⟩ := own_fold (c' := 1) (s' := 16) X17 N17 (by decide) (by decide)
  show OwnWp p e below s _ _ _ (T17.setTop (mkF m 79 #[.val (.long p1), .second, .val (.int p2), .val (.long w1), .second, .val (.ref b12), .unset, .unset, .unset] [(.int (1 : Int32))]))
  refine OwnWp.step (U' := T17.setTop (mkF m 86 #[.val (.long p1), .second, .val (.int p2), .val (.long w1), .second, .val (.ref b12), .unset, .unset, .unset] [(.int (f12 (5 : Int32).toInt))])) (fun t k => ?_) ?_
  · show Steps p.tables e below (T17.setTop (mkF m 79 #[.val (.long p1), .second, .val (.int p2), .val (.long w1), .second, .val (.ref b12), .unset, .unset, .unset] [(.int (1 : Int32))])) _
    refine XS.ifNo Xg17.here hx rfl (hb hby at_79) rfl (XT.i0_eq_f (by decide)) ?_
    show Steps p.tables e below (T17.setTop (mkF m 82 #[.val (.long p1), .second, .val (.int p2), .val (.long w1), .second, .val (.ref b12), .unset, .unset, .unset] [])) _
    refine XS.aload Xg17.here hx rfl (hb hby at_82) rfl rfl ?_
    show Steps p.tables e below (T17.setTop (mkF m 84 #[.val (.long p1), .second, .val (.int p2), .val (.long w1), .second, .val (.ref b12), .unset, .unset, .unset] [(.ref b12)])) _
    refine XT.iconstV Xg17.here hx rfl (5 : Int32) (hb hby at_84) rfl ?_
    show Steps p.tables e below (T17.setTop (mkF m 85 #[.val (.long p1), .second, .val (.int p2), .val (.long w1), .second, .val (.ref b12), .unset, .unset, .unset] [(.int (5 : Int32)), (.ref b12)])) _
    refine OwnA.ldB Xg17 hx hZ eh17 ab12 (by decide) (by decide) rfl rfl (hb hby at_85) ?_
    show Steps p.tables e below (T17.setTop (mkF m 86 #[.val (.long p1), .second, .val (.int p2), .val (.long w1), .second, .val (.ref b12), .unset, .unset, .unset] [(.int (f12 (5 : Int32).toInt))])) _
    exact k
  obtain ⟨w7, qw7⟩ : ∃ z : Int32, z = (f12 (5 : Int32).toInt) := ⟨_, rfl⟩
  rw [← qw7]
  show OwnWp p e below s _ _ _ (T17.setTop (mkF m 86 #[.val (.long p1), .second, .val (.int p2), .val (.long w1), .second, .val (.ref b12), .unset, .unset, .unset] [(.int w7)]))
  obtain ⟨_, _, ⟨T18, L18, k18, n18⟩, -, X18, ⟨Lc18, hQ18, l18, y18, z18⟩, st18⟩ := Jvm.LawKit.callS Xg17 hx (y := (⟨"leafrun/bench/BenchDataKeyPinLaw", "isDigit", "(B)Z"⟩ : MethodName)) hown (mvT hZ (hw _ (List.mem_of_getElem? (i := 8) rfl))) (mvT hZ (hw _ (List.mem_of_getElem? (i := 9) rfl))) (mvT hZ (hw _ (List.mem_of_getElem? (i := 10) rfl))) (mvT hZ (hw _ (List.mem_of_getElem? (i := 11) rfl))) (by decide) (backOf (W := 0) (rm2 l Z a0 hw [] w7 T12.heap n0 Z12 (own_bnd _ (hf 5 (by decide) (by decide)) w7 qw7).1 (own_bnd _ (hf 5 (by decide) (by decide)) w7 qw7).2) hZ (hw _ (List.mem_of_getElem? (i := 11) rfl)) (hw _ (List.mem_of_getElem? (i := 10) rfl)) (by decide) (by decide)) (g := (mkF m 86 #[.val (.long p1), .second, .val (.int p2), .val (.long w1), .second, .val (.ref b12), .unset, .unset, .unset] [(.int w7)])) rfl (by rw [hml]; rfl) (argsL := [(.int w7)]) (rest := []) (lenOf pd_2 rfl) rfl (by show 2 * 0 + _ ≤ _; exact Nat.le_of_eq rfl) (hb hby at_86) (fun _ _ => ⟨rfl, eh17, (by dsimp only [Pt.cells]; decide), (by dsimp only [Pt.slots]; decide)⟩)
  dsimp only [Pt.U, Pt.locs, Pt.cells, Pt.slots] at X18 l18 y18 z18 st18 hQ18
  subst l18 y18 z18
  obtain ⟨rfl, Nc18, hp18⟩ := hQ18
  have N18 := Fr.app Ng17 Nc18
  refine OwnWp.step st18 ?_
  have eh18 : T18.heap = T12.heap := hp18
  obtain ⟨Lg18, Xg18, Ng18⟩ := own_fold (c' := 1) (s' := 16) X18 N18 (by decide) (by decide)
  show OwnWp p e below s _ _ _ (T18.setTop (mkF m 89 #[.val (.long p1), .second, .val (.int p2), .val (.long w1), .second, .val (.ref b12), .unset, .unset, .unset] [(.int (1 : Int32))]))
  refine OwnWp.step (U' := T18.setTop (mkF m 97 #[.val (.long p1), .second, .val (.int p2), .val (.long w1), .second, .val (.ref b12), .unset, .unset, .unset] [(.int (f12 (6 : Int32).toInt))])) (fun t k => ?_) ?_
  · show Steps p.tables e below (T18.setTop (mkF m 89 #[.val (.long p1), .second, .val (.int p2), .val (.long w1), .second, .val (.ref b12), .unset, .unset, .unset] [(.int (1 : Int32))])) _
    refine XS.ifNo Xg18.here hx rfl (hb hby at_89) rfl (XT.i0_eq_f (by decide)) ?_
    show Steps p.tables e below (T18.setTop (mkF m 92 #[.val (.long p1), .second, .val (.int p2), .val (.long w1), .second, .val (.ref b12), .unset, .unset, .unset] [])) _
    refine XS.aload Xg18.here hx rfl (hb hby at_92) rfl rfl ?_
    show Steps p.tables e below (T18.setTop (mkF m 94 #[.val (.long p1), .second, .val (.int p2), .val (.long w1), .second, .val (.ref b12), .unset, .unset, .unset] [(.ref b12)])) _
    refine XT.bipushV Xg18.here hx rfl (6 : Int32) (hb hby at_94) rfl ?_
    show Steps p.tables e below (T18.setTop (mkF m 96 #[.val (.long p1), .second, .val (.int p2), .val (.long w1), .second, .val (.ref b12), .unset, .unset, .unset] [(.int (6 : Int32)), (.ref b12)])) _
    refine OwnA.ldB Xg18 hx hZ eh18 ab12 (by decide) (by decide) rfl rfl (hb hby at_96) ?_
    show Steps p.tables e below (T18.setTop (mkF m 97 #[.val (.long p1), .second, .val (.int p2), .val (.long w1), .second, .val (.ref b12), .unset, .unset, .unset] [(.int (f12 (6 : Int32).toInt))])) _
    exact k
  obtain ⟨w8, qw8⟩ : ∃ z : Int32, z = (f12 (6 : Int32).toInt) := ⟨_, rfl⟩
  rw [← qw8]
  show OwnWp p e below s _ _ _ (T18.setTop (mkF m 97 #[.val (.long p1), .second, .val (.int p2), .val (.long w1), .second, .val (.ref b12), .unset, .unset, .unset] [(.int w8)]))
  obtain ⟨_, _, ⟨T19, L19, k19, n19⟩, -, X19, ⟨Lc19, hQ19, l19, y19, z19⟩, st19⟩ := Jvm.LawKit.callS Xg18 hx (y := (⟨"leafrun/bench/BenchDataKeyPinLaw", "isDigit", "(B)Z"⟩ : MethodName)) hown (mvT hZ (hw _ (List.mem_of_getElem? (i := 8) rfl))) (mvT hZ (hw _ (List.mem_of_getElem? (i := 9) rfl))) (mvT hZ (hw _ (List.mem_of_getElem? (i := 10) rfl))) (mvT hZ (hw _ (List.mem_of_getElem? (i := 11) rfl))) (by decide) (backOf (W := 0) (rm2 l Z a0 hw [] w8 T12.heap n0 Z12 (own_bnd _ (hf 6 (by decide) (by decide)) w8 qw8).1 (own_bnd _ (hf 6 (by decide) (by decide)) w8 qw8).2) hZ (hw _ (List.mem_of_getElem? (i := 11) rfl)) (hw _ (List.mem_of_getElem? (i := 10) rfl)) (by decide) (by decide)) (g := (mkF m 97 #[.val (.long p1), .second, .val (.int p2), .val (.long w1), .second, .val (.ref b12), .unset, .unset, .unset] [(.int w8)])) rfl (by rw [hml]; rfl) (argsL := [(.int w8)]) (rest := []) (lenOf pd_2 rfl) rfl (by show 2 * 0 + _ ≤ _; exact Nat.le_of_eq rfl) (hb hby at_97) (fun _ _ => ⟨rfl, eh18, (by dsimp only [Pt.cells]; decide), (by dsimp only [Pt.slots]; decide)⟩)
  dsimp only [Pt.U, Pt.locs, Pt.cells, Pt.slots] at X19 l19 y19 z19 st19 hQ19
  subst l19 y19 z19
  obtain ⟨rfl, Nc19, hp19⟩ := hQ19
  have N19 := Fr.app Ng18 Nc19
  refine OwnWp.step st19 ?_
  have eh19 : T19.heap = T12.heap := hp19
  obtain ⟨Lg19, Xg19, Ng19⟩ := own_fold (c' := 1) (s' := 16) X19 N19 (by decide) (by decide)
  show OwnWp p e below s _ _ _ (T19.setTop (mkF m 100 #[.val (.long p1), .second, .val (.int p2), .val (.long w1), .second, .val (.ref b12), .unset, .unset, .unset] [(.int (1 : Int32))]))
  refine OwnWp.step (U' := T19.setTop (mkF m 108 #[.val (.long p1), .second, .val (.int p2), .val (.long w1), .second, .val (.ref b12), .unset, .unset, .unset] [(.int (f12 (7 : Int32).toInt))])) (fun t k => ?_) ?_
  · show Steps p.tables e below (T19.setTop (mkF m 100 #[.val (.long p1), .second, .val (.int p2), .val (.long w1), .second, .val (.ref b12), .unset, .unset, .unset] [(.int (1 : Int32))])) _
    refine XS.ifNo Xg19.here hx rfl (hb hby at_100) rfl (XT.i0_eq_f (by decide)) ?_
    show Steps p.tables e below (T19.setTop (mkF m 103 #[.val (.long p1), .second, .val (.int p2), .val (.long w1), .second, .val (.ref b12), .unset, .unset, .unset] [])) _
    refine XS.aload Xg19.here hx rfl (hb hby at_103) rfl rfl ?_
    show Steps p.tables e below (T19.setTop (mkF m 105 #[.val (.long p1), .second, .val (.int p2), .val (.long w1), .second, .val (.ref b12), .unset, .unset, .unset] [(.ref b12)])) _
    refine XT.bipushV Xg19.here hx rfl (7 : Int32) (hb hby at_105) rfl ?_
    show Steps p.tables e below (T19.setTop (mkF m 107 #[.val (.long p1), .second, .val (.int p2), .val (.long w1), .second, .val (.ref b12), .unset, .unset, .unset] [(.int (7 : Int32)), (.ref b12)])) _
    refine OwnA.ldB Xg19 hx hZ eh19 ab12 (by decide) (by decide) rfl rfl (hb hby at_107) ?_
    show Steps p.tables e below (T19.setTop (mkF m 108 #[.val (.long p1), .second, .val (.int p2), .val (.long w1), .second, .val (.ref b12), .unset, .unset, .unset] [(.int (f12 (7 : Int32).toInt))])) _
    exact k
  obtain ⟨w9, qw9⟩ : ∃ z : Int32, z = (f12 (7 : Int32).toInt) := ⟨_, rfl⟩
  rw [← qw9]
  show OwnWp p e below s _ _ _ (T19.setTop (mkF m 108 #[.val (.long p1), .second, .val (.int p2), .val (.long w1), .second, .val (.ref b12), .unset, .unset, .unset] [(.int w9)]))
  obtain ⟨_, _, ⟨T20, L20, k20, n20⟩, -, X20, ⟨Lc20, hQ20, l20, y20, z20⟩, st20⟩ := Jvm.LawKit.callS Xg19 hx (y := (⟨"leafrun/bench/BenchDataKeyPinLaw", "isDigit", "(B)Z"⟩ : MethodName)) hown (mvT hZ (hw _ (List.mem_of_getElem? (i := 8) rfl))) (mvT hZ (hw _ (List.mem_of_getElem? (i := 9) rfl))) (mvT hZ (hw _ (List.mem_of_getElem? (i := 10) rfl))) (mvT hZ (hw _ (List.mem_of_getElem? (i := 11) rfl))) (by decide) (backOf (W := 0) (rm2 l Z a0 hw [] w9 T12.heap n0 Z12 (own_bnd _ (hf 7 (by decide) (by decide)) w9 qw9).1 (own_bnd _ (hf 7 (by decide) (by decide)) w9 qw9).2) hZ (hw _ (List.mem_of_getElem? (i := 11) rfl)) (hw _ (List.mem_of_getElem? (i := 10) rfl)) (by decide) (by decide)) (g := (mkF m 108 #[.val (.long p1), .second, .val (.int p2), .val (.long w1), .second, .val (.ref b12), .unset, .unset, .unset] [(.int w9)])) rfl (by rw [hml]; rfl) (argsL := [(.int w9)]) (rest := []) (lenOf pd_2 rfl) rfl (by show 2 * 0 + _ ≤ _; exact Nat.le_of_eq rfl) (hb hby at_108) (fun _ _ => ⟨rfl, eh19, (by dsimp only [Pt.cells]; decide), (by dsimp only [Pt.slots]; decide)⟩)
  dsimp only [Pt.U, Pt.locs, Pt.cells, Pt.slots] at X20 l20 y20 z20 st20 hQ20
  subst l20 y20 z20
  obtain ⟨rfl, Nc20, hp20⟩ := hQ20
  have N20 := Fr.app Ng19 Nc20
  refine OwnWp.step st20 ?_
  have eh20 : T20.heap = T12.heap := hp20
  obtain ⟨Lg20, Xg20, Ng20⟩ := own_fold (c' := 1) (s' := 16) X20 N20 (by decide) (by decide)
  show OwnWp p e below s _ _ _ (T20.setTop (mkF m 111 #[.val (.long p1), .second, .val (.int p2), .val (.long w1), .second, .val (.ref b12), .unset, .unset, .unset] [(.int (1 : Int32))]))
  refine OwnWp.step (U' := T20.setTop (mkF m 119 #[.val (.long p1), .second, .val (.int p2), .val (.long w1), .second, .val (.ref b12), .unset, .unset, .unset] [(.int (f12 (8 : Int32).toInt))])) (fun t k => ?_) ?_
  · show Steps p.tables e below (T20.setTop (mkF m 111 #[.val (.long p1), .second, .val (.int p2), .val (.long w1), .second, .val (.ref b12), .unset, .unset, .unset] [(.int (1 : Int32))])) _
    refine XS.ifNo Xg20.here hx rfl (hb hby at_111) rfl (XT.i0_eq_f (by decide)) ?_
    show Steps p.tables e below (T20.setTop (mkF m 114 #[.val (.long p1), .second, .val (.int p2), .val (.long w1), .second, .val (.ref b12), .unset, .unset, .unset] [])) _
    refine XS.aload Xg20.here hx rfl (hb hby at_114) rfl rfl ?_
    show Steps p.tables e below (T20.setTop (mkF m 116 #[.val (.long p1), .second, .val (.int p2), .val (.long w1), .second, .val (.ref b12), .unset, .unset, .unset] [(.ref b12)])) _
    refine XT.bipushV Xg20.here hx rfl (8 : Int32) (hb hby at_116) rfl ?_
    show Steps p.tables e below (T20.setTop (mkF m 118 #[.val (.long p1), .second, .val (.int p2), .val (.long w1), .second, .val (.ref b12), .unset, .unset, .unset] [(.int (8 : Int32)), (.ref b12)])) _
    refine OwnA.ldB Xg20 hx hZ eh20 ab12 (by decide) (by decide) rfl rfl (hb hby at_118) ?_
    show Steps p.tables e below (T20.setTop (mkF m 119 #[.val (.long p1), .second, .val (.int p2), .val (.long w1), .second, .val (.ref b12), .unset, .unset, .unset] [(.int (f12 (8 : Int32).toInt))])) _
    exact k
  obtain ⟨w10, qw10⟩ : ∃ z : Int32, z = (f12 (8 : Int32).toInt) := ⟨_, rfl⟩
  rw [← qw10]
  show OwnWp p e below s _ _ _ (T20.setTop (mkF m 119 #[.val (.long p1), .second, .val (.int p2), .val (.long w1), .second, .val (.ref b12), .unset, .unset, .unset] [(.int w10)]))
  obtain ⟨_, _, ⟨T21, L21, k21, n21⟩, -, X21, ⟨Lc21, hQ21, l21, y21, z21⟩, st21⟩ := Jvm.LawKit.callS Xg20 hx (y := (⟨"leafrun/bench/BenchDataKeyPinLaw", "isDigit", "(B)Z"⟩ : MethodName)) hown (mvT hZ (hw _ (List.mem_of_getElem? (i := 8) rfl))) (mvT hZ (hw _ (List.mem_of_getElem? (i := 9) rfl))) (mvT hZ (hw _ (List.mem_of_getElem? (i := 10) rfl))) (mvT hZ (hw _ (List.mem_of_getElem? (i := 11) rfl))) (by decide) (backOf (W := 0) (rm2 l Z a0 hw [] w10 T12.heap n0 Z12 (own_bnd _ (hf 8 (by decide) (by decide)) w10 qw10).1 (own_bnd _ (hf 8 (by decide) (by decide)) w10 qw10).2) hZ (hw _ (List.mem_of_getElem? (i := 11) rfl)) (hw _ (List.mem_of_getElem? (i := 10) rfl)) (by decide) (by decide)) (g := (mkF m 119 #[.val (.long p1), .second, .val (.int p2), .val (.long w1), .second, .val (.ref b12), .unset, .unset, .unset] [(.int w10)])) rfl (by rw [hml]; rfl) (argsL := [(.int w10)]) (rest := []) (lenOf pd_2 rfl) rfl (by show 2 * 0 + _ ≤ _; exact Nat.le_of_eq rfl) (hb hby at_119) (fun _ _ => ⟨rfl, eh20, (by dsimp only [Pt.cells]; decide), (by dsimp only [Pt.slots]; decide)⟩)
  dsimp only [Pt.U, Pt.locs, Pt.cells, Pt.slots] at X21 l21 y21 z21 st21 hQ21
  subst l21 y21 z21
  obtain ⟨rfl, Nc21, hp21⟩ := hQ21
  have N21 := Fr.app Ng20 Nc21
  refine OwnWp.step st21 ?_
  have eh21 : T21.heap = T12.heap := hp21
  obtain ⟨Lg21, Xg21, Ng21⟩ := own_fold (c' := 1) (s' := 16) X21 N21 (by decide) (by decide)
  show OwnWp p e below s _ _ _ (T21.setTop (mkF m 122 #[.val (.long p1), .second, .val (.int p2), .val (.long w1), .second, .val (.ref b12), .unset, .unset, .unset] [(.int (1 : Int32))]))
  refine OwnWp.step (U' := T21.setTop (mkF m 130 #[.val (.long p1), .second, .val (.int p2), .val (.long w1), .second, .val (.ref b12), .unset, .unset, .unset] [(.int (f12 (9 : Int32).toInt))])) (fun t k => ?_) ?_
  · show Steps p.tables e below (T21.setTop (mkF m 122 #[.val (.long p1), .second, .val (.int p2), .val (.long w1), .second, .val (.ref b12), .unset, .unset, .unset] [(.int (1 : Int32))])) _
    refine XS.ifNo Xg21.here hx rfl (hb hby at_122) rfl (XT.i0_eq_f (by decide)) ?_
    show Steps p.tables e below (T21.setTop (mkF m 125 #[.val (.long p1), .second, .val (.int p2), .val (.long w1), .second, .val (.ref b12), .unset, .unset, .unset] [])) _
    refine XS.aload Xg21.here hx rfl (hb hby at_125) rfl rfl ?_
    show Steps p.tables e below (T21.setTop (mkF m 127 #[.val (.long p1), .second, .val (.int p2), .val (.long w1), .second, .val (.ref b12), .unset, .unset, .unset] [(.ref b12)])) _
    refine XT.bipushV Xg21.here hx rfl (9 : Int32) (hb hby at_127) rfl ?_
    show Steps p.tables e below (T21.setTop (mkF m 129 #[.val (.long p1), .second, .val (.int p2), .val (.long w1), .second, .val (.ref b12), .unset, .unset, .unset] [(.int (9 : Int32)), (.ref b12)])) _
    refine OwnA.ldB Xg21 hx hZ eh21 ab12 (by decide) (by decide) rfl rfl (hb hby at_129) ?_
    show Steps p.tables e below (T21.setTop (mkF m 130 #[.val (.long p1), .second, .val (.int p2), .val (.long w1), .second, .val (.ref b12), .unset, .unset, .unset] [(.int (f12 (9 : Int32).toInt))])) _
    exact k
  obtain ⟨w11, qw11⟩ : ∃ z : Int32, z = (f12 (9 : Int32).toInt) := ⟨_, rfl⟩
  rw [← qw11]
  show OwnWp p e below s _ _ _ (T21.setTop (mkF m 130 #[.val (.long p1), .second, .val (.int p2), .val (.long w1), .second, .val (.ref b12), .unset, .unset, .unset] [(.int w11)]))
  obtain ⟨_, _, ⟨T22, L22, k22, n22⟩, -, X22, ⟨Lc22, hQ22, l22, y22, z22⟩, st22⟩ := Jvm.LawKit.callS Xg21 hx (y := (⟨"leafrun/bench/BenchDataKeyPinLaw", "isDigit", "(B)Z"⟩ : MethodName)) hown (mvT hZ (hw _ (List.mem_of_getElem? (i := 8) rfl))) (mvT hZ (hw _ (List.mem_of_getElem? (i := 9) rfl))) (mvT hZ (hw _ (List.mem_of_getElem? (i := 10) rfl))) (mvT hZ (hw _ (List.mem_of_getElem? (i := 11) rfl))) (by decide) (backOf (W := 0) (rm2 l Z a0 hw [] w11 T12.heap n0 Z12 (own_bnd _ (hf 9 (by decide) (by decide)) w11 qw11).1 (own_bnd _ (hf 9 (by decide) (by decide)) w11 qw11).2) hZ (hw _ (List.mem_of_getElem? (i := 11) rfl)) (hw _ (List.mem_of_getElem? (i := 10) rfl)) (by decide) (by decide)) (g := (mkF m 130 #[.val (.long p1), .second, .val (.int p2), .val (.long w1), .second, .val (.ref b12), .unset, .unset, .unset] [(.int w11)])) rfl (by rw [hml]; rfl) (argsL := [(.int w11)]) (rest := []) (lenOf pd_2 rfl) rfl (by show 2 * 0 + _ ≤ _; exact Nat.le_of_eq rfl) (hb hby at_130) (fun _ _ => ⟨rfl, eh21, (by dsimp only [Pt.cells]; decide), (by dsimp only [Pt.slots]; decide)⟩)
  dsimp only [Pt.U, Pt.locs, Pt.cells, Pt.slots] at X22 l22 y22 z22 st22 hQ22
  subst l22 y22 z22
  obtain ⟨rfl, Nc22, hp22⟩ := hQ22
  have N22 := Fr.app Ng21 Nc22
  refine OwnWp.step st22 ?_
  have eh22 : T22.heap = T12.heap := hp22
  obtain ⟨Lg22, Xg22, Ng22⟩ := own_fold (c' := 1) (s' := 16) X22 N22 (by decide) (by decide)
  show OwnWp p e below s _ _ _ (T22.setTop (mkF m 133 #[.val (.long p1), .second, .val (.int p2), .val (.long w1), .second, .val (.ref b12), .unset, .unset, .unset] [(.int (1 : Int32))]))
  refine OwnWp.step (U' := T22.setTop (mkF m 141 #[.val (.long p1), .second, .val (.int p2), .val (.long w1), .second, .val (.ref b12), .unset, .unset, .unset] [(.int (f12 (10 : Int32).toInt))])) (fun t k => ?_) ?_
  · show Steps p.tables e below (T22.setTop (mkF m 133 #[.val (.long p1), .second, .val (.int p2), .val (.long w1), .second, .val (.ref b12), .unset, .unset, .unset] [(.int (1 : Int32))])) _
    refine XS.ifNo Xg22.here hx rfl (hb hby at_133) rfl (XT.i0_eq_f (by decide)) ?_
    show Steps p.tables e below (T22.setTop (mkF m 136 #[.val (.long p1), .second, .val (.int p2), .val (.long w1), .second, .val (.ref b12), .unset, .unset, .unset] [])) _
    refine XS.aload Xg22.here hx rfl (hb hby at_136) rfl rfl ?_
    show Steps p.tables e below (T22.setTop (mkF m 138 #[.val (.long p1), .second, .val (.int p2), .val (.long w1), .second, .val (.ref b12), .unset, .unset, .unset] [(.ref b12)])) _
    refine XT.bipushV Xg22.here hx rfl (10 : Int32) (hb hby at_138) rfl ?_
    show Steps p.tables e below (T22.setTop (mkF m 140 #[.val (.long p1), .second, .val (.int p2), .val (.long w1), .second, .val (.ref b12), .unset, .unset, .unset] [(.int (10 : Int32)), (.ref b12)])) _
    refine OwnA.ldB Xg22 hx hZ eh22 ab12 (by decide) (by decide) rfl rfl (hb hby at_140) ?_
    show Steps p.tables e below (T22.setTop (mkF m 141 #[.val (.long p1), .second, .val (.int p2), .val (.long w1), .second, .val (.ref b12), .unset, .unset, .unset] [(.int (f12 (10 : Int32).toInt))])) _
    exact k
  obtain ⟨w12, qw12⟩ : ∃ z : Int32, z = (f12 (10 : Int32).toInt) := ⟨_, rfl⟩
  rw [← qw12]
  show OwnWp p e below s _ _ _ (T22.setTop (mkF m 141 #[.val (.long p1), .second, .val (.int p2), .val (.long w1), .second, .val (.ref b12), .unset, .unset, .unset] [(.int w12)]))
  obtain ⟨_, _, ⟨T23, L23, k23, n23⟩, -, X23, ⟨Lc23, hQ23, l23, y23, z23⟩, st23⟩ := Jvm.LawKit.callS Xg22 hx (y := (⟨"leafrun/bench/BenchDataKeyPinLaw", "isDigit", "(B)Z"⟩ : MethodName)) hown (mvT hZ (hw _ (List.mem_of_getElem? (i := 8) rfl))) (mvT hZ (hw _ (List.mem_of_getElem? (i := 9) rfl))) (mvT hZ (hw _ (List.mem_of_getElem? (i := 10) rfl))) (mvT hZ (hw _ (List.mem_of_getElem? (i := 11) rfl))) (by decide) (backOf (W := 0) (rm2 l Z a0 hw [] w12 T12.heap n0 Z12 (own_bnd _ (hf 10 (by decide) (by decide)) w12 qw12).1 (own_bnd _ (hf 10 (by decide) (by decide)) w12 qw12).2) hZ (hw _ (List.mem_of_getElem? (i := 11) rfl)) (hw _ (List.mem_of_getElem? (i := 10) rfl)) (by decide) (by decide)) (g := (mkF m 141 #[.val (.long p1), .second, .val (.int p2), .val (.long w1), .second, .val (.ref b12), .unset, .unset, .unset] [(.int w12)])) rfl (by rw [hml]; rfl) (argsL := [(.int w12)]) (rest := []) (lenOf pd_2 rfl) rfl (by show 2 * 0 + _ ≤ _; exact Nat.le_of_eq rfl) (hb hby at_141) (fun _ _ => ⟨rfl, eh22, (by dsimp only [Pt.cells]; decide), (by dsimp only [Pt.slots]; decide)⟩)
  dsimp only [Pt.U, Pt.locs, Pt.cells, Pt.slots] at X23 l23 y23 z23 st23 hQ23
  subst l23 y23 z23
  obtain ⟨rfl, Nc23, hp23⟩ := hQ23
  have N23 := Fr.app Ng22 Nc23
  refine OwnWp.step st23 ?_
  have eh23 : T23.heap = T12.heap := hp23
  obtain ⟨Lg23, Xg23, Ng23⟩ := own_fold (c' := 1) (s' := 16) X23 N23 (by decide) (by decide)
  show OwnWp p e below s _ _ _ (T23.setTop (mkF m 144 #[.val (.long p1), .second, .val (.int p2), .val (.long w1), .second, .val (.ref b12), .unset, .unset, .unset] [(.int (1 : Int32))]))
  refine OwnWp.step (U' := T23.setTop (mkF m 152 #[.val (.long p1), .second, .val (.int p2), .val (.long w1), .second, .val (.ref b12), .unset, .unset, .unset] [(.int (f12 (11 : Int32).toInt))])) (fun t k => ?_) ?_
  · show Steps p.tables e below (T23.setTop (mkF m 144 #[.val (.long p1), .second, .val (.int p2), .val (.long w1), .second, .val (.ref b12), .unset, .unset, .unset] [(.int (1 : Int32))])) _
    refine XS.ifNo Xg23.here hx rfl (hb hby at_144) rfl (XT.i0_eq_f (by decide)) ?_
    show Steps p.tables e below (T23.setTop (mkF m 147 #[.val (.long p1), .second, .val (.int p2), .val (.long w1), .second, .val (.ref b12), .unset, .unset, .unset] [])) _
    refine XS.aload Xg23.here hx rfl (hb hby at_147) rfl rfl ?_
    show Steps p.tables e below (T23.setTop (mkF m 149 #[.val (.long p1), .second, .val (.int p2), .val (.long w1), .second, .val (.ref b12), .unset, .unset, .unset] [(.ref b12)])) _
    refine XT.bipushV Xg23.here hx rfl (11 : Int32) (hb hby at_149) rfl ?_
    show Steps p.tables e below (T23.setTop (mkF m 151 #[.val (.long p1), .second, .val (.int p2), .val (.long w1), .second, .val (.ref b12), .unset, .unset, .unset] [(.int (11 : Int32)), (.ref b12)])) _
    refine OwnA.ldB Xg23 hx hZ eh23 ab12 (by decide) (by decide) rfl rfl (hb hby at_151) ?_
    show Steps p.tables e below (T23.setTop (mkF m 152 #[.val (.long p1), .second, .val (.int p2), .val (.long w1), .second, .val (.ref b12), .unset, .unset, .unset] [(.int (f12 (11 : Int32).toInt))])) _
    exact k
  obtain ⟨w13, qw13⟩ : ∃ z : Int32, z = (f12 (11 : Int32).toInt) := ⟨_, rfl⟩
  rw [← qw13]
  show OwnWp p e below s _ _ _ (T23.setTop (mkF m 152 #[.val (.long p1), .second, .val (.int p2), .val (.long w1), .second, .val (.ref b12), .unset, .unset, .unset] [(.int w13)]))
  obtain ⟨_, _, ⟨T24, L24, k24, n24⟩, -, X24, ⟨Lc24, hQ24, l24, y24, z24⟩, st24⟩ := Jvm.LawKit.callS Xg23 hx (y := (⟨"leafrun/bench/BenchDataKeyPinLaw", "isDigit", "(B)Z"⟩ : MethodName)) hown (mvT hZ (hw _ (List.mem_of_getElem? (i := 8) rfl))) (mvT hZ (hw _ (List.mem_of_getElem? (i := 9) rfl))) (mvT hZ (hw _ (List.mem_of_getElem? (i := 10) rfl))) (mvT hZ (hw _ (List.mem_of_getElem? (i := 11) rfl))) (by decide) (backOf (W := 0) (rm2 l Z a0 hw [] w13 T12.heap n0 Z12 (own_bnd _ (hf 11 (by decide) (by decide)) w13 qw13).1 (own_bnd _ (hf 11 (by decide) (by decide)) w13 qw13).2) hZ (hw _ (List.mem_of_getElem? (i := 11) rfl)) (hw _ (List.mem_of_getElem? (i := 10) rfl)) (by decide) (by decide)) (g := (mkF m 152 #[.val (.long p1), .second, .val (.int p2), .val (.long w1), .second, .val (.ref b12), .unset, .unset, .unset] [(.int w13)])) rfl (by rw [hml]; rfl) (argsL := [(.int w13)]) (rest := []) (lenOf pd_2 rfl) rfl (by show 2 * 0 + _ ≤ _; exact Nat.le_of_eq rfl) (hb hby at_152) (fun _ _ => ⟨rfl, eh23, (by dsimp only [Pt.cells]; decide), (by dsimp only [Pt.slots]; decide)⟩)
  dsimp only [Pt.U, Pt.locs, Pt.cells, Pt.slots] at X24 l24 y24 z24 st24 hQ24
  subst l24 y24 z24
  obtain ⟨rfl, Nc24, hp24⟩ := hQ24
  have N24 := Fr.app Ng23 Nc24
  refine OwnWp.step st24 ?_
  have eh24 : T24.heap = T12.heap := hp24
  obtain ⟨Lg24, Xg24, Ng24⟩ := own_fold (c' := 1) (s' := 16) X24 N24 (by decide) (by decide)
  show OwnWp p e below s _ _ _ (T24.setTop (mkF m 155 #[.val (.long p1), .second, .val (.int p2), .val (.long w1), .second, .val (.ref b12), .unset, .unset, .unset] [(.int (1 : Int32))]))
  refine OwnWp.step (U' := T24.setTop (mkF m 163 #[.val (.long p1), .second, .val (.int p2), .val (.long w1), .second, .val (.ref b12), .unset, .unset, .unset] [(.int (f12 (12 : Int32).toInt))])) (fun t k => ?_) ?_
  · show Steps p.tables e below (T24.setTop (mkF m 155 #[.val (.long p1), .second, .val (.int p2), .val (.long w1), .second, .val (.ref b12), .unset, .unset, .unset] [(.int (1 : Int32))])) _
    refine XS.ifNo Xg24.here hx rfl (hb hby at_155) rfl (XT.i0_eq_f (by decide)) ?_
    show Steps p.tables e below (T24.setTop (mkF m 158 #[.val (.long p1), .second, .val (.int p2), .val (.long w1), .second, .val (.ref b12), .unset, .unset, .unset] [])) _
    refine XS.aload Xg24.here hx rfl (hb hby at_158) rfl rfl ?_
    show Steps p.tables e below (T24.setTop (mkF m 160 #[.val (.long p1), .second, .val (.int p2), .val (.long w1), .second, .val (.ref b12), .unset, .unset, .unset] [(.ref b12)])) _
    refine XT.bipushV Xg24.here hx rfl (12 : Int32) (hb hby at_160) rfl ?_
    show Steps p.tables e below (T24.setTop (mkF m 162 #[.val (.long p1), .second, .val (.int p2), .val (.long w1), .second, .val (.ref b12), .unset, .unset, .unset] [(.int (12 : Int32)), (.ref b12)])) _
    refine OwnA.ldB Xg24 hx hZ eh24 ab12 (by decide) (by decide) rfl rfl (hb hby at_162) ?_
    show Steps p.tables e below (T24.setTop (mkF m 163 #[.val (.long p1), .second, .val (.int p2), .val (.long w1), .second, .val (.ref b12), .unset, .unset, .unset] [(.int (f12 (12 : Int32).toInt))])) _
    exact k
  obtain ⟨w14, qw14⟩ : ∃ z : Int32, z = (f12 (12 : Int32).toInt) := ⟨_, rfl⟩
  rw [← qw14]
  show OwnWp p e below s _ _ _ (T24.setTop (mkF m 163 #[.val (.long p1), .second, .val (.int p2), .val (.long w1), .second, .val (.ref b12), .unset, .unset, .unset] [(.int w14)]))
  obtain ⟨_, _, ⟨T25, L25, k25, n25⟩, -, X25, ⟨Lc25, hQ25, l25, y25, z25⟩, st25⟩ := Jvm.LawKit.callS Xg24 hx (y := (⟨"leafrun/bench/BenchDataKeyPinLaw", "isDigit", "(B)Z"⟩ : MethodName)) hown (mvT hZ (hw _ (List.mem_of_getElem? (i := 8) rfl))) (mvT hZ (hw _ (List.mem_of_getElem? (i := 9) rfl))) (mvT hZ (hw _ (List.mem_of_getElem? (i := 10) rfl))) (mvT hZ (hw _ (List.mem_of_getElem? (i := 11) rfl))) (by decide) (backOf (W := 0) (rm2 l Z a0 hw [] w14 T12.heap n0 Z12 (own_bnd _ (hf 12 (by decide) (by decide)) w14 qw14).1 (own_bnd _ (hf 12 (by decide) (by decide)) w14 qw14).2) hZ (hw _ (List.mem_of_getElem? (i := 11) rfl)) (hw _ (List.mem_of_getElem? (i := 10) rfl)) (by decide) (by decide)) (g := (mkF m 163 #[.val (.long p1), .second, .val (.int p2), .val (.long w1), .second, .val (.ref b12), .unset, .unset, .unset] [(.int w14)])) rfl (by rw [hml]; rfl) (argsL := [(.int w14)]) (rest := []) (lenOf pd_2 rfl) rfl (by show 2 * 0 + _ ≤ _; exact Nat.le_of_eq rfl) (hb hby at_163) (fun _ _ => ⟨rfl, eh24, (by dsimp only [Pt.cells]; decide), (by dsimp only [Pt.slots]; decide)⟩)
  dsimp only [Pt.U, Pt.locs, Pt.cells, Pt.slots] at X25 l25 y25 z25 st25 hQ25
  subst l25 y25 z25
  obtain ⟨rfl, Nc25, hp25⟩ := hQ25
  have N25 := Fr.app Ng24 Nc25
  refine OwnWp.step st25 ?_
  have eh25 : T25.heap = T12.heap := hp25
  obtain ⟨Lg25, Xg25, Ng25⟩ := own_fold (c' := 1) (s' := 16) X25 N25 (by decide) (by decide)
  show OwnWp p e below s _ _ _ (T25.setTop (mkF m 166 #[.val (.long p1), .second, .val (.int p2), .val (.long w1), .second, .val (.ref b12), .unset, .unset, .unset] [(.int (1 : Int32))]))
  refine OwnWp.step (U' := T25.setTop (mkF m 174 #[.val (.long p1), .second, .val (.int p2), .val (.long w1), .second, .val (.ref b12), .unset, .unset, .unset] [(.int (f12 (13 : Int32).toInt))])) (fun t k => ?_) ?_
  · show Steps p.tables e below (T25.setTop (mkF m 166 #[.val (.long p1), .second, .val (.int p2), .val (.long w1), .second, .val (.ref b12), .unset, .unset, .unset] [(.int (1 : Int32))])) _
    refine XS.ifNo Xg25.here hx rfl (hb hby at_166) rfl (XT.i0_eq_f (by decide)) ?_
    show Steps p.tables e below (T25.setTop (mkF m 169 #[.val (.long p1), .second, .val (.int p2), .val (.long w1), .second, .val (.ref b12), .unset, .unset, .unset] [])) _
    refine XS.aload Xg25.here hx rfl (hb hby at_169) rfl rfl ?_
    show Steps p.tables e below (T25.setTop (mkF m 171 #[.val (.long p1), .second, .val (.int p2), .val (.long w1), .second, .val (.ref b12), .unset, .unset, .unset] [(.ref b12)])) _
    refine XT.bipushV Xg25.here hx rfl (13 : Int32) (hb hby at_171) rfl ?_
    show Steps p.tables e below (T25.setTop (mkF m 173 #[.val (.long p1), .second, .val (.int p2), .val (.long w1), .second, .val (.ref b12), .unset, .unset, .unset] [(.int (13 : Int32)), (.ref b12)])) _
    refine OwnA.ldB Xg25 hx hZ eh25 ab12 (by decide) (by decide) rfl rfl (hb hby at_173) ?_
    show Steps p.tables e below (T25.setTop (mkF m 174 #[.val (.long p1), .second, .val (.int p2), .val (.long w1), .second, .val (.ref b12), .unset, .unset, .unset] [(.int (f12 (13 : Int32).toInt))])) _
    exact k
  obtain ⟨w15, qw15⟩ : ∃ z : Int32, z = (f12 (13 : Int32).toInt) := ⟨_, rfl⟩
  rw [← qw15]
  show OwnWp p e below s _ _ _ (T25.setTop (mkF m 174 #[.val (.long p1), .second, .val (.int p2), .val (.long w1), .second, .val (.ref b12), .unset, .unset, .unset] [(.int w15)]))
  obtain ⟨_, _, ⟨T26, L26, k26, n26⟩, -, X26, ⟨Lc26, hQ26, l26, y26, z26⟩, st26⟩ := Jvm.LawKit.callS Xg25 hx (y := (⟨"leafrun/bench/BenchDataKeyPinLaw", "isDigit", "(B)Z"⟩ : MethodName)) hown (mvT hZ (hw _ (List.mem_of_getElem? (i := 8) rfl))) (mvT hZ (hw _ (List.mem_of_getElem? (i := 9) rfl))) (mvT hZ (hw _ (List.mem_of_getElem? (i := 10) rfl))) (mvT hZ (hw _ (List.mem_of_getElem? (i := 11) rfl))) (by decide) (backOf (W := 0) (rm2 l Z a0 hw [] w15 T12.heap n0 Z12 (own_bnd _ (hf 13 (by decide) (by decide)) w15 qw15).1 (own_bnd _ (hf 13 (by decide) (by decide)) w15 qw15).2) hZ (hw _ (List.mem_of_getElem? (i := 11) rfl)) (hw _ (List.mem_of_getElem? (i := 10) rfl)) (by decide) (by decide)) (g := (mkF m 174 #[.val (.long p1), .second, .val (.int p2), .val (.long w1), .second, .val (.ref b12), .unset, .unset, .unset] [(.int w15)])) rfl (by rw [hml]; rfl) (argsL := [(.int w15)]) (rest := []) (lenOf pd_2 rfl) rfl (by show 2 * 0 + _ ≤ _; exact Nat.le_of_eq rfl) (hb hby at_174) (fun _ _ => ⟨rfl, eh25, (by dsimp only [Pt.cells]; decide), (by dsimp only [Pt.slots]; decide)⟩)
  dsimp only [Pt.U, Pt.locs, Pt.cells, Pt.slots] at X26 l26 y26 z26 st26 hQ26
  subst l26 y26 z26
  obtain ⟨rfl, Nc26, hp26⟩ := hQ26
  have N26 := Fr.app Ng25 Nc26
  refine OwnWp.step st26 ?_
  have eh26 : T26.heap = T12.heap := hp26
  obtain ⟨Lg26, Xg26, Ng26⟩ := own_fold (c' := 1) (s' := 16) X26 N26 (by decide) (by decide)
  show OwnWp p e below s _ _ _ (T26.setTop (mkF m 177 #[.val (.long p1), .second, .val (.int p2), .val (.long w1), .second, .val (.ref b12), .unset, .unset, .unset] [(.int (1 : Int32))]))
  refine OwnWp.step (U' := T26.setTop (mkF m 185 #[.val (.long p1), .second, .val (.int p2), .val (.long w1), .second, .val (.ref b12), .unset, .unset, .unset] [(.int (f12 (14 : Int32).toInt))])) (fun t k => ?_) ?_
  · show Steps p.tables e below (T26.setTop (mkF m 177 #[.val (.long p1), .second, .val (.int p2), .val (.long w1), .second, .val (.ref b12), .unset, .unset, .unset] [(.int (1 : Int32))])) _
    refine XS.ifNo Xg26.here hx rfl (hb hby at_177) rfl (XT.i0_eq_f (by decide)) ?_
    show Steps p.tables e below (T26.setTop (mkF m 180 #[.val (.long p1), .second, .val (.int p2), .val (.long w1), .second, .val (.ref b12), .unset, .unset, .unset] [])) _
    refine XS.aload Xg26.here hx rfl (hb hby at_180) rfl rfl ?_
    show Steps p.tables e below (T26.setTop (mkF m 182 #[.val (.long p1), .second, .val (.int p2), .val (.long w1), .second, .val (.ref b12), .unset, .unset, .unset] [(.ref b12)])) _
    refine XT.bipushV Xg26.here hx rfl (14 : Int32) (hb hby at_182) rfl ?_
    show Steps p.tables e below (T26.setTop (mkF m 184 #[.val (.long p1), .second, .val (.int p2), .val (.long w1), .second, .val (.ref b12), .unset, .unset, .unset] [(.int (14 : Int32)), (.ref b12)])) _
    refine OwnA.ldB Xg26 hx hZ eh26 ab12 (by decide) (by decide) rfl rfl (hb hby at_184) ?_
    show Steps p.tables e below (T26.setTop (mkF m 185 #[.val (.long p1), .second, .val (.int p2), .val (.long w1), .second, .val (.ref b12), .unset, .unset, .unset] [(.int (f12 (14 : Int32).toInt))])) _
    exact k
  obtain ⟨w16, qw16⟩ : ∃ z : Int32, z = (f12 (14 : Int32).toInt) := ⟨_, rfl⟩
  rw [← qw16]
  show OwnWp p e below s _ _ _ (T26.setTop (mkF m 185 #[.val (.long p1), .second, .val (.int p2), .val (.long w1), .second, .val (.ref b12), .unset, .unset, .unset] [(.int w16)]))
  obtain ⟨_, _, ⟨T27, L27, k27, n27⟩, -, X27, ⟨Lc27, hQ27, l27, y27, z27⟩, st27⟩ := Jvm.LawKit.callS Xg26 hx (y := (⟨"leafrun/bench/BenchDataKeyPinLaw", "isDigit", "(B)Z"⟩ : MethodName)) hown (mvT hZ (hw _ (List.mem_of_getElem? (i := 8) rfl))) (mvT hZ (hw _ (List.mem_of_getElem? (i := 9) rfl))) (mvT hZ (hw _ (List.mem_of_getElem? (i := 10) rfl))) (mvT hZ (hw _ (List.mem_of_getElem? (i := 11) rfl))) (by decide) (backOf (W := 0) (rm2 l Z a0 hw [] w16 T12.heap n0 Z12 (own_bnd _ (hf 14 (by decide) (by decide)) w16 qw16).1 (own_bnd _ (hf 14 (by decide) (by decide)) w16 qw16).2) hZ (hw _ (List.mem_of_getElem? (i := 11) rfl)) (hw _ (List.mem_of_getElem? (i := 10) rfl)) (by decide) (by decide)) (g := (mkF m 185 #[.val (.long p1), .second, .val (.int p2), .val (.long w1), .second, .val (.ref b12), .unset, .unset, .unset] [(.int w16)])) rfl (by rw [hml]; rfl) (argsL := [(.int w16)]) (rest := []) (lenOf pd_2 rfl) rfl (by show 2 * 0 + _ ≤ _; exact Nat.le_of_eq rfl) (hb hby at_185) (fun _ _ => ⟨rfl, eh26, (by dsimp only [Pt.cells]; decide), (by dsimp only [Pt.slots]; decide)⟩)
  dsimp only [Pt.U, Pt.locs, Pt.cells, Pt.slots] at X27 l27 y27 z27 st27 hQ27
  subst l27 y27 z27
  obtain ⟨rfl, Nc27, hp27⟩ := hQ27
  have N27 := Fr.app Ng26 Nc27
  refine OwnWp.step st27 ?_
  have eh27 : T27.heap = T12.heap := hp27
  obtain ⟨Lg27, Xg27, Ng27⟩ := own_fold (c' := 1) (s' := 16) X27 N27 (by decide) (by decide)
  show OwnWp p e below s _ _ _ (T27.setTop (mkF m 188 #[.val (.long p1), .second, .val (.int p2), .val (.long w1), .second, .val (.ref b12), .unset, .unset, .unset] [(.int (1 : Int32))]))
  refine OwnWp.step (U' := T27.setTop (mkF m 196 #[.val (.long p1), .second, .val (.int p2), .val (.long w1), .second, .val (.ref b12), .unset, .unset, .unset] [(.int (f12 (15 : Int32).toInt))])) (fun t k => ?_) ?_
  · show Steps p.tables e below (T27.setTop (mkF m 188 #[.val (.long p1), .second, .val (.int p2), .val (.long w1), .second, .val (.ref b12), .unset, .unset, .unset] [(.int (1 : Int32))])) _
    refine XS.ifNo Xg27.here hx rfl (hb hby at_188) rfl (XT.i0_eq_f (by decide)) ?_
    show Steps p.tables e below (T27.setTop (mkF m 191 #[.val (.long p1), .second, .val (.int p2), .val (.long w1), .second, .val (.ref b12), .unset, .unset, .unset] [])) _
    refine XS.aload Xg27.here hx rfl (hb hby at_191) rfl rfl ?_
    show Steps p.tables e below (T27.setTop (mkF m 193 #[.val (.long p1), .second, .val (.int p2), .val (.long w1), .second, .val (.ref b12), .unset, .unset, .unset] [(.ref b12)])) _
    refine XT.bipushV Xg27.here hx rfl (15 : Int32) (hb hby at_193) rfl ?_
    show Steps p.tables e below (T27.setTop (mkF m 195 #[.val (.long p1), .second, .val (.int p2), .val (.long w1), .second, .val (.ref b12), .unset, .unset, .unset] [(.int (15 : Int32)), (.ref b12)])) _
    refine OwnA.ldB Xg27 hx hZ eh27 ab12 (by decide) (by decide) rfl rfl (hb hby at_195) ?_
    show Steps p.tables e below (T27.setTop (mkF m 196 #[.val (.long p1), .second, .val (.int p2), .val (.long w1), .second, .val (.ref b12), .unset, .unset, .unset] [(.int (f12 (15 : Int32).toInt))])) _
    exact k
  obtain ⟨w17, qw17⟩ : ∃ z : Int32, z = (f12 (15 : Int32).toInt) := ⟨_, rfl⟩
  rw [← qw17]
  show OwnWp p e below s _ _ _ (T27.setTop (mkF m 196 #[.val (.long p1), .second, .val (.int p2), .val (.long w1), .second, .val (.ref b12), .unset, .unset, .unset] [(.int w17)]))
  obtain ⟨_, _, ⟨T28, L28, k28, n28⟩, -, X28, ⟨Lc28, hQ28, l28, y28, z28⟩, st28⟩ := Jvm.LawKit.callS Xg27 hx (y := (⟨"leafrun/bench/BenchDataKeyPinLaw", "isDigit", "(B)Z"⟩ : MethodName)) hown (mvT hZ (hw _ (List.mem_of_getElem? (i := 8) rfl))) (mvT hZ (hw _ (List.mem_of_getElem? (i := 9) rfl))) (mvT hZ (hw _ (List.mem_of_getElem? (i := 10) rfl))) (mvT hZ (hw _ (List.mem_of_getElem? (i := 11) rfl))) (by decide) (backOf (W := 0) (rm2 l Z a0 hw [] w17 T12.heap n0 Z12 (own_bnd _ (hf 15 (by decide) (by decide)) w17 qw17).1 (own_bnd _ (hf 15 (by decide) (by decide)) w17 qw17).2) hZ (hw _ (List.mem_of_getElem? (i := 11) rfl)) (hw _ (List.mem_of_getElem? (i := 10) rfl)) (by decide) (by decide)) (g := (mkF m 196 #[.val (.long p1), .second, .val (.int p2), .val (.long w1), .second, .val (.ref b12), .unset, .unset, .unset] [(.int w17)])) rfl (by rw [hml]; rfl) (argsL := [(.int w17)]) (rest := []) (lenOf pd_2 rfl) rfl (by show 2 * 0 + _ ≤ _; exact Nat.le_of_eq rfl) (hb hby at_196) (fun _ _ => ⟨rfl, eh27, (by dsimp only [Pt.cells]; decide), (by dsimp only [Pt.slots]; decide)⟩)
  dsimp only [Pt.U, Pt.locs, Pt.cells, Pt.slots] at X28 l28 y28 z28 st28 hQ28
  subst l28 y28 z28
  obtain ⟨rfl, Nc28, hp28⟩ := hQ28
  have N28 := Fr.app Ng27 Nc28
  refine OwnWp.step st28 ?_
  have eh28 : T28.heap = T12.heap := hp28
  obtain ⟨Lg28, Xg28, Ng28⟩ := own_fold (c' := 1) (s' := 16) X28 N28 (by decide) (by decide)
  show OwnWp p e below s _ _ _ (T28.setTop (mkF m 199 #[.val (.long p1), .second, .val (.int p2), .val (.long w1), .second, .val (.ref b12), .unset, .unset, .unset] [(.int (1 : Int32))]))
  refine OwnWp.step (U' := T28.setTop (mkF m 225 #[.val (.long p1), .second, .val (.int p2), .val (.long w1), .second, .val (.ref b12), .val (.int (1 : Int32)), .val (.long (0 : Int64)), .second] [(.int (f12 (0 : Int32).toInt)), (.long (0 : Int64))])) (fun t k => ?_) ?_
  · show Steps p.tables e below (T28.setTop (mkF m 199 #[.val (.long p1), .second, .val (.int p2), .val (.long w1), .second, .val (.ref b12), .unset, .unset, .unset] [(.int (1 : Int32))])) _
    refine XS.ifNo Xg28.here hx rfl (hb hby at_199) rfl (XT.i0_eq_f (by decide)) ?_
    show Steps p.tables e below (T28.setTop (mkF m 202 #[.val (.long p1), .second, .val (.int p2), .val (.long w1), .second, .val (.ref b12), .unset, .unset, .unset] [])) _
    refine XT.iconstV Xg28.here hx rfl (1 : Int32) (hb hby at_202) rfl ?_
    show Steps p.tables e below (T28.setTop (mkF m 203 #[.val (.long p1), .second, .val (.int p2), .val (.long w1), .second, .val (.ref b12), .unset, .unset, .unset] [(.int (1 : Int32))])) _
    refine XS.goto Xg28.here hx rfl (pc0 := 203) (pc' := 207) rfl (hb hby at_203) (by decide) (by decide) ?_
    show Steps p.tables e below (T28.setTop (mkF m 207 #[.val (.long p1), .second, .val (.int p2), .val (.long w1), .second, .val (.ref b12), .unset, .unset, .unset] [(.int (1 : Int32))])) _
    refine XS.istore Xg28.here hx rfl (hb hby at_207) rfl (l' := #[.val (.long p1), .second, .val (.int p2), .val (.long w1), .second, .val (.ref b12), .val (.int (1 : Int32)), .unset, .unset]) rfl ?_
    show Steps p.tables e below (T28.setTop (mkF m 209 #[.val (.long p1), .second, .val (.int p2), .val (.long w1), .second, .val (.ref b12), .val (.int (1 : Int32)), .unset, .unset] [])) _
    refine XS.iload Xg28.here hx rfl (hb hby at_209) rfl ?_
    show Steps p.tables e below (T28.setTop (mkF m 211 #[.val (.long p1), .second, .val (.int p2), .val (.long w1), .second, .val (.ref b12), .val (.int (1 : Int32)), .unset, .unset] [(.int (1 : Int32))])) _
    refine XS.ifYes Xg28.here hx rfl (pc0 := 211) (pc' := 216) rfl (hb hby at_211) rfl (XT.i0_ne_t (by decide)) (by decide) (by decide) ?_
    show Steps p.tables e below (T28.setTop (mkF m 216 #[.val (.long p1), .second, .val (.int p2), .val (.long w1), .second, .val (.ref b12), .val (.int (1 : Int32)), .unset, .unset] [])) _
    refine XT.lconstV Xg28.here hx rfl (0 : Int64) (hb hby at_216) rfl ?_
    show Steps p.tables e below (T28.setTop (mkF m 217 #[.val (.long p1), .second, .val (.int p2), .val (.long w1), .second, .val (.ref b12), .val (.int (1 : Int32)), .unset, .unset] [(.long (0 : Int64))])) _
    refine XT.lstore Xg28.here hx rfl (hb hby at_217) rfl (l' := #[.val (.long p1), .second, .val (.int p2), .val (.long w1), .second, .val (.ref b12), .val (.int (1 : Int32)), .val (.long (0 : Int64)), .second]) rfl ?_
    show Steps p.tables e below (T28.setTop (mkF m 219 #[.val (.long p1), .second, .val (.int p2), .val (.long w1), .second, .val (.ref b12), .val (.int (1 : Int32)), .val (.long (0 : Int64)), .second] [])) _
    refine XT.lload Xg28.here hx rfl (hb hby at_219) rfl ?_
    show Steps p.tables e below (T28.setTop (mkF m 221 #[.val (.long p1), .second, .val (.int p2), .val (.long w1), .second, .val (.ref b12), .val (.int (1 : Int32)), .val (.long (0 : Int64)), .second] [(.long (0 : Int64))])) _
    refine XS.aload Xg28.here hx rfl (hb hby at_221) rfl rfl ?_
    show Steps p.tables e below (T28.setTop (mkF m 223 #[.val (.long p1), .second, .val (.int p2), .val (.long w1), .second, .val (.ref b12), .val (.int (1 : Int32)), .val (.long (0 : Int64)), .second] [(.ref b12), (.long (0 : Int64))])) _
    refine XT.iconstV Xg28.here hx rfl (0 : Int32) (hb hby at_223) rfl ?_
    show Steps p.tables e below (T28.setTop (mkF m 224 #[.val (.long p1), .second, .val (.int p2), .val (.long w1), .second, .val (.ref b12), .val (.int (1 : Int32)), .val (.long (0 : Int64)), .second] [(.int (0 : Int32)), (.ref b12), (.long (0 : Int64))])) _
    refine OwnA.ldB Xg28 hx hZ eh28 ab12 (by decide) (by decide) rfl rfl (hb hby at_224) ?_
    show Steps p.tables e below (T28.setTop (mkF m 225 #[.val (.long p1), .second, .val (.int p2), .val (.long w1), .second, .val (.ref b12), .val (.int (1 : Int32)), .val (.long (0 : Int64)), .second] [(.int (f12 (0 : Int32).toInt)), (.long (0 : Int64))])) _
    exact k
  obtain ⟨w18, qw18⟩ : ∃ z : Int32, z = (f12 (0 : Int32).toInt) := ⟨_, rfl⟩
  rw [← qw18]
  show OwnWp p e below s _ _ _ (T28.setTop (mkF m 225 #[.val (.long p1), .second, .val (.int p2), .val (.long w1), .second, .val (.ref b12), .val (.int (1 : Int32)), .val (.long (0 : Int64)), .second] [(.int w18), (.long (0 : Int64))]))
  obtain ⟨_, _, ⟨T29, L29, k29, n29⟩, -, X29, ⟨Lc29, hQ29, l29, y29, z29⟩, st29⟩ := Jvm.LawKit.callS Xg28 hx (y := (⟨"leafrun/bench/BenchDataKeyPinLaw", "step", "(JB)J"⟩ : MethodName)) hown (mvT hZ (hw _ (List.mem_of_getElem? (i := 12) rfl))) (mvT hZ (hw _ (List.mem_of_getElem? (i := 13) rfl))) (mvT hZ (hw _ (List.mem_of_getElem? (i := 10) rfl))) (mvT hZ (hw _ (List.mem_of_getElem? (i := 14) rfl))) (by decide) (backOf (W := 0) (rm3 l Z a0 hw [] (0 : Int64) w18 T12.heap n0 Z12 ) hZ (hw _ (List.mem_of_getElem? (i := 14) rfl)) (hw _ (List.mem_of_getElem? (i := 10) rfl)) (by decide) (by decide)) (g := (mkF m 225 #[.val (.long p1), .second, .val (.int p2), .val (.long w1), .second, .val (.ref b12), .val (.int (1 : Int32)), .val (.long (0 : Int64)), .second] [(.int w18), (.long (0 : Int64))])) rfl (by rw [hml]; rfl) (argsL := [(.long (0 : Int64)), (.int w18)]) (rest := []) (lenOf pd_3 rfl) rfl (by show 2 * 0 + _ ≤ _; exact Nat.le_of_eq rfl) (hb hby at_225) (fun _ _ => ⟨rfl, eh28, (by dsimp only [Pt.cells]; decide), (by dsimp only [Pt.slots]; decide)⟩)
  dsimp only [Pt.U, Pt.locs, Pt.cells, Pt.slots] at X29 l29 y29 z29 st29 hQ29
  subst l29 y29 z29
  obtain ⟨rfl, Nc29, hp29⟩ := hQ29
  have N29 := Fr.app Ng28 Nc29
  refine OwnWp.step st29 ?_
  have eh29 : T29.heap = T12.heap := hp29
  obtain ⟨Lg29, Xg29, Ng29⟩ := own_fold (c' := 1) (s' := 16) X29 N29 (by decide) (by decide)
  show OwnWp p e below s _ _ _ (T29.setTop (mkF m 228 #[.val (.long p1), .second, .val (.int p2), .val (.long w1), .second, .val (.ref b12), .val (.int (1 : Int32)), .val (.long (0 : Int64)), .second] [(.long (own_stp (0 : Int64) w18))]))
  obtain ⟨w19, qw19⟩ : ∃ z : Int64, z = (own_stp (0 : Int64) w18) := ⟨_, rfl⟩
  refine OwnWp.step (U' := T29.setTop (mkF m 230 #[.val (.long p1), .second, .val (.int p2), .val (.long w1), .second, .val (.ref b12), .val (.int (1 : Int32)), .val (.long w19), .second] [])) (fun t k => ?_) ?_
  · show Steps p.tables e below (T29.setTop (mkF m 228 #[.val (.long p1), .second, .val (.int p2), .val (.long w1), .second, .val (.ref b12), .val (.int (1 : Int32)), .val (.long (0 : Int64)), .second] [(.long (own_stp (0 : Int64) w18))])) _
    refine XT.lstore Xg29.here hx rfl (hb hby at_228) rfl (l' := #[.val (.long p1), .second, .val (.int p2), .val (.long w1), .second, .val (.ref b12), .val (.int (1 : Int32)), .val (.long (own_stp (0 : Int64) w18)), .second]) rfl ?_
    show Steps p.tables e below (T29.setTop (mkF m 230 #[.val (.long p1), .second, .val (.int p2), .val (.long w1), .second, .val (.ref b12), .val (.int (1 : Int32)), .val (.long (own_stp (0 : Int64) w18)), .second] [])) _
    rw [qw19] at k
    exact k
  refine OwnWp.step (U' := T29.setTop (mkF m 236 #[.val (.long p1), .second, .val (.int p2), .val (.long w1), .second, .val (.ref b12), .val (.int (1 : Int32)), .val (.long w19), .second] [(.int (f12 (1 : Int32).toInt)), (.long w19)])) (fun t k => ?_) ?_
  · show Steps p.tables e below (T29.setTop (mkF m 230 #[.val (.long p1), .second, .val (.int p2), .val (.long w1), .second, .val (.ref b12), .val (.int (1 : Int32)), .val (.long w19), .second] [])) _
    refine XT.lload Xg29.here hx rfl (hb hby at_230) rfl ?_
    show Steps p.tables e below (T29.setTop (mkF m 232 #[.val (.long p1), .second, .val (.int p2), .val (.long w1), .second, .val (.ref b12), .val (.int (1 : Int32)), .val (.long w19), .second] [(.long w19)])) _
    refine XS.aload Xg29.here hx rfl (hb hby at_232) rfl rfl ?_
    show Steps p.tables e below (T29.setTop (mkF m 234 #[.val (.long p1), .second, .val (.int p2), .val (.long w1), .second, .val (.ref b12), .val (.int (1 : Int32)), .val (.long w19), .second] [(.ref b12), (.long w19)])) _
    refine XT.iconstV Xg29.here hx rfl (1 : Int32) (hb hby at_234) rfl ?_
    show Steps p.tables e below (T29.setTop (mkF m 235 #[.val (.long p1), .second, .val (.int p2), .val (.long w1), .second, .val (.ref b12), .val (.int (1 : Int32)), .val (.long w19), .second] [(.int (1 : Int32)), (.ref b12), (.long w19)])) _
    refine OwnA.ldB Xg29 hx hZ eh29 ab12 (by decide) (by decide) rfl rfl (hb hby at_235) ?_
    show Steps p.tables e below (T29.setTop (mkF m 236 #[.val (.long p1), .second, .val (.int p2), .val (.long w1), .second, .val (.ref b12), .val (.int (1 : Int32)), .val (.long w19), .second] [(.int (f12 (1 : Int32).toInt)), (.long w19)])) _
    exact k
  obtain ⟨w20, qw20⟩ : ∃ z : Int32, z = (f12 (1 : Int32).toInt) := ⟨_, rfl⟩
  rw [← qw20]
  show OwnWp p e below s _ _ _ (T29.setTop (mkF m 236 #[.val (.long p1), .second, .val (.int p2), .val (.long w1), .second, .val (.ref b12), .val (.int (1 : Int32)), .val (.long w19), .second] [(.int w20), (.long w19)]))
  obtain ⟨_, _, ⟨T30, L30, k30, n30⟩, -, X30, ⟨Lc30, hQ30, l30, y30, z30⟩, st30⟩ := Jvm.LawKit.callS Xg29 hx (y := (⟨"leafrun/bench/BenchDataKeyPinLaw", "step", "(JB)J"⟩ : MethodName)) hown (mvT hZ (hw _ (List.mem_of_getElem? (i := 12) rfl))) (mvT hZ (hw _ (List.mem_of_getElem? (i := 13) rfl))) (mvT hZ (hw _ (List.mem_of_getElem? (i := 10) rfl))) (mvT hZ (hw _ (List.mem_of_getElem? (i := 14) rfl))) (by decide) (backOf (W := 0) (rm3 l Z a0 hw [] w19 w20 T12.heap n0 Z12 ) hZ (hw _ (List.mem_of_getElem? (i := 14) rfl)) (hw _ (List.mem_of_getElem? (i := 10) rfl)) (by decide) (by decide)) (g := (mkF m 236 #[.val (.long p1), .second, .val (.int p2), .val (.long w1), .second, .val (.ref b12), .val (.int (1 : Int32)), .val (.long w19), .second] [(.int w20), (.long w19)])) rfl (by rw [hml]; rfl) (argsL := [(.long w19), (.int w20)]) (rest := []) (lenOf pd_3 rfl) rfl (by show 2 * 0 + _ ≤ _; exact Nat.le_of_eq rfl) (hb hby at_236) (fun _ _ => ⟨rfl, eh29, (by dsimp only [Pt.cells]; decide), (by dsimp only [Pt.slots]; decide)⟩)
  dsimp only [Pt.U, Pt.locs, Pt.cells, Pt.slots] at X30 l30 y30 z30 st30 hQ30
  subst l30 y30 z30
  obtain ⟨rfl, Nc30, hp30⟩ := hQ30
  have N30 := Fr.app Ng29 Nc30
  refine OwnWp.step st30 ?_
  have eh30 : T30.heap = T12.heap := hp30
  obtain ⟨Lg30, Xg30, Ng30⟩ := own_fold (c' := 1) (s' := 16) X30 N30 (by decide) (by decide)
  show OwnWp p e below s _ _ _ (T30.setTop (mkF m 239 #[.val (.long p1), .second, .val (.int p2), .val (.long w1), .second, .val (.ref b12), .val (.int (1 : Int32)), .val (.long w19), .second] [(.long (own_stp w19 w20))]))
  obtain ⟨w21, qw21⟩ : ∃ z : Int64, z = (own_stp w19 w20) := ⟨_, rfl⟩
  refine OwnWp.step (U' := T30.setTop (mkF m 241 #[.val (.long p1), .second, .val (.int p2), .val (.long w1), .second, .val (.ref b12), .val (.int (1 : Int32)), .val (.long w21), .second] [])) (fun t k => ?_) ?_
  · show Steps p.tables e below (T30.setTop (mkF m 239 #[.val (.long p1), .second, .val (.int p2), .val (.long w1), .second, .val (.ref b12), .val (.int (1 : Int32)), .val (.long w19), .second] [(.long (own_stp w19 w20))])) _
    refine XT.lstore Xg30.here hx rfl (hb hby at_239) rfl (l' := #[.val (.long p1), .second, .val (.int p2), .val (.long w1), .second, .val (.ref b12), .val (.int (1 : Int32)), .val (.long (own_stp w19 w20)), .second]) rfl ?_
    show Steps p.tables e below (T30.setTop (mkF m 241 #[.val (.long p1), .second, .val (.int p2), .val (.long w1), .second, .val (.ref b12), .val (.int (1 : Int32)), .val (.long (own_stp w19 w20)), .second] [])) _
    rw [qw21] at k
    exact k
  refine OwnWp.step (U' := T30.setTop (mkF m 247 #[.val (.long p1), .second, .val (.int p2), .val (.long w1), .second, .val (.ref b12), .val (.int (1 : Int32)), .val (.long w21), .second] [(.int (f12 (2 : Int32).toInt)), (.long w21)])) (fun t k => ?_) ?_
  · show Steps p.tables e below (T30.setTop (mkF m 241 #[.val (.long p1), .second, .val (.int p2), .val (.long w1), .second, .val (.ref b12), .val (.int (1 : Int32)), .val (.long w21), .second] [])) _
    refine XT.lload Xg30.here hx rfl (hb hby at_241) rfl ?_
    show Steps p.tables e below (T30.setTop (mkF m 243 #[.val (.long p1), .second, .val (.int p2), .val (.long w1), .second, .val (.ref b12), .val (.int (1 : Int32)), .val (.long w21), .second] [(.long w21)])) _
    refine XS.aload Xg30.here hx rfl (hb hby at_243) rfl rfl ?_
    show Steps p.tables e below (T30.setTop (mkF m 245 #[.val (.long p1), .second, .val (.int p2), .val (.long w1), .second, .val (.ref b12), .val (.int (1 : Int32)), .val (.long w21), .second] [(.ref b12), (.long w21)])) _
    refine XT.iconstV Xg30.here hx rfl (2 : Int32) (hb hby at_245) rfl ?_
    show Steps p.tables e below (T30.setTop (mkF m 246 #[.val (.long p1), .second, .val (.int p2), .val (.long w1), .second, .val (.ref b12), .val (.int (1 : Int32)), .val (.long w21), .second] [(.int (2 : Int32)), (.ref b12), (.long w21)])) _
    refine OwnA.ldB Xg30 hx hZ eh30 ab12 (by decide) (by decide) rfl rfl (hb hby at_246) ?_
    show Steps p.tables e below (T30.setTop (mkF m 247 #[.val (.long p1), .second, .val (.int p2), .val (.long w1), .second, .val (.ref b12), .val (.int (1 : Int32)), .val (.long w21), .second] [(.int (f12 (2 : Int32).toInt)), (.long w21)])) _
    exact k
  obtain ⟨w22, qw22⟩ : ∃ z : Int32, z = (f12 (2 : Int32).toInt) := ⟨_, rfl⟩
  rw [← qw22]
  show OwnWp p e below s _ _ _ (T30.setTop (mkF m 247 #[.val (.long p1), .second, .val (.int p2), .val (.long w1), .second, .val (.ref b12), .val (.int (1 : Int32)), .val (.long w21), .second] [(.int w22), (.long w21)]))
  obtain ⟨_, _, ⟨T31, L31, k31, n31⟩, -, X31, ⟨Lc31, hQ31, l31, y31, z31⟩, st31⟩ := Jvm.LawKit.callS Xg30 hx (y := (⟨"leafrun/bench/BenchDataKeyPinLaw", "step", "(JB)J"⟩ : MethodName)) hown (mvT hZ (hw _ (List.mem_of_getElem? (i := 12) rfl))) (mvT hZ (hw _ (List.mem_of_getElem? (i := 13) rfl))) (mvT hZ (hw _ (List.mem_of_getElem? (i := 10) rfl))) (mvT hZ (hw _ (List.mem_of_getElem? (i := 14) rfl))) (by decide) (backOf (W := 0) (rm3 l Z a0 hw [] w21 w22 T12.heap n0 Z12 ) hZ (hw _ (List.mem_of_getElem? (i := 14) rfl)) (hw _ (List.mem_of_getElem? (i := 10) rfl)) (by decide) (by decide)) (g := (mkF m 247 #[.val (.long p1), .second, .val (.int p2), .val (.long w1), .second, .val (.ref b12), .val (.int (1 : Int32)), .val (.long w21), .second] [(.int w22), (.long w21)])) rfl (by rw [hml]; rfl) (argsL := [(.long w21), (.int w22)]) (rest := []) (lenOf pd_3 rfl) rfl (by show 2 * 0 + _ ≤ _; exact Nat.le_of_eq rfl) (hb hby at_247) (fun _ _ => ⟨rfl, eh30, (by dsimp only [Pt.cells]; decide), (by dsimp only [Pt.slots]; decide)⟩)
  dsimp only [Pt.U, Pt.locs, Pt.cells, Pt.slots] at X31 l31 y31 z31 st31 hQ31
  subst l31 y31 z31
  obtain ⟨rfl, Nc31, hp31⟩ := hQ31
  have N31 := Fr.app Ng30 Nc31
  refine OwnWp.step st31 ?_
  have eh31 : T31.heap = T12.heap := hp31
  obtain ⟨Lg31, Xg31, Ng31⟩ := own_fold (c' := 1) (s' := 16) X31 N31 (by decide) (by decide)
  show OwnWp p e below s _ _ _ (T31.setTop (mkF m 250 #[.val (.long p1), .second, .val (.int p2), .val (.long w1), .second, .val (.ref b12), .val (.int (1 : Int32)), .val (.long w21), .second] [(.long (own_stp w21 w22))]))
  obtain ⟨w23, qw23⟩ : ∃ z : Int64, z = (own_stp w21 w22) := ⟨_, rfl⟩
  refine OwnWp.step (U' := T31.setTop (mkF m 252 #[.val (.long p1), .second, .val (.int p2), .val (.long w1), .second, .val (.ref b12), .val (.int (1 : Int32)), .val (.long w23), .second] [])) (fun t k => ?_) ?_
  · show Steps p.tables e below (T31.setTop (mkF m 250 #[.val (.long p1), .second, .val (.int p2), .val (.long w1), .second, .val (.ref b12), .val (.int (1 : Int32)), .val (.long w21), .second] [(.long (own_stp w21 w22))])) _
    refine XT.lstore Xg31.here hx rfl (hb hby at_250) rfl (l' := #[.val (.long p1), .second, .val (.int p2), .val (.long w1), .second, .val (.ref b12), .val (.int (1 : Int32)), .val (.long (own_stp w21 w22)), .second]) rfl ?_
    show Steps p.tables e below (T31.setTop (mkF m 252 #[.val (.long p1), .second, .val (.int p2), .val (.long w1), .second, .val (.ref b12), .val (.int (1 : Int32)), .val (.long (own_stp w21 w22)), .second] [])) _
    rw [qw23] at k
    exact k
  refine OwnWp.step (U' := T31.setTop (mkF m 258 #[.val (.long p1), .second, .val (.int p2), .val (.long w1), .second, .val (.ref b12), .val (.int (1 : Int32)), .val (.long w23), .second] [(.int (f12 (3 : Int32).toInt)), (.long w23)])) (fun t k => ?_) ?_
  · show Steps p.tables e below (T31.setTop (mkF m 252 #[.val (.long p1), .second, .val (.int p2), .val (.long w1), .second, .val (.ref b12), .val (.int (1 : Int32)), .val (.long w23), .second] [])) _
    refine XT.lload Xg31.here hx rfl (hb hby at_252) rfl ?_
    show Steps p.tables e below (T31.setTop (mkF m 254 #[.val (.long p1), .second, .val (.int p2), .val (.long w1), .second, .val (.ref b12), .val (.int (1 : Int32)), .val (.long w23), .second] [(.long w23)])) _
    refine XS.aload Xg31.here hx rfl (hb hby at_254) rfl rfl ?_
    show Steps p.tables e below (T31.setTop (mkF m 256 #[.val (.long p1), .second, .val (.int p2), .val (.long w1), .second, .val (.ref b12), .val (.int (1 : Int32)), .val (.long w23), .second] [(.ref b12), (.long w23)])) _
    refine XT.iconstV Xg31.here hx rfl (3 : Int32) (hb hby at_256) rfl ?_
    show Steps p.tables e below (T31.setTop (mkF m 257 #[.val (.long p1), .second, .val (.int p2), .val (.long w1), .second, .val (.ref b12), .val (.int (1 : Int32)), .val (.long w23), .second] [(.int (3 : Int32)), (.ref b12), (.long w23)])) _
    refine OwnA.ldB Xg31 hx hZ eh31 ab12 (by decide) (by decide) rfl rfl (hb hby at_257) ?_
    show Steps p.tables e below (T31.setTop (mkF m 258 #[.val (.long p1), .second, .val (.int p2), .val (.long w1), .second, .val (.ref b12), .val (.int (1 : Int32)), .val (.long w23), .second] [(.int (f12 (3 : Int32).toInt)), (.long w23)])) _
    exact k
  obtain ⟨w24, qw24⟩ : ∃ z : Int32, z = (f12 (3 : Int32).toInt) := ⟨_, rfl⟩
  rw [← qw24]
  show OwnWp p e below s _ _ _ (T31.setTop (mkF m 258 #[.val (.long p1), .second, .val (.int p2), .val (.long w1), .second, .val (.ref b12), .val (.int (1 : Int32)), .val (.long w23), .second] [(.int w24), (.long w23)]))
  obtain ⟨_, _, ⟨T32, L32, k32, n32⟩, -, X32, ⟨Lc32, hQ32, l32, y32, z32⟩, st32⟩ := Jvm.LawKit.callS Xg31 hx (y := (⟨"leafrun/bench/BenchDataKeyPinLaw", "step", "(JB)J"⟩ : MethodName)) hown (mvT hZ (hw _ (List.mem_of_getElem? (i := 12) rfl))) (mvT hZ (hw _ (List.mem_of_getElem? (i := 13) rfl))) (mvT hZ (hw _ (List.mem_of_getElem? (i := 10) rfl))) (mvT hZ (hw _ (List.mem_of_getElem? (i := 14) rfl))) (by decide) (backOf (W := 0) (rm3 l Z a0 hw [] w23 w24 T12.heap n0 Z12 ) hZ (hw _ (List.mem_of_getElem? (i := 14) rfl)) (hw _ (List.mem_of_getElem? (i := 10) rfl)) (by decide) (by decide)) (g := (mkF m 258 #[.val (.long p1), .second, .val (.int p2), .val (.long w1), .second, .val (.ref b12), .val (.int (1 : Int32)), .val (.long w23), .second] [(.int w24), (.long w23)])) rfl (by rw [hml]; rfl) (argsL := [(.long w23), (.int w24)]) (rest := []) (lenOf pd_3 rfl) rfl (by show 2 * 0 + _ ≤ _; exact Nat.le_of_eq rfl) (hb hby at_258) (fun _ _ => ⟨rfl, eh31, (by dsimp only [Pt.cells]; decide), (by dsimp only [Pt.slots]; decide)⟩)
  dsimp only [Pt.U, Pt.locs, Pt.cells, Pt.slots] at X32 l32 y32 z32 st32 hQ32
  subst l32 y32 z32
  obtain ⟨rfl, Nc32, hp32⟩ := hQ32
  have N32 := Fr.app Ng31 Nc32
  refine OwnWp.step st32 ?_
  have eh32 : T32.heap = T12.heap := hp32
  obtain ⟨Lg32, Xg32, Ng32⟩ := own_fold (c' := 1) (s' := 16) X32 N32 (by decide) (by decide)
  show OwnWp p e below s _ _ _ (T32.setTop (mkF m 261 #[.val (.long p1), .second, .val (.int p2), .val (.long w1), .second, .val (.ref b12), .val (.int (1 : Int32)), .val (.long w23), .second] [(.long (own_stp w23 w24))]))
  obtain ⟨w25, qw25⟩ : ∃ z : Int64, z = (own_stp w23 w24) := ⟨_, rfl⟩
  refine OwnWp.step (U' := T32.setTop (mkF m 263 #[.val (.long p1), .second, .val (.int p2), .val (.long w1), .second, .val (.ref b12), .val (.int (1 : Int32)), .val (.long w25), .second] [])) (fun t k => ?_) ?_
  · show Steps p.tables e below (T32.setTop (mkF m 261 #[.val (.long p1), .second, .val (.int p2), .val (.long w1), .second, .val (.ref b12), .val (.int (1 : Int32)), .val (.long w23), .second] [(.long (own_stp w23 w24))])) _
    refine XT.lstore Xg32.here hx rfl (hb hby at_261) rfl (l' := #[.val (.long p1), .second, .val (.int p2), .val (.long w1), .second, .val (.ref b12), .val (.int (1 : Int32)), .val (.long (own_stp w23 w24)), .second]) rfl ?_
    show Steps p.tables e below (T32.setTop (mkF m 263 #[.val (.long p1), .second, .val (.int p2), .val (.long w1), .second, .val (.ref b12), .val (.int (1 : Int32)), .val (.long (own_stp w23 w24)), .second] [])) _
    rw [qw25] at k
    exact k
  refine OwnWp.step (U' := T32.setTop (mkF m 269 #[.val (.long p1), .second, .val (.int p2), .val (.long w1), .second, .val (.ref b12), .val (.int (1 : Int32)), .val (.long w25), .second] [(.int (f12 (4 : Int32).toInt)), (.long w25)])) (fun t k => ?_) ?_
  · show Steps p.tables e below (T32.setTop (mkF m 263 #[.val (.long p1), .second, .val (.int p2), .val (.long w1), .second, .val (.ref b12), .val (.int (1 : Int32)), .val (.long w25), .second] [])) _
    refine XT.lload Xg32.here hx rfl (hb hby at_263) rfl ?_
    show Steps p.tables e below (T32.setTop (mkF m 265 #[.val (.long p1), .second, .val (.int p2), .val (.long w1), .second, .val (.ref b12), .val (.int (1 : Int32)), .val (.long w25), .second] [(.long w25)])) _
    refine XS.aload Xg32.here hx rfl (hb hby at_265) rfl rfl ?_
    show Steps p.tables e below (T32.setTop (mkF m 267 #[.val (.long p1), .second, .val (.int p2), .val (.long w1), .second, .val (.ref b12), .val (.int (1 : Int32)), .val (.long w25), .second] [(.ref b12), (.long w25)])) _
    refine XT.iconstV Xg32.here hx rfl (4 : Int32) (hb hby at_267) rfl ?_
    show Steps p.tables e below (T32.setTop (mkF m 268 #[.val (.long p1), .second, .val (.int p2), .val (.long w1), .second, .val (.ref b12), .val (.int (1 : Int32)), .val (.long w25), .second] [(.int (4 : Int32)), (.ref b12), (.long w25)])) _
    refine OwnA.ldB Xg32 hx hZ eh32 ab12 (by decide) (by decide) rfl rfl (hb hby at_268) ?_
    show Steps p.tables e below (T32.setTop (mkF m 269 #[.val (.long p1), .second, .val (.int p2), .val (.long w1), .second, .val (.ref b12), .val (.int (1 : Int32)), .val (.long w25), .second] [(.int (f12 (4 : Int32).toInt)), (.long w25)])) _
    exact k
  obtain ⟨w26, qw26⟩ : ∃ z : Int32, z = (f12 (4 : Int32).toInt) := ⟨_, rfl⟩
  rw [← qw26]
  show OwnWp p e below s _ _ _ (T32.setTop (mkF m 269 #[.val (.long p1), .second, .val (.int p2), .val (.long w1), .second, .val (.ref b12), .val (.int (1 : Int32)), .val (.long w25), .second] [(.int w26), (.long w25)]))
  obtain ⟨_, _, ⟨T33, L33, k33, n33⟩, -, X33, ⟨Lc33, hQ33, l33, y33, z33⟩, st33⟩ := Jvm.LawKit.callS Xg32 hx (y := (⟨"leafrun/bench/BenchDataKeyPinLaw", "step", "(JB)J"⟩ : MethodName)) hown (mvT hZ (hw _ (List.mem_of_getElem? (i := 12) rfl))) (mvT hZ (hw _ (List.mem_of_getElem? (i := 13) rfl))) (mvT hZ (hw _ (List.mem_of_getElem? (i := 10) rfl))) (mvT hZ (hw _ (List.mem_of_getElem? (i := 14) rfl))) (by decide) (backOf (W := 0) (rm3 l Z a0 hw [] w25 w26 T12.heap n0 Z12 ) hZ (hw _ (List.mem_of_getElem? (i := 14) rfl)) (hw _ (List.mem_of_getElem? (i := 10) rfl)) (by decide) (by decide)) (g := (mkF m 269 #[.val (.long p1), .second, .val (.int p2), .val (.long w1), .second, .val (.ref b12), .val (.int (1 : Int32)), .val (.long w25), .second] [(.int w26), (.long w25)])) rfl (by rw [hml]; rfl) (argsL := [(.long w25), (.int w26)]) (rest := []) (lenOf pd_3 rfl) rfl (by show 2 * 0 + _ ≤ _; exact Nat.le_of_eq rfl) (hb hby at_269) (fun _ _ => ⟨rfl, eh32, (by dsimp only [Pt.cells]; decide), (by dsimp only [Pt.slots]; decide)⟩)
  dsimp only [Pt.U, Pt.locs, Pt.cells, Pt.slots] at X33 l33 y33 z33 st33 hQ33
  subst l33 y33 z33
  obtain ⟨rfl, Nc33, hp33⟩ := hQ33
  have N33 := Fr.app Ng32 Nc33
  refine OwnWp.step st33 ?_
  have eh33 : T33.heap = T12.heap := hp33
  obtain ⟨Lg33, Xg33, Ng33⟩ := own_fold (c' := 1) (s' := 16) X33 N33 (by decide) (by decide)
  show OwnWp p e below s _ _ _ (T33.setTop (mkF m 272 #[.val (.long p1), .second, .val (.int p2), .val (.long w1), .second, .val (.ref b12), .val (.int (1 : Int32)), .val (.long w25), .second] [(.long (own_stp w25 w26))]))
  obtain ⟨w27, qw27⟩ : ∃ z : Int64, z = (own_stp w25 w26) := ⟨_, rfl⟩
  refine OwnWp.step (U' := T33.setTop (mkF m 274 #[.val (.long p1), .second, .val (.int p2), .val (.long w1), .second, .val (.ref b12), .val (.int (1 : Int32)), .val (.long w27), .second] [])) (fun t k => ?_) ?_
  · show Steps p.tables e below (T33.setTop (mkF m 272 #[.val (.long p1), .second, .val (.int p2), .val (.long w1), .second, .val (.ref b12), .val (.int (1 : Int32)), .val (.long w25), .second] [(.long (own_stp w25 w26))])) _
    refine XT.lstore Xg33.here hx rfl (hb hby at_272) rfl (l' := #[.val (.long p1), .second, .val (.int p2), .val (.long w1), .second, .val (.ref b12), .val (.int (1 : Int32)), .val (.long (own_stp w25 w26)), .second]) rfl ?_
    show Steps p.tables e below (T33.setTop (mkF m 274 #[.val (.long p1), .second, .val (.int p2), .val (.long w1), .second, .val (.ref b12), .val (.int (1 : Int32)), .val (.long (own_stp w25 w26)), .second] [])) _
    rw [qw27] at k
    exact k
  refine OwnWp.step (U' := T33.setTop (mkF m 280 #[.val (.long p1), .second, .val (.int p2), .val (.long w1), .second, .val (.ref b12), .val (.int (1 : Int32)), .val (.long w27), .second] [(.int (f12 (5 : Int32).toInt)), (.long w27)])) (fun t k => ?_) ?_
  · show Steps p.tables e below (T33.setTop (mkF m 274 #[.val (.long p1), .second, .val (.int p2), .val (.long w1), .second, .val (.ref b12), .val (.int (1 : Int32)), .val (.long w27), .second] [])) _
    refine XT.lload Xg33.here hx rfl (hb hby at_274) rfl ?_
    show Steps p.tables e below (T33.setTop (mkF m 276 #[.val (.long p1), .second, .val (.int p2), .val (.long w1), .second, .val (.ref b12), .val (.int (1 : Int32)), .val (.long w27), .second] [(.long w27)])) _
    refine XS.aload Xg33.here hx rfl (hb hby at_276) rfl rfl ?_
    show Steps p.tables e below (T33.setTop (mkF m 278 #[.val (.long p1), .second, .val (.int p2), .val (.long w1), .second, .val (.ref b12), .val (.int (1 : Int32)), .val (.long w27), .second] [(.ref b12), (.long w27)])) _
    refine XT.iconstV Xg33.here hx rfl (5 : Int32) (hb hby at_278) rfl ?_
    show Steps p.tables e below (T33.setTop (mkF m 279 #[.val (.long p1), .second, .val (.int p2), .val (.long w1), .second, .val (.ref b12), .val (.int (1 : Int32)), .val (.long w27), .second] [(.int (5 : Int32)), (.ref b12), (.long w27)])) _
    refine OwnA.ldB Xg33 hx hZ eh33 ab12 (by decide) (by decide) rfl rfl (hb hby at_279) ?_
    show Steps p.tables e below (T33.setTop (mkF m 280 #[.val (.long p1), .second, .val (.int p2), .val (.long w1), .second, .val (.ref b12), .val (.int (1 : Int32)), .val (.long w27), .second] [(.int (f12 (5 : Int32).toInt)), (.long w27)])) _
    exact k
  obtain ⟨w28, qw28⟩ : ∃ z : Int32, z = (f12 (5 : Int32).toInt) := ⟨_, rfl⟩
  rw [← qw28]
  show OwnWp p e below s _ _ _ (T33.setTop (mkF m 280 #[.val (.long p1), .second, .val (.int p2), .val (.long w1), .second, .val (.ref b12), .val (.int (1 : Int32)), .val (.long w27), .second] [(.int w28), (.long w27)]))
  obtain ⟨_, _, ⟨T34, L34, k34, n34⟩, -, X34, ⟨Lc34, hQ34, l34, y34, z34⟩, st34⟩ := Jvm.LawKit.callS Xg33 hx (y := (⟨"leafrun/bench/BenchDataKeyPinLaw", "step", "(JB)J"⟩ : MethodName)) hown (mvT hZ (hw _ (List.mem_of_getElem? (i := 12) rfl))) (mvT hZ (hw _ (List.mem_of_getElem? (i := 13) rfl))) (mvT hZ (hw _ (List.mem_of_getElem? (i := 10) rfl))) (mvT hZ (hw _ (List.mem_of_getElem? (i := 14) rfl))) (by decide) (backOf (W := 0) (rm3 l Z a0 hw [] w27 w28 T12.heap n0 Z12 ) hZ (hw _ (List.mem_of_getElem? (i := 14) rfl)) (hw _ (List.mem_of_getElem? (i := 10) rfl)) (by decide) (by decide)) (g := (mkF m 280 #[.val (.long p1), .second, .val (.int p2), .val (.long w1), .second, .val (.ref b12), .val (.int (1 : Int32)), .val (.long w27), .second] [(.int w28), (.long w27)])) rfl (by rw [hml]; rfl) (argsL := [(.long w27), (.int w28)]) (rest := []) (lenOf pd_3 rfl) rfl (by show 2 * 0 + _ ≤ _; exact Nat.le_of_eq rfl) (hb hby at_280) (fun _ _ => ⟨rfl, eh33, (by dsimp only [Pt.cells]; decide), (by dsimp only [Pt.slots]; decide)⟩)
  dsimp only [Pt.U, Pt.locs, Pt.cells, Pt.slots] at X34 l34 y34 z34 st34 hQ34
  subst l34 y34 z34
  obtain ⟨rfl, Nc34, hp34⟩ := hQ34
  have N34 := Fr.app Ng33 Nc34
  refine OwnWp.step st34 ?_
  have eh34 : T34.heap = T12.heap := hp34
  obtain ⟨Lg34, Xg34, Ng34⟩ := own_fold (c' := 1) (s' := 16) X34 N34 (by decide) (by decide)
  show OwnWp p e below s _ _ _ (T34.setTop (mkF m 283 #[.val (.long p1), .second, .val (.int p2), .val (.long w1), .second, .val (.ref b12), .val (.int (1 : Int32)), .val (.long w27), .second] [(.long (own_stp w27 w28))]))
  obtain ⟨w29, qw29⟩ : ∃ z : Int64, z = (own_stp w27 w28) := ⟨_, rfl⟩
  refine OwnWp.step (U' := T34.setTop (mkF m 285 #[.val (.long p1), .second, .val (.int p2), .val (.long w1), .second, .val (.ref b12), .val (.int (1 : Int32)), .val (.long w29), .second] [])) (fun t k => ?_) ?_
  · show Steps p.tables e below (T34.setTop (mkF m 283 #[.val (.long p1), .second, .val (.int p2), .val (.long w1), .second, .val (.ref b12), .val (.int (1 : Int32)), .val (.long w27), .second] [(.long (own_stp w27 w28))])) _
    refine XT.lstore Xg34.here hx rfl (hb hby at_283) rfl (l' := #[.val (.long p1), .second, .val (.int p2), .val (.long w1), .second, .val (.ref b12), .val (.int (1 : Int32)), .val (.long (own_stp w27 w28)), .second]) rfl ?_
    show Steps p.tables e below (T34.setTop (mkF m 285 #[.val (.long p1), .second, .val (.int p2), .val (.long w1), .second, .val (.ref b12), .val (.int (1 : Int32)), .val (.long (own_stp w27 w28)), .second] [])) _
    rw [qw29] at k
    exact k
  refine OwnWp.step (U' := T34.setTop (mkF m 292 #[.val (.long p1), .second, .val (.int p2), .val (.long w1), .second, .val (.ref b12), .val (.int (1 : Int32)), .val (.long w29), .second] [(.int (f12 (6 : Int32).toInt)), (.long w29)])) (fun t k => ?_) ?_
  · show Steps p.tables e below (T34.setTop (mkF m 285 #[.val (.long p1), .second, .val (.int p2), .val (.long w1), .second, .val (.ref b12), .val (.int (1 : Int32)), .val (.long w29), .second] [])) _
    refine XT.lload Xg34.here hx rfl (hb hby at_285) rfl ?_
    show Steps p.tables e below (T34.setTop (mkF m 287 #[.val (.long p1), .second, .val (.int p2), .val (.long w1), .second, .val (.ref b12), .val (.int (1 : Int32)), .val (.long w29), .second] [(.long w29)])) _
    refine XS.aload Xg34.here hx rfl (hb hby at_287) rfl rfl ?_
    show Steps p.tables e below (T34.setTop (mkF m 289 #[.val (.long p1), .second, .val (.int p2), .val (.long w1), .second, .val (.ref b12), .val (.int (1 : Int32)), .val (.long w29), .second] [(.ref b12), (.long w29)])) _
    refine XT.bipushV Xg34.here hx rfl (6 : Int32) (hb hby at_289) rfl ?_
    show Steps p.tables e below (T34.setTop (mkF m 291 #[.val (.long p1), .second, .val (.int p2), .val (.long w1), .second, .val (.ref b12), .val (.int (1 : Int32)), .val (.long w29), .second] [(.int (6 : Int32)), (.ref b12), (.long w29)])) _
    refine OwnA.ldB Xg34 hx hZ eh34 ab12 (by decide) (by decide) rfl rfl (hb hby at_291) ?_
    show Steps p.tables e below (T34.setTop (mkF m 292 #[.val (.long p1), .second, .val (.int p2), .val (.long w1), .second, .val (.ref b12), .val (.int (1 : Int32)), .val (.long w29), .second] [(.int (f12 (6 : Int32).toInt)), (.long w29)])) _
    exact k
  obtain ⟨w30, qw30⟩ : ∃ z : Int32, z = (f12 (6 : Int32).toInt) := ⟨_, rfl⟩
  rw [← qw30]
  show OwnWp p e below s _ _ _ (T34.setTop (mkF m 292 #[.val (.long p1), .second, .val (.int p2), .val (.long w1), .second, .val (.ref b12), .val (.int (1 : Int32)), .val (.long w29), .second] [(.int w30), (.long w29)]))
  obtain ⟨_, _, ⟨T35, L35, k35, n35⟩, -, X35, ⟨Lc35, hQ35, l35, y35, z35⟩, st35⟩ := Jvm.LawKit.callS Xg34 hx (y := (⟨"leafrun/bench/BenchDataKeyPinLaw", "step", "(JB)J"⟩ : MethodName)) hown (mvT hZ (hw _ (List.mem_of_getElem? (i := 12) rfl))) (mvT hZ (hw _ (List.mem_of_getElem? (i := 13) rfl))) (mvT hZ (hw _ (List.mem_of_getElem? (i := 10) rfl))) (mvT hZ (hw _ (List.mem_of_getElem? (i := 14) rfl))) (by decide) (backOf (W := 0) (rm3 l Z a0 hw [] w29 w30 T12.heap n0 Z12 ) hZ (hw _ (List.mem_of_getElem? (i := 14) rfl)) (hw _ (List.mem_of_getElem? (i := 10) rfl)) (by decide) (by decide)) (g := (mkF m 292 #[.val (.long p1), .second, .val (.int p2), .val (.long w1), .second, .val (.ref b12), .val (.int (1 : Int32)), .val (.long w29), .second] [(.int w30), (.long w29)])) rfl (by rw [hml]; rfl) (argsL := [(.long w29), (.int w30)]) (rest := []) (lenOf pd_3 rfl) rfl (by show 2 * 0 + _ ≤ _; exact Nat.le_of_eq rfl) (hb hby at_292) (fun _ _ => ⟨rfl, eh34, (by dsimp only [Pt.cells]; decide), (by dsimp only [Pt.slots]; decide)⟩)
  dsimp only [Pt.U, Pt.locs, Pt.cells, Pt.slots] at X35 l35 y35 z35 st35 hQ35
  subst l35 y35 z35
  obtain ⟨rfl, Nc35, hp35⟩ := hQ35
  have N35 := Fr.app Ng34 Nc35
  refine OwnWp.step st35 ?_
  have eh35 : T35.heap = T12.heap := hp35
  obtain ⟨Lg35, Xg35, Ng35⟩ := own_fold (c' := 1) (s' := 16) X35 N35 (by decide) (by decide)
  show OwnWp p e below s _ _ _ (T35.setTop (mkF m 295 #[.val (.long p1), .second, .val (.int p2), .val (.long w1), .second, .val (.ref b12), .val (.int (1 : Int32)), .val (.long w29), .second] [(.long (own_stp w29 w30))]))
  obtain ⟨w31, qw31⟩ : ∃ z : Int64, z = (own_stp w29 w30) := ⟨_, rfl⟩
  refine OwnWp.step (U' := T35.setTop (mkF m 297 #[.val (.long p1), .second, .val (.int p2), .val (.long w1), .second, .val (.ref b12), .val (.int (1 : Int32)), .val (.long w31), .second] [])) (fun t k => ?_) ?_
  · show Steps p.tables e below (T35.setTop (mkF m 295 #[.val (.long p1), .second, .val (.int p2), .val (.long w1), .second, .val (.ref b12), .val (.int (1 : Int32)), .val (.long w29), .second] [(.long (own_stp w29 w30))])) _
    refine XT.lstore Xg35.here hx rfl (hb hby at_295) rfl (l' := #[.val (.long p1), .second, .val (.int p2), .val (.long w1), .second, .val (.ref b12), .val (.int (1 : Int32)), .val (.long (own_stp w29 w30)), .second]) rfl ?_
    show Steps p.tables e below (T35.setTop (mkF m 297 #[.val (.long p1), .second, .val (.int p2), .val (.long w1), .second, .val (.ref b12), .val (.int (1 : Int32)), .val (.long (own_stp w29 w30)), .second] [])) _
    rw [qw31] at k
    exact k
  refine OwnWp.step (U' := T35.setTop (mkF m 304 #[.val (.long p1), .second, .val (.int p2), .val (.long w1), .second, .val (.ref b12), .val (.int (1 : Int32)), .val (.long w31), .second] [(.int (f12 (7 : Int32).toInt)), (.long w31)])) (fun t k => ?_) ?_
  · show Steps p.tables e below (T35.setTop (mkF m 297 #[.val (.long p1), .second, .val (.int p2), .val (.long w1), .second, .val (.ref b12), .val (.int (1 : Int32)), .val (.long w31), .second] [])) _
    refine XT.lload Xg35.here hx rfl (hb hby at_297) rfl ?_
    show Steps p.tables e below (T35.setTop (mkF m 299 #[.val (.long p1), .second, .val (.int p2), .val (.long w1), .second, .val (.ref b12), .val (.int (1 : Int32)), .val (.long w31), .second] [(.long w31)])) _
    refine XS.aload Xg35.here hx rfl (hb hby at_299) rfl rfl ?_
    show Steps p.tables e below (T35.setTop (mkF m 301 #[.val (.long p1), .second, .val (.int p2), .val (.long w1), .second, .val (.ref b12), .val (.int (1 : Int32)), .val (.long w31), .second] [(.ref b12), (.long w31)])) _
    refine XT.bipushV Xg35.here hx rfl (7 : Int32) (hb hby at_301) rfl ?_
    show Steps p.tables e below (T35.setTop (mkF m 303 #[.val (.long p1), .second, .val (.int p2), .val (.long w1), .second, .val (.ref b12), .val (.int (1 : Int32)), .val (.long w31), .second] [(.int (7 : Int32)), (.ref b12), (.long w31)])) _
    refine OwnA.ldB Xg35 hx hZ eh35 ab12 (by decide) (by decide) rfl rfl (hb hby at_303) ?_
    show Steps p.tables e below (T35.setTop (mkF m 304 #[.val (.long p1), .second, .val (.int p2), .val (.long w1), .second, .val (.ref b12), .val (.int (1 : Int32)), .val (.long w31), .second] [(.int (f12 (7 : Int32).toInt)), (.long w31)])) _
    exact k
  obtain ⟨w32, qw32⟩ : ∃ z : Int32, z = (f12 (7 : Int32).toInt) := ⟨_, rfl⟩
  rw [← qw32]
  show OwnWp p e below s _ _ _ (T35.setTop (mkF m 304 #[.val (.long p1), .second, .val (.int p2), .val (.long w1), .second, .val (.ref b12), .val (.int (1 : Int32)), .val (.long w31), .second] [(.int w32), (.long w31)]))
  obtain ⟨_, _, ⟨T36, L36, k36, n36⟩, -, X36, ⟨Lc36, hQ36, l36, y36, z36⟩, st36⟩ := Jvm.LawKit.callS Xg35 hx (y := (⟨"leafrun/bench/BenchDataKeyPinLaw", "step", "(JB)J"⟩ : MethodName)) hown (mvT hZ (hw _ (List.mem_of_getElem? (i := 12) rfl))) (mvT hZ (hw _ (List.mem_of_getElem? (i := 13) rfl))) (mvT hZ (hw _ (List.mem_of_getElem? (i := 10) rfl))) (mvT hZ (hw _ (List.mem_of_getElem? (i := 14) rfl))) (by decide) (backOf (W := 0) (rm3 l Z a0 hw [] w31 w32 T12.heap n0 Z12 ) hZ (hw _ (List.mem_of_getElem? (i := 14) rfl)) (hw _ (List.mem_of_getElem? (i := 10) rfl)) (by decide) (by decide)) (g := (mkF m 304 #[.val (.long p1), .second, .val (.int p2), .val (.long w1), .second, .val (.ref b12), .val (.int (1 : Int32)), .val (.long w31), .second] [(.int w32), (.long w31)])) rfl (by rw [hml]; rfl) (argsL := [(.long w31), (.int w32)]) (rest := []) (lenOf pd_3 rfl) rfl (by show 2 * 0 + _ ≤ _; exact Nat.le_of_eq rfl) (hb hby at_304) (fun _ _ => ⟨rfl, eh35, (by dsimp only [Pt.cells]; decide), (by dsimp only [Pt.slots]; decide)⟩)
  dsimp only [Pt.U, Pt.locs, Pt.cells, Pt.slots] at X36 l36 y36 z36 st36 hQ36
  subst l36 y36 z36
  obtain ⟨rfl, Nc36, hp36⟩ := hQ36
  have N36 := Fr.app Ng35 Nc36
  refine OwnWp.step st36 ?_
  have eh36 : T36.heap = T12.heap := hp36
  obtain ⟨Lg36, Xg36, Ng36⟩ := own_fold (c' := 1) (s' := 16) X36 N36 (by decide) (by decide)
  show OwnWp p e below s _ _ _ (T36.setTop (mkF m 307 #[.val (.long p1), .second, .val (.int p2), .val (.long w1), .second, .val (.ref b12), .val (.int (1 : Int32)), .val (.long w31), .second] [(.long (own_stp w31 w32))]))
  obtain ⟨w33, qw33⟩ : ∃ z : Int64, z = (own_stp w31 w32) := ⟨_, rfl⟩
  refine OwnWp.step (U' := T36.setTop (mkF m 309 #[.val (.long p1), .second, .val (.int p2), .val (.long w1), .second, .val (.ref b12), .val (.int (1 : Int32)), .val (.long w33), .second] [])) (fun t k => ?_) ?_
  · show Steps p.tables e below (T36.setTop (mkF m 307 #[.val (.long p1), .second, .val (.int p2), .val (.long w1), .second, .val (.ref b12), .val (.int (1 : Int32)), .val (.long w31), .second] [(.long (own_stp w31 w32))])) _
    refine XT.lstore Xg36.here hx rfl (hb hby at_307) rfl (l' := #[.val (.long p1), .second, .val (.int p2), .val (.long w1), .second, .val (.ref b12), .val (.int (1 : Int32)), .val (.long (own_stp w31 w32)), .second]) rfl ?_
    show Steps p.tables e below (T36.setTop (mkF m 309 #[.val (.long p1), .second, .val (.int p2), .val (.long w1), .second, .val (.ref b12), .val (.int (1 : Int32)), .val (.long (own_stp w31 w32)), .second] [])) _
    rw [qw33] at k
    exact k
  refine OwnWp.step (U' := T36.setTop (mkF m 316 #[.val (.long p1), .second, .val (.int p2), .val (.long w1), .second, .val (.ref b12), .val (.int (1 : Int32)), .val (.long w33), .second] [(.int (f12 (8 : Int32).toInt)), (.long w33)])) (fun t k => ?_) ?_
  · show Steps p.tables e below (T36.setTop (mkF m 309 #[.val (.long p1), .second, .val (.int p2), .val (.long w1), .second, .val (.ref b12), .val (.int (1 : Int32)), .val (.long w33), .second] [])) _
    refine XT.lload Xg36.here hx rfl (hb hby at_309) rfl ?_
    show Steps p.tables e below (T36.setTop (mkF m 311 #[.val (.long p1), .second, .val (.int p2), .val (.long w1), .second, .val (.ref b12), .val (.int (1 : Int32)), .val (.long w33), .second] [(.long w33)])) _
    refine XS.aload Xg36.here hx rfl (hb hby at_311) rfl rfl ?_
    show Steps p.tables e below (T36.setTop (mkF m 313 #[.val (.long p1), .second, .val (.int p2), .val (.long w1), .second, .val (.ref b12), .val (.int (1 : Int32)), .val (.long w33), .second] [(.ref b12), (.long w33)])) _
    refine XT.bipushV Xg36.here hx rfl (8 : Int32) (hb hby at_313) rfl ?_
    show Steps p.tables e below (T36.setTop (mkF m 315 #[.val (.long p1), .second, .val (.int p2), .val (.long w1), .second, .val (.ref b12), .val (.int (1 : Int32)), .val (.long w33), .second] [(.int (8 : Int32)), (.ref b12), (.long w33)])) _
    refine OwnA.ldB Xg36 hx hZ eh36 ab12 (by decide) (by decide) rfl rfl (hb hby at_315) ?_
    show Steps p.tables e below (T36.setTop (mkF m 316 #[.val (.long p1), .second, .val (.int p2), .val (.long w1), .second, .val (.ref b12), .val (.int (1 : Int32)), .val (.long w33), .second] [(.int (f12 (8 : Int32).toInt)), (.long w33)])) _
    exact k
  obtain ⟨w34, qw34⟩ : ∃ z : Int32, z = (f12 (8 : Int32).toInt) := ⟨_, rfl⟩
  rw [← qw34]
  show OwnWp p e below s _ _ _ (T36.setTop (mkF m 316 #[.val (.long p1), .second, .val (.int p2), .val (.long w1), .second, .val (.ref b12), .val (.int (1 : Int32)), .val (.long w33), .second] [(.int w34), (.long w33)]))
  obtain ⟨_, _, ⟨T37, L37, k37, n37⟩, -, X37, ⟨Lc37, hQ37, l37, y37, z37⟩, st37⟩ := Jvm.LawKit.callS Xg36 hx (y := (⟨"leafrun/bench/BenchDataKeyPinLaw", "step", "(JB)J"⟩ : MethodName)) hown (mvT hZ (hw _ (List.mem_of_getElem? (i := 12) rfl))) (mvT hZ (hw _ (List.mem_of_getElem? (i := 13) rfl))) (mvT hZ (hw _ (List.mem_of_getElem? (i := 10) rfl))) (mvT hZ (hw _ (List.mem_of_getElem? (i := 14) rfl))) (by decide) (backOf (W := 0) (rm3 l Z a0 hw [] w33 w34 T12.heap n0 Z12 ) hZ (hw _ (List.mem_of_getElem? (i := 14) rfl)) (hw _ (List.mem_of_getElem? (i := 10) rfl)) (by decide) (by decide)) (g := (mkF m 316 #[.val (.long p1), .second, .val (.int p2), .val (.long w1), .second, .val (.ref b12), .val (.int (1 : Int32)), .val (.long w33), .second] [(.int w34), (.long w33)])) rfl (by rw [hml]; rfl) (argsL := [(.long w33), (.int w34)]) (rest := []) (lenOf pd_3 rfl) rfl (by show 2 * 0 + _ ≤ _; exact Nat.le_of_eq rfl) (hb hby at_316) (fun _ _ => ⟨rfl, eh36, (by dsimp only [Pt.cells]; decide), (by dsimp only [Pt.slots]; decide)⟩)
  dsimp only [Pt.U, Pt.locs, Pt.cells, Pt.slots] at X37 l37 y37 z37 st37 hQ37
  subst l37 y37 z37
  obtain ⟨rfl, Nc37, hp37⟩ := hQ37
  have N37 := Fr.app Ng36 Nc37
  refine OwnWp.step st37 ?_
  have eh37 : T37.heap = T12.heap := hp37
  obtain ⟨Lg37, Xg37, Ng37⟩ := own_fold (c' := 1) (s' := 16) X37 N37 (by decide) (by decide)
  show OwnWp p e below s _ _ _ (T37.setTop (mkF m 319 #[.val (.long p1), .second, .val (.int p2), .val (.long w1), .second, .val (.ref b12), .val (.int (1 : Int32)), .val (.long w33), .second] [(.long (own_stp w33 w34))]))
  obtain ⟨w35, qw35⟩ : ∃ z : Int64, z = (own_stp w33 w34) := ⟨_, rfl⟩
  refine OwnWp.step (U' := T37.setTop (mkF m 321 #[.val (.long p1), .second, .val (.int p2), .val (.long w1), .second, .val (.ref b12), .val (.int (1 : Int32)), .val (.long w35), .second] [])) (fun t k => ?_) ?_
  · show Steps p.tables e below (T37.setTop (mkF m 319 #[.val (.long p1), .second, .val (.int p2), .val (.long w1), .second, .val (.ref b12), .val (.int (1 : Int32)), .val (.long w33), .second] [(.long (own_stp w33 w34))])) _
    refine XT.lstore Xg37.here hx rfl (hb hby at_319) rfl (l' := #[.val (.long p1), .second, .val (.int p2), .val (.long w1), .second, .val (.ref b12), .val (.int (1 : Int32)), .val (.long (own_stp w33 w34)), .second]) rfl ?_
    show Steps p.tables e below (T37.setTop (mkF m 321 #[.val (.long p1), .second, .val (.int p2), .val (.long w1), .second, .val (.ref b12), .val (.int (1 : Int32)), .val (.long (own_stp w33 w34)), .second] [])) _
    rw [qw35] at k
    exact k
  refine OwnWp.step (U' := T37.setTop (mkF m 328 #[.val (.long p1), .second, .val (.int p2), .val (.long w1), .second, .val (.ref b12), .val (.int (1 : Int32)), .val (.long w35), .second] [(.int (f12 (9 : Int32).toInt)), (.long w35)])) (fun t k => ?_) ?_
  · show Steps p.tables e below (T37.setTop (mkF m 321 #[.val (.long p1), .second, .val (.int p2), .val (.long w1), .second, .val (.ref b12), .val (.int (1 : Int32)), .val (.long w35), .second] [])) _
    refine XT.lload Xg37.here hx rfl (hb hby at_321) rfl ?_
    show Steps p.tables e below (T37.setTop (mkF m 323 #[.val (.long p1), .second, .val (.int p2), .val (.long w1), .second, .val (.ref b12), .val (.int (1 : Int32)), .val (.long w35), .second] [(.long w35)])) _
    refine XS.aload Xg37.here hx rfl (hb hby at_323) rfl rfl ?_
    show Steps p.tables e below (T37.setTop (mkF m 325 #[.val (.long p1), .second, .val (.int p2), .val (.long w1), .second, .val (.ref b12), .val (.int (1 : Int32)), .val (.long w35), .second] [(.ref b12), (.long w35)])) _
    refine XT.bipushV Xg37.here hx rfl (9 : Int32) (hb hby at_325) rfl ?_
    show Steps p.tables e below (T37.setTop (mkF m 327 #[.val (.long p1), .second, .val (.int p2), .val (.long w1), .second, .val (.ref b12), .val (.int (1 : Int32)), .val (.long w35), .second] [(.int (9 : Int32)), (.ref b12), (.long w35)])) _
    refine OwnA.ldB Xg37 hx hZ eh37 ab12 (by decide) (by decide) rfl rfl (hb hby at_327) ?_
    show Steps p.tables e below (T37.setTop (mkF m 328 #[.val (.long p1), .second, .val (.int p2), .val (.long w1), .second, .val (.ref b12), .val (.int (1 : Int32)), .val (.long w35), .second] [(.int (f12 (9 : Int32).toInt)), (.long w35)])) _
    exact k
  obtain ⟨w36, qw36⟩ : ∃ z : Int32, z = (f12 (9 : Int32).toInt) := ⟨_, rfl⟩
  rw [← qw36]
  show OwnWp p e below s _ _ _ (T37.setTop (mkF m 328 #[.val (.long p1), .second, .val (.int p2), .val (.long w1), .second, .val (.ref b12), .val (.int (1 : Int32)), .val (.long w35), .second] [(.int w36), (.long w35)]))
  obtain ⟨_, _, ⟨T38, L38, k38, n38⟩, -, X38, ⟨Lc38, hQ38, l38, y38, z38⟩, st38⟩ := Jvm.LawKit.callS Xg37 hx (y := (⟨"leafrun/bench/BenchDataKeyPinLaw", "step", "(JB)J"⟩ : MethodName)) hown (mvT hZ (hw _ (List.mem_of_getElem? (i := 12) rfl))) (mvT hZ (hw _ (List.mem_of_getElem? (i := 13) rfl))) (mvT hZ (hw _ (List.mem_of_getElem? (i := 10) rfl))) (mvT hZ (hw _ (List.mem_of_getElem? (i := 14) rfl))) (by decide) (backOf (W := 0) (rm3 l Z a0 hw [] w35 w36 T12.heap n0 Z12 ) hZ (hw _ (List.mem_of_getElem? (i := 14) rfl)) (hw _ (List.mem_of_getElem? (i := 10) rfl)) (by decide) (by decide)) (g := (mkF m 328 #[.val (.long p1), .second, .val (.int p2), .val (.long w1), .second, .val (.ref b12), .val (.int (1 : Int32)), .val (.long w35), .second] [(.int w36), (.long w35)])) rfl (by rw [hml]; rfl) (argsL := [(.long w35), (.int w36)]) (rest := []) (lenOf pd_3 rfl) rfl (by show 2 * 0 + _ ≤ _; exact Nat.le_of_eq rfl) (hb hby at_328) (fun _ _ => ⟨rfl, eh37, (by dsimp only [Pt.cells]; decide), (by dsimp only [Pt.slots]; decide)⟩)
  dsimp only [Pt.U, Pt.locs, Pt.cells, Pt.slots] at X38 l38 y38 z38 st38 hQ38
  subst l38 y38 z38
  obtain ⟨rfl, Nc38, hp38⟩ := hQ38
  have N38 := Fr.app Ng37 Nc38
  refine OwnWp.step st38 ?_
  have eh38 : T38.heap = T12.heap := hp38
  obtain ⟨Lg38, Xg38, Ng38⟩ := own_fold (c' := 1) (s' := 16) X38 N38 (by decide) (by decide)
  show OwnWp p e below s _ _ _ (T38.setTop (mkF m 331 #[.val (.long p1), .second, .val (.int p2), .val (.long w1), .second, .val (.ref b12), .val (.int (1 : Int32)), .val (.long w35), .second] [(.long (own_stp w35 w36))]))
  obtain ⟨w37, qw37⟩ : ∃ z : Int64, z = (own_stp w35 w36) := ⟨_, rfl⟩
  refine OwnWp.step (U' := T38.setTop (mkF m 333 #[.val (.long p1), .second, .val (.int p2), .val (.long w1), .second, .val (.ref b12), .val (.int (1 : Int32)), .val (.long w37), .second] [])) (fun t k => ?_) ?_
  · show Steps p.tables e below (T38.setTop (mkF m 331 #[.val (.long p1), .second, .val (.int p2), .val (.long w1), .second, .val (.ref b12), .val (.int (1 : Int32)), .val (.long w35), .second] [(.long (own_stp w35 w36))])) _
    refine XT.lstore Xg38.here hx rfl (hb hby at_331) rfl (l' := #[.val (.long p1), .second, .val (.int p2), .val (.long w1), .second, .val (.ref b12), .val (.int (1 : Int32)), .val (.long (own_stp w35 w36)), .second]) rfl ?_
    show Steps p.tables e below (T38.setTop (mkF m 333 #[.val (.long p1), .second, .val (.int p2), .val (.long w1), .second, .val (.ref b12), .val (.int (1 : Int32)), .val (.long (own_stp w35 w36)), .second] [])) _
    rw [qw37] at k
    exact k
  refine OwnWp.step (U' := T38.setTop (mkF m 340 #[.val (.long p1), .second, .val (.int p2), .val (.long w1), .second, .val (.ref b12), .val (.int (1 : Int32)), .val (.long w37), .second] [(.int (f12 (10 : Int32).toInt)), (.long w37)])) (fun t k => ?_) ?_
  · show Steps p.tables e below (T38.setTop (mkF m 333 #[.val (.long p1), .second, .val (.int p2), .val (.long w1), .second, .val (.ref b12), .val (.int (1 : Int32)), .val (.long w37), .second] [])) _
    refine XT.lload Xg38.here hx rfl (hb hby at_333) rfl ?_
    show Steps p.tables e below (T38.setTop (mkF m 335 #[.val (.long p1), .second, .val (.int p2), .val (.long w1), .second, .val (.ref b12), .val (.int (1 : Int32)), .val (.long w37), .second] [(.long w37)])) _
    refine XS.aload Xg38.here hx rfl (hb hby at_335) rfl rfl ?_
    show Steps p.tables e below (T38.setTop (mkF m 337 #[.val (.long p1), .second, .val (.int p2), .val (.long w1), .second, .val (.ref b12), .val (.int (1 : Int32)), .val (.long w37), .second] [(.ref b12), (.long w37)])) _
    refine XT.bipushV Xg38.here hx rfl (10 : Int32) (hb hby at_337) rfl ?_
    show Steps p.tables e below (T38.setTop (mkF m 339 #[.val (.long p1), .second, .val (.int p2), .val (.long w1), .second, .val (.ref b12), .val (.int (1 : Int32)), .val (.long w37), .second] [(.int (10 : Int32)), (.ref b12), (.long w37)])) _
    refine OwnA.ldB Xg38 hx hZ eh38 ab12 (by decide) (by decide) rfl rfl (hb hby at_339) ?_
    show Steps p.tables e below (T38.setTop (mkF m 340 #[.val (.long p1), .second, .val (.int p2), .val (.long w1), .second, .val (.ref b12), .val (.int (1 : Int32)), .val (.long w37), .second] [(.int (f12 (10 : Int32).toInt)), (.long w37)])) _
    exact k
  obtain ⟨w38, qw38⟩ : ∃ z : Int32, z = (f12 (10 : Int32).toInt) := ⟨_, rfl⟩
  rw [← qw38]
  show OwnWp p e below s _ _ _ (T38.setTop (mkF m 340 #[.val (.long p1), .second, .val (.int p2), .val (.long w1), .second, .val (.ref b12), .val (.int (1 : Int32)), .val (.long w37), .second] [(.int w38), (.long w37)]))
  obtain ⟨_, _, ⟨T39, L39, k39, n39⟩, -, X39, ⟨Lc39, hQ39, l39, y39, z39⟩, st39⟩ := Jvm.LawKit.callS Xg38 hx (y := (⟨"leafrun/bench/BenchDataKeyPinLaw", "step", "(JB)J"⟩ : MethodName)) hown (mvT hZ (hw _ (List.mem_of_getElem? (i := 12) rfl))) (mvT hZ (hw _ (List.mem_of_getElem? (i := 13) rfl))) (mvT hZ (hw _ (List.mem_of_getElem? (i := 10) rfl))) (mvT hZ (hw _ (List.mem_of_getElem? (i := 14) rfl))) (by decide) (backOf (W := 0) (rm3 l Z a0 hw [] w37 w38 T12.heap n0 Z12 ) hZ (hw _ (List.mem_of_getElem? (i := 14) rfl)) (hw _ (List.mem_of_getElem? (i := 10) rfl)) (by decide) (by decide)) (g := (mkF m 340 #[.val (.long p1), .second, .val (.int p2), .val (.long w1), .second, .val (.ref b12), .val (.int (1 : Int32)), .val (.long w37), .second] [(.int w38), (.long w37)])) rfl (by rw [hml]; rfl) (argsL := [(.long w37), (.int w38)]) (rest := []) (lenOf pd_3 rfl) rfl (by show 2 * 0 + _ ≤ _; exact Nat.le_of_eq rfl) (hb hby at_340) (fun _ _ => ⟨rfl, eh38, (by dsimp only [Pt.cells]; decide), (by dsimp only [Pt.slots]; decide)⟩)
  dsimp only [Pt.U, Pt.locs, Pt.cells, Pt.slots] at X39 l39 y39 z39 st39 hQ39
  subst l39 y39 z39
  obtain ⟨rfl, Nc39, hp39⟩ := hQ39
  have N39 := Fr.app Ng38 Nc39
  refine OwnWp.step st39 ?_
  have eh39 : T39.heap = T12.heap := hp39
  obtain ⟨Lg39, Xg39, Ng39⟩ := own_fold (c' := 1) (s' := 16) X39 N39 (by decide) (by decide)
  show OwnWp p e below s _ _ _ (T39.setTop (mkF m 343 #[.val (.long p1), .second, .val (.int p2), .val (.long w1), .second, .val (.ref b12), .val (.int (1 : Int32)), .val (.long w37), .second] [(.long (own_stp w37 w38))]))
  obtain ⟨w39, qw39⟩ : ∃ z : Int64, z = (own_stp w37 w38) := ⟨_, rfl⟩
  refine OwnWp.step (U' := T39.setTop (mkF m 345 #[.val (.long p1), .second, .val (.int p2), .val (.long w1), .second, .val (.ref b12), .val (.int (1 : Int32)), .val (.long w39), .second] [])) (fun t k => ?_) ?_
  · show Steps p.tables e below (T39.setTop (mkF m 343 #[.val (.long p1), .second, .val (.int p2), .val (.long w1), .second, .val (.ref b12), .val (.int (1 : Int32)), .val (.long w37), .second] [(.long (own_stp w37 w38))])) _
    refine XT.lstore Xg39.here hx rfl (hb hby at_343) rfl (l' := #[.val (.long p1), .second, .val (.int p2), .val (.long w1), .second, .val (.ref b12), .val (.int (1 : Int32)), .val (.long (own_stp w37 w38)), .second]) rfl ?_
    show Steps p.tables e below (T39.setTop (mkF m 345 #[.val (.long p1), .second, .val (.int p2), .val (.long w1), .second, .val (.ref b12), .val (.int (1 : Int32)), .val (.long (own_stp w37 w38)), .second] [])) _
    rw [qw39] at k
    exact k
  refine OwnWp.step (U' := T39.setTop (mkF m 352 #[.val (.long p1), .second, .val (.int p2), .val (.long w1), .second, .val (.ref b12), .val (.int (1 : Int32)), .val (.long w39), .second] [(.int (f12 (11 : Int32).toInt)), (.long w39)])) (fun t k => ?_) ?_
  · show Steps p.tables e below (T39.setTop (mkF m 345 #[.val (.long p1), .second, .val (.int p2), .val (.long w1), .second, .val (.ref b12), .val (.int (1 : Int32)), .val (.long w39), .second] [])) _
    refine XT.lload Xg39.here hx rfl (hb hby at_345) rfl ?_
    show Steps p.tables e below (T39.setTop (mkF m 347 #[.val (.long p1), .second, .val (.int p2), .val (.long w1), .second, .val (.ref b12), .val (.int (1 : Int32)), .val (.long w39), .second] [(.long w39)])) _
    refine XS.aload Xg39.here hx rfl (hb hby at_347) rfl rfl ?_
    show Steps p.tables e below (T39.setTop (mkF m 349 #[.val (.long p1), .second, .val (.int p2), .val (.long w1), .second, .val (.ref b12), .val (.int (1 : Int32)), .val (.long w39), .second] [(.ref b12), (.long w39)])) _
    refine XT.bipushV Xg39.here hx rfl (11 : Int32) (hb hby at_349) rfl ?_
    show Steps p.tables e below (T39.setTop (mkF m 351 #[.val (.long p1), .second, .val (.int p2), .val (.long w1), .second, .val (.ref b12), .val (.int (1 : Int32)), .val (.long w39), .second] [(.int (11 : Int32)), (.ref b12), (.long w39)])) _
    refine OwnA.ldB Xg39 hx hZ eh39 ab12 (by decide) (by decide) rfl rfl (hb hby at_351) ?_
    show Steps p.tables e below (T39.setTop (mkF m 352 #[.val (.long p1), .second, .val (.int p2), .val (.long w1), .second, .val (.ref b12), .val (.int (1 : Int32)), .val (.long w39), .second] [(.int (f12 (11 : Int32).toInt)), (.long w39)])) _
    exact k
  obtain ⟨w40, qw40⟩ : ∃ z : Int32, z = (f12 (11 : Int32).toInt) := ⟨_, rfl⟩
  rw [← qw40]
  show OwnWp p e below s _ _ _ (T39.setTop (mkF m 352 #[.val (.long p1), .second, .val (.int p2), .val (.long w1), .second, .val (.ref b12), .val (.int (1 : Int32)), .val (.long w39), .second] [(.int w40), (.long w39)]))
  obtain ⟨_, _, ⟨T40, L40, k40, n40⟩, -, X40, ⟨Lc40, hQ40, l40, y40, z40⟩, st40⟩ := Jvm.LawKit.callS Xg39 hx (y := (⟨"leafrun/bench/BenchDataKeyPinLaw", "step", "(JB)J"⟩ : MethodName)) hown (mvT hZ (hw _ (List.mem_of_getElem? (i := 12) rfl))) (mvT hZ (hw _ (List.mem_of_getElem? (i := 13) rfl))) (mvT hZ (hw _ (List.mem_of_getElem? (i := 10) rfl))) (mvT hZ (hw _ (List.mem_of_getElem? (i := 14) rfl))) (by decide) (backOf (W := 0) (rm3 l Z a0 hw [] w39 w40 T12.heap n0 Z12 ) hZ (hw _ (List.mem_of_getElem? (i := 14) rfl)) (hw _ (List.mem_of_getElem? (i := 10) rfl)) (by decide) (by decide)) (g := (mkF m 352 #[.val (.long p1), .second, .val (.int p2), .val (.long w1), .second, .val (.ref b12), .val (.int (1 : Int32)), .val (.long w39), .second] [(.int w40), (.long w39)])) rfl (by rw [hml]; rfl) (argsL := [(.long w39), (.int w40)]) (rest := []) (lenOf pd_3 rfl) rfl (by show 2 * 0 + _ ≤ _; exact Nat.le_of_eq rfl) (hb hby at_352) (fun _ _ => ⟨rfl, eh39, (by dsimp only [Pt.cells]; decide), (by dsimp only [Pt.slots]; decide)⟩)
  dsimp only [Pt.U, Pt.locs, Pt.cells, Pt.slots] at X40 l40 y40 z40 st40 hQ40
  subst l40 y40 z40
  obtain ⟨rfl, Nc40, hp40⟩ := hQ40
  have N40 := Fr.app Ng39 Nc40
  refine OwnWp.step st40 ?_
  have eh40 : T40.heap = T12.heap := hp40
  obtain ⟨Lg40, Xg40, Ng40⟩ := own_fold (c' := 1) (s' := 16) X40 N40 (by decide) (by decide)
  show OwnWp p e below s _ _ _ (T40.setTop (mkF m 355 #[.val (.long p1), .second, .val (.int p2), .val (.long w1), .second, .val (.ref b12), .val (.int (1 : Int32)), .val (.long w39), .second] [(.long (own_stp w39 w40))]))
  obtain ⟨w41, qw41⟩ : ∃ z : Int64, z = (own_stp w39 w40) := ⟨_, rfl⟩
  refine OwnWp.step (U' := T40.setTop (mkF m 357 #[.val (.long p1), .second, .val (.int p2), .val (.long w1), .second, .val (.ref b12), .val (.int (1 : Int32)), .val (.long w41), .second] [])) (fun t k => ?_) ?_
  · show Steps p.tables e below (T40.setTop (mkF m 355 #[.val (.long p1), .second, .val (.int p2), .val (.long w1), .second, .val (.ref b12), .val (.int (1 : Int32)), .val (.long w39), .second] [(.long (own_stp w39 w40))])) _
    refine XT.lstore Xg40.here hx rfl (hb hby at_355) rfl (l' := #[.val (.long p1), .second, .val (.int p2), .val (.long w1), .second, .val (.ref b12), .val (.int (1 : Int32)), .val (.long (own_stp w39 w40)), .second]) rfl ?_
    show Steps p.tables e below (T40.setTop (mkF m 357 #[.val (.long p1), .second, .val (.int p2), .val (.long w1), .second, .val (.ref b12), .val (.int (1 : Int32)), .val (.long (own_stp w39 w40)), .second] [])) _
    rw [qw41] at k
    exact k
  refine OwnWp.step (U' := T40.setTop (mkF m 364 #[.val (.long p1), .second, .val (.int p2), .val (.long w1), .second, .val (.ref b12), .val (.int (1 : Int32)), .val (.long w41), .second] [(.int (f12 (12 : Int32).toInt)), (.long w41)])) (fun t k => ?_) ?_
  · show Steps p.tables e below (T40.setTop (mkF m 357 #[.val (.long p1), .second, .val (.int p2), .val (.long w1), .second, .val (.ref b12), .val (.int (1 : Int32)), .val (.long w41), .second] [])) _
    refine XT.lload Xg40.here hx rfl (hb hby at_357) rfl ?_
    show Steps p.tables e below (T40.setTop (mkF m 359 #[.val (.long p1), .second, .val (.int p2), .val (.long w1), .second, .val (.ref b12), .val (.int (1 : Int32)), .val (.long w41), .second] [(.long w41)])) _
    refine XS.aload Xg40.here hx rfl (hb hby at_359) rfl rfl ?_
    show Steps p.tables e below (T40.setTop (mkF m 361 #[.val (.long p1), .second, .val (.int p2), .val (.long w1), .second, .val (.ref b12), .val (.int (1 : Int32)), .val (.long w41), .second] [(.ref b12), (.long w41)])) _
    refine XT.bipushV Xg40.here hx rfl (12 : Int32) (hb hby at_361) rfl ?_
    show Steps p.tables e below (T40.setTop (mkF m 363 #[.val (.long p1), .second, .val (.int p2), .val (.long w1), .second, .val (.ref b12), .val (.int (1 : Int32)), .val (.long w41), .second] [(.int (12 : Int32)), (.ref b12), (.long w41)])) _
    refine OwnA.ldB Xg40 hx hZ eh40 ab12 (by decide) (by decide) rfl rfl (hb hby at_363) ?_
    show Steps p.tables e below (T40.setTop (mkF m 364 #[.val (.long p1), .second, .val (.int p2), .val (.long w1), .second, .val (.ref b12), .val (.int (1 : Int32)), .val (.long w41), .second] [(.int (f12 (12 : Int32).toInt)), (.long w41)])) _
    exact k
  obtain ⟨w42, qw42⟩ : ∃ z : Int32, z = (f12 (12 : Int32).toInt) := ⟨_, rfl⟩
  rw [← qw42]
  show OwnWp p e below s _ _ _ (T40.setTop (mkF m 364 #[.val (.long p1), .second, .val (.int p2), .val (.long w1), .second, .val (.ref b12), .val (.int (1 : Int32)), .val (.long w41), .second] [(.int w42), (.long w41)]))
  obtain ⟨_, _, ⟨T41, L41, k41, n41⟩, -, X41, ⟨Lc41, hQ41, l41, y41, z41⟩, st41⟩ := Jvm.LawKit.callS Xg40 hx (y := (⟨"leafrun/bench/BenchDataKeyPinLaw", "step", "(JB)J"⟩ : MethodName)) hown (mvT hZ (hw _ (List.mem_of_getElem? (i := 12) rfl))) (mvT hZ (hw _ (List.mem_of_getElem? (i := 13) rfl))) (mvT hZ (hw _ (List.mem_of_getElem? (i := 10) rfl))) (mvT hZ (hw _ (List.mem_of_getElem? (i := 14) rfl))) (by decide) (backOf (W := 0) (rm3 l Z a0 hw [] w41 w42 T12.heap n0 Z12 ) hZ (hw _ (List.mem_of_getElem? (i := 14) rfl)) (hw _ (List.mem_of_getElem? (i := 10) rfl)) (by decide) (by decide)) (g := (mkF m 364 #[.val (.long p1), .second, .val (.int p2), .val (.long w1), .second, .val (.ref b12), .val (.int (1 : Int32)), .val (.long w41), .second] [(.int w42), (.long w41)])) rfl (by rw [hml]; rfl) (argsL := [(.long w41), (.int w42)]) (rest := []) (lenOf pd_3 rfl) rfl (by show 2 * 0 + _ ≤ _; exact Nat.le_of_eq rfl) (hb hby at_364) (fun _ _ => ⟨rfl, eh40, (by dsimp only [Pt.cells]; decide), (by dsimp only [Pt.slots]; decide)⟩)
  dsimp only [Pt.U, Pt.locs, Pt.cells, Pt.slots] at X41 l41 y41 z41 st41 hQ41
  subst l41 y41 z41
  obtain ⟨rfl, Nc41, hp41⟩ := hQ41
  have N41 := Fr.app Ng40 Nc41
  refine OwnWp.step st41 ?_
  have eh41 : T41.heap = T12.heap := hp41
  obtain ⟨Lg41, Xg41, Ng41⟩ := own_fold (c' := 1) (s' := 16) X41 N41 (by decide) (by decide)
  show OwnWp p e below s _ _ _ (T41.setTop (mkF m 367 #[.val (.long p1), .second, .val (.int p2), .val (.long w1), .second, .val (.ref b12), .val (.int (1 : Int32)), .val (.long w41), .second] [(.long (own_stp w41 w42))]))
  obtain ⟨w43, qw43⟩ : ∃ z : Int64, z = (own_stp w41 w42) := ⟨_, rfl⟩
  refine OwnWp.step (U' := T41.setTop (mkF m 369 #[.val (.long p1), .second, .val (.int p2), .val (.long w1), .second, .val (.ref b12), .val (.int (1 : Int32)), .val (.long w43), .second] [])) (fun t k => ?_) ?_
  · show Steps p.tables e below (T41.setTop (mkF m 367 #[.val (.long p1), .second, .val (.int p2), .val (.long w1), .second, .val (.ref b12), .val (.int (1 : Int32)), .val (.long w41), .second] [(.long (own_stp w41 w42))])) _
    refine XT.lstore Xg41.here hx rfl (hb hby at_367) rfl (l' := #[.val (.long p1), .second, .val (.int p2), .val (.long w1), .second, .val (.ref b12), .val (.int (1 : Int32)), .val (.long (own_stp w41 w42)), .second]) rfl ?_
    show Steps p.tables e below (T41.setTop (mkF m 369 #[.val (.long p1), .second, .val (.int p2), .val (.long w1), .second, .val (.ref b12), .val (.int (1 : Int32)), .val (.long (own_stp w41 w42)), .second] [])) _
    rw [qw43] at k
    exact k
  refine OwnWp.step (U' := T41.setTop (mkF m 376 #[.val (.long p1), .second, .val (.int p2), .val (.long w1), .second, .val (.ref b12), .val (.int (1 : Int32)), .val (.long w43), .second] [(.int (f12 (13 : Int32).toInt)), (.long w43)])) (fun t k => ?_) ?_
  · show Steps p.tables e below (T41.setTop (mkF m 369 #[.val (.long p1), .second, .val (.int p2), .val (.long w1), .second, .val (.ref b12), .val (.int (1 : Int32)), .val (.long w43), .second] [])) _
    refine XT.lload Xg41.here hx rfl (hb hby at_369) rfl ?_
    show Steps p.tables e below (T41.setTop (mkF m 371 #[.val (.long p1), .second, .val (.int p2), .val (.long w1), .second, .val (.ref b12), .val (.int (1 : Int32)), .val (.long w43), .second] [(.long w43)])) _
    refine XS.aload Xg41.here hx rfl (hb hby at_371) rfl rfl ?_
    show Steps p.tables e below (T41.setTop (mkF m 373 #[.val (.long p1), .second, .val (.int p2), .val (.long w1), .second, .val (.ref b12), .val (.int (1 : Int32)), .val (.long w43), .second] [(.ref b12), (.long w43)])) _
    refine XT.bipushV Xg41.here hx rfl (13 : Int32) (hb hby at_373) rfl ?_
    show Steps p.tables e below (T41.setTop (mkF m 375 #[.val (.long p1), .second, .val (.int p2), .val (.long w1), .second, .val (.ref b12), .val (.int (1 : Int32)), .val (.long w43), .second] [(.int (13 : Int32)), (.ref b12), (.long w43)])) _
    refine OwnA.ldB Xg41 hx hZ eh41 ab12 (by decide) (by decide) rfl rfl (hb hby at_375) ?_
    show Steps p.tables e below (T41.setTop (mkF m 376 #[.val (.long p1), .second, .val (.int p2), .val (.long w1), .second, .val (.ref b12), .val (.int (1 : Int32)), .val (.long w43), .second] [(.int (f12 (13 : Int32).toInt)), (.long w43)])) _
    exact k
  obtain ⟨w44, qw44⟩ : ∃ z : Int32, z = (f12 (13 : Int32).toInt) := ⟨_, rfl⟩
  rw [← qw44]
  show OwnWp p e below s _ _ _ (T41.setTop (mkF m 376 #[.val (.long p1), .second, .val (.int p2), .val (.long w1), .second, .val (.ref b12), .val (.int (1 : Int32)), .val (.long w43), .second] [(.int w44), (.long w43)]))
  obtain ⟨_, _, ⟨T42, L42, k42, n42⟩, -, X42, ⟨Lc42, hQ42, l42, y42, z42⟩, st42⟩ := Jvm.LawKit.callS Xg41 hx (y := (⟨"leafrun/bench/BenchDataKeyPinLaw", "step", "(JB)J"⟩ : MethodName)) hown (mvT hZ (hw _ (List.mem_of_getElem? (i := 12) rfl))) (mvT hZ (hw _ (List.mem_of_getElem? (i := 13) rfl))) (mvT hZ (hw _ (List.mem_of_getElem? (i := 10) rfl))) (mvT hZ (hw _ (List.mem_of_getElem? (i := 14) rfl))) (by decide) (backOf (W := 0) (rm3 l Z a0 hw [] w43 w44 T12.heap n0 Z12 ) hZ (hw _ (List.mem_of_getElem? (i := 14) rfl)) (hw _ (List.mem_of_getElem? (i := 10) rfl)) (by decide) (by decide)) (g := (mkF m 376 #[.val (.long p1), .second, .val (.int p2), .val (.long w1), .second, .val (.ref b12), .val (.int (1 : Int32)), .val (.long w43), .second] [(.int w44), (.long w43)])) rfl (by rw [hml]; rfl) (argsL := [(.long w43), (.int w44)]) (rest := []) (lenOf pd_3 rfl) rfl (by show 2 * 0 + _ ≤ _; exact Nat.le_of_eq rfl) (hb hby at_376) (fun _ _ => ⟨rfl, eh41, (by dsimp only [Pt.cells]; decide), (by dsimp only [Pt.slots]; decide)⟩)
  dsimp only [Pt.U, Pt.locs, Pt.cells, Pt.slots] at X42 l42 y42 z42 st42 hQ42
  subst l42 y42 z42
  obtain ⟨rfl, Nc42, hp42⟩ := hQ42
  have N42 := Fr.app Ng41 Nc42
  refine OwnWp.step st42 ?_
  have eh42 : T42.heap = T12.heap := hp42
  obtain ⟨Lg42, Xg42, Ng42⟩ := own_fold (c' := 1) (s' := 16) X42 N42 (by decide) (by decide)
  show OwnWp p e below s _ _ _ (T42.setTop (mkF m 379 #[.val (.long p1), .second, .val (.int p2), .val (.long w1), .second, .val (.ref b12), .val (.int (1 : Int32)), .val (.long w43), .second] [(.long (own_stp w43 w44))]))
  obtain ⟨w45, qw45⟩ : ∃ z : Int64, z = (own_stp w43 w44) := ⟨_, rfl⟩
  refine OwnWp.step (U' := T42.setTop (mkF m 381 #[.val (.long p1), .second, .val (.int p2), .val (.long w1), .second, .val (.ref b12), .val (.int (1 : Int32)), .val (.long w45), .second] [])) (fun t k => ?_) ?_
  · show Steps p.tables e below (T42.setTop (mkF m 379 #[.val (.long p1), .second, .val (.int p2), .val (.long w1), .second, .val (.ref b12), .val (.int (1 : Int32)), .val (.long w43), .second] [(.long (own_stp w43 w44))])) _
    refine XT.lstore Xg42.here hx rfl (hb hby at_379) rfl (l' := #[.val (.long p1), .second, .val (.int p2), .val (.long w1), .second, .val (.ref b12), .val (.int (1 : Int32)), .val (.long (own_stp w43 w44)), .second]) rfl ?_
    show Steps p.tables e below (T42.setTop (mkF m 381 #[.val (.long p1), .second, .val (.int p2), .val (.long w1), .second, .val (.ref b12), .val (.int (1 : Int32)), .val (.long (own_stp w43 w44)), .second] [])) _
    rw [qw45] at k
    exact k
  refine OwnWp.step (U' := T42.setTop (mkF m 388 #[.val (.long p1), .second, .val (.int p2), .val (.long w1), .second, .val (.ref b12), .val (.int (1 : Int32)), .val (.long w45), .second] [(.int (f12 (14 : Int32).toInt)), (.long w45)])) (fun t k => ?_) ?_
  · show Steps p.tables e below (T42.setTop (mkF m 381 #[.val (.long p1), .second, .val (.int p2), .val (.long w1), .second, .val (.ref b12), .val (.int (1 : Int32)), .val (.long w45), .second] [])) _
    refine XT.lload Xg42.here hx rfl (hb hby at_381) rfl ?_
    show Steps p.tables e below (T42.setTop (mkF m 383 #[.val (.long p1), .second, .val (.int p2), .val (.long w1), .second, .val (.ref b12), .val (.int (1 : Int32)), .val (.long w45), .second] [(.long w45)])) _
    refine XS.aload Xg42.here hx rfl (hb hby at_383) rfl rfl ?_
    show Steps p.tables e below (T42.setTop (mkF m 385 #[.val (.long p1), .second, .val (.int p2), .val (.long w1), .second, .val (.ref b12), .val (.int (1 : Int32)), .val (.long w45), .second] [(.ref b12), (.long w45)])) _
    refine XT.bipushV Xg42.here hx rfl (14 : Int32) (hb hby at_385) rfl ?_
    show Steps p.tables e below (T42.setTop (mkF m 387 #[.val (.long p1), .second, .val (.int p2), .val (.long w1), .second, .val (.ref b12), .val (.int (1 : Int32)), .val (.long w45), .second] [(.int (14 : Int32)), (.ref b12), (.long w45)])) _
    refine OwnA.ldB Xg42 hx hZ eh42 ab12 (by decide) (by decide) rfl rfl (hb hby at_387) ?_
    show Steps p.tables e below (T42.setTop (mkF m 388 #[.val (.long p1), .second, .val (.int p2), .val (.long w1), .second, .val (.ref b12), .val (.int (1 : Int32)), .val (.long w45), .second] [(.int (f12 (14 : Int32).toInt)), (.long w45)])) _
    exact k
  obtain ⟨w46, qw46⟩ : ∃ z : Int32, z = (f12 (14 : Int32).toInt) := ⟨_, rfl⟩
  rw [← qw46]
  show OwnWp p e below s _ _ _ (T42.setTop (mkF m 388 #[.val (.long p1), .second, .val (.int p2), .val (.long w1), .second, .val (.ref b12), .val (.int (1 : Int32)), .val (.long w45), .second] [(.int w46), (.long w45)]))
  obtain ⟨_, _, ⟨T43, L43, k43, n43⟩, -, X43, ⟨Lc43, hQ43, l43, y43, z43⟩, st43⟩ := Jvm.LawKit.callS Xg42 hx (y := (⟨"leafrun/bench/BenchDataKeyPinLaw", "step", "(JB)J"⟩ : MethodName)) hown (mvT hZ (hw _ (List.mem_of_getElem? (i := 12) rfl))) (mvT hZ (hw _ (List.mem_of_getElem? (i := 13) rfl))) (mvT hZ (hw _ (List.mem_of_getElem? (i := 10) rfl))) (mvT hZ (hw _ (List.mem_of_getElem? (i := 14) rfl))) (by decide) (backOf (W := 0) (rm3 l Z a0 hw [] w45 w46 T12.heap n0 Z12 ) hZ (hw _ (List.mem_of_getElem? (i := 14) rfl)) (hw _ (List.mem_of_getElem? (i := 10) rfl)) (by decide) (by decide)) (g := (mkF m 388 #[.val (.long p1), .second, .val (.int p2), .val (.long w1), .second, .val (.ref b12), .val (.int (1 : Int32)), .val (.long w45), .second] [(.int w46), (.long w45)])) rfl (by rw [hml]; rfl) (argsL := [(.long w45), (.int w46)]) (rest := []) (lenOf pd_3 rfl) rfl (by show 2 * 0 + _ ≤ _; exact Nat.le_of_eq rfl) (hb hby at_388) (fun _ _ => ⟨rfl, eh42, (by dsimp only [Pt.cells]; decide), (by dsimp only [Pt.slots]; decide)⟩)
  dsimp only [Pt.U, Pt.locs, Pt.cells, Pt.slots] at X43 l43 y43 z43 st43 hQ43
  subst l43 y43 z43
  obtain ⟨rfl, Nc43, hp43⟩ := hQ43
  have N43 := Fr.app Ng42 Nc43
  refine OwnWp.step st43 ?_
  have eh43 : T43.heap = T12.heap := hp43
  obtain ⟨Lg43, Xg43, Ng43⟩ := own_fold (c' := 1) (s' := 16) X43 N43 (by decide) (by decide)
  show OwnWp p e below s _ _ _ (T43.setTop (mkF m 391 #[.val (.long p1), .second, .val (.int p2), .val (.long w1), .second, .val (.ref b12), .val (.int (1 : Int32)), .val (.long w45), .second] [(.long (own_stp w45 w46))]))
  obtain ⟨w47, qw47⟩ : ∃ z : Int64, z = (own_stp w45 w46) := ⟨_, rfl⟩
  refine OwnWp.step (U' := T43.setTop (mkF m 393 #[.val (.long p1), .second, .val (.int p2), .val (.long w1), .second, .val (.ref b12), .val (.int (1 : Int32)), .val (.long w47), .second] [])) (fun t k => ?_) ?_
  · show Steps p.tables e below (T43.setTop (mkF m 391 #[.val (.long p1), .second, .val (.int p2), .val (.long w1), .second, .val (.ref b12), .val (.int (1 : Int32)), .val (.long w45), .second] [(.long (own_stp w45 w46))])) _
    refine XT.lstore Xg43.here hx rfl (hb hby at_391) rfl (l' := #[.val (.long p1), .second, .val (.int p2), .val (.long w1), .second, .val (.ref b12), .val (.int (1 : Int32)), .val (.long (own_stp w45 w46)), .second]) rfl ?_
    show Steps p.tables e below (T43.setTop (mkF m 393 #[.val (.long p1), .second, .val (.int p2), .val (.long w1), .second, .val (.ref b12), .val (.int (1 : Int32)), .val (.long (own_stp w45 w46)), .second] [])) _
    rw [qw47] at k
    exact k
  refine OwnWp.step (U' := T43.setTop (mkF m 400 #[.val (.long p1), .second, .val (.int p2), .val (.long w1), .second, .val (.ref b12), .val (.int (1 : Int32)), .val (.long w47), .second] [(.int (f12 (15 : Int32).toInt)), (.long w47)])) (fun t k => ?_) ?_
  · show Steps p.tables e below (T43.setTop (mkF m 393 #[.val (.long p1), .second, .val (.int p2), .val (.long w1), .second, .val (.ref b12), .val (.int (1 : Int32)), .val (.long w47), .second] [])) _
    refine XT.lload Xg43.here hx rfl (hb hby at_393) rfl ?_
    show Steps p.tables e below (T43.setTop (mkF m 395 #[.val (.long p1), .second, .val (.int p2), .val (.long w1), .second, .val (.ref b12), .val (.int (1 : Int32)), .val (.long w47), .second] [(.long w47)])) _
    refine XS.aload Xg43.here hx rfl (hb hby at_395) rfl rfl ?_
    show Steps p.tables e below (T43.setTop (mkF m 397 #[.val (.long p1), .second, .val (.int p2), .val (.long w1), .second, .val (.ref b12), .val (.int (1 : Int32)), .val (.long w47), .second] [(.ref b12), (.long w47)])) _
    refine XT.bipushV Xg43.here hx rfl (15 : Int32) (hb hby at_397) rfl ?_
    show Steps p.tables e below (T43.setTop (mkF m 399 #[.val (.long p1), .second, .val (.int p2), .val (.long w1), .second, .val (.ref b12), .val (.int (1 : Int32)), .val (.long w47), .second] [(.int (15 : Int32)), (.ref b12), (.long w47)])) _
    refine OwnA.ldB Xg43 hx hZ eh43 ab12 (by decide) (by decide) rfl rfl (hb hby at_399) ?_
    show Steps p.tables e below (T43.setTop (mkF m 400 #[.val (.long p1), .second, .val (.int p2), .val (.long w1), .second, .val (.ref b12), .val (.int (1 : Int32)), .val (.long w47), .second] [(.int (f12 (15 : Int32).toInt)), (.long w47)])) _
    exact k
  obtain ⟨w48, qw48⟩ : ∃ z : Int32, z = (f12 (15 : Int32).toInt) := ⟨_, rfl⟩
  rw [← qw48]
  show OwnWp p e below s _ _ _ (T43.setTop (mkF m 400 #[.val (.long p1), .second, .val (.int p2), .val (.long w1), .second, .val (.ref b12), .val (.int (1 : Int32)), .val (.long w47), .second] [(.int w48), (.long w47)]))
  obtain ⟨_, _, ⟨T44, L44, k44, n44⟩, -, X44, ⟨Lc44, hQ44, l44, y44, z44⟩, st44⟩ := Jvm.LawKit.callS Xg43 hx (y := (⟨"leafrun/bench/BenchDataKeyPinLaw", "step", "(JB)J"⟩ : MethodName)) hown (mvT hZ (hw _ (List.mem_of_getElem? (i := 12) rfl))) (mvT hZ (hw _ (List.mem_of_getElem? (i := 13) rfl))) (mvT hZ (hw _ (List.mem_of_getElem? (i := 10) rfl))) (mvT hZ (hw _ (List.mem_of_getElem? (i := 14) rfl))) (by decide) (backOf (W := 0) (rm3 l Z a0 hw [] w47 w48 T12.heap n0 Z12 ) hZ (hw _ (List.mem_of_getElem? (i := 14) rfl)) (hw _ (List.mem_of_getElem? (i := 10) rfl)) (by decide) (by decide)) (g := (mkF m 400 #[.val (.long p1), .second, .val (.int p2), .val (.long w1), .second, .val (.ref b12), .val (.int (1 : Int32)), .val (.long w47), .second] [(.int w48), (.long w47)])) rfl (by rw [hml]; rfl) (argsL := [(.long w47), (.int w48)]) (rest := []) (lenOf pd_3 rfl) rfl (by show 2 * 0 + _ ≤ _; exact Nat.le_of_eq rfl) (hb hby at_400) (fun _ _ => ⟨rfl, eh43, (by dsimp only [Pt.cells]; decide), (by dsimp only [Pt.slots]; decide)⟩)
  dsimp only [Pt.U, Pt.locs, Pt.cells, Pt.slots] at X44 l44 y44 z44 st44 hQ44
  subst l44 y44 z44
  obtain ⟨rfl, Nc44, hp44⟩ := hQ44
  have N44 := Fr.app Ng43 Nc44
  refine OwnWp.step st44 ?_
  have eh44 : T44.heap = T12.heap := hp44
  obtain ⟨Lg44, Xg44, Ng44⟩ := own_fold (c' := 1) (s' := 16) X44 N44 (by decide) (by decide)
  show OwnWp p e below s _ _ _ (T44.setTop (mkF m 403 #[.val (.long p1), .second, .val (.int p2), .val (.long w1), .second, .val (.ref b12), .val (.int (1 : Int32)), .val (.long w47), .second] [(.long (own_stp w47 w48))]))
  obtain ⟨w49, qw49⟩ : ∃ z : Int64, z = (own_stp w47 w48) := ⟨_, rfl⟩
  refine OwnWp.step (U' := T44.setTop (mkF m 405 #[.val (.long p1), .second, .val (.int p2), .val (.long w1), .second, .val (.ref b12), .val (.int (1 : Int32)), .val (.long w49), .second] [])) (fun t k => ?_) ?_
  · show Steps p.tables e below (T44.setTop (mkF m 403 #[.val (.long p1), .second, .val (.int p2), .val (.long w1), .second, .val (.ref b12), .val (.int (1 : Int32)), .val (.long w47), .second] [(.long (own_stp w47 w48))])) _
    refine XT.lstore Xg44.here hx rfl (hb hby at_403) rfl (l' := #[.val (.long p1), .second, .val (.int p2), .val (.long w1), .second, .val (.ref b12), .val (.int (1 : Int32)), .val (.long (own_stp w47 w48)), .second]) rfl ?_
    show Steps p.tables e below (T44.setTop (mkF m 405 #[.val (.long p1), .second, .val (.int p2), .val (.long w1), .second, .val (.ref b12), .val (.int (1 : Int32)), .val (.long (own_stp w47 w48)), .second] [])) _
    rw [qw49] at k
    exact k
  refine OwnWp.step (U' := T44.setTop (mkF m 413 #[.val (.long p1), .second, .val (.int p2), .val (.long w1), .second, .val (.ref b12), .val (.int (1 : Int32)), .val (.long w49), .second] [(.int (XT.cmpL w49 (w1 % (10000000000000000 : Int64))))])) (fun t k => ?_) ?_
  · show Steps p.tables e below (T44.setTop (mkF m 405 #[.val (.long p1), .second, .val (.int p2), .val (.long w1), .second, .val (.ref b12), .val (.int (1 : Int32)), .val (.long w49), .second] [])) _
    refine XT.lload Xg44.here hx rfl (hb hby at_405) rfl ?_
    show Steps p.tables e below (T44.setTop (mkF m 407 #[.val (.long p1), .second, .val (.int p2), .val (.long w1), .second, .val (.ref b12), .val (.int (1 : Int32)), .val (.long w49), .second] [(.long w49)])) _
    refine XT.lloadN Xg44.here hx rfl (hb hby at_407) rfl ?_
    show Steps p.tables e below (T44.setTop (mkF m 408 #[.val (.long p1), .second, .val (.int p2), .val (.long w1), .second, .val (.ref b12), .val (.int (1 : Int32)), .val (.long w49), .second] [(.long w1), (.long w49)])) _
    refine Xg44.ldc2J hx hown (mvT hZ (hw _ (List.mem_of_getElem? (i := 16) rfl))) rfl (hb hby at_408) ?_
    show Steps p.tables e below (T44.setTop (mkF m 411 #[.val (.long p1), .second, .val (.int p2), .val (.long w1), .second, .val (.ref b12), .val (.int (1 : Int32)), .val (.long w49), .second] [(.long (10000000000000000 : Int64)), (.long w1), (.long w49)])) _
    refine own_lrem Xg44 hx rfl (hb hby at_411) rfl (by decide) ?_
    show Steps p.tables e below (T44.setTop (mkF m 412 #[.val (.long p1), .second, .val (.int p2), .val (.long w1), .second, .val (.ref b12), .val (.int (1 : Int32)), .val (.long w49), .second] [(.long (w1 % (10000000000000000 : Int64))), (.long w49)])) _
    refine XT.lcmp Xg44.here hx rfl (hb hby at_412) rfl ?_
    show Steps p.tables e below (T44.setTop (mkF m 413 #[.val (.long p1), .second, .val (.int p2), .val (.long w1), .second, .val (.ref b12), .val (.int (1 : Int32)), .val (.long w49), .second] [(.int (XT.cmpL w49 (w1 % (10000000000000000 : Int64))))])) _
    exact k
  obtain ⟨w50, qw50⟩ : ∃ z : Int32, z = (if w49 = (w1 % (10000000000000000 : Int64)) then (1 : Int32) else (0 : Int32)) := ⟨_, rfl⟩
  refine OwnWp.step (U' := T44.setTop (mkF m 421 #[.val (.long p1), .second, .val (.int p2), .val (.long w1), .second, .val (.ref b12), .val (.int (1 : Int32)), .val (.long w49), .second] [(.int w50)])) (fun t k => ?_) ?_
  · show Steps p.tables e below (T44.setTop (mkF m 413 #[.val (.long p1), .second, .val (.int p2), .val (.long w1), .second, .val (.ref b12), .val (.int (1 : Int32)), .val (.long w49), .second] [(.int (XT.cmpL w49 (w1 % (10000000000000000 : Int64))))])) _
    by_cases c413_45 : w49 = (w1 % (10000000000000000 : Int64))
    · refine XS.ifNo Xg44.here hx rfl (hb hby at_413) rfl (XT.ll_ne_f c413_45) ?_
      show Steps p.tables e below (T44.setTop (mkF m 416 #[.val (.long p1), .second, .val (.int p2), .val (.long w1), .second, .val (.ref b12), .val (.int (1 : Int32)), .val (.long w49), .second] [])) _
      refine XT.iconstV Xg44.here hx rfl (1 : Int32) (hb hby at_416) rfl ?_
      show Steps p.tables e below (T44.setTop (mkF m 417 #[.val (.long p1), .second, .val (.int p2), .val (.long w1), .second, .val (.ref b12), .val (.int (1 : Int32)), .val (.long w49), .second] [(.int (1 : Int32))])) _
      refine XS.goto Xg44.here hx rfl (pc0 := 417) (pc' := 421) rfl (hb hby at_417) (by decide) (by decide) ?_
      show Steps p.tables e below (T44.setTop (mkF m 421 #[.val (.long p1), .second, .val (.int p2), .val (.long w1), .second, .val (.ref b12), .val (.int (1 : Int32)), .val (.long w49), .second] [(.int (1 : Int32))])) _
      rw [show w50 = (1 : Int32) from by rw [qw50, if_pos c413_45]] at k
      exact k
    · refine XS.ifYes Xg44.here hx rfl (pc0 := 413) (pc' := 420) rfl (hb hby at_413) rfl (XT.ll_ne_t c413_45) (by decide) (by decide) ?_
      show Steps p.tables e below (T44.setTop (mkF m 420 #[.val (.long p1), .second, .val (.int p2), .val (.long w1), .second, .val (.ref b12), .val (.int (1 : Int32)), .val (.long w49), .second] [])) _
      refine XT.iconstV Xg44.here hx rfl (0 : Int32) (hb hby at_420) rfl ?_
      show Steps p.tables e below (T44.setTop (mkF m 421 #[.val (.long p1), .second, .val (.int p2), .val (.long w1), .second, .val (.ref b12), .val (.int (1 : Int32)), .val (.long w49), .second] [(.int (0 : Int32))])) _
      rw [show w50 = (0 : Int32) from by rw [qw50, if_neg c413_45]] at k
      exact k
  have hfin := own_law w1 hp f12 hf w2 qw2 w3 qw3 w4 qw4 w5 qw5 w6 qw6 w7 qw7 w8 qw8 w9 qw9 w10 qw10 w11 qw11 w12 qw12 w13 qw13 w14 qw14 w15 qw15 w16 qw16 w17 qw17 w18 qw18 w19 qw19 w20 qw20 w21 qw21 w22 qw22 w23 qw23 w24 qw24 w25 qw25 w26 qw26 w27 qw27 w28 qw28 w29 qw29 w30 qw30 w31 qw31 w32 qw32 w33 qw33 w34 qw34 w35 qw35 w36 qw36 w37 qw37 w38 qw38 w39 qw39 w40 qw40 w41 qw41 w42 qw42 w43 qw43 w44 qw44 w45 qw45 w46 qw46 w47 qw47 w48 qw48 w49 qw49 w50 qw50
  refine OwnWp.retZ Xg44 hx hlk Bd.returns (hb hby at_421) (by decide) (by decide) (Or.inr hfin) ?_
  exact ⟨by rw [hfin], Ng44⟩
set_option maxRecDepth 65536 in
set_option maxHeartbeats 40000000 in
theorem comes_1 {Post : Tables → Env → Array Value → State → Outcome → State → Prop} (hpost : ∀ tb e args s v u, (limb_1_1.after args s (.returned v) u = true ∧ limb_1_2.after args s (.returned v) u = true ∧ True) → FrameEnd s (.returned v) u (Jvm.fieldLocs frame_1_writes args s ++ Jvm.arrayLocs frame_1_arrays args s ++ Jvm.staticLocs frame_1_statics s) 16 128 → Post tb e args s (.returned v) u) :
    ArmFor flags0 classFile x code maxLocals ret World_1 tables_1 room_1 Calls_1 rest_1 Pre_1 Post := by
  intro l hfl _ _ p e ha hc hk s m args below hf hA hF happ hP
  obtain ⟨hcalls, hrest, hpre⟩ := hP
  obtain ⟨-, -, -, hnamed, -, -, -, hat⟩ := (Spec.applies_iff hf).mp happ
  obtain ⟨hg, hn⟩ := and_e (Cond.before_iff.mp (show (Jvm.Cond.and given_1 narrow_1).before args s = true from hpre))
  obtain ⟨hcount, g0⟩ := and_e hg
  obtain ⟨w0, w1, rfl⟩ : ∃ w0 w1 : Value, args = #[w0, w1] := by
    have hs : args.size = 2 := by simpa [Cond.value, given_1] using hcount
    obtain ⟨L⟩ := args
    match L, hs with
    | [w0, w1], _ => exact ⟨w0, w1, rfl⟩
  have hw := fun d (hd : d ∈ tables_1) => atoms_spec (ws := Jvm.Cond.code x code maxLocals ret :: tables_1) hat d (List.mem_cons_of_mem _ hd)
  obtain ⟨u0, g1⟩ := and_e g0
  obtain ⟨i0, e0⟩ := isL_v u0
  obtain rfl : w0 = (.long i0) := Option.some.inj e0
  obtain ⟨i1, e1⟩ := is_v g1
  obtain rfl : w1 = (.int i1) := Option.some.inj e1
  obtain ⟨n, o, h1, h2, h3, _, L, rfl, ⟨rfl, N⟩, hq⟩ := rm0 l s _ hw tables_1 i0 i1 s.heap s.heap.size (Nat.le_refl _) p e ha hc hk s m _ below hf ((Spec.applies_iff_loose hf).mp happ).1 ⟨rfl, State.Warmed39.refl s, rfl⟩ trivial
  refine ⟨n, _, h1, h2, h3, hpost _ _ _ _ _ _ ⟨Cond.after_iff.mpr rfl, Cond.after_iff.mpr (eq_i res_at (Term.int_eval (1)) rfl), trivial⟩ ⟨hq.1, hq.2.1, (hq.2.2.sift fun y hy => Or.inr (N y hy)).mono (by decide) (by decide)⟩⟩
theorem main_1_1 : Claimed_1_1 := comes_1 fun _ _ _ _ _ _ h hF => ⟨h.1, hF⟩
theorem main_1_2 : Claimed_1_2 := comes_1 fun _ _ _ _ _ _ h hF => ⟨h.2.1, hF⟩
end Jvm.Pilot.@@N@@
namespace Jvm.Pilot.@@N@@
open Jvm Jvm.ClassFile Sem Op Lib Jvm.Free Jvm.Stand Jvm.Pilot.@@N@@.Jvm.D
/-! MADE BY PROGRAM (witnessworld.py) out of the Statement's table words and the real class files: 9 classes; the members and pool entries that the words name. The judged class is class 1, her method 3. -/
namespace start1
open Jvm.ClassFile
def u (s : String) : CpInfo := .utf8 (stringToUtf16 s)
/-- a pool by its gaps: so many unusable entries, then the entry; so many at the end -/
def gap : Nat → List CpInfo → List CpInfo
  | 0, r => r
  | n + 1, r => .unusable :: gap n r
def poolList (es : List (Nat × CpInfo)) (last : Nat) : List CpInfo := es.foldr (fun e r => gap e.1 (e.2 :: r)) (gap last [])
def pool (es : List (Nat × CpInfo)) (last : Nat) : Array CpInfo := ⟨poolList es last⟩
def fileOf (pool : Array CpInfo) (this : Nat) (attrs : Array Attribute := #[]) (ms : Array MethodInfo := #[]) (fl : Nat := 33) (sup : Nat := 0) (ifs : Array Nat := #[]) (fds : Array FieldInfo := #[]) : ClassFile where
  minorVersion := 0
  majorVersion := 65
  constantPool := pool
  accessFlags := fl
  thisClass := this
  superClass := sup
  interfaces := ifs
  fields := fds
  methods := ms
  attributes := attrs
def plain (name : String) (sup : Option ClassId) : Class where
  name := name
  kind := .ordinary
  loader := none
  accessFlags := 33
  super := sup
  interfaces := #[]
  cf := none
  fields := #[]
  methods := #[]
  instanceTypes := #[]
  staticTypes := #[]
  resolved := #[]
  callSites := []
  init := .initialized
  statics := none
  mirror := none

def pool0 : Array CpInfo := pool [(5, u "<init>"), (0, u "()V"), (1, .class_ 10), (1, u "java/lang/Object")] 113

def k0m0 : Method := { name := "<init>", desc := "()V", sig := { parameters := [], returnType := none }, accessFlags := 1, code := none }
/-- java/lang/Object -/
def k0 : Class := { plain "java/lang/Object" none with
  accessFlags := 33
  interfaces := #[]
  cf := some (fileOf pool0 8 #[] #[{ accessFlags := 1, nameIndex := 5, descriptorIndex := 6, attributes := #[] }] 33 0 #[] #[])
  fields := #[]
  methods := #[k0m0]
  instanceTypes := #[]
  staticTypes := #[]
  resolved := Array.replicate 124 none
  statics := none }

def pool1 : Array CpInfo := pool [(2, .class_ 4), (1, u "java/lang/Object"), (0, u "<init>"), (0, u "()V"), (0, .long 10), (3, .long 9223372036854775807), (1, .methodref 14 15), (0, .class_ 16), (0, .nameAndType 17 18), (0, u "leafrun/bench/BenchData"), (0, u "key"), (0, u "(J)[B"), (0, .methodref 20 21), (0, .class_ 22), (0, .nameAndType 23 24), (0, u "leafrun/bench/BenchDataKeyPinLaw"), (0, u "isDigit"), (0, u "(B)Z"), (0, .methodref 20 26), (0, .nameAndType 27 28), (0, u "step"), (0, u "(JB)J"), (0, .long 10000000000000000), (4, u "law"), (0, u "(JI)Z")] 4

def k1m0 : Method := { name := "<init>", desc := "()V", sig := { parameters := [], returnType := none }, accessFlags := 2, code := none }
def k1c1 : Code := { maxStack := 2, maxLocals := 1, code := method_2_code, exceptionTable := #[], attributes := #[] }
def k1m1 : Method := { name := "isDigit", desc := "(B)Z", sig := { parameters := [.byte], returnType := some .boolean }, accessFlags := 10, code := some k1c1 }
def k1c2 : Code := { maxStack := 4, maxLocals := 3, code := method_3_code, exceptionTable := #[], attributes := #[] }
def k1m2 : Method := { name := "step", desc := "(JB)J", sig := { parameters := [.long, .byte], returnType := some .long }, accessFlags := 10, code := some k1c2 }
def k1c3 : Code := { maxStack := 6, maxLocals := 9, code := code, exceptionTable := #[], attributes := #[] }
def k1m3 : Method := { name := "law", desc := "(JI)Z", sig := { parameters := [.long, .int], returnType := some .boolean }, accessFlags := 9, code := some k1c3 }
/-- leafrun/bench/BenchDataKeyPinLaw -/
def k1 : Class := { plain "leafrun/bench/BenchDataKeyPinLaw" (some 0) with
  accessFlags := 49
  interfaces := #[]
  cf := some (fileOf pool1 20 #[] #[{ accessFlags := 2, nameIndex := 5, descriptorIndex := 6, attributes := #[] }, { accessFlags := 10, nameIndex := 23, descriptorIndex := 24, attributes := #[] }, { accessFlags := 10, nameIndex := 27, descriptorIndex := 28, attributes := #[] }, { accessFlags := 9, nameIndex := 34, descriptorIndex := 35, attributes := #[] }] 49 2 #[] #[])
  fields := #[]
  methods := #[k1m0, k1m1, k1m2, k1m3]
  instanceTypes := #[]
  staticTypes := #[]
  resolved := Array.replicate 40 none
  statics := none }

def pool2 : Array CpInfo := pool [(1, .class_ 2), (0, u "leafrun/bench/BenchData"), (1, .class_ 6), (1, u "java/lang/Object"), (0, u "<init>"), (0, u "()V"), (0, .long 48), (1, .long 10), (1, .class_ 14), (0, u "leafrun/bench/BenchData$Numbers"), (41, u "KEY_BYTES"), (0, u "I"), (2, u "VALUE_BYTES"), (1, u "SEED"), (0, u "J"), (0, u "GAMMA"), (0, u "NUMBERS_PER_VALUE"), (1, u "VALUES"), (3, u "key"), (0, u "(J)[B")] 15

def k2m0 : Method := { name := "<init>", desc := "()V", sig := { parameters := [], returnType := none }, accessFlags := 2, code := none }
def k2c1 : Code := { maxStack := 8, maxLocals := 6, code := prog_10_method_2_code, exceptionTable := #[], attributes := #[] }
def k2m1 : Method := { name := "key", desc := "(J)[B", sig := { parameters := [.long], returnType := some (.array .byte) }, accessFlags := 8, code := some k2c1 }
/-- leafrun/bench/BenchData -/
def k2 : Class := { plain "leafrun/bench/BenchData" (some 0) with
  accessFlags := 48
  interfaces := #[]
  cf := some (fileOf pool2 1 #[.nestMembers #[13]] #[{ accessFlags := 2, nameIndex := 7, descriptorIndex := 8, attributes := #[] }, { accessFlags := 8, nameIndex := 71, descriptorIndex := 72, attributes := #[] }] 48 4 #[] #[{ accessFlags := 24, nameIndex := 56, descriptorIndex := 57, attributes := #[] }, { accessFlags := 24, nameIndex := 60, descriptorIndex := 57, attributes := #[] }, { accessFlags := 26, nameIndex := 62, descriptorIndex := 63, attributes := #[] }, { accessFlags := 26, nameIndex := 64, descriptorIndex := 63, attributes := #[] }, { accessFlags := 26, nameIndex := 65, descriptorIndex := 57, attributes := #[] }, { accessFlags := 26, nameIndex := 67, descriptorIndex := 57, attributes := #[] }])
  fields := #[{ name := "KEY_BYTES", type := .int, accessFlags := 24, slot := 0, constantValue := 0 }, { name := "VALUE_BYTES", type := .int, accessFlags := 24, slot := 1, constantValue := 0 }, { name := "SEED", type := .long, accessFlags := 26, slot := 2, constantValue := 0 }, { name := "GAMMA", type := .long, accessFlags := 26, slot := 3, constantValue := 0 }, { name := "NUMBERS_PER_VALUE", type := .int, accessFlags := 26, slot := 4, constantValue := 0 }, { name := "VALUES", type := .int, accessFlags := 26, slot := 5, constantValue := 0 }]
  methods := #[k2m0, k2m1]
  instanceTypes := #[]
  staticTypes := #[.int, .int, .long, .long, .int, .int]
  resolved := Array.replicate 88 none
  statics := none }

def pool3 : Array CpInfo := pool [(1, u "java/lang/Cloneable"), (0, .class_ 1), (0, u "java/lang/Object"), (0, .class_ 3)] 3

/-- java/lang/Cloneable -/
def k3 : Class := { plain "java/lang/Cloneable" (some 0) with
  accessFlags := 1537
  interfaces := #[]
  cf := some (fileOf pool3 2 #[] #[] 1537 4 #[] #[])
  fields := #[]
  methods := #[]
  instanceTypes := #[]
  staticTypes := #[]
  resolved := Array.replicate 8 none
  statics := none }

def pool4 : Array CpInfo := pool [(1, u "java/io/Serializable"), (0, .class_ 1), (0, u "java/lang/Object"), (0, .class_ 3)] 3

/-- java/io/Serializable -/
def k4 : Class := { plain "java/io/Serializable" (some 0) with
  accessFlags := 1537
  interfaces := #[]
  cf := some (fileOf pool4 2 #[] #[] 1537 4 #[] #[])
  fields := #[]
  methods := #[]
  instanceTypes := #[]
  staticTypes := #[]
  resolved := Array.replicate 8 none
  statics := none }

/-- the primitive byte -/
def k5 : Class := { plain "byte" none with kind := .primitive 'B', accessFlags := 0x411 }
/-- [B -/
def k6 : Class := { plain "[B" (some 0) with kind := .array 5 .byte, interfaces := #[3, 4], accessFlags := 1041 }

/-- the primitive int -/
def k7 : Class := { plain "int" none with kind := .primitive 'I', accessFlags := 0x411 }
/-- [I -/
def k8 : Class := { plain "[I" (some 0) with kind := .array 7 .int, interfaces := #[3, 4], accessFlags := 1041 }

def heap : Heap := #[]
def classes : Array Class := #[k0, k1, k2, k3, k4, k5, k6, k7, k8]
def interned : List (Array UInt16 × Addr) := []
def slotsUsed : Nat := 0
def theMethod : MethodId := ⟨1, 3⟩
def args0 : Array Value := #[.long 5, .int 3]
def aboutOver (below : List Frame) : State where
  vm := { classes := classes, interned := interned.toArray }
  heap := heap
  slotsUsed := slotsUsed
  threads := #[{ frames := .invoking theMethod args0 :: below }]
def below0 : List Frame := [.native { method := ⟨0, 0⟩, args := #[] }]
def about1 : State := aboutOver below0
def p0 : Program := .bare "" "" ""
def e0 : Env := launch0.env 0 0 0
theorem w_frames : about1.frames = Frame.invoking theMethod args0 :: below0 := rfl
set_option maxRecDepth 65536 in
theorem w_args : argsFit about1.vm theMethod args0 = true := by decide +kernel
set_option maxRecDepth 65536 in
theorem w_heap : heapFits about1 = true := by decide +kernel
set_option maxRecDepth 65536 in
theorem w_runnable : about1.curStatus? = some .runnable := by decide +kernel
set_option maxRecDepth 65536 in
theorem w_alone : about1.alone = true := by decide +kernel
set_option maxRecDepth 65536 in
theorem w_named : about1.methodNamed? x = some theMethod := by decide +kernel
set_option maxRecDepth 65536 in
theorem w_hears : about1.hears theMethod below0 = true := by decide +kernel
set_option maxRecDepth 65536 in
theorem w_ripe : about1.ripe theMethod args0 below0 = true := by decide +kernel
theorem w_running : about1.status = .running := rfl
set_option maxRecDepth 65536 in
theorem w_room : about1.hasRoom e0.platform room_1 = true :=
  launch0.hasRoom_least _ room_1 (by decide +kernel) (by decide +kernel) (by decide +kernel) (by decide +kernel) (by decide +kernel) (by decide +kernel)
theorem allAtoms_all (ts : List Jvm.Cond) (a : Array Jvm.Value) (st : Jvm.State) : (allAtoms ts).before a st = ts.all (fun c => c.before a st) := by
  induction ts with
  | nil => rfl
  | cons c t ih =>
    show (Jvm.Cond.and c (allAtoms t)).before a st = _
    rw [Jvm.Cond.before_and, ih, List.all_cons]
def words1 : List Jvm.Cond := Jvm.Cond.code x code maxLocals ret :: tables_1
/-- a 'code' word, met by the world's own term for the bytes: nothing is compared byte by byte -/
theorem code_word {y : MethodName} {bytes : ByteArray} {mx : Nat} {rt : Option FieldType} {a : Array Value} {s : State} {m : MethodId} {meth : Method} {c : Code} (h1 : s.methodNamed? y = some m) (h2 : s.vm.method? m = some meth) (h3 : meth.code = some c) (h4 : c.code = bytes)
    (h5 : (c.maxLocals == mx && c.exceptionTable.isEmpty && decide (c.maxStack ≤ mostOperands) && decide (meth.sig.returnType = rt) && !meth.locks && decide (parseMethodDescriptor y.desc = some meth.sig)) = true) : (Jvm.Cond.code y bytes mx rt).before a s = true := by
  simp only [Bool.and_eq_true, beq_iff_eq, Bool.not_eq_true', decide_eq_true_eq] at h5
  obtain ⟨⟨⟨⟨⟨g1, g2⟩, g3⟩, g4⟩, g5⟩, g6⟩ := h5
  simp [Cond.before, Cond.holds, Cond.value, h1, h2, h3, h4, g1, g2, g3, g4, g5, g6]
def isCode : Jvm.Cond → Bool
  | .code _ _ _ _ => true
  | _ => false
theorem all_split {L : List Jvm.Cond} {P : Jvm.Cond → Bool} (h1 : L.all (fun c => isCode c || P c) = true) (h2 : ∀ c ∈ L.filter isCode, P c = true) : L.all P = true := by
  refine List.all_eq_true.mpr fun c hc => ?_
  have h := List.all_eq_true.mp h1 c hc
  rcases Bool.eq_false_or_eq_true (isCode c) with hi | hi
  · exact h2 c (List.mem_filter.mpr ⟨hc, hi⟩)
  · simpa [hi] using h
set_option maxRecDepth 65536 in
theorem w_c0 : (Jvm.Cond.code x code maxLocals ret).before args0 about1 = true := code_word (m := ⟨1, 3⟩) (meth := k1m3) (c := k1c3) (by decide +kernel) rfl rfl rfl (by decide +kernel)
set_option maxRecDepth 65536 in
theorem w_c1 : (Jvm.Cond.code ({ cls := "leafrun/bench/BenchData", name := "key", desc := "(J)[B" } : Jvm.MethodName) prog_10_method_2_code (6 : Nat) (Option.some (Jvm.ClassFile.FieldType.array Jvm.ClassFile.FieldType.byte))).before args0 about1 = true := code_word (m := ⟨2, 1⟩) (meth := k2m1) (c := k2c1) (by decide +kernel) rfl rfl rfl (by decide +kernel)
set_option maxRecDepth 65536 in
theorem w_c2 : (Jvm.Cond.code ({ cls := "leafrun/bench/BenchDataKeyPinLaw", name := "isDigit", desc := "(B)Z" } : Jvm.MethodName) method_2_code (1 : Nat) (Option.some Jvm.ClassFile.FieldType.boolean)).before args0 about1 = true := code_word (m := ⟨1, 1⟩) (meth := k1m1) (c := k1c1) (by decide +kernel) rfl rfl rfl (by decide +kernel)
set_option maxRecDepth 65536 in
theorem w_c3 : (Jvm.Cond.code ({ cls := "leafrun/bench/BenchDataKeyPinLaw", name := "step", desc := "(JB)J" } : Jvm.MethodName) method_3_code (3 : Nat) (Option.some Jvm.ClassFile.FieldType.long)).before args0 about1 = true := code_word (m := ⟨1, 2⟩) (meth := k1m2) (c := k1c2) (by decide +kernel) rfl rfl rfl (by decide +kernel)
def codes1 : List Jvm.Cond := [Jvm.Cond.code x code maxLocals ret, Jvm.Cond.code ({ cls := "leafrun/bench/BenchData", name := "key", desc := "(J)[B" } : Jvm.MethodName) prog_10_method_2_code (6 : Nat) (Option.some (Jvm.ClassFile.FieldType.array Jvm.ClassFile.FieldType.byte)), Jvm.Cond.code ({ cls := "leafrun/bench/BenchDataKeyPinLaw", name := "isDigit", desc := "(B)Z" } : Jvm.MethodName) method_2_code (1 : Nat) (Option.some Jvm.ClassFile.FieldType.boolean), Jvm.Cond.code ({ cls := "leafrun/bench/BenchDataKeyPinLaw", name := "step", desc := "(JB)J" } : Jvm.MethodName) method_3_code (3 : Nat) (Option.some Jvm.ClassFile.FieldType.long)]
set_option maxRecDepth 65536 in
theorem codes_eq : words1.filter isCode = codes1 := rfl
theorem w_codes : ∀ c ∈ words1.filter isCode, c.before args0 about1 = true := by
  rw [codes_eq]
  intro c hc
  simp only [codes1, List.mem_cons, List.not_mem_nil, or_false] at hc
  rcases hc with rfl | rfl | rfl | rfl
  · exact w_c0
  · exact w_c1
  · exact w_c2
  · exact w_c3
set_option maxRecDepth 65536 in
theorem w_t1 : words1.all (fun c => isCode c || c.before args0 about1) = true := by decide +kernel
theorem w_tables : (allAtoms (Jvm.Cond.code x code maxLocals ret :: tables_1)).before args0 about1 = true := by
  rw [allAtoms_all]
  show words1.all (fun c => c.before args0 about1) = true
  refine all_split ?_ w_codes
  rw [w_t1]
set_option maxRecDepth 65536 in
theorem w_case : (Jvm.Cond.and given_1 narrow_1).before args0 about1 = true := by decide +kernel
theorem w_applies : (headSpec (Jvm.Cond.code x code maxLocals ret :: tables_1) room_1).applies x e0.platform about1 = true :=
  (Spec.applies_iff w_frames).mpr ⟨w_running, w_runnable, w_alone, w_named, w_hears, w_ripe, w_room, w_tables⟩
theorem atStart : AtStart classFile x code maxLocals ret World_1 tables_1 room_1 Calls_1 rest_1 Pre_1 launch0 p0 e0 about1 theMethod args0 below0 :=
  ⟨lists_1, trivial, launch0.admits_env _ _ _, launch0.least_env, fairChoices_fair.cas, fairChoices_fair.clock, w_frames, w_args, w_heap, w_applies, trivial, trivial, w_case⟩
end start1
theorem witness_1 : WitnessClaimed_1 := ⟨start1.p0, start1.e0, start1.about1, start1.theMethod, start1.args0, start1.below0, start1.atStart⟩
end Jvm.Pilot.@@N@@
