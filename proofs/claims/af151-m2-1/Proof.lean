import JvmDerived
import JvmDerived.Pilot.@@N@@Statement
import JvmDerived.Pilot.@@N@@Code
set_option linter.unusedVariables false
set_option linter.unusedSimpArgs false
@@BLOCK:HandJ.lean.txt@@
@@BLOCK:NumsL.lean.txt@@
@@BLOCK:SymMore.lean.txt@@
namespace Jvm.RoadKit
open Sem ClassFile Op Lib Jvm.Stand Jvm.Free Jvm.LawKit
section New
variable {p : Program} {l : Launch} {e : Env} {R : Room} {s : State} {m : MethodId} {args : Array Value} {below : List Frame} {meth : Method} {c : Code} {T : State} {locs : List Loc} {cells slots : Nat}
theorem retI (X : Stand p l e R s m args below meth c T locs cells slots) (hx : p.tables.exec = Jvm.exec) {pc : Nat} {Ls : Array Slot} {z : Int32} {rest : List Value} (hret : meth.sig.returnType = some .int) (hd : decode c.code pc = .ok (.ireturn, 1)) {fs : List Frame}
    (hl : ∀ (f : JFrame) (acts : List Action), f.method = m → f.locked = none → f.entered = [] → (doReturn e (T.setTop f) acts (some (.int z))).1 = T.setFrames fs) : Steps p.tables e below (T.setTop (mkF m pc Ls (.int z :: rest))) (T.setFrames fs) := by
  have hm' : T.vm.method? m = some meth := X.method'
  have hn : narrow .int (.int z) = .int z := rfl
  show Steps p.tables e below (T.setTop { method := m, pc := pc, locals := Ls, stack := _ :: rest, locked := none }) _
  jvm_step X.here [X.here.top, hx, hd, hm', hret, hn]
  first | (intro acts; rw [hl _ acts rfl rfl rfl]) | rw [hl _ _ rfl rfl rfl]
  exact Steps.refl _
end New
end Jvm.RoadKit
namespace Jvm.Pilot.@@N@@
open Jvm Jvm.ClassFile Sem Op Lib Jvm.Free Jvm.Stand Jvm.LawKit Jvm.RoadKit Bundle Jvm.Pilot.@@N@@.Jvm.D
/-- from F the invocation ends: it returns, and Q holds of what it returned, the heap and the places written -/
def own_Ends (p : Program) (e : Env) (below : List Frame) (s : State) (C S : Nat) (Q : Option Value → Heap → List Loc → Prop) (F : State) : Prop :=
  ∃ s₂ o, Steps p.tables e below F s₂ ∧ s₂.status = .running ∧ Ended s₂ below o ∧ ∃ v L, o = .returned v ∧ Q v s₂.heap L ∧ FrameEnd s o s₂ L C S
theorem own_step {p : Program} {e : Env} {below : List Frame} {s : State} {C S : Nat} {Q : Option Value → Heap → List Loc → Prop} {F F' : State} (h : ∀ t, Steps p.tables e below F' t → Steps p.tables e below F t) (k : own_Ends p e below s C S Q F') : own_Ends p e below s C S Q F := by
  obtain ⟨s₂, o, st, r⟩ := k
  exact ⟨s₂, o, h _ st, r⟩
section OwnRet
variable {p : Program} {l : Launch} {e : Env} {R : Room} {s : State} {m : MethodId} {args : Array Value} {below : List Frame} {meth : Method} {c : Code} {T : State} {locs : List Loc} {cells slots : Nat} {C S : Nat} {Q : Option Value → Heap → List Loc → Prop}
theorem own_retI (X : Stand p l e R s m args below meth c T locs cells slots) (hx : p.tables.exec = Jvm.exec) {pc : Nat} {Ls : Array Slot} {z : Int32} {rest : List Value} (hret : meth.sig.returnType = some .int) (hlk : meth.locks = false) (hd : decode c.code pc = .ok (.ireturn, 1)) (hc : cells ≤ C) (hs : slots ≤ S)
    (hQ : Q (some (.int z)) T.heap locs) : own_Ends p e below s C S Q (T.setTop (mkF m pc Ls (.int z :: rest))) := by
  obtain ⟨fs, hr, hrun, hended, hW, hsame⟩ := X.leave (v := some (.int z)) (fun h => by rw [hret] at h; cases h) hlk
  exact ⟨_, _, retI X hx hret hd hr, hrun, hended, _, _, rfl, hQ, ⟨_, rfl⟩, hW, hsame.mono hc hs⟩
theorem own_retN (X : Stand p l e R s m args below meth c T locs cells slots) (hx : p.tables.exec = Jvm.exec) {pc : Nat} {Ls : Array Slot} {z z' : Int32} {rest : List Value} {t : FieldType} (hret : meth.sig.returnType = some t) (ht : t = .boolean ∨ t = .byte ∨ t = .char ∨ t = .short) (hlk : meth.locks = false) (hd : decode c.code pc = .ok (.ireturn, 1)) (hc : cells ≤ C) (hs : slots ≤ S)
    (hz : nar t z = z') (hQ : Q (some (.int z')) T.heap locs) : own_Ends p e below s C S Q (T.setTop (mkF m pc Ls (.int z :: rest))) := by
  subst hz
  obtain ⟨fs, hr, hrun, hended, hW, hsame⟩ := X.leave (v := some (.int (nar t z))) (fun h => by rw [hret] at h; cases h) hlk
  exact ⟨_, _, retN X hx hret ht hd hr, hrun, hended, _, _, rfl, hQ, ⟨_, rfl⟩, hW, hsame.mono hc hs⟩
theorem own_retJ (X : Stand p l e R s m args below meth c T locs cells slots) (hx : p.tables.exec = Jvm.exec) {pc : Nat} {Ls : Array Slot} {z : Int64} (hret : meth.sig.returnType = some .long) (hlk : meth.locks = false) (hd : decode c.code pc = .ok (.lreturn, 1)) (hc : cells ≤ C) (hs : slots ≤ S)
    (hQ : Q (some (.long z)) T.heap locs) : own_Ends p e below s C S Q (T.setTop (mkF m pc Ls [.long z])) := by
  obtain ⟨fs, hr, hrun, hended, hW, hsame⟩ := X.leave (v := some (.long z)) (fun h => by rw [hret] at h; cases h) hlk
  exact ⟨_, _, X.lreturnOut hx hret hd hr, hrun, hended, _, _, rfl, hQ, ⟨_, rfl⟩, hW, hsame.mono hc hs⟩
theorem own_retV (X : Stand p l e R s m args below meth c T locs cells slots) (hx : p.tables.exec = Jvm.exec) {pc : Nat} {Ls : Array Slot} (hret : meth.sig.returnType = none) (hlk : meth.locks = false) (hd : decode c.code pc = .ok (.return_, 1)) (hc : cells ≤ C) (hs : slots ≤ S)
    (hQ : Q none T.heap locs) : own_Ends p e below s C S Q (T.setTop (mkF m pc Ls [])) := by
  obtain ⟨fs, hr, hrun, hended, hW, hsame⟩ := X.leave (v := none) (fun _ => rfl) hlk
  exact ⟨_, _, X.returnOut hx hret hd hr, hrun, hended, _, _, rfl, hQ, ⟨_, rfl⟩, hW, hsame.mono hc hs⟩
theorem own_retR (X : Stand p l e R s m args below meth c T locs cells slots) (hx : p.tables.exec = Jvm.exec) {pc : Nat} {Ls : Array Slot} {w : Value} {t : FieldType} {rest : List Value} (hret : meth.sig.returnType = some t) (ht : t.isReference = true) (hw : w.isRef = true) (hn : narrow t w = w) (hlk : meth.locks = false) (hd : decode c.code pc = .ok (.areturn, 1)) (hc : cells ≤ C) (hs : slots ≤ S)
    (hQ : Q (some w) T.heap locs) : own_Ends p e below s C S Q (T.setTop (mkF m pc Ls (w :: rest))) := by
  obtain ⟨fs, hr, hrun, hended, hW, hsame⟩ := X.leave (v := some w) (fun h => by rw [hret] at h; cases h) hlk
  exact ⟨_, _, retOut X hx hret hn (Or.inr (Or.inr (Or.inr (Or.inr ⟨rfl, ht, hw⟩)))) hd hr, hrun, hended, _, _, rfl, hQ, ⟨_, rfl⟩, hW, hsame.mono hc hs⟩
end OwnRet
/-- the array at a holds just vs -/
def own_Ar (Z : State) (h : Heap) (a : Addr) (ty : FieldType) (vs : List Value) : Prop :=
  vs.length < 2 ^ 31 ∧ ∃ cl : Cell, Arr Z h a cl ty ∧ cl.slots.toList = vs
section OwnArr
variable {p : Program} {l : Launch} {e : Env} {R : Room} {s : State} {m : MethodId} {args : Array Value} {below : List Frame} {meth : Method} {c : Code} {T : State} {locs : List Loc} {cells slots : Nat} {Z : State} {h h' : Heap} {a b : Addr} {ty : FieldType} {vs : List Value} {ws : List Addr} {sl : Nat} {w : Value}
theorem own_Ar.lt (A : own_Ar Z h a ty vs) : a < h.size := by obtain ⟨_, cl, h1, _⟩ := A; exact h1.lt
theorem own_Ar.ext (A : own_Ar Z h a ty vs) (E : Ext h h') : own_Ar Z h' a ty vs := by obtain ⟨q, cl, h1, r⟩ := A; exact ⟨q, cl, h1.ext E, r⟩
theorem own_Ar.other (A : own_Ar Z h a ty vs) (W : Wr h h' b sl w) (q : a ≠ b) : own_Ar Z h' a ty vs := by obtain ⟨z, cl, h1, r⟩ := A; exact ⟨z, cl, h1.other W q, r⟩
theorem own_Ar.keep (A : own_Ar Z h a ty vs) (K : Keep h h' ws) (q : a ∉ ws) : own_Ar Z h' a ty vs := by obtain ⟨z, cl, h1, r⟩ := A; exact ⟨z, cl, ⟨K.2.1 a cl h1.1 q, h1.2⟩, r⟩
theorem own_Ar.set (A : own_Ar Z h a ty vs) {i : Nat} (W : Wr h h' a i w) : own_Ar Z h' a ty (vs.set i w) := by
  obtain ⟨z, cl, h1, r⟩ := A
  refine ⟨by rw [List.length_set]; exact z, cl.setSlot i w, h1.same W, ?_⟩
  rw [← r]; simp [Cell.setSlot]
theorem own_Ar.new {k : ClassId} {z : Int32} (A : Arr Z h a (newA k ty z) ty) (q : ¬ z < 0) : own_Ar Z h a ty (List.replicate z.toNatClampNeg (defaultValue ty)) :=
  ⟨by rw [List.length_replicate]; exact (back32 q).2, _, A, by simp [newA]⟩
theorem own_Ar.cast {us : List Value} (A : own_Ar Z h a ty vs) (q : vs = us) : own_Ar Z h a ty us := q ▸ A
theorem own_Ar.ne {C : String} {a0 : Array Value} {k : Nat} (A : own_Ar Z h b ty vs) (F : Exa Z h a C) (wi : (Cond.instantiable C k).before a0 Z = true) : a ≠ b := by obtain ⟨_, cl, h1, _⟩ := A; exact ne_arr F wi h1
theorem own_in {cl : Cell} (r : cl.slots.toList = vs) {j : Int32} {i : Nat} (h0 : ¬ j < 0) (hj : j.toNatClampNeg = i) (hi : i < vs.length) : ¬ (j < 0 ∨ cl.slots.size ≤ j.toNatClampNeg) := by
  have : cl.slots.size = vs.length := by rw [← r]; simp
  rintro (q | q)
  · exact h0 q
  · omega
theorem own_at {cl : Cell} (r : cl.slots.toList = vs) {j : Int32} {i : Nat} (hj : j.toNatClampNeg = i) {v : Value} (hv : vs[i]? = some v) : cl.slots[j.toNatClampNeg]? = some v := by
  rw [hj, ← Array.getElem?_toList, r]; exact hv
theorem own_alen (X : Stand p l e R s m args below meth c T locs cells slots) (hx : p.tables.exec = Jvm.exec) (hZ : Z.Warmed39 s.vm) (eT : T.heap = h) (A : own_Ar Z h a ty vs) {n : Nat} {z : Int32} (hn : vs.length = n) (hz : Int32.ofNat n = z) {pc : Nat} {Ls : Array Slot} {st : List Value} (hd : decode c.code pc = .ok (.arraylength, 1)) (t : State)
    (k : Steps p.tables e below (T.setTop (mkF m (pc + 1) Ls (.int z :: st))) t) : Steps p.tables e below (T.setTop (mkF m pc Ls (.ref a :: st))) t := by
  obtain ⟨_, cl, h1, r⟩ := A
  refine X.arraylength hx (by rw [eT]; exact h1.1) (State.isArrayOf_alike hZ.alike h1.2.1) (g := mkF m pc Ls (.ref a :: st)) rfl rfl hd _ ?_
  have : cl.slots.size = n := by rw [← hn, ← r]; simp
  rw [this, show n.toInt32 = z from hz]; exact k
theorem own_iaload (X : Stand p l e R s m args below meth c T locs cells slots) (hx : p.tables.exec = Jvm.exec) (hZ : Z.Warmed39 s.vm) (eT : T.heap = h) (A : own_Ar Z h a .int vs) {j : Int32} {i : Nat} {v : Value} (h0 : ¬ j < 0) (hj : j.toNatClampNeg = i) (hv : vs[i]? = some v) {pc : Nat} {Ls : Array Slot} {st : List Value} (hd : decode c.code pc = .ok (.iaload, 1)) (t : State)
    (k : Steps p.tables e below (T.setTop (mkF m (pc + 1) Ls (v :: st))) t) : Steps p.tables e below (T.setTop (mkF m pc Ls (.int j :: .ref a :: st))) t := by
  obtain ⟨z, cl, h1, r⟩ := A
  exact X.iaload hx (by rw [eT]; exact h1.1) (State.isArrayOf_alike hZ.alike h1.2.1) h1.2.2 (own_in r h0 hj (List.getElem?_eq_some_iff.mp hv).1) (own_at r hj hv) (g := mkF m pc Ls (.int j :: .ref a :: st)) rfl rfl hd _ k
theorem own_laload (X : Stand p l e R s m args below meth c T locs cells slots) (hx : p.tables.exec = Jvm.exec) (hZ : Z.Warmed39 s.vm) (eT : T.heap = h) (A : own_Ar Z h a .long vs) {j : Int32} {i : Nat} {v : Value} (h0 : ¬ j < 0) (hj : j.toNatClampNeg = i) (hv : vs[i]? = some v) {pc : Nat} {Ls : Array Slot} {st : List Value} (hd : decode c.code pc = .ok (.laload, 1)) (t : State)
    (k : Steps p.tables e below (T.setTop (mkF m (pc + 1) Ls (v :: st))) t) : Steps p.tables e below (T.setTop (mkF m pc Ls (.int j :: .ref a :: st))) t := by
  obtain ⟨z, cl, h1, r⟩ := A
  exact X.laload hx (by rw [eT]; exact h1.1) (State.isArrayOf_alike hZ.alike h1.2.1) h1.2.2 (own_in r h0 hj (List.getElem?_eq_some_iff.mp hv).1) (own_at r hj hv) (g := mkF m pc Ls (.int j :: .ref a :: st)) rfl rfl hd _ k
theorem own_baload (X : Stand p l e R s m args below meth c T locs cells slots) (hx : p.tables.exec = Jvm.exec) (hZ : Z.Warmed39 s.vm) (eT : T.heap = h) (A : own_Ar Z h a .byte vs) {j : Int32} {i : Nat} {v : Value} (h0 : ¬ j < 0) (hj : j.toNatClampNeg = i) (hv : vs[i]? = some v) {pc : Nat} {Ls : Array Slot} {st : List Value} (hd : decode c.code pc = .ok (.baload, 1)) (t : State)
    (k : Steps p.tables e below (T.setTop (mkF m (pc + 1) Ls (v :: st))) t) : Steps p.tables e below (T.setTop (mkF m pc Ls (.int j :: .ref a :: st))) t := by
  obtain ⟨z, cl, h1, r⟩ := A
  exact X.baloadBytes hx (by rw [eT]; exact h1.1) (State.isArrayOf_alike hZ.alike h1.2.1) h1.2.2 (own_in r h0 hj (List.getElem?_eq_some_iff.mp hv).1) (own_at r hj hv) (g := mkF m pc Ls (.int j :: .ref a :: st)) rfl rfl hd _ k
theorem own_aaload (X : Stand p l e R s m args below meth c T locs cells slots) (hx : p.tables.exec = Jvm.exec) (hZ : Z.Warmed39 s.vm) (eT : T.heap = h) (A : own_Ar Z h a ty vs) (hty : ty.isReference = true) {j : Int32} {i : Nat} {v : Value} (h0 : ¬ j < 0) (hj : j.toNatClampNeg = i) (hv : vs[i]? = some v) {pc : Nat} {Ls : Array Slot} {st : List Value} (hd : decode c.code pc = .ok (.aaload, 1)) (t : State)
    (k : Steps p.tables e below (T.setTop (mkF m (pc + 1) Ls (v :: st))) t) : Steps p.tables e below (T.setTop (mkF m pc Ls (.int j :: .ref a :: st))) t := by
  obtain ⟨z, cl, h1, r⟩ := A
  exact X.aaload hx (by rw [eT]; exact h1.1) (State.isArrayOf_alike hZ.alike h1.2.1) hty h1.2.2 (own_in r h0 hj (List.getElem?_eq_some_iff.mp hv).1) (own_at r hj hv) (g := mkF m pc Ls (.int j :: .ref a :: st)) rfl rfl hd _ k
theorem own_iastore (X : Stand p l e R s m args below meth c T locs cells slots) (hx : p.tables.exec = Jvm.exec) (hZ : Z.Warmed39 s.vm) (eT : T.heap = h) (A : own_Ar Z h a .int vs) {j x : Int32} {i : Nat} (h0 : ¬ j < 0) (hj : j.toNatClampNeg = i) (hi : i < vs.length) {pc : Nat} {Ls : Array Slot} {st : List Value} (hd : decode c.code pc = .ok (.iastore, 1)) :
    ∃ T' h', Stand p l e R s m args below meth c T' (locs ++ [⟨a, i⟩]) cells slots ∧ T'.heap = h' ∧ Wr h h' a i (.int x) ∧ own_Ar Z h' a .int (vs.set i (.int x)) ∧ ∀ t, Steps p.tables e below (T'.setTop (mkF m (pc + 1) Ls st)) t → Steps p.tables e below (T.setTop (mkF m pc Ls (.int x :: .int j :: .ref a :: st))) t := by
  have A' := A
  obtain ⟨z, cl, h1, r⟩ := A
  obtain ⟨T', h', X', e', W, k⟩ := stI X hx hZ eT h1 (j := j) (x := x) (own_in r h0 hj hi) (g := mkF m pc Ls (.int x :: .int j :: .ref a :: st)) rfl rfl hd
  rw [hj] at X' W
  exact ⟨T', h', X', e', W, A'.set W, k⟩
theorem own_lastore (X : Stand p l e R s m args below meth c T locs cells slots) (hx : p.tables.exec = Jvm.exec) (hZ : Z.Warmed39 s.vm) (eT : T.heap = h) (A : own_Ar Z h a .long vs) {j : Int32} {x : Int64} {i : Nat} (h0 : ¬ j < 0) (hj : j.toNatClampNeg = i) (hi : i < vs.length) {pc : Nat} {Ls : Array Slot} {st : List Value} (hd : decode c.code pc = .ok (.lastore, 1)) :
    ∃ T' h', Stand p l e R s m args below meth c T' (locs ++ [⟨a, i⟩]) cells slots ∧ T'.heap = h' ∧ Wr h h' a i (.long x) ∧ own_Ar Z h' a .long (vs.set i (.long x)) ∧ ∀ t, Steps p.tables e below (T'.setTop (mkF m (pc + 1) Ls st)) t → Steps p.tables e below (T.setTop (mkF m pc Ls (.long x :: .int j :: .ref a :: st))) t := by
  have A' := A
  obtain ⟨z, cl, h1, r⟩ := A
  obtain ⟨T', h', X', e', W, k⟩ := stJ X hx hZ eT h1 (j := j) (x := x) (own_in r h0 hj hi) (g := mkF m pc Ls (.long x :: .int j :: .ref a :: st)) rfl rfl hd
  rw [hj] at X' W
  exact ⟨T', h', X', e', W, A'.set W, k⟩
theorem own_bastore (X : Stand p l e R s m args below meth c T locs cells slots) (hx : p.tables.exec = Jvm.exec) (hZ : Z.Warmed39 s.vm) (eT : T.heap = h) (A : own_Ar Z h a .byte vs) {j x : Int32} {i : Nat} (h0 : ¬ j < 0) (hj : j.toNatClampNeg = i) (hi : i < vs.length) {pc : Nat} {Ls : Array Slot} {st : List Value} (hd : decode c.code pc = .ok (.bastore, 1)) :
    ∃ T' h', Stand p l e R s m args below meth c T' (locs ++ [⟨a, i⟩]) cells slots ∧ T'.heap = h' ∧ Wr h h' a i (.int (nar .byte x)) ∧ own_Ar Z h' a .byte (vs.set i (.int (nar .byte x))) ∧ ∀ t, Steps p.tables e below (T'.setTop (mkF m (pc + 1) Ls st)) t → Steps p.tables e below (T.setTop (mkF m pc Ls (.int x :: .int j :: .ref a :: st))) t := by
  have A' := A
  obtain ⟨z, cl, h1, r⟩ := A
  obtain ⟨T', h', X', e', W, k⟩ := stB X hx hZ eT h1 (j := j) (x := x) (own_in r h0 hj hi) (g := mkF m pc Ls (.int x :: .int j :: .ref a :: st)) rfl rfl hd
  rw [hj] at X' W
  exact ⟨T', h', X', e', W, A'.set W, k⟩
end OwnArr

def own_sp (p : Int32) : Int32 := (p * (-1640531527 : Int32)) ^^^ (((p * (-1640531527 : Int32)).toUInt32 >>> ((16 : Int32) &&& 31).toUInt32).toInt32)
/-- where the search of x begins -/
def own_s (x : Int32) : Nat := (own_sp x &&& (15 : Int32)).toNatClampNeg
theorem own_s_eq (x : Int32) : own_sp x &&& (15 : Int32) = Int32.ofNat (own_s x) ∧ own_s x < 16 := by
  have h := Jvm.Kit.i32_mask (own_sp x) 15 (k := 4) (by decide) (by decide)
  have e : own_s x = (own_sp x &&& (15 : Int32)).toInt.toNat := rfl
  refine ⟨?_, by omega⟩
  apply Int32.toInt_inj.mp
  rw [Int32.toInt_ofNat_small (by omega)]; omega
/-- the k-th place of the search of x -/
def own_pl (x : Int32) (k : Nat) : Nat := (own_s x + k) % 16
theorem own_pl_lt (x : Int32) (k : Nat) : own_pl x k < 16 := Nat.mod_lt _ (by decide)
def own_pr (ts : List Int32) (x : Int32) (k : Nat) : Int32 := ts.getD (own_pl x k) 0
/-- the search of x ends at its k-th place -/
def own_fin (ts : List Int32) (x : Int32) (k : Nat) : Prop := (own_pr ts x k = x ∨ own_pr ts x k = -1) ∧ ∀ j, j < k → ¬ own_pr ts x j = x ∧ ¬ own_pr ts x j = -1
def own_good (ts : List Int32) (S : List Int32) : Prop := ts.length = 16 ∧ (∀ i, i < 16 → ts.getD i 0 = -1 ∨ ts.getD i 0 ∈ S) ∧ (∀ y ∈ S, ∃ k, k < 16 ∧ own_pr ts y k = y ∧ ∀ j, j < k → ¬ own_pr ts y j = y ∧ ¬ own_pr ts y j = -1) ∧ ∃ P : List Nat, P.length ≤ S.length ∧ ∀ i, i < 16 → ¬ ts.getD i 0 = -1 → i ∈ P
theorem own_good0 : own_good (List.replicate 16 (-1 : Int32)) [] := by
  have h : ∀ i, i < 16 → (List.replicate 16 (-1 : Int32)).getD i 0 = -1 := by decide
  exact ⟨rfl, fun i hi => Or.inl (h i hi), (fun y hy => by cases hy), [], Nat.le_refl _, fun i hi q => absurd (h i hi) q⟩
theorem own_hit {ts S : List Int32} {x : Int32} (G : own_good ts S) (hx : x ∈ S) : ∃ k, k < 16 ∧ own_fin ts x k ∧ own_pr ts x k = x := by
  obtain ⟨k, hk, h1, h2⟩ := G.2.2.1 x hx
  exact ⟨k, hk, ⟨Or.inl h1, h2⟩, h1⟩
theorem own_free {ts S : List Int32} (G : own_good ts S) (hS : S.length ≤ 2) (s : Nat) : ts.getD ((s + 0) % 16) 0 = -1 ∨ ts.getD ((s + 1) % 16) 0 = -1 ∨ ts.getD ((s + 2) % 16) 0 = -1 := by
  obtain ⟨-, -, -, P, hP, hq⟩ := G
  have key : ∀ k, ts.getD ((s + k) % 16) 0 = -1 ∨ (s + k) % 16 ∈ P := fun k => by
    by_cases h : ts.getD ((s + k) % 16) 0 = -1
    · exact Or.inl h
    · exact Or.inr (hq _ (Nat.mod_lt _ (by decide)) h)
  have h0 := key 0
  have h1 := key 1
  have h2 := key 2
  match P, hP with
  | [], _ => simp at h0; exact Or.inl h0
  | [p], _ =>
    simp only [List.mem_singleton] at h0 h1 h2
    rcases h0 with h0 | h0
    · exact Or.inl h0
    · rcases h1 with h1 | h1
      · exact Or.inr (Or.inl h1)
      · omega
  | [p, q], _ =>
    simp only [List.mem_cons, List.not_mem_nil, or_false] at h0 h1 h2
    rcases h0 with h0 | h0
    · exact Or.inl h0
    · rcases h1 with h1 | h1
      · exact Or.inr (Or.inl h1)
      · rcases h2 with h2 | h2
        · exact Or.inr (Or.inr h2)
        · omega
  | _ :: _ :: _ :: _, h => simp at h; omega
theorem own_miss {ts S : List Int32} {x : Int32} (G : own_good ts S) (hS : S.length ≤ 2) (hx : x ∉ S) (hm : ¬ x = -1) : ∃ k, k < 16 ∧ own_fin ts x k ∧ own_pr ts x k = -1 := by
  have nx : ∀ k, ¬ own_pr ts x k = x := fun k q => by
    rcases G.2.1 _ (own_pl_lt x k) with h | h
    · exact hm (q.symm.trans h)
    · rw [show ts.getD (own_pl x k) 0 = own_pr ts x k from rfl, q] at h; exact hx h
  have h0 : own_pr ts x 0 = -1 ∨ own_pr ts x 1 = -1 ∨ own_pr ts x 2 = -1 := own_free G hS (own_s x)
  by_cases q0 : own_pr ts x 0 = -1
  · exact ⟨0, by decide, ⟨Or.inr q0, fun j hj => by omega⟩, q0⟩
  · by_cases q1 : own_pr ts x 1 = -1
    · refine ⟨1, by decide, ⟨Or.inr q1, fun j hj => ⟨nx j, ?_⟩⟩, q1⟩
      rw [show j = 0 from by omega]; exact q0
    · have q2 : own_pr ts x 2 = -1 := by rcases h0 with h | h | h <;> first | exact absurd h q0 | exact absurd h q1 | exact h
      refine ⟨2, by decide, ⟨Or.inr q2, fun j hj => ⟨nx j, ?_⟩⟩, q2⟩
      rcases (show j = 0 ∨ j = 1 by omega) with h | h <;> rw [h] <;> assumption
theorem own_getD_set (ts : List Int32) (p i : Nat) (x : Int32) (hp : p < ts.length) : (ts.set p x).getD i 0 = if i = p then x else ts.getD i 0 := by
  rw [List.getD_eq_getElem?_getD, List.getD_eq_getElem?_getD, List.getElem?_set]
  by_cases h : p = i
  · subst h; simp [hp]
  · rw [if_neg h, if_neg (fun q => h q.symm)]
theorem own_ins {ts S : List Int32} {x : Int32} (G : own_good ts S) (hx : x ∉ S) (hm : ¬ x = -1) (hS : ∀ y ∈ S, ¬ y = -1) {k : Nat} (hk : k < 16) (E : own_fin ts x k) (h : own_pr ts x k = -1) : own_good (ts.set (own_pl x k) x) (x :: S) := by
  obtain ⟨g1, g2, g3, P, hP, hq⟩ := G
  have hp : own_pl x k < ts.length := by rw [g1]; exact own_pl_lt x k
  have rd : ∀ y j, own_pr (ts.set (own_pl x k) x) y j = if own_pl y j = own_pl x k then x else own_pr ts y j := fun y j => own_getD_set ts _ _ x hp
  refine ⟨by rw [List.length_set]; exact g1, ?_, ?_, own_pl x k :: P, by simp; omega, ?_⟩
  · intro i hi
    rw [own_getD_set ts _ _ x hp]
    split
    · exact Or.inr (List.mem_cons_self ..)
    · rcases g2 i hi with q | q
      · exact Or.inl q
      · exact Or.inr (List.mem_cons_of_mem _ q)
  · intro y hy
    rcases List.mem_cons.mp hy with rfl | hy
    · refine ⟨k, hk, by rw [rd, if_pos rfl], fun j hj => ?_⟩
      have hne : ¬ own_pl y j = own_pl y k := by unfold own_pl; have := (own_s_eq y).2; omega
      rw [rd, if_neg hne]
      exact E.2 j hj
    · obtain ⟨ky, q1, q2, q3⟩ := g3 y hy
      have hxy : ¬ x = y := fun q => hx (q ▸ hy)
      refine ⟨ky, q1, ?_, fun j hj => ?_⟩
      · rw [rd]
        split
        · rename_i e
          have : own_pr ts y ky = own_pr ts x k := by unfold own_pr; rw [e]
          exact absurd (q2.symm.trans (this.trans h)) (hS y hy)
        · exact q2
      · rw [rd]
        split
        · exact ⟨hxy, hm⟩
        · exact q3 j hj
  · intro i hi q
    rw [own_getD_set ts _ _ x hp] at q
    by_cases e : i = own_pl x k
    · rw [e]; exact List.mem_cons_self ..
    · rw [if_neg e] at q; exact List.mem_cons_of_mem _ (hq i hi q)
/-- 1L << x -/
def own_w (x : Int32) : Int64 := (1 : Int64) <<< (x &&& 0x3f).toInt64
def own_k (x : Int32) : Nat := (x.toInt % 64).toNat
theorem own_w_bit (x : Int32) (i : Nat) : (own_w x).toBitVec.getLsbD i = (decide (i < 64) && decide (i = own_k x)) := by
  have h := Jvm.Kit.i32_mask x 0x3f (k := 6) (by decide) (by decide)
  have hk : own_k x < 64 := by unfold own_k; omega
  have e : ((x &&& 0x3f).toInt64.toBitVec.smod 64).toNat = own_k x := by
    have e1 : (x &&& 0x3f).toInt64.toInt = (own_k x : Int) := by rw [Int32.toInt_toInt64, h]; unfold own_k; omega
    have e2 : (x &&& 0x3f).toInt64 = Int64.ofNat (own_k x) := by
      apply Int64.toInt_inj.mp
      rw [e1, Int64.toInt_ofNat_of_lt (by omega)]
    rw [e2]
    have : ∀ q : Fin 64, ((Int64.ofNat q.val).toBitVec.smod 64).toNat = q.val := by decide +kernel
    exact this ⟨_, hk⟩
  rw [own_w, Int64.toBitVec_shiftLeft, BitVec.shiftLeft_eq', e]
  show (1#64 <<< own_k x).getLsbD i = _
  rw [BitVec.getLsbD_shiftLeft]
  by_cases h64 : i < 64
  · by_cases hik : i < own_k x
    · simp [h64, hik]; omega
    · have : (1#64).getLsbD (i - own_k x) = decide (i - own_k x = 0) := by
        rw [BitVec.getLsbD_one]; simp
      rw [this]; simp [h64, hik]; omega
  · simp [h64]
theorem own_bit (w : Int64) (x : Int32) : (w &&& own_w x = 0) ↔ w.toBitVec.getLsbD (own_k x) = false := by
  have hk : own_k x < 64 := by unfold own_k; omega
  rw [← Int64.toBitVec_inj, Int64.toBitVec_and]
  constructor
  · intro h
    have q := congrArg (fun b => b.getLsbD (own_k x)) h
    simp only [BitVec.getLsbD_and, own_w_bit, hk, decide_true, Bool.and_true] at q
    rw [q]
    show (0#64).getLsbD _ = false
    simp
  · intro h
    apply BitVec.eq_of_getLsbD_eq
    intro i hi
    show _ = (0#64).getLsbD i
    rw [BitVec.getLsbD_and, own_w_bit, BitVec.getLsbD_zero]
    by_cases e : i = own_k x
    · rw [e, h]; simp
    · simp [e]
theorem own_or (w : Int64) (x y : Int32) : ((w ||| own_w x) &&& own_w y = 0) ↔ (w &&& own_w y = 0) ∧ ¬ own_k y = own_k x := by
  have hk : own_k y < 64 := by unfold own_k; omega
  rw [own_bit, own_bit, Int64.toBitVec_or, BitVec.getLsbD_or, own_w_bit]
  simp [hk]
def own_q (x : Int32) : Nat := x.toInt.toNat / 64
theorem own_div (x : Int32) (h0 : 0 ≤ x.toInt) : ¬ x / (64 : Int32) < 0 ∧ (x / (64 : Int32)).toNatClampNeg = own_q x := by
  have h := Jvm.Kit.i32_div (x := x) (y := 64) (by rw [show (64 : Int32).toInt = 64 from rfl]; omega)
  rw [show (64 : Int32).toInt = 64 from rfl, Int.tdiv_eq_ediv_of_nonneg h0] at h
  refine ⟨?_, ?_⟩
  · rw [Int32.lt_iff_toInt_lt, h, show (0 : Int32).toInt = 0 from rfl]; omega
  · show (x / (64 : Int32)).toInt.toNat = _
    rw [h, own_q]; omega
def own_bgood (ls : List Int64) (nc : Nat) (S : List Int32) : Prop := ls.length = (nc + 63) / 64 ∧ ∀ y : Int32, 0 ≤ y.toInt → y.toInt < nc → (¬ (ls.getD (own_q y) 0 &&& own_w y) = 0 ↔ y ∈ S)
theorem own_bgood0 (nc : Nat) : own_bgood (List.replicate ((nc + 63) / 64) (0 : Int64)) nc [] := by
  refine ⟨by simp, fun y _ _ => ?_⟩
  have e : (List.replicate ((nc + 63) / 64) (0 : Int64)).getD (own_q y) 0 = 0 := by
    rw [List.getD_eq_getElem?_getD, List.getElem?_replicate]; split <;> rfl
  rw [e]
  simp
theorem own_q_lt {x : Int32} {nc : Nat} (h0 : 0 ≤ x.toInt) (h1 : x.toInt < nc) : own_q x < (nc + 63) / 64 := by unfold own_q; omega
theorem own_getD_setL (ts : List Int64) (p i : Nat) (x : Int64) (hp : p < ts.length) : (ts.set p x).getD i 0 = if i = p then x else ts.getD i 0 := by
  rw [List.getD_eq_getElem?_getD, List.getD_eq_getElem?_getD, List.getElem?_set]
  by_cases h : p = i
  · subst h; simp [hp]
  · rw [if_neg h, if_neg (fun q => h q.symm)]
theorem own_bins {ls : List Int64} {nc : Nat} {S : List Int32} {x : Int32} (G : own_bgood ls nc S) (h0 : 0 ≤ x.toInt) (h1 : x.toInt < nc) : own_bgood (ls.set (own_q x) (ls.getD (own_q x) 0 ||| own_w x)) nc (x :: S) := by
  refine ⟨by rw [List.length_set]; exact G.1, fun y q0 q1 => ?_⟩
  have hp : own_q x < ls.length := by rw [G.1]; exact own_q_lt h0 h1
  rw [own_getD_setL ls _ _ _ hp, List.mem_cons]
  by_cases e : own_q y = own_q x
  · rw [if_pos e, own_or, ← G.2 y q0 q1, e]
    have hk : own_k y = own_k x ↔ y = x := by
      rw [← Int32.toInt_inj]
      unfold own_k own_q at *
      omega
    rw [hk]
    by_cases hyx : y = x
    · simp [hyx]
    · simp [hyx]
  · rw [if_neg e, G.2 y q0 q1]
    have : ¬ y = x := fun q => e (by rw [q])
    simp [this]
theorem own_nn {i : Nat} (h : i < 2 ^ 31) : ¬ Int32.ofNat i < 0 := by
  rw [Int32.lt_iff_toInt_lt, Int32.toInt_ofNat_small h, show (0 : Int32).toInt = 0 from rfl]; omega
theorem own_nc {i : Nat} (h : i < 2 ^ 31) : (Int32.ofNat i).toNatClampNeg = i := by
  rw [Int32.toNatClampNeg, Int32.toInt_ofNat_small h]; rfl
theorem own_pl_lt31 (x : Int32) (k : Nat) : own_pl x k < 2 ^ 31 := by have := own_pl_lt x k; omega
theorem own_rd {ts : List Int32} (hl : ts.length = 16) (x : Int32) (k : Nat) : (ts.map Value.int)[own_pl x k]? = some (.int (own_pr ts x k)) := by
  have h : own_pl x k < ts.length := by rw [hl]; exact own_pl_lt x k
  rw [List.getElem?_map, List.getElem?_eq_getElem h, own_pr, List.getD_eq_getElem?_getD, List.getElem?_eq_getElem h]; rfl
theorem own_rdL {ls : List Int64} {x : Int32} (h : own_q x < ls.length) : (ls.map Value.long)[own_q x]? = some (.long (ls.getD (own_q x) 0)) := by
  rw [List.getElem?_map, List.getElem?_eq_getElem h, List.getD_eq_getElem?_getD, List.getElem?_eq_getElem h]; rfl
theorem own_pl0 (x : Int32) : own_sp x &&& (15 : Int32) = Int32.ofNat (own_pl x 0) := by
  rw [(own_s_eq x).1, own_pl, Nat.add_zero, Nat.mod_eq_of_lt (own_s_eq x).2]
theorem own_nextpl (x : Int32) (j : Nat) : (Int32.ofNat (own_pl x j) + (1 : Int32)) &&& (15 : Int32) = Int32.ofNat (own_pl x (j + 1)) := by
  have h := own_pl_lt x j
  have e : ∀ q : Fin 16, (Int32.ofNat q.val + (1 : Int32)) &&& (15 : Int32) = Int32.ofNat ((q.val + 1) % 16) := by decide +kernel
  have e' := e ⟨own_pl x j, h⟩
  rw [e']
  congr 1
  show (own_pl x j + 1) % 16 = own_pl x (j + 1)
  unfold own_pl; omega
theorem own_le512 {nc : Int32} {N : Nat} (hN : nc.toInt = N) (hn : N ≤ 512) : ¬ (512 : Int32) < nc := by
  rw [Int32.lt_iff_toInt_lt, hN, show (512 : Int32).toInt = 512 from rfl]; omega
theorem own_bl {nc : Int32} {N : Nat} (hN : nc.toInt = N) (hn : N ≤ 512) : ¬ (((nc + (64 : Int32)) - (1 : Int32)) / (64 : Int32)) < 0 ∧ (((nc + (64 : Int32)) - (1 : Int32)) / (64 : Int32)).toNatClampNeg = (N + 63) / 64 := by
  have h1 : (nc + (64 : Int32)).toInt = nc.toInt + 64 := Jvm.Kit.i32_add (q := 64) (by rw [show (64 : Int32).toInt = 64 from rfl]; omega) (by rw [show (64 : Int32).toInt = 64 from rfl]; omega)
  have h2 : ((nc + (64 : Int32)) - (1 : Int32)).toInt = (nc + (64 : Int32)).toInt - 1 := Jvm.Kit.i32_sub (q := 1) (by rw [show (1 : Int32).toInt = 1 from rfl]; omega) (by rw [show (1 : Int32).toInt = 1 from rfl]; omega)
  have h3 := Jvm.Kit.i32_div (x := (nc + (64 : Int32)) - (1 : Int32)) (y := 64) (by rw [show (64 : Int32).toInt = 64 from rfl]; omega)
  rw [show (64 : Int32).toInt = 64 from rfl, Int.tdiv_eq_ediv_of_nonneg (by omega)] at h3
  refine ⟨?_, ?_⟩
  · rw [Int32.lt_iff_toInt_lt, h3, show (0 : Int32).toInt = 0 from rfl]; omega
  · show (((nc + (64 : Int32)) - (1 : Int32)) / (64 : Int32)).toInt.toNat = _
    rw [h3]; omega
theorem own_ne1 {x : Int32} (h : 0 ≤ x.toInt) : ¬ x = -1 := fun q => by rw [q, show (-1 : Int32).toInt = -1 from rfl] at h; omega
theorem own_ncT (n : Int32) : 513 ≤ ((513 : Int32) + (n &&& (1073741823 : Int32))).toInt := by
  have h1 := Jvm.Kit.i32_mask n 1073741823 (k := 30) (by decide) (by decide)
  have h2 : ((513 : Int32) + (n &&& (1073741823 : Int32))).toInt = (513 : Int32).toInt + (n &&& (1073741823 : Int32)).toInt := Jvm.Kit.i32_add (by rw [show (513 : Int32).toInt = 513 from rfl]; omega) (by rw [show (513 : Int32).toInt = 513 from rfl]; omega)
  rw [h2, show (513 : Int32).toInt = 513 from rfl]; omega
theorem own_ncB (n : Int32) : 1 ≤ ((1 : Int32) + (n &&& (511 : Int32))).toInt ∧ ((1 : Int32) + (n &&& (511 : Int32))).toInt ≤ 512 := by
  have h1 := Jvm.Kit.i32_mask n 511 (k := 9) (by decide) (by decide)
  have h2 : ((1 : Int32) + (n &&& (511 : Int32))).toInt = (1 : Int32).toInt + (n &&& (511 : Int32)).toInt := Jvm.Kit.i32_add (by rw [show (1 : Int32).toInt = 1 from rfl]; omega) (by rw [show (1 : Int32).toInt = 1 from rfl]; omega)
  rw [h2, show (1 : Int32).toInt = 1 from rfl]; omega
theorem own_nz {nc : Int32} (h : 1 ≤ nc.toInt) : nc ≠ 0 := fun q => by rw [q, show (0 : Int32).toInt = 0 from rfl] at h; omega
def own_ok (nc x : Int32) : Prop := 0 ≤ x.toInt ∧ x.toInt < nc.toInt
theorem own_okm {nc x y : Int32} (h : 1 ≤ nc.toInt) (e : (x &&& (2147483647 : Int32)) % nc = y) : own_ok nc y := by
  have h1 := Jvm.Kit.i32_mask x 2147483647 (k := 31) (by decide) (by decide)
  have h2 : ((x &&& (2147483647 : Int32)) % nc).toInt = (x &&& (2147483647 : Int32)).toInt % nc.toInt := Jvm.Kit.i32_rem_nonneg (by omega)
  rw [← e]
  unfold own_ok
  rw [h2]
  exact ⟨Int.emod_nonneg _ (by omega), Int.emod_lt_of_pos _ (by omega)⟩
theorem own_ql {ls : List Int64} {nc : Int32} {S : List Int32} (G : own_bgood ls nc.toInt.toNat S) {x : Int32} (h : own_ok nc x) : own_q x < ls.length := by
  rw [G.1]; exact own_q_lt h.1 (by have := h.1; have := h.2; omega)
theorem own_bin {ls : List Int64} {nc : Int32} {S : List Int32} (G : own_bgood ls nc.toInt.toNat S) {x : Int32} (h : own_ok nc x) (hS : x ∈ S) : ¬ ls.getD (own_q x) 0 &&& own_w x = 0 := (G.2 x h.1 (by have := h.1; have := h.2; omega)).mpr hS
theorem own_bout {ls : List Int64} {nc : Int32} {S : List Int32} (G : own_bgood ls nc.toInt.toNat S) {x : Int32} (h : own_ok nc x) (hS : x ∉ S) : ls.getD (own_q x) 0 &&& own_w x = 0 := Classical.byContradiction fun q => hS ((G.2 x h.1 (by have := h.1; have := h.2; omega)).mp q)
theorem own_bins' {ls : List Int64} {nc : Int32} {S : List Int32} (G : own_bgood ls nc.toInt.toNat S) {x : Int32} (h : own_ok nc x) : own_bgood (ls.set (own_q x) (ls.getD (own_q x) 0 ||| own_w x)) nc.toInt.toNat (x :: S) := own_bins G h.1 (by have := h.1; have := h.2; omega)

theorem d6_0 : decode prog_6_method_2_code 0 = .ok (.iload_n 0, 1) := by decide +kernel
theorem d6_1 : decode prog_6_method_2_code 1 = .ok (.ldc 7, 2) := by decide +kernel
theorem d6_3 : decode prog_6_method_2_code 3 = .ok (.imul, 1) := by decide +kernel
theorem d6_4 : decode prog_6_method_2_code 4 = .ok (.istore_n 1, 1) := by decide +kernel
theorem d6_5 : decode prog_6_method_2_code 5 = .ok (.iload_n 1, 1) := by decide +kernel
theorem d6_6 : decode prog_6_method_2_code 6 = .ok (.iload_n 1, 1) := by decide +kernel
theorem d6_7 : decode prog_6_method_2_code 7 = .ok (.bipush 16, 2) := by decide +kernel
theorem d6_9 : decode prog_6_method_2_code 9 = .ok (.iushr, 1) := by decide +kernel
theorem d6_10 : decode prog_6_method_2_code 10 = .ok (.ixor, 1) := by decide +kernel
theorem d6_11 : decode prog_6_method_2_code 11 = .ok (.ireturn, 1) := by decide +kernel
theorem pn_0 : plainName "com/example/kinds_by_value/kindsbyvalue/Hashes" = true := by first | (simp [plainName, overriddenIn]; done) | decide +kernel
theorem d9_0 : decode jdk_65_method_103_code 0 = .ok (.iconst 0, 1) := by decide +kernel
theorem d9_1 : decode jdk_65_method_103_code 1 = .ok (.istore_n 2, 1) := by decide +kernel
theorem d9_2 : decode jdk_65_method_103_code 2 = .ok (.aload_n 0, 1) := by decide +kernel
theorem d9_3 : decode jdk_65_method_103_code 3 = .ok (.arraylength, 1) := by decide +kernel
theorem d9_4 : decode jdk_65_method_103_code 4 = .ok (.istore_n 3, 1) := by decide +kernel
theorem d9_5 : decode jdk_65_method_103_code 5 = .ok (.iload_n 2, 1) := by decide +kernel
theorem d9_6 : decode jdk_65_method_103_code 6 = .ok (.iload_n 3, 1) := by decide +kernel
theorem d9_7 : decode jdk_65_method_103_code 7 = .ok (.if_icmp .ge 13, 3) := by decide +kernel
theorem d9_10 : decode jdk_65_method_103_code 10 = .ok (.aload_n 0, 1) := by decide +kernel
theorem d9_11 : decode jdk_65_method_103_code 11 = .ok (.iload_n 2, 1) := by decide +kernel
theorem d9_12 : decode jdk_65_method_103_code 12 = .ok (.iload_n 1, 1) := by decide +kernel
theorem d9_13 : decode jdk_65_method_103_code 13 = .ok (.iastore, 1) := by decide +kernel
theorem d9_14 : decode jdk_65_method_103_code 14 = .ok (.iinc 2 1, 3) := by decide +kernel
theorem d9_17 : decode jdk_65_method_103_code 17 = .ok (.goto (-12), 3) := by decide +kernel
theorem d9_20 : decode jdk_65_method_103_code 20 = .ok (.return_, 1) := by decide +kernel
theorem pn_1 : plainName "java/util/Arrays" = true := by first | (simp [plainName, overriddenIn]; done) | decide +kernel
theorem d8_0 : decode prog_9_method_11_code 0 = .ok (.iload_n 0, 1) := by decide +kernel
theorem d8_1 : decode prog_9_method_11_code 1 = .ok (.newarray .int, 2) := by decide +kernel
theorem d8_3 : decode prog_9_method_11_code 3 = .ok (.astore_n 1, 1) := by decide +kernel
theorem d8_4 : decode prog_9_method_11_code 4 = .ok (.aload_n 1, 1) := by decide +kernel
theorem d8_5 : decode prog_9_method_11_code 5 = .ok (.iconst (-1), 1) := by decide +kernel
theorem d8_6 : decode prog_9_method_11_code 6 = .ok (.invokestatic 99, 3) := by decide +kernel
theorem d8_9 : decode prog_9_method_11_code 9 = .ok (.aload_n 1, 1) := by decide +kernel
theorem d8_10 : decode prog_9_method_11_code 10 = .ok (.areturn, 1) := by decide +kernel
theorem pn_2 : plainName "com/example/kinds_by_value/kindsbyvalue/NameSet" = true := by first | (simp [plainName, overriddenIn]; done) | decide +kernel
theorem pd_0 : parseMethodDescriptor "([II)V" = some ⟨[(.array .int), .int], none⟩ := by decide +kernel
theorem d1_0 : decode prog_9_method_1_code 0 = .ok (.aload_n 0, 1) := by decide +kernel
theorem d1_1 : decode prog_9_method_1_code 1 = .ok (.invokespecial 5, 3) := by decide +kernel
theorem d1_4 : decode prog_9_method_1_code 4 = .ok (.iload_n 1, 1) := by decide +kernel
theorem d1_5 : decode prog_9_method_1_code 5 = .ok (.sipush 512, 3) := by decide +kernel
theorem d1_8 : decode prog_9_method_1_code 8 = .ok (.if_icmp .gt 21, 3) := by decide +kernel
theorem d1_11 : decode prog_9_method_1_code 11 = .ok (.aload_n 0, 1) := by decide +kernel
theorem d1_12 : decode prog_9_method_1_code 12 = .ok (.iload_n 1, 1) := by decide +kernel
theorem d1_13 : decode prog_9_method_1_code 13 = .ok (.bipush 64, 2) := by decide +kernel
theorem d1_15 : decode prog_9_method_1_code 15 = .ok (.iadd, 1) := by decide +kernel
theorem d1_16 : decode prog_9_method_1_code 16 = .ok (.iconst 1, 1) := by decide +kernel
theorem d1_17 : decode prog_9_method_1_code 17 = .ok (.isub, 1) := by decide +kernel
theorem d1_18 : decode prog_9_method_1_code 18 = .ok (.bipush 64, 2) := by decide +kernel
theorem d1_20 : decode prog_9_method_1_code 20 = .ok (.idiv, 1) := by decide +kernel
theorem d1_21 : decode prog_9_method_1_code 21 = .ok (.newarray .long, 2) := by decide +kernel
theorem d1_23 : decode prog_9_method_1_code 23 = .ok (.putfield 13, 3) := by decide +kernel
theorem d1_26 : decode prog_9_method_1_code 26 = .ok (.goto 12, 3) := by decide +kernel
theorem d1_29 : decode prog_9_method_1_code 29 = .ok (.aload_n 0, 1) := by decide +kernel
theorem d1_30 : decode prog_9_method_1_code 30 = .ok (.bipush 16, 2) := by decide +kernel
theorem d1_32 : decode prog_9_method_1_code 32 = .ok (.invokestatic 17, 3) := by decide +kernel
theorem d1_35 : decode prog_9_method_1_code 35 = .ok (.putfield 21, 3) := by decide +kernel
theorem d1_38 : decode prog_9_method_1_code 38 = .ok (.return_, 1) := by decide +kernel
theorem pd_1 : parseMethodDescriptor "()V" = some ⟨[], none⟩ := by decide +kernel
theorem pd_2 : parseMethodDescriptor "(I)[I" = some ⟨[.int], some (.array .int)⟩ := by decide +kernel
theorem d3_0 : decode prog_9_method_8_code 0 = .ok (.aload_n 0, 1) := by decide +kernel
theorem d3_1 : decode prog_9_method_8_code 1 = .ok (.getfield 25, 3) := by decide +kernel
theorem d3_4 : decode prog_9_method_8_code 4 = .ok (.ifCond .eq 7, 3) := by decide +kernel
theorem d3_7 : decode prog_9_method_8_code 7 = .ok (.iconst (-1), 1) := by decide +kernel
theorem d3_8 : decode prog_9_method_8_code 8 = .ok (.goto 7, 3) := by decide +kernel
theorem d3_11 : decode prog_9_method_8_code 11 = .ok (.aload_n 0, 1) := by decide +kernel
theorem d3_12 : decode prog_9_method_8_code 12 = .ok (.getfield 45, 3) := by decide +kernel
theorem d3_15 : decode prog_9_method_8_code 15 = .ok (.ireturn, 1) := by decide +kernel
theorem d10_0 : decode prog_9_method_10_code 0 = .ok (.aload_n 0, 1) := by decide +kernel
theorem d10_1 : decode prog_9_method_10_code 1 = .ok (.getfield 21, 3) := by decide +kernel
theorem d10_4 : decode prog_9_method_10_code 4 = .ok (.arraylength, 1) := by decide +kernel
theorem d10_5 : decode prog_9_method_10_code 5 = .ok (.iconst 1, 1) := by decide +kernel
theorem d10_6 : decode prog_9_method_10_code 6 = .ok (.isub, 1) := by decide +kernel
theorem d10_7 : decode prog_9_method_10_code 7 = .ok (.istore_n 2, 1) := by decide +kernel
theorem d10_8 : decode prog_9_method_10_code 8 = .ok (.iload_n 1, 1) := by decide +kernel
theorem d10_9 : decode prog_9_method_10_code 9 = .ok (.invokestatic 48, 3) := by decide +kernel
theorem d10_12 : decode prog_9_method_10_code 12 = .ok (.iload_n 2, 1) := by decide +kernel
theorem d10_13 : decode prog_9_method_10_code 13 = .ok (.iand, 1) := by decide +kernel
theorem d10_14 : decode prog_9_method_10_code 14 = .ok (.istore_n 3, 1) := by decide +kernel
theorem d10_15 : decode prog_9_method_10_code 15 = .ok (.aload_n 0, 1) := by decide +kernel
theorem d10_16 : decode prog_9_method_10_code 16 = .ok (.getfield 21, 3) := by decide +kernel
theorem d10_19 : decode prog_9_method_10_code 19 = .ok (.iload_n 3, 1) := by decide +kernel
theorem d10_20 : decode prog_9_method_10_code 20 = .ok (.iaload, 1) := by decide +kernel
theorem d10_21 : decode prog_9_method_10_code 21 = .ok (.iload_n 1, 1) := by decide +kernel
theorem d10_22 : decode prog_9_method_10_code 22 = .ok (.if_icmp .eq 22, 3) := by decide +kernel
theorem d10_25 : decode prog_9_method_10_code 25 = .ok (.aload_n 0, 1) := by decide +kernel
theorem d10_26 : decode prog_9_method_10_code 26 = .ok (.getfield 21, 3) := by decide +kernel
theorem d10_29 : decode prog_9_method_10_code 29 = .ok (.iload_n 3, 1) := by decide +kernel
theorem d10_30 : decode prog_9_method_10_code 30 = .ok (.iaload, 1) := by decide +kernel
theorem d10_31 : decode prog_9_method_10_code 31 = .ok (.iconst (-1), 1) := by decide +kernel
theorem d10_32 : decode prog_9_method_10_code 32 = .ok (.if_icmp .eq 12, 3) := by decide +kernel
theorem d10_35 : decode prog_9_method_10_code 35 = .ok (.iload_n 3, 1) := by decide +kernel
theorem d10_36 : decode prog_9_method_10_code 36 = .ok (.iconst 1, 1) := by decide +kernel
theorem d10_37 : decode prog_9_method_10_code 37 = .ok (.iadd, 1) := by decide +kernel
theorem d10_38 : decode prog_9_method_10_code 38 = .ok (.iload_n 2, 1) := by decide +kernel
theorem d10_39 : decode prog_9_method_10_code 39 = .ok (.iand, 1) := by decide +kernel
theorem d10_40 : decode prog_9_method_10_code 40 = .ok (.istore_n 3, 1) := by decide +kernel
theorem d10_41 : decode prog_9_method_10_code 41 = .ok (.goto (-26), 3) := by decide +kernel
theorem d10_44 : decode prog_9_method_10_code 44 = .ok (.iload_n 3, 1) := by decide +kernel
theorem d10_45 : decode prog_9_method_10_code 45 = .ok (.ireturn, 1) := by decide +kernel
theorem pd_3 : parseMethodDescriptor "(I)I" = some ⟨[.int], some .int⟩ := by decide +kernel
theorem d5_0 : decode prog_9_method_2_code 0 = .ok (.aload_n 0, 1) := by decide +kernel
theorem d5_1 : decode prog_9_method_2_code 1 = .ok (.getfield 25, 3) := by decide +kernel
theorem d5_4 : decode prog_9_method_2_code 4 = .ok (.ifCond .eq 8, 3) := by decide +kernel
theorem d5_7 : decode prog_9_method_2_code 7 = .ok (.iconst 1, 1) := by decide +kernel
theorem d5_8 : decode prog_9_method_2_code 8 = .ok (.istore_n 2, 1) := by decide +kernel
theorem d5_9 : decode prog_9_method_2_code 9 = .ok (.goto 57, 3) := by decide +kernel
theorem d5_12 : decode prog_9_method_2_code 12 = .ok (.aload_n 0, 1) := by decide +kernel
theorem d5_13 : decode prog_9_method_2_code 13 = .ok (.getfield 13, 3) := by decide +kernel
theorem d5_16 : decode prog_9_method_2_code 16 = .ok (.ifnull 30, 3) := by decide +kernel
theorem d5_19 : decode prog_9_method_2_code 19 = .ok (.aload_n 0, 1) := by decide +kernel
theorem d5_20 : decode prog_9_method_2_code 20 = .ok (.getfield 13, 3) := by decide +kernel
theorem d5_23 : decode prog_9_method_2_code 23 = .ok (.iload_n 1, 1) := by decide +kernel
theorem d5_24 : decode prog_9_method_2_code 24 = .ok (.bipush 64, 2) := by decide +kernel
theorem d5_26 : decode prog_9_method_2_code 26 = .ok (.idiv, 1) := by decide +kernel
theorem d5_27 : decode prog_9_method_2_code 27 = .ok (.laload, 1) := by decide +kernel
theorem d5_28 : decode prog_9_method_2_code 28 = .ok (.lconst 1, 1) := by decide +kernel
theorem d5_29 : decode prog_9_method_2_code 29 = .ok (.iload_n 1, 1) := by decide +kernel
theorem d5_30 : decode prog_9_method_2_code 30 = .ok (.lshl, 1) := by decide +kernel
theorem d5_31 : decode prog_9_method_2_code 31 = .ok (.land, 1) := by decide +kernel
theorem d5_32 : decode prog_9_method_2_code 32 = .ok (.lconst 0, 1) := by decide +kernel
theorem d5_33 : decode prog_9_method_2_code 33 = .ok (.lcmp, 1) := by decide +kernel
theorem d5_34 : decode prog_9_method_2_code 34 = .ok (.ifCond .eq 7, 3) := by decide +kernel
theorem d5_37 : decode prog_9_method_2_code 37 = .ok (.iconst 1, 1) := by decide +kernel
theorem d5_38 : decode prog_9_method_2_code 38 = .ok (.goto 4, 3) := by decide +kernel
theorem d5_41 : decode prog_9_method_2_code 41 = .ok (.iconst 0, 1) := by decide +kernel
theorem d5_42 : decode prog_9_method_2_code 42 = .ok (.istore_n 2, 1) := by decide +kernel
theorem d5_43 : decode prog_9_method_2_code 43 = .ok (.goto 23, 3) := by decide +kernel
theorem d5_46 : decode prog_9_method_2_code 46 = .ok (.aload_n 0, 1) := by decide +kernel
theorem d5_47 : decode prog_9_method_2_code 47 = .ok (.getfield 21, 3) := by decide +kernel
theorem d5_50 : decode prog_9_method_2_code 50 = .ok (.aload_n 0, 1) := by decide +kernel
theorem d5_51 : decode prog_9_method_2_code 51 = .ok (.iload_n 1, 1) := by decide +kernel
theorem d5_52 : decode prog_9_method_2_code 52 = .ok (.invokevirtual 29, 3) := by decide +kernel
theorem d5_55 : decode prog_9_method_2_code 55 = .ok (.iaload, 1) := by decide +kernel
theorem d5_56 : decode prog_9_method_2_code 56 = .ok (.iload_n 1, 1) := by decide +kernel
theorem d5_57 : decode prog_9_method_2_code 57 = .ok (.if_icmp .ne 7, 3) := by decide +kernel
theorem d5_60 : decode prog_9_method_2_code 60 = .ok (.iconst 1, 1) := by decide +kernel
theorem d5_61 : decode prog_9_method_2_code 61 = .ok (.goto 4, 3) := by decide +kernel
theorem d5_64 : decode prog_9_method_2_code 64 = .ok (.iconst 0, 1) := by decide +kernel
theorem d5_65 : decode prog_9_method_2_code 65 = .ok (.istore_n 2, 1) := by decide +kernel
theorem d5_66 : decode prog_9_method_2_code 66 = .ok (.iload_n 2, 1) := by decide +kernel
theorem d5_67 : decode prog_9_method_2_code 67 = .ok (.ireturn, 1) := by decide +kernel
theorem d4_0 : decode prog_9_method_3_code 0 = .ok (.aload_n 0, 1) := by decide +kernel
theorem d4_1 : decode prog_9_method_3_code 1 = .ok (.iload_n 1, 1) := by decide +kernel
theorem d4_2 : decode prog_9_method_3_code 2 = .ok (.invokevirtual 33, 3) := by decide +kernel
theorem d4_5 : decode prog_9_method_3_code 5 = .ok (.ifCond .eq 5, 3) := by decide +kernel
theorem d4_8 : decode prog_9_method_3_code 8 = .ok (.iconst 0, 1) := by decide +kernel
theorem d4_9 : decode prog_9_method_3_code 9 = .ok (.ireturn, 1) := by decide +kernel
theorem d4_10 : decode prog_9_method_3_code 10 = .ok (.aload_n 0, 1) := by decide +kernel
theorem d4_11 : decode prog_9_method_3_code 11 = .ok (.getfield 13, 3) := by decide +kernel
theorem d4_14 : decode prog_9_method_3_code 14 = .ok (.ifnull 21, 3) := by decide +kernel
theorem d4_17 : decode prog_9_method_3_code 17 = .ok (.aload_n 0, 1) := by decide +kernel
theorem d4_18 : decode prog_9_method_3_code 18 = .ok (.getfield 13, 3) := by decide +kernel
theorem d4_21 : decode prog_9_method_3_code 21 = .ok (.iload_n 1, 1) := by decide +kernel
theorem d4_22 : decode prog_9_method_3_code 22 = .ok (.bipush 64, 2) := by decide +kernel
theorem d4_24 : decode prog_9_method_3_code 24 = .ok (.idiv, 1) := by decide +kernel
theorem d4_25 : decode prog_9_method_3_code 25 = .ok (.dup2, 1) := by decide +kernel
theorem d4_26 : decode prog_9_method_3_code 26 = .ok (.laload, 1) := by decide +kernel
theorem d4_27 : decode prog_9_method_3_code 27 = .ok (.lconst 1, 1) := by decide +kernel
theorem d4_28 : decode prog_9_method_3_code 28 = .ok (.iload_n 1, 1) := by decide +kernel
theorem d4_29 : decode prog_9_method_3_code 29 = .ok (.lshl, 1) := by decide +kernel
theorem d4_30 : decode prog_9_method_3_code 30 = .ok (.lor, 1) := by decide +kernel
theorem d4_31 : decode prog_9_method_3_code 31 = .ok (.lastore, 1) := by decide +kernel
theorem d4_32 : decode prog_9_method_3_code 32 = .ok (.goto 90, 3) := by decide +kernel
theorem d4_35 : decode prog_9_method_3_code 35 = .ok (.iconst 2, 1) := by decide +kernel
theorem d4_36 : decode prog_9_method_3_code 36 = .ok (.aload_n 0, 1) := by decide +kernel
theorem d4_37 : decode prog_9_method_3_code 37 = .ok (.getfield 37, 3) := by decide +kernel
theorem d4_40 : decode prog_9_method_3_code 40 = .ok (.iconst 1, 1) := by decide +kernel
theorem d4_41 : decode prog_9_method_3_code 41 = .ok (.iadd, 1) := by decide +kernel
theorem d4_42 : decode prog_9_method_3_code 42 = .ok (.imul, 1) := by decide +kernel
theorem d4_43 : decode prog_9_method_3_code 43 = .ok (.aload_n 0, 1) := by decide +kernel
theorem d4_44 : decode prog_9_method_3_code 44 = .ok (.getfield 21, 3) := by decide +kernel
theorem d4_47 : decode prog_9_method_3_code 47 = .ok (.arraylength, 1) := by decide +kernel
theorem d4_48 : decode prog_9_method_3_code 48 = .ok (.if_icmp .le 63, 3) := by decide +kernel
theorem d4_51 : decode prog_9_method_3_code 51 = .ok (.aload_n 0, 1) := by decide +kernel
theorem d4_52 : decode prog_9_method_3_code 52 = .ok (.invokevirtual 41, 3) := by decide +kernel
theorem d4_55 : decode prog_9_method_3_code 55 = .ok (.astore_n 2, 1) := by decide +kernel
theorem d4_56 : decode prog_9_method_3_code 56 = .ok (.aload_n 0, 1) := by decide +kernel
theorem d4_57 : decode prog_9_method_3_code 57 = .ok (.iconst 2, 1) := by decide +kernel
theorem d4_58 : decode prog_9_method_3_code 58 = .ok (.aload_n 0, 1) := by decide +kernel
theorem d4_59 : decode prog_9_method_3_code 59 = .ok (.getfield 21, 3) := by decide +kernel
theorem d4_62 : decode prog_9_method_3_code 62 = .ok (.arraylength, 1) := by decide +kernel
theorem d4_63 : decode prog_9_method_3_code 63 = .ok (.imul, 1) := by decide +kernel
theorem d4_64 : decode prog_9_method_3_code 64 = .ok (.invokestatic 17, 3) := by decide +kernel
theorem d4_67 : decode prog_9_method_3_code 67 = .ok (.putfield 21, 3) := by decide +kernel
theorem d4_70 : decode prog_9_method_3_code 70 = .ok (.aload_n 2, 1) := by decide +kernel
theorem d4_71 : decode prog_9_method_3_code 71 = .ok (.astore_n 3, 1) := by decide +kernel
theorem d4_72 : decode prog_9_method_3_code 72 = .ok (.aload_n 3, 1) := by decide +kernel
theorem d4_73 : decode prog_9_method_3_code 73 = .ok (.arraylength, 1) := by decide +kernel
theorem d4_74 : decode prog_9_method_3_code 74 = .ok (.istore 4, 2) := by decide +kernel
theorem d4_76 : decode prog_9_method_3_code 76 = .ok (.iconst 0, 1) := by decide +kernel
theorem d4_77 : decode prog_9_method_3_code 77 = .ok (.istore 5, 2) := by decide +kernel
theorem d4_79 : decode prog_9_method_3_code 79 = .ok (.iload 5, 2) := by decide +kernel
theorem d4_81 : decode prog_9_method_3_code 81 = .ok (.iload 4, 2) := by decide +kernel
theorem d4_83 : decode prog_9_method_3_code 83 = .ok (.if_icmp .ge 28, 3) := by decide +kernel
theorem d4_86 : decode prog_9_method_3_code 86 = .ok (.aload_n 3, 1) := by decide +kernel
theorem d4_87 : decode prog_9_method_3_code 87 = .ok (.iload 5, 2) := by decide +kernel
theorem d4_89 : decode prog_9_method_3_code 89 = .ok (.iaload, 1) := by decide +kernel
theorem d4_90 : decode prog_9_method_3_code 90 = .ok (.istore 6, 2) := by decide +kernel
theorem d4_92 : decode prog_9_method_3_code 92 = .ok (.aload_n 0, 1) := by decide +kernel
theorem d4_93 : decode prog_9_method_3_code 93 = .ok (.getfield 21, 3) := by decide +kernel
theorem d4_96 : decode prog_9_method_3_code 96 = .ok (.aload_n 0, 1) := by decide +kernel
theorem d4_97 : decode prog_9_method_3_code 97 = .ok (.iload 6, 2) := by decide +kernel
theorem d4_99 : decode prog_9_method_3_code 99 = .ok (.invokevirtual 29, 3) := by decide +kernel
theorem d4_102 : decode prog_9_method_3_code 102 = .ok (.iload 6, 2) := by decide +kernel
theorem d4_104 : decode prog_9_method_3_code 104 = .ok (.iastore, 1) := by decide +kernel
theorem d4_105 : decode prog_9_method_3_code 105 = .ok (.iinc 5 1, 3) := by decide +kernel
theorem d4_108 : decode prog_9_method_3_code 108 = .ok (.goto (-29), 3) := by decide +kernel
theorem d4_111 : decode prog_9_method_3_code 111 = .ok (.aload_n 0, 1) := by decide +kernel
theorem d4_112 : decode prog_9_method_3_code 112 = .ok (.getfield 21, 3) := by decide +kernel
theorem d4_115 : decode prog_9_method_3_code 115 = .ok (.aload_n 0, 1) := by decide +kernel
theorem d4_116 : decode prog_9_method_3_code 116 = .ok (.iload_n 1, 1) := by decide +kernel
theorem d4_117 : decode prog_9_method_3_code 117 = .ok (.invokevirtual 29, 3) := by decide +kernel
theorem d4_120 : decode prog_9_method_3_code 120 = .ok (.iload_n 1, 1) := by decide +kernel
theorem d4_121 : decode prog_9_method_3_code 121 = .ok (.iastore, 1) := by decide +kernel
theorem d4_122 : decode prog_9_method_3_code 122 = .ok (.aload_n 0, 1) := by decide +kernel
theorem d4_123 : decode prog_9_method_3_code 123 = .ok (.dup, 1) := by decide +kernel
theorem d4_124 : decode prog_9_method_3_code 124 = .ok (.getfield 37, 3) := by decide +kernel
theorem d4_127 : decode prog_9_method_3_code 127 = .ok (.iconst 1, 1) := by decide +kernel
theorem d4_128 : decode prog_9_method_3_code 128 = .ok (.iadd, 1) := by decide +kernel
theorem d4_129 : decode prog_9_method_3_code 129 = .ok (.putfield 37, 3) := by decide +kernel
theorem d4_132 : decode prog_9_method_3_code 132 = .ok (.aload_n 0, 1) := by decide +kernel
theorem d4_133 : decode prog_9_method_3_code 133 = .ok (.dup, 1) := by decide +kernel
theorem d4_134 : decode prog_9_method_3_code 134 = .ok (.getfield 45, 3) := by decide +kernel
theorem d4_137 : decode prog_9_method_3_code 137 = .ok (.iload_n 1, 1) := by decide +kernel
theorem d4_138 : decode prog_9_method_3_code 138 = .ok (.invokestatic 48, 3) := by decide +kernel
theorem d4_141 : decode prog_9_method_3_code 141 = .ok (.iadd, 1) := by decide +kernel
theorem d4_142 : decode prog_9_method_3_code 142 = .ok (.putfield 45, 3) := by decide +kernel
theorem d4_145 : decode prog_9_method_3_code 145 = .ok (.iconst 1, 1) := by decide +kernel
theorem d4_146 : decode prog_9_method_3_code 146 = .ok (.ireturn, 1) := by decide +kernel
theorem pd_4 : parseMethodDescriptor "(I)Z" = some ⟨[.int], some .boolean⟩ := by decide +kernel
theorem d7_0 : decode prog_9_method_4_code 0 = .ok (.aload_n 0, 1) := by decide +kernel
theorem d7_1 : decode prog_9_method_4_code 1 = .ok (.iconst 1, 1) := by decide +kernel
theorem d7_2 : decode prog_9_method_4_code 2 = .ok (.putfield 25, 3) := by decide +kernel
theorem d7_5 : decode prog_9_method_4_code 5 = .ok (.aload_n 0, 1) := by decide +kernel
theorem d7_6 : decode prog_9_method_4_code 6 = .ok (.aconst_null, 1) := by decide +kernel
theorem d7_7 : decode prog_9_method_4_code 7 = .ok (.putfield 13, 3) := by decide +kernel
theorem d7_10 : decode prog_9_method_4_code 10 = .ok (.aload_n 0, 1) := by decide +kernel
theorem d7_11 : decode prog_9_method_4_code 11 = .ok (.aconst_null, 1) := by decide +kernel
theorem d7_12 : decode prog_9_method_4_code 12 = .ok (.putfield 21, 3) := by decide +kernel
theorem d7_15 : decode prog_9_method_4_code 15 = .ok (.aload_n 0, 1) := by decide +kernel
theorem d7_16 : decode prog_9_method_4_code 16 = .ok (.iconst 0, 1) := by decide +kernel
theorem d7_17 : decode prog_9_method_4_code 17 = .ok (.putfield 37, 3) := by decide +kernel
theorem d7_20 : decode prog_9_method_4_code 20 = .ok (.aload_n 0, 1) := by decide +kernel
theorem d7_21 : decode prog_9_method_4_code 21 = .ok (.iconst 0, 1) := by decide +kernel
theorem d7_22 : decode prog_9_method_4_code 22 = .ok (.putfield 45, 3) := by decide +kernel
theorem d7_25 : decode prog_9_method_4_code 25 = .ok (.return_, 1) := by decide +kernel
theorem ef_rm6 (m : MethodId) (p1 : Int32) : entryFrame m #[(.int p1)] 2 = mkF m 0 #[.val (.int p1), .unset] [] := by first | (simp [entryFrame, mkF, argsToLocals, Value.category]; done) | rfl
def Q6 (Z : State) (p1 : Int32)  (h0 : Heap) (n0 : Nat) (v : Option Value) (h : Heap) (L : List Loc) : Prop := v = some (.int (own_sp p1)) ∧ Fr n0 L ∧ h = h0
set_option maxRecDepth 65536 in
set_option maxHeartbeats 40000000 in
theorem rm6 (l : Launch) (Z : State) (a0 : Array Value) (hw : ∀ d ∈ tables_1, d.before a0 Z = true) (ws : List Jvm.Cond) (p1 : Int32)  (h0 : Heap) (n0 : Nat) (Z0 : n0 ≤ h0.size)  :
    MetFree l (⟨"com/example/kinds_by_value/kindsbyvalue/Hashes", "spread", "(I)I"⟩ : MethodName) (head1 (Jvm.Cond.code (⟨"com/example/kinds_by_value/kindsbyvalue/Hashes", "spread", "(I)I"⟩ : MethodName) prog_6_method_2_code 2 (some .int) :: ws) ({ frames := 0, cells := 0, slots := 0, locals := 0 } : Room)) (fun a U => a = #[(.int p1)] ∧ Z.Warmed39 U.vm ∧ U.heap = h0) (fun _ _ _ _ _ => True) (fun _ U o U' => ∃ v L, o = .returned v ∧ Q6 Z p1  h0 n0 v U'.heap L ∧ FrameEnd U o U' L ({ frames := 0, cells := 0, slots := 0, locals := 0 } : Room).cells ({ frames := 0, cells := 0, slots := 0, locals := 0 } : Room).slots) := by
  refine MetFree.of_bodySF (plainFor_of_name pn_0) hisR ?_
  intro p e s m args below meth c s₁ Bd hml0 hP hK
  obtain ⟨rfl, hZ, hh⟩ := hP
  have hx := Bd.exec
  have hby := Bd.bytes
  have hlk : meth.locks = false := BodyLoose.notSynchronized Bd
  have hret := Bd.returns
  have hml : c.maxLocals = 2 := hml0
  have hown : s.vm.findClass "com/example/kinds_by_value/kindsbyvalue/Hashes" = some m.cls := findClass_of_methodNamed Bd.named
  have hnm := (name_of_methodNamed Bd.named Bd.method).1
  have X0 : Stand p l e ({ frames := 0, cells := 0, slots := 0, locals := 0 } : Room) s m #[(.int p1)] below meth c s₁ [] 0 0 := Stand.of_body Bd
  have e0 : s₁.heap = h0 := by rw [← hh, Bd.state]; rfl
  have N0 := Fr.nil n0
  show own_Ends p e below s 0 0 (Q6 Z p1  h0 n0) (s₁.setTop (entryFrame m #[(.int p1)] 2))
  refine own_step (fun t k => castTop (ef_rm6 m p1) k) ?_
  show own_Ends p e below s _ _ _ (s₁.setTop (mkF m 0 #[.val (.int p1), .unset] []))
  refine own_step (fun _ kc_ => XS.iloadN X0.here hx rfl (hb hby d6_0) rfl (X0.ldcI hx hown (mvT hZ (hw _ (List.mem_of_getElem? (i := 38) rfl))) rfl (hb hby d6_1) (XS.imul X0.here hx rfl (hb hby d6_3) rfl (XS.istoreN X0.here hx rfl (hb hby d6_4) rfl (l' := #[.val (.int p1), .val (.int (p1 * (-1640531527 : Int32)))]) rfl (XS.iloadN X0.here hx rfl (hb hby d6_5) rfl (XS.iloadN X0.here hx rfl (hb hby d6_6) rfl (XS.bipush X0.here hx rfl (hb hby d6_7) (XS.iushr X0.here hx rfl (hb hby d6_9) rfl kc_)))))))) ?_
  show own_Ends p e below s _ _ _ (s₁.setTop (mkF m 10 #[.val (.int p1), .val (.int (p1 * (-1640531527 : Int32)))] [(.int (((p1 * (-1640531527 : Int32)).toUInt32 >>> ((16 : Int32) &&& 31).toUInt32).toInt32)), (.int (p1 * (-1640531527 : Int32)))]))
  refine own_step (fun _ kc_ => XS.ixor X0.here hx rfl (hb hby d6_10) rfl kc_) ?_
  show own_Ends p e below s _ _ _ (s₁.setTop (mkF m 11 #[.val (.int p1), .val (.int (p1 * (-1640531527 : Int32)))] [(.int ((p1 * (-1640531527 : Int32)) ^^^ (((p1 * (-1640531527 : Int32)).toUInt32 >>> ((16 : Int32) &&& 31).toUInt32).toInt32)))]))
  exact own_retI X0 hx hret hlk (hb hby d6_11) (by decide) (by decide) ⟨rfl, N0, e0⟩
theorem ef_rm9 (m : MethodId) (ta : Addr) : entryFrame m #[(.ref ta), (.int (-1 : Int32))] 4 = mkF m 0 #[.val (.ref ta), .val (.int (-1 : Int32)), .unset, .unset] [] := by first | (simp [entryFrame, mkF, argsToLocals, Value.category]; done) | rfl
def Q9 (Z : State) (ta : Addr)  (h0 : Heap) (n0 : Nat) (v : Option Value) (h : Heap) (L : List Loc) : Prop := v = none ∧ Fr n0 L ∧ Keep h0 h [ta] ∧ own_Ar Z h ta .int [(.int (-1 : Int32)), (.int (-1 : Int32)), (.int (-1 : Int32)), (.int (-1 : Int32)), (.int (-1 : Int32)), (.int (-1 : Int32)), (.int (-1 : Int32)), (.int (-1 : Int32)), (.int (-1 : Int32)), (.int (-1 : Int32)), (.int (-1 : Int32)), (.int (-1 : Int32)), (.int (-1 : Int32)), (.int (-1 : Int32)), (.int (-1 : Int32)), (.int (-1 : Int32))]
set_option maxRecDepth 65536 in
set_option maxHeartbeats 40000000 in
theorem rm9 (l : Launch) (Z : State) (a0 : Array Value) (hw : ∀ d ∈ tables_1, d.before a0 Z = true) (ws : List Jvm.Cond) (ta : Addr)  (h0 : Heap) (n0 : Nat) (Z0 : n0 ≤ h0.size) (A0 : own_Ar Z h0 ta .int [(.int (0 : Int32)), (.int (0 : Int32)), (.int (0 : Int32)), (.int (0 : Int32)), (.int (0 : Int32)), (.int (0 : Int32)), (.int (0 : Int32)), (.int (0 : Int32)), (.int (0 : Int32)), (.int (0 : Int32)), (.int (0 : Int32)), (.int (0 : Int32)), (.int (0 : Int32)), (.int (0 : Int32)), (.int (0 : Int32)), (.int (0 : Int32))]) (g0 : n0 ≤ ta) :
    MetFree l (⟨"java/util/Arrays", "fill", "([II)V"⟩ : MethodName) (head1 (Jvm.Cond.code (⟨"java/util/Arrays", "fill", "([II)V"⟩ : MethodName) jdk_65_method_103_code 4 none :: ws) ({ frames := 0, cells := 0, slots := 0, locals := 0 } : Room)) (fun a U => a = #[(.ref ta), (.int (-1 : Int32))] ∧ Z.Warmed39 U.vm ∧ U.heap = h0) (fun _ _ _ _ _ => True) (fun _ U o U' => ∃ v L, o = .returned v ∧ Q9 Z ta  h0 n0 v U'.heap L ∧ FrameEnd U o U' L ({ frames := 0, cells := 0, slots := 0, locals := 0 } : Room).cells ({ frames := 0, cells := 0, slots := 0, locals := 0 } : Room).slots) := by
  refine MetFree.of_bodySF (plainFor_of_name pn_1) hisR ?_
  intro p e s m args below meth c s₁ Bd hml0 hP hK
  obtain ⟨rfl, hZ, hh⟩ := hP
  have hx := Bd.exec
  have hby := Bd.bytes
  have hlk : meth.locks = false := BodyLoose.notSynchronized Bd
  have hret := Bd.returns
  have hml : c.maxLocals = 4 := hml0
  have hown : s.vm.findClass "java/util/Arrays" = some m.cls := findClass_of_methodNamed Bd.named
  have hnm := (name_of_methodNamed Bd.named Bd.method).1
  have X0 : Stand p l e ({ frames := 0, cells := 0, slots := 0, locals := 0 } : Room) s m #[(.ref ta), (.int (-1 : Int32))] below meth c s₁ [] 0 0 := Stand.of_body Bd
  have e0 : s₁.heap = h0 := by rw [← hh, Bd.state]; rfl
  have N0 := Fr.nil n0
  show own_Ends p e below s 0 0 (Q9 Z ta  h0 n0) (s₁.setTop (entryFrame m #[(.ref ta), (.int (-1 : Int32))] 4))
  refine own_step (fun t k => castTop (ef_rm9 m ta) k) ?_
  show own_Ends p e below s _ _ _ (s₁.setTop (mkF m 0 #[.val (.ref ta), .val (.int (-1 : Int32)), .unset, .unset] []))
  refine own_step (fun _ kc_ => XS.iconst X0.here hx rfl (hb hby d9_0) (XS.istoreN X0.here hx rfl (hb hby d9_1) rfl (l' := #[.val (.ref ta), .val (.int (-1 : Int32)), .val (.int (0 : Int32)), .unset]) rfl (XS.aloadN X0.here hx rfl (hb hby d9_2) rfl rfl (own_alen X0 hx hZ e0 A0 (n := 16) (z := (16 : Int32)) rfl rfl (hb hby d9_3) _ (XS.istoreN X0.here hx rfl (hb hby d9_4) rfl (l' := #[.val (.ref ta), .val (.int (-1 : Int32)), .val (.int (0 : Int32)), .val (.int (16 : Int32))]) rfl (XS.iloadN X0.here hx rfl (hb hby d9_5) rfl (XS.iloadN X0.here hx rfl (hb hby d9_6) rfl (XS.icmpNo X0.here hx rfl (hb hby d9_7) rfl (XT.ii_ge_f (by decide : (0 : Int32) < (16 : Int32))) kc_)))))))) ?_
  show own_Ends p e below s _ _ _ (s₁.setTop (mkF m 10 #[.val (.ref ta), .val (.int (-1 : Int32)), .val (.int (0 : Int32)), .val (.int (16 : Int32))] []))
  refine own_step (fun _ kc_ => XS.aloadN X0.here hx rfl (hb hby d9_10) rfl rfl (XS.iloadN X0.here hx rfl (hb hby d9_11) rfl (XS.iloadN X0.here hx rfl (hb hby d9_12) rfl kc_))) ?_
  show own_Ends p e below s _ _ _ (s₁.setTop (mkF m 13 #[.val (.ref ta), .val (.int (-1 : Int32)), .val (.int (0 : Int32)), .val (.int (16 : Int32))] [(.int (-1 : Int32)), (.int (0 : Int32)), (.ref ta)]))
  obtain ⟨T1, h1, X1, e1, W1, A1, st1⟩ := own_iastore X0 hx hZ e0 A0 (j := (0 : Int32)) (x := (-1 : Int32)) (by decide) (i := 0) rfl (Nat.le_of_ble_eq_true rfl) (Ls := #[.val (.ref ta), .val (.int (-1 : Int32)), .val (.int (0 : Int32)), .val (.int (16 : Int32))]) (st := []) (hb hby d9_13)
  have A_ta_1 : own_Ar Z h1 ta .int [(.int (-1 : Int32)), (.int (0 : Int32)), (.int (0 : Int32)), (.int (0 : Int32)), (.int (0 : Int32)), (.int (0 : Int32)), (.int (0 : Int32)), (.int (0 : Int32)), (.int (0 : Int32)), (.int (0 : Int32)), (.int (0 : Int32)), (.int (0 : Int32)), (.int (0 : Int32)), (.int (0 : Int32)), (.int (0 : Int32)), (.int (0 : Int32))] := A1
  have K1 := ((Keep.refl h0 [ta])).wr W1 (Or.inl (List.mem_of_getElem? (i := 0) rfl))
  have Zs1 := Nat.le_trans Z0 (Nat.le_of_eq W1.size.symm)
  have N1 := Fr.snoc X1 N0 g0
  refine own_step (fun _ kc_ => st1 _ kc_) ?_
  show own_Ends p e below s _ _ _ (T1.setTop (mkF m 14 #[.val (.ref ta), .val (.int (-1 : Int32)), .val (.int (0 : Int32)), .val (.int (16 : Int32))] []))
  refine own_step (fun _ kc_ => XS.iinc X1.here hx rfl (hb hby d9_14) rfl (l' := #[.val (.ref ta), .val (.int (-1 : Int32)), .val (.int ((0 : Int32) + (1 : Int32))), .val (.int (16 : Int32))]) rfl kc_) ?_
  show own_Ends p e below s _ _ _ (T1.setTop (mkF m 17 #[.val (.ref ta), .val (.int (-1 : Int32)), .val (.int ((0 : Int32) + (1 : Int32))), .val (.int (16 : Int32))] []))
  rw [show ((0 : Int32) + (1 : Int32)) = (1 : Int32) from by decide]
  show own_Ends p e below s _ _ _ (T1.setTop (mkF m 17 #[.val (.ref ta), .val (.int (-1 : Int32)), .val (.int (1 : Int32)), .val (.int (16 : Int32))] []))
  refine own_step (fun _ kc_ => XS.goto X1.here hx rfl (pc0 := 17) (pc' := 5) rfl (hb hby d9_17) (by decide) (by decide) (XS.iloadN X1.here hx rfl (hb hby d9_5) rfl (XS.iloadN X1.here hx rfl (hb hby d9_6) rfl (XS.icmpNo X1.here hx rfl (hb hby d9_7) rfl (XT.ii_ge_f (by decide : (1 : Int32) < (16 : Int32))) (XS.aloadN X1.here hx rfl (hb hby d9_10) rfl rfl (XS.iloadN X1.here hx rfl (hb hby d9_11) rfl (XS.iloadN X1.here hx rfl (hb hby d9_12) rfl kc_))))))) ?_
  show own_Ends p e below s _ _ _ (T1.setTop (mkF m 13 #[.val (.ref ta), .val (.int (-1 : Int32)), .val (.int (1 : Int32)), .val (.int (16 : Int32))] [(.int (-1 : Int32)), (.int (1 : Int32)), (.ref ta)]))
  obtain ⟨T2, h2, X2, e2, W2, A2, st2⟩ := own_iastore X1 hx hZ e1 A_ta_1 (j := (1 : Int32)) (x := (-1 : Int32)) (by decide) (i := 1) rfl (Nat.le_of_ble_eq_true rfl) (Ls := #[.val (.ref ta), .val (.int (-1 : Int32)), .val (.int (1 : Int32)), .val (.int (16 : Int32))]) (st := []) (hb hby d9_13)
  have A_ta_2 : own_Ar Z h2 ta .int [(.int (-1 : Int32)), (.int (-1 : Int32)), (.int (0 : Int32)), (.int (0 : Int32)), (.int (0 : Int32)), (.int (0 : Int32)), (.int (0 : Int32)), (.int (0 : Int32)), (.int (0 : Int32)), (.int (0 : Int32)), (.int (0 : Int32)), (.int (0 : Int32)), (.int (0 : Int32)), (.int (0 : Int32)), (.int (0 : Int32)), (.int (0 : Int32))] := A2
  have K2 := (K1).wr W2 (Or.inl (List.mem_of_getElem? (i := 0) rfl))
  have Zs2 := Nat.le_trans Zs1 (Nat.le_of_eq W2.size.symm)
  have N2 := Fr.snoc X2 N1 g0
  refine own_step (fun _ kc_ => st2 _ kc_) ?_
  show own_Ends p e below s _ _ _ (T2.setTop (mkF m 14 #[.val (.ref ta), .val (.int (-1 : Int32)), .val (.int (1 : Int32)), .val (.int (16 : Int32))] []))
  refine own_step (fun _ kc_ => XS.iinc X2.here hx rfl (hb hby d9_14) rfl (l' := #[.val (.ref ta), .val (.int (-1 : Int32)), .val (.int ((1 : Int32) + (1 : Int32))), .val (.int (16 : Int32))]) rfl kc_) ?_
  show own_Ends p e below s _ _ _ (T2.setTop (mkF m 17 #[.val (.ref ta), .val (.int (-1 : Int32)), .val (.int ((1 : Int32) + (1 : Int32))), .val (.int (16 : Int32))] []))
  rw [show ((1 : Int32) + (1 : Int32)) = (2 : Int32) from by decide]
  show own_Ends p e below s _ _ _ (T2.setTop (mkF m 17 #[.val (.ref ta), .val (.int (-1 : Int32)), .val (.int (2 : Int32)), .val (.int (16 : Int32))] []))
  refine own_step (fun _ kc_ => XS.goto X2.here hx rfl (pc0 := 17) (pc' := 5) rfl (hb hby d9_17) (by decide) (by decide) (XS.iloadN X2.here hx rfl (hb hby d9_5) rfl (XS.iloadN X2.here hx rfl (hb hby d9_6) rfl (XS.icmpNo X2.here hx rfl (hb hby d9_7) rfl (XT.ii_ge_f (by decide : (2 : Int32) < (16 : Int32))) (XS.aloadN X2.here hx rfl (hb hby d9_10) rfl rfl (XS.iloadN X2.here hx rfl (hb hby d9_11) rfl (XS.iloadN X2.here hx rfl (hb hby d9_12) rfl kc_))))))) ?_
  show own_Ends p e below s _ _ _ (T2.setTop (mkF m 13 #[.val (.ref ta), .val (.int (-1 : Int32)), .val (.int (2 : Int32)), .val (.int (16 : Int32))] [(.int (-1 : Int32)), (.int (2 : Int32)), (.ref ta)]))
  obtain ⟨T3, h3, X3, e3, W3, A3, st3⟩ := own_iastore X2 hx hZ e2 A_ta_2 (j := (2 : Int32)) (x := (-1 : Int32)) (by decide) (i := 2) rfl (Nat.le_of_ble_eq_true rfl) (Ls := #[.val (.ref ta), .val (.int (-1 : Int32)), .val (.int (2 : Int32)), .val (.int (16 : Int32))]) (st := []) (hb hby d9_13)
  have A_ta_3 : own_Ar Z h3 ta .int [(.int (-1 : Int32)), (.int (-1 : Int32)), (.int (-1 : Int32)), (.int (0 : Int32)), (.int (0 : Int32)), (.int (0 : Int32)), (.int (0 : Int32)), (.int (0 : Int32)), (.int (0 : Int32)), (.int (0 : Int32)), (.int (0 : Int32)), (.int (0 : Int32)), (.int (0 : Int32)), (.int (0 : Int32)), (.int (0 : Int32)), (.int (0 : Int32))] := A3
  have K3 := (K2).wr W3 (Or.inl (List.mem_of_getElem? (i := 0) rfl))
  have Zs3 := Nat.le_trans Zs2 (Nat.le_of_eq W3.size.symm)
  have N3 := Fr.snoc X3 N2 g0
  refine own_step (fun _ kc_ => st3 _ kc_) ?_
  show own_Ends p e below s _ _ _ (T3.setTop (mkF m 14 #[.val (.ref ta), .val (.int (-1 : Int32)), .val (.int (2 : Int32)), .val (.int (16 : Int32))] []))
  refine own_step (fun _ kc_ => XS.iinc X3.here hx rfl (hb hby d9_14) rfl (l' := #[.val (.ref ta), .val (.int (-1 : Int32)), .val (.int ((2 : Int32) + (1 : Int32))), .val (.int (16 : Int32))]) rfl kc_) ?_
  show own_Ends p e below s _ _ _ (T3.setTop (mkF m 17 #[.val (.ref ta), .val (.int (-1 : Int32)), .val (.int ((2 : Int32) + (1 : Int32))), .val (.int (16 : Int32))] []))
  rw [show ((2 : Int32) + (1 : Int32)) = (3 : Int32) from by decide]
  show own_Ends p e below s _ _ _ (T3.setTop (mkF m 17 #[.val (.ref ta), .val (.int (-1 : Int32)), .val (.int (3 : Int32)), .val (.int (16 : Int32))] []))
  refine own_step (fun _ kc_ => XS.goto X3.here hx rfl (pc0 := 17) (pc' := 5) rfl (hb hby d9_17) (by decide) (by decide) (XS.iloadN X3.here hx rfl (hb hby d9_5) rfl (XS.iloadN X3.here hx rfl (hb hby d9_6) rfl (XS.icmpNo X3.here hx rfl (hb hby d9_7) rfl (XT.ii_ge_f (by decide : (3 : Int32) < (16 : Int32))) (XS.aloadN X3.here hx rfl (hb hby d9_10) rfl rfl (XS.iloadN X3.here hx rfl (hb hby d9_11) rfl (XS.iloadN X3.here hx rfl (hb hby d9_12) rfl kc_))))))) ?_
  show own_Ends p e below s _ _ _ (T3.setTop (mkF m 13 #[.val (.ref ta), .val (.int (-1 : Int32)), .val (.int (3 : Int32)), .val (.int (16 : Int32))] [(.int (-1 : Int32)), (.int (3 : Int32)), (.ref ta)]))
  obtain ⟨T4, h4, X4, e4, W4, A4, st4⟩ := own_iastore X3 hx hZ e3 A_ta_3 (j := (3 : Int32)) (x := (-1 : Int32)) (by decide) (i := 3) rfl (Nat.le_of_ble_eq_true rfl) (Ls := #[.val (.ref ta), .val (.int (-1 : Int32)), .val (.int (3 : Int32)), .val (.int (16 : Int32))]) (st := []) (hb hby d9_13)
  have A_ta_4 : own_Ar Z h4 ta .int [(.int (-1 : Int32)), (.int (-1 : Int32)), (.int (-1 : Int32)), (.int (-1 : Int32)), (.int (0 : Int32)), (.int (0 : Int32)), (.int (0 : Int32)), (.int (0 : Int32)), (.int (0 : Int32)), (.int (0 : Int32)), (.int (0 : Int32)), (.int (0 : Int32)), (.int (0 : Int32)), (.int (0 : Int32)), (.int (0 : Int32)), (.int (0 : Int32))] := A4
  have K4 := (K3).wr W4 (Or.inl (List.mem_of_getElem? (i := 0) rfl))
  have Zs4 := Nat.le_trans Zs3 (Nat.le_of_eq W4.size.symm)
  have N4 := Fr.snoc X4 N3 g0
  refine own_step (fun _ kc_ => st4 _ kc_) ?_
  show own_Ends p e below s _ _ _ (T4.setTop (mkF m 14 #[.val (.ref ta), .val (.int (-1 : Int32)), .val (.int (3 : Int32)), .val (.int (16 : Int32))] []))
  refine own_step (fun _ kc_ => XS.iinc X4.here hx rfl (hb hby d9_14) rfl (l' := #[.val (.ref ta), .val (.int (-1 : Int32)), .val (.int ((3 : Int32) + (1 : Int32))), .val (.int (16 : Int32))]) rfl kc_) ?_
  show own_Ends p e below s _ _ _ (T4.setTop (mkF m 17 #[.val (.ref ta), .val (.int (-1 : Int32)), .val (.int ((3 : Int32) + (1 : Int32))), .val (.int (16 : Int32))] []))
  rw [show ((3 : Int32) + (1 : Int32)) = (4 : Int32) from by decide]
  show own_Ends p e below s _ _ _ (T4.setTop (mkF m 17 #[.val (.ref ta), .val (.int (-1 : Int32)), .val (.int (4 : Int32)), .val (.int (16 : Int32))] []))
  refine own_step (fun _ kc_ => XS.goto X4.here hx rfl (pc0 := 17) (pc' := 5) rfl (hb hby d9_17) (by decide) (by decide) (XS.iloadN X4.here hx rfl (hb hby d9_5) rfl (XS.iloadN X4.here hx rfl (hb hby d9_6) rfl (XS.icmpNo X4.here hx rfl (hb hby d9_7) rfl (XT.ii_ge_f (by decide : (4 : Int32) < (16 : Int32))) (XS.aloadN X4.here hx rfl (hb hby d9_10) rfl rfl (XS.iloadN X4.here hx rfl (hb hby d9_11) rfl (XS.iloadN X4.here hx rfl (hb hby d9_12) rfl kc_))))))) ?_
  show own_Ends p e below s _ _ _ (T4.setTop (mkF m 13 #[.val (.ref ta), .val (.int (-1 : Int32)), .val (.int (4 : Int32)), .val (.int (16 : Int32))] [(.int (-1 : Int32)), (.int (4 : Int32)), (.ref ta)]))
  obtain ⟨T5, h5, X5, e5, W5, A5, st5⟩ := own_iastore X4 hx hZ e4 A_ta_4 (j := (4 : Int32)) (x := (-1 : Int32)) (by decide) (i := 4) rfl (Nat.le_of_ble_eq_true rfl) (Ls := #[.val (.ref ta), .val (.int (-1 : Int32)), .val (.int (4 : Int32)), .val (.int (16 : Int32))]) (st := []) (hb hby d9_13)
  have A_ta_5 : own_Ar Z h5 ta .int [(.int (-1 : Int32)), (.int (-1 : Int32)), (.int (-1 : Int32)), (.int (-1 : Int32)), (.int (-1 : Int32)), (.int (0 : Int32)), (.int (0 : Int32)), (.int (0 : Int32)), (.int (0 : Int32)), (.int (0 : Int32)), (.int (0 : Int32)), (.int (0 : Int32)), (.int (0 : Int32)), (.int (0 : Int32)), (.int (0 : Int32)), (.int (0 : Int32))] := A5
  have K5 := (K4).wr W5 (Or.inl (List.mem_of_getElem? (i := 0) rfl))
  have Zs5 := Nat.le_trans Zs4 (Nat.le_of_eq W5.size.symm)
  have N5 := Fr.snoc X5 N4 g0
  refine own_step (fun _ kc_ => st5 _ kc_) ?_
  show own_Ends p e below s _ _ _ (T5.setTop (mkF m 14 #[.val (.ref ta), .val (.int (-1 : Int32)), .val (.int (4 : Int32)), .val (.int (16 : Int32))] []))
  refine own_step (fun _ kc_ => XS.iinc X5.here hx rfl (hb hby d9_14) rfl (l' := #[.val (.ref ta), .val (.int (-1 : Int32)), .val (.int ((4 : Int32) + (1 : Int32))), .val (.int (16 : Int32))]) rfl kc_) ?_
  show own_Ends p e below s _ _ _ (T5.setTop (mkF m 17 #[.val (.ref ta), .val (.int (-1 : Int32)), .val (.int ((4 : Int32) + (1 : Int32))), .val (.int (16 : Int32))] []))
  rw [show ((4 : Int32) + (1 : Int32)) = (5 : Int32) from by decide]
  show own_Ends p e below s _ _ _ (T5.setTop (mkF m 17 #[.val (.ref ta), .val (.int (-1 : Int32)), .val (.int (5 : Int32)), .val (.int (16 : Int32))] []))
  refine own_step (fun _ kc_ => XS.goto X5.here hx rfl (pc0 := 17) (pc' := 5) rfl (hb hby d9_17) (by decide) (by decide) (XS.iloadN X5.here hx rfl (hb hby d9_5) rfl (XS.iloadN X5.here hx rfl (hb hby d9_6) rfl (XS.icmpNo X5.here hx rfl (hb hby d9_7) rfl (XT.ii_ge_f (by decide : (5 : Int32) < (16 : Int32))) (XS.aloadN X5.here hx rfl (hb hby d9_10) rfl rfl (XS.iloadN X5.here hx rfl (hb hby d9_11) rfl (XS.iloadN X5.here hx rfl (hb hby d9_12) rfl kc_))))))) ?_
  show own_Ends p e below s _ _ _ (T5.setTop (mkF m 13 #[.val (.ref ta), .val (.int (-1 : Int32)), .val (.int (5 : Int32)), .val (.int (16 : Int32))] [(.int (-1 : Int32)), (.int (5 : Int32)), (.ref ta)]))
  obtain ⟨T6, h6, X6, e6, W6, A6, st6⟩ := own_iastore X5 hx hZ e5 A_ta_5 (j := (5 : Int32)) (x := (-1 : Int32)) (by decide) (i := 5) rfl (Nat.le_of_ble_eq_true rfl) (Ls := #[.val (.ref ta), .val (.int (-1 : Int32)), .val (.int (5 : Int32)), .val (.int (16 : Int32))]) (st := []) (hb hby d9_13)
  have A_ta_6 : own_Ar Z h6 ta .int [(.int (-1 : Int32)), (.int (-1 : Int32)), (.int (-1 : Int32)), (.int (-1 : Int32)), (.int (-1 : Int32)), (.int (-1 : Int32)), (.int (0 : Int32)), (.int (0 : Int32)), (.int (0 : Int32)), (.int (0 : Int32)), (.int (0 : Int32)), (.int (0 : Int32)), (.int (0 : Int32)), (.int (0 : Int32)), (.int (0 : Int32)), (.int (0 : Int32))] := A6
  have K6 := (K5).wr W6 (Or.inl (List.mem_of_getElem? (i := 0) rfl))
  have Zs6 := Nat.le_trans Zs5 (Nat.le_of_eq W6.size.symm)
  have N6 := Fr.snoc X6 N5 g0
  refine own_step (fun _ kc_ => st6 _ kc_) ?_
  show own_Ends p e below s _ _ _ (T6.setTop (mkF m 14 #[.val (.ref ta), .val (.int (-1 : Int32)), .val (.int (5 : Int32)), .val (.int (16 : Int32))] []))
  refine own_step (fun _ kc_ => XS.iinc X6.here hx rfl (hb hby d9_14) rfl (l' := #[.val (.ref ta), .val (.int (-1 : Int32)), .val (.int ((5 : Int32) + (1 : Int32))), .val (.int (16 : Int32))]) rfl kc_) ?_
  show own_Ends p e below s _ _ _ (T6.setTop (mkF m 17 #[.val (.ref ta), .val (.int (-1 : Int32)), .val (.int ((5 : Int32) + (1 : Int32))), .val (.int (16 : Int32))] []))
  rw [show ((5 : Int32) + (1 : Int32)) = (6 : Int32) from by decide]
  show own_Ends p e below s _ _ _ (T6.setTop (mkF m 17 #[.val (.ref ta), .val (.int (-1 : Int32)), .val (.int (6 : Int32)), .val (.int (16 : Int32))] []))
  refine own_step (fun _ kc_ => XS.goto X6.here hx rfl (pc0 := 17) (pc' := 5) rfl (hb hby d9_17) (by decide) (by decide) (XS.iloadN X6.here hx rfl (hb hby d9_5) rfl (XS.iloadN X6.here hx rfl (hb hby d9_6) rfl (XS.icmpNo X6.here hx rfl (hb hby d9_7) rfl (XT.ii_ge_f (by decide : (6 : Int32) < (16 : Int32))) (XS.aloadN X6.here hx rfl (hb hby d9_10) rfl rfl (XS.iloadN X6.here hx rfl (hb hby d9_11) rfl (XS.iloadN X6.here hx rfl (hb hby d9_12) rfl kc_))))))) ?_
  show own_Ends p e below s _ _ _ (T6.setTop (mkF m 13 #[.val (.ref ta), .val (.int (-1 : Int32)), .val (.int (6 : Int32)), .val (.int (16 : Int32))] [(.int (-1 : Int32)), (.int (6 : Int32)), (.ref ta)]))
  obtain ⟨T7, h7, X7, e7, W7, A7, st7⟩ := own_iastore X6 hx hZ e6 A_ta_6 (j := (6 : Int32)) (x := (-1 : Int32)) (by decide) (i := 6) rfl (Nat.le_of_ble_eq_true rfl) (Ls := #[.val (.ref ta), .val (.int (-1 : Int32)), .val (.int (6 : Int32)), .val (.int (16 : Int32))]) (st := []) (hb hby d9_13)
  have A_ta_7 : own_Ar Z h7 ta .int [(.int (-1 : Int32)), (.int (-1 : Int32)), (.int (-1 : Int32)), (.int (-1 : Int32)), (.int (-1 : Int32)), (.int (-1 : Int32)), (.int (-1 : Int32)), (.int (0 : Int32)), (.int (0 : Int32)), (.int (0 : Int32)), (.int (0 : Int32)), (.int (0 : Int32)), (.int (0 : Int32)), (.int (0 : Int32)), (.int (0 : Int32)), (.int (0 : Int32))] := A7
  have K7 := (K6).wr W7 (Or.inl (List.mem_of_getElem? (i := 0) rfl))
  have Zs7 := Nat.le_trans Zs6 (Nat.le_of_eq W7.size.symm)
  have N7 := Fr.snoc X7 N6 g0
  refine own_step (fun _ kc_ => st7 _ kc_) ?_
  show own_Ends p e below s _ _ _ (T7.setTop (mkF m 14 #[.val (.ref ta), .val (.int (-1 : Int32)), .val (.int (6 : Int32)), .val (.int (16 : Int32))] []))
  refine own_step (fun _ kc_ => XS.iinc X7.here hx rfl (hb hby d9_14) rfl (l' := #[.val (.ref ta), .val (.int (-1 : Int32)), .val (.int ((6 : Int32) + (1 : Int32))), .val (.int (16 : Int32))]) rfl kc_) ?_
  show own_Ends p e below s _ _ _ (T7.setTop (mkF m 17 #[.val (.ref ta), .val (.int (-1 : Int32)), .val (.int ((6 : Int32) + (1 : Int32))), .val (.int (16 : Int32))] []))
  rw [show ((6 : Int32) + (1 : Int32)) = (7 : Int32) from by decide]
  show own_Ends p e below s _ _ _ (T7.setTop (mkF m 17 #[.val (.ref ta), .val (.int (-1 : Int32)), .val (.int (7 : Int32)), .val (.int (16 : Int32))] []))
  refine own_step (fun _ kc_ => XS.goto X7.here hx rfl (pc0 := 17) (pc' := 5) rfl (hb hby d9_17) (by decide) (by decide) (XS.iloadN X7.here hx rfl (hb hby d9_5) rfl (XS.iloadN X7.here hx rfl (hb hby d9_6) rfl (XS.icmpNo X7.here hx rfl (hb hby d9_7) rfl (XT.ii_ge_f (by decide : (7 : Int32) < (16 : Int32))) (XS.aloadN X7.here hx rfl (hb hby d9_10) rfl rfl (XS.iloadN X7.here hx rfl (hb hby d9_11) rfl (XS.iloadN X7.here hx rfl (hb hby d9_12) rfl kc_))))))) ?_
  show own_Ends p e below s _ _ _ (T7.setTop (mkF m 13 #[.val (.ref ta), .val (.int (-1 : Int32)), .val (.int (7 : Int32)), .val (.int (16 : Int32))] [(.int (-1 : Int32)), (.int (7 : Int32)), (.ref ta)]))
  obtain ⟨T8, h8, X8, e8, W8, A8, st8⟩ := own_iastore X7 hx hZ e7 A_ta_7 (j := (7 : Int32)) (x := (-1 : Int32)) (by decide) (i := 7) rfl (Nat.le_of_ble_eq_true rfl) (Ls := #[.val (.ref ta), .val (.int (-1 : Int32)), .val (.int (7 : Int32)), .val (.int (16 : Int32))]) (st := []) (hb hby d9_13)
  have A_ta_8 : own_Ar Z h8 ta .int [(.int (-1 : Int32)), (.int (-1 : Int32)), (.int (-1 : Int32)), (.int (-1 : Int32)), (.int (-1 : Int32)), (.int (-1 : Int32)), (.int (-1 : Int32)), (.int (-1 : Int32)), (.int (0 : Int32)), (.int (0 : Int32)), (.int (0 : Int32)), (.int (0 : Int32)), (.int (0 : Int32)), (.int (0 : Int32)), (.int (0 : Int32)), (.int (0 : Int32))] := A8
  have K8 := (K7).wr W8 (Or.inl (List.mem_of_getElem? (i := 0) rfl))
  have Zs8 := Nat.le_trans Zs7 (Nat.le_of_eq W8.size.symm)
  have N8 := Fr.snoc X8 N7 g0
  refine own_step (fun _ kc_ => st8 _ kc_) ?_
  show own_Ends p e below s _ _ _ (T8.setTop (mkF m 14 #[.val (.ref ta), .val (.int (-1 : Int32)), .val (.int (7 : Int32)), .val (.int (16 : Int32))] []))
  refine own_step (fun _ kc_ => XS.iinc X8.here hx rfl (hb hby d9_14) rfl (l' := #[.val (.ref ta), .val (.int (-1 : Int32)), .val (.int ((7 : Int32) + (1 : Int32))), .val (.int (16 : Int32))]) rfl kc_) ?_
  show own_Ends p e below s _ _ _ (T8.setTop (mkF m 17 #[.val (.ref ta), .val (.int (-1 : Int32)), .val (.int ((7 : Int32) + (1 : Int32))), .val (.int (16 : Int32))] []))
  rw [show ((7 : Int32) + (1 : Int32)) = (8 : Int32) from by decide]
  show own_Ends p e below s _ _ _ (T8.setTop (mkF m 17 #[.val (.ref ta), .val (.int (-1 : Int32)), .val (.int (8 : Int32)), .val (.int (16 : Int32))] []))
  refine own_step (fun _ kc_ => XS.goto X8.here hx rfl (pc0 := 17) (pc' := 5) rfl (hb hby d9_17) (by decide) (by decide) (XS.iloadN X8.here hx rfl (hb hby d9_5) rfl (XS.iloadN X8.here hx rfl (hb hby d9_6) rfl (XS.icmpNo X8.here hx rfl (hb hby d9_7) rfl (XT.ii_ge_f (by decide : (8 : Int32) < (16 : Int32))) (XS.aloadN X8.here hx rfl (hb hby d9_10) rfl rfl (XS.iloadN X8.here hx rfl (hb hby d9_11) rfl (XS.iloadN X8.here hx rfl (hb hby d9_12) rfl kc_))))))) ?_
  show own_Ends p e below s _ _ _ (T8.setTop (mkF m 13 #[.val (.ref ta), .val (.int (-1 : Int32)), .val (.int (8 : Int32)), .val (.int (16 : Int32))] [(.int (-1 : Int32)), (.int (8 : Int32)), (.ref ta)]))
  obtain ⟨T9, h9, X9, e9, W9, A9, st9⟩ := own_iastore X8 hx hZ e8 A_ta_8 (j := (8 : Int32)) (x := (-1 : Int32)) (by decide) (i := 8) rfl (Nat.le_of_ble_eq_true rfl) (Ls := #[.val (.ref ta), .val (.int (-1 : Int32)), .val (.int (8 : Int32)), .val (.int (16 : Int32))]) (st := []) (hb hby d9_13)
  have A_ta_9 : own_Ar Z h9 ta .int [(.int (-1 : Int32)), (.int (-1 : Int32)), (.int (-1 : Int32)), (.int (-1 : Int32)), (.int (-1 : Int32)), (.int (-1 : Int32)), (.int (-1 : Int32)), (.int (-1 : Int32)), (.int (-1 : Int32)), (.int (0 : Int32)), (.int (0 : Int32)), (.int (0 : Int32)), (.int (0 : Int32)), (.int (0 : Int32)), (.int (0 : Int32)), (.int (0 : Int32))] := A9
  have K9 := (K8).wr W9 (Or.inl (List.mem_of_getElem? (i := 0) rfl))
  have Zs9 := Nat.le_trans Zs8 (Nat.le_of_eq W9.size.symm)
  have N9 := Fr.snoc X9 N8 g0
  refine own_step (fun _ kc_ => st9 _ kc_) ?_
  show own_Ends p e below s _ _ _ (T9.setTop (mkF m 14 #[.val (.ref ta), .val (.int (-1 : Int32)), .val (.int (8 : Int32)), .val (.int (16 : Int32))] []))
  refine own_step (fun _ kc_ => XS.iinc X9.here hx rfl (hb hby d9_14) rfl (l' := #[.val (.ref ta), .val (.int (-1 : Int32)), .val (.int ((8 : Int32) + (1 : Int32))), .val (.int (16 : Int32))]) rfl kc_) ?_
  show own_Ends p e below s _ _ _ (T9.setTop (mkF m 17 #[.val (.ref ta), .val (.int (-1 : Int32)), .val (.int ((8 : Int32) + (1 : Int32))), .val (.int (16 : Int32))] []))
  rw [show ((8 : Int32) + (1 : Int32)) = (9 : Int32) from by decide]
  show own_Ends p e below s _ _ _ (T9.setTop (mkF m 17 #[.val (.ref ta), .val (.int (-1 : Int32)), .val (.int (9 : Int32)), .val (.int (16 : Int32))] []))
  refine own_step (fun _ kc_ => XS.goto X9.here hx rfl (pc0 := 17) (pc' := 5) rfl (hb hby d9_17) (by decide) (by decide) (XS.iloadN X9.here hx rfl (hb hby d9_5) rfl (XS.iloadN X9.here hx rfl (hb hby d9_6) rfl (XS.icmpNo X9.here hx rfl (hb hby d9_7) rfl (XT.ii_ge_f (by decide : (9 : Int32) < (16 : Int32))) (XS.aloadN X9.here hx rfl (hb hby d9_10) rfl rfl (XS.iloadN X9.here hx rfl (hb hby d9_11) rfl (XS.iloadN X9.here hx rfl (hb hby d9_12) rfl kc_))))))) ?_
  show own_Ends p e below s _ _ _ (T9.setTop (mkF m 13 #[.val (.ref ta), .val (.int (-1 : Int32)), .val (.int (9 : Int32)), .val (.int (16 : Int32))] [(.int (-1 : Int32)), (.int (9 : Int32)), (.ref ta)]))
  obtain ⟨T10, h10, X10, e10, W10, A10, st10⟩ := own_iastore X9 hx hZ e9 A_ta_9 (j := (9 : Int32)) (x := (-1 : Int32)) (by decide) (i := 9) rfl (Nat.le_of_ble_eq_true rfl) (Ls := #[.val (.ref ta), .val (.int (-1 : Int32)), .val (.int (9 : Int32)), .val (.int (16 : Int32))]) (st := []) (hb hby d9_13)
  have A_ta_10 : own_Ar Z h10 ta .int [(.int (-1 : Int32)), (.int (-1 : Int32)), (.int (-1 : Int32)), (.int (-1 : Int32)), (.int (-1 : Int32)), (.int (-1 : Int32)), (.int (-1 : Int32)), (.int (-1 : Int32)), (.int (-1 : Int32)), (.int (-1 : Int32)), (.int (0 : Int32)), (.int (0 : Int32)), (.int (0 : Int32)), (.int (0 : Int32)), (.int (0 : Int32)), (.int (0 : Int32))] := A10
  have K10 := (K9).wr W10 (Or.inl (List.mem_of_getElem? (i := 0) rfl))
  have Zs10 := Nat.le_trans Zs9 (Nat.le_of_eq W10.size.symm)
  have N10 := Fr.snoc X10 N9 g0
  refine own_step (fun _ kc_ => st10 _ kc_) ?_
  show own_Ends p e below s _ _ _ (T10.setTop (mkF m 14 #[.val (.ref ta), .val (.int (-1 : Int32)), .val (.int (9 : Int32)), .val (.int (16 : Int32))] []))
  refine own_step (fun _ kc_ => XS.iinc X10.here hx rfl (hb hby d9_14) rfl (l' := #[.val (.ref ta), .val (.int (-1 : Int32)), .val (.int ((9 : Int32) + (1 : Int32))), .val (.int (16 : Int32))]) rfl kc_) ?_
  show own_Ends p e below s _ _ _ (T10.setTop (mkF m 17 #[.val (.ref ta), .val (.int (-1 : Int32)), .val (.int ((9 : Int32) + (1 : Int32))), .val (.int (16 : Int32))] []))
  rw [show ((9 : Int32) + (1 : Int32)) = (10 : Int32) from by decide]
  show own_Ends p e below s _ _ _ (T10.setTop (mkF m 17 #[.val (.ref ta), .val (.int (-1 : Int32)), .val (.int (10 : Int32)), .val (.int (16 : Int32))] []))
  refine own_step (fun _ kc_ => XS.goto X10.here hx rfl (pc0 := 17) (pc' := 5) rfl (hb hby d9_17) (by decide) (by decide) (XS.iloadN X10.here hx rfl (hb hby d9_5) rfl (XS.iloadN X10.here hx rfl (hb hby d9_6) rfl (XS.icmpNo X10.here hx rfl (hb hby d9_7) rfl (XT.ii_ge_f (by decide : (10 : Int32) < (16 : Int32))) (XS.aloadN X10.here hx rfl (hb hby d9_10) rfl rfl (XS.iloadN X10.here hx rfl (hb hby d9_11) rfl (XS.iloadN X10.here hx rfl (hb hby d9_12) rfl kc_))))))) ?_
  show own_Ends p e below s _ _ _ (T10.setTop (mkF m 13 #[.val (.ref ta), .val (.int (-1 : Int32)), .val (.int (10 : Int32)), .val (.int (16 : Int32))] [(.int (-1 : Int32)), (.int (10 : Int32)), (.ref ta)]))
  obtain ⟨T11, h11, X11, e11, W11, A11, st11⟩ := own_iastore X10 hx hZ e10 A_ta_10 (j := (10 : Int32)) (x := (-1 : Int32)) (by decide) (i := 10) rfl (Nat.le_of_ble_eq_true rfl) (Ls := #[.val (.ref ta), .val (.int (-1 : Int32)), .val (.int (10 : Int32)), .val (.int (16 : Int32))]) (st := []) (hb hby d9_13)
  have A_ta_11 : own_Ar Z h11 ta .int [(.int (-1 : Int32)), (.int (-1 : Int32)), (.int (-1 : Int32)), (.int (-1 : Int32)), (.int (-1 : Int32)), (.int (-1 : Int32)), (.int (-1 : Int32)), (.int (-1 : Int32)), (.int (-1 : Int32)), (.int (-1 : Int32)), (.int (-1 : Int32)), (.int (0 : Int32)), (.int (0 : Int32)), (.int (0 : Int32)), (.int (0 : Int32)), (.int (0 : Int32))] := A11
  have K11 := (K10).wr W11 (Or.inl (List.mem_of_getElem? (i := 0) rfl))
  have Zs11 := Nat.le_trans Zs10 (Nat.le_of_eq W11.size.symm)
  have N11 := Fr.snoc X11 N10 g0
  refine own_step (fun _ kc_ => st11 _ kc_) ?_
  show own_Ends p e below s _ _ _ (T11.setTop (mkF m 14 #[.val (.ref ta), .val (.int (-1 : Int32)), .val (.int (10 : Int32)), .val (.int (16 : Int32))] []))
  refine own_step (fun _ kc_ => XS.iinc X11.here hx rfl (hb hby d9_14) rfl (l' := #[.val (.ref ta), .val (.int (-1 : Int32)), .val (.int ((10 : Int32) + (1 : Int32))), .val (.int (16 : Int32))]) rfl kc_) ?_
  show own_Ends p e below s _ _ _ (T11.setTop (mkF m 17 #[.val (.ref ta), .val (.int (-1 : Int32)), .val (.int ((10 : Int32) + (1 : Int32))), .val (.int (16 : Int32))] []))
  rw [show ((10 : Int32) + (1 : Int32)) = (11 : Int32) from by decide]
  show own_Ends p e below s _ _ _ (T11.setTop (mkF m 17 #[.val (.ref ta), .val (.int (-1 : Int32)), .val (.int (11 : Int32)), .val (.int (16 : Int32))] []))
  refine own_step (fun _ kc_ => XS.goto X11.here hx rfl (pc0 := 17) (pc' := 5) rfl (hb hby d9_17) (by decide) (by decide) (XS.iloadN X11.here hx rfl (hb hby d9_5) rfl (XS.iloadN X11.here hx rfl (hb hby d9_6) rfl (XS.icmpNo X11.here hx rfl (hb hby d9_7) rfl (XT.ii_ge_f (by decide : (11 : Int32) < (16 : Int32))) (XS.aloadN X11.here hx rfl (hb hby d9_10) rfl rfl (XS.iloadN X11.here hx rfl (hb hby d9_11) rfl (XS.iloadN X11.here hx rfl (hb hby d9_12) rfl kc_))))))) ?_
  show own_Ends p e below s _ _ _ (T11.setTop (mkF m 13 #[.val (.ref ta), .val (.int (-1 : Int32)), .val (.int (11 : Int32)), .val (.int (16 : Int32))] [(.int (-1 : Int32)), (.int (11 : Int32)), (.ref ta)]))
  obtain ⟨T12, h12, X12, e12, W12, A12, st12⟩ := own_iastore X11 hx hZ e11 A_ta_11 (j := (11 : Int32)) (x := (-1 : Int32)) (by decide) (i := 11) rfl (Nat.le_of_ble_eq_true rfl) (Ls := #[.val (.ref ta), .val (.int (-1 : Int32)), .val (.int (11 : Int32)), .val (.int (16 : Int32))]) (st := []) (hb hby d9_13)
  have A_ta_12 : own_Ar Z h12 ta .int [(.int (-1 : Int32)), (.int (-1 : Int32)), (.int (-1 : Int32)), (.int (-1 : Int32)), (.int (-1 : Int32)), (.int (-1 : Int32)), (.int (-1 : Int32)), (.int (-1 : Int32)), (.int (-1 : Int32)), (.int (-1 : Int32)), (.int (-1 : Int32)), (.int (-1 : Int32)), (.int (0 : Int32)), (.int (0 : Int32)), (.int (0 : Int32)), (.int (0 : Int32))] := A12
  have K12 := (K11).wr W12 (Or.inl (List.mem_of_getElem? (i := 0) rfl))
  have Zs12 := Nat.le_trans Zs11 (Nat.le_of_eq W12.size.symm)
  have N12 := Fr.snoc X12 N11 g0
  refine own_step (fun _ kc_ => st12 _ kc_) ?_
  show own_Ends p e below s _ _ _ (T12.setTop (mkF m 14 #[.val (.ref ta), .val (.int (-1 : Int32)), .val (.int (11 : Int32)), .val (.int (16 : Int32))] []))
  refine own_step (fun _ kc_ => XS.iinc X12.here hx rfl (hb hby d9_14) rfl (l' := #[.val (.ref ta), .val (.int (-1 : Int32)), .val (.int ((11 : Int32) + (1 : Int32))), .val (.int (16 : Int32))]) rfl kc_) ?_
  show own_Ends p e below s _ _ _ (T12.setTop (mkF m 17 #[.val (.ref ta), .val (.int (-1 : Int32)), .val (.int ((11 : Int32) + (1 : Int32))), .val (.int (16 : Int32))] []))
  rw [show ((11 : Int32) + (1 : Int32)) = (12 : Int32) from by decide]
  show own_Ends p e below s _ _ _ (T12.setTop (mkF m 17 #[.val (.ref ta), .val (.int (-1 : Int32)), .val (.int (12 : Int32)), .val (.int (16 : Int32))] []))
  refine own_step (fun _ kc_ => XS.goto X12.here hx rfl (pc0 := 17) (pc' := 5) rfl (hb hby d9_17) (by decide) (by decide) (XS.iloadN X12.here hx rfl (hb hby d9_5) rfl (XS.iloadN X12.here hx rfl (hb hby d9_6) rfl (XS.icmpNo X12.here hx rfl (hb hby d9_7) rfl (XT.ii_ge_f (by decide : (12 : Int32) < (16 : Int32))) (XS.aloadN X12.here hx rfl (hb hby d9_10) rfl rfl (XS.iloadN X12.here hx rfl (hb hby d9_11) rfl (XS.iloadN X12.here hx rfl (hb hby d9_12) rfl kc_))))))) ?_
  show own_Ends p e below s _ _ _ (T12.setTop (mkF m 13 #[.val (.ref ta), .val (.int (-1 : Int32)), .val (.int (12 : Int32)), .val (.int (16 : Int32))] [(.int (-1 : Int32)), (.int (12 : Int32)), (.ref ta)]))
  obtain ⟨T13, h13, X13, e13, W13, A13, st13⟩ := own_iastore X12 hx hZ e12 A_ta_12 (j := (12 : Int32)) (x := (-1 : Int32)) (by decide) (i := 12) rfl (Nat.le_of_ble_eq_true rfl) (Ls := #[.val (.ref ta), .val (.int (-1 : Int32)), .val (.int (12 : Int32)), .val (.int (16 : Int32))]) (st := []) (hb hby d9_13)
  have A_ta_13 : own_Ar Z h13 ta .int [(.int (-1 : Int32)), (.int (-1 : Int32)), (.int (-1 : Int32)), (.int (-1 : Int32)), (.int (-1 : Int32)), (.int (-1 : Int32)), (.int (-1 : Int32)), (.int (-1 : Int32)), (.int (-1 : Int32)), (.int (-1 : Int32)), (.int (-1 : Int32)), (.int (-1 : Int32)), (.int (-1 : Int32)), (.int (0 : Int32)), (.int (0 : Int32)), (.int (0 : Int32))] := A13
  have K13 := (K12).wr W13 (Or.inl (List.mem_of_getElem? (i := 0) rfl))
  have Zs13 := Nat.le_trans Zs12 (Nat.le_of_eq W13.size.symm)
  have N13 := Fr.snoc X13 N12 g0
  refine own_step (fun _ kc_ => st13 _ kc_) ?_
  show own_Ends p e below s _ _ _ (T13.setTop (mkF m 14 #[.val (.ref ta), .val (.int (-1 : Int32)), .val (.int (12 : Int32)), .val (.int (16 : Int32))] []))
  refine own_step (fun _ kc_ => XS.iinc X13.here hx rfl (hb hby d9_14) rfl (l' := #[.val (.ref ta), .val (.int (-1 : Int32)), .val (.int ((12 : Int32) + (1 : Int32))), .val (.int (16 : Int32))]) rfl kc_) ?_
  show own_Ends p e below s _ _ _ (T13.setTop (mkF m 17 #[.val (.ref ta), .val (.int (-1 : Int32)), .val (.int ((12 : Int32) + (1 : Int32))), .val (.int (16 : Int32))] []))
  rw [show ((12 : Int32) + (1 : Int32)) = (13 : Int32) from by decide]
  show own_Ends p e below s _ _ _ (T13.setTop (mkF m 17 #[.val (.ref ta), .val (.int (-1 : Int32)), .val (.int (13 : Int32)), .val (.int (16 : Int32))] []))
  refine own_step (fun _ kc_ => XS.goto X13.here hx rfl (pc0 := 17) (pc' := 5) rfl (hb hby d9_17) (by decide) (by decide) (XS.iloadN X13.here hx rfl (hb hby d9_5) rfl (XS.iloadN X13.here hx rfl (hb hby d9_6) rfl (XS.icmpNo X13.here hx rfl (hb hby d9_7) rfl (XT.ii_ge_f (by decide : (13 : Int32) < (16 : Int32))) (XS.aloadN X13.here hx rfl (hb hby d9_10) rfl rfl (XS.iloadN X13.here hx rfl (hb hby d9_11) rfl (XS.iloadN X13.here hx rfl (hb hby d9_12) rfl kc_))))))) ?_
  show own_Ends p e below s _ _ _ (T13.setTop (mkF m 13 #[.val (.ref ta), .val (.int (-1 : Int32)), .val (.int (13 : Int32)), .val (.int (16 : Int32))] [(.int (-1 : Int32)), (.int (13 : Int32)), (.ref ta)]))
  obtain ⟨T14, h14, X14, e14, W14, A14, st14⟩ := own_iastore X13 hx hZ e13 A_ta_13 (j := (13 : Int32)) (x := (-1 : Int32)) (by decide) (i := 13) rfl (Nat.le_of_ble_eq_true rfl) (Ls := #[.val (.ref ta), .val (.int (-1 : Int32)), .val (.int (13 : Int32)), .val (.int (16 : Int32))]) (st := []) (hb hby d9_13)
  have A_ta_14 : own_Ar Z h14 ta .int [(.int (-1 : Int32)), (.int (-1 : Int32)), (.int (-1 : Int32)), (.int (-1 : Int32)), (.int (-1 : Int32)), (.int (-1 : Int32)), (.int (-1 : Int32)), (.int (-1 : Int32)), (.int (-1 : Int32)), (.int (-1 : Int32)), (.int (-1 : Int32)), (.int (-1 : Int32)), (.int (-1 : Int32)), (.int (-1 : Int32)), (.int (0 : Int32)), (.int (0 : Int32))] := A14
  have K14 := (K13).wr W14 (Or.inl (List.mem_of_getElem? (i := 0) rfl))
  have Zs14 := Nat.le_trans Zs13 (Nat.le_of_eq W14.size.symm)
  have N14 := Fr.snoc X14 N13 g0
  refine own_step (fun _ kc_ => st14 _ kc_) ?_
  show own_Ends p e below s _ _ _ (T14.setTop (mkF m 14 #[.val (.ref ta), .val (.int (-1 : Int32)), .val (.int (13 : Int32)), .val (.int (16 : Int32))] []))
  refine own_step (fun _ kc_ => XS.iinc X14.here hx rfl (hb hby d9_14) rfl (l' := #[.val (.ref ta), .val (.int (-1 : Int32)), .val (.int ((13 : Int32) + (1 : Int32))), .val (.int (16 : Int32))]) rfl kc_) ?_
  show own_Ends p e below s _ _ _ (T14.setTop (mkF m 17 #[.val (.ref ta), .val (.int (-1 : Int32)), .val (.int ((13 : Int32) + (1 : Int32))), .val (.int (16 : Int32))] []))
  rw [show ((13 : Int32) + (1 : Int32)) = (14 : Int32) from by decide]
  show own_Ends p e below s _ _ _ (T14.setTop (mkF m 17 #[.val (.ref ta), .val (.int (-1 : Int32)), .val (.int (14 : Int32)), .val (.int (16 : Int32))] []))
  refine own_step (fun _ kc_ => XS.goto X14.here hx rfl (pc0 := 17) (pc' := 5) rfl (hb hby d9_17) (by decide) (by decide) (XS.iloadN X14.here hx rfl (hb hby d9_5) rfl (XS.iloadN X14.here hx rfl (hb hby d9_6) rfl (XS.icmpNo X14.here hx rfl (hb hby d9_7) rfl (XT.ii_ge_f (by decide : (14 : Int32) < (16 : Int32))) (XS.aloadN X14.here hx rfl (hb hby d9_10) rfl rfl (XS.iloadN X14.here hx rfl (hb hby d9_11) rfl (XS.iloadN X14.here hx rfl (hb hby d9_12) rfl kc_))))))) ?_
  show own_Ends p e below s _ _ _ (T14.setTop (mkF m 13 #[.val (.ref ta), .val (.int (-1 : Int32)), .val (.int (14 : Int32)), .val (.int (16 : Int32))] [(.int (-1 : Int32)), (.int (14 : Int32)), (.ref ta)]))
  obtain ⟨T15, h15, X15, e15, W15, A15, st15⟩ := own_iastore X14 hx hZ e14 A_ta_14 (j := (14 : Int32)) (x := (-1 : Int32)) (by decide) (i := 14) rfl (Nat.le_of_ble_eq_true rfl) (Ls := #[.val (.ref ta), .val (.int (-1 : Int32)), .val (.int (14 : Int32)), .val (.int (16 : Int32))]) (st := []) (hb hby d9_13)
  have A_ta_15 : own_Ar Z h15 ta .int [(.int (-1 : Int32)), (.int (-1 : Int32)), (.int (-1 : Int32)), (.int (-1 : Int32)), (.int (-1 : Int32)), (.int (-1 : Int32)), (.int (-1 : Int32)), (.int (-1 : Int32)), (.int (-1 : Int32)), (.int (-1 : Int32)), (.int (-1 : Int32)), (.int (-1 : Int32)), (.int (-1 : Int32)), (.int (-1 : Int32)), (.int (-1 : Int32)), (.int (0 : Int32))] := A15
  have K15 := (K14).wr W15 (Or.inl (List.mem_of_getElem? (i := 0) rfl))
  have Zs15 := Nat.le_trans Zs14 (Nat.le_of_eq W15.size.symm)
  have N15 := Fr.snoc X15 N14 g0
  refine own_step (fun _ kc_ => st15 _ kc_) ?_
  show own_Ends p e below s _ _ _ (T15.setTop (mkF m 14 #[.val (.ref ta), .val (.int (-1 : Int32)), .val (.int (14 : Int32)), .val (.int (16 : Int32))] []))
  refine own_step (fun _ kc_ => XS.iinc X15.here hx rfl (hb hby d9_14) rfl (l' := #[.val (.ref ta), .val (.int (-1 : Int32)), .val (.int ((14 : Int32) + (1 : Int32))), .val (.int (16 : Int32))]) rfl kc_) ?_
  show own_Ends p e below s _ _ _ (T15.setTop (mkF m 17 #[.val (.ref ta), .val (.int (-1 : Int32)), .val (.int ((14 : Int32) + (1 : Int32))), .val (.int (16 : Int32))] []))
  rw [show ((14 : Int32) + (1 : Int32)) = (15 : Int32) from by decide]
  show own_Ends p e below s _ _ _ (T15.setTop (mkF m 17 #[.val (.ref ta), .val (.int (-1 : Int32)), .val (.int (15 : Int32)), .val (.int (16 : Int32))] []))
  refine own_step (fun _ kc_ => XS.goto X15.here hx rfl (pc0 := 17) (pc' := 5) rfl (hb hby d9_17) (by decide) (by decide) (XS.iloadN X15.here hx rfl (hb hby d9_5) rfl (XS.iloadN X15.here hx rfl (hb hby d9_6) rfl (XS.icmpNo X15.here hx rfl (hb hby d9_7) rfl (XT.ii_ge_f (by decide : (15 : Int32) < (16 : Int32))) (XS.aloadN X15.here hx rfl (hb hby d9_10) rfl rfl (XS.iloadN X15.here hx rfl (hb hby d9_11) rfl (XS.iloadN X15.here hx rfl (hb hby d9_12) rfl kc_))))))) ?_
  show own_Ends p e below s _ _ _ (T15.setTop (mkF m 13 #[.val (.ref ta), .val (.int (-1 : Int32)), .val (.int (15 : Int32)), .val (.int (16 : Int32))] [(.int (-1 : Int32)), (.int (15 : Int32)), (.ref ta)]))
  obtain ⟨T16, h16, X16, e16, W16, A16, st16⟩ := own_iastore X15 hx hZ e15 A_ta_15 (j := (15 : Int32)) (x := (-1 : Int32)) (by decide) (i := 15) rfl (Nat.le_of_ble_eq_true rfl) (Ls := #[.val (.ref ta), .val (.int (-1 : Int32)), .val (.int (15 : Int32)), .val (.int (16 : Int32))]) (st := []) (hb hby d9_13)
  have A_ta_16 : own_Ar Z h16 ta .int [(.int (-1 : Int32)), (.int (-1 : Int32)), (.int (-1 : Int32)), (.int (-1 : Int32)), (.int (-1 : Int32)), (.int (-1 : Int32)), (.int (-1 : Int32)), (.int (-1 : Int32)), (.int (-1 : Int32)), (.int (-1 : Int32)), (.int (-1 : Int32)), (.int (-1 : Int32)), (.int (-1 : Int32)), (.int (-1 : Int32)), (.int (-1 : Int32)), (.int (-1 : Int32))] := A16
  have K16 := (K15).wr W16 (Or.inl (List.mem_of_getElem? (i := 0) rfl))
  have Zs16 := Nat.le_trans Zs15 (Nat.le_of_eq W16.size.symm)
  have N16 := Fr.snoc X16 N15 g0
  refine own_step (fun _ kc_ => st16 _ kc_) ?_
  show own_Ends p e below s _ _ _ (T16.setTop (mkF m 14 #[.val (.ref ta), .val (.int (-1 : Int32)), .val (.int (15 : Int32)), .val (.int (16 : Int32))] []))
  refine own_step (fun _ kc_ => XS.iinc X16.here hx rfl (hb hby d9_14) rfl (l' := #[.val (.ref ta), .val (.int (-1 : Int32)), .val (.int ((15 : Int32) + (1 : Int32))), .val (.int (16 : Int32))]) rfl kc_) ?_
  show own_Ends p e below s _ _ _ (T16.setTop (mkF m 17 #[.val (.ref ta), .val (.int (-1 : Int32)), .val (.int ((15 : Int32) + (1 : Int32))), .val (.int (16 : Int32))] []))
  rw [show ((15 : Int32) + (1 : Int32)) = (16 : Int32) from by decide]
  show own_Ends p e below s _ _ _ (T16.setTop (mkF m 17 #[.val (.ref ta), .val (.int (-1 : Int32)), .val (.int (16 : Int32)), .val (.int (16 : Int32))] []))
  refine own_step (fun _ kc_ => XS.goto X16.here hx rfl (pc0 := 17) (pc' := 5) rfl (hb hby d9_17) (by decide) (by decide) (XS.iloadN X16.here hx rfl (hb hby d9_5) rfl (XS.iloadN X16.here hx rfl (hb hby d9_6) rfl (XS.icmpYes X16.here hx rfl (pc0 := 7) (pc' := 20) rfl (hb hby d9_7) rfl (XT.ii_ge_t (by decide : ¬ ((16 : Int32) < (16 : Int32)))) (by decide) (by decide) kc_)))) ?_
  show own_Ends p e below s _ _ _ (T16.setTop (mkF m 20 #[.val (.ref ta), .val (.int (-1 : Int32)), .val (.int (16 : Int32)), .val (.int (16 : Int32))] []))
  exact own_retV X16 hx hret hlk (hb hby d9_20) (by decide) (by decide) (by rw [e16]; exact ⟨rfl, N16, K16, A_ta_16⟩)
theorem ef_rm8 (m : MethodId)  : entryFrame m #[(.int (16 : Int32))] 2 = mkF m 0 #[.val (.int (16 : Int32)), .unset] [] := by first | (simp [entryFrame, mkF, argsToLocals, Value.category]; done) | rfl
def Q8 (Z : State)   (h0 : Heap) (n0 : Nat) (v : Option Value) (h : Heap) (L : List Loc) : Prop := Fr n0 L ∧ Keep h0 h [] ∧ ∃ ta, v = some (.ref ta) ∧ h0.size ≤ ta ∧ own_Ar Z h ta .int [(.int (-1 : Int32)), (.int (-1 : Int32)), (.int (-1 : Int32)), (.int (-1 : Int32)), (.int (-1 : Int32)), (.int (-1 : Int32)), (.int (-1 : Int32)), (.int (-1 : Int32)), (.int (-1 : Int32)), (.int (-1 : Int32)), (.int (-1 : Int32)), (.int (-1 : Int32)), (.int (-1 : Int32)), (.int (-1 : Int32)), (.int (-1 : Int32)), (.int (-1 : Int32))]
set_option maxRecDepth 65536 in
set_option maxHeartbeats 40000000 in
theorem rm8 (l : Launch) (Z : State) (a0 : Array Value) (hw : ∀ d ∈ tables_1, d.before a0 Z = true) (ws : List Jvm.Cond)   (h0 : Heap) (n0 : Nat) (Z0 : n0 ≤ h0.size)  :
    MetFree l (⟨"com/example/kinds_by_value/kindsbyvalue/NameSet", "newTable", "(I)[I"⟩ : MethodName) (head1 (Jvm.Cond.code (⟨"com/example/kinds_by_value/kindsbyvalue/NameSet", "newTable", "(I)[I"⟩ : MethodName) prog_9_method_11_code 2 (some (.array .int)) :: ws) ({ frames := 1, cells := 1, slots := 16, locals := 15 } : Room)) (fun a U => a = #[(.int (16 : Int32))] ∧ Z.Warmed39 U.vm ∧ U.heap = h0) (fun _ _ _ _ _ => True) (fun _ U o U' => ∃ v L, o = .returned v ∧ Q8 Z   h0 n0 v U'.heap L ∧ FrameEnd U o U' L ({ frames := 1, cells := 1, slots := 16, locals := 15 } : Room).cells ({ frames := 1, cells := 1, slots := 16, locals := 15 } : Room).slots) := by
  refine MetFree.of_bodySF (plainFor_of_name pn_2) hisR ?_
  intro p e s m args below meth c s₁ Bd hml0 hP hK
  obtain ⟨rfl, hZ, hh⟩ := hP
  have hx := Bd.exec
  have hby := Bd.bytes
  have hlk : meth.locks = false := BodyLoose.notSynchronized Bd
  have hret := Bd.returns
  have hml : c.maxLocals = 2 := hml0
  have hown : s.vm.findClass "com/example/kinds_by_value/kindsbyvalue/NameSet" = some m.cls := findClass_of_methodNamed Bd.named
  have hnm := (name_of_methodNamed Bd.named Bd.method).1
  have X0 : Stand p l e ({ frames := 1, cells := 1, slots := 16, locals := 15 } : Room) s m #[(.int (16 : Int32))] below meth c s₁ [] 0 0 := Stand.of_body Bd
  have e0 : s₁.heap = h0 := by rw [← hh, Bd.state]; rfl
  have N0 := Fr.nil n0
  show own_Ends p e below s 1 16 (Q8 Z   h0 n0) (s₁.setTop (entryFrame m #[(.int (16 : Int32))] 2))
  refine own_step (fun t k => castTop (ef_rm8 m ) k) ?_
  show own_Ends p e below s _ _ _ (s₁.setTop (mkF m 0 #[.val (.int (16 : Int32)), .unset] []))
  refine own_step (fun _ kc_ => XS.iloadN X0.here hx rfl (hb hby d8_0) rfl kc_) ?_
  show own_Ends p e below s _ _ _ (s₁.setTop (mkF m 1 #[.val (.int (16 : Int32)), .unset] [(.int (16 : Int32))]))
  obtain ⟨T17, h17, k17, X17, e17, E17, A17, st17⟩ := newP X0 hx hZ (hw _ (List.mem_of_getElem? (i := 51) rfl)) e0 (g := (mkF m 1 #[.val (.int (16 : Int32)), .unset] [(.int (16 : Int32))])) rfl (hb hby d8_1) rfl (by decide) (cap := 16) (by decide) (by decide) (by decide : 0 + 1 ≤ _) (by decide : 0 + 16 ≤ _)
  obtain ⟨b17, g17⟩ : ∃ z, z = h0.size := ⟨_, rfl⟩
  rw [← g17] at A17 st17
  have n0_b17 : n0 ≤ b17 := Nat.le_trans Z0 (Nat.le_of_eq g17.symm)
  have h0_b17 : h0.size ≤ b17 := Nat.le_trans ((Keep.refl h0 [])).1 (Nat.le_of_eq g17.symm)
  have K17 := ((Keep.refl h0 [])).ext E17
  have Zs17 := Nat.le_trans Z0 E17.1
  have A_b17 : own_Ar Z h17 b17 .int [(.int (0 : Int32)), (.int (0 : Int32)), (.int (0 : Int32)), (.int (0 : Int32)), (.int (0 : Int32)), (.int (0 : Int32)), (.int (0 : Int32)), (.int (0 : Int32)), (.int (0 : Int32)), (.int (0 : Int32)), (.int (0 : Int32)), (.int (0 : Int32)), (.int (0 : Int32)), (.int (0 : Int32)), (.int (0 : Int32)), (.int (0 : Int32))] := own_Ar.new A17 (by decide)
  refine own_step (fun _ kc_ => st17 _ kc_) ?_
  show own_Ends p e below s _ _ _ (T17.setTop (mkF m 3 #[.val (.int (16 : Int32)), .unset] [(.ref b17)]))
  refine own_step (fun _ kc_ => XS.astoreN X17.here hx rfl (hb hby d8_3) rfl rfl (l' := #[.val (.int (16 : Int32)), .val (.ref b17)]) rfl (XS.aloadN X17.here hx rfl (hb hby d8_4) rfl rfl (XS.iconst X17.here hx rfl (hb hby d8_5) kc_))) ?_
  show own_Ends p e below s _ _ _ (T17.setTop (mkF m 6 #[.val (.int (16 : Int32)), .val (.ref b17)] [(.int (-1 : Int32)), (.ref b17)]))
  obtain ⟨_, _, ⟨T18, L18, k18, n18⟩, -, X18, ⟨Lc18, hQ18, l18, y18, z18⟩, st18⟩ := Jvm.LawKit.callS X17 hx (y := (⟨"java/util/Arrays", "fill", "([II)V"⟩ : MethodName)) hown (mvT hZ (hw _ (List.mem_of_getElem? (i := 52) rfl))) (mvT hZ (hw _ (List.mem_of_getElem? (i := 53) rfl))) (mvT hZ (hw _ (List.mem_of_getElem? (i := 54) rfl))) (mvT hZ (hw _ (List.mem_of_getElem? (i := 55) rfl))) (by decide) (backOf (W := 0) (rm9 l Z a0 hw [] b17  h17 n0 Zs17 A_b17 n0_b17) hZ (hw _ (List.mem_of_getElem? (i := 55) rfl)) (hw _ (List.mem_of_getElem? (i := 54) rfl)) (by decide) (by decide)) (g := (mkF m 6 #[.val (.int (16 : Int32)), .val (.ref b17)] [(.int (-1 : Int32)), (.ref b17)])) rfl (by rw [hml]; rfl) (argsL := [(.ref b17), (.int (-1 : Int32))]) (rest := []) (lenOf pd_0 rfl) rfl (by show 2 * 0 + _ ≤ _; exact Nat.le_of_eq rfl) (hb hby d8_6) (fun _ _ => ⟨rfl, e17, (by decide : 1 + 0 ≤ _), (by decide : 16 + 0 ≤ _)⟩)
  dsimp only [Pt.U, Pt.locs, Pt.cells, Pt.slots] at X18 l18 y18 z18 st18 hQ18
  subst l18 y18 z18
  obtain ⟨rfl, N18q, K18k, A18k⟩ := hQ18
  have K18 := (K17).trans K18k (allS (Or.inr h0_b17) all0)
  have Zs18 := Nat.le_trans Zs17 K18k.1
  have N18 := Fr.app N0 N18q
  refine own_step (fun _ kc_ => st18 _ kc_) ?_
  show own_Ends p e below s _ _ _ (T18.setTop (mkF m 9 #[.val (.int (16 : Int32)), .val (.ref b17)] []))
  refine own_step (fun _ kc_ => XS.aloadN X18.here hx rfl (hb hby d8_9) rfl rfl kc_) ?_
  show own_Ends p e below s _ _ _ (T18.setTop (mkF m 10 #[.val (.int (16 : Int32)), .val (.ref b17)] [(.ref b17)]))
  exact own_retR X18 hx hret rfl rfl rfl hlk (hb hby d8_10) (by decide) (by decide) (by exact ⟨N18, K18, b17, rfl, h0_b17, A18k⟩)
theorem ef_rmIT (m : MethodId) (oo : Addr) (nc : Int32) : entryFrame m #[(.ref oo), (.int nc)] 2 = mkF m 0 #[.val (.ref oo), .val (.int nc)] [] := by first | (simp [entryFrame, mkF, argsToLocals, Value.category]; done) | rfl
def QIT (Z : State) (oo : Addr) (nc : Int32)  (h0 : Heap) (n0 : Nat) (v : Option Value) (h : Heap) (L : List Loc) : Prop := v = none ∧ Fr n0 L ∧ Keep h0 h [oo] ∧ Fld Z h oo "com/example/kinds_by_value/kindsbyvalue/NameSet" "everyName" "Z" (.int (0 : Int32)) ∧ Fld Z h oo "com/example/kinds_by_value/kindsbyvalue/NameSet" "size" "I" (.int (0 : Int32)) ∧ Fld Z h oo "com/example/kinds_by_value/kindsbyvalue/NameSet" "hash" "I" (.int (0 : Int32)) ∧ ∃ ta, h0.size ≤ ta ∧ oo ≠ ta ∧ Fld Z h oo "com/example/kinds_by_value/kindsbyvalue/NameSet" "bits" "[J" .null ∧ Fld Z h oo "com/example/kinds_by_value/kindsbyvalue/NameSet" "table" "[I" (.ref ta) ∧ own_Ar Z h ta .int ((List.replicate 16 (-1 : Int32)).map Value.int)
set_option maxRecDepth 65536 in
set_option maxHeartbeats 40000000 in
theorem rmIT (l : Launch) (Z : State) (a0 : Array Value) (hw : ∀ d ∈ tables_1, d.before a0 Z = true) (ws : List Jvm.Cond) (oo : Addr) (nc : Int32)  (h0 : Heap) (n0 : Nat) (Z0 : n0 ≤ h0.size) (E0 : Exa Z h0 oo "com/example/kinds_by_value/kindsbyvalue/NameSet") (f0 : Fld Z h0 oo "com/example/kinds_by_value/kindsbyvalue/NameSet" "everyName" "Z" (.int (0 : Int32))) (f1 : Fld Z h0 oo "com/example/kinds_by_value/kindsbyvalue/NameSet" "bits" "[J" .null) (f2 : Fld Z h0 oo "com/example/kinds_by_value/kindsbyvalue/NameSet" "table" "[I" .null) (f3 : Fld Z h0 oo "com/example/kinds_by_value/kindsbyvalue/NameSet" "size" "I" (.int (0 : Int32))) (f4 : Fld Z h0 oo "com/example/kinds_by_value/kindsbyvalue/NameSet" "hash" "I" (.int (0 : Int32))) (g0 : n0 ≤ oo) (hn : (512 : Int32) < nc) :
    MetFree l (⟨"com/example/kinds_by_value/kindsbyvalue/NameSet", "<init>", "(I)V"⟩ : MethodName) (head1 (Jvm.Cond.code (⟨"com/example/kinds_by_value/kindsbyvalue/NameSet", "<init>", "(I)V"⟩ : MethodName) prog_9_method_1_code 2 none :: ws) ({ frames := 2, cells := 1, slots := 16, locals := 29 } : Room)) (fun a U => a = #[(.ref oo), (.int nc)] ∧ Z.Warmed39 U.vm ∧ U.heap = h0) (fun _ _ _ _ _ => True) (fun _ U o U' => ∃ v L, o = .returned v ∧ QIT Z oo nc  h0 n0 v U'.heap L ∧ FrameEnd U o U' L ({ frames := 2, cells := 1, slots := 16, locals := 29 } : Room).cells ({ frames := 2, cells := 1, slots := 16, locals := 29 } : Room).slots) := by
  refine MetFree.of_bodySF (plainFor_of_name pn_2) hisR ?_
  intro p e s m args below meth c s₁ Bd hml0 hP hK
  obtain ⟨rfl, hZ, hh⟩ := hP
  have hx := Bd.exec
  have hby := Bd.bytes
  have hlk : meth.locks = false := BodyLoose.notSynchronized Bd
  have hret := Bd.returns
  have hml : c.maxLocals = 2 := hml0
  have hown : s.vm.findClass "com/example/kinds_by_value/kindsbyvalue/NameSet" = some m.cls := findClass_of_methodNamed Bd.named
  have hnm := (name_of_methodNamed Bd.named Bd.method).1
  have X0 : Stand p l e ({ frames := 2, cells := 1, slots := 16, locals := 29 } : Room) s m #[(.ref oo), (.int nc)] below meth c s₁ [] 0 0 := Stand.of_body Bd
  have e0 : s₁.heap = h0 := by rw [← hh, Bd.state]; rfl
  have N0 := Fr.nil n0
  show own_Ends p e below s 1 16 (QIT Z oo nc  h0 n0) (s₁.setTop (entryFrame m #[(.ref oo), (.int nc)] 2))
  refine own_step (fun t k => castTop (ef_rmIT m oo nc) k) ?_
  show own_Ends p e below s _ _ _ (s₁.setTop (mkF m 0 #[.val (.ref oo), .val (.int nc)] []))
  refine own_step (fun _ kc_ => XS.aloadN X0.here hx rfl (hb hby d1_0) rfl rfl kc_) ?_
  show own_Ends p e below s _ _ _ (s₁.setTop (mkF m 1 #[.val (.ref oo), .val (.int nc)] [(.ref oo)]))
  obtain ⟨T19, X19, e19, st19⟩ := initO X0 hx hZ hown (hw _ (List.mem_of_getElem? (i := 7) rfl)) (hw _ (List.mem_of_getElem? (i := 8) rfl)) (hw _ (List.mem_of_getElem? (i := 9) rfl)) e0 (g := (mkF m 1 #[.val (.ref oo), .val (.int nc)] [(.ref oo)])) rfl (by rw [hml]; rfl) rfl (hb hby d1_1) (by decide) (W := 0) (by show 2 * 0 + _ ≤ _; exact Nat.le_of_eq rfl) (by decide)
  refine own_step (fun _ kc_ => st19 _ kc_) ?_
  show own_Ends p e below s _ _ _ (T19.setTop (mkF m 4 #[.val (.ref oo), .val (.int nc)] []))
  refine own_step (fun _ kc_ => XS.iloadN X19.here hx rfl (hb hby d1_4) rfl (XS.sipush X19.here hx rfl (hb hby d1_5) (XS.icmpYes X19.here hx rfl (pc0 := 8) (pc' := 29) rfl (hb hby d1_8) rfl (XT.ii_gt_t (hn : (512 : Int32) < nc)) (by decide) (by decide) (XS.aloadN X19.here hx rfl (hb hby d1_29) rfl rfl (XS.bipush X19.here hx rfl (hb hby d1_30) kc_))))) ?_
  show own_Ends p e below s _ _ _ (T19.setTop (mkF m 32 #[.val (.ref oo), .val (.int nc)] [(.int (16 : Int32)), (.ref oo)]))
  obtain ⟨_, _, ⟨T20, L20, k20, n20⟩, -, X20, ⟨Lc20, hQ20, l20, y20, z20⟩, st20⟩ := Jvm.LawKit.callS X19 hx (y := (⟨"com/example/kinds_by_value/kindsbyvalue/NameSet", "newTable", "(I)[I"⟩ : MethodName)) hown (mvT hZ (hw _ (List.mem_of_getElem? (i := 48) rfl))) (mvT hZ (hw _ (List.mem_of_getElem? (i := 49) rfl))) (mvT hZ (hw _ (List.mem_of_getElem? (i := 3) rfl))) (mvT hZ (hw _ (List.mem_of_getElem? (i := 50) rfl))) (by decide) (backOf (W := 1) (rm8 l Z a0 hw []   h0 n0 Z0 ) hZ (hw _ (List.mem_of_getElem? (i := 50) rfl)) (hw _ (List.mem_of_getElem? (i := 3) rfl)) (by decide) (by decide)) (g := (mkF m 32 #[.val (.ref oo), .val (.int nc)] [(.int (16 : Int32)), (.ref oo)])) rfl (by rw [hml]; rfl) (argsL := [(.int (16 : Int32))]) (rest := [(.ref oo)]) (lenOf pd_2 rfl) rfl (by show 2 * 0 + _ ≤ _; exact Nat.le_of_eq rfl) (hb hby d1_32) (fun _ _ => ⟨rfl, e19, (by decide : 0 + 1 ≤ _), (by decide : 0 + 16 ≤ _)⟩)
  dsimp only [Pt.U, Pt.locs, Pt.cells, Pt.slots] at X20 l20 y20 z20 st20 hQ20
  subst l20 y20 z20
  obtain ⟨N20q, K20k, ta, rfl, hta, A20k⟩ := hQ20
  have nota : oo ≠ ta := Nat.ne_of_lt (Nat.lt_of_lt_of_le (E0).lt hta)
  have h0ta : h0.size ≤ ta := Nat.le_trans ((Keep.refl h0 [oo])).1 hta
  have n0ta : n0 ≤ ta := Nat.le_trans Z0 hta
  have E_oo_20 := (E0).keep K20k
  have F_oo_everyName_20 := (f0).keep K20k nin0
  have F_oo_bits_20 := (f1).keep K20k nin0
  have F_oo_table_20 := (f2).keep K20k nin0
  have F_oo_size_20 := (f3).keep K20k nin0
  have F_oo_hash_20 := (f4).keep K20k nin0
  have K20 := ((Keep.refl h0 [oo])).trans K20k all0
  have Zs20 := Nat.le_trans Z0 K20k.1
  have N20 := Fr.app N0 N20q
  refine own_step (fun _ kc_ => st20 _ kc_) ?_
  show own_Ends p e below s _ _ _ (T20.setTop (mkF m 35 #[.val (.ref oo), .val (.int nc)] [(.ref ta), (.ref oo)]))
  obtain ⟨T21, h21, X21, e21, W21, st21⟩ := putF X20 hx hZ hown (host := "") (Or.inl (hw _ (List.mem_of_getElem? (i := 45) rfl))) Via.refl rfl F_oo_table_20 E_oo_20 (Or.inl (hw _ (List.mem_of_getElem? (i := 46) rfl))) (hw _ (List.mem_of_getElem? (i := 2) rfl)) (ty := (.array .int)) (by decide) rfl rfl (g := (mkF m 35 #[.val (.ref oo), .val (.int nc)] [(.ref ta), (.ref oo)])) rfl rfl (hb hby d1_35)
  have E_oo_21 := (E_oo_20).wr W21
  have F_oo_everyName_21 := (F_oo_everyName_20).other W21 (Or.inr (slot_ne (Or.inl (hw _ (List.mem_of_getElem? (i := 19) rfl))) (Or.inl (hw _ (List.mem_of_getElem? (i := 46) rfl))) (by decide) (t := .boolean) (t' := (.array .int)) (by decide) (by decide)))
  have F_oo_bits_21 := (F_oo_bits_20).other W21 (Or.inr (slot_ne (Or.inl (hw _ (List.mem_of_getElem? (i := 12) rfl))) (Or.inl (hw _ (List.mem_of_getElem? (i := 46) rfl))) (by decide) (t := (.array .long)) (t' := (.array .int)) (by decide) (by decide)))
  have F_oo_table_21 := (F_oo_table_20).same W21
  have F_oo_size_21 := (F_oo_size_20).other W21 (Or.inr (slot_ne (Or.inl (hw _ (List.mem_of_getElem? (i := 33) rfl))) (Or.inl (hw _ (List.mem_of_getElem? (i := 46) rfl))) (by decide) (t := .int) (t' := (.array .int)) (by decide) (by decide)))
  have F_oo_hash_21 := (F_oo_hash_20).other W21 (Or.inr (slot_ne (Or.inl (hw _ (List.mem_of_getElem? (i := 21) rfl))) (Or.inl (hw _ (List.mem_of_getElem? (i := 46) rfl))) (by decide) (t := .int) (t' := (.array .int)) (by decide) (by decide)))
  have A_ta_21 := (A20k).other W21 (Ne.symm nota)
  have K21 := (K20).wr W21 (Or.inl (List.mem_of_getElem? (i := 0) rfl))
  have Zs21 := Nat.le_trans Zs20 (Nat.le_of_eq W21.size.symm)
  have N21 := Fr.snoc X21 N20 g0
  refine own_step (fun _ kc_ => st21 _ kc_) ?_
  show own_Ends p e below s _ _ _ (T21.setTop (mkF m 38 #[.val (.ref oo), .val (.int nc)] []))
  exact own_retV X21 hx hret hlk (hb hby d1_38) (by decide) (by decide) (by rw [e21]; exact ⟨rfl, N21, K21, F_oo_everyName_21, F_oo_size_21, F_oo_hash_21, ta, h0ta, nota, F_oo_bits_21, F_oo_table_21, A_ta_21⟩)
theorem ef_rmIB (m : MethodId) (oo : Addr) (nc : Int32) : entryFrame m #[(.ref oo), (.int nc)] 2 = mkF m 0 #[.val (.ref oo), .val (.int nc)] [] := by first | (simp [entryFrame, mkF, argsToLocals, Value.category]; done) | rfl
def QIB (Z : State) (oo : Addr) (nc : Int32) (N : Nat) (h0 : Heap) (n0 : Nat) (v : Option Value) (h : Heap) (L : List Loc) : Prop := v = none ∧ Fr n0 L ∧ Keep h0 h [oo] ∧ Fld Z h oo "com/example/kinds_by_value/kindsbyvalue/NameSet" "everyName" "Z" (.int (0 : Int32)) ∧ Fld Z h oo "com/example/kinds_by_value/kindsbyvalue/NameSet" "size" "I" (.int (0 : Int32)) ∧ Fld Z h oo "com/example/kinds_by_value/kindsbyvalue/NameSet" "hash" "I" (.int (0 : Int32)) ∧ ∃ ba, h0.size ≤ ba ∧ oo ≠ ba ∧ Fld Z h oo "com/example/kinds_by_value/kindsbyvalue/NameSet" "bits" "[J" (.ref ba) ∧ Fld Z h oo "com/example/kinds_by_value/kindsbyvalue/NameSet" "table" "[I" .null ∧ own_Ar Z h ba .long ((List.replicate ((N + 63) / 64) (0 : Int64)).map Value.long)
set_option maxRecDepth 65536 in
set_option maxHeartbeats 40000000 in
theorem rmIB (l : Launch) (Z : State) (a0 : Array Value) (hw : ∀ d ∈ tables_1, d.before a0 Z = true) (ws : List Jvm.Cond) (oo : Addr) (nc : Int32) (N : Nat) (h0 : Heap) (n0 : Nat) (Z0 : n0 ≤ h0.size) (E0 : Exa Z h0 oo "com/example/kinds_by_value/kindsbyvalue/NameSet") (f0 : Fld Z h0 oo "com/example/kinds_by_value/kindsbyvalue/NameSet" "everyName" "Z" (.int (0 : Int32))) (f1 : Fld Z h0 oo "com/example/kinds_by_value/kindsbyvalue/NameSet" "bits" "[J" .null) (f2 : Fld Z h0 oo "com/example/kinds_by_value/kindsbyvalue/NameSet" "table" "[I" .null) (f3 : Fld Z h0 oo "com/example/kinds_by_value/kindsbyvalue/NameSet" "size" "I" (.int (0 : Int32))) (f4 : Fld Z h0 oo "com/example/kinds_by_value/kindsbyvalue/NameSet" "hash" "I" (.int (0 : Int32))) (g0 : n0 ≤ oo) (hN : nc.toInt = N) (hn : N ≤ 512) :
    MetFree l (⟨"com/example/kinds_by_value/kindsbyvalue/NameSet", "<init>", "(I)V"⟩ : MethodName) (head1 (Jvm.Cond.code (⟨"com/example/kinds_by_value/kindsbyvalue/NameSet", "<init>", "(I)V"⟩ : MethodName) prog_9_method_1_code 2 none :: ws) ({ frames := 1, cells := 1, slots := 8, locals := 12 } : Room)) (fun a U => a = #[(.ref oo), (.int nc)] ∧ Z.Warmed39 U.vm ∧ U.heap = h0) (fun _ _ _ _ _ => True) (fun _ U o U' => ∃ v L, o = .returned v ∧ QIB Z oo nc N h0 n0 v U'.heap L ∧ FrameEnd U o U' L ({ frames := 1, cells := 1, slots := 8, locals := 12 } : Room).cells ({ frames := 1, cells := 1, slots := 8, locals := 12 } : Room).slots) := by
  refine MetFree.of_bodySF (plainFor_of_name pn_2) hisR ?_
  intro p e s m args below meth c s₁ Bd hml0 hP hK
  obtain ⟨rfl, hZ, hh⟩ := hP
  have hx := Bd.exec
  have hby := Bd.bytes
  have hlk : meth.locks = false := BodyLoose.notSynchronized Bd
  have hret := Bd.returns
  have hml : c.maxLocals = 2 := hml0
  have hown : s.vm.findClass "com/example/kinds_by_value/kindsbyvalue/NameSet" = some m.cls := findClass_of_methodNamed Bd.named
  have hnm := (name_of_methodNamed Bd.named Bd.method).1
  have X0 : Stand p l e ({ frames := 1, cells := 1, slots := 8, locals := 12 } : Room) s m #[(.ref oo), (.int nc)] below meth c s₁ [] 0 0 := Stand.of_body Bd
  have e0 : s₁.heap = h0 := by rw [← hh, Bd.state]; rfl
  have N0 := Fr.nil n0
  show own_Ends p e below s 1 8 (QIB Z oo nc N h0 n0) (s₁.setTop (entryFrame m #[(.ref oo), (.int nc)] 2))
  refine own_step (fun t k => castTop (ef_rmIB m oo nc) k) ?_
  show own_Ends p e below s _ _ _ (s₁.setTop (mkF m 0 #[.val (.ref oo), .val (.int nc)] []))
  refine own_step (fun _ kc_ => XS.aloadN X0.here hx rfl (hb hby d1_0) rfl rfl kc_) ?_
  show own_Ends p e below s _ _ _ (s₁.setTop (mkF m 1 #[.val (.ref oo), .val (.int nc)] [(.ref oo)]))
  obtain ⟨T22, X22, e22, st22⟩ := initO X0 hx hZ hown (hw _ (List.mem_of_getElem? (i := 7) rfl)) (hw _ (List.mem_of_getElem? (i := 8) rfl)) (hw _ (List.mem_of_getElem? (i := 9) rfl)) e0 (g := (mkF m 1 #[.val (.ref oo), .val (.int nc)] [(.ref oo)])) rfl (by rw [hml]; rfl) rfl (hb hby d1_1) (by decide) (W := 0) (by show 2 * 0 + _ ≤ _; exact Nat.le_of_eq rfl) (by decide)
  refine own_step (fun _ kc_ => st22 _ kc_) ?_
  show own_Ends p e below s _ _ _ (T22.setTop (mkF m 4 #[.val (.ref oo), .val (.int nc)] []))
  refine own_step (fun _ kc_ => XS.iloadN X22.here hx rfl (hb hby d1_4) rfl (XS.sipush X22.here hx rfl (hb hby d1_5) (XS.icmpNo X22.here hx rfl (hb hby d1_8) rfl (XT.ii_gt_f (own_le512 hN hn : ¬ ((512 : Int32) < nc))) (XS.aloadN X22.here hx rfl (hb hby d1_11) rfl rfl (XS.iloadN X22.here hx rfl (hb hby d1_12) rfl (XS.bipush X22.here hx rfl (hb hby d1_13) (XS.iadd X22.here hx rfl (hb hby d1_15) rfl (XS.iconst X22.here hx rfl (hb hby d1_16) kc_)))))))) ?_
  show own_Ends p e below s _ _ _ (T22.setTop (mkF m 17 #[.val (.ref oo), .val (.int nc)] [(.int (1 : Int32)), (.int (nc + (64 : Int32))), (.ref oo)]))
  refine own_step (fun _ kc_ => XS.isub X22.here hx rfl (hb hby d1_17) rfl (XS.bipush X22.here hx rfl (hb hby d1_18) (XS.idiv X22.here hx rfl (hb hby d1_20) rfl (by decide) kc_))) ?_
  show own_Ends p e below s _ _ _ (T22.setTop (mkF m 21 #[.val (.ref oo), .val (.int nc)] [(.int (((nc + (64 : Int32)) - (1 : Int32)) / (64 : Int32))), (.ref oo)]))
  obtain ⟨T23, h23, k23, X23, e23, E23, A23, st23⟩ := newP X22 hx hZ (hw _ (List.mem_of_getElem? (i := 10) rfl)) e22 (g := (mkF m 21 #[.val (.ref oo), .val (.int nc)] [(.int (((nc + (64 : Int32)) - (1 : Int32)) / (64 : Int32))), (.ref oo)])) rfl (hb hby d1_21) rfl (own_bl hN hn).1 (cap := 8) (by rw [(own_bl hN hn).2]; omega) (by decide) (by decide : 0 + 1 ≤ _) (by decide : 0 + 8 ≤ _)
  obtain ⟨b23, g23⟩ : ∃ z, z = h0.size := ⟨_, rfl⟩
  rw [← g23] at A23 st23
  have ne_oo_b23 : oo ≠ b23 := Nat.ne_of_lt (Nat.lt_of_lt_of_le (E0).lt (Nat.le_of_eq g23.symm))
  have n0_b23 : n0 ≤ b23 := Nat.le_trans Z0 (Nat.le_of_eq g23.symm)
  have h0_b23 : h0.size ≤ b23 := Nat.le_trans ((Keep.refl h0 [oo])).1 (Nat.le_of_eq g23.symm)
  have E_oo_23 := (E0).ext E23
  have F_oo_everyName_23 := (f0).ext E23
  have F_oo_bits_23 := (f1).ext E23
  have F_oo_table_23 := (f2).ext E23
  have F_oo_size_23 := (f3).ext E23
  have F_oo_hash_23 := (f4).ext E23
  have K23 := ((Keep.refl h0 [oo])).ext E23
  have Zs23 := Nat.le_trans Z0 E23.1
  have A_b23 : own_Ar Z h23 b23 .long (List.replicate ((((nc + (64 : Int32)) - (1 : Int32)) / (64 : Int32))).toNatClampNeg (.long (0 : Int64))) := own_Ar.new A23 (own_bl hN hn).1
  refine own_step (fun _ kc_ => st23 _ kc_) ?_
  show own_Ends p e below s _ _ _ (T23.setTop (mkF m 23 #[.val (.ref oo), .val (.int nc)] [(.ref b23), (.ref oo)]))
  have B_b23 : own_Ar Z h23 b23 .long ((List.replicate ((N + 63) / 64) (0 : Int64)).map Value.long) := A_b23.cast (by rw [(own_bl hN hn).2, List.map_replicate])
  obtain ⟨T24, h24, X24, e24, W24, st24⟩ := putF X23 hx hZ hown (host := "") (Or.inl (hw _ (List.mem_of_getElem? (i := 11) rfl))) Via.refl e23 F_oo_bits_23 E_oo_23 (Or.inl (hw _ (List.mem_of_getElem? (i := 12) rfl))) (hw _ (List.mem_of_getElem? (i := 2) rfl)) (ty := (.array .long)) (by decide) rfl rfl (g := (mkF m 23 #[.val (.ref oo), .val (.int nc)] [(.ref b23), (.ref oo)])) rfl rfl (hb hby d1_23)
  have E_oo_24 := (E_oo_23).wr W24
  have F_oo_everyName_24 := (F_oo_everyName_23).other W24 (Or.inr (slot_ne (Or.inl (hw _ (List.mem_of_getElem? (i := 19) rfl))) (Or.inl (hw _ (List.mem_of_getElem? (i := 12) rfl))) (by decide) (t := .boolean) (t' := (.array .long)) (by decide) (by decide)))
  have F_oo_bits_24 := (F_oo_bits_23).same W24
  have F_oo_table_24 := (F_oo_table_23).other W24 (Or.inr (slot_ne (Or.inl (hw _ (List.mem_of_getElem? (i := 46) rfl))) (Or.inl (hw _ (List.mem_of_getElem? (i := 12) rfl))) (by decide) (t := (.array .int)) (t' := (.array .long)) (by decide) (by decide)))
  have F_oo_size_24 := (F_oo_size_23).other W24 (Or.inr (slot_ne (Or.inl (hw _ (List.mem_of_getElem? (i := 33) rfl))) (Or.inl (hw _ (List.mem_of_getElem? (i := 12) rfl))) (by decide) (t := .int) (t' := (.array .long)) (by decide) (by decide)))
  have F_oo_hash_24 := (F_oo_hash_23).other W24 (Or.inr (slot_ne (Or.inl (hw _ (List.mem_of_getElem? (i := 21) rfl))) (Or.inl (hw _ (List.mem_of_getElem? (i := 12) rfl))) (by decide) (t := .int) (t' := (.array .long)) (by decide) (by decide)))
  have A_b23_24 := (B_b23).other W24 (Ne.symm ne_oo_b23)
  have K24 := (K23).wr W24 (Or.inl (List.mem_of_getElem? (i := 0) rfl))
  have Zs24 := Nat.le_trans Zs23 (Nat.le_of_eq W24.size.symm)
  have N24 := Fr.snoc X24 N0 g0
  refine own_step (fun _ kc_ => st24 _ kc_) ?_
  show own_Ends p e below s _ _ _ (T24.setTop (mkF m 26 #[.val (.ref oo), .val (.int nc)] []))
  refine own_step (fun _ kc_ => XS.goto X24.here hx rfl (pc0 := 26) (pc' := 38) rfl (hb hby d1_26) (by decide) (by decide) kc_) ?_
  show own_Ends p e below s _ _ _ (T24.setTop (mkF m 38 #[.val (.ref oo), .val (.int nc)] []))
  exact own_retV X24 hx hret hlk (hb hby d1_38) (by decide) (by decide) (by rw [e24]; exact ⟨rfl, N24, K24, F_oo_everyName_24, F_oo_size_24, F_oo_hash_24, b23, h0_b23, ne_oo_b23, F_oo_bits_24, F_oo_table_24, A_b23_24⟩)
theorem ef_rmH0 (m : MethodId) (oo : Addr) : entryFrame m #[(.ref oo)] 1 = mkF m 0 #[.val (.ref oo)] [] := by first | (simp [entryFrame, mkF, argsToLocals, Value.category]; done) | rfl
def QH0 (Z : State) (oo : Addr) (hv : Int32) (h0 : Heap) (n0 : Nat) (v : Option Value) (h : Heap) (L : List Loc) : Prop := v = some (.int hv) ∧ Fr n0 L ∧ h = h0
set_option maxRecDepth 65536 in
set_option maxHeartbeats 40000000 in
theorem rmH0 (l : Launch) (Z : State) (a0 : Array Value) (hw : ∀ d ∈ tables_1, d.before a0 Z = true) (ws : List Jvm.Cond) (oo : Addr) (hv : Int32) (h0 : Heap) (n0 : Nat) (Z0 : n0 ≤ h0.size) (f0 : Fld Z h0 oo "com/example/kinds_by_value/kindsbyvalue/NameSet" "everyName" "Z" (.int (0 : Int32))) (f4 : Fld Z h0 oo "com/example/kinds_by_value/kindsbyvalue/NameSet" "hash" "I" (.int hv)) :
    MetFree l (⟨"com/example/kinds_by_value/kindsbyvalue/NameSet", "hashCode", "()I"⟩ : MethodName) (head1 (Jvm.Cond.code (⟨"com/example/kinds_by_value/kindsbyvalue/NameSet", "hashCode", "()I"⟩ : MethodName) prog_9_method_8_code 1 (some .int) :: ws) ({ frames := 0, cells := 0, slots := 0, locals := 0 } : Room)) (fun a U => a = #[(.ref oo)] ∧ Z.Warmed39 U.vm ∧ U.heap = h0) (fun _ _ _ _ _ => True) (fun _ U o U' => ∃ v L, o = .returned v ∧ QH0 Z oo hv h0 n0 v U'.heap L ∧ FrameEnd U o U' L ({ frames := 0, cells := 0, slots := 0, locals := 0 } : Room).cells ({ frames := 0, cells := 0, slots := 0, locals := 0 } : Room).slots) := by
  refine MetFree.of_bodySF (plainFor_of_name pn_2) hisR ?_
  intro p e s m args below meth c s₁ Bd hml0 hP hK
  obtain ⟨rfl, hZ, hh⟩ := hP
  have hx := Bd.exec
  have hby := Bd.bytes
  have hlk : meth.locks = false := BodyLoose.notSynchronized Bd
  have hret := Bd.returns
  have hml : c.maxLocals = 1 := hml0
  have hown : s.vm.findClass "com/example/kinds_by_value/kindsbyvalue/NameSet" = some m.cls := findClass_of_methodNamed Bd.named
  have hnm := (name_of_methodNamed Bd.named Bd.method).1
  have X0 : Stand p l e ({ frames := 0, cells := 0, slots := 0, locals := 0 } : Room) s m #[(.ref oo)] below meth c s₁ [] 0 0 := Stand.of_body Bd
  have e0 : s₁.heap = h0 := by rw [← hh, Bd.state]; rfl
  have N0 := Fr.nil n0
  show own_Ends p e below s 0 0 (QH0 Z oo hv h0 n0) (s₁.setTop (entryFrame m #[(.ref oo)] 1))
  refine own_step (fun t k => castTop (ef_rmH0 m oo) k) ?_
  show own_Ends p e below s _ _ _ (s₁.setTop (mkF m 0 #[.val (.ref oo)] []))
  refine own_step (fun _ kc_ => XS.aloadN X0.here hx rfl (hb hby d3_0) rfl rfl kc_) ?_
  show own_Ends p e below s _ _ _ (s₁.setTop (mkF m 1 #[.val (.ref oo)] [(.ref oo)]))
  obtain ⟨T25, X25, e25, st25⟩ := getF X0 hx hZ hown (host := "") (Or.inl (hw _ (List.mem_of_getElem? (i := 18) rfl))) Via.refl e0 f0 (g := (mkF m 1 #[.val (.ref oo)] [(.ref oo)])) rfl rfl (hb hby d3_1)
  refine own_step (fun _ kc_ => st25 _ kc_) ?_
  show own_Ends p e below s _ _ _ (T25.setTop (mkF m 4 #[.val (.ref oo)] [(.int (0 : Int32))]))
  refine own_step (fun _ kc_ => XS.ifYes X25.here hx rfl (pc0 := 4) (pc' := 11) rfl (hb hby d3_4) rfl (XT.i0_eq_t (by decide : (0 : Int32) = 0)) (by decide) (by decide) (XS.aloadN X25.here hx rfl (hb hby d3_11) rfl rfl kc_)) ?_
  show own_Ends p e below s _ _ _ (T25.setTop (mkF m 12 #[.val (.ref oo)] [(.ref oo)]))
  obtain ⟨T26, X26, e26, st26⟩ := getF X25 hx hZ hown (host := "") (Or.inl (hw _ (List.mem_of_getElem? (i := 20) rfl))) Via.refl e25 f4 (g := (mkF m 12 #[.val (.ref oo)] [(.ref oo)])) rfl rfl (hb hby d3_12)
  refine own_step (fun _ kc_ => st26 _ kc_) ?_
  show own_Ends p e below s _ _ _ (T26.setTop (mkF m 15 #[.val (.ref oo)] [(.int hv)]))
  exact own_retI X26 hx hret hlk (hb hby d3_15) (by decide) (by decide) ⟨rfl, N0, e26⟩
theorem ef_rmH1 (m : MethodId) (oo : Addr) : entryFrame m #[(.ref oo)] 1 = mkF m 0 #[.val (.ref oo)] [] := by first | (simp [entryFrame, mkF, argsToLocals, Value.category]; done) | rfl
def QH1 (Z : State) (oo : Addr)  (h0 : Heap) (n0 : Nat) (v : Option Value) (h : Heap) (L : List Loc) : Prop := v = some (.int (-1 : Int32)) ∧ Fr n0 L ∧ h = h0
set_option maxRecDepth 65536 in
set_option maxHeartbeats 40000000 in
theorem rmH1 (l : Launch) (Z : State) (a0 : Array Value) (hw : ∀ d ∈ tables_1, d.before a0 Z = true) (ws : List Jvm.Cond) (oo : Addr)  (h0 : Heap) (n0 : Nat) (Z0 : n0 ≤ h0.size) (f0 : Fld Z h0 oo "com/example/kinds_by_value/kindsbyvalue/NameSet" "everyName" "Z" (.int (1 : Int32))) :
    MetFree l (⟨"com/example/kinds_by_value/kindsbyvalue/NameSet", "hashCode", "()I"⟩ : MethodName) (head1 (Jvm.Cond.code (⟨"com/example/kinds_by_value/kindsbyvalue/NameSet", "hashCode", "()I"⟩ : MethodName) prog_9_method_8_code 1 (some .int) :: ws) ({ frames := 0, cells := 0, slots := 0, locals := 0 } : Room)) (fun a U => a = #[(.ref oo)] ∧ Z.Warmed39 U.vm ∧ U.heap = h0) (fun _ _ _ _ _ => True) (fun _ U o U' => ∃ v L, o = .returned v ∧ QH1 Z oo  h0 n0 v U'.heap L ∧ FrameEnd U o U' L ({ frames := 0, cells := 0, slots := 0, locals := 0 } : Room).cells ({ frames := 0, cells := 0, slots := 0, locals := 0 } : Room).slots) := by
  refine MetFree.of_bodySF (plainFor_of_name pn_2) hisR ?_
  intro p e s m args below meth c s₁ Bd hml0 hP hK
  obtain ⟨rfl, hZ, hh⟩ := hP
  have hx := Bd.exec
  have hby := Bd.bytes
  have hlk : meth.locks = false := BodyLoose.notSynchronized Bd
  have hret := Bd.returns
  have hml : c.maxLocals = 1 := hml0
  have hown : s.vm.findClass "com/example/kinds_by_value/kindsbyvalue/NameSet" = some m.cls := findClass_of_methodNamed Bd.named
  have hnm := (name_of_methodNamed Bd.named Bd.method).1
  have X0 : Stand p l e ({ frames := 0, cells := 0, slots := 0, locals := 0 } : Room) s m #[(.ref oo)] below meth c s₁ [] 0 0 := Stand.of_body Bd
  have e0 : s₁.heap = h0 := by rw [← hh, Bd.state]; rfl
  have N0 := Fr.nil n0
  show own_Ends p e below s 0 0 (QH1 Z oo  h0 n0) (s₁.setTop (entryFrame m #[(.ref oo)] 1))
  refine own_step (fun t k => castTop (ef_rmH1 m oo) k) ?_
  show own_Ends p e below s _ _ _ (s₁.setTop (mkF m 0 #[.val (.ref oo)] []))
  refine own_step (fun _ kc_ => XS.aloadN X0.here hx rfl (hb hby d3_0) rfl rfl kc_) ?_
  show own_Ends p e below s _ _ _ (s₁.setTop (mkF m 1 #[.val (.ref oo)] [(.ref oo)]))
  obtain ⟨T27, X27, e27, st27⟩ := getF X0 hx hZ hown (host := "") (Or.inl (hw _ (List.mem_of_getElem? (i := 18) rfl))) Via.refl e0 f0 (g := (mkF m 1 #[.val (.ref oo)] [(.ref oo)])) rfl rfl (hb hby d3_1)
  refine own_step (fun _ kc_ => st27 _ kc_) ?_
  show own_Ends p e below s _ _ _ (T27.setTop (mkF m 4 #[.val (.ref oo)] [(.int (1 : Int32))]))
  refine own_step (fun _ kc_ => XS.ifNo X27.here hx rfl (hb hby d3_4) rfl (XT.i0_eq_f (by decide : ¬ ((1 : Int32) = 0))) (XS.iconst X27.here hx rfl (hb hby d3_7) (XS.goto X27.here hx rfl (pc0 := 8) (pc' := 15) rfl (hb hby d3_8) (by decide) (by decide) kc_))) ?_
  show own_Ends p e below s _ _ _ (T27.setTop (mkF m 15 #[.val (.ref oo)] [(.int (-1 : Int32))]))
  exact own_retI X27 hx hret hlk (hb hby d3_15) (by decide) (by decide) ⟨rfl, N0, e27⟩
theorem ef_rm7 (m : MethodId) (oo : Addr) : entryFrame m #[(.ref oo)] 1 = mkF m 0 #[.val (.ref oo)] [] := by first | (simp [entryFrame, mkF, argsToLocals, Value.category]; done) | rfl
def Q7 (Z : State) (oo : Addr) (v0 v1 v2 v3 v4 : Value) (h0 : Heap) (n0 : Nat) (v : Option Value) (h : Heap) (L : List Loc) : Prop := v = none ∧ Fr n0 L ∧ Keep h0 h [oo] ∧ Fld Z h oo "com/example/kinds_by_value/kindsbyvalue/NameSet" "everyName" "Z" (.int (1 : Int32))
set_option maxRecDepth 65536 in
set_option maxHeartbeats 40000000 in
theorem rm7 (l : Launch) (Z : State) (a0 : Array Value) (hw : ∀ d ∈ tables_1, d.before a0 Z = true) (ws : List Jvm.Cond) (oo : Addr) (v0 v1 v2 v3 v4 : Value) (h0 : Heap) (n0 : Nat) (Z0 : n0 ≤ h0.size) (E0 : Exa Z h0 oo "com/example/kinds_by_value/kindsbyvalue/NameSet") (f0 : Fld Z h0 oo "com/example/kinds_by_value/kindsbyvalue/NameSet" "everyName" "Z" v0) (f1 : Fld Z h0 oo "com/example/kinds_by_value/kindsbyvalue/NameSet" "bits" "[J" v1) (f2 : Fld Z h0 oo "com/example/kinds_by_value/kindsbyvalue/NameSet" "table" "[I" v2) (f3 : Fld Z h0 oo "com/example/kinds_by_value/kindsbyvalue/NameSet" "size" "I" v3) (f4 : Fld Z h0 oo "com/example/kinds_by_value/kindsbyvalue/NameSet" "hash" "I" v4) (g0 : n0 ≤ oo) :
    MetFree l (⟨"com/example/kinds_by_value/kindsbyvalue/NameSet", "addEveryName", "()V"⟩ : MethodName) (head1 (Jvm.Cond.code (⟨"com/example/kinds_by_value/kindsbyvalue/NameSet", "addEveryName", "()V"⟩ : MethodName) prog_9_method_4_code 1 none :: ws) ({ frames := 0, cells := 0, slots := 0, locals := 0 } : Room)) (fun a U => a = #[(.ref oo)] ∧ Z.Warmed39 U.vm ∧ U.heap = h0) (fun _ _ _ _ _ => True) (fun _ U o U' => ∃ v L, o = .returned v ∧ Q7 Z oo v0 v1 v2 v3 v4 h0 n0 v U'.heap L ∧ FrameEnd U o U' L ({ frames := 0, cells := 0, slots := 0, locals := 0 } : Room).cells ({ frames := 0, cells := 0, slots := 0, locals := 0 } : Room).slots) := by
  refine MetFree.of_bodySF (plainFor_of_name pn_2) hisR ?_
  intro p e s m args below meth c s₁ Bd hml0 hP hK
  obtain ⟨rfl, hZ, hh⟩ := hP
  have hx := Bd.exec
  have hby := Bd.bytes
  have hlk : meth.locks = false := BodyLoose.notSynchronized Bd
  have hret := Bd.returns
  have hml : c.maxLocals = 1 := hml0
  have hown : s.vm.findClass "com/example/kinds_by_value/kindsbyvalue/NameSet" = some m.cls := findClass_of_methodNamed Bd.named
  have hnm := (name_of_methodNamed Bd.named Bd.method).1
  have X0 : Stand p l e ({ frames := 0, cells := 0, slots := 0, locals := 0 } : Room) s m #[(.ref oo)] below meth c s₁ [] 0 0 := Stand.of_body Bd
  have e0 : s₁.heap = h0 := by rw [← hh, Bd.state]; rfl
  have N0 := Fr.nil n0
  show own_Ends p e below s 0 0 (Q7 Z oo v0 v1 v2 v3 v4 h0 n0) (s₁.setTop (entryFrame m #[(.ref oo)] 1))
  refine own_step (fun t k => castTop (ef_rm7 m oo) k) ?_
  show own_Ends p e below s _ _ _ (s₁.setTop (mkF m 0 #[.val (.ref oo)] []))
  refine own_step (fun _ kc_ => XS.aloadN X0.here hx rfl (hb hby d7_0) rfl rfl (XS.iconst X0.here hx rfl (hb hby d7_1) kc_)) ?_
  show own_Ends p e below s _ _ _ (s₁.setTop (mkF m 2 #[.val (.ref oo)] [(.int (1 : Int32)), (.ref oo)]))
  obtain ⟨T28, h28, X28, e28, W28, st28⟩ := putFN X0 hx hZ hown (hw _ (List.mem_of_getElem? (i := 18) rfl)) Via.refl e0 f0 E0 (Or.inl (hw _ (List.mem_of_getElem? (i := 19) rfl))) (hw _ (List.mem_of_getElem? (i := 2) rfl)) (ty := .boolean) (v' := (.int (1 : Int32))) (by decide) rfl rfl (g := (mkF m 2 #[.val (.ref oo)] [(.int (1 : Int32)), (.ref oo)])) rfl rfl (hb hby d7_2)
  have E_oo_28 := (E0).wr W28
  have F_oo_everyName_28 := (f0).same W28
  have F_oo_bits_28 := (f1).other W28 (Or.inr (slot_ne (Or.inl (hw _ (List.mem_of_getElem? (i := 12) rfl))) (Or.inl (hw _ (List.mem_of_getElem? (i := 19) rfl))) (by decide) (t := (.array .long)) (t' := .boolean) (by decide) (by decide)))
  have F_oo_table_28 := (f2).other W28 (Or.inr (slot_ne (Or.inl (hw _ (List.mem_of_getElem? (i := 46) rfl))) (Or.inl (hw _ (List.mem_of_getElem? (i := 19) rfl))) (by decide) (t := (.array .int)) (t' := .boolean) (by decide) (by decide)))
  have F_oo_size_28 := (f3).other W28 (Or.inr (slot_ne (Or.inl (hw _ (List.mem_of_getElem? (i := 33) rfl))) (Or.inl (hw _ (List.mem_of_getElem? (i := 19) rfl))) (by decide) (t := .int) (t' := .boolean) (by decide) (by decide)))
  have F_oo_hash_28 := (f4).other W28 (Or.inr (slot_ne (Or.inl (hw _ (List.mem_of_getElem? (i := 21) rfl))) (Or.inl (hw _ (List.mem_of_getElem? (i := 19) rfl))) (by decide) (t := .int) (t' := .boolean) (by decide) (by decide)))
  have K28 := ((Keep.refl h0 [oo])).wr W28 (Or.inl (List.mem_of_getElem? (i := 0) rfl))
  have Zs28 := Nat.le_trans Z0 (Nat.le_of_eq W28.size.symm)
  have N28 := Fr.snoc X28 N0 g0
  refine own_step (fun _ kc_ => st28 _ kc_) ?_
  show own_Ends p e below s _ _ _ (T28.setTop (mkF m 5 #[.val (.ref oo)] []))
  refine own_step (fun _ kc_ => XS.aloadN X28.here hx rfl (hb hby d7_5) rfl rfl (XS.aconstNull X28.here hx rfl (hb hby d7_6) kc_)) ?_
  show own_Ends p e below s _ _ _ (T28.setTop (mkF m 7 #[.val (.ref oo)] [.null, (.ref oo)]))
  obtain ⟨T29, h29, X29, e29, W29, st29⟩ := putF X28 hx hZ hown (host := "") (Or.inl (hw _ (List.mem_of_getElem? (i := 11) rfl))) Via.refl e28 F_oo_bits_28 E_oo_28 (Or.inl (hw _ (List.mem_of_getElem? (i := 12) rfl))) (hw _ (List.mem_of_getElem? (i := 2) rfl)) (ty := (.array .long)) (by decide) rfl rfl (g := (mkF m 7 #[.val (.ref oo)] [.null, (.ref oo)])) rfl rfl (hb hby d7_7)
  have E_oo_29 := (E_oo_28).wr W29
  have F_oo_everyName_29 := (F_oo_everyName_28).other W29 (Or.inr (slot_ne (Or.inl (hw _ (List.mem_of_getElem? (i := 19) rfl))) (Or.inl (hw _ (List.mem_of_getElem? (i := 12) rfl))) (by decide) (t := .boolean) (t' := (.array .long)) (by decide) (by decide)))
  have F_oo_bits_29 := (F_oo_bits_28).same W29
  have F_oo_table_29 := (F_oo_table_28).other W29 (Or.inr (slot_ne (Or.inl (hw _ (List.mem_of_getElem? (i := 46) rfl))) (Or.inl (hw _ (List.mem_of_getElem? (i := 12) rfl))) (by decide) (t := (.array .int)) (t' := (.array .long)) (by decide) (by decide)))
  have F_oo_size_29 := (F_oo_size_28).other W29 (Or.inr (slot_ne (Or.inl (hw _ (List.mem_of_getElem? (i := 33) rfl))) (Or.inl (hw _ (List.mem_of_getElem? (i := 12) rfl))) (by decide) (t := .int) (t' := (.array .long)) (by decide) (by decide)))
  have F_oo_hash_29 := (F_oo_hash_28).other W29 (Or.inr (slot_ne (Or.inl (hw _ (List.mem_of_getElem? (i := 21) rfl))) (Or.inl (hw _ (List.mem_of_getElem? (i := 12) rfl))) (by decide) (t := .int) (t' := (.array .long)) (by decide) (by decide)))
  have K29 := (K28).wr W29 (Or.inl (List.mem_of_getElem? (i := 0) rfl))
  have Zs29 := Nat.le_trans Zs28 (Nat.le_of_eq W29.size.symm)
  have N29 := Fr.snoc X29 N28 g0
  refine own_step (fun _ kc_ => st29 _ kc_) ?_
  show own_Ends p e below s _ _ _ (T29.setTop (mkF m 10 #[.val (.ref oo)] []))
  refine own_step (fun _ kc_ => XS.aloadN X29.here hx rfl (hb hby d7_10) rfl rfl (XS.aconstNull X29.here hx rfl (hb hby d7_11) kc_)) ?_
  show own_Ends p e below s _ _ _ (T29.setTop (mkF m 12 #[.val (.ref oo)] [.null, (.ref oo)]))
  obtain ⟨T30, h30, X30, e30, W30, st30⟩ := putF X29 hx hZ hown (host := "") (Or.inl (hw _ (List.mem_of_getElem? (i := 45) rfl))) Via.refl e29 F_oo_table_29 E_oo_29 (Or.inl (hw _ (List.mem_of_getElem? (i := 46) rfl))) (hw _ (List.mem_of_getElem? (i := 2) rfl)) (ty := (.array .int)) (by decide) rfl rfl (g := (mkF m 12 #[.val (.ref oo)] [.null, (.ref oo)])) rfl rfl (hb hby d7_12)
  have E_oo_30 := (E_oo_29).wr W30
  have F_oo_everyName_30 := (F_oo_everyName_29).other W30 (Or.inr (slot_ne (Or.inl (hw _ (List.mem_of_getElem? (i := 19) rfl))) (Or.inl (hw _ (List.mem_of_getElem? (i := 46) rfl))) (by decide) (t := .boolean) (t' := (.array .int)) (by decide) (by decide)))
  have F_oo_bits_30 := (F_oo_bits_29).other W30 (Or.inr (slot_ne (Or.inl (hw _ (List.mem_of_getElem? (i := 12) rfl))) (Or.inl (hw _ (List.mem_of_getElem? (i := 46) rfl))) (by decide) (t := (.array .long)) (t' := (.array .int)) (by decide) (by decide)))
  have F_oo_table_30 := (F_oo_table_29).same W30
  have F_oo_size_30 := (F_oo_size_29).other W30 (Or.inr (slot_ne (Or.inl (hw _ (List.mem_of_getElem? (i := 33) rfl))) (Or.inl (hw _ (List.mem_of_getElem? (i := 46) rfl))) (by decide) (t := .int) (t' := (.array .int)) (by decide) (by decide)))
  have F_oo_hash_30 := (F_oo_hash_29).other W30 (Or.inr (slot_ne (Or.inl (hw _ (List.mem_of_getElem? (i := 21) rfl))) (Or.inl (hw _ (List.mem_of_getElem? (i := 46) rfl))) (by decide) (t := .int) (t' := (.array .int)) (by decide) (by decide)))
  have K30 := (K29).wr W30 (Or.inl (List.mem_of_getElem? (i := 0) rfl))
  have Zs30 := Nat.le_trans Zs29 (Nat.le_of_eq W30.size.symm)
  have N30 := Fr.snoc X30 N29 g0
  refine own_step (fun _ kc_ => st30 _ kc_) ?_
  show own_Ends p e below s _ _ _ (T30.setTop (mkF m 15 #[.val (.ref oo)] []))
  refine own_step (fun _ kc_ => XS.aloadN X30.here hx rfl (hb hby d7_15) rfl rfl (XS.iconst X30.here hx rfl (hb hby d7_16) kc_)) ?_
  show own_Ends p e below s _ _ _ (T30.setTop (mkF m 17 #[.val (.ref oo)] [(.int (0 : Int32)), (.ref oo)]))
  obtain ⟨T31, h31, X31, e31, W31, st31⟩ := putF X30 hx hZ hown (host := "") (Or.inl (hw _ (List.mem_of_getElem? (i := 32) rfl))) Via.refl e30 F_oo_size_30 E_oo_30 (Or.inl (hw _ (List.mem_of_getElem? (i := 33) rfl))) (hw _ (List.mem_of_getElem? (i := 2) rfl)) (ty := .int) (by decide) rfl rfl (g := (mkF m 17 #[.val (.ref oo)] [(.int (0 : Int32)), (.ref oo)])) rfl rfl (hb hby d7_17)
  have E_oo_31 := (E_oo_30).wr W31
  have F_oo_everyName_31 := (F_oo_everyName_30).other W31 (Or.inr (slot_ne (Or.inl (hw _ (List.mem_of_getElem? (i := 19) rfl))) (Or.inl (hw _ (List.mem_of_getElem? (i := 33) rfl))) (by decide) (t := .boolean) (t' := .int) (by decide) (by decide)))
  have F_oo_bits_31 := (F_oo_bits_30).other W31 (Or.inr (slot_ne (Or.inl (hw _ (List.mem_of_getElem? (i := 12) rfl))) (Or.inl (hw _ (List.mem_of_getElem? (i := 33) rfl))) (by decide) (t := (.array .long)) (t' := .int) (by decide) (by decide)))
  have F_oo_table_31 := (F_oo_table_30).other W31 (Or.inr (slot_ne (Or.inl (hw _ (List.mem_of_getElem? (i := 46) rfl))) (Or.inl (hw _ (List.mem_of_getElem? (i := 33) rfl))) (by decide) (t := (.array .int)) (t' := .int) (by decide) (by decide)))
  have F_oo_size_31 := (F_oo_size_30).same W31
  have F_oo_hash_31 := (F_oo_hash_30).other W31 (Or.inr (slot_ne (Or.inl (hw _ (List.mem_of_getElem? (i := 21) rfl))) (Or.inl (hw _ (List.mem_of_getElem? (i := 33) rfl))) (by decide) (t := .int) (t' := .int) (by decide) (by decide)))
  have K31 := (K30).wr W31 (Or.inl (List.mem_of_getElem? (i := 0) rfl))
  have Zs31 := Nat.le_trans Zs30 (Nat.le_of_eq W31.size.symm)
  have N31 := Fr.snoc X31 N30 g0
  refine own_step (fun _ kc_ => st31 _ kc_) ?_
  show own_Ends p e below s _ _ _ (T31.setTop (mkF m 20 #[.val (.ref oo)] []))
  refine own_step (fun _ kc_ => XS.aloadN X31.here hx rfl (hb hby d7_20) rfl rfl (XS.iconst X31.here hx rfl (hb hby d7_21) kc_)) ?_
  show own_Ends p e below s _ _ _ (T31.setTop (mkF m 22 #[.val (.ref oo)] [(.int (0 : Int32)), (.ref oo)]))
  obtain ⟨T32, h32, X32, e32, W32, st32⟩ := putF X31 hx hZ hown (host := "") (Or.inl (hw _ (List.mem_of_getElem? (i := 20) rfl))) Via.refl e31 F_oo_hash_31 E_oo_31 (Or.inl (hw _ (List.mem_of_getElem? (i := 21) rfl))) (hw _ (List.mem_of_getElem? (i := 2) rfl)) (ty := .int) (by decide) rfl rfl (g := (mkF m 22 #[.val (.ref oo)] [(.int (0 : Int32)), (.ref oo)])) rfl rfl (hb hby d7_22)
  have E_oo_32 := (E_oo_31).wr W32
  have F_oo_everyName_32 := (F_oo_everyName_31).other W32 (Or.inr (slot_ne (Or.inl (hw _ (List.mem_of_getElem? (i := 19) rfl))) (Or.inl (hw _ (List.mem_of_getElem? (i := 21) rfl))) (by decide) (t := .boolean) (t' := .int) (by decide) (by decide)))
  have F_oo_bits_32 := (F_oo_bits_31).other W32 (Or.inr (slot_ne (Or.inl (hw _ (List.mem_of_getElem? (i := 12) rfl))) (Or.inl (hw _ (List.mem_of_getElem? (i := 21) rfl))) (by decide) (t := (.array .long)) (t' := .int) (by decide) (by decide)))
  have F_oo_table_32 := (F_oo_table_31).other W32 (Or.inr (slot_ne (Or.inl (hw _ (List.mem_of_getElem? (i := 46) rfl))) (Or.inl (hw _ (List.mem_of_getElem? (i := 21) rfl))) (by decide) (t := (.array .int)) (t' := .int) (by decide) (by decide)))
  have F_oo_size_32 := (F_oo_size_31).other W32 (Or.inr (slot_ne (Or.inl (hw _ (List.mem_of_getElem? (i := 33) rfl))) (Or.inl (hw _ (List.mem_of_getElem? (i := 21) rfl))) (by decide) (t := .int) (t' := .int) (by decide) (by decide)))
  have F_oo_hash_32 := (F_oo_hash_31).same W32
  have K32 := (K31).wr W32 (Or.inl (List.mem_of_getElem? (i := 0) rfl))
  have Zs32 := Nat.le_trans Zs31 (Nat.le_of_eq W32.size.symm)
  have N32 := Fr.snoc X32 N31 g0
  refine own_step (fun _ kc_ => st32 _ kc_) ?_
  show own_Ends p e below s _ _ _ (T32.setTop (mkF m 25 #[.val (.ref oo)] []))
  exact own_retV X32 hx hret hlk (hb hby d7_25) (by decide) (by decide) (by rw [e32]; exact ⟨rfl, N32, K32, F_oo_everyName_32⟩)
set_option maxRecDepth 65536 in
set_option maxHeartbeats 40000000 in
theorem own_ploop {p : Program} {l : Launch} {e : Env} {s : State} {m : MethodId} {below : List Frame} {meth : Method} {c : Code} {Z : State} {a0 : Array Value} (hw : ∀ d ∈ tables_1, d.before a0 Z = true) (hZ : Z.Warmed39 s.vm) (hx : p.tables.exec = Jvm.exec) (hby : c.code = prog_9_method_10_code) (hlk : meth.locks = false) (hret : meth.sig.returnType = some .int) (hml : c.maxLocals = 4) (hown : s.vm.findClass "com/example/kinds_by_value/kindsbyvalue/NameSet" = some m.cls)
    {args : Array Value} {R : Room} {C S : Nat} {Q : Option Value → Heap → List Loc → Prop} {h0 : Heap} {n0 : Nat} {oo ta : Addr} {x : Int32} {ts : List Int32} {k : Nat} (fT : Fld Z h0 oo "com/example/kinds_by_value/kindsbyvalue/NameSet" "table" "[I" (.ref ta)) (A0 : own_Ar Z h0 ta .int (ts.map Value.int)) (hl : ts.length = 16) (hf : own_fin ts x k) (hq : ∀ L, Fr n0 L → Q (some (.int (Int32.ofNat (own_pl x k)))) h0 L) :
    ∀ (r j : Nat) (hj : j + r = k) {T : State} {locs : List Loc} {cells slots : Nat} (hcc : cells ≤ C) (hss : slots ≤ S) (X : Stand p l e R s m args below meth c T locs cells slots) (e0 : T.heap = h0) (N0 : Fr n0 locs),
      own_Ends p e below s C S Q (T.setTop (mkF m 15 #[.val (.ref oo), .val (.int x), .val (.int (15 : Int32)), .val (.int (Int32.ofNat (own_pl x j)))] [])) := by
  intro r
  induction r with
  | zero =>
    intro j hj T locs cells slots hcc hss X e0 N0
    have hjk : j = k := by omega
    subst hjk
    show own_Ends p e below s _ _ _ (T.setTop (mkF m 15 #[.val (.ref oo), .val (.int x), .val (.int (15 : Int32)), .val (.int (Int32.ofNat (own_pl x j)))] []))
    refine own_step (fun _ kc_ => XS.aloadN X.here hx rfl (hb hby d10_15) rfl rfl kc_) ?_
    show own_Ends p e below s _ _ _ (T.setTop (mkF m 16 #[.val (.ref oo), .val (.int x), .val (.int (15 : Int32)), .val (.int (Int32.ofNat (own_pl x j)))] [(.ref oo)]))
    obtain ⟨T33, X33, e33, st33⟩ := getF X hx hZ hown (host := "") (Or.inl (hw _ (List.mem_of_getElem? (i := 45) rfl))) Via.refl e0 fT (g := (mkF m 16 #[.val (.ref oo), .val (.int x), .val (.int (15 : Int32)), .val (.int (Int32.ofNat (own_pl x j)))] [(.ref oo)])) rfl rfl (hb hby d10_16)
    refine own_step (fun _ kc_ => st33 _ kc_) ?_
    show own_Ends p e below s _ _ _ (T33.setTop (mkF m 19 #[.val (.ref oo), .val (.int x), .val (.int (15 : Int32)), .val (.int (Int32.ofNat (own_pl x j)))] [(.ref ta)]))
    refine own_step (fun _ kc_ => XS.iloadN X33.here hx rfl (hb hby d10_19) rfl (own_iaload X33 hx hZ e33 A0 (j := (Int32.ofNat (own_pl x j))) (own_nn (own_pl_lt31 x j)) (i := own_pl x j) (own_nc (own_pl_lt31 x j)) (v := (.int (own_pr ts x j))) (own_rd hl x j) (hb hby d10_20) _ (XS.iloadN X33.here hx rfl (hb hby d10_21) rfl kc_))) ?_
    show own_Ends p e below s _ _ _ (T33.setTop (mkF m 22 #[.val (.ref oo), .val (.int x), .val (.int (15 : Int32)), .val (.int (Int32.ofNat (own_pl x j)))] [(.int x), (.int (own_pr ts x j))]))
    by_cases hc22 : (own_pr ts x j) = x
    · refine own_step (fun _ kc_ => XS.icmpYes X33.here hx rfl (pc0 := 22) (pc' := 44) rfl (hb hby d10_22) rfl (XT.ii_eq_t hc22) (by decide) (by decide) (XS.iloadN X33.here hx rfl (hb hby d10_44) rfl kc_)) ?_
      show own_Ends p e below s _ _ _ (T33.setTop (mkF m 45 #[.val (.ref oo), .val (.int x), .val (.int (15 : Int32)), .val (.int (Int32.ofNat (own_pl x j)))] [(.int (Int32.ofNat (own_pl x j)))]))
      exact own_retI X33 hx hret hlk (hb hby d10_45) hcc hss (by rw [e33]; exact hq _ N0)
    · refine own_step (fun _ kc_ => XS.icmpNo X33.here hx rfl (hb hby d10_22) rfl (XT.ii_eq_f hc22) (XS.aloadN X33.here hx rfl (hb hby d10_25) rfl rfl kc_)) ?_
      show own_Ends p e below s _ _ _ (T33.setTop (mkF m 26 #[.val (.ref oo), .val (.int x), .val (.int (15 : Int32)), .val (.int (Int32.ofNat (own_pl x j)))] [(.ref oo)]))
      obtain ⟨T34, X34, e34, st34⟩ := getF X33 hx hZ hown (host := "") (Or.inl (hw _ (List.mem_of_getElem? (i := 45) rfl))) Via.refl e33 fT (g := (mkF m 26 #[.val (.ref oo), .val (.int x), .val (.int (15 : Int32)), .val (.int (Int32.ofNat (own_pl x j)))] [(.ref oo)])) rfl rfl (hb hby d10_26)
      refine own_step (fun _ kc_ => st34 _ kc_) ?_
      show own_Ends p e below s _ _ _ (T34.setTop (mkF m 29 #[.val (.ref oo), .val (.int x), .val (.int (15 : Int32)), .val (.int (Int32.ofNat (own_pl x j)))] [(.ref ta)]))
      refine own_step (fun _ kc_ => XS.iloadN X34.here hx rfl (hb hby d10_29) rfl (own_iaload X34 hx hZ e34 A0 (j := (Int32.ofNat (own_pl x j))) (own_nn (own_pl_lt31 x j)) (i := own_pl x j) (own_nc (own_pl_lt31 x j)) (v := (.int (own_pr ts x j))) (own_rd hl x j) (hb hby d10_30) _ (XS.iconst X34.here hx rfl (hb hby d10_31) (XS.icmpYes X34.here hx rfl (pc0 := 32) (pc' := 44) rfl (hb hby d10_32) rfl (XT.ii_eq_t (hf.1.resolve_left hc22 : (own_pr ts x j) = (-1 : Int32))) (by decide) (by decide) (XS.iloadN X34.here hx rfl (hb hby d10_44) rfl kc_))))) ?_
      show own_Ends p e below s _ _ _ (T34.setTop (mkF m 45 #[.val (.ref oo), .val (.int x), .val (.int (15 : Int32)), .val (.int (Int32.ofNat (own_pl x j)))] [(.int (Int32.ofNat (own_pl x j)))]))
      exact own_retI X34 hx hret hlk (hb hby d10_45) hcc hss (by rw [e34]; exact hq _ N0)
  | succ r ih =>
    intro j hj T locs cells slots hcc hss X e0 N0
    show own_Ends p e below s _ _ _ (T.setTop (mkF m 15 #[.val (.ref oo), .val (.int x), .val (.int (15 : Int32)), .val (.int (Int32.ofNat (own_pl x j)))] []))
    refine own_step (fun _ kc_ => XS.aloadN X.here hx rfl (hb hby d10_15) rfl rfl kc_) ?_
    show own_Ends p e below s _ _ _ (T.setTop (mkF m 16 #[.val (.ref oo), .val (.int x), .val (.int (15 : Int32)), .val (.int (Int32.ofNat (own_pl x j)))] [(.ref oo)]))
    obtain ⟨T35, X35, e35, st35⟩ := getF X hx hZ hown (host := "") (Or.inl (hw _ (List.mem_of_getElem? (i := 45) rfl))) Via.refl e0 fT (g := (mkF m 16 #[.val (.ref oo), .val (.int x), .val (.int (15 : Int32)), .val (.int (Int32.ofNat (own_pl x j)))] [(.ref oo)])) rfl rfl (hb hby d10_16)
    refine own_step (fun _ kc_ => st35 _ kc_) ?_
    show own_Ends p e below s _ _ _ (T35.setTop (mkF m 19 #[.val (.ref oo), .val (.int x), .val (.int (15 : Int32)), .val (.int (Int32.ofNat (own_pl x j)))] [(.ref ta)]))
    refine own_step (fun _ kc_ => XS.iloadN X35.here hx rfl (hb hby d10_19) rfl (own_iaload X35 hx hZ e35 A0 (j := (Int32.ofNat (own_pl x j))) (own_nn (own_pl_lt31 x j)) (i := own_pl x j) (own_nc (own_pl_lt31 x j)) (v := (.int (own_pr ts x j))) (own_rd hl x j) (hb hby d10_20) _ (XS.iloadN X35.here hx rfl (hb hby d10_21) rfl (XS.icmpNo X35.here hx rfl (hb hby d10_22) rfl (XT.ii_eq_f ((hf.2 j (by omega)).1 : ¬ ((own_pr ts x j) = x))) (XS.aloadN X35.here hx rfl (hb hby d10_25) rfl rfl kc_))))) ?_
    show own_Ends p e below s _ _ _ (T35.setTop (mkF m 26 #[.val (.ref oo), .val (.int x), .val (.int (15 : Int32)), .val (.int (Int32.ofNat (own_pl x j)))] [(.ref oo)]))
    obtain ⟨T36, X36, e36, st36⟩ := getF X35 hx hZ hown (host := "") (Or.inl (hw _ (List.mem_of_getElem? (i := 45) rfl))) Via.refl e35 fT (g := (mkF m 26 #[.val (.ref oo), .val (.int x), .val (.int (15 : Int32)), .val (.int (Int32.ofNat (own_pl x j)))] [(.ref oo)])) rfl rfl (hb hby d10_26)
    refine own_step (fun _ kc_ => st36 _ kc_) ?_
    show own_Ends p e below s _ _ _ (T36.setTop (mkF m 29 #[.val (.ref oo), .val (.int x), .val (.int (15 : Int32)), .val (.int (Int32.ofNat (own_pl x j)))] [(.ref ta)]))
    refine own_step (fun _ kc_ => XS.iloadN X36.here hx rfl (hb hby d10_29) rfl (own_iaload X36 hx hZ e36 A0 (j := (Int32.ofNat (own_pl x j))) (own_nn (own_pl_lt31 x j)) (i := own_pl x j) (own_nc (own_pl_lt31 x j)) (v := (.int (own_pr ts x j))) (own_rd hl x j) (hb hby d10_30) _ (XS.iconst X36.here hx rfl (hb hby d10_31) (XS.icmpNo X36.here hx rfl (hb hby d10_32) rfl (XT.ii_eq_f ((hf.2 j (by omega)).2 : ¬ ((own_pr ts x j) = (-1 : Int32)))) (XS.iloadN X36.here hx rfl (hb hby d10_35) rfl (XS.iconst X36.here hx rfl (hb hby d10_36) (XS.iadd X36.here hx rfl (hb hby d10_37) rfl (XS.iloadN X36.here hx rfl (hb hby d10_38) rfl kc_)))))))) ?_
    show own_Ends p e below s _ _ _ (T36.setTop (mkF m 39 #[.val (.ref oo), .val (.int x), .val (.int (15 : Int32)), .val (.int (Int32.ofNat (own_pl x j)))] [(.int (15 : Int32)), (.int ((Int32.ofNat (own_pl x j)) + (1 : Int32)))]))
    refine own_step (fun _ kc_ => XS.iand X36.here hx rfl (hb hby d10_39) rfl (XS.istoreN X36.here hx rfl (hb hby d10_40) rfl (l' := #[.val (.ref oo), .val (.int x), .val (.int (15 : Int32)), .val (.int (((Int32.ofNat (own_pl x j)) + (1 : Int32)) &&& (15 : Int32)))]) rfl (XS.goto X36.here hx rfl (pc0 := 41) (pc' := 15) rfl (hb hby d10_41) (by decide) (by decide) kc_))) ?_
    show own_Ends p e below s _ _ _ (T36.setTop (mkF m 15 #[.val (.ref oo), .val (.int x), .val (.int (15 : Int32)), .val (.int (((Int32.ofNat (own_pl x j)) + (1 : Int32)) &&& (15 : Int32)))] []))
    rw [own_nextpl x j]
    exact ih (j + 1) (by omega) hcc hss X36 e36 N0
theorem ef_rm10 (m : MethodId) (oo : Addr) (x : Int32) : entryFrame m #[(.ref oo), (.int x)] 4 = mkF m 0 #[.val (.ref oo), .val (.int x), .unset, .unset] [] := by first | (simp [entryFrame, mkF, argsToLocals, Value.category]; done) | rfl
def Q10 (Z : State) (oo : Addr) (x : Int32) (ta : Addr) (ts : List Int32) (k : Nat) (h0 : Heap) (n0 : Nat) (v : Option Value) (h : Heap) (L : List Loc) : Prop := v = some (.int (Int32.ofNat (own_pl x k))) ∧ Fr n0 L ∧ h = h0
set_option maxRecDepth 65536 in
set_option maxHeartbeats 40000000 in
theorem rm10 (l : Launch) (Z : State) (a0 : Array Value) (hw : ∀ d ∈ tables_1, d.before a0 Z = true) (ws : List Jvm.Cond) (oo : Addr) (x : Int32) (ta : Addr) (ts : List Int32) (k : Nat) (h0 : Heap) (n0 : Nat) (Z0 : n0 ≤ h0.size) (fT : Fld Z h0 oo "com/example/kinds_by_value/kindsbyvalue/NameSet" "table" "[I" (.ref ta)) (A0 : own_Ar Z h0 ta .int (ts.map Value.int)) (hl : ts.length = 16) (hf : own_fin ts x k) :
    MetFree l (⟨"com/example/kinds_by_value/kindsbyvalue/NameSet", "placeOf", "(I)I"⟩ : MethodName) (head1 (Jvm.Cond.code (⟨"com/example/kinds_by_value/kindsbyvalue/NameSet", "placeOf", "(I)I"⟩ : MethodName) prog_9_method_10_code 4 (some .int) :: ws) ({ frames := 1, cells := 0, slots := 0, locals := 13 } : Room)) (fun a U => a = #[(.ref oo), (.int x)] ∧ Z.Warmed39 U.vm ∧ U.heap = h0) (fun _ _ _ _ _ => True) (fun _ U o U' => ∃ v L, o = .returned v ∧ Q10 Z oo x ta ts k h0 n0 v U'.heap L ∧ FrameEnd U o U' L ({ frames := 1, cells := 0, slots := 0, locals := 13 } : Room).cells ({ frames := 1, cells := 0, slots := 0, locals := 13 } : Room).slots) := by
  refine MetFree.of_bodySF (plainFor_of_name pn_2) hisR ?_
  intro p e s m args below meth c s₁ Bd hml0 hP hK
  obtain ⟨rfl, hZ, hh⟩ := hP
  have hx := Bd.exec
  have hby := Bd.bytes
  have hlk : meth.locks = false := BodyLoose.notSynchronized Bd
  have hret := Bd.returns
  have hml : c.maxLocals = 4 := hml0
  have hown : s.vm.findClass "com/example/kinds_by_value/kindsbyvalue/NameSet" = some m.cls := findClass_of_methodNamed Bd.named
  have hnm := (name_of_methodNamed Bd.named Bd.method).1
  have X0 : Stand p l e ({ frames := 1, cells := 0, slots := 0, locals := 13 } : Room) s m #[(.ref oo), (.int x)] below meth c s₁ [] 0 0 := Stand.of_body Bd
  have e0 : s₁.heap = h0 := by rw [← hh, Bd.state]; rfl
  have N0 := Fr.nil n0
  show own_Ends p e below s 0 0 (Q10 Z oo x ta ts k h0 n0) (s₁.setTop (entryFrame m #[(.ref oo), (.int x)] 4))
  refine own_step (fun t k => castTop (ef_rm10 m oo x) k) ?_
  show own_Ends p e below s _ _ _ (s₁.setTop (mkF m 0 #[.val (.ref oo), .val (.int x), .unset, .unset] []))
  refine own_step (fun _ kc_ => XS.aloadN X0.here hx rfl (hb hby d10_0) rfl rfl kc_) ?_
  show own_Ends p e below s _ _ _ (s₁.setTop (mkF m 1 #[.val (.ref oo), .val (.int x), .unset, .unset] [(.ref oo)]))
  obtain ⟨T37, X37, e37, st37⟩ := getF X0 hx hZ hown (host := "") (Or.inl (hw _ (List.mem_of_getElem? (i := 45) rfl))) Via.refl e0 fT (g := (mkF m 1 #[.val (.ref oo), .val (.int x), .unset, .unset] [(.ref oo)])) rfl rfl (hb hby d10_1)
  refine own_step (fun _ kc_ => st37 _ kc_) ?_
  show own_Ends p e below s _ _ _ (T37.setTop (mkF m 4 #[.val (.ref oo), .val (.int x), .unset, .unset] [(.ref ta)]))
  refine own_step (fun _ kc_ => own_alen X37 hx hZ e37 A0 (n := 16) (z := (16 : Int32)) (by rw [List.length_map]; exact hl) rfl (hb hby d10_4) _ (XS.iconst X37.here hx rfl (hb hby d10_5) (XS.isub X37.here hx rfl (hb hby d10_6) rfl kc_))) ?_
  show own_Ends p e below s _ _ _ (T37.setTop (mkF m 7 #[.val (.ref oo), .val (.int x), .unset, .unset] [(.int ((16 : Int32) - (1 : Int32)))]))
  rw [show ((16 : Int32) - (1 : Int32)) = (15 : Int32) from by decide]
  show own_Ends p e below s _ _ _ (T37.setTop (mkF m 7 #[.val (.ref oo), .val (.int x), .unset, .unset] [(.int (15 : Int32))]))
  refine own_step (fun _ kc_ => XS.istoreN X37.here hx rfl (hb hby d10_7) rfl (l' := #[.val (.ref oo), .val (.int x), .val (.int (15 : Int32)), .unset]) rfl (XS.iloadN X37.here hx rfl (hb hby d10_8) rfl kc_)) ?_
  show own_Ends p e below s _ _ _ (T37.setTop (mkF m 9 #[.val (.ref oo), .val (.int x), .val (.int (15 : Int32)), .unset] [(.int x)]))
  obtain ⟨_, _, ⟨T38, L38, k38, n38⟩, -, X38, ⟨Lc38, hQ38, l38, y38, z38⟩, st38⟩ := Jvm.LawKit.callS X37 hx (y := (⟨"com/example/kinds_by_value/kindsbyvalue/Hashes", "spread", "(I)I"⟩ : MethodName)) hown (mvT hZ (hw _ (List.mem_of_getElem? (i := 34) rfl))) (mvT hZ (hw _ (List.mem_of_getElem? (i := 35) rfl))) (mvT hZ (hw _ (List.mem_of_getElem? (i := 36) rfl))) (mvT hZ (hw _ (List.mem_of_getElem? (i := 37) rfl))) (by decide) (backOf (W := 0) (rm6 l Z a0 hw [] x  h0 n0 Z0 ) hZ (hw _ (List.mem_of_getElem? (i := 37) rfl)) (hw _ (List.mem_of_getElem? (i := 36) rfl)) (by decide) (by decide)) (g := (mkF m 9 #[.val (.ref oo), .val (.int x), .val (.int (15 : Int32)), .unset] [(.int x)])) rfl (by rw [hml]; rfl) (argsL := [(.int x)]) (rest := []) (lenOf pd_3 rfl) rfl (by show 2 * 0 + _ ≤ _; exact Nat.le_of_eq rfl) (hb hby d10_9) (fun _ _ => ⟨rfl, e37, (by decide : 0 + 0 ≤ _), (by decide : 0 + 0 ≤ _)⟩)
  dsimp only [Pt.U, Pt.locs, Pt.cells, Pt.slots] at X38 l38 y38 z38 st38 hQ38
  subst l38 y38 z38
  obtain ⟨rfl, N38q, e38⟩ := hQ38
  have e38h : T38.heap = h0 := e38
  have N38 := Fr.app N0 N38q
  refine own_step (fun _ kc_ => st38 _ kc_) ?_
  show own_Ends p e below s _ _ _ (T38.setTop (mkF m 12 #[.val (.ref oo), .val (.int x), .val (.int (15 : Int32)), .unset] [(.int (own_sp x))]))
  refine own_step (fun _ kc_ => XS.iloadN X38.here hx rfl (hb hby d10_12) rfl (XS.iand X38.here hx rfl (hb hby d10_13) rfl (XS.istoreN X38.here hx rfl (hb hby d10_14) rfl (l' := #[.val (.ref oo), .val (.int x), .val (.int (15 : Int32)), .val (.int ((own_sp x) &&& (15 : Int32)))]) rfl kc_))) ?_
  show own_Ends p e below s _ _ _ (T38.setTop (mkF m 15 #[.val (.ref oo), .val (.int x), .val (.int (15 : Int32)), .val (.int ((own_sp x) &&& (15 : Int32)))] []))
  rw [show own_sp x &&& (15 : Int32) = Int32.ofNat (own_pl x 0) from own_pl0 x]
  exact own_ploop hw hZ hx hby hlk hret hml hown fT A0 hl hf (fun L hL => ⟨rfl, hL, rfl⟩) k 0 (by omega) (Nat.le_refl _) (Nat.le_refl _) X38 e38h N38
theorem ef_rmCT1 (m : MethodId) (oo : Addr) (x : Int32) : entryFrame m #[(.ref oo), (.int x)] 3 = mkF m 0 #[.val (.ref oo), .val (.int x), .unset] [] := by first | (simp [entryFrame, mkF, argsToLocals, Value.category]; done) | rfl
def QCT1 (Z : State) (oo : Addr) (x : Int32) (ta : Addr) (ts : List Int32) (k : Nat) (h0 : Heap) (n0 : Nat) (v : Option Value) (h : Heap) (L : List Loc) : Prop := v = some (.int (1 : Int32)) ∧ Fr n0 L ∧ h = h0
set_option maxRecDepth 65536 in
set_option maxHeartbeats 40000000 in
theorem rmCT1 (l : Launch) (Z : State) (a0 : Array Value) (hw : ∀ d ∈ tables_1, d.before a0 Z = true) (ws : List Jvm.Cond) (oo : Addr) (x : Int32) (ta : Addr) (ts : List Int32) (k : Nat) (h0 : Heap) (n0 : Nat) (Z0 : n0 ≤ h0.size) (E0 : Exa Z h0 oo "com/example/kinds_by_value/kindsbyvalue/NameSet") (f0 : Fld Z h0 oo "com/example/kinds_by_value/kindsbyvalue/NameSet" "everyName" "Z" (.int (0 : Int32))) (f1 : Fld Z h0 oo "com/example/kinds_by_value/kindsbyvalue/NameSet" "bits" "[J" .null) (f2 : Fld Z h0 oo "com/example/kinds_by_value/kindsbyvalue/NameSet" "table" "[I" (.ref ta)) (A0 : own_Ar Z h0 ta .int (ts.map Value.int)) (hl : ts.length = 16) (hf : own_fin ts x k) (hr : own_pr ts x k = x) :
    MetFree l (⟨"com/example/kinds_by_value/kindsbyvalue/NameSet", "contains", "(I)Z"⟩ : MethodName) (head1 (Jvm.Cond.code (⟨"com/example/kinds_by_value/kindsbyvalue/NameSet", "contains", "(I)Z"⟩ : MethodName) prog_9_method_2_code 3 (some .boolean) :: ws) ({ frames := 2, cells := 0, slots := 0, locals := 29 } : Room)) (fun a U => a = #[(.ref oo), (.int x)] ∧ Z.Warmed39 U.vm ∧ U.heap = h0) (fun _ _ _ _ _ => True) (fun _ U o U' => ∃ v L, o = .returned v ∧ QCT1 Z oo x ta ts k h0 n0 v U'.heap L ∧ FrameEnd U o U' L ({ frames := 2, cells := 0, slots := 0, locals := 29 } : Room).cells ({ frames := 2, cells := 0, slots := 0, locals := 29 } : Room).slots) := by
  refine MetFree.of_bodySF (plainFor_of_name pn_2) hisR ?_
  intro p e s m args below meth c s₁ Bd hml0 hP hK
  obtain ⟨rfl, hZ, hh⟩ := hP
  have hx := Bd.exec
  have hby := Bd.bytes
  have hlk : meth.locks = false := BodyLoose.notSynchronized Bd
  have hret := Bd.returns
  have hml : c.maxLocals = 3 := hml0
  have hown : s.vm.findClass "com/example/kinds_by_value/kindsbyvalue/NameSet" = some m.cls := findClass_of_methodNamed Bd.named
  have hnm := (name_of_methodNamed Bd.named Bd.method).1
  have X0 : Stand p l e ({ frames := 2, cells := 0, slots := 0, locals := 29 } : Room) s m #[(.ref oo), (.int x)] below meth c s₁ [] 0 0 := Stand.of_body Bd
  have e0 : s₁.heap = h0 := by rw [← hh, Bd.state]; rfl
  have N0 := Fr.nil n0
  show own_Ends p e below s 0 0 (QCT1 Z oo x ta ts k h0 n0) (s₁.setTop (entryFrame m #[(.ref oo), (.int x)] 3))
  refine own_step (fun t k => castTop (ef_rmCT1 m oo x) k) ?_
  show own_Ends p e below s _ _ _ (s₁.setTop (mkF m 0 #[.val (.ref oo), .val (.int x), .unset] []))
  refine own_step (fun _ kc_ => XS.aloadN X0.here hx rfl (hb hby d5_0) rfl rfl kc_) ?_
  show own_Ends p e below s _ _ _ (s₁.setTop (mkF m 1 #[.val (.ref oo), .val (.int x), .unset] [(.ref oo)]))
  obtain ⟨T39, X39, e39, st39⟩ := getF X0 hx hZ hown (host := "") (Or.inl (hw _ (List.mem_of_getElem? (i := 18) rfl))) Via.refl e0 f0 (g := (mkF m 1 #[.val (.ref oo), .val (.int x), .unset] [(.ref oo)])) rfl rfl (hb hby d5_1)
  refine own_step (fun _ kc_ => st39 _ kc_) ?_
  show own_Ends p e below s _ _ _ (T39.setTop (mkF m 4 #[.val (.ref oo), .val (.int x), .unset] [(.int (0 : Int32))]))
  refine own_step (fun _ kc_ => XS.ifYes X39.here hx rfl (pc0 := 4) (pc' := 12) rfl (hb hby d5_4) rfl (XT.i0_eq_t (by decide : (0 : Int32) = 0)) (by decide) (by decide) (XS.aloadN X39.here hx rfl (hb hby d5_12) rfl rfl kc_)) ?_
  show own_Ends p e below s _ _ _ (T39.setTop (mkF m 13 #[.val (.ref oo), .val (.int x), .unset] [(.ref oo)]))
  obtain ⟨T40, X40, e40, st40⟩ := getF X39 hx hZ hown (host := "") (Or.inl (hw _ (List.mem_of_getElem? (i := 11) rfl))) Via.refl e39 f1 (g := (mkF m 13 #[.val (.ref oo), .val (.int x), .unset] [(.ref oo)])) rfl rfl (hb hby d5_13)
  refine own_step (fun _ kc_ => st40 _ kc_) ?_
  show own_Ends p e below s _ _ _ (T40.setTop (mkF m 16 #[.val (.ref oo), .val (.int x), .unset] [.null]))
  refine own_step (fun _ kc_ => XS.ifnullYes X40.here hx rfl (pc0 := 16) (pc' := 46) rfl (hb hby d5_16) rfl (by decide) (by decide) (XS.aloadN X40.here hx rfl (hb hby d5_46) rfl rfl kc_)) ?_
  show own_Ends p e below s _ _ _ (T40.setTop (mkF m 47 #[.val (.ref oo), .val (.int x), .unset] [(.ref oo)]))
  obtain ⟨T41, X41, e41, st41⟩ := getF X40 hx hZ hown (host := "") (Or.inl (hw _ (List.mem_of_getElem? (i := 45) rfl))) Via.refl e40 f2 (g := (mkF m 47 #[.val (.ref oo), .val (.int x), .unset] [(.ref oo)])) rfl rfl (hb hby d5_47)
  refine own_step (fun _ kc_ => st41 _ kc_) ?_
  show own_Ends p e below s _ _ _ (T41.setTop (mkF m 50 #[.val (.ref oo), .val (.int x), .unset] [(.ref ta)]))
  refine own_step (fun _ kc_ => XS.aloadN X41.here hx rfl (hb hby d5_50) rfl rfl (XS.iloadN X41.here hx rfl (hb hby d5_51) rfl kc_)) ?_
  show own_Ends p e below s _ _ _ (T41.setTop (mkF m 52 #[.val (.ref oo), .val (.int x), .unset] [(.int x), (.ref oo), (.ref ta)]))
  obtain ⟨cq42, q42, q42'⟩ := (E0).cell
  obtain ⟨_, _, ⟨T42, L42, k42, n42⟩, -, X42, ⟨Lc42, hQ42, l42, y42, z42⟩, st42⟩ := X41.privateBack hx (y := (⟨"com/example/kinds_by_value/kindsbyvalue/NameSet", "placeOf", "(I)I"⟩ : MethodName)) hown (mvT hZ (hw _ (List.mem_of_getElem? (i := 56) rfl))) (mvT hZ (hw _ (List.mem_of_getElem? (i := 57) rfl))) (Jvm.Kit.selects_private (by decide) (mvT hZ (hw _ (List.mem_of_getElem? (i := 2) rfl))) (mvP hZ (hw _ (List.mem_of_getElem? (i := 58) rfl))) (mvT hZ (hw _ (List.mem_of_getElem? (i := 57) rfl)))) (Cond.privateMethod_at (mvP hZ (hw _ (List.mem_of_getElem? (i := 58) rfl)) (args := #[]))) (mvT hZ (hw _ (List.mem_of_getElem? (i := 59) rfl))) (by decide) (backOf (W := 1) (rm10 l Z a0 hw [] oo x ta ts k h0 n0 Z0 f2 A0 hl hf) hZ (hw _ (List.mem_of_getElem? (i := 59) rfl)) (hw _ (List.mem_of_getElem? (i := 3) rfl)) (by decide) (by decide)) (g := (mkF m 52 #[.val (.ref oo), .val (.int x), .unset] [(.int x), (.ref oo), (.ref ta)])) rfl (by rw [hml]; rfl) (Steps.refl _) (a := oo) (by rw [e41]; exact q42) q42' (argsL := [(.int x)]) (rest := [(.ref ta)]) (lenOf pd_3 rfl) rfl (by show 2 * 0 + _ ≤ _; exact Nat.le_of_eq rfl) (hb hby d5_52) (fun _ _ => ⟨rfl, e41, (by decide : 0 + 0 ≤ _), (by decide : 0 + 0 ≤ _)⟩)
  dsimp only [Pt.U, Pt.locs, Pt.cells, Pt.slots] at X42 l42 y42 z42 st42 hQ42
  subst l42 y42 z42
  obtain ⟨rfl, N42q, e42⟩ := hQ42
  have e42h : T42.heap = h0 := e42
  have N42 := Fr.app N0 N42q
  refine own_step (fun _ kc_ => st42.trans kc_) ?_
  show own_Ends p e below s _ _ _ (T42.setTop (mkF m 55 #[.val (.ref oo), .val (.int x), .unset] [(.int (Int32.ofNat (own_pl x k))), (.ref ta)]))
  refine own_step (fun _ kc_ => own_iaload X42 hx hZ e42h A0 (j := (Int32.ofNat (own_pl x k))) (own_nn (own_pl_lt31 x k)) (i := own_pl x k) (own_nc (own_pl_lt31 x k)) (v := (.int (own_pr ts x k))) (own_rd hl x k) (hb hby d5_55) _ (XS.iloadN X42.here hx rfl (hb hby d5_56) rfl (XS.icmpNo X42.here hx rfl (hb hby d5_57) rfl (XT.ii_ne_f (hr : (own_pr ts x k) = x)) (XS.iconst X42.here hx rfl (hb hby d5_60) (XS.goto X42.here hx rfl (pc0 := 61) (pc' := 65) rfl (hb hby d5_61) (by decide) (by decide) (XS.istoreN X42.here hx rfl (hb hby d5_65) rfl (l' := #[.val (.ref oo), .val (.int x), .val (.int (1 : Int32))]) rfl (XS.iloadN X42.here hx rfl (hb hby d5_66) rfl kc_))))))) ?_
  show own_Ends p e below s _ _ _ (T42.setTop (mkF m 67 #[.val (.ref oo), .val (.int x), .val (.int (1 : Int32))] [(.int (1 : Int32))]))
  exact own_retN X42 hx (t := .boolean) hret (by simp) hlk (hb hby d5_67) (by decide) (by decide) rfl ⟨rfl, N42, e42h⟩
theorem ef_rmCT0 (m : MethodId) (oo : Addr) (x : Int32) : entryFrame m #[(.ref oo), (.int x)] 3 = mkF m 0 #[.val (.ref oo), .val (.int x), .unset] [] := by first | (simp [entryFrame, mkF, argsToLocals, Value.category]; done) | rfl
def QCT0 (Z : State) (oo : Addr) (x : Int32) (ta : Addr) (ts : List Int32) (k : Nat) (h0 : Heap) (n0 : Nat) (v : Option Value) (h : Heap) (L : List Loc) : Prop := v = some (.int (0 : Int32)) ∧ Fr n0 L ∧ h = h0
set_option maxRecDepth 65536 in
set_option maxHeartbeats 40000000 in
theorem rmCT0 (l : Launch) (Z : State) (a0 : Array Value) (hw : ∀ d ∈ tables_1, d.before a0 Z = true) (ws : List Jvm.Cond) (oo : Addr) (x : Int32) (ta : Addr) (ts : List Int32) (k : Nat) (h0 : Heap) (n0 : Nat) (Z0 : n0 ≤ h0.size) (E0 : Exa Z h0 oo "com/example/kinds_by_value/kindsbyvalue/NameSet") (f0 : Fld Z h0 oo "com/example/kinds_by_value/kindsbyvalue/NameSet" "everyName" "Z" (.int (0 : Int32))) (f1 : Fld Z h0 oo "com/example/kinds_by_value/kindsbyvalue/NameSet" "bits" "[J" .null) (f2 : Fld Z h0 oo "com/example/kinds_by_value/kindsbyvalue/NameSet" "table" "[I" (.ref ta)) (A0 : own_Ar Z h0 ta .int (ts.map Value.int)) (hl : ts.length = 16) (hf : own_fin ts x k) (hr : ¬ own_pr ts x k = x) :
    MetFree l (⟨"com/example/kinds_by_value/kindsbyvalue/NameSet", "contains", "(I)Z"⟩ : MethodName) (head1 (Jvm.Cond.code (⟨"com/example/kinds_by_value/kindsbyvalue/NameSet", "contains", "(I)Z"⟩ : MethodName) prog_9_method_2_code 3 (some .boolean) :: ws) ({ frames := 2, cells := 0, slots := 0, locals := 29 } : Room)) (fun a U => a = #[(.ref oo), (.int x)] ∧ Z.Warmed39 U.vm ∧ U.heap = h0) (fun _ _ _ _ _ => True) (fun _ U o U' => ∃ v L, o = .returned v ∧ QCT0 Z oo x ta ts k h0 n0 v U'.heap L ∧ FrameEnd U o U' L ({ frames := 2, cells := 0, slots := 0, locals := 29 } : Room).cells ({ frames := 2, cells := 0, slots := 0, locals := 29 } : Room).slots) := by
  refine MetFree.of_bodySF (plainFor_of_name pn_2) hisR ?_
  intro p e s m args below meth c s₁ Bd hml0 hP hK
  obtain ⟨rfl, hZ, hh⟩ := hP
  have hx := Bd.exec
  have hby := Bd.bytes
  have hlk : meth.locks = false := BodyLoose.notSynchronized Bd
  have hret := Bd.returns
  have hml : c.maxLocals = 3 := hml0
  have hown : s.vm.findClass "com/example/kinds_by_value/kindsbyvalue/NameSet" = some m.cls := findClass_of_methodNamed Bd.named
  have hnm := (name_of_methodNamed Bd.named Bd.method).1
  have X0 : Stand p l e ({ frames := 2, cells := 0, slots := 0, locals := 29 } : Room) s m #[(.ref oo), (.int x)] below meth c s₁ [] 0 0 := Stand.of_body Bd
  have e0 : s₁.heap = h0 := by rw [← hh, Bd.state]; rfl
  have N0 := Fr.nil n0
  show own_Ends p e below s 0 0 (QCT0 Z oo x ta ts k h0 n0) (s₁.setTop (entryFrame m #[(.ref oo), (.int x)] 3))
  refine own_step (fun t k => castTop (ef_rmCT0 m oo x) k) ?_
  show own_Ends p e below s _ _ _ (s₁.setTop (mkF m 0 #[.val (.ref oo), .val (.int x), .unset] []))
  refine own_step (fun _ kc_ => XS.aloadN X0.here hx rfl (hb hby d5_0) rfl rfl kc_) ?_
  show own_Ends p e below s _ _ _ (s₁.setTop (mkF m 1 #[.val (.ref oo), .val (.int x), .unset] [(.ref oo)]))
  obtain ⟨T43, X43, e43, st43⟩ := getF X0 hx hZ hown (host := "") (Or.inl (hw _ (List.mem_of_getElem? (i := 18) rfl))) Via.refl e0 f0 (g := (mkF m 1 #[.val (.ref oo), .val (.int x), .unset] [(.ref oo)])) rfl rfl (hb hby d5_1)
  refine own_step (fun _ kc_ => st43 _ kc_) ?_
  show own_Ends p e below s _ _ _ (T43.setTop (mkF m 4 #[.val (.ref oo), .val (.int x), .unset] [(.int (0 : Int32))]))
  refine own_step (fun _ kc_ => XS.ifYes X43.here hx rfl (pc0 := 4) (pc' := 12) rfl (hb hby d5_4) rfl (XT.i0_eq_t (by decide : (0 : Int32) = 0)) (by decide) (by decide) (XS.aloadN X43.here hx rfl (hb hby d5_12) rfl rfl kc_)) ?_
  show own_Ends p e below s _ _ _ (T43.setTop (mkF m 13 #[.val (.ref oo), .val (.int x), .unset] [(.ref oo)]))
  obtain ⟨T44, X44, e44, st44⟩ := getF X43 hx hZ hown (host := "") (Or.inl (hw _ (List.mem_of_getElem? (i := 11) rfl))) Via.refl e43 f1 (g := (mkF m 13 #[.val (.ref oo), .val (.int x), .unset] [(.ref oo)])) rfl rfl (hb hby d5_13)
  refine own_step (fun _ kc_ => st44 _ kc_) ?_
  show own_Ends p e below s _ _ _ (T44.setTop (mkF m 16 #[.val (.ref oo), .val (.int x), .unset] [.null]))
  refine own_step (fun _ kc_ => XS.ifnullYes X44.here hx rfl (pc0 := 16) (pc' := 46) rfl (hb hby d5_16) rfl (by decide) (by decide) (XS.aloadN X44.here hx rfl (hb hby d5_46) rfl rfl kc_)) ?_
  show own_Ends p e below s _ _ _ (T44.setTop (mkF m 47 #[.val (.ref oo), .val (.int x), .unset] [(.ref oo)]))
  obtain ⟨T45, X45, e45, st45⟩ := getF X44 hx hZ hown (host := "") (Or.inl (hw _ (List.mem_of_getElem? (i := 45) rfl))) Via.refl e44 f2 (g := (mkF m 47 #[.val (.ref oo), .val (.int x), .unset] [(.ref oo)])) rfl rfl (hb hby d5_47)
  refine own_step (fun _ kc_ => st45 _ kc_) ?_
  show own_Ends p e below s _ _ _ (T45.setTop (mkF m 50 #[.val (.ref oo), .val (.int x), .unset] [(.ref ta)]))
  refine own_step (fun _ kc_ => XS.aloadN X45.here hx rfl (hb hby d5_50) rfl rfl (XS.iloadN X45.here hx rfl (hb hby d5_51) rfl kc_)) ?_
  show own_Ends p e below s _ _ _ (T45.setTop (mkF m 52 #[.val (.ref oo), .val (.int x), .unset] [(.int x), (.ref oo), (.ref ta)]))
  obtain ⟨cq46, q46, q46'⟩ := (E0).cell
  obtain ⟨_, _, ⟨T46, L46, k46, n46⟩, -, X46, ⟨Lc46, hQ46, l46, y46, z46⟩, st46⟩ := X45.privateBack hx (y := (⟨"com/example/kinds_by_value/kindsbyvalue/NameSet", "placeOf", "(I)I"⟩ : MethodName)) hown (mvT hZ (hw _ (List.mem_of_getElem? (i := 56) rfl))) (mvT hZ (hw _ (List.mem_of_getElem? (i := 57) rfl))) (Jvm.Kit.selects_private (by decide) (mvT hZ (hw _ (List.mem_of_getElem? (i := 2) rfl))) (mvP hZ (hw _ (List.mem_of_getElem? (i := 58) rfl))) (mvT hZ (hw _ (List.mem_of_getElem? (i := 57) rfl)))) (Cond.privateMethod_at (mvP hZ (hw _ (List.mem_of_getElem? (i := 58) rfl)) (args := #[]))) (mvT hZ (hw _ (List.mem_of_getElem? (i := 59) rfl))) (by decide) (backOf (W := 1) (rm10 l Z a0 hw [] oo x ta ts k h0 n0 Z0 f2 A0 hl hf) hZ (hw _ (List.mem_of_getElem? (i := 59) rfl)) (hw _ (List.mem_of_getElem? (i := 3) rfl)) (by decide) (by decide)) (g := (mkF m 52 #[.val (.ref oo), .val (.int x), .unset] [(.int x), (.ref oo), (.ref ta)])) rfl (by rw [hml]; rfl) (Steps.refl _) (a := oo) (by rw [e45]; exact q46) q46' (argsL := [(.int x)]) (rest := [(.ref ta)]) (lenOf pd_3 rfl) rfl (by show 2 * 0 + _ ≤ _; exact Nat.le_of_eq rfl) (hb hby d5_52) (fun _ _ => ⟨rfl, e45, (by decide : 0 + 0 ≤ _), (by decide : 0 + 0 ≤ _)⟩)
  dsimp only [Pt.U, Pt.locs, Pt.cells, Pt.slots] at X46 l46 y46 z46 st46 hQ46
  subst l46 y46 z46
  obtain ⟨rfl, N46q, e46⟩ := hQ46
  have e46h : T46.heap = h0 := e46
  have N46 := Fr.app N0 N46q
  refine own_step (fun _ kc_ => st46.trans kc_) ?_
  show own_Ends p e below s _ _ _ (T46.setTop (mkF m 55 #[.val (.ref oo), .val (.int x), .unset] [(.int (Int32.ofNat (own_pl x k))), (.ref ta)]))
  refine own_step (fun _ kc_ => own_iaload X46 hx hZ e46h A0 (j := (Int32.ofNat (own_pl x k))) (own_nn (own_pl_lt31 x k)) (i := own_pl x k) (own_nc (own_pl_lt31 x k)) (v := (.int (own_pr ts x k))) (own_rd hl x k) (hb hby d5_55) _ (XS.iloadN X46.here hx rfl (hb hby d5_56) rfl (XS.icmpYes X46.here hx rfl (pc0 := 57) (pc' := 64) rfl (hb hby d5_57) rfl (XT.ii_ne_t (hr : ¬ ((own_pr ts x k) = x))) (by decide) (by decide) (XS.iconst X46.here hx rfl (hb hby d5_64) (XS.istoreN X46.here hx rfl (hb hby d5_65) rfl (l' := #[.val (.ref oo), .val (.int x), .val (.int (0 : Int32))]) rfl (XS.iloadN X46.here hx rfl (hb hby d5_66) rfl kc_)))))) ?_
  show own_Ends p e below s _ _ _ (T46.setTop (mkF m 67 #[.val (.ref oo), .val (.int x), .val (.int (0 : Int32))] [(.int (0 : Int32))]))
  exact own_retN X46 hx (t := .boolean) hret (by simp) hlk (hb hby d5_67) (by decide) (by decide) rfl ⟨rfl, N46, e46h⟩
theorem ef_rmCB1 (m : MethodId) (oo : Addr) (x : Int32) : entryFrame m #[(.ref oo), (.int x)] 3 = mkF m 0 #[.val (.ref oo), .val (.int x), .unset] [] := by first | (simp [entryFrame, mkF, argsToLocals, Value.category]; done) | rfl
def QCB1 (Z : State) (oo : Addr) (x : Int32) (ba : Addr) (ls : List Int64) (h0 : Heap) (n0 : Nat) (v : Option Value) (h : Heap) (L : List Loc) : Prop := v = some (.int (1 : Int32)) ∧ Fr n0 L ∧ h = h0
set_option maxRecDepth 65536 in
set_option maxHeartbeats 40000000 in
theorem rmCB1 (l : Launch) (Z : State) (a0 : Array Value) (hw : ∀ d ∈ tables_1, d.before a0 Z = true) (ws : List Jvm.Cond) (oo : Addr) (x : Int32) (ba : Addr) (ls : List Int64) (h0 : Heap) (n0 : Nat) (Z0 : n0 ≤ h0.size) (E0 : Exa Z h0 oo "com/example/kinds_by_value/kindsbyvalue/NameSet") (f0 : Fld Z h0 oo "com/example/kinds_by_value/kindsbyvalue/NameSet" "everyName" "Z" (.int (0 : Int32))) (f1 : Fld Z h0 oo "com/example/kinds_by_value/kindsbyvalue/NameSet" "bits" "[J" (.ref ba)) (A0 : own_Ar Z h0 ba .long (ls.map Value.long)) (hx0 : 0 ≤ x.toInt) (hx1 : own_q x < ls.length) (hr : ¬ ls.getD (own_q x) 0 &&& own_w x = 0) :
    MetFree l (⟨"com/example/kinds_by_value/kindsbyvalue/NameSet", "contains", "(I)Z"⟩ : MethodName) (head1 (Jvm.Cond.code (⟨"com/example/kinds_by_value/kindsbyvalue/NameSet", "contains", "(I)Z"⟩ : MethodName) prog_9_method_2_code 3 (some .boolean) :: ws) ({ frames := 0, cells := 0, slots := 0, locals := 0 } : Room)) (fun a U => a = #[(.ref oo), (.int x)] ∧ Z.Warmed39 U.vm ∧ U.heap = h0) (fun _ _ _ _ _ => True) (fun _ U o U' => ∃ v L, o = .returned v ∧ QCB1 Z oo x ba ls h0 n0 v U'.heap L ∧ FrameEnd U o U' L ({ frames := 0, cells := 0, slots := 0, locals := 0 } : Room).cells ({ frames := 0, cells := 0, slots := 0, locals := 0 } : Room).slots) := by
  refine MetFree.of_bodySF (plainFor_of_name pn_2) hisR ?_
  intro p e s m args below meth c s₁ Bd hml0 hP hK
  obtain ⟨rfl, hZ, hh⟩ := hP
  have hx := Bd.exec
  have hby := Bd.bytes
  have hlk : meth.locks = false := BodyLoose.notSynchronized Bd
  have hret := Bd.returns
  have hml : c.maxLocals = 3 := hml0
  have hown : s.vm.findClass "com/example/kinds_by_value/kindsbyvalue/NameSet" = some m.cls := findClass_of_methodNamed Bd.named
  have hnm := (name_of_methodNamed Bd.named Bd.method).1
  have X0 : Stand p l e ({ frames := 0, cells := 0, slots := 0, locals := 0 } : Room) s m #[(.ref oo), (.int x)] below meth c s₁ [] 0 0 := Stand.of_body Bd
  have e0 : s₁.heap = h0 := by rw [← hh, Bd.state]; rfl
  have N0 := Fr.nil n0
  show own_Ends p e below s 0 0 (QCB1 Z oo x ba ls h0 n0) (s₁.setTop (entryFrame m #[(.ref oo), (.int x)] 3))
  refine own_step (fun t k => castTop (ef_rmCB1 m oo x) k) ?_
  show own_Ends p e below s _ _ _ (s₁.setTop (mkF m 0 #[.val (.ref oo), .val (.int x), .unset] []))
  refine own_step (fun _ kc_ => XS.aloadN X0.here hx rfl (hb hby d5_0) rfl rfl kc_) ?_
  show own_Ends p e below s _ _ _ (s₁.setTop (mkF m 1 #[.val (.ref oo), .val (.int x), .unset] [(.ref oo)]))
  obtain ⟨T47, X47, e47, st47⟩ := getF X0 hx hZ hown (host := "") (Or.inl (hw _ (List.mem_of_getElem? (i := 18) rfl))) Via.refl e0 f0 (g := (mkF m 1 #[.val (.ref oo), .val (.int x), .unset] [(.ref oo)])) rfl rfl (hb hby d5_1)
  refine own_step (fun _ kc_ => st47 _ kc_) ?_
  show own_Ends p e below s _ _ _ (T47.setTop (mkF m 4 #[.val (.ref oo), .val (.int x), .unset] [(.int (0 : Int32))]))
  refine own_step (fun _ kc_ => XS.ifYes X47.here hx rfl (pc0 := 4) (pc' := 12) rfl (hb hby d5_4) rfl (XT.i0_eq_t (by decide : (0 : Int32) = 0)) (by decide) (by decide) (XS.aloadN X47.here hx rfl (hb hby d5_12) rfl rfl kc_)) ?_
  show own_Ends p e below s _ _ _ (T47.setTop (mkF m 13 #[.val (.ref oo), .val (.int x), .unset] [(.ref oo)]))
  obtain ⟨T48, X48, e48, st48⟩ := getF X47 hx hZ hown (host := "") (Or.inl (hw _ (List.mem_of_getElem? (i := 11) rfl))) Via.refl e47 f1 (g := (mkF m 13 #[.val (.ref oo), .val (.int x), .unset] [(.ref oo)])) rfl rfl (hb hby d5_13)
  refine own_step (fun _ kc_ => st48 _ kc_) ?_
  show own_Ends p e below s _ _ _ (T48.setTop (mkF m 16 #[.val (.ref oo), .val (.int x), .unset] [(.ref ba)]))
  refine own_step (fun _ kc_ => XS.ifnullNo X48.here hx rfl (hb hby d5_16) rfl (XS.aloadN X48.here hx rfl (hb hby d5_19) rfl rfl kc_)) ?_
  show own_Ends p e below s _ _ _ (T48.setTop (mkF m 20 #[.val (.ref oo), .val (.int x), .unset] [(.ref oo)]))
  obtain ⟨T49, X49, e49, st49⟩ := getF X48 hx hZ hown (host := "") (Or.inl (hw _ (List.mem_of_getElem? (i := 11) rfl))) Via.refl e48 f1 (g := (mkF m 20 #[.val (.ref oo), .val (.int x), .unset] [(.ref oo)])) rfl rfl (hb hby d5_20)
  refine own_step (fun _ kc_ => st49 _ kc_) ?_
  show own_Ends p e below s _ _ _ (T49.setTop (mkF m 23 #[.val (.ref oo), .val (.int x), .unset] [(.ref ba)]))
  refine own_step (fun _ kc_ => XS.iloadN X49.here hx rfl (hb hby d5_23) rfl (XS.bipush X49.here hx rfl (hb hby d5_24) (XS.idiv X49.here hx rfl (hb hby d5_26) rfl (by decide) (own_laload X49 hx hZ e49 A0 (j := (x / (64 : Int32))) (own_div x hx0).1 (i := own_q x) (own_div x hx0).2 (v := (.long (ls.getD (own_q x) 0))) (own_rdL hx1) (hb hby d5_27) _ (XS.lconst X49.here hx rfl (hb hby d5_28) (XS.iloadN X49.here hx rfl (hb hby d5_29) rfl (XS.lshl X49.here hx rfl (hb hby d5_30) rfl (XS.land X49.here hx rfl (hb hby d5_31) rfl kc_)))))))) ?_
  show own_Ends p e below s _ _ _ (T49.setTop (mkF m 32 #[.val (.ref oo), .val (.int x), .unset] [(.long ((ls.getD (own_q x) 0) &&& ((1 : Int64) <<< (x &&& 0x3f).toInt64)))]))
  refine own_step (fun _ kc_ => XS.lconst X49.here hx rfl (hb hby d5_32) (XT.lcmp X49.here hx rfl (hb hby d5_33) rfl (XS.ifNo X49.here hx rfl (hb hby d5_34) rfl (XT.ll_eq_f (hr : ¬ (((ls.getD (own_q x) 0) &&& ((1 : Int64) <<< (x &&& 0x3f).toInt64)) = (0 : Int64)))) (XS.iconst X49.here hx rfl (hb hby d5_37) (XS.goto X49.here hx rfl (pc0 := 38) (pc' := 42) rfl (hb hby d5_38) (by decide) (by decide) (XS.istoreN X49.here hx rfl (hb hby d5_42) rfl (l' := #[.val (.ref oo), .val (.int x), .val (.int (1 : Int32))]) rfl (XS.goto X49.here hx rfl (pc0 := 43) (pc' := 66) rfl (hb hby d5_43) (by decide) (by decide) (XS.iloadN X49.here hx rfl (hb hby d5_66) rfl kc_)))))))) ?_
  show own_Ends p e below s _ _ _ (T49.setTop (mkF m 67 #[.val (.ref oo), .val (.int x), .val (.int (1 : Int32))] [(.int (1 : Int32))]))
  exact own_retN X49 hx (t := .boolean) hret (by simp) hlk (hb hby d5_67) (by decide) (by decide) rfl ⟨rfl, N0, e49⟩
theorem ef_rmCB0 (m : MethodId) (oo : Addr) (x : Int32) : entryFrame m #[(.ref oo), (.int x)] 3 = mkF m 0 #[.val (.ref oo), .val (.int x), .unset] [] := by first | (simp [entryFrame, mkF, argsToLocals, Value.category]; done) | rfl
def QCB0 (Z : State) (oo : Addr) (x : Int32) (ba : Addr) (ls : List Int64) (h0 : Heap) (n0 : Nat) (v : Option Value) (h : Heap) (L : List Loc) : Prop := v = some (.int (0 : Int32)) ∧ Fr n0 L ∧ h = h0
set_option maxRecDepth 65536 in
set_option maxHeartbeats 40000000 in
theorem rmCB0 (l : Launch) (Z : State) (a0 : Array Value) (hw : ∀ d ∈ tables_1, d.before a0 Z = true) (ws : List Jvm.Cond) (oo : Addr) (x : Int32) (ba : Addr) (ls : List Int64) (h0 : Heap) (n0 : Nat) (Z0 : n0 ≤ h0.size) (E0 : Exa Z h0 oo "com/example/kinds_by_value/kindsbyvalue/NameSet") (f0 : Fld Z h0 oo "com/example/kinds_by_value/kindsbyvalue/NameSet" "everyName" "Z" (.int (0 : Int32))) (f1 : Fld Z h0 oo "com/example/kinds_by_value/kindsbyvalue/NameSet" "bits" "[J" (.ref ba)) (A0 : own_Ar Z h0 ba .long (ls.map Value.long)) (hx0 : 0 ≤ x.toInt) (hx1 : own_q x < ls.length) (hr : ls.getD (own_q x) 0 &&& own_w x = 0) :
    MetFree l (⟨"com/example/kinds_by_value/kindsbyvalue/NameSet", "contains", "(I)Z"⟩ : MethodName) (head1 (Jvm.Cond.code (⟨"com/example/kinds_by_value/kindsbyvalue/NameSet", "contains", "(I)Z"⟩ : MethodName) prog_9_method_2_code 3 (some .boolean) :: ws) ({ frames := 0, cells := 0, slots := 0, locals := 0 } : Room)) (fun a U => a = #[(.ref oo), (.int x)] ∧ Z.Warmed39 U.vm ∧ U.heap = h0) (fun _ _ _ _ _ => True) (fun _ U o U' => ∃ v L, o = .returned v ∧ QCB0 Z oo x ba ls h0 n0 v U'.heap L ∧ FrameEnd U o U' L ({ frames := 0, cells := 0, slots := 0, locals := 0 } : Room).cells ({ frames := 0, cells := 0, slots := 0, locals := 0 } : Room).slots) := by
  refine MetFree.of_bodySF (plainFor_of_name pn_2) hisR ?_
  intro p e s m args below meth c s₁ Bd hml0 hP hK
  obtain ⟨rfl, hZ, hh⟩ := hP
  have hx := Bd.exec
  have hby := Bd.bytes
  have hlk : meth.locks = false := BodyLoose.notSynchronized Bd
  have hret := Bd.returns
  have hml : c.maxLocals = 3 := hml0
  have hown : s.vm.findClass "com/example/kinds_by_value/kindsbyvalue/NameSet" = some m.cls := findClass_of_methodNamed Bd.named
  have hnm := (name_of_methodNamed Bd.named Bd.method).1
  have X0 : Stand p l e ({ frames := 0, cells := 0, slots := 0, locals := 0 } : Room) s m #[(.ref oo), (.int x)] below meth c s₁ [] 0 0 := Stand.of_body Bd
  have e0 : s₁.heap = h0 := by rw [← hh, Bd.state]; rfl
  have N0 := Fr.nil n0
  show own_Ends p e below s 0 0 (QCB0 Z oo x ba ls h0 n0) (s₁.setTop (entryFrame m #[(.ref oo), (.int x)] 3))
  refine own_step (fun t k => castTop (ef_rmCB0 m oo x) k) ?_
  show own_Ends p e below s _ _ _ (s₁.setTop (mkF m 0 #[.val (.ref oo), .val (.int x), .unset] []))
  refine own_step (fun _ kc_ => XS.aloadN X0.here hx rfl (hb hby d5_0) rfl rfl kc_) ?_
  show own_Ends p e below s _ _ _ (s₁.setTop (mkF m 1 #[.val (.ref oo), .val (.int x), .unset] [(.ref oo)]))
  obtain ⟨T50, X50, e50, st50⟩ := getF X0 hx hZ hown (host := "") (Or.inl (hw _ (List.mem_of_getElem? (i := 18) rfl))) Via.refl e0 f0 (g := (mkF m 1 #[.val (.ref oo), .val (.int x), .unset] [(.ref oo)])) rfl rfl (hb hby d5_1)
  refine own_step (fun _ kc_ => st50 _ kc_) ?_
  show own_Ends p e below s _ _ _ (T50.setTop (mkF m 4 #[.val (.ref oo), .val (.int x), .unset] [(.int (0 : Int32))]))
  refine own_step (fun _ kc_ => XS.ifYes X50.here hx rfl (pc0 := 4) (pc' := 12) rfl (hb hby d5_4) rfl (XT.i0_eq_t (by decide : (0 : Int32) = 0)) (by decide) (by decide) (XS.aloadN X50.here hx rfl (hb hby d5_12) rfl rfl kc_)) ?_
  show own_Ends p e below s _ _ _ (T50.setTop (mkF m 13 #[.val (.ref oo), .val (.int x), .unset] [(.ref oo)]))
  obtain ⟨T51, X51, e51, st51⟩ := getF X50 hx hZ hown (host := "") (Or.inl (hw _ (List.mem_of_getElem? (i := 11) rfl))) Via.refl e50 f1 (g := (mkF m 13 #[.val (.ref oo), .val (.int x), .unset] [(.ref oo)])) rfl rfl (hb hby d5_13)
  refine own_step (fun _ kc_ => st51 _ kc_) ?_
  show own_Ends p e below s _ _ _ (T51.setTop (mkF m 16 #[.val (.ref oo), .val (.int x), .unset] [(.ref ba)]))
  refine own_step (fun _ kc_ => XS.ifnullNo X51.here hx rfl (hb hby d5_16) rfl (XS.aloadN X51.here hx rfl (hb hby d5_19) rfl rfl kc_)) ?_
  show own_Ends p e below s _ _ _ (T51.setTop (mkF m 20 #[.val (.ref oo), .val (.int x), .unset] [(.ref oo)]))
  obtain ⟨T52, X52, e52, st52⟩ := getF X51 hx hZ hown (host := "") (Or.inl (hw _ (List.mem_of_getElem? (i := 11) rfl))) Via.refl e51 f1 (g := (mkF m 20 #[.val (.ref oo), .val (.int x), .unset] [(.ref oo)])) rfl rfl (hb hby d5_20)
  refine own_step (fun _ kc_ => st52 _ kc_) ?_
  show own_Ends p e below s _ _ _ (T52.setTop (mkF m 23 #[.val (.ref oo), .val (.int x), .unset] [(.ref ba)]))
  refine own_step (fun _ kc_ => XS.iloadN X52.here hx rfl (hb hby d5_23) rfl (XS.bipush X52.here hx rfl (hb hby d5_24) (XS.idiv X52.here hx rfl (hb hby d5_26) rfl (by decide) (own_laload X52 hx hZ e52 A0 (j := (x / (64 : Int32))) (own_div x hx0).1 (i := own_q x) (own_div x hx0).2 (v := (.long (ls.getD (own_q x) 0))) (own_rdL hx1) (hb hby d5_27) _ (XS.lconst X52.here hx rfl (hb hby d5_28) (XS.iloadN X52.here hx rfl (hb hby d5_29) rfl (XS.lshl X52.here hx rfl (hb hby d5_30) rfl (XS.land X52.here hx rfl (hb hby d5_31) rfl kc_)))))))) ?_
  show own_Ends p e below s _ _ _ (T52.setTop (mkF m 32 #[.val (.ref oo), .val (.int x), .unset] [(.long ((ls.getD (own_q x) 0) &&& ((1 : Int64) <<< (x &&& 0x3f).toInt64)))]))
  refine own_step (fun _ kc_ => XS.lconst X52.here hx rfl (hb hby d5_32) (XT.lcmp X52.here hx rfl (hb hby d5_33) rfl (XS.ifYes X52.here hx rfl (pc0 := 34) (pc' := 41) rfl (hb hby d5_34) rfl (XT.ll_eq_t (hr : ((ls.getD (own_q x) 0) &&& ((1 : Int64) <<< (x &&& 0x3f).toInt64)) = (0 : Int64))) (by decide) (by decide) (XS.iconst X52.here hx rfl (hb hby d5_41) (XS.istoreN X52.here hx rfl (hb hby d5_42) rfl (l' := #[.val (.ref oo), .val (.int x), .val (.int (0 : Int32))]) rfl (XS.goto X52.here hx rfl (pc0 := 43) (pc' := 66) rfl (hb hby d5_43) (by decide) (by decide) (XS.iloadN X52.here hx rfl (hb hby d5_66) rfl kc_))))))) ?_
  show own_Ends p e below s _ _ _ (T52.setTop (mkF m 67 #[.val (.ref oo), .val (.int x), .val (.int (0 : Int32))] [(.int (0 : Int32))]))
  exact own_retN X52 hx (t := .boolean) hret (by simp) hlk (hb hby d5_67) (by decide) (by decide) rfl ⟨rfl, N0, e52⟩
theorem ef_rmAT1 (m : MethodId) (oo : Addr) (x : Int32) : entryFrame m #[(.ref oo), (.int x)] 7 = mkF m 0 #[.val (.ref oo), .val (.int x), .unset, .unset, .unset, .unset, .unset] [] := by first | (simp [entryFrame, mkF, argsToLocals, Value.category]; done) | rfl
def QAT1 (Z : State) (oo : Addr) (x : Int32) (ta : Addr) (ts : List Int32) (k : Nat) (h0 : Heap) (n0 : Nat) (v : Option Value) (h : Heap) (L : List Loc) : Prop := v = some (.int (0 : Int32)) ∧ Fr n0 L ∧ h = h0
set_option maxRecDepth 65536 in
set_option maxHeartbeats 40000000 in
theorem rmAT1 (l : Launch) (Z : State) (a0 : Array Value) (hw : ∀ d ∈ tables_1, d.before a0 Z = true) (ws : List Jvm.Cond) (oo : Addr) (x : Int32) (ta : Addr) (ts : List Int32) (k : Nat) (h0 : Heap) (n0 : Nat) (Z0 : n0 ≤ h0.size) (E0 : Exa Z h0 oo "com/example/kinds_by_value/kindsbyvalue/NameSet") (f0 : Fld Z h0 oo "com/example/kinds_by_value/kindsbyvalue/NameSet" "everyName" "Z" (.int (0 : Int32))) (f1 : Fld Z h0 oo "com/example/kinds_by_value/kindsbyvalue/NameSet" "bits" "[J" .null) (f2 : Fld Z h0 oo "com/example/kinds_by_value/kindsbyvalue/NameSet" "table" "[I" (.ref ta)) (A0 : own_Ar Z h0 ta .int (ts.map Value.int)) (hl : ts.length = 16) (hf : own_fin ts x k) (hr : own_pr ts x k = x) :
    MetFree l (⟨"com/example/kinds_by_value/kindsbyvalue/NameSet", "add", "(I)Z"⟩ : MethodName) (head1 (Jvm.Cond.code (⟨"com/example/kinds_by_value/kindsbyvalue/NameSet", "add", "(I)Z"⟩ : MethodName) prog_9_method_3_code 7 (some .boolean) :: ws) ({ frames := 3, cells := 0, slots := 0, locals := 43 } : Room)) (fun a U => a = #[(.ref oo), (.int x)] ∧ Z.Warmed39 U.vm ∧ U.heap = h0) (fun _ _ _ _ _ => True) (fun _ U o U' => ∃ v L, o = .returned v ∧ QAT1 Z oo x ta ts k h0 n0 v U'.heap L ∧ FrameEnd U o U' L ({ frames := 3, cells := 0, slots := 0, locals := 43 } : Room).cells ({ frames := 3, cells := 0, slots := 0, locals := 43 } : Room).slots) := by
  refine MetFree.of_bodySF (plainFor_of_name pn_2) hisR ?_
  intro p e s m args below meth c s₁ Bd hml0 hP hK
  obtain ⟨rfl, hZ, hh⟩ := hP
  have hx := Bd.exec
  have hby := Bd.bytes
  have hlk : meth.locks = false := BodyLoose.notSynchronized Bd
  have hret := Bd.returns
  have hml : c.maxLocals = 7 := hml0
  have hown : s.vm.findClass "com/example/kinds_by_value/kindsbyvalue/NameSet" = some m.cls := findClass_of_methodNamed Bd.named
  have hnm := (name_of_methodNamed Bd.named Bd.method).1
  have X0 : Stand p l e ({ frames := 3, cells := 0, slots := 0, locals := 43 } : Room) s m #[(.ref oo), (.int x)] below meth c s₁ [] 0 0 := Stand.of_body Bd
  have e0 : s₁.heap = h0 := by rw [← hh, Bd.state]; rfl
  have N0 := Fr.nil n0
  show own_Ends p e below s 0 0 (QAT1 Z oo x ta ts k h0 n0) (s₁.setTop (entryFrame m #[(.ref oo), (.int x)] 7))
  refine own_step (fun t k => castTop (ef_rmAT1 m oo x) k) ?_
  show own_Ends p e below s _ _ _ (s₁.setTop (mkF m 0 #[.val (.ref oo), .val (.int x), .unset, .unset, .unset, .unset, .unset] []))
  refine own_step (fun _ kc_ => XS.aloadN X0.here hx rfl (hb hby d4_0) rfl rfl (XS.iloadN X0.here hx rfl (hb hby d4_1) rfl kc_)) ?_
  show own_Ends p e below s _ _ _ (s₁.setTop (mkF m 2 #[.val (.ref oo), .val (.int x), .unset, .unset, .unset, .unset, .unset] [(.int x), (.ref oo)]))
  obtain ⟨cq53, kq53, q53a, q53b, q53c⟩ := isOf hZ e0 E0
  obtain ⟨_, _, ⟨T53, L53, k53, n53⟩, -, X53, ⟨Lc53, hQ53, l53, y53, z53⟩, st53⟩ := X0.virtualBack hx (y := (⟨"com/example/kinds_by_value/kindsbyvalue/NameSet", "contains", "(I)Z"⟩ : MethodName)) (z := (⟨"com/example/kinds_by_value/kindsbyvalue/NameSet", "contains", "(I)Z"⟩ : MethodName)) hown (mvT hZ (hw _ (List.mem_of_getElem? (i := 27) rfl))) (mvT hZ (hw _ (List.mem_of_getElem? (i := 28) rfl))) (notFace_of_selects (args := #[]) (mvT hZ (hw _ (List.mem_of_getElem? (i := 30) rfl)))) (mvT hZ (hw _ (List.mem_of_getElem? (i := 30) rfl))) (mvT hZ (hw _ (List.mem_of_getElem? (i := 29) rfl))) (by decide) (backOf (W := 0) (rmCT1 l Z a0 hw [] oo x ta ts k h0 n0 Z0 E0 f0 f1 f2 A0 hl hf hr) hZ (hw _ (List.mem_of_getElem? (i := 31) rfl)) (hw _ (List.mem_of_getElem? (i := 3) rfl)) (by decide) (by decide)) q53a q53c (g := (mkF m 2 #[.val (.ref oo), .val (.int x), .unset, .unset, .unset, .unset, .unset] [(.int x), (.ref oo)])) rfl (by rw [hml]; rfl) (Steps.refl _) (argsL := [(.int x)]) (rest := []) (lenOf pd_4 rfl) rfl (by show 2 * 0 + _ ≤ _; exact Nat.le_of_eq rfl) (hb hby d4_2) (fun _ _ => ⟨rfl, e0, (by decide : 0 + 0 ≤ _), (by decide : 0 + 0 ≤ _)⟩)
  dsimp only [Pt.U, Pt.locs, Pt.cells, Pt.slots] at X53 l53 y53 z53 st53 hQ53
  subst l53 y53 z53
  obtain ⟨rfl, N53q, e53⟩ := hQ53
  have e53h : T53.heap = h0 := e53
  have N53 := Fr.app N0 N53q
  refine own_step (fun _ kc_ => st53.trans kc_) ?_
  show own_Ends p e below s _ _ _ (T53.setTop (mkF m 5 #[.val (.ref oo), .val (.int x), .unset, .unset, .unset, .unset, .unset] [(.int (1 : Int32))]))
  refine own_step (fun _ kc_ => XS.ifNo X53.here hx rfl (hb hby d4_5) rfl (XT.i0_eq_f (by decide : ¬ ((1 : Int32) = 0))) (XS.iconst X53.here hx rfl (hb hby d4_8) kc_)) ?_
  show own_Ends p e below s _ _ _ (T53.setTop (mkF m 9 #[.val (.ref oo), .val (.int x), .unset, .unset, .unset, .unset, .unset] [(.int (0 : Int32))]))
  exact own_retN X53 hx (t := .boolean) hret (by simp) hlk (hb hby d4_9) (by decide) (by decide) rfl ⟨rfl, N53, e53h⟩
theorem ef_rmAT0 (m : MethodId) (oo : Addr) (x : Int32) : entryFrame m #[(.ref oo), (.int x)] 7 = mkF m 0 #[.val (.ref oo), .val (.int x), .unset, .unset, .unset, .unset, .unset] [] := by first | (simp [entryFrame, mkF, argsToLocals, Value.category]; done) | rfl
def QAT0 (Z : State) (oo : Addr) (x : Int32) (ta : Addr) (ts : List Int32) (k : Nat) (sz hv : Int32) (h0 : Heap) (n0 : Nat) (v : Option Value) (h : Heap) (L : List Loc) : Prop := v = some (.int (1 : Int32)) ∧ Fr n0 L ∧ Keep h0 h [oo, ta] ∧ Fld Z h oo "com/example/kinds_by_value/kindsbyvalue/NameSet" "everyName" "Z" (.int (0 : Int32)) ∧ Fld Z h oo "com/example/kinds_by_value/kindsbyvalue/NameSet" "size" "I" (.int (sz + (1 : Int32))) ∧ Fld Z h oo "com/example/kinds_by_value/kindsbyvalue/NameSet" "hash" "I" (.int (hv + own_sp x)) ∧ Fld Z h oo "com/example/kinds_by_value/kindsbyvalue/NameSet" "bits" "[J" .null ∧ Fld Z h oo "com/example/kinds_by_value/kindsbyvalue/NameSet" "table" "[I" (.ref ta) ∧ own_Ar Z h ta .int ((ts.set (own_pl x k) x).map Value.int)
set_option maxRecDepth 65536 in
set_option maxHeartbeats 40000000 in
theorem rmAT0 (l : Launch) (Z : State) (a0 : Array Value) (hw : ∀ d ∈ tables_1, d.before a0 Z = true) (ws : List Jvm.Cond) (oo : Addr) (x : Int32) (ta : Addr) (ts : List Int32) (k : Nat) (sz hv : Int32) (h0 : Heap) (n0 : Nat) (Z0 : n0 ≤ h0.size) (E0 : Exa Z h0 oo "com/example/kinds_by_value/kindsbyvalue/NameSet") (f0 : Fld Z h0 oo "com/example/kinds_by_value/kindsbyvalue/NameSet" "everyName" "Z" (.int (0 : Int32))) (f1 : Fld Z h0 oo "com/example/kinds_by_value/kindsbyvalue/NameSet" "bits" "[J" .null) (f2 : Fld Z h0 oo "com/example/kinds_by_value/kindsbyvalue/NameSet" "table" "[I" (.ref ta)) (A0 : own_Ar Z h0 ta .int (ts.map Value.int)) (hl : ts.length = 16) (hf : own_fin ts x k) (hr : ¬ own_pr ts x k = x) (hsz : ¬ (16 : Int32) < (2 : Int32) * (sz + (1 : Int32))) (f3 : Fld Z h0 oo "com/example/kinds_by_value/kindsbyvalue/NameSet" "size" "I" (.int sz)) (f4 : Fld Z h0 oo "com/example/kinds_by_value/kindsbyvalue/NameSet" "hash" "I" (.int hv)) (g0 : n0 ≤ oo) (g1 : n0 ≤ ta) (ne0 : oo ≠ ta) :
    MetFree l (⟨"com/example/kinds_by_value/kindsbyvalue/NameSet", "add", "(I)Z"⟩ : MethodName) (head1 (Jvm.Cond.code (⟨"com/example/kinds_by_value/kindsbyvalue/NameSet", "add", "(I)Z"⟩ : MethodName) prog_9_method_3_code 7 (some .boolean) :: ws) ({ frames := 3, cells := 0, slots := 0, locals := 43 } : Room)) (fun a U => a = #[(.ref oo), (.int x)] ∧ Z.Warmed39 U.vm ∧ U.heap = h0) (fun _ _ _ _ _ => True) (fun _ U o U' => ∃ v L, o = .returned v ∧ QAT0 Z oo x ta ts k sz hv h0 n0 v U'.heap L ∧ FrameEnd U o U' L ({ frames := 3, cells := 0, slots := 0, locals := 43 } : Room).cells ({ frames := 3, cells := 0, slots := 0, locals := 43 } : Room).slots) := by
  refine MetFree.of_bodySF (plainFor_of_name pn_2) hisR ?_
  intro p e s m args below meth c s₁ Bd hml0 hP hK
  obtain ⟨rfl, hZ, hh⟩ := hP
  have hx := Bd.exec
  have hby := Bd.bytes
  have hlk : meth.locks = false := BodyLoose.notSynchronized Bd
  have hret := Bd.returns
  have hml : c.maxLocals = 7 := hml0
  have hown : s.vm.findClass "com/example/kinds_by_value/kindsbyvalue/NameSet" = some m.cls := findClass_of_methodNamed Bd.named
  have hnm := (name_of_methodNamed Bd.named Bd.method).1
  have X0 : Stand p l e ({ frames := 3, cells := 0, slots := 0, locals := 43 } : Room) s m #[(.ref oo), (.int x)] below meth c s₁ [] 0 0 := Stand.of_body Bd
  have e0 : s₁.heap = h0 := by rw [← hh, Bd.state]; rfl
  have N0 := Fr.nil n0
  show own_Ends p e below s 0 0 (QAT0 Z oo x ta ts k sz hv h0 n0) (s₁.setTop (entryFrame m #[(.ref oo), (.int x)] 7))
  refine own_step (fun t k => castTop (ef_rmAT0 m oo x) k) ?_
  show own_Ends p e below s _ _ _ (s₁.setTop (mkF m 0 #[.val (.ref oo), .val (.int x), .unset, .unset, .unset, .unset, .unset] []))
  refine own_step (fun _ kc_ => XS.aloadN X0.here hx rfl (hb hby d4_0) rfl rfl (XS.iloadN X0.here hx rfl (hb hby d4_1) rfl kc_)) ?_
  show own_Ends p e below s _ _ _ (s₁.setTop (mkF m 2 #[.val (.ref oo), .val (.int x), .unset, .unset, .unset, .unset, .unset] [(.int x), (.ref oo)]))
  obtain ⟨cq54, kq54, q54a, q54b, q54c⟩ := isOf hZ e0 E0
  obtain ⟨_, _, ⟨T54, L54, k54, n54⟩, -, X54, ⟨Lc54, hQ54, l54, y54, z54⟩, st54⟩ := X0.virtualBack hx (y := (⟨"com/example/kinds_by_value/kindsbyvalue/NameSet", "contains", "(I)Z"⟩ : MethodName)) (z := (⟨"com/example/kinds_by_value/kindsbyvalue/NameSet", "contains", "(I)Z"⟩ : MethodName)) hown (mvT hZ (hw _ (List.mem_of_getElem? (i := 27) rfl))) (mvT hZ (hw _ (List.mem_of_getElem? (i := 28) rfl))) (notFace_of_selects (args := #[]) (mvT hZ (hw _ (List.mem_of_getElem? (i := 30) rfl)))) (mvT hZ (hw _ (List.mem_of_getElem? (i := 30) rfl))) (mvT hZ (hw _ (List.mem_of_getElem? (i := 29) rfl))) (by decide) (backOf (W := 0) (rmCT0 l Z a0 hw [] oo x ta ts k h0 n0 Z0 E0 f0 f1 f2 A0 hl hf hr) hZ (hw _ (List.mem_of_getElem? (i := 31) rfl)) (hw _ (List.mem_of_getElem? (i := 3) rfl)) (by decide) (by decide)) q54a q54c (g := (mkF m 2 #[.val (.ref oo), .val (.int x), .unset, .unset, .unset, .unset, .unset] [(.int x), (.ref oo)])) rfl (by rw [hml]; rfl) (Steps.refl _) (argsL := [(.int x)]) (rest := []) (lenOf pd_4 rfl) rfl (by show 2 * 0 + _ ≤ _; exact Nat.le_of_eq rfl) (hb hby d4_2) (fun _ _ => ⟨rfl, e0, (by decide : 0 + 0 ≤ _), (by decide : 0 + 0 ≤ _)⟩)
  dsimp only [Pt.U, Pt.locs, Pt.cells, Pt.slots] at X54 l54 y54 z54 st54 hQ54
  subst l54 y54 z54
  obtain ⟨rfl, N54q, e54⟩ := hQ54
  have e54h : T54.heap = h0 := e54
  have N54 := Fr.app N0 N54q
  refine own_step (fun _ kc_ => st54.trans kc_) ?_
  show own_Ends p e below s _ _ _ (T54.setTop (mkF m 5 #[.val (.ref oo), .val (.int x), .unset, .unset, .unset, .unset, .unset] [(.int (0 : Int32))]))
  refine own_step (fun _ kc_ => XS.ifYes X54.here hx rfl (pc0 := 5) (pc' := 10) rfl (hb hby d4_5) rfl (XT.i0_eq_t (by decide : (0 : Int32) = 0)) (by decide) (by decide) (XS.aloadN X54.here hx rfl (hb hby d4_10) rfl rfl kc_)) ?_
  show own_Ends p e below s _ _ _ (T54.setTop (mkF m 11 #[.val (.ref oo), .val (.int x), .unset, .unset, .unset, .unset, .unset] [(.ref oo)]))
  obtain ⟨T55, X55, e55, st55⟩ := getF X54 hx hZ hown (host := "") (Or.inl (hw _ (List.mem_of_getElem? (i := 11) rfl))) Via.refl e54h f1 (g := (mkF m 11 #[.val (.ref oo), .val (.int x), .unset, .unset, .unset, .unset, .unset] [(.ref oo)])) rfl rfl (hb hby d4_11)
  refine own_step (fun _ kc_ => st55 _ kc_) ?_
  show own_Ends p e below s _ _ _ (T55.setTop (mkF m 14 #[.val (.ref oo), .val (.int x), .unset, .unset, .unset, .unset, .unset] [.null]))
  refine own_step (fun _ kc_ => XS.ifnullYes X55.here hx rfl (pc0 := 14) (pc' := 35) rfl (hb hby d4_14) rfl (by decide) (by decide) (XS.iconst X55.here hx rfl (hb hby d4_35) (XS.aloadN X55.here hx rfl (hb hby d4_36) rfl rfl kc_))) ?_
  show own_Ends p e below s _ _ _ (T55.setTop (mkF m 37 #[.val (.ref oo), .val (.int x), .unset, .unset, .unset, .unset, .unset] [(.ref oo), (.int (2 : Int32))]))
  obtain ⟨T56, X56, e56, st56⟩ := getF X55 hx hZ hown (host := "") (Or.inl (hw _ (List.mem_of_getElem? (i := 32) rfl))) Via.refl e55 f3 (g := (mkF m 37 #[.val (.ref oo), .val (.int x), .unset, .unset, .unset, .unset, .unset] [(.ref oo), (.int (2 : Int32))])) rfl rfl (hb hby d4_37)
  refine own_step (fun _ kc_ => st56 _ kc_) ?_
  show own_Ends p e below s _ _ _ (T56.setTop (mkF m 40 #[.val (.ref oo), .val (.int x), .unset, .unset, .unset, .unset, .unset] [(.int sz), (.int (2 : Int32))]))
  refine own_step (fun _ kc_ => XS.iconst X56.here hx rfl (hb hby d4_40) (XS.iadd X56.here hx rfl (hb hby d4_41) rfl (XS.imul X56.here hx rfl (hb hby d4_42) rfl (XS.aloadN X56.here hx rfl (hb hby d4_43) rfl rfl kc_)))) ?_
  show own_Ends p e below s _ _ _ (T56.setTop (mkF m 44 #[.val (.ref oo), .val (.int x), .unset, .unset, .unset, .unset, .unset] [(.ref oo), (.int ((2 : Int32) * (sz + (1 : Int32))))]))
  obtain ⟨T57, X57, e57, st57⟩ := getF X56 hx hZ hown (host := "") (Or.inl (hw _ (List.mem_of_getElem? (i := 45) rfl))) Via.refl e56 f2 (g := (mkF m 44 #[.val (.ref oo), .val (.int x), .unset, .unset, .unset, .unset, .unset] [(.ref oo), (.int ((2 : Int32) * (sz + (1 : Int32))))])) rfl rfl (hb hby d4_44)
  refine own_step (fun _ kc_ => st57 _ kc_) ?_
  show own_Ends p e below s _ _ _ (T57.setTop (mkF m 47 #[.val (.ref oo), .val (.int x), .unset, .unset, .unset, .unset, .unset] [(.ref ta), (.int ((2 : Int32) * (sz + (1 : Int32))))]))
  refine own_step (fun _ kc_ => own_alen X57 hx hZ e57 A0 (n := 16) (z := (16 : Int32)) (by rw [List.length_map]; exact hl) rfl (hb hby d4_47) _ (XS.icmpYes X57.here hx rfl (pc0 := 48) (pc' := 111) rfl (hb hby d4_48) rfl (XT.ii_le_t (hsz : ¬ ((16 : Int32) < ((2 : Int32) * (sz + (1 : Int32)))))) (by decide) (by decide) (XS.aloadN X57.here hx rfl (hb hby d4_111) rfl rfl kc_))) ?_
  show own_Ends p e below s _ _ _ (T57.setTop (mkF m 112 #[.val (.ref oo), .val (.int x), .unset, .unset, .unset, .unset, .unset] [(.ref oo)]))
  obtain ⟨T58, X58, e58, st58⟩ := getF X57 hx hZ hown (host := "") (Or.inl (hw _ (List.mem_of_getElem? (i := 45) rfl))) Via.refl e57 f2 (g := (mkF m 112 #[.val (.ref oo), .val (.int x), .unset, .unset, .unset, .unset, .unset] [(.ref oo)])) rfl rfl (hb hby d4_112)
  refine own_step (fun _ kc_ => st58 _ kc_) ?_
  show own_Ends p e below s _ _ _ (T58.setTop (mkF m 115 #[.val (.ref oo), .val (.int x), .unset, .unset, .unset, .unset, .unset] [(.ref ta)]))
  refine own_step (fun _ kc_ => XS.aloadN X58.here hx rfl (hb hby d4_115) rfl rfl (XS.iloadN X58.here hx rfl (hb hby d4_116) rfl kc_)) ?_
  show own_Ends p e below s _ _ _ (T58.setTop (mkF m 117 #[.val (.ref oo), .val (.int x), .unset, .unset, .unset, .unset, .unset] [(.int x), (.ref oo), (.ref ta)]))
  obtain ⟨cq59, q59, q59'⟩ := (E0).cell
  obtain ⟨_, _, ⟨T59, L59, k59, n59⟩, -, X59, ⟨Lc59, hQ59, l59, y59, z59⟩, st59⟩ := X58.privateBack hx (y := (⟨"com/example/kinds_by_value/kindsbyvalue/NameSet", "placeOf", "(I)I"⟩ : MethodName)) hown (mvT hZ (hw _ (List.mem_of_getElem? (i := 56) rfl))) (mvT hZ (hw _ (List.mem_of_getElem? (i := 57) rfl))) (Jvm.Kit.selects_private (by decide) (mvT hZ (hw _ (List.mem_of_getElem? (i := 2) rfl))) (mvP hZ (hw _ (List.mem_of_getElem? (i := 58) rfl))) (mvT hZ (hw _ (List.mem_of_getElem? (i := 57) rfl)))) (Cond.privateMethod_at (mvP hZ (hw _ (List.mem_of_getElem? (i := 58) rfl)) (args := #[]))) (mvT hZ (hw _ (List.mem_of_getElem? (i := 59) rfl))) (by decide) (backOf (W := 1) (rm10 l Z a0 hw [] oo x ta ts k h0 n0 Z0 f2 A0 hl hf) hZ (hw _ (List.mem_of_getElem? (i := 59) rfl)) (hw _ (List.mem_of_getElem? (i := 3) rfl)) (by decide) (by decide)) (g := (mkF m 117 #[.val (.ref oo), .val (.int x), .unset, .unset, .unset, .unset, .unset] [(.int x), (.ref oo), (.ref ta)])) rfl (by rw [hml]; rfl) (Steps.refl _) (a := oo) (by rw [e58]; exact q59) q59' (argsL := [(.int x)]) (rest := [(.ref ta)]) (lenOf pd_3 rfl) rfl (by show 2 * 0 + _ ≤ _; exact Nat.le_of_eq rfl) (hb hby d4_117) (fun _ _ => ⟨rfl, e58, (by decide : 0 + 0 ≤ _), (by decide : 0 + 0 ≤ _)⟩)
  dsimp only [Pt.U, Pt.locs, Pt.cells, Pt.slots] at X59 l59 y59 z59 st59 hQ59
  subst l59 y59 z59
  obtain ⟨rfl, N59q, e59⟩ := hQ59
  have e59h : T59.heap = h0 := e59
  have N59 := Fr.app N54 N59q
  refine own_step (fun _ kc_ => st59.trans kc_) ?_
  show own_Ends p e below s _ _ _ (T59.setTop (mkF m 120 #[.val (.ref oo), .val (.int x), .unset, .unset, .unset, .unset, .unset] [(.int (Int32.ofNat (own_pl x k))), (.ref ta)]))
  refine own_step (fun _ kc_ => XS.iloadN X59.here hx rfl (hb hby d4_120) rfl kc_) ?_
  show own_Ends p e below s _ _ _ (T59.setTop (mkF m 121 #[.val (.ref oo), .val (.int x), .unset, .unset, .unset, .unset, .unset] [(.int x), (.int (Int32.ofNat (own_pl x k))), (.ref ta)]))
  obtain ⟨T60, h60, X60, e60, W60, A60, st60⟩ := own_iastore X59 hx hZ e59h A0 (j := (Int32.ofNat (own_pl x k))) (x := x) (own_nn (own_pl_lt31 x k)) (i := own_pl x k) (own_nc (own_pl_lt31 x k)) (by rw [List.length_map, hl]; exact own_pl_lt x k) (Ls := #[.val (.ref oo), .val (.int x), .unset, .unset, .unset, .unset, .unset]) (st := []) (hb hby d4_121)
  have A_ta_60 : own_Ar Z h60 ta .int ((ts.set (own_pl x k) x).map Value.int) := A60.cast (by rw [List.map_set])
  have E_oo_60 := (E0).wr W60
  have F_oo_everyName_60 := (f0).other W60 (Or.inl ne0)
  have F_oo_bits_60 := (f1).other W60 (Or.inl ne0)
  have F_oo_table_60 := (f2).other W60 (Or.inl ne0)
  have F_oo_size_60 := (f3).other W60 (Or.inl ne0)
  have F_oo_hash_60 := (f4).other W60 (Or.inl ne0)
  have K60 := ((Keep.refl h0 [oo, ta])).wr W60 (Or.inl (List.mem_of_getElem? (i := 1) rfl))
  have Zs60 := Nat.le_trans Z0 (Nat.le_of_eq W60.size.symm)
  have N60 := Fr.snoc X60 N59 g1
  refine own_step (fun _ kc_ => st60 _ kc_) ?_
  show own_Ends p e below s _ _ _ (T60.setTop (mkF m 122 #[.val (.ref oo), .val (.int x), .unset, .unset, .unset, .unset, .unset] []))
  refine own_step (fun _ kc_ => XS.aloadN X60.here hx rfl (hb hby d4_122) rfl rfl (XS.dup X60.here hx rfl (hb hby d4_123) rfl rfl kc_)) ?_
  show own_Ends p e below s _ _ _ (T60.setTop (mkF m 124 #[.val (.ref oo), .val (.int x), .unset, .unset, .unset, .unset, .unset] [(.ref oo), (.ref oo)]))
  obtain ⟨T61, X61, e61, st61⟩ := getF X60 hx hZ hown (host := "") (Or.inl (hw _ (List.mem_of_getElem? (i := 32) rfl))) Via.refl e60 F_oo_size_60 (g := (mkF m 124 #[.val (.ref oo), .val (.int x), .unset, .unset, .unset, .unset, .unset] [(.ref oo), (.ref oo)])) rfl rfl (hb hby d4_124)
  refine own_step (fun _ kc_ => st61 _ kc_) ?_
  show own_Ends p e below s _ _ _ (T61.setTop (mkF m 127 #[.val (.ref oo), .val (.int x), .unset, .unset, .unset, .unset, .unset] [(.int sz), (.ref oo)]))
  refine own_step (fun _ kc_ => XS.iconst X61.here hx rfl (hb hby d4_127) (XS.iadd X61.here hx rfl (hb hby d4_128) rfl kc_)) ?_
  show own_Ends p e below s _ _ _ (T61.setTop (mkF m 129 #[.val (.ref oo), .val (.int x), .unset, .unset, .unset, .unset, .unset] [(.int (sz + (1 : Int32))), (.ref oo)]))
  obtain ⟨T62, h62, X62, e62, W62, st62⟩ := putF X61 hx hZ hown (host := "") (Or.inl (hw _ (List.mem_of_getElem? (i := 32) rfl))) Via.refl e61 F_oo_size_60 E_oo_60 (Or.inl (hw _ (List.mem_of_getElem? (i := 33) rfl))) (hw _ (List.mem_of_getElem? (i := 2) rfl)) (ty := .int) (by decide) rfl rfl (g := (mkF m 129 #[.val (.ref oo), .val (.int x), .unset, .unset, .unset, .unset, .unset] [(.int (sz + (1 : Int32))), (.ref oo)])) rfl rfl (hb hby d4_129)
  have E_oo_62 := (E_oo_60).wr W62
  have F_oo_everyName_62 := (F_oo_everyName_60).other W62 (Or.inr (slot_ne (Or.inl (hw _ (List.mem_of_getElem? (i := 19) rfl))) (Or.inl (hw _ (List.mem_of_getElem? (i := 33) rfl))) (by decide) (t := .boolean) (t' := .int) (by decide) (by decide)))
  have F_oo_bits_62 := (F_oo_bits_60).other W62 (Or.inr (slot_ne (Or.inl (hw _ (List.mem_of_getElem? (i := 12) rfl))) (Or.inl (hw _ (List.mem_of_getElem? (i := 33) rfl))) (by decide) (t := (.array .long)) (t' := .int) (by decide) (by decide)))
  have F_oo_table_62 := (F_oo_table_60).other W62 (Or.inr (slot_ne (Or.inl (hw _ (List.mem_of_getElem? (i := 46) rfl))) (Or.inl (hw _ (List.mem_of_getElem? (i := 33) rfl))) (by decide) (t := (.array .int)) (t' := .int) (by decide) (by decide)))
  have A_ta_62 := (A_ta_60).other W62 (Ne.symm ne0)
  have F_oo_size_62 := (F_oo_size_60).same W62
  have F_oo_hash_62 := (F_oo_hash_60).other W62 (Or.inr (slot_ne (Or.inl (hw _ (List.mem_of_getElem? (i := 21) rfl))) (Or.inl (hw _ (List.mem_of_getElem? (i := 33) rfl))) (by decide) (t := .int) (t' := .int) (by decide) (by decide)))
  have K62 := (K60).wr W62 (Or.inl (List.mem_of_getElem? (i := 0) rfl))
  have Zs62 := Nat.le_trans Zs60 (Nat.le_of_eq W62.size.symm)
  have N62 := Fr.snoc X62 N60 g0
  refine own_step (fun _ kc_ => st62 _ kc_) ?_
  show own_Ends p e below s _ _ _ (T62.setTop (mkF m 132 #[.val (.ref oo), .val (.int x), .unset, .unset, .unset, .unset, .unset] []))
  refine own_step (fun _ kc_ => XS.aloadN X62.here hx rfl (hb hby d4_132) rfl rfl (XS.dup X62.here hx rfl (hb hby d4_133) rfl rfl kc_)) ?_
  show own_Ends p e below s _ _ _ (T62.setTop (mkF m 134 #[.val (.ref oo), .val (.int x), .unset, .unset, .unset, .unset, .unset] [(.ref oo), (.ref oo)]))
  obtain ⟨T63, X63, e63, st63⟩ := getF X62 hx hZ hown (host := "") (Or.inl (hw _ (List.mem_of_getElem? (i := 20) rfl))) Via.refl e62 F_oo_hash_62 (g := (mkF m 134 #[.val (.ref oo), .val (.int x), .unset, .unset, .unset, .unset, .unset] [(.ref oo), (.ref oo)])) rfl rfl (hb hby d4_134)
  refine own_step (fun _ kc_ => st63 _ kc_) ?_
  show own_Ends p e below s _ _ _ (T63.setTop (mkF m 137 #[.val (.ref oo), .val (.int x), .unset, .unset, .unset, .unset, .unset] [(.int hv), (.ref oo)]))
  refine own_step (fun _ kc_ => XS.iloadN X63.here hx rfl (hb hby d4_137) rfl kc_) ?_
  show own_Ends p e below s _ _ _ (T63.setTop (mkF m 138 #[.val (.ref oo), .val (.int x), .unset, .unset, .unset, .unset, .unset] [(.int x), (.int hv), (.ref oo)]))
  obtain ⟨_, _, ⟨T64, L64, k64, n64⟩, -, X64, ⟨Lc64, hQ64, l64, y64, z64⟩, st64⟩ := Jvm.LawKit.callS X63 hx (y := (⟨"com/example/kinds_by_value/kindsbyvalue/Hashes", "spread", "(I)I"⟩ : MethodName)) hown (mvT hZ (hw _ (List.mem_of_getElem? (i := 34) rfl))) (mvT hZ (hw _ (List.mem_of_getElem? (i := 35) rfl))) (mvT hZ (hw _ (List.mem_of_getElem? (i := 36) rfl))) (mvT hZ (hw _ (List.mem_of_getElem? (i := 37) rfl))) (by decide) (backOf (W := 2) (rm6 l Z a0 hw [] x  h62 n0 Zs62 ) hZ (hw _ (List.mem_of_getElem? (i := 37) rfl)) (hw _ (List.mem_of_getElem? (i := 36) rfl)) (by decide) (by decide)) (g := (mkF m 138 #[.val (.ref oo), .val (.int x), .unset, .unset, .unset, .unset, .unset] [(.int x), (.int hv), (.ref oo)])) rfl (by rw [hml]; rfl) (argsL := [(.int x)]) (rest := [(.int hv), (.ref oo)]) (lenOf pd_3 rfl) rfl (by show 2 * 0 + _ ≤ _; exact Nat.le_of_eq rfl) (hb hby d4_138) (fun _ _ => ⟨rfl, e63, (by decide : 0 + 0 ≤ _), (by decide : 0 + 0 ≤ _)⟩)
  dsimp only [Pt.U, Pt.locs, Pt.cells, Pt.slots] at X64 l64 y64 z64 st64 hQ64
  subst l64 y64 z64
  obtain ⟨rfl, N64q, e64⟩ := hQ64
  have e64h : T64.heap = h62 := e64
  have N64 := Fr.app N62 N64q
  refine own_step (fun _ kc_ => st64 _ kc_) ?_
  show own_Ends p e below s _ _ _ (T64.setTop (mkF m 141 #[.val (.ref oo), .val (.int x), .unset, .unset, .unset, .unset, .unset] [(.int (own_sp x)), (.int hv), (.ref oo)]))
  refine own_step (fun _ kc_ => XS.iadd X64.here hx rfl (hb hby d4_141) rfl kc_) ?_
  show own_Ends p e below s _ _ _ (T64.setTop (mkF m 142 #[.val (.ref oo), .val (.int x), .unset, .unset, .unset, .unset, .unset] [(.int (hv + (own_sp x))), (.ref oo)]))
  obtain ⟨T65, h65, X65, e65, W65, st65⟩ := putF X64 hx hZ hown (host := "") (Or.inl (hw _ (List.mem_of_getElem? (i := 20) rfl))) Via.refl e64h F_oo_hash_62 E_oo_62 (Or.inl (hw _ (List.mem_of_getElem? (i := 21) rfl))) (hw _ (List.mem_of_getElem? (i := 2) rfl)) (ty := .int) (by decide) rfl rfl (g := (mkF m 142 #[.val (.ref oo), .val (.int x), .unset, .unset, .unset, .unset, .unset] [(.int (hv + (own_sp x))), (.ref oo)])) rfl rfl (hb hby d4_142)
  have E_oo_65 := (E_oo_62).wr W65
  have F_oo_everyName_65 := (F_oo_everyName_62).other W65 (Or.inr (slot_ne (Or.inl (hw _ (List.mem_of_getElem? (i := 19) rfl))) (Or.inl (hw _ (List.mem_of_getElem? (i := 21) rfl))) (by decide) (t := .boolean) (t' := .int) (by decide) (by decide)))
  have F_oo_bits_65 := (F_oo_bits_62).other W65 (Or.inr (slot_ne (Or.inl (hw _ (List.mem_of_getElem? (i := 12) rfl))) (Or.inl (hw _ (List.mem_of_getElem? (i := 21) rfl))) (by decide) (t := (.array .long)) (t' := .int) (by decide) (by decide)))
  have F_oo_table_65 := (F_oo_table_62).other W65 (Or.inr (slot_ne (Or.inl (hw _ (List.mem_of_getElem? (i := 46) rfl))) (Or.inl (hw _ (List.mem_of_getElem? (i := 21) rfl))) (by decide) (t := (.array .int)) (t' := .int) (by decide) (by decide)))
  have A_ta_65 := (A_ta_62).other W65 (Ne.symm ne0)
  have F_oo_size_65 := (F_oo_size_62).other W65 (Or.inr (slot_ne (Or.inl (hw _ (List.mem_of_getElem? (i := 33) rfl))) (Or.inl (hw _ (List.mem_of_getElem? (i := 21) rfl))) (by decide) (t := .int) (t' := .int) (by decide) (by decide)))
  have F_oo_hash_65 := (F_oo_hash_62).same W65
  have K65 := (K62).wr W65 (Or.inl (List.mem_of_getElem? (i := 0) rfl))
  have Zs65 := Nat.le_trans Zs62 (Nat.le_of_eq W65.size.symm)
  have N65 := Fr.snoc X65 N64 g0
  refine own_step (fun _ kc_ => st65 _ kc_) ?_
  show own_Ends p e below s _ _ _ (T65.setTop (mkF m 145 #[.val (.ref oo), .val (.int x), .unset, .unset, .unset, .unset, .unset] []))
  refine own_step (fun _ kc_ => XS.iconst X65.here hx rfl (hb hby d4_145) kc_) ?_
  show own_Ends p e below s _ _ _ (T65.setTop (mkF m 146 #[.val (.ref oo), .val (.int x), .unset, .unset, .unset, .unset, .unset] [(.int (1 : Int32))]))
  exact own_retN X65 hx (t := .boolean) hret (by simp) hlk (hb hby d4_146) (by decide) (by decide) rfl (by rw [e65]; exact ⟨rfl, N65, K65, F_oo_everyName_65, F_oo_size_65, F_oo_hash_65, F_oo_bits_65, F_oo_table_65, A_ta_65⟩)
theorem ef_rmAB1 (m : MethodId) (oo : Addr) (x : Int32) : entryFrame m #[(.ref oo), (.int x)] 7 = mkF m 0 #[.val (.ref oo), .val (.int x), .unset, .unset, .unset, .unset, .unset] [] := by first | (simp [entryFrame, mkF, argsToLocals, Value.category]; done) | rfl
def QAB1 (Z : State) (oo : Addr) (x : Int32) (ba : Addr) (ls : List Int64) (h0 : Heap) (n0 : Nat) (v : Option Value) (h : Heap) (L : List Loc) : Prop := v = some (.int (0 : Int32)) ∧ Fr n0 L ∧ h = h0
set_option maxRecDepth 65536 in
set_option maxHeartbeats 40000000 in
theorem rmAB1 (l : Launch) (Z : State) (a0 : Array Value) (hw : ∀ d ∈ tables_1, d.before a0 Z = true) (ws : List Jvm.Cond) (oo : Addr) (x : Int32) (ba : Addr) (ls : List Int64) (h0 : Heap) (n0 : Nat) (Z0 : n0 ≤ h0.size) (E0 : Exa Z h0 oo "com/example/kinds_by_value/kindsbyvalue/NameSet") (f0 : Fld Z h0 oo "com/example/kinds_by_value/kindsbyvalue/NameSet" "everyName" "Z" (.int (0 : Int32))) (f1 : Fld Z h0 oo "com/example/kinds_by_value/kindsbyvalue/NameSet" "bits" "[J" (.ref ba)) (A0 : own_Ar Z h0 ba .long (ls.map Value.long)) (hx0 : 0 ≤ x.toInt) (hx1 : own_q x < ls.length) (hr : ¬ ls.getD (own_q x) 0 &&& own_w x = 0) :
    MetFree l (⟨"com/example/kinds_by_value/kindsbyvalue/NameSet", "add", "(I)Z"⟩ : MethodName) (head1 (Jvm.Cond.code (⟨"com/example/kinds_by_value/kindsbyvalue/NameSet", "add", "(I)Z"⟩ : MethodName) prog_9_method_3_code 7 (some .boolean) :: ws) ({ frames := 3, cells := 0, slots := 0, locals := 43 } : Room)) (fun a U => a = #[(.ref oo), (.int x)] ∧ Z.Warmed39 U.vm ∧ U.heap = h0) (fun _ _ _ _ _ => True) (fun _ U o U' => ∃ v L, o = .returned v ∧ QAB1 Z oo x ba ls h0 n0 v U'.heap L ∧ FrameEnd U o U' L ({ frames := 3, cells := 0, slots := 0, locals := 43 } : Room).cells ({ frames := 3, cells := 0, slots := 0, locals := 43 } : Room).slots) := by
  refine MetFree.of_bodySF (plainFor_of_name pn_2) hisR ?_
  intro p e s m args below meth c s₁ Bd hml0 hP hK
  obtain ⟨rfl, hZ, hh⟩ := hP
  have hx := Bd.exec
  have hby := Bd.bytes
  have hlk : meth.locks = false := BodyLoose.notSynchronized Bd
  have hret := Bd.returns
  have hml : c.maxLocals = 7 := hml0
  have hown : s.vm.findClass "com/example/kinds_by_value/kindsbyvalue/NameSet" = some m.cls := findClass_of_methodNamed Bd.named
  have hnm := (name_of_methodNamed Bd.named Bd.method).1
  have X0 : Stand p l e ({ frames := 3, cells := 0, slots := 0, locals := 43 } : Room) s m #[(.ref oo), (.int x)] below meth c s₁ [] 0 0 := Stand.of_body Bd
  have e0 : s₁.heap = h0 := by rw [← hh, Bd.state]; rfl
  have N0 := Fr.nil n0
  show own_Ends p e below s 0 0 (QAB1 Z oo x ba ls h0 n0) (s₁.setTop (entryFrame m #[(.ref oo), (.int x)] 7))
  refine own_step (fun t k => castTop (ef_rmAB1 m oo x) k) ?_
  show own_Ends p e below s _ _ _ (s₁.setTop (mkF m 0 #[.val (.ref oo), .val (.int x), .unset, .unset, .unset, .unset, .unset] []))
  refine own_step (fun _ kc_ => XS.aloadN X0.here hx rfl (hb hby d4_0) rfl rfl (XS.iloadN X0.here hx rfl (hb hby d4_1) rfl kc_)) ?_
  show own_Ends p e below s _ _ _ (s₁.setTop (mkF m 2 #[.val (.ref oo), .val (.int x), .unset, .unset, .unset, .unset, .unset] [(.int x), (.ref oo)]))
  obtain ⟨cq66, kq66, q66a, q66b, q66c⟩ := isOf hZ e0 E0
  obtain ⟨_, _, ⟨T66, L66, k66, n66⟩, -, X66, ⟨Lc66, hQ66, l66, y66, z66⟩, st66⟩ := X0.virtualBack hx (y := (⟨"com/example/kinds_by_value/kindsbyvalue/NameSet", "contains", "(I)Z"⟩ : MethodName)) (z := (⟨"com/example/kinds_by_value/kindsbyvalue/NameSet", "contains", "(I)Z"⟩ : MethodName)) hown (mvT hZ (hw _ (List.mem_of_getElem? (i := 27) rfl))) (mvT hZ (hw _ (List.mem_of_getElem? (i := 28) rfl))) (notFace_of_selects (args := #[]) (mvT hZ (hw _ (List.mem_of_getElem? (i := 30) rfl)))) (mvT hZ (hw _ (List.mem_of_getElem? (i := 30) rfl))) (mvT hZ (hw _ (List.mem_of_getElem? (i := 29) rfl))) (by decide) (backOf (W := 0) (rmCB1 l Z a0 hw [] oo x ba ls h0 n0 Z0 E0 f0 f1 A0 hx0 hx1 hr) hZ (hw _ (List.mem_of_getElem? (i := 31) rfl)) (hw _ (List.mem_of_getElem? (i := 3) rfl)) (by decide) (by decide)) q66a q66c (g := (mkF m 2 #[.val (.ref oo), .val (.int x), .unset, .unset, .unset, .unset, .unset] [(.int x), (.ref oo)])) rfl (by rw [hml]; rfl) (Steps.refl _) (argsL := [(.int x)]) (rest := []) (lenOf pd_4 rfl) rfl (by show 2 * 0 + _ ≤ _; exact Nat.le_of_eq rfl) (hb hby d4_2) (fun _ _ => ⟨rfl, e0, (by decide : 0 + 0 ≤ _), (by decide : 0 + 0 ≤ _)⟩)
  dsimp only [Pt.U, Pt.locs, Pt.cells, Pt.slots] at X66 l66 y66 z66 st66 hQ66
  subst l66 y66 z66
  obtain ⟨rfl, N66q, e66⟩ := hQ66
  have e66h : T66.heap = h0 := e66
  have N66 := Fr.app N0 N66q
  refine own_step (fun _ kc_ => st66.trans kc_) ?_
  show own_Ends p e below s _ _ _ (T66.setTop (mkF m 5 #[.val (.ref oo), .val (.int x), .unset, .unset, .unset, .unset, .unset] [(.int (1 : Int32))]))
  refine own_step (fun _ kc_ => XS.ifNo X66.here hx rfl (hb hby d4_5) rfl (XT.i0_eq_f (by decide : ¬ ((1 : Int32) = 0))) (XS.iconst X66.here hx rfl (hb hby d4_8) kc_)) ?_
  show own_Ends p e below s _ _ _ (T66.setTop (mkF m 9 #[.val (.ref oo), .val (.int x), .unset, .unset, .unset, .unset, .unset] [(.int (0 : Int32))]))
  exact own_retN X66 hx (t := .boolean) hret (by simp) hlk (hb hby d4_9) (by decide) (by decide) rfl ⟨rfl, N66, e66h⟩
theorem ef_rmAB0 (m : MethodId) (oo : Addr) (x : Int32) : entryFrame m #[(.ref oo), (.int x)] 7 = mkF m 0 #[.val (.ref oo), .val (.int x), .unset, .unset, .unset, .unset, .unset] [] := by first | (simp [entryFrame, mkF, argsToLocals, Value.category]; done) | rfl
def QAB0 (Z : State) (oo : Addr) (x : Int32) (ba : Addr) (ls : List Int64) (sz hv : Int32) (h0 : Heap) (n0 : Nat) (v : Option Value) (h : Heap) (L : List Loc) : Prop := v = some (.int (1 : Int32)) ∧ Fr n0 L ∧ Keep h0 h [oo, ba] ∧ Fld Z h oo "com/example/kinds_by_value/kindsbyvalue/NameSet" "everyName" "Z" (.int (0 : Int32)) ∧ Fld Z h oo "com/example/kinds_by_value/kindsbyvalue/NameSet" "size" "I" (.int (sz + (1 : Int32))) ∧ Fld Z h oo "com/example/kinds_by_value/kindsbyvalue/NameSet" "hash" "I" (.int (hv + own_sp x)) ∧ Fld Z h oo "com/example/kinds_by_value/kindsbyvalue/NameSet" "bits" "[J" (.ref ba) ∧ Fld Z h oo "com/example/kinds_by_value/kindsbyvalue/NameSet" "table" "[I" .null ∧ own_Ar Z h ba .long ((ls.set (own_q x) (ls.getD (own_q x) 0 ||| own_w x)).map Value.long)
set_option maxRecDepth 65536 in
set_option maxHeartbeats 40000000 in
theorem rmAB0 (l : Launch) (Z : State) (a0 : Array Value) (hw : ∀ d ∈ tables_1, d.before a0 Z = true) (ws : List Jvm.Cond) (oo : Addr) (x : Int32) (ba : Addr) (ls : List Int64) (sz hv : Int32) (h0 : Heap) (n0 : Nat) (Z0 : n0 ≤ h0.size) (E0 : Exa Z h0 oo "com/example/kinds_by_value/kindsbyvalue/NameSet") (f0 : Fld Z h0 oo "com/example/kinds_by_value/kindsbyvalue/NameSet" "everyName" "Z" (.int (0 : Int32))) (f1 : Fld Z h0 oo "com/example/kinds_by_value/kindsbyvalue/NameSet" "bits" "[J" (.ref ba)) (A0 : own_Ar Z h0 ba .long (ls.map Value.long)) (hx0 : 0 ≤ x.toInt) (hx1 : own_q x < ls.length) (hr : ls.getD (own_q x) 0 &&& own_w x = 0) (f2 : Fld Z h0 oo "com/example/kinds_by_value/kindsbyvalue/NameSet" "table" "[I" .null) (f3 : Fld Z h0 oo "com/example/kinds_by_value/kindsbyvalue/NameSet" "size" "I" (.int sz)) (f4 : Fld Z h0 oo "com/example/kinds_by_value/kindsbyvalue/NameSet" "hash" "I" (.int hv)) (g0 : n0 ≤ oo) (g1 : n0 ≤ ba) (ne0 : oo ≠ ba) :
    MetFree l (⟨"com/example/kinds_by_value/kindsbyvalue/NameSet", "add", "(I)Z"⟩ : MethodName) (head1 (Jvm.Cond.code (⟨"com/example/kinds_by_value/kindsbyvalue/NameSet", "add", "(I)Z"⟩ : MethodName) prog_9_method_3_code 7 (some .boolean) :: ws) ({ frames := 3, cells := 0, slots := 0, locals := 43 } : Room)) (fun a U => a = #[(.ref oo), (.int x)] ∧ Z.Warmed39 U.vm ∧ U.heap = h0) (fun _ _ _ _ _ => True) (fun _ U o U' => ∃ v L, o = .returned v ∧ QAB0 Z oo x ba ls sz hv h0 n0 v U'.heap L ∧ FrameEnd U o U' L ({ frames := 3, cells := 0, slots := 0, locals := 43 } : Room).cells ({ frames := 3, cells := 0, slots := 0, locals := 43 } : Room).slots) := by
  refine MetFree.of_bodySF (plainFor_of_name pn_2) hisR ?_
  intro p e s m args below meth c s₁ Bd hml0 hP hK
  obtain ⟨rfl, hZ, hh⟩ := hP
  have hx := Bd.exec
  have hby := Bd.bytes
  have hlk : meth.locks = false := BodyLoose.notSynchronized Bd
  have hret := Bd.returns
  have hml : c.maxLocals = 7 := hml0
  have hown : s.vm.findClass "com/example/kinds_by_value/kindsbyvalue/NameSet" = some m.cls := findClass_of_methodNamed Bd.named
  have hnm := (name_of_methodNamed Bd.named Bd.method).1
  have X0 : Stand p l e ({ frames := 3, cells := 0, slots := 0, locals := 43 } : Room) s m #[(.ref oo), (.int x)] below meth c s₁ [] 0 0 := Stand.of_body Bd
  have e0 : s₁.heap = h0 := by rw [← hh, Bd.state]; rfl
  have N0 := Fr.nil n0
  show own_Ends p e below s 0 0 (QAB0 Z oo x ba ls sz hv h0 n0) (s₁.setTop (entryFrame m #[(.ref oo), (.int x)] 7))
  refine own_step (fun t k => castTop (ef_rmAB0 m oo x) k) ?_
  show own_Ends p e below s _ _ _ (s₁.setTop (mkF m 0 #[.val (.ref oo), .val (.int x), .unset, .unset, .unset, .unset, .unset] []))
  refine own_step (fun _ kc_ => XS.aloadN X0.here hx rfl (hb hby d4_0) rfl rfl (XS.iloadN X0.here hx rfl (hb hby d4_1) rfl kc_)) ?_
  show own_Ends p e below s _ _ _ (s₁.setTop (mkF m 2 #[.val (.ref oo), .val (.int x), .unset, .unset, .unset, .unset, .unset] [(.int x), (.ref oo)]))
  obtain ⟨cq67, kq67, q67a, q67b, q67c⟩ := isOf hZ e0 E0
  obtain ⟨_, _, ⟨T67, L67, k67, n67⟩, -, X67, ⟨Lc67, hQ67, l67, y67, z67⟩, st67⟩ := X0.virtualBack hx (y := (⟨"com/example/kinds_by_value/kindsbyvalue/NameSet", "contains", "(I)Z"⟩ : MethodName)) (z := (⟨"com/example/kinds_by_value/kindsbyvalue/NameSet", "contains", "(I)Z"⟩ : MethodName)) hown (mvT hZ (hw _ (List.mem_of_getElem? (i := 27) rfl))) (mvT hZ (hw _ (List.mem_of_getElem? (i := 28) rfl))) (notFace_of_selects (args := #[]) (mvT hZ (hw _ (List.mem_of_getElem? (i := 30) rfl)))) (mvT hZ (hw _ (List.mem_of_getElem? (i := 30) rfl))) (mvT hZ (hw _ (List.mem_of_getElem? (i := 29) rfl))) (by decide) (backOf (W := 0) (rmCB0 l Z a0 hw [] oo x ba ls h0 n0 Z0 E0 f0 f1 A0 hx0 hx1 hr) hZ (hw _ (List.mem_of_getElem? (i := 31) rfl)) (hw _ (List.mem_of_getElem? (i := 3) rfl)) (by decide) (by decide)) q67a q67c (g := (mkF m 2 #[.val (.ref oo), .val (.int x), .unset, .unset, .unset, .unset, .unset] [(.int x), (.ref oo)])) rfl (by rw [hml]; rfl) (Steps.refl _) (argsL := [(.int x)]) (rest := []) (lenOf pd_4 rfl) rfl (by show 2 * 0 + _ ≤ _; exact Nat.le_of_eq rfl) (hb hby d4_2) (fun _ _ => ⟨rfl, e0, (by decide : 0 + 0 ≤ _), (by decide : 0 + 0 ≤ _)⟩)
  dsimp only [Pt.U, Pt.locs, Pt.cells, Pt.slots] at X67 l67 y67 z67 st67 hQ67
  subst l67 y67 z67
  obtain ⟨rfl, N67q, e67⟩ := hQ67
  have e67h : T67.heap = h0 := e67
  have N67 := Fr.app N0 N67q
  refine own_step (fun _ kc_ => st67.trans kc_) ?_
  show own_Ends p e below s _ _ _ (T67.setTop (mkF m 5 #[.val (.ref oo), .val (.int x), .unset, .unset, .unset, .unset, .unset] [(.int (0 : Int32))]))
  refine own_step (fun _ kc_ => XS.ifYes X67.here hx rfl (pc0 := 5) (pc' := 10) rfl (hb hby d4_5) rfl (XT.i0_eq_t (by decide : (0 : Int32) = 0)) (by decide) (by decide) (XS.aloadN X67.here hx rfl (hb hby d4_10) rfl rfl kc_)) ?_
  show own_Ends p e below s _ _ _ (T67.setTop (mkF m 11 #[.val (.ref oo), .val (.int x), .unset, .unset, .unset, .unset, .unset] [(.ref oo)]))
  obtain ⟨T68, X68, e68, st68⟩ := getF X67 hx hZ hown (host := "") (Or.inl (hw _ (List.mem_of_getElem? (i := 11) rfl))) Via.refl e67h f1 (g := (mkF m 11 #[.val (.ref oo), .val (.int x), .unset, .unset, .unset, .unset, .unset] [(.ref oo)])) rfl rfl (hb hby d4_11)
  refine own_step (fun _ kc_ => st68 _ kc_) ?_
  show own_Ends p e below s _ _ _ (T68.setTop (mkF m 14 #[.val (.ref oo), .val (.int x), .unset, .unset, .unset, .unset, .unset] [(.ref ba)]))
  refine own_step (fun _ kc_ => XS.ifnullNo X68.here hx rfl (hb hby d4_14) rfl (XS.aloadN X68.here hx rfl (hb hby d4_17) rfl rfl kc_)) ?_
  show own_Ends p e below s _ _ _ (T68.setTop (mkF m 18 #[.val (.ref oo), .val (.int x), .unset, .unset, .unset, .unset, .unset] [(.ref oo)]))
  obtain ⟨T69, X69, e69, st69⟩ := getF X68 hx hZ hown (host := "") (Or.inl (hw _ (List.mem_of_getElem? (i := 11) rfl))) Via.refl e68 f1 (g := (mkF m 18 #[.val (.ref oo), .val (.int x), .unset, .unset, .unset, .unset, .unset] [(.ref oo)])) rfl rfl (hb hby d4_18)
  refine own_step (fun _ kc_ => st69 _ kc_) ?_
  show own_Ends p e below s _ _ _ (T69.setTop (mkF m 21 #[.val (.ref oo), .val (.int x), .unset, .unset, .unset, .unset, .unset] [(.ref ba)]))
  refine own_step (fun _ kc_ => XS.iloadN X69.here hx rfl (hb hby d4_21) rfl (XS.bipush X69.here hx rfl (hb hby d4_22) (XS.idiv X69.here hx rfl (hb hby d4_24) rfl (by decide) (XT.dup2 X69.here hx rfl (hb hby d4_25) rfl rfl rfl (own_laload X69 hx hZ e69 A0 (j := (x / (64 : Int32))) (own_div x hx0).1 (i := own_q x) (own_div x hx0).2 (v := (.long (ls.getD (own_q x) 0))) (own_rdL hx1) (hb hby d4_26) _ (XS.lconst X69.here hx rfl (hb hby d4_27) (XS.iloadN X69.here hx rfl (hb hby d4_28) rfl (XS.lshl X69.here hx rfl (hb hby d4_29) rfl kc_)))))))) ?_
  show own_Ends p e below s _ _ _ (T69.setTop (mkF m 30 #[.val (.ref oo), .val (.int x), .unset, .unset, .unset, .unset, .unset] [(.long ((1 : Int64) <<< (x &&& 0x3f).toInt64)), (.long (ls.getD (own_q x) 0)), (.int (x / (64 : Int32))), (.ref ba)]))
  refine own_step (fun _ kc_ => XS.lor X69.here hx rfl (hb hby d4_30) rfl kc_) ?_
  show own_Ends p e below s _ _ _ (T69.setTop (mkF m 31 #[.val (.ref oo), .val (.int x), .unset, .unset, .unset, .unset, .unset] [(.long ((ls.getD (own_q x) 0) ||| ((1 : Int64) <<< (x &&& 0x3f).toInt64))), (.int (x / (64 : Int32))), (.ref ba)]))
  obtain ⟨T70, h70, X70, e70, W70, A70, st70⟩ := own_lastore X69 hx hZ e69 A0 (j := (x / (64 : Int32))) (x := ((ls.getD (own_q x) 0) ||| ((1 : Int64) <<< (x &&& 0x3f).toInt64))) (own_div x hx0).1 (i := own_q x) (own_div x hx0).2 (by rw [List.length_map]; exact hx1) (Ls := #[.val (.ref oo), .val (.int x), .unset, .unset, .unset, .unset, .unset]) (st := []) (hb hby d4_31)
  have A_ba_70 : own_Ar Z h70 ba .long ((ls.set (own_q x) (ls.getD (own_q x) 0 ||| own_w x)).map Value.long) := A70.cast (by rw [List.map_set]; rfl)
  have E_oo_70 := (E0).wr W70
  have F_oo_everyName_70 := (f0).other W70 (Or.inl ne0)
  have F_oo_bits_70 := (f1).other W70 (Or.inl ne0)
  have F_oo_size_70 := (f3).other W70 (Or.inl ne0)
  have F_oo_hash_70 := (f4).other W70 (Or.inl ne0)
  have F_oo_table_70 := (f2).other W70 (Or.inl ne0)
  have K70 := ((Keep.refl h0 [oo, ba])).wr W70 (Or.inl (List.mem_of_getElem? (i := 1) rfl))
  have Zs70 := Nat.le_trans Z0 (Nat.le_of_eq W70.size.symm)
  have N70 := Fr.snoc X70 N67 g1
  refine own_step (fun _ kc_ => st70 _ kc_) ?_
  show own_Ends p e below s _ _ _ (T70.setTop (mkF m 32 #[.val (.ref oo), .val (.int x), .unset, .unset, .unset, .unset, .unset] []))
  refine own_step (fun _ kc_ => XS.goto X70.here hx rfl (pc0 := 32) (pc' := 122) rfl (hb hby d4_32) (by decide) (by decide) (XS.aloadN X70.here hx rfl (hb hby d4_122) rfl rfl (XS.dup X70.here hx rfl (hb hby d4_123) rfl rfl kc_))) ?_
  show own_Ends p e below s _ _ _ (T70.setTop (mkF m 124 #[.val (.ref oo), .val (.int x), .unset, .unset, .unset, .unset, .unset] [(.ref oo), (.ref oo)]))
  obtain ⟨T71, X71, e71, st71⟩ := getF X70 hx hZ hown (host := "") (Or.inl (hw _ (List.mem_of_getElem? (i := 32) rfl))) Via.refl e70 F_oo_size_70 (g := (mkF m 124 #[.val (.ref oo), .val (.int x), .unset, .unset, .unset, .unset, .unset] [(.ref oo), (.ref oo)])) rfl rfl (hb hby d4_124)
  refine own_step (fun _ kc_ => st71 _ kc_) ?_
  show own_Ends p e below s _ _ _ (T71.setTop (mkF m 127 #[.val (.ref oo), .val (.int x), .unset, .unset, .unset, .unset, .unset] [(.int sz), (.ref oo)]))
  refine own_step (fun _ kc_ => XS.iconst X71.here hx rfl (hb hby d4_127) (XS.iadd X71.here hx rfl (hb hby d4_128) rfl kc_)) ?_
  show own_Ends p e below s _ _ _ (T71.setTop (mkF m 129 #[.val (.ref oo), .val (.int x), .unset, .unset, .unset, .unset, .unset] [(.int (sz + (1 : Int32))), (.ref oo)]))
  obtain ⟨T72, h72, X72, e72, W72, st72⟩ := putF X71 hx hZ hown (host := "") (Or.inl (hw _ (List.mem_of_getElem? (i := 32) rfl))) Via.refl e71 F_oo_size_70 E_oo_70 (Or.inl (hw _ (List.mem_of_getElem? (i := 33) rfl))) (hw _ (List.mem_of_getElem? (i := 2) rfl)) (ty := .int) (by decide) rfl rfl (g := (mkF m 129 #[.val (.ref oo), .val (.int x), .unset, .unset, .unset, .unset, .unset] [(.int (sz + (1 : Int32))), (.ref oo)])) rfl rfl (hb hby d4_129)
  have E_oo_72 := (E_oo_70).wr W72
  have F_oo_everyName_72 := (F_oo_everyName_70).other W72 (Or.inr (slot_ne (Or.inl (hw _ (List.mem_of_getElem? (i := 19) rfl))) (Or.inl (hw _ (List.mem_of_getElem? (i := 33) rfl))) (by decide) (t := .boolean) (t' := .int) (by decide) (by decide)))
  have F_oo_bits_72 := (F_oo_bits_70).other W72 (Or.inr (slot_ne (Or.inl (hw _ (List.mem_of_getElem? (i := 12) rfl))) (Or.inl (hw _ (List.mem_of_getElem? (i := 33) rfl))) (by decide) (t := (.array .long)) (t' := .int) (by decide) (by decide)))
  have A_ba_72 := (A_ba_70).other W72 (Ne.symm ne0)
  have F_oo_size_72 := (F_oo_size_70).same W72
  have F_oo_hash_72 := (F_oo_hash_70).other W72 (Or.inr (slot_ne (Or.inl (hw _ (List.mem_of_getElem? (i := 21) rfl))) (Or.inl (hw _ (List.mem_of_getElem? (i := 33) rfl))) (by decide) (t := .int) (t' := .int) (by decide) (by decide)))
  have F_oo_table_72 := (F_oo_table_70).other W72 (Or.inr (slot_ne (Or.inl (hw _ (List.mem_of_getElem? (i := 46) rfl))) (Or.inl (hw _ (List.mem_of_getElem? (i := 33) rfl))) (by decide) (t := (.array .int)) (t' := .int) (by decide) (by decide)))
  have K72 := (K70).wr W72 (Or.inl (List.mem_of_getElem? (i := 0) rfl))
  have Zs72 := Nat.le_trans Zs70 (Nat.le_of_eq W72.size.symm)
  have N72 := Fr.snoc X72 N70 g0
  refine own_step (fun _ kc_ => st72 _ kc_) ?_
  show own_Ends p e below s _ _ _ (T72.setTop (mkF m 132 #[.val (.ref oo), .val (.int x), .unset, .unset, .unset, .unset, .unset] []))
  refine own_step (fun _ kc_ => XS.aloadN X72.here hx rfl (hb hby d4_132) rfl rfl (XS.dup X72.here hx rfl (hb hby d4_133) rfl rfl kc_)) ?_
  show own_Ends p e below s _ _ _ (T72.setTop (mkF m 134 #[.val (.ref oo), .val (.int x), .unset, .unset, .unset, .unset, .unset] [(.ref oo), (.ref oo)]))
  obtain ⟨T73, X73, e73, st73⟩ := getF X72 hx hZ hown (host := "") (Or.inl (hw _ (List.mem_of_getElem? (i := 20) rfl))) Via.refl e72 F_oo_hash_72 (g := (mkF m 134 #[.val (.ref oo), .val (.int x), .unset, .unset, .unset, .unset, .unset] [(.ref oo), (.ref oo)])) rfl rfl (hb hby d4_134)
  refine own_step (fun _ kc_ => st73 _ kc_) ?_
  show own_Ends p e below s _ _ _ (T73.setTop (mkF m 137 #[.val (.ref oo), .val (.int x), .unset, .unset, .unset, .unset, .unset] [(.int hv), (.ref oo)]))
  refine own_step (fun _ kc_ => XS.iloadN X73.here hx rfl (hb hby d4_137) rfl kc_) ?_
  show own_Ends p e below s _ _ _ (T73.setTop (mkF m 138 #[.val (.ref oo), .val (.int x), .unset, .unset, .unset, .unset, .unset] [(.int x), (.int hv), (.ref oo)]))
  obtain ⟨_, _, ⟨T74, L74, k74, n74⟩, -, X74, ⟨Lc74, hQ74, l74, y74, z74⟩, st74⟩ := Jvm.LawKit.callS X73 hx (y := (⟨"com/example/kinds_by_value/kindsbyvalue/Hashes", "spread", "(I)I"⟩ : MethodName)) hown (mvT hZ (hw _ (List.mem_of_getElem? (i := 34) rfl))) (mvT hZ (hw _ (List.mem_of_getElem? (i := 35) rfl))) (mvT hZ (hw _ (List.mem_of_getElem? (i := 36) rfl))) (mvT hZ (hw _ (List.mem_of_getElem? (i := 37) rfl))) (by decide) (backOf (W := 2) (rm6 l Z a0 hw [] x  h72 n0 Zs72 ) hZ (hw _ (List.mem_of_getElem? (i := 37) rfl)) (hw _ (List.mem_of_getElem? (i := 36) rfl)) (by decide) (by decide)) (g := (mkF m 138 #[.val (.ref oo), .val (.int x), .unset, .unset, .unset, .unset, .unset] [(.int x), (.int hv), (.ref oo)])) rfl (by rw [hml]; rfl) (argsL := [(.int x)]) (rest := [(.int hv), (.ref oo)]) (lenOf pd_3 rfl) rfl (by show 2 * 0 + _ ≤ _; exact Nat.le_of_eq rfl) (hb hby d4_138) (fun _ _ => ⟨rfl, e73, (by decide : 0 + 0 ≤ _), (by decide : 0 + 0 ≤ _)⟩)
  dsimp only [Pt.U, Pt.locs, Pt.cells, Pt.slots] at X74 l74 y74 z74 st74 hQ74
  subst l74 y74 z74
  obtain ⟨rfl, N74q, e74⟩ := hQ74
  have e74h : T74.heap = h72 := e74
  have N74 := Fr.app N72 N74q
  refine own_step (fun _ kc_ => st74 _ kc_) ?_
  show own_Ends p e below s _ _ _ (T74.setTop (mkF m 141 #[.val (.ref oo), .val (.int x), .unset, .unset, .unset, .unset, .unset] [(.int (own_sp x)), (.int hv), (.ref oo)]))
  refine own_step (fun _ kc_ => XS.iadd X74.here hx rfl (hb hby d4_141) rfl kc_) ?_
  show own_Ends p e below s _ _ _ (T74.setTop (mkF m 142 #[.val (.ref oo), .val (.int x), .unset, .unset, .unset, .unset, .unset] [(.int (hv + (own_sp x))), (.ref oo)]))
  obtain ⟨T75, h75, X75, e75, W75, st75⟩ := putF X74 hx hZ hown (host := "") (Or.inl (hw _ (List.mem_of_getElem? (i := 20) rfl))) Via.refl e74h F_oo_hash_72 E_oo_72 (Or.inl (hw _ (List.mem_of_getElem? (i := 21) rfl))) (hw _ (List.mem_of_getElem? (i := 2) rfl)) (ty := .int) (by decide) rfl rfl (g := (mkF m 142 #[.val (.ref oo), .val (.int x), .unset, .unset, .unset, .unset, .unset] [(.int (hv + (own_sp x))), (.ref oo)])) rfl rfl (hb hby d4_142)
  have E_oo_75 := (E_oo_72).wr W75
  have F_oo_everyName_75 := (F_oo_everyName_72).other W75 (Or.inr (slot_ne (Or.inl (hw _ (List.mem_of_getElem? (i := 19) rfl))) (Or.inl (hw _ (List.mem_of_getElem? (i := 21) rfl))) (by decide) (t := .boolean) (t' := .int) (by decide) (by decide)))
  have F_oo_bits_75 := (F_oo_bits_72).other W75 (Or.inr (slot_ne (Or.inl (hw _ (List.mem_of_getElem? (i := 12) rfl))) (Or.inl (hw _ (List.mem_of_getElem? (i := 21) rfl))) (by decide) (t := (.array .long)) (t' := .int) (by decide) (by decide)))
  have A_ba_75 := (A_ba_72).other W75 (Ne.symm ne0)
  have F_oo_size_75 := (F_oo_size_72).other W75 (Or.inr (slot_ne (Or.inl (hw _ (List.mem_of_getElem? (i := 33) rfl))) (Or.inl (hw _ (List.mem_of_getElem? (i := 21) rfl))) (by decide) (t := .int) (t' := .int) (by decide) (by decide)))
  have F_oo_hash_75 := (F_oo_hash_72).same W75
  have F_oo_table_75 := (F_oo_table_72).other W75 (Or.inr (slot_ne (Or.inl (hw _ (List.mem_of_getElem? (i := 46) rfl))) (Or.inl (hw _ (List.mem_of_getElem? (i := 21) rfl))) (by decide) (t := (.array .int)) (t' := .int) (by decide) (by decide)))
  have K75 := (K72).wr W75 (Or.inl (List.mem_of_getElem? (i := 0) rfl))
  have Zs75 := Nat.le_trans Zs72 (Nat.le_of_eq W75.size.symm)
  have N75 := Fr.snoc X75 N74 g0
  refine own_step (fun _ kc_ => st75 _ kc_) ?_
  show own_Ends p e below s _ _ _ (T75.setTop (mkF m 145 #[.val (.ref oo), .val (.int x), .unset, .unset, .unset, .unset, .unset] []))
  refine own_step (fun _ kc_ => XS.iconst X75.here hx rfl (hb hby d4_145) kc_) ?_
  show own_Ends p e below s _ _ _ (T75.setTop (mkF m 146 #[.val (.ref oo), .val (.int x), .unset, .unset, .unset, .unset, .unset] [(.int (1 : Int32))]))
  exact own_retN X75 hx (t := .boolean) hret (by simp) hlk (hb hby d4_146) (by decide) (by decide) rfl (by rw [e75]; exact ⟨rfl, N75, K75, F_oo_everyName_75, F_oo_size_75, F_oo_hash_75, F_oo_bits_75, F_oo_table_75, A_ba_75⟩)
theorem pn_3 : plainName "com/example/kinds_by_value/kindsbyvalue/NameSetHashCodePinLaw" = true := by first | (simp [plainName, overriddenIn]; done) | decide +kernel
theorem pd_5 : parseMethodDescriptor "(I)V" = some ⟨[.int], none⟩ := by decide +kernel
theorem pd_6 : parseMethodDescriptor "()I" = some ⟨[], some .int⟩ := by decide +kernel
def Q0 (Z : State) (p1 : Int32) (p2 : Int32) (p3 : Int32) (p4 : Int32) (p5 : Int32)  (h0 : Heap) (n0 : Nat) (v : Option Value) (h : Heap) (L : List Loc) : Prop := v = some (.int (1 : Int32)) ∧ Fr n0 L
set_option maxRecDepth 65536 in
set_option maxHeartbeats 40000000 in
theorem seg_T {p : Program} {l : Launch} {e : Env} {s : State} {m : MethodId} {below : List Frame} {meth : Method} {c : Code} {Z : State} {a0 : Array Value} (hw : ∀ d ∈ tables_1, d.before a0 Z = true) (hZ : Z.Warmed39 s.vm) (hx : p.tables.exec = Jvm.exec) (hby : c.code = code) (hlk : meth.locks = false) (hret : meth.sig.returnType = some .boolean) (hml : c.maxLocals = 15) (hown : s.vm.findClass "com/example/kinds_by_value/kindsbyvalue/NameSetHashCodePinLaw" = some m.cls) (p1 : Int32) (p2 : Int32) (p3 : Int32) (p4 : Int32) (p5 : Int32)  {h0 : Heap} {n0 : Nat} {nc va vr vs vb vc : Int32} (hnc : 513 ≤ nc.toInt) (oa : own_ok nc va) (ob : own_ok nc vb) (oc : own_ok nc vc) {h : Heap}  :
    ∀ {T : State} {locs : List Loc} {cells slots : Nat} (X : Stand p l e room_1 s m #[(.int p1), (.int p2), (.int p3), (.int p4), (.int p5)] below meth c T locs cells slots) (e0 : T.heap = h) (N0 : Fr n0 locs) (Z0 : n0 ≤ h.size) (hcs : cells = 0) (hsl : slots = 0), own_Ends p e below s 16 128 (Q0 Z p1 p2 p3 p4 p5  h0 n0) (T.setTop (mkF m 98 #[.val (.int p1), .val (.int p2), .val (.int p3), .val (.int p4), .val (.int p5), .val (.int (1 : Int32)), .val (.int nc), .val (.int va), .val (.int vr), .val (.int vs), .val (.int vb), .val (.int vc), .unset, .unset, .unset] [])) := by
  intro T locs cells slots X e0 N0 Z0 hcs hsl
  subst hcs hsl
  show own_Ends p e below s _ _ _ (T.setTop (mkF m 98 #[.val (.int p1), .val (.int p2), .val (.int p3), .val (.int p4), .val (.int p5), .val (.int (1 : Int32)), .val (.int nc), .val (.int va), .val (.int vr), .val (.int vs), .val (.int vb), .val (.int vc), .unset, .unset, .unset] []))
  obtain ⟨T76, h76, X76, e76, E76, A76, D76, -, st76⟩ := newO X hx hZ hown (hw _ (List.mem_of_getElem? (i := 1) rfl)) (hw _ (List.mem_of_getElem? (i := 2) rfl)) (hw _ (List.mem_of_getElem? (i := 3) rfl)) e0 (g := (mkF m 98 #[.val (.int p1), .val (.int p2), .val (.int p3), .val (.int p4), .val (.int p5), .val (.int (1 : Int32)), .val (.int nc), .val (.int va), .val (.int vr), .val (.int vs), .val (.int vb), .val (.int vc), .unset, .unset, .unset] [])) rfl (hb hby at_98) (by decide : 0 + 1 ≤ _) (by decide : 0 + 5 ≤ _)
  obtain ⟨b76, g76⟩ : ∃ z, z = h.size := ⟨_, rfl⟩
  rw [← g76] at A76 D76 st76
  have n0_b76 : n0 ≤ b76 := Nat.le_trans Z0 (Nat.le_of_eq g76.symm)
  have Zs76 := Nat.le_trans Z0 E76.1
  have F_bits_b76 : Fld Z h76 b76 "com/example/kinds_by_value/kindsbyvalue/NameSet" "bits" "[J" .null := D76 (Or.inl (hw _ (List.mem_of_getElem? (i := 12) rfl))) (ty := (.array .long)) (by decide)
  have F_everyName_b76 : Fld Z h76 b76 "com/example/kinds_by_value/kindsbyvalue/NameSet" "everyName" "Z" (.int (0 : Int32)) := D76 (Or.inl (hw _ (List.mem_of_getElem? (i := 19) rfl))) (ty := .boolean) (by decide)
  have F_hash_b76 : Fld Z h76 b76 "com/example/kinds_by_value/kindsbyvalue/NameSet" "hash" "I" (.int (0 : Int32)) := D76 (Or.inl (hw _ (List.mem_of_getElem? (i := 21) rfl))) (ty := .int) (by decide)
  have F_size_b76 : Fld Z h76 b76 "com/example/kinds_by_value/kindsbyvalue/NameSet" "size" "I" (.int (0 : Int32)) := D76 (Or.inl (hw _ (List.mem_of_getElem? (i := 33) rfl))) (ty := .int) (by decide)
  have F_table_b76 : Fld Z h76 b76 "com/example/kinds_by_value/kindsbyvalue/NameSet" "table" "[I" .null := D76 (Or.inl (hw _ (List.mem_of_getElem? (i := 46) rfl))) (ty := (.array .int)) (by decide)
  refine own_step (fun _ kc_ => st76 _ kc_) ?_
  show own_Ends p e below s _ _ _ (T76.setTop (mkF m 101 #[.val (.int p1), .val (.int p2), .val (.int p3), .val (.int p4), .val (.int p5), .val (.int (1 : Int32)), .val (.int nc), .val (.int va), .val (.int vr), .val (.int vs), .val (.int vb), .val (.int vc), .unset, .unset, .unset] [(.ref b76)]))
  refine own_step (fun _ kc_ => XS.dup X76.here hx rfl (hb hby at_101) rfl rfl (XS.iload X76.here hx rfl (hb hby at_102) rfl kc_)) ?_
  show own_Ends p e below s _ _ _ (T76.setTop (mkF m 104 #[.val (.int p1), .val (.int p2), .val (.int p3), .val (.int p4), .val (.int p5), .val (.int (1 : Int32)), .val (.int nc), .val (.int va), .val (.int vr), .val (.int vs), .val (.int vb), .val (.int vc), .unset, .unset, .unset] [(.int nc), (.ref b76), (.ref b76)]))
  obtain ⟨_, _, ⟨T77, L77, k77, n77⟩, -, X77, ⟨Lc77, hQ77, l77, y77, z77⟩, st77⟩ := X76.specialBack hx (y := (⟨"com/example/kinds_by_value/kindsbyvalue/NameSet", "<init>", "(I)V"⟩ : MethodName)) rfl hown (mvT hZ (hw _ (List.mem_of_getElem? (i := 4) rfl))) (mvT hZ (hw _ (List.mem_of_getElem? (i := 5) rfl))) (mvT hZ (hw _ (List.mem_of_getElem? (i := 6) rfl))) (by decide) (backOf (W := 1) (rmIT l Z a0 hw [] b76 nc  h76 n0 Zs76 A76 F_everyName_b76 F_bits_b76 F_table_b76 F_size_b76 F_hash_b76 n0_b76 (by rw [Int32.lt_iff_toInt_lt, show (512 : Int32).toInt = 512 from rfl]; omega)) hZ (hw _ (List.mem_of_getElem? (i := 6) rfl)) (hw _ (List.mem_of_getElem? (i := 3) rfl)) (by decide) (by decide)) (g := (mkF m 104 #[.val (.int p1), .val (.int p2), .val (.int p3), .val (.int p4), .val (.int p5), .val (.int (1 : Int32)), .val (.int nc), .val (.int va), .val (.int vr), .val (.int vs), .val (.int vb), .val (.int vc), .unset, .unset, .unset] [(.int nc), (.ref b76), (.ref b76)])) rfl (by rw [hml]; rfl) (Steps.refl _) (a := b76) (argsL := [(.int nc)]) (rest := [(.ref b76)]) (lenOf pd_5 rfl) rfl (by show 2 * 0 + _ ≤ _; exact Nat.le_of_eq rfl) (hb hby at_104) (fun _ _ => ⟨rfl, e76, (by decide : 1 + 1 ≤ _), (by decide : 5 + 16 ≤ _)⟩)
  dsimp only [Pt.U, Pt.locs, Pt.cells, Pt.slots] at X77 l77 y77 z77 st77 hQ77
  subst l77 y77 z77
  obtain ⟨rfl, N77q, K77k, fE77, fS77, fH77, ta, har, noar, fB77, fT77, fA77⟩ := hQ77
  have n0ar : n0 ≤ ta := Nat.le_trans Zs76 har
  have E_b76_77 := (A76).keep K77k
  have Zs77 := Nat.le_trans Zs76 K77k.1
  have N77 := Fr.app N0 N77q
  refine own_step (fun _ kc_ => st77.trans kc_) ?_
  show own_Ends p e below s _ _ _ (T77.setTop (mkF m 107 #[.val (.int p1), .val (.int p2), .val (.int p3), .val (.int p4), .val (.int p5), .val (.int (1 : Int32)), .val (.int nc), .val (.int va), .val (.int vr), .val (.int vs), .val (.int vb), .val (.int vc), .unset, .unset, .unset] [(.ref b76)]))
  refine own_step (fun _ kc_ => XS.astore X77.here hx rfl (hb hby at_107) rfl rfl (l' := #[.val (.int p1), .val (.int p2), .val (.int p3), .val (.int p4), .val (.int p5), .val (.int (1 : Int32)), .val (.int nc), .val (.int va), .val (.int vr), .val (.int vs), .val (.int vb), .val (.int vc), .val (.ref b76), .unset, .unset]) rfl (XS.aload X77.here hx rfl (hb hby at_109) rfl rfl kc_)) ?_
  show own_Ends p e below s _ _ _ (T77.setTop (mkF m 111 #[.val (.int p1), .val (.int p2), .val (.int p3), .val (.int p4), .val (.int p5), .val (.int (1 : Int32)), .val (.int nc), .val (.int va), .val (.int vr), .val (.int vs), .val (.int vb), .val (.int vc), .val (.ref b76), .unset, .unset] [(.ref b76)]))
  obtain ⟨cq78, kq78, q78a, q78b, q78c⟩ := isOf hZ rfl E_b76_77
  obtain ⟨_, _, ⟨T78, L78, k78, n78⟩, -, X78, ⟨Lc78, hQ78, l78, y78, z78⟩, st78⟩ := X77.virtualBack hx (y := (⟨"com/example/kinds_by_value/kindsbyvalue/NameSet", "hashCode", "()I"⟩ : MethodName)) (z := (⟨"com/example/kinds_by_value/kindsbyvalue/NameSet", "hashCode", "()I"⟩ : MethodName)) hown (mvT hZ (hw _ (List.mem_of_getElem? (i := 13) rfl))) (mvT hZ (hw _ (List.mem_of_getElem? (i := 14) rfl))) (notFace_of_selects (args := #[]) (mvT hZ (hw _ (List.mem_of_getElem? (i := 16) rfl)))) (mvT hZ (hw _ (List.mem_of_getElem? (i := 16) rfl))) (mvT hZ (hw _ (List.mem_of_getElem? (i := 15) rfl))) (by decide) (backOf (W := 0) (rmH0 l Z a0 hw [] b76 (0 : Int32) T77.heap n0 Zs77 fE77 fH77) hZ (hw _ (List.mem_of_getElem? (i := 17) rfl)) (hw _ (List.mem_of_getElem? (i := 3) rfl)) (by decide) (by decide)) q78a q78c (g := (mkF m 111 #[.val (.int p1), .val (.int p2), .val (.int p3), .val (.int p4), .val (.int p5), .val (.int (1 : Int32)), .val (.int nc), .val (.int va), .val (.int vr), .val (.int vs), .val (.int vb), .val (.int vc), .val (.ref b76), .unset, .unset] [(.ref b76)])) rfl (by rw [hml]; rfl) (Steps.refl _) (argsL := []) (rest := []) (lenOf pd_6 rfl) rfl (by show 2 * 0 + _ ≤ _; exact Nat.le_of_eq rfl) (hb hby at_111) (fun _ _ => ⟨rfl, rfl, (by decide : 2 + 0 ≤ _), (by decide : 21 + 0 ≤ _)⟩)
  dsimp only [Pt.U, Pt.locs, Pt.cells, Pt.slots] at X78 l78 y78 z78 st78 hQ78
  subst l78 y78 z78
  obtain ⟨rfl, N78q, e78⟩ := hQ78
  have e78h : T78.heap = T77.heap := e78
  have N78 := Fr.app N77 N78q
  refine own_step (fun _ kc_ => st78.trans kc_) ?_
  show own_Ends p e below s _ _ _ (T78.setTop (mkF m 114 #[.val (.int p1), .val (.int p2), .val (.int p3), .val (.int p4), .val (.int p5), .val (.int (1 : Int32)), .val (.int nc), .val (.int va), .val (.int vr), .val (.int vs), .val (.int vb), .val (.int vc), .val (.ref b76), .unset, .unset] [(.int (0 : Int32))]))
  refine own_step (fun _ kc_ => XS.ifNo X78.here hx rfl (hb hby at_114) rfl (XT.i0_ne_f (by decide : (0 : Int32) = 0)) (XS.iconst X78.here hx rfl (hb hby at_117) (XS.goto X78.here hx rfl (pc0 := 118) (pc' := 122) rfl (hb hby at_118) (by decide) (by decide) (XS.istore X78.here hx rfl (hb hby at_122) rfl (l' := #[.val (.int p1), .val (.int p2), .val (.int p3), .val (.int p4), .val (.int p5), .val (.int (1 : Int32)), .val (.int nc), .val (.int va), .val (.int vr), .val (.int vs), .val (.int vb), .val (.int vc), .val (.ref b76), .val (.int (1 : Int32)), .unset]) rfl (XS.aload X78.here hx rfl (hb hby at_124) rfl rfl (XS.iload X78.here hx rfl (hb hby at_126) rfl kc_)))))) ?_
  show own_Ends p e below s _ _ _ (T78.setTop (mkF m 128 #[.val (.int p1), .val (.int p2), .val (.int p3), .val (.int p4), .val (.int p5), .val (.int (1 : Int32)), .val (.int nc), .val (.int va), .val (.int vr), .val (.int vs), .val (.int vb), .val (.int vc), .val (.ref b76), .val (.int (1 : Int32)), .unset] [(.int va), (.ref b76)]))
  have hin : va ∉ ([] : List Int32) := by simp
  obtain ⟨k1, hkk1, hfk1, hmk1⟩ := own_miss own_good0 (Nat.le_of_ble_eq_true rfl) hin (own_ne1 oa.1)
  have hrk1 : ¬ own_pr (List.replicate 16 (-1 : Int32)) va k1 = va := fun q => own_ne1 oa.1 (q.symm.trans hmk1)
  obtain ⟨cq79, kq79, q79a, q79b, q79c⟩ := isOf hZ e78h E_b76_77
  obtain ⟨_, _, ⟨T79, L79, k79, n79⟩, -, X79, ⟨Lc79, hQ79, l79, y79, z79⟩, st79⟩ := X78.virtualBack hx (y := (⟨"com/example/kinds_by_value/kindsbyvalue/NameSet", "add", "(I)Z"⟩ : MethodName)) (z := (⟨"com/example/kinds_by_value/kindsbyvalue/NameSet", "add", "(I)Z"⟩ : MethodName)) hown (mvT hZ (hw _ (List.mem_of_getElem? (i := 22) rfl))) (mvT hZ (hw _ (List.mem_of_getElem? (i := 23) rfl))) (notFace_of_selects (args := #[]) (mvT hZ (hw _ (List.mem_of_getElem? (i := 25) rfl)))) (mvT hZ (hw _ (List.mem_of_getElem? (i := 25) rfl))) (mvT hZ (hw _ (List.mem_of_getElem? (i := 24) rfl))) (by decide) (backOf (W := 0) (rmAT0 l Z a0 hw [] b76 va ta (List.replicate 16 (-1 : Int32)) k1 (0 : Int32) (0 : Int32) T77.heap n0 Zs77 E_b76_77 fE77 fB77 fT77 fA77 own_good0.1 hfk1 hrk1 (by decide) fS77 fH77 n0_b76 n0ar noar) hZ (hw _ (List.mem_of_getElem? (i := 26) rfl)) (hw _ (List.mem_of_getElem? (i := 3) rfl)) (by decide) (by decide)) q79a q79c (g := (mkF m 128 #[.val (.int p1), .val (.int p2), .val (.int p3), .val (.int p4), .val (.int p5), .val (.int (1 : Int32)), .val (.int nc), .val (.int va), .val (.int vr), .val (.int vs), .val (.int vb), .val (.int vc), .val (.ref b76), .val (.int (1 : Int32)), .unset] [(.int va), (.ref b76)])) rfl (by rw [hml]; rfl) (Steps.refl _) (argsL := [(.int va)]) (rest := []) (lenOf pd_4 rfl) rfl (by show 2 * 0 + _ ≤ _; exact Nat.le_of_eq rfl) (hb hby at_128) (fun _ _ => ⟨rfl, e78h, (by decide : 2 + 0 ≤ _), (by decide : 21 + 0 ≤ _)⟩)
  dsimp only [Pt.U, Pt.locs, Pt.cells, Pt.slots] at X79 l79 y79 z79 st79 hQ79
  subst l79 y79 z79
  obtain ⟨rfl, N79q, K79k, fE79, fS79, fH79, fB79, fT79, fA79⟩ := hQ79
  have E_b76_79 := (E_b76_77).keep K79k
  have Zs79 := Nat.le_trans Zs77 K79k.1
  have G79 : own_good ((List.replicate 16 (-1 : Int32)).set (own_pl va k1) va) (va :: ([] : List Int32)) := own_ins own_good0 hin (own_ne1 oa.1) (by simp) hkk1 hfk1 hmk1
  generalize ((List.replicate 16 (-1 : Int32)).set (own_pl va k1) va) = ts79 at fA79 G79
  have N79 := Fr.app N78 N79q
  refine own_step (fun _ kc_ => st79.trans kc_) ?_
  show own_Ends p e below s _ _ _ (T79.setTop (mkF m 131 #[.val (.int p1), .val (.int p2), .val (.int p3), .val (.int p4), .val (.int p5), .val (.int (1 : Int32)), .val (.int nc), .val (.int va), .val (.int vr), .val (.int vs), .val (.int vb), .val (.int vc), .val (.ref b76), .val (.int (1 : Int32)), .unset] [(.int (1 : Int32))]))
  refine own_step (fun _ kc_ => XS.pop X79.here hx rfl (hb hby at_131) rfl rfl kc_) ?_
  show own_Ends p e below s _ _ _ (T79.setTop (mkF m 132 #[.val (.int p1), .val (.int p2), .val (.int p3), .val (.int p4), .val (.int p5), .val (.int (1 : Int32)), .val (.int nc), .val (.int va), .val (.int vr), .val (.int vs), .val (.int vb), .val (.int vc), .val (.ref b76), .val (.int (1 : Int32)), .unset] []))
  by_cases hba : vb = va
  · show own_Ends p e below s _ _ _ (T79.setTop (mkF m 132 #[.val (.int p1), .val (.int p2), .val (.int p3), .val (.int p4), .val (.int p5), .val (.int (1 : Int32)), .val (.int nc), .val (.int va), .val (.int vr), .val (.int vs), .val (.int vb), .val (.int vc), .val (.ref b76), .val (.int (1 : Int32)), .unset] []))
    refine own_step (fun _ kc_ => XS.aload X79.here hx rfl (hb hby at_132) rfl rfl (XS.iload X79.here hx rfl (hb hby at_134) rfl kc_)) ?_
    show own_Ends p e below s _ _ _ (T79.setTop (mkF m 136 #[.val (.int p1), .val (.int p2), .val (.int p3), .val (.int p4), .val (.int p5), .val (.int (1 : Int32)), .val (.int nc), .val (.int va), .val (.int vr), .val (.int vs), .val (.int vb), .val (.int vc), .val (.ref b76), .val (.int (1 : Int32)), .unset] [(.int vb), (.ref b76)]))
    have hin : vb ∈ [va] := by simp [hba]
    obtain ⟨k2, hkk2, hfk2, hrk2⟩ := own_hit G79 hin
    obtain ⟨cq80, kq80, q80a, q80b, q80c⟩ := isOf hZ rfl E_b76_79
    obtain ⟨_, _, ⟨T80, L80, k80, n80⟩, -, X80, ⟨Lc80, hQ80, l80, y80, z80⟩, st80⟩ := X79.virtualBack hx (y := (⟨"com/example/kinds_by_value/kindsbyvalue/NameSet", "add", "(I)Z"⟩ : MethodName)) (z := (⟨"com/example/kinds_by_value/kindsbyvalue/NameSet", "add", "(I)Z"⟩ : MethodName)) hown (mvT hZ (hw _ (List.mem_of_getElem? (i := 22) rfl))) (mvT hZ (hw _ (List.mem_of_getElem? (i := 23) rfl))) (notFace_of_selects (args := #[]) (mvT hZ (hw _ (List.mem_of_getElem? (i := 25) rfl)))) (mvT hZ (hw _ (List.mem_of_getElem? (i := 25) rfl))) (mvT hZ (hw _ (List.mem_of_getElem? (i := 24) rfl))) (by decide) (backOf (W := 0) (rmAT1 l Z a0 hw [] b76 vb ta ts79 k2 T79.heap n0 Zs79 E_b76_79 fE79 fB79 fT79 fA79 G79.1 hfk2 hrk2) hZ (hw _ (List.mem_of_getElem? (i := 26) rfl)) (hw _ (List.mem_of_getElem? (i := 3) rfl)) (by decide) (by decide)) q80a q80c (g := (mkF m 136 #[.val (.int p1), .val (.int p2), .val (.int p3), .val (.int p4), .val (.int p5), .val (.int (1 : Int32)), .val (.int nc), .val (.int va), .val (.int vr), .val (.int vs), .val (.int vb), .val (.int vc), .val (.ref b76), .val (.int (1 : Int32)), .unset] [(.int vb), (.ref b76)])) rfl (by rw [hml]; rfl) (Steps.refl _) (argsL := [(.int vb)]) (rest := []) (lenOf pd_4 rfl) rfl (by show 2 * 0 + _ ≤ _; exact Nat.le_of_eq rfl) (hb hby at_136) (fun _ _ => ⟨rfl, rfl, (by decide : 2 + 0 ≤ _), (by decide : 21 + 0 ≤ _)⟩)
    dsimp only [Pt.U, Pt.locs, Pt.cells, Pt.slots] at X80 l80 y80 z80 st80 hQ80
    subst l80 y80 z80
    obtain ⟨rfl, N80q, e80⟩ := hQ80
    have e80h : T80.heap = T79.heap := e80
    have N80 := Fr.app N79 N80q
    refine own_step (fun _ kc_ => st80.trans kc_) ?_
    show own_Ends p e below s _ _ _ (T80.setTop (mkF m 139 #[.val (.int p1), .val (.int p2), .val (.int p3), .val (.int p4), .val (.int p5), .val (.int (1 : Int32)), .val (.int nc), .val (.int va), .val (.int vr), .val (.int vs), .val (.int vb), .val (.int vc), .val (.ref b76), .val (.int (1 : Int32)), .unset] [(.int (0 : Int32))]))
    refine own_step (fun _ kc_ => XS.pop X80.here hx rfl (hb hby at_139) rfl rfl kc_) ?_
    show own_Ends p e below s _ _ _ (T80.setTop (mkF m 140 #[.val (.int p1), .val (.int p2), .val (.int p3), .val (.int p4), .val (.int p5), .val (.int (1 : Int32)), .val (.int nc), .val (.int va), .val (.int vr), .val (.int vs), .val (.int vb), .val (.int vc), .val (.ref b76), .val (.int (1 : Int32)), .unset] []))
    by_cases hca : vc = va
    · show own_Ends p e below s _ _ _ (T80.setTop (mkF m 140 #[.val (.int p1), .val (.int p2), .val (.int p3), .val (.int p4), .val (.int p5), .val (.int (1 : Int32)), .val (.int nc), .val (.int va), .val (.int vr), .val (.int vs), .val (.int vb), .val (.int vc), .val (.ref b76), .val (.int (1 : Int32)), .unset] []))
      refine own_step (fun _ kc_ => XS.aload X80.here hx rfl (hb hby at_140) rfl rfl (XS.iload X80.here hx rfl (hb hby at_142) rfl kc_)) ?_
      show own_Ends p e below s _ _ _ (T80.setTop (mkF m 144 #[.val (.int p1), .val (.int p2), .val (.int p3), .val (.int p4), .val (.int p5), .val (.int (1 : Int32)), .val (.int nc), .val (.int va), .val (.int vr), .val (.int vs), .val (.int vb), .val (.int vc), .val (.ref b76), .val (.int (1 : Int32)), .unset] [(.int vc), (.ref b76)]))
      have hin : vc ∈ [va] := by simp [hca]
      obtain ⟨k3, hkk3, hfk3, hrk3⟩ := own_hit G79 hin
      obtain ⟨cq81, kq81, q81a, q81b, q81c⟩ := isOf hZ e80h E_b76_79
      obtain ⟨_, _, ⟨T81, L81, k81, n81⟩, -, X81, ⟨Lc81, hQ81, l81, y81, z81⟩, st81⟩ := X80.virtualBack hx (y := (⟨"com/example/kinds_by_value/kindsbyvalue/NameSet", "add", "(I)Z"⟩ : MethodName)) (z := (⟨"com/example/kinds_by_value/kindsbyvalue/NameSet", "add", "(I)Z"⟩ : MethodName)) hown (mvT hZ (hw _ (List.mem_of_getElem? (i := 22) rfl))) (mvT hZ (hw _ (List.mem_of_getElem? (i := 23) rfl))) (notFace_of_selects (args := #[]) (mvT hZ (hw _ (List.mem_of_getElem? (i := 25) rfl)))) (mvT hZ (hw _ (List.mem_of_getElem? (i := 25) rfl))) (mvT hZ (hw _ (List.mem_of_getElem? (i := 24) rfl))) (by decide) (backOf (W := 0) (rmAT1 l Z a0 hw [] b76 vc ta ts79 k3 T79.heap n0 Zs79 E_b76_79 fE79 fB79 fT79 fA79 G79.1 hfk3 hrk3) hZ (hw _ (List.mem_of_getElem? (i := 26) rfl)) (hw _ (List.mem_of_getElem? (i := 3) rfl)) (by decide) (by decide)) q81a q81c (g := (mkF m 144 #[.val (.int p1), .val (.int p2), .val (.int p3), .val (.int p4), .val (.int p5), .val (.int (1 : Int32)), .val (.int nc), .val (.int va), .val (.int vr), .val (.int vs), .val (.int vb), .val (.int vc), .val (.ref b76), .val (.int (1 : Int32)), .unset] [(.int vc), (.ref b76)])) rfl (by rw [hml]; rfl) (Steps.refl _) (argsL := [(.int vc)]) (rest := []) (lenOf pd_4 rfl) rfl (by show 2 * 0 + _ ≤ _; exact Nat.le_of_eq rfl) (hb hby at_144) (fun _ _ => ⟨rfl, e80h, (by decide : 2 + 0 ≤ _), (by decide : 21 + 0 ≤ _)⟩)
      dsimp only [Pt.U, Pt.locs, Pt.cells, Pt.slots] at X81 l81 y81 z81 st81 hQ81
      subst l81 y81 z81
      obtain ⟨rfl, N81q, e81⟩ := hQ81
      have e81h : T81.heap = T79.heap := e81
      have N81 := Fr.app N80 N81q
      refine own_step (fun _ kc_ => st81.trans kc_) ?_
      show own_Ends p e below s _ _ _ (T81.setTop (mkF m 147 #[.val (.int p1), .val (.int p2), .val (.int p3), .val (.int p4), .val (.int p5), .val (.int (1 : Int32)), .val (.int nc), .val (.int va), .val (.int vr), .val (.int vs), .val (.int vb), .val (.int vc), .val (.ref b76), .val (.int (1 : Int32)), .unset] [(.int (0 : Int32))]))
      refine own_step (fun _ kc_ => XS.pop X81.here hx rfl (hb hby at_147) rfl rfl (XS.iload X81.here hx rfl (hb hby at_148) rfl kc_)) ?_
      show own_Ends p e below s _ _ _ (T81.setTop (mkF m 150 #[.val (.int p1), .val (.int p2), .val (.int p3), .val (.int p4), .val (.int p5), .val (.int (1 : Int32)), .val (.int nc), .val (.int va), .val (.int vr), .val (.int vs), .val (.int vb), .val (.int vc), .val (.ref b76), .val (.int (1 : Int32)), .unset] [(.int va)]))
      obtain ⟨_, _, ⟨T82, L82, k82, n82⟩, -, X82, ⟨Lc82, hQ82, l82, y82, z82⟩, st82⟩ := Jvm.LawKit.callS X81 hx (y := (⟨"com/example/kinds_by_value/kindsbyvalue/Hashes", "spread", "(I)I"⟩ : MethodName)) hown (mvT hZ (hw _ (List.mem_of_getElem? (i := 39) rfl))) (mvT hZ (hw _ (List.mem_of_getElem? (i := 35) rfl))) (mvT hZ (hw _ (List.mem_of_getElem? (i := 36) rfl))) (mvT hZ (hw _ (List.mem_of_getElem? (i := 37) rfl))) (by decide) (backOf (W := 0) (rm6 l Z a0 hw [] va  T79.heap n0 Zs79 ) hZ (hw _ (List.mem_of_getElem? (i := 37) rfl)) (hw _ (List.mem_of_getElem? (i := 36) rfl)) (by decide) (by decide)) (g := (mkF m 150 #[.val (.int p1), .val (.int p2), .val (.int p3), .val (.int p4), .val (.int p5), .val (.int (1 : Int32)), .val (.int nc), .val (.int va), .val (.int vr), .val (.int vs), .val (.int vb), .val (.int vc), .val (.ref b76), .val (.int (1 : Int32)), .unset] [(.int va)])) rfl (by rw [hml]; rfl) (argsL := [(.int va)]) (rest := []) (lenOf pd_3 rfl) rfl (by show 2 * 0 + _ ≤ _; exact Nat.le_of_eq rfl) (hb hby at_150) (fun _ _ => ⟨rfl, e81h, (by decide : 2 + 0 ≤ _), (by decide : 21 + 0 ≤ _)⟩)
      dsimp only [Pt.U, Pt.locs, Pt.cells, Pt.slots] at X82 l82 y82 z82 st82 hQ82
      subst l82 y82 z82
      obtain ⟨rfl, N82q, e82⟩ := hQ82
      have e82h : T82.heap = T79.heap := e82
      have N82 := Fr.app N81 N82q
      refine own_step (fun _ kc_ => st82 _ kc_) ?_
      show own_Ends p e below s _ _ _ (T82.setTop (mkF m 153 #[.val (.int p1), .val (.int p2), .val (.int p3), .val (.int p4), .val (.int p5), .val (.int (1 : Int32)), .val (.int nc), .val (.int va), .val (.int vr), .val (.int vs), .val (.int vb), .val (.int vc), .val (.ref b76), .val (.int (1 : Int32)), .unset] [(.int (own_sp va))]))
      refine own_step (fun _ kc_ => XS.istore X82.here hx rfl (hb hby at_153) rfl (l' := #[.val (.int p1), .val (.int p2), .val (.int p3), .val (.int p4), .val (.int p5), .val (.int (1 : Int32)), .val (.int nc), .val (.int va), .val (.int vr), .val (.int vs), .val (.int vb), .val (.int vc), .val (.ref b76), .val (.int (1 : Int32)), .val (.int (own_sp va))]) rfl (XS.iload X82.here hx rfl (hb hby at_155) rfl (XS.iload X82.here hx rfl (hb hby at_157) rfl (XS.icmpYes X82.here hx rfl (pc0 := 159) (pc' := 172) rfl (hb hby at_159) rfl (XT.ii_eq_t (hba : vb = va)) (by decide) (by decide) (XS.iload X82.here hx rfl (hb hby at_172) rfl (XS.iload X82.here hx rfl (hb hby at_174) rfl (XS.icmpYes X82.here hx rfl (pc0 := 176) (pc' := 196) rfl (hb hby at_176) rfl (XT.ii_eq_t (hca : vc = va)) (by decide) (by decide) (XS.iload X82.here hx rfl (hb hby at_196) rfl kc_)))))))) ?_
      show own_Ends p e below s _ _ _ (T82.setTop (mkF m 198 #[.val (.int p1), .val (.int p2), .val (.int p3), .val (.int p4), .val (.int p5), .val (.int (1 : Int32)), .val (.int nc), .val (.int va), .val (.int vr), .val (.int vs), .val (.int vb), .val (.int vc), .val (.ref b76), .val (.int (1 : Int32)), .val (.int (own_sp va))] [(.int (1 : Int32))]))
      refine own_step (fun _ kc_ => XS.ifNo X82.here hx rfl (hb hby at_198) rfl (XT.i0_eq_f (by decide : ¬ ((1 : Int32) = 0))) (XS.aload X82.here hx rfl (hb hby at_201) rfl rfl kc_)) ?_
      show own_Ends p e below s _ _ _ (T82.setTop (mkF m 203 #[.val (.int p1), .val (.int p2), .val (.int p3), .val (.int p4), .val (.int p5), .val (.int (1 : Int32)), .val (.int nc), .val (.int va), .val (.int vr), .val (.int vs), .val (.int vb), .val (.int vc), .val (.ref b76), .val (.int (1 : Int32)), .val (.int (own_sp va))] [(.ref b76)]))
      obtain ⟨cq83, kq83, q83a, q83b, q83c⟩ := isOf hZ e82h E_b76_79
      obtain ⟨_, _, ⟨T83, L83, k83, n83⟩, -, X83, ⟨Lc83, hQ83, l83, y83, z83⟩, st83⟩ := X82.virtualBack hx (y := (⟨"com/example/kinds_by_value/kindsbyvalue/NameSet", "hashCode", "()I"⟩ : MethodName)) (z := (⟨"com/example/kinds_by_value/kindsbyvalue/NameSet", "hashCode", "()I"⟩ : MethodName)) hown (mvT hZ (hw _ (List.mem_of_getElem? (i := 13) rfl))) (mvT hZ (hw _ (List.mem_of_getElem? (i := 14) rfl))) (notFace_of_selects (args := #[]) (mvT hZ (hw _ (List.mem_of_getElem? (i := 16) rfl)))) (mvT hZ (hw _ (List.mem_of_getElem? (i := 16) rfl))) (mvT hZ (hw _ (List.mem_of_getElem? (i := 15) rfl))) (by decide) (backOf (W := 0) (rmH0 l Z a0 hw [] b76 ((0 : Int32) + own_sp va) T79.heap n0 Zs79 fE79 fH79) hZ (hw _ (List.mem_of_getElem? (i := 17) rfl)) (hw _ (List.mem_of_getElem? (i := 3) rfl)) (by decide) (by decide)) q83a q83c (g := (mkF m 203 #[.val (.int p1), .val (.int p2), .val (.int p3), .val (.int p4), .val (.int p5), .val (.int (1 : Int32)), .val (.int nc), .val (.int va), .val (.int vr), .val (.int vs), .val (.int vb), .val (.int vc), .val (.ref b76), .val (.int (1 : Int32)), .val (.int (own_sp va))] [(.ref b76)])) rfl (by rw [hml]; rfl) (Steps.refl _) (argsL := []) (rest := []) (lenOf pd_6 rfl) rfl (by show 2 * 0 + _ ≤ _; exact Nat.le_of_eq rfl) (hb hby at_203) (fun _ _ => ⟨rfl, e82h, (by decide : 2 + 0 ≤ _), (by decide : 21 + 0 ≤ _)⟩)
      dsimp only [Pt.U, Pt.locs, Pt.cells, Pt.slots] at X83 l83 y83 z83 st83 hQ83
      subst l83 y83 z83
      obtain ⟨rfl, N83q, e83⟩ := hQ83
      have e83h : T83.heap = T79.heap := e83
      have N83 := Fr.app N82 N83q
      refine own_step (fun _ kc_ => st83.trans kc_) ?_
      show own_Ends p e below s _ _ _ (T83.setTop (mkF m 206 #[.val (.int p1), .val (.int p2), .val (.int p3), .val (.int p4), .val (.int p5), .val (.int (1 : Int32)), .val (.int nc), .val (.int va), .val (.int vr), .val (.int vs), .val (.int vb), .val (.int vc), .val (.ref b76), .val (.int (1 : Int32)), .val (.int (own_sp va))] [(.int ((0 : Int32) + own_sp va))]))
      refine own_step (fun _ kc_ => XS.iload X83.here hx rfl (hb hby at_206) rfl (XS.icmpNo X83.here hx rfl (hb hby at_208) rfl (XT.ii_ne_f (by simp only [Int32.zero_add] : ((0 : Int32) + own_sp va) = (own_sp va))) (XS.iconst X83.here hx rfl (hb hby at_211) (XS.goto X83.here hx rfl (pc0 := 212) (pc' := 216) rfl (hb hby at_212) (by decide) (by decide) (XS.istore X83.here hx rfl (hb hby at_216) rfl (l' := #[.val (.int p1), .val (.int p2), .val (.int p3), .val (.int p4), .val (.int p5), .val (.int (1 : Int32)), .val (.int nc), .val (.int va), .val (.int vr), .val (.int vs), .val (.int vb), .val (.int vc), .val (.ref b76), .val (.int (1 : Int32)), .val (.int (own_sp va))]) rfl (XS.aload X83.here hx rfl (hb hby at_218) rfl rfl kc_)))))) ?_
      show own_Ends p e below s _ _ _ (T83.setTop (mkF m 220 #[.val (.int p1), .val (.int p2), .val (.int p3), .val (.int p4), .val (.int p5), .val (.int (1 : Int32)), .val (.int nc), .val (.int va), .val (.int vr), .val (.int vs), .val (.int vb), .val (.int vc), .val (.ref b76), .val (.int (1 : Int32)), .val (.int (own_sp va))] [(.ref b76)]))
      obtain ⟨cq84, kq84, q84a, q84b, q84c⟩ := isOf hZ e83h E_b76_79
      obtain ⟨_, _, ⟨T84, L84, k84, n84⟩, -, X84, ⟨Lc84, hQ84, l84, y84, z84⟩, st84⟩ := X83.virtualBack hx (y := (⟨"com/example/kinds_by_value/kindsbyvalue/NameSet", "addEveryName", "()V"⟩ : MethodName)) (z := (⟨"com/example/kinds_by_value/kindsbyvalue/NameSet", "addEveryName", "()V"⟩ : MethodName)) hown (mvT hZ (hw _ (List.mem_of_getElem? (i := 40) rfl))) (mvT hZ (hw _ (List.mem_of_getElem? (i := 41) rfl))) (notFace_of_selects (args := #[]) (mvT hZ (hw _ (List.mem_of_getElem? (i := 43) rfl)))) (mvT hZ (hw _ (List.mem_of_getElem? (i := 43) rfl))) (mvT hZ (hw _ (List.mem_of_getElem? (i := 42) rfl))) (by decide) (backOf (W := 0) (rm7 l Z a0 hw [] b76 (.int (0 : Int32)) .null (.ref ta) (.int ((0 : Int32) + (1 : Int32))) (.int ((0 : Int32) + own_sp va)) T79.heap n0 Zs79 E_b76_79 fE79 fB79 fT79 fS79 fH79 n0_b76) hZ (hw _ (List.mem_of_getElem? (i := 44) rfl)) (hw _ (List.mem_of_getElem? (i := 3) rfl)) (by decide) (by decide)) q84a q84c (g := (mkF m 220 #[.val (.int p1), .val (.int p2), .val (.int p3), .val (.int p4), .val (.int p5), .val (.int (1 : Int32)), .val (.int nc), .val (.int va), .val (.int vr), .val (.int vs), .val (.int vb), .val (.int vc), .val (.ref b76), .val (.int (1 : Int32)), .val (.int (own_sp va))] [(.ref b76)])) rfl (by rw [hml]; rfl) (Steps.refl _) (argsL := []) (rest := []) (lenOf pd_1 rfl) rfl (by show 2 * 0 + _ ≤ _; exact Nat.le_of_eq rfl) (hb hby at_220) (fun _ _ => ⟨rfl, e83h, (by decide : 2 + 0 ≤ _), (by decide : 21 + 0 ≤ _)⟩)
      dsimp only [Pt.U, Pt.locs, Pt.cells, Pt.slots] at X84 l84 y84 z84 st84 hQ84
      subst l84 y84 z84
      obtain ⟨rfl, N84q, K84k, fE84⟩ := hQ84
      have E_b76_84 := (E_b76_79).keep K84k
      have A_ta_84 := (fA79).keep K84k (ninS (Ne.symm noar) nin0)
      have Zs84 := Nat.le_trans Zs79 K84k.1
      have N84 := Fr.app N83 N84q
      refine own_step (fun _ kc_ => st84.trans kc_) ?_
      show own_Ends p e below s _ _ _ (T84.setTop (mkF m 223 #[.val (.int p1), .val (.int p2), .val (.int p3), .val (.int p4), .val (.int p5), .val (.int (1 : Int32)), .val (.int nc), .val (.int va), .val (.int vr), .val (.int vs), .val (.int vb), .val (.int vc), .val (.ref b76), .val (.int (1 : Int32)), .val (.int (own_sp va))] []))
      refine own_step (fun _ kc_ => XS.iload X84.here hx rfl (hb hby at_223) rfl (XS.ifNo X84.here hx rfl (hb hby at_225) rfl (XT.i0_eq_f (by decide : ¬ ((1 : Int32) = 0))) (XS.aload X84.here hx rfl (hb hby at_228) rfl rfl kc_))) ?_
      show own_Ends p e below s _ _ _ (T84.setTop (mkF m 230 #[.val (.int p1), .val (.int p2), .val (.int p3), .val (.int p4), .val (.int p5), .val (.int (1 : Int32)), .val (.int nc), .val (.int va), .val (.int vr), .val (.int vs), .val (.int vb), .val (.int vc), .val (.ref b76), .val (.int (1 : Int32)), .val (.int (own_sp va))] [(.ref b76)]))
      obtain ⟨cq85, kq85, q85a, q85b, q85c⟩ := isOf hZ rfl E_b76_84
      obtain ⟨_, _, ⟨T85, L85, k85, n85⟩, -, X85, ⟨Lc85, hQ85, l85, y85, z85⟩, st85⟩ := X84.virtualBack hx (y := (⟨"com/example/kinds_by_value/kindsbyvalue/NameSet", "hashCode", "()I"⟩ : MethodName)) (z := (⟨"com/example/kinds_by_value/kindsbyvalue/NameSet", "hashCode", "()I"⟩ : MethodName)) hown (mvT hZ (hw _ (List.mem_of_getElem? (i := 13) rfl))) (mvT hZ (hw _ (List.mem_of_getElem? (i := 14) rfl))) (notFace_of_selects (args := #[]) (mvT hZ (hw _ (List.mem_of_getElem? (i := 16) rfl)))) (mvT hZ (hw _ (List.mem_of_getElem? (i := 16) rfl))) (mvT hZ (hw _ (List.mem_of_getElem? (i := 15) rfl))) (by decide) (backOf (W := 0) (rmH1 l Z a0 hw [] b76  T84.heap n0 Zs84 fE84) hZ (hw _ (List.mem_of_getElem? (i := 17) rfl)) (hw _ (List.mem_of_getElem? (i := 3) rfl)) (by decide) (by decide)) q85a q85c (g := (mkF m 230 #[.val (.int p1), .val (.int p2), .val (.int p3), .val (.int p4), .val (.int p5), .val (.int (1 : Int32)), .val (.int nc), .val (.int va), .val (.int vr), .val (.int vs), .val (.int vb), .val (.int vc), .val (.ref b76), .val (.int (1 : Int32)), .val (.int (own_sp va))] [(.ref b76)])) rfl (by rw [hml]; rfl) (Steps.refl _) (argsL := []) (rest := []) (lenOf pd_6 rfl) rfl (by show 2 * 0 + _ ≤ _; exact Nat.le_of_eq rfl) (hb hby at_230) (fun _ _ => ⟨rfl, rfl, (by decide : 2 + 0 ≤ _), (by decide : 21 + 0 ≤ _)⟩)
      dsimp only [Pt.U, Pt.locs, Pt.cells, Pt.slots] at X85 l85 y85 z85 st85 hQ85
      subst l85 y85 z85
      obtain ⟨rfl, N85q, e85⟩ := hQ85
      have e85h : T85.heap = T84.heap := e85
      have N85 := Fr.app N84 N85q
      refine own_step (fun _ kc_ => st85.trans kc_) ?_
      show own_Ends p e below s _ _ _ (T85.setTop (mkF m 233 #[.val (.int p1), .val (.int p2), .val (.int p3), .val (.int p4), .val (.int p5), .val (.int (1 : Int32)), .val (.int nc), .val (.int va), .val (.int vr), .val (.int vs), .val (.int vb), .val (.int vc), .val (.ref b76), .val (.int (1 : Int32)), .val (.int (own_sp va))] [(.int (-1 : Int32))]))
      refine own_step (fun _ kc_ => XS.iconst X85.here hx rfl (hb hby at_233) (XS.icmpNo X85.here hx rfl (hb hby at_234) rfl (XT.ii_ne_f (rfl : (-1 : Int32) = (-1 : Int32))) (XS.iconst X85.here hx rfl (hb hby at_237) (XS.goto X85.here hx rfl (pc0 := 238) (pc' := 242) rfl (hb hby at_238) (by decide) (by decide) (XS.istore X85.here hx rfl (hb hby at_242) rfl (l' := #[.val (.int p1), .val (.int p2), .val (.int p3), .val (.int p4), .val (.int p5), .val (.int (1 : Int32)), .val (.int nc), .val (.int va), .val (.int vr), .val (.int vs), .val (.int vb), .val (.int vc), .val (.ref b76), .val (.int (1 : Int32)), .val (.int (own_sp va))]) rfl (XS.iload X85.here hx rfl (hb hby at_244) rfl kc_)))))) ?_
      show own_Ends p e below s _ _ _ (T85.setTop (mkF m 246 #[.val (.int p1), .val (.int p2), .val (.int p3), .val (.int p4), .val (.int p5), .val (.int (1 : Int32)), .val (.int nc), .val (.int va), .val (.int vr), .val (.int vs), .val (.int vb), .val (.int vc), .val (.ref b76), .val (.int (1 : Int32)), .val (.int (own_sp va))] [(.int (1 : Int32))]))
      exact own_retN X85 hx (t := .boolean) hret (by simp) hlk (hb hby at_246) (by decide) (by decide) rfl ⟨rfl, N85⟩
    · show own_Ends p e below s _ _ _ (T80.setTop (mkF m 140 #[.val (.int p1), .val (.int p2), .val (.int p3), .val (.int p4), .val (.int p5), .val (.int (1 : Int32)), .val (.int nc), .val (.int va), .val (.int vr), .val (.int vs), .val (.int vb), .val (.int vc), .val (.ref b76), .val (.int (1 : Int32)), .unset] []))
      refine own_step (fun _ kc_ => XS.aload X80.here hx rfl (hb hby at_140) rfl rfl (XS.iload X80.here hx rfl (hb hby at_142) rfl kc_)) ?_
      show own_Ends p e below s _ _ _ (T80.setTop (mkF m 144 #[.val (.int p1), .val (.int p2), .val (.int p3), .val (.int p4), .val (.int p5), .val (.int (1 : Int32)), .val (.int nc), .val (.int va), .val (.int vr), .val (.int vs), .val (.int vb), .val (.int vc), .val (.ref b76), .val (.int (1 : Int32)), .unset] [(.int vc), (.ref b76)]))
      have hin : vc ∉ [va] := by simp [hca]
      obtain ⟨k3, hkk3, hfk3, hmk3⟩ := own_miss G79 (Nat.le_of_ble_eq_true rfl) hin (own_ne1 oc.1)
      have hrk3 : ¬ own_pr ts79 vc k3 = vc := fun q => own_ne1 oc.1 (q.symm.trans hmk3)
      obtain ⟨cq86, kq86, q86a, q86b, q86c⟩ := isOf hZ e80h E_b76_79
      obtain ⟨_, _, ⟨T86, L86, k86, n86⟩, -, X86, ⟨Lc86, hQ86, l86, y86, z86⟩, st86⟩ := X80.virtualBack hx (y := (⟨"com/example/kinds_by_value/kindsbyvalue/NameSet", "add", "(I)Z"⟩ : MethodName)) (z := (⟨"com/example/kinds_by_value/kindsbyvalue/NameSet", "add", "(I)Z"⟩ : MethodName)) hown (mvT hZ (hw _ (List.mem_of_getElem? (i := 22) rfl))) (mvT hZ (hw _ (List.mem_of_getElem? (i := 23) rfl))) (notFace_of_selects (args := #[]) (mvT hZ (hw _ (List.mem_of_getElem? (i := 25) rfl)))) (mvT hZ (hw _ (List.mem_of_getElem? (i := 25) rfl))) (mvT hZ (hw _ (List.mem_of_getElem? (i := 24) rfl))) (by decide) (backOf (W := 0) (rmAT0 l Z a0 hw [] b76 vc ta ts79 k3 ((0 : Int32) + (1 : Int32)) ((0 : Int32) + own_sp va) T79.heap n0 Zs79 E_b76_79 fE79 fB79 fT79 fA79 G79.1 hfk3 hrk3 (by decide) fS79 fH79 n0_b76 n0ar noar) hZ (hw _ (List.mem_of_getElem? (i := 26) rfl)) (hw _ (List.mem_of_getElem? (i := 3) rfl)) (by decide) (by decide)) q86a q86c (g := (mkF m 144 #[.val (.int p1), .val (.int p2), .val (.int p3), .val (.int p4), .val (.int p5), .val (.int (1 : Int32)), .val (.int nc), .val (.int va), .val (.int vr), .val (.int vs), .val (.int vb), .val (.int vc), .val (.ref b76), .val (.int (1 : Int32)), .unset] [(.int vc), (.ref b76)])) rfl (by rw [hml]; rfl) (Steps.refl _) (argsL := [(.int vc)]) (rest := []) (lenOf pd_4 rfl) rfl (by show 2 * 0 + _ ≤ _; exact Nat.le_of_eq rfl) (hb hby at_144) (fun _ _ => ⟨rfl, e80h, (by decide : 2 + 0 ≤ _), (by decide : 21 + 0 ≤ _)⟩)
      dsimp only [Pt.U, Pt.locs, Pt.cells, Pt.slots] at X86 l86 y86 z86 st86 hQ86
      subst l86 y86 z86
      obtain ⟨rfl, N86q, K86k, fE86, fS86, fH86, fB86, fT86, fA86⟩ := hQ86
      have E_b76_86 := (E_b76_79).keep K86k
      have Zs86 := Nat.le_trans Zs79 K86k.1
      have N86 := Fr.app N80 N86q
      refine own_step (fun _ kc_ => st86.trans kc_) ?_
      show own_Ends p e below s _ _ _ (T86.setTop (mkF m 147 #[.val (.int p1), .val (.int p2), .val (.int p3), .val (.int p4), .val (.int p5), .val (.int (1 : Int32)), .val (.int nc), .val (.int va), .val (.int vr), .val (.int vs), .val (.int vb), .val (.int vc), .val (.ref b76), .val (.int (1 : Int32)), .unset] [(.int (1 : Int32))]))
      refine own_step (fun _ kc_ => XS.pop X86.here hx rfl (hb hby at_147) rfl rfl (XS.iload X86.here hx rfl (hb hby at_148) rfl kc_)) ?_
      show own_Ends p e below s _ _ _ (T86.setTop (mkF m 150 #[.val (.int p1), .val (.int p2), .val (.int p3), .val (.int p4), .val (.int p5), .val (.int (1 : Int32)), .val (.int nc), .val (.int va), .val (.int vr), .val (.int vs), .val (.int vb), .val (.int vc), .val (.ref b76), .val (.int (1 : Int32)), .unset] [(.int va)]))
      obtain ⟨_, _, ⟨T87, L87, k87, n87⟩, -, X87, ⟨Lc87, hQ87, l87, y87, z87⟩, st87⟩ := Jvm.LawKit.callS X86 hx (y := (⟨"com/example/kinds_by_value/kindsbyvalue/Hashes", "spread", "(I)I"⟩ : MethodName)) hown (mvT hZ (hw _ (List.mem_of_getElem? (i := 39) rfl))) (mvT hZ (hw _ (List.mem_of_getElem? (i := 35) rfl))) (mvT hZ (hw _ (List.mem_of_getElem? (i := 36) rfl))) (mvT hZ (hw _ (List.mem_of_getElem? (i := 37) rfl))) (by decide) (backOf (W := 0) (rm6 l Z a0 hw [] va  T86.heap n0 Zs86 ) hZ (hw _ (List.mem_of_getElem? (i := 37) rfl)) (hw _ (List.mem_of_getElem? (i := 36) rfl)) (by decide) (by decide)) (g := (mkF m 150 #[.val (.int p1), .val (.int p2), .val (.int p3), .val (.int p4), .val (.int p5), .val (.int (1 : Int32)), .val (.int nc), .val (.int va), .val (.int vr), .val (.int vs), .val (.int vb), .val (.int vc), .val (.ref b76), .val (.int (1 : Int32)), .unset] [(.int va)])) rfl (by rw [hml]; rfl) (argsL := [(.int va)]) (rest := []) (lenOf pd_3 rfl) rfl (by show 2 * 0 + _ ≤ _; exact Nat.le_of_eq rfl) (hb hby at_150) (fun _ _ => ⟨rfl, rfl, (by decide : 2 + 0 ≤ _), (by decide : 21 + 0 ≤ _)⟩)
      dsimp only [Pt.U, Pt.locs, Pt.cells, Pt.slots] at X87 l87 y87 z87 st87 hQ87
      subst l87 y87 z87
      obtain ⟨rfl, N87q, e87⟩ := hQ87
      have e87h : T87.heap = T86.heap := e87
      have N87 := Fr.app N86 N87q
      refine own_step (fun _ kc_ => st87 _ kc_) ?_
      show own_Ends p e below s _ _ _ (T87.setTop (mkF m 153 #[.val (.int p1), .val (.int p2), .val (.int p3), .val (.int p4), .val (.int p5), .val (.int (1 : Int32)), .val (.int nc), .val (.int va), .val (.int vr), .val (.int vs), .val (.int vb), .val (.int vc), .val (.ref b76), .val (.int (1 : Int32)), .unset] [(.int (own_sp va))]))
      refine own_step (fun _ kc_ => XS.istore X87.here hx rfl (hb hby at_153) rfl (l' := #[.val (.int p1), .val (.int p2), .val (.int p3), .val (.int p4), .val (.int p5), .val (.int (1 : Int32)), .val (.int nc), .val (.int va), .val (.int vr), .val (.int vs), .val (.int vb), .val (.int vc), .val (.ref b76), .val (.int (1 : Int32)), .val (.int (own_sp va))]) rfl (XS.iload X87.here hx rfl (hb hby at_155) rfl (XS.iload X87.here hx rfl (hb hby at_157) rfl (XS.icmpYes X87.here hx rfl (pc0 := 159) (pc' := 172) rfl (hb hby at_159) rfl (XT.ii_eq_t (hba : vb = va)) (by decide) (by decide) (XS.iload X87.here hx rfl (hb hby at_172) rfl (XS.iload X87.here hx rfl (hb hby at_174) rfl (XS.icmpNo X87.here hx rfl (hb hby at_176) rfl (XT.ii_eq_f (hca : ¬ (vc = va))) (XS.iload X87.here hx rfl (hb hby at_179) rfl kc_)))))))) ?_
      show own_Ends p e below s _ _ _ (T87.setTop (mkF m 181 #[.val (.int p1), .val (.int p2), .val (.int p3), .val (.int p4), .val (.int p5), .val (.int (1 : Int32)), .val (.int nc), .val (.int va), .val (.int vr), .val (.int vs), .val (.int vb), .val (.int vc), .val (.ref b76), .val (.int (1 : Int32)), .val (.int (own_sp va))] [(.int vc)]))
      refine own_step (fun _ kc_ => XS.iload X87.here hx rfl (hb hby at_181) rfl (XS.icmpNo X87.here hx rfl (hb hby at_183) rfl (XT.ii_eq_f (by rw [hba]; exact hca : ¬ (vc = vb))) (XS.iload X87.here hx rfl (hb hby at_186) rfl (XS.iload X87.here hx rfl (hb hby at_188) rfl kc_)))) ?_
      show own_Ends p e below s _ _ _ (T87.setTop (mkF m 190 #[.val (.int p1), .val (.int p2), .val (.int p3), .val (.int p4), .val (.int p5), .val (.int (1 : Int32)), .val (.int nc), .val (.int va), .val (.int vr), .val (.int vs), .val (.int vb), .val (.int vc), .val (.ref b76), .val (.int (1 : Int32)), .val (.int (own_sp va))] [(.int vc), (.int (own_sp va))]))
      obtain ⟨_, _, ⟨T88, L88, k88, n88⟩, -, X88, ⟨Lc88, hQ88, l88, y88, z88⟩, st88⟩ := Jvm.LawKit.callS X87 hx (y := (⟨"com/example/kinds_by_value/kindsbyvalue/Hashes", "spread", "(I)I"⟩ : MethodName)) hown (mvT hZ (hw _ (List.mem_of_getElem? (i := 39) rfl))) (mvT hZ (hw _ (List.mem_of_getElem? (i := 35) rfl))) (mvT hZ (hw _ (List.mem_of_getElem? (i := 36) rfl))) (mvT hZ (hw _ (List.mem_of_getElem? (i := 37) rfl))) (by decide) (backOf (W := 1) (rm6 l Z a0 hw [] vc  T86.heap n0 Zs86 ) hZ (hw _ (List.mem_of_getElem? (i := 37) rfl)) (hw _ (List.mem_of_getElem? (i := 36) rfl)) (by decide) (by decide)) (g := (mkF m 190 #[.val (.int p1), .val (.int p2), .val (.int p3), .val (.int p4), .val (.int p5), .val (.int (1 : Int32)), .val (.int nc), .val (.int va), .val (.int vr), .val (.int vs), .val (.int vb), .val (.int vc), .val (.ref b76), .val (.int (1 : Int32)), .val (.int (own_sp va))] [(.int vc), (.int (own_sp va))])) rfl (by rw [hml]; rfl) (argsL := [(.int vc)]) (rest := [(.int (own_sp va))]) (lenOf pd_3 rfl) rfl (by show 2 * 0 + _ ≤ _; exact Nat.le_of_eq rfl) (hb hby at_190) (fun _ _ => ⟨rfl, e87h, (by decide : 2 + 0 ≤ _), (by decide : 21 + 0 ≤ _)⟩)
      dsimp only [Pt.U, Pt.locs, Pt.cells, Pt.slots] at X88 l88 y88 z88 st88 hQ88
      subst l88 y88 z88
      obtain ⟨rfl, N88q, e88⟩ := hQ88
      have e88h : T88.heap = T86.heap := e88
      have N88 := Fr.app N87 N88q
      refine own_step (fun _ kc_ => st88 _ kc_) ?_
      show own_Ends p e below s _ _ _ (T88.setTop (mkF m 193 #[.val (.int p1), .val (.int p2), .val (.int p3), .val (.int p4), .val (.int p5), .val (.int (1 : Int32)), .val (.int nc), .val (.int va), .val (.int vr), .val (.int vs), .val (.int vb), .val (.int vc), .val (.ref b76), .val (.int (1 : Int32)), .val (.int (own_sp va))] [(.int (own_sp vc)), (.int (own_sp va))]))
      refine own_step (fun _ kc_ => XS.iadd X88.here hx rfl (hb hby at_193) rfl (XS.istore X88.here hx rfl (hb hby at_194) rfl (l' := #[.val (.int p1), .val (.int p2), .val (.int p3), .val (.int p4), .val (.int p5), .val (.int (1 : Int32)), .val (.int nc), .val (.int va), .val (.int vr), .val (.int vs), .val (.int vb), .val (.int vc), .val (.ref b76), .val (.int (1 : Int32)), .val (.int ((own_sp va) + (own_sp vc)))]) rfl (XS.iload X88.here hx rfl (hb hby at_196) rfl (XS.ifNo X88.here hx rfl (hb hby at_198) rfl (XT.i0_eq_f (by decide : ¬ ((1 : Int32) = 0))) (XS.aload X88.here hx rfl (hb hby at_201) rfl rfl kc_))))) ?_
      show own_Ends p e below s _ _ _ (T88.setTop (mkF m 203 #[.val (.int p1), .val (.int p2), .val (.int p3), .val (.int p4), .val (.int p5), .val (.int (1 : Int32)), .val (.int nc), .val (.int va), .val (.int vr), .val (.int vs), .val (.int vb), .val (.int vc), .val (.ref b76), .val (.int (1 : Int32)), .val (.int ((own_sp va) + (own_sp vc)))] [(.ref b76)]))
      obtain ⟨cq89, kq89, q89a, q89b, q89c⟩ := isOf hZ e88h E_b76_86
      obtain ⟨_, _, ⟨T89, L89, k89, n89⟩, -, X89, ⟨Lc89, hQ89, l89, y89, z89⟩, st89⟩ := X88.virtualBack hx (y := (⟨"com/example/kinds_by_value/kindsbyvalue/NameSet", "hashCode", "()I"⟩ : MethodName)) (z := (⟨"com/example/kinds_by_value/kindsbyvalue/NameSet", "hashCode", "()I"⟩ : MethodName)) hown (mvT hZ (hw _ (List.mem_of_getElem? (i := 13) rfl))) (mvT hZ (hw _ (List.mem_of_getElem? (i := 14) rfl))) (notFace_of_selects (args := #[]) (mvT hZ (hw _ (List.mem_of_getElem? (i := 16) rfl)))) (mvT hZ (hw _ (List.mem_of_getElem? (i := 16) rfl))) (mvT hZ (hw _ (List.mem_of_getElem? (i := 15) rfl))) (by decide) (backOf (W := 0) (rmH0 l Z a0 hw [] b76 (((0 : Int32) + own_sp va) + own_sp vc) T86.heap n0 Zs86 fE86 fH86) hZ (hw _ (List.mem_of_getElem? (i := 17) rfl)) (hw _ (List.mem_of_getElem? (i := 3) rfl)) (by decide) (by decide)) q89a q89c (g := (mkF m 203 #[.val (.int p1), .val (.int p2), .val (.int p3), .val (.int p4), .val (.int p5), .val (.int (1 : Int32)), .val (.int nc), .val (.int va), .val (.int vr), .val (.int vs), .val (.int vb), .val (.int vc), .val (.ref b76), .val (.int (1 : Int32)), .val (.int ((own_sp va) + (own_sp vc)))] [(.ref b76)])) rfl (by rw [hml]; rfl) (Steps.refl _) (argsL := []) (rest := []) (lenOf pd_6 rfl) rfl (by show 2 * 0 + _ ≤ _; exact Nat.le_of_eq rfl) (hb hby at_203) (fun _ _ => ⟨rfl, e88h, (by decide : 2 + 0 ≤ _), (by decide : 21 + 0 ≤ _)⟩)
      dsimp only [Pt.U, Pt.locs, Pt.cells, Pt.slots] at X89 l89 y89 z89 st89 hQ89
      subst l89 y89 z89
      obtain ⟨rfl, N89q, e89⟩ := hQ89
      have e89h : T89.heap = T86.heap := e89
      have N89 := Fr.app N88 N89q
      refine own_step (fun _ kc_ => st89.trans kc_) ?_
      show own_Ends p e below s _ _ _ (T89.setTop (mkF m 206 #[.val (.int p1), .val (.int p2), .val (.int p3), .val (.int p4), .val (.int p5), .val (.int (1 : Int32)), .val (.int nc), .val (.int va), .val (.int vr), .val (.int vs), .val (.int vb), .val (.int vc), .val (.ref b76), .val (.int (1 : Int32)), .val (.int ((own_sp va) + (own_sp vc)))] [(.int (((0 : Int32) + own_sp va) + own_sp vc))]))
      refine own_step (fun _ kc_ => XS.iload X89.here hx rfl (hb hby at_206) rfl (XS.icmpNo X89.here hx rfl (hb hby at_208) rfl (XT.ii_ne_f (by simp only [Int32.zero_add] : (((0 : Int32) + own_sp va) + own_sp vc) = ((own_sp va) + (own_sp vc)))) (XS.iconst X89.here hx rfl (hb hby at_211) (XS.goto X89.here hx rfl (pc0 := 212) (pc' := 216) rfl (hb hby at_212) (by decide) (by decide) (XS.istore X89.here hx rfl (hb hby at_216) rfl (l' := #[.val (.int p1), .val (.int p2), .val (.int p3), .val (.int p4), .val (.int p5), .val (.int (1 : Int32)), .val (.int nc), .val (.int va), .val (.int vr), .val (.int vs), .val (.int vb), .val (.int vc), .val (.ref b76), .val (.int (1 : Int32)), .val (.int ((own_sp va) + (own_sp vc)))]) rfl (XS.aload X89.here hx rfl (hb hby at_218) rfl rfl kc_)))))) ?_
      show own_Ends p e below s _ _ _ (T89.setTop (mkF m 220 #[.val (.int p1), .val (.int p2), .val (.int p3), .val (.int p4), .val (.int p5), .val (.int (1 : Int32)), .val (.int nc), .val (.int va), .val (.int vr), .val (.int vs), .val (.int vb), .val (.int vc), .val (.ref b76), .val (.int (1 : Int32)), .val (.int ((own_sp va) + (own_sp vc)))] [(.ref b76)]))
      obtain ⟨cq90, kq90, q90a, q90b, q90c⟩ := isOf hZ e89h E_b76_86
      obtain ⟨_, _, ⟨T90, L90, k90, n90⟩, -, X90, ⟨Lc90, hQ90, l90, y90, z90⟩, st90⟩ := X89.virtualBack hx (y := (⟨"com/example/kinds_by_value/kindsbyvalue/NameSet", "addEveryName", "()V"⟩ : MethodName)) (z := (⟨"com/example/kinds_by_value/kindsbyvalue/NameSet", "addEveryName", "()V"⟩ : MethodName)) hown (mvT hZ (hw _ (List.mem_of_getElem? (i := 40) rfl))) (mvT hZ (hw _ (List.mem_of_getElem? (i := 41) rfl))) (notFace_of_selects (args := #[]) (mvT hZ (hw _ (List.mem_of_getElem? (i := 43) rfl)))) (mvT hZ (hw _ (List.mem_of_getElem? (i := 43) rfl))) (mvT hZ (hw _ (List.mem_of_getElem? (i := 42) rfl))) (by decide) (backOf (W := 0) (rm7 l Z a0 hw [] b76 (.int (0 : Int32)) .null (.ref ta) (.int (((0 : Int32) + (1 : Int32)) + (1 : Int32))) (.int (((0 : Int32) + own_sp va) + own_sp vc)) T86.heap n0 Zs86 E_b76_86 fE86 fB86 fT86 fS86 fH86 n0_b76) hZ (hw _ (List.mem_of_getElem? (i := 44) rfl)) (hw _ (List.mem_of_getElem? (i := 3) rfl)) (by decide) (by decide)) q90a q90c (g := (mkF m 220 #[.val (.int p1), .val (.int p2), .val (.int p3), .val (.int p4), .val (.int p5), .val (.int (1 : Int32)), .val (.int nc), .val (.int va), .val (.int vr), .val (.int vs), .val (.int vb), .val (.int vc), .val (.ref b76), .val (.int (1 : Int32)), .val (.int ((own_sp va) + (own_sp vc)))] [(.ref b76)])) rfl (by rw [hml]; rfl) (Steps.refl _) (argsL := []) (rest := []) (lenOf pd_1 rfl) rfl (by show 2 * 0 + _ ≤ _; exact Nat.le_of_eq rfl) (hb hby at_220) (fun _ _ => ⟨rfl, e89h, (by decide : 2 + 0 ≤ _), (by decide : 21 + 0 ≤ _)⟩)
      dsimp only [Pt.U, Pt.locs, Pt.cells, Pt.slots] at X90 l90 y90 z90 st90 hQ90
      subst l90 y90 z90
      obtain ⟨rfl, N90q, K90k, fE90⟩ := hQ90
      have E_b76_90 := (E_b76_86).keep K90k
      have A_ta_90 := (fA86).keep K90k (ninS (Ne.symm noar) nin0)
      have Zs90 := Nat.le_trans Zs86 K90k.1
      have N90 := Fr.app N89 N90q
      refine own_step (fun _ kc_ => st90.trans kc_) ?_
      show own_Ends p e below s _ _ _ (T90.setTop (mkF m 223 #[.val (.int p1), .val (.int p2), .val (.int p3), .val (.int p4), .val (.int p5), .val (.int (1 : Int32)), .val (.int nc), .val (.int va), .val (.int vr), .val (.int vs), .val (.int vb), .val (.int vc), .val (.ref b76), .val (.int (1 : Int32)), .val (.int ((own_sp va) + (own_sp vc)))] []))
      refine own_step (fun _ kc_ => XS.iload X90.here hx rfl (hb hby at_223) rfl (XS.ifNo X90.here hx rfl (hb hby at_225) rfl (XT.i0_eq_f (by decide : ¬ ((1 : Int32) = 0))) (XS.aload X90.here hx rfl (hb hby at_228) rfl rfl kc_))) ?_
      show own_Ends p e below s _ _ _ (T90.setTop (mkF m 230 #[.val (.int p1), .val (.int p2), .val (.int p3), .val (.int p4), .val (.int p5), .val (.int (1 : Int32)), .val (.int nc), .val (.int va), .val (.int vr), .val (.int vs), .val (.int vb), .val (.int vc), .val (.ref b76), .val (.int (1 : Int32)), .val (.int ((own_sp va) + (own_sp vc)))] [(.ref b76)]))
      obtain ⟨cq91, kq91, q91a, q91b, q91c⟩ := isOf hZ rfl E_b76_90
      obtain ⟨_, _, ⟨T91, L91, k91, n91⟩, -, X91, ⟨Lc91, hQ91, l91, y91, z91⟩, st91⟩ := X90.virtualBack hx (y := (⟨"com/example/kinds_by_value/kindsbyvalue/NameSet", "hashCode", "()I"⟩ : MethodName)) (z := (⟨"com/example/kinds_by_value/kindsbyvalue/NameSet", "hashCode", "()I"⟩ : MethodName)) hown (mvT hZ (hw _ (List.mem_of_getElem? (i := 13) rfl))) (mvT hZ (hw _ (List.mem_of_getElem? (i := 14) rfl))) (notFace_of_selects (args := #[]) (mvT hZ (hw _ (List.mem_of_getElem? (i := 16) rfl)))) (mvT hZ (hw _ (List.mem_of_getElem? (i := 16) rfl))) (mvT hZ (hw _ (List.mem_of_getElem? (i := 15) rfl))) (by decide) (backOf (W := 0) (rmH1 l Z a0 hw [] b76  T90.heap n0 Zs90 fE90) hZ (hw _ (List.mem_of_getElem? (i := 17) rfl)) (hw _ (List.mem_of_getElem? (i := 3) rfl)) (by decide) (by decide)) q91a q91c (g := (mkF m 230 #[.val (.int p1), .val (.int p2), .val (.int p3), .val (.int p4), .val (.int p5), .val (.int (1 : Int32)), .val (.int nc), .val (.int va), .val (.int vr), .val (.int vs), .val (.int vb), .val (.int vc), .val (.ref b76), .val (.int (1 : Int32)), .val (.int ((own_sp va) + (own_sp vc)))] [(.ref b76)])) rfl (by rw [hml]; rfl) (Steps.refl _) (argsL := []) (rest := []) (lenOf pd_6 rfl) rfl (by show 2 * 0 + _ ≤ _; exact Nat.le_of_eq rfl) (hb hby at_230) (fun _ _ => ⟨rfl, rfl, (by decide : 2 + 0 ≤ _), (by decide : 21 + 0 ≤ _)⟩)
      dsimp only [Pt.U, Pt.locs, Pt.cells, Pt.slots] at X91 l91 y91 z91 st91 hQ91
      subst l91 y91 z91
      obtain ⟨rfl, N91q, e91⟩ := hQ91
      have e91h : T91.heap = T90.heap := e91
      have N91 := Fr.app N90 N91q
      refine own_step (fun _ kc_ => st91.trans kc_) ?_
      show own_Ends p e below s _ _ _ (T91.setTop (mkF m 233 #[.val (.int p1), .val (.int p2), .val (.int p3), .val (.int p4), .val (.int p5), .val (.int (1 : Int32)), .val (.int nc), .val (.int va), .val (.int vr), .val (.int vs), .val (.int vb), .val (.int vc), .val (.ref b76), .val (.int (1 : Int32)), .val (.int ((own_sp va) + (own_sp vc)))] [(.int (-1 : Int32))]))
      refine own_step (fun _ kc_ => XS.iconst X91.here hx rfl (hb hby at_233) (XS.icmpNo X91.here hx rfl (hb hby at_234) rfl (XT.ii_ne_f (rfl : (-1 : Int32) = (-1 : Int32))) (XS.iconst X91.here hx rfl (hb hby at_237) (XS.goto X91.here hx rfl (pc0 := 238) (pc' := 242) rfl (hb hby at_238) (by decide) (by decide) (XS.istore X91.here hx rfl (hb hby at_242) rfl (l' := #[.val (.int p1), .val (.int p2), .val (.int p3), .val (.int p4), .val (.int p5), .val (.int (1 : Int32)), .val (.int nc), .val (.int va), .val (.int vr), .val (.int vs), .val (.int vb), .val (.int vc), .val (.ref b76), .val (.int (1 : Int32)), .val (.int ((own_sp va) + (own_sp vc)))]) rfl (XS.iload X91.here hx rfl (hb hby at_244) rfl kc_)))))) ?_
      show own_Ends p e below s _ _ _ (T91.setTop (mkF m 246 #[.val (.int p1), .val (.int p2), .val (.int p3), .val (.int p4), .val (.int p5), .val (.int (1 : Int32)), .val (.int nc), .val (.int va), .val (.int vr), .val (.int vs), .val (.int vb), .val (.int vc), .val (.ref b76), .val (.int (1 : Int32)), .val (.int ((own_sp va) + (own_sp vc)))] [(.int (1 : Int32))]))
      exact own_retN X91 hx (t := .boolean) hret (by simp) hlk (hb hby at_246) (by decide) (by decide) rfl ⟨rfl, N91⟩
  · show own_Ends p e below s _ _ _ (T79.setTop (mkF m 132 #[.val (.int p1), .val (.int p2), .val (.int p3), .val (.int p4), .val (.int p5), .val (.int (1 : Int32)), .val (.int nc), .val (.int va), .val (.int vr), .val (.int vs), .val (.int vb), .val (.int vc), .val (.ref b76), .val (.int (1 : Int32)), .unset] []))
    refine own_step (fun _ kc_ => XS.aload X79.here hx rfl (hb hby at_132) rfl rfl (XS.iload X79.here hx rfl (hb hby at_134) rfl kc_)) ?_
    show own_Ends p e below s _ _ _ (T79.setTop (mkF m 136 #[.val (.int p1), .val (.int p2), .val (.int p3), .val (.int p4), .val (.int p5), .val (.int (1 : Int32)), .val (.int nc), .val (.int va), .val (.int vr), .val (.int vs), .val (.int vb), .val (.int vc), .val (.ref b76), .val (.int (1 : Int32)), .unset] [(.int vb), (.ref b76)]))
    have hin : vb ∉ [va] := by simp [hba]
    obtain ⟨k2, hkk2, hfk2, hmk2⟩ := own_miss G79 (Nat.le_of_ble_eq_true rfl) hin (own_ne1 ob.1)
    have hrk2 : ¬ own_pr ts79 vb k2 = vb := fun q => own_ne1 ob.1 (q.symm.trans hmk2)
    obtain ⟨cq92, kq92, q92a, q92b, q92c⟩ := isOf hZ rfl E_b76_79
    obtain ⟨_, _, ⟨T92, L92, k92, n92⟩, -, X92, ⟨Lc92, hQ92, l92, y92, z92⟩, st92⟩ := X79.virtualBack hx (y := (⟨"com/example/kinds_by_value/kindsbyvalue/NameSet", "add", "(I)Z"⟩ : MethodName)) (z := (⟨"com/example/kinds_by_value/kindsbyvalue/NameSet", "add", "(I)Z"⟩ : MethodName)) hown (mvT hZ (hw _ (List.mem_of_getElem? (i := 22) rfl))) (mvT hZ (hw _ (List.mem_of_getElem? (i := 23) rfl))) (notFace_of_selects (args := #[]) (mvT hZ (hw _ (List.mem_of_getElem? (i := 25) rfl)))) (mvT hZ (hw _ (List.mem_of_getElem? (i := 25) rfl))) (mvT hZ (hw _ (List.mem_of_getElem? (i := 24) rfl))) (by decide) (backOf (W := 0) (rmAT0 l Z a0 hw [] b76 vb ta ts79 k2 ((0 : Int32) + (1 : Int32)) ((0 : Int32) + own_sp va) T79.heap n0 Zs79 E_b76_79 fE79 fB79 fT79 fA79 G79.1 hfk2 hrk2 (by decide) fS79 fH79 n0_b76 n0ar noar) hZ (hw _ (List.mem_of_getElem? (i := 26) rfl)) (hw _ (List.mem_of_getElem? (i := 3) rfl)) (by decide) (by decide)) q92a q92c (g := (mkF m 136 #[.val (.int p1), .val (.int p2), .val (.int p3), .val (.int p4), .val (.int p5), .val (.int (1 : Int32)), .val (.int nc), .val (.int va), .val (.int vr), .val (.int vs), .val (.int vb), .val (.int vc), .val (.ref b76), .val (.int (1 : Int32)), .unset] [(.int vb), (.ref b76)])) rfl (by rw [hml]; rfl) (Steps.refl _) (argsL := [(.int vb)]) (rest := []) (lenOf pd_4 rfl) rfl (by show 2 * 0 + _ ≤ _; exact Nat.le_of_eq rfl) (hb hby at_136) (fun _ _ => ⟨rfl, rfl, (by decide : 2 + 0 ≤ _), (by decide : 21 + 0 ≤ _)⟩)
    dsimp only [Pt.U, Pt.locs, Pt.cells, Pt.slots] at X92 l92 y92 z92 st92 hQ92
    subst l92 y92 z92
    obtain ⟨rfl, N92q, K92k, fE92, fS92, fH92, fB92, fT92, fA92⟩ := hQ92
    have E_b76_92 := (E_b76_79).keep K92k
    have Zs92 := Nat.le_trans Zs79 K92k.1
    have G92 : own_good (ts79.set (own_pl vb k2) vb) (vb :: [va]) := own_ins G79 hin (own_ne1 ob.1) (by simp; exact own_ne1 oa.1) hkk2 hfk2 hmk2
    generalize (ts79.set (own_pl vb k2) vb) = ts92 at fA92 G92
    have N92 := Fr.app N79 N92q
    refine own_step (fun _ kc_ => st92.trans kc_) ?_
    show own_Ends p e below s _ _ _ (T92.setTop (mkF m 139 #[.val (.int p1), .val (.int p2), .val (.int p3), .val (.int p4), .val (.int p5), .val (.int (1 : Int32)), .val (.int nc), .val (.int va), .val (.int vr), .val (.int vs), .val (.int vb), .val (.int vc), .val (.ref b76), .val (.int (1 : Int32)), .unset] [(.int (1 : Int32))]))
    refine own_step (fun _ kc_ => XS.pop X92.here hx rfl (hb hby at_139) rfl rfl kc_) ?_
    show own_Ends p e below s _ _ _ (T92.setTop (mkF m 140 #[.val (.int p1), .val (.int p2), .val (.int p3), .val (.int p4), .val (.int p5), .val (.int (1 : Int32)), .val (.int nc), .val (.int va), .val (.int vr), .val (.int vs), .val (.int vb), .val (.int vc), .val (.ref b76), .val (.int (1 : Int32)), .unset] []))
    by_cases hca : vc = va
    · show own_Ends p e below s _ _ _ (T92.setTop (mkF m 140 #[.val (.int p1), .val (.int p2), .val (.int p3), .val (.int p4), .val (.int p5), .val (.int (1 : Int32)), .val (.int nc), .val (.int va), .val (.int vr), .val (.int vs), .val (.int vb), .val (.int vc), .val (.ref b76), .val (.int (1 : Int32)), .unset] []))
      refine own_step (fun _ kc_ => XS.aload X92.here hx rfl (hb hby at_140) rfl rfl (XS.iload X92.here hx rfl (hb hby at_142) rfl kc_)) ?_
      show own_Ends p e below s _ _ _ (T92.setTop (mkF m 144 #[.val (.int p1), .val (.int p2), .val (.int p3), .val (.int p4), .val (.int p5), .val (.int (1 : Int32)), .val (.int nc), .val (.int va), .val (.int vr), .val (.int vs), .val (.int vb), .val (.int vc), .val (.ref b76), .val (.int (1 : Int32)), .unset] [(.int vc), (.ref b76)]))
      have hin : vc ∈ [vb, va] := by simp [hca]
      obtain ⟨k3, hkk3, hfk3, hrk3⟩ := own_hit G92 hin
      obtain ⟨cq93, kq93, q93a, q93b, q93c⟩ := isOf hZ rfl E_b76_92
      obtain ⟨_, _, ⟨T93, L93, k93, n93⟩, -, X93, ⟨Lc93, hQ93, l93, y93, z93⟩, st93⟩ := X92.virtualBack hx (y := (⟨"com/example/kinds_by_value/kindsbyvalue/NameSet", "add", "(I)Z"⟩ : MethodName)) (z := (⟨"com/example/kinds_by_value/kindsbyvalue/NameSet", "add", "(I)Z"⟩ : MethodName)) hown (mvT hZ (hw _ (List.mem_of_getElem? (i := 22) rfl))) (mvT hZ (hw _ (List.mem_of_getElem? (i := 23) rfl))) (notFace_of_selects (args := #[]) (mvT hZ (hw _ (List.mem_of_getElem? (i := 25) rfl)))) (mvT hZ (hw _ (List.mem_of_getElem? (i := 25) rfl))) (mvT hZ (hw _ (List.mem_of_getElem? (i := 24) rfl))) (by decide) (backOf (W := 0) (rmAT1 l Z a0 hw [] b76 vc ta ts92 k3 T92.heap n0 Zs92 E_b76_92 fE92 fB92 fT92 fA92 G92.1 hfk3 hrk3) hZ (hw _ (List.mem_of_getElem? (i := 26) rfl)) (hw _ (List.mem_of_getElem? (i := 3) rfl)) (by decide) (by decide)) q93a q93c (g := (mkF m 144 #[.val (.int p1), .val (.int p2), .val (.int p3), .val (.int p4), .val (.int p5), .val (.int (1 : Int32)), .val (.int nc), .val (.int va), .val (.int vr), .val (.int vs), .val (.int vb), .val (.int vc), .val (.ref b76), .val (.int (1 : Int32)), .unset] [(.int vc), (.ref b76)])) rfl (by rw [hml]; rfl) (Steps.refl _) (argsL := [(.int vc)]) (rest := []) (lenOf pd_4 rfl) rfl (by show 2 * 0 + _ ≤ _; exact Nat.le_of_eq rfl) (hb hby at_144) (fun _ _ => ⟨rfl, rfl, (by decide : 2 + 0 ≤ _), (by decide : 21 + 0 ≤ _)⟩)
      dsimp only [Pt.U, Pt.locs, Pt.cells, Pt.slots] at X93 l93 y93 z93 st93 hQ93
      subst l93 y93 z93
      obtain ⟨rfl, N93q, e93⟩ := hQ93
      have e93h : T93.heap = T92.heap := e93
      have N93 := Fr.app N92 N93q
      refine own_step (fun _ kc_ => st93.trans kc_) ?_
      show own_Ends p e below s _ _ _ (T93.setTop (mkF m 147 #[.val (.int p1), .val (.int p2), .val (.int p3), .val (.int p4), .val (.int p5), .val (.int (1 : Int32)), .val (.int nc), .val (.int va), .val (.int vr), .val (.int vs), .val (.int vb), .val (.int vc), .val (.ref b76), .val (.int (1 : Int32)), .unset] [(.int (0 : Int32))]))
      refine own_step (fun _ kc_ => XS.pop X93.here hx rfl (hb hby at_147) rfl rfl (XS.iload X93.here hx rfl (hb hby at_148) rfl kc_)) ?_
      show own_Ends p e below s _ _ _ (T93.setTop (mkF m 150 #[.val (.int p1), .val (.int p2), .val (.int p3), .val (.int p4), .val (.int p5), .val (.int (1 : Int32)), .val (.int nc), .val (.int va), .val (.int vr), .val (.int vs), .val (.int vb), .val (.int vc), .val (.ref b76), .val (.int (1 : Int32)), .unset] [(.int va)]))
      obtain ⟨_, _, ⟨T94, L94, k94, n94⟩, -, X94, ⟨Lc94, hQ94, l94, y94, z94⟩, st94⟩ := Jvm.LawKit.callS X93 hx (y := (⟨"com/example/kinds_by_value/kindsbyvalue/Hashes", "spread", "(I)I"⟩ : MethodName)) hown (mvT hZ (hw _ (List.mem_of_getElem? (i := 39) rfl))) (mvT hZ (hw _ (List.mem_of_getElem? (i := 35) rfl))) (mvT hZ (hw _ (List.mem_of_getElem? (i := 36) rfl))) (mvT hZ (hw _ (List.mem_of_getElem? (i := 37) rfl))) (by decide) (backOf (W := 0) (rm6 l Z a0 hw [] va  T92.heap n0 Zs92 ) hZ (hw _ (List.mem_of_getElem? (i := 37) rfl)) (hw _ (List.mem_of_getElem? (i := 36) rfl)) (by decide) (by decide)) (g := (mkF m 150 #[.val (.int p1), .val (.int p2), .val (.int p3), .val (.int p4), .val (.int p5), .val (.int (1 : Int32)), .val (.int nc), .val (.int va), .val (.int vr), .val (.int vs), .val (.int vb), .val (.int vc), .val (.ref b76), .val (.int (1 : Int32)), .unset] [(.int va)])) rfl (by rw [hml]; rfl) (argsL := [(.int va)]) (rest := []) (lenOf pd_3 rfl) rfl (by show 2 * 0 + _ ≤ _; exact Nat.le_of_eq rfl) (hb hby at_150) (fun _ _ => ⟨rfl, e93h, (by decide : 2 + 0 ≤ _), (by decide : 21 + 0 ≤ _)⟩)
      dsimp only [Pt.U, Pt.locs, Pt.cells, Pt.slots] at X94 l94 y94 z94 st94 hQ94
      subst l94 y94 z94
      obtain ⟨rfl, N94q, e94⟩ := hQ94
      have e94h : T94.heap = T92.heap := e94
      have N94 := Fr.app N93 N94q
      refine own_step (fun _ kc_ => st94 _ kc_) ?_
      show own_Ends p e below s _ _ _ (T94.setTop (mkF m 153 #[.val (.int p1), .val (.int p2), .val (.int p3), .val (.int p4), .val (.int p5), .val (.int (1 : Int32)), .val (.int nc), .val (.int va), .val (.int vr), .val (.int vs), .val (.int vb), .val (.int vc), .val (.ref b76), .val (.int (1 : Int32)), .unset] [(.int (own_sp va))]))
      refine own_step (fun _ kc_ => XS.istore X94.here hx rfl (hb hby at_153) rfl (l' := #[.val (.int p1), .val (.int p2), .val (.int p3), .val (.int p4), .val (.int p5), .val (.int (1 : Int32)), .val (.int nc), .val (.int va), .val (.int vr), .val (.int vs), .val (.int vb), .val (.int vc), .val (.ref b76), .val (.int (1 : Int32)), .val (.int (own_sp va))]) rfl (XS.iload X94.here hx rfl (hb hby at_155) rfl (XS.iload X94.here hx rfl (hb hby at_157) rfl (XS.icmpNo X94.here hx rfl (hb hby at_159) rfl (XT.ii_eq_f (hba : ¬ (vb = va))) (XS.iload X94.here hx rfl (hb hby at_162) rfl (XS.iload X94.here hx rfl (hb hby at_164) rfl kc_)))))) ?_
      show own_Ends p e below s _ _ _ (T94.setTop (mkF m 166 #[.val (.int p1), .val (.int p2), .val (.int p3), .val (.int p4), .val (.int p5), .val (.int (1 : Int32)), .val (.int nc), .val (.int va), .val (.int vr), .val (.int vs), .val (.int vb), .val (.int vc), .val (.ref b76), .val (.int (1 : Int32)), .val (.int (own_sp va))] [(.int vb), (.int (own_sp va))]))
      obtain ⟨_, _, ⟨T95, L95, k95, n95⟩, -, X95, ⟨Lc95, hQ95, l95, y95, z95⟩, st95⟩ := Jvm.LawKit.callS X94 hx (y := (⟨"com/example/kinds_by_value/kindsbyvalue/Hashes", "spread", "(I)I"⟩ : MethodName)) hown (mvT hZ (hw _ (List.mem_of_getElem? (i := 39) rfl))) (mvT hZ (hw _ (List.mem_of_getElem? (i := 35) rfl))) (mvT hZ (hw _ (List.mem_of_getElem? (i := 36) rfl))) (mvT hZ (hw _ (List.mem_of_getElem? (i := 37) rfl))) (by decide) (backOf (W := 1) (rm6 l Z a0 hw [] vb  T92.heap n0 Zs92 ) hZ (hw _ (List.mem_of_getElem? (i := 37) rfl)) (hw _ (List.mem_of_getElem? (i := 36) rfl)) (by decide) (by decide)) (g := (mkF m 166 #[.val (.int p1), .val (.int p2), .val (.int p3), .val (.int p4), .val (.int p5), .val (.int (1 : Int32)), .val (.int nc), .val (.int va), .val (.int vr), .val (.int vs), .val (.int vb), .val (.int vc), .val (.ref b76), .val (.int (1 : Int32)), .val (.int (own_sp va))] [(.int vb), (.int (own_sp va))])) rfl (by rw [hml]; rfl) (argsL := [(.int vb)]) (rest := [(.int (own_sp va))]) (lenOf pd_3 rfl) rfl (by show 2 * 0 + _ ≤ _; exact Nat.le_of_eq rfl) (hb hby at_166) (fun _ _ => ⟨rfl, e94h, (by decide : 2 + 0 ≤ _), (by decide : 21 + 0 ≤ _)⟩)
      dsimp only [Pt.U, Pt.locs, Pt.cells, Pt.slots] at X95 l95 y95 z95 st95 hQ95
      subst l95 y95 z95
      obtain ⟨rfl, N95q, e95⟩ := hQ95
      have e95h : T95.heap = T92.heap := e95
      have N95 := Fr.app N94 N95q
      refine own_step (fun _ kc_ => st95 _ kc_) ?_
      show own_Ends p e below s _ _ _ (T95.setTop (mkF m 169 #[.val (.int p1), .val (.int p2), .val (.int p3), .val (.int p4), .val (.int p5), .val (.int (1 : Int32)), .val (.int nc), .val (.int va), .val (.int vr), .val (.int vs), .val (.int vb), .val (.int vc), .val (.ref b76), .val (.int (1 : Int32)), .val (.int (own_sp va))] [(.int (own_sp vb)), (.int (own_sp va))]))
      refine own_step (fun _ kc_ => XS.iadd X95.here hx rfl (hb hby at_169) rfl (XS.istore X95.here hx rfl (hb hby at_170) rfl (l' := #[.val (.int p1), .val (.int p2), .val (.int p3), .val (.int p4), .val (.int p5), .val (.int (1 : Int32)), .val (.int nc), .val (.int va), .val (.int vr), .val (.int vs), .val (.int vb), .val (.int vc), .val (.ref b76), .val (.int (1 : Int32)), .val (.int ((own_sp va) + (own_sp vb)))]) rfl (XS.iload X95.here hx rfl (hb hby at_172) rfl (XS.iload X95.here hx rfl (hb hby at_174) rfl (XS.icmpYes X95.here hx rfl (pc0 := 176) (pc' := 196) rfl (hb hby at_176) rfl (XT.ii_eq_t (hca : vc = va)) (by decide) (by decide) (XS.iload X95.here hx rfl (hb hby at_196) rfl (XS.ifNo X95.here hx rfl (hb hby at_198) rfl (XT.i0_eq_f (by decide : ¬ ((1 : Int32) = 0))) (XS.aload X95.here hx rfl (hb hby at_201) rfl rfl kc_)))))))) ?_
      show own_Ends p e below s _ _ _ (T95.setTop (mkF m 203 #[.val (.int p1), .val (.int p2), .val (.int p3), .val (.int p4), .val (.int p5), .val (.int (1 : Int32)), .val (.int nc), .val (.int va), .val (.int vr), .val (.int vs), .val (.int vb), .val (.int vc), .val (.ref b76), .val (.int (1 : Int32)), .val (.int ((own_sp va) + (own_sp vb)))] [(.ref b76)]))
      obtain ⟨cq96, kq96, q96a, q96b, q96c⟩ := isOf hZ e95h E_b76_92
      obtain ⟨_, _, ⟨T96, L96, k96, n96⟩, -, X96, ⟨Lc96, hQ96, l96, y96, z96⟩, st96⟩ := X95.virtualBack hx (y := (⟨"com/example/kinds_by_value/kindsbyvalue/NameSet", "hashCode", "()I"⟩ : MethodName)) (z := (⟨"com/example/kinds_by_value/kindsbyvalue/NameSet", "hashCode", "()I"⟩ : MethodName)) hown (mvT hZ (hw _ (List.mem_of_getElem? (i := 13) rfl))) (mvT hZ (hw _ (List.mem_of_getElem? (i := 14) rfl))) (notFace_of_selects (args := #[]) (mvT hZ (hw _ (List.mem_of_getElem? (i := 16) rfl)))) (mvT hZ (hw _ (List.mem_of_getElem? (i := 16) rfl))) (mvT hZ (hw _ (List.mem_of_getElem? (i := 15) rfl))) (by decide) (backOf (W := 0) (rmH0 l Z a0 hw [] b76 (((0 : Int32) + own_sp va) + own_sp vb) T92.heap n0 Zs92 fE92 fH92) hZ (hw _ (List.mem_of_getElem? (i := 17) rfl)) (hw _ (List.mem_of_getElem? (i := 3) rfl)) (by decide) (by decide)) q96a q96c (g := (mkF m 203 #[.val (.int p1), .val (.int p2), .val (.int p3), .val (.int p4), .val (.int p5), .val (.int (1 : Int32)), .val (.int nc), .val (.int va), .val (.int vr), .val (.int vs), .val (.int vb), .val (.int vc), .val (.ref b76), .val (.int (1 : Int32)), .val (.int ((own_sp va) + (own_sp vb)))] [(.ref b76)])) rfl (by rw [hml]; rfl) (Steps.refl _) (argsL := []) (rest := []) (lenOf pd_6 rfl) rfl (by show 2 * 0 + _ ≤ _; exact Nat.le_of_eq rfl) (hb hby at_203) (fun _ _ => ⟨rfl, e95h, (by decide : 2 + 0 ≤ _), (by decide : 21 + 0 ≤ _)⟩)
      dsimp only [Pt.U, Pt.locs, Pt.cells, Pt.slots] at X96 l96 y96 z96 st96 hQ96
      subst l96 y96 z96
      obtain ⟨rfl, N96q, e96⟩ := hQ96
      have e96h : T96.heap = T92.heap := e96
      have N96 := Fr.app N95 N96q
      refine own_step (fun _ kc_ => st96.trans kc_) ?_
      show own_Ends p e below s _ _ _ (T96.setTop (mkF m 206 #[.val (.int p1), .val (.int p2), .val (.int p3), .val (.int p4), .val (.int p5), .val (.int (1 : Int32)), .val (.int nc), .val (.int va), .val (.int vr), .val (.int vs), .val (.int vb), .val (.int vc), .val (.ref b76), .val (.int (1 : Int32)), .val (.int ((own_sp va) + (own_sp vb)))] [(.int (((0 : Int32) + own_sp va) + own_sp vb))]))
      refine own_step (fun _ kc_ => XS.iload X96.here hx rfl (hb hby at_206) rfl (XS.icmpNo X96.here hx rfl (hb hby at_208) rfl (XT.ii_ne_f (by simp only [Int32.zero_add] : (((0 : Int32) + own_sp va) + own_sp vb) = ((own_sp va) + (own_sp vb)))) (XS.iconst X96.here hx rfl (hb hby at_211) (XS.goto X96.here hx rfl (pc0 := 212) (pc' := 216) rfl (hb hby at_212) (by decide) (by decide) (XS.istore X96.here hx rfl (hb hby at_216) rfl (l' := #[.val (.int p1), .val (.int p2), .val (.int p3), .val (.int p4), .val (.int p5), .val (.int (1 : Int32)), .val (.int nc), .val (.int va), .val (.int vr), .val (.int vs), .val (.int vb), .val (.int vc), .val (.ref b76), .val (.int (1 : Int32)), .val (.int ((own_sp va) + (own_sp vb)))]) rfl (XS.aload X96.here hx rfl (hb hby at_218) rfl rfl kc_)))))) ?_
      show own_Ends p e below s _ _ _ (T96.setTop (mkF m 220 #[.val (.int p1), .val (.int p2), .val (.int p3), .val (.int p4), .val (.int p5), .val (.int (1 : Int32)), .val (.int nc), .val (.int va), .val (.int vr), .val (.int vs), .val (.int vb), .val (.int vc), .val (.ref b76), .val (.int (1 : Int32)), .val (.int ((own_sp va) + (own_sp vb)))] [(.ref b76)]))
      obtain ⟨cq97, kq97, q97a, q97b, q97c⟩ := isOf hZ e96h E_b76_92
      obtain ⟨_, _, ⟨T97, L97, k97, n97⟩, -, X97, ⟨Lc97, hQ97, l97, y97, z97⟩, st97⟩ := X96.virtualBack hx (y := (⟨"com/example/kinds_by_value/kindsbyvalue/NameSet", "addEveryName", "()V"⟩ : MethodName)) (z := (⟨"com/example/kinds_by_value/kindsbyvalue/NameSet", "addEveryName", "()V"⟩ : MethodName)) hown (mvT hZ (hw _ (List.mem_of_getElem? (i := 40) rfl))) (mvT hZ (hw _ (List.mem_of_getElem? (i := 41) rfl))) (notFace_of_selects (args := #[]) (mvT hZ (hw _ (List.mem_of_getElem? (i := 43) rfl)))) (mvT hZ (hw _ (List.mem_of_getElem? (i := 43) rfl))) (mvT hZ (hw _ (List.mem_of_getElem? (i := 42) rfl))) (by decide) (backOf (W := 0) (rm7 l Z a0 hw [] b76 (.int (0 : Int32)) .null (.ref ta) (.int (((0 : Int32) + (1 : Int32)) + (1 : Int32))) (.int (((0 : Int32) + own_sp va) + own_sp vb)) T92.heap n0 Zs92 E_b76_92 fE92 fB92 fT92 fS92 fH92 n0_b76) hZ (hw _ (List.mem_of_getElem? (i := 44) rfl)) (hw _ (List.mem_of_getElem? (i := 3) rfl)) (by decide) (by decide)) q97a q97c (g := (mkF m 220 #[.val (.int p1), .val (.int p2), .val (.int p3), .val (.int p4), .val (.int p5), .val (.int (1 : Int32)), .val (.int nc), .val (.int va), .val (.int vr), .val (.int vs), .val (.int vb), .val (.int vc), .val (.ref b76), .val (.int (1 : Int32)), .val (.int ((own_sp va) + (own_sp vb)))] [(.ref b76)])) rfl (by rw [hml]; rfl) (Steps.refl _) (argsL := []) (rest := []) (lenOf pd_1 rfl) rfl (by show 2 * 0 + _ ≤ _; exact Nat.le_of_eq rfl) (hb hby at_220) (fun _ _ => ⟨rfl, e96h, (by decide : 2 + 0 ≤ _), (by decide : 21 + 0 ≤ _)⟩)
      dsimp only [Pt.U, Pt.locs, Pt.cells, Pt.slots] at X97 l97 y97 z97 st97 hQ97
      subst l97 y97 z97
      obtain ⟨rfl, N97q, K97k, fE97⟩ := hQ97
      have E_b76_97 := (E_b76_92).keep K97k
      have A_ta_97 := (fA92).keep K97k (ninS (Ne.symm noar) nin0)
      have Zs97 := Nat.le_trans Zs92 K97k.1
      have N97 := Fr.app N96 N97q
      refine own_step (fun _ kc_ => st97.trans kc_) ?_
      show own_Ends p e below s _ _ _ (T97.setTop (mkF m 223 #[.val (.int p1), .val (.int p2), .val (.int p3), .val (.int p4), .val (.int p5), .val (.int (1 : Int32)), .val (.int nc), .val (.int va), .val (.int vr), .val (.int vs), .val (.int vb), .val (.int vc), .val (.ref b76), .val (.int (1 : Int32)), .val (.int ((own_sp va) + (own_sp vb)))] []))
      refine own_step (fun _ kc_ => XS.iload X97.here hx rfl (hb hby at_223) rfl (XS.ifNo X97.here hx rfl (hb hby at_225) rfl (XT.i0_eq_f (by decide : ¬ ((1 : Int32) = 0))) (XS.aload X97.here hx rfl (hb hby at_228) rfl rfl kc_))) ?_
      show own_Ends p e below s _ _ _ (T97.setTop (mkF m 230 #[.val (.int p1), .val (.int p2), .val (.int p3), .val (.int p4), .val (.int p5), .val (.int (1 : Int32)), .val (.int nc), .val (.int va), .val (.int vr), .val (.int vs), .val (.int vb), .val (.int vc), .val (.ref b76), .val (.int (1 : Int32)), .val (.int ((own_sp va) + (own_sp vb)))] [(.ref b76)]))
      obtain ⟨cq98, kq98, q98a, q98b, q98c⟩ := isOf hZ rfl E_b76_97
      obtain ⟨_, _, ⟨T98, L98, k98, n98⟩, -, X98, ⟨Lc98, hQ98, l98, y98, z98⟩, st98⟩ := X97.virtualBack hx (y := (⟨"com/example/kinds_by_value/kindsbyvalue/NameSet", "hashCode", "()I"⟩ : MethodName)) (z := (⟨"com/example/kinds_by_value/kindsbyvalue/NameSet", "hashCode", "()I"⟩ : MethodName)) hown (mvT hZ (hw _ (List.mem_of_getElem? (i := 13) rfl))) (mvT hZ (hw _ (List.mem_of_getElem? (i := 14) rfl))) (notFace_of_selects (args := #[]) (mvT hZ (hw _ (List.mem_of_getElem? (i := 16) rfl)))) (mvT hZ (hw _ (List.mem_of_getElem? (i := 16) rfl))) (mvT hZ (hw _ (List.mem_of_getElem? (i := 15) rfl))) (by decide) (backOf (W := 0) (rmH1 l Z a0 hw [] b76  T97.heap n0 Zs97 fE97) hZ (hw _ (List.mem_of_getElem? (i := 17) rfl)) (hw _ (List.mem_of_getElem? (i := 3) rfl)) (by decide) (by decide)) q98a q98c (g := (mkF m 230 #[.val (.int p1), .val (.int p2), .val (.int p3), .val (.int p4), .val (.int p5), .val (.int (1 : Int32)), .val (.int nc), .val (.int va), .val (.int vr), .val (.int vs), .val (.int vb), .val (.int vc), .val (.ref b76), .val (.int (1 : Int32)), .val (.int ((own_sp va) + (own_sp vb)))] [(.ref b76)])) rfl (by rw [hml]; rfl) (Steps.refl _) (argsL := []) (rest := []) (lenOf pd_6 rfl) rfl (by show 2 * 0 + _ ≤ _; exact Nat.le_of_eq rfl) (hb hby at_230) (fun _ _ => ⟨rfl, rfl, (by decide : 2 + 0 ≤ _), (by decide : 21 + 0 ≤ _)⟩)
      dsimp only [Pt.U, Pt.locs, Pt.cells, Pt.slots] at X98 l98 y98 z98 st98 hQ98
      subst l98 y98 z98
      obtain ⟨rfl, N98q, e98⟩ := hQ98
      have e98h : T98.heap = T97.heap := e98
      have N98 := Fr.app N97 N98q
      refine own_step (fun _ kc_ => st98.trans kc_) ?_
      show own_Ends p e below s _ _ _ (T98.setTop (mkF m 233 #[.val (.int p1), .val (.int p2), .val (.int p3), .val (.int p4), .val (.int p5), .val (.int (1 : Int32)), .val (.int nc), .val (.int va), .val (.int vr), .val (.int vs), .val (.int vb), .val (.int vc), .val (.ref b76), .val (.int (1 : Int32)), .val (.int ((own_sp va) + (own_sp vb)))] [(.int (-1 : Int32))]))
      refine own_step (fun _ kc_ => XS.iconst X98.here hx rfl (hb hby at_233) (XS.icmpNo X98.here hx rfl (hb hby at_234) rfl (XT.ii_ne_f (rfl : (-1 : Int32) = (-1 : Int32))) (XS.iconst X98.here hx rfl (hb hby at_237) (XS.goto X98.here hx rfl (pc0 := 238) (pc' := 242) rfl (hb hby at_238) (by decide) (by decide) (XS.istore X98.here hx rfl (hb hby at_242) rfl (l' := #[.val (.int p1), .val (.int p2), .val (.int p3), .val (.int p4), .val (.int p5), .val (.int (1 : Int32)), .val (.int nc), .val (.int va), .val (.int vr), .val (.int vs), .val (.int vb), .val (.int vc), .val (.ref b76), .val (.int (1 : Int32)), .val (.int ((own_sp va) + (own_sp vb)))]) rfl (XS.iload X98.here hx rfl (hb hby at_244) rfl kc_)))))) ?_
      show own_Ends p e below s _ _ _ (T98.setTop (mkF m 246 #[.val (.int p1), .val (.int p2), .val (.int p3), .val (.int p4), .val (.int p5), .val (.int (1 : Int32)), .val (.int nc), .val (.int va), .val (.int vr), .val (.int vs), .val (.int vb), .val (.int vc), .val (.ref b76), .val (.int (1 : Int32)), .val (.int ((own_sp va) + (own_sp vb)))] [(.int (1 : Int32))]))
      exact own_retN X98 hx (t := .boolean) hret (by simp) hlk (hb hby at_246) (by decide) (by decide) rfl ⟨rfl, N98⟩
    · show own_Ends p e below s _ _ _ (T92.setTop (mkF m 140 #[.val (.int p1), .val (.int p2), .val (.int p3), .val (.int p4), .val (.int p5), .val (.int (1 : Int32)), .val (.int nc), .val (.int va), .val (.int vr), .val (.int vs), .val (.int vb), .val (.int vc), .val (.ref b76), .val (.int (1 : Int32)), .unset] []))
      refine own_step (fun _ kc_ => XS.aload X92.here hx rfl (hb hby at_140) rfl rfl kc_) ?_
      show own_Ends p e below s _ _ _ (T92.setTop (mkF m 142 #[.val (.int p1), .val (.int p2), .val (.int p3), .val (.int p4), .val (.int p5), .val (.int (1 : Int32)), .val (.int nc), .val (.int va), .val (.int vr), .val (.int vs), .val (.int vb), .val (.int vc), .val (.ref b76), .val (.int (1 : Int32)), .unset] [(.ref b76)]))
      by_cases hcb : vc = vb
      · show own_Ends p e below s _ _ _ (T92.setTop (mkF m 142 #[.val (.int p1), .val (.int p2), .val (.int p3), .val (.int p4), .val (.int p5), .val (.int (1 : Int32)), .val (.int nc), .val (.int va), .val (.int vr), .val (.int vs), .val (.int vb), .val (.int vc), .val (.ref b76), .val (.int (1 : Int32)), .unset] [(.ref b76)]))
        refine own_step (fun _ kc_ => XS.iload X92.here hx rfl (hb hby at_142) rfl kc_) ?_
        show own_Ends p e below s _ _ _ (T92.setTop (mkF m 144 #[.val (.int p1), .val (.int p2), .val (.int p3), .val (.int p4), .val (.int p5), .val (.int (1 : Int32)), .val (.int nc), .val (.int va), .val (.int vr), .val (.int vs), .val (.int vb), .val (.int vc), .val (.ref b76), .val (.int (1 : Int32)), .unset] [(.int vc), (.ref b76)]))
        have hin : vc ∈ [vb, va] := by simp [hcb]
        obtain ⟨k3, hkk3, hfk3, hrk3⟩ := own_hit G92 hin
        obtain ⟨cq99, kq99, q99a, q99b, q99c⟩ := isOf hZ rfl E_b76_92
        obtain ⟨_, _, ⟨T99, L99, k99, n99⟩, -, X99, ⟨Lc99, hQ99, l99, y99, z99⟩, st99⟩ := X92.virtualBack hx (y := (⟨"com/example/kinds_by_value/kindsbyvalue/NameSet", "add", "(I)Z"⟩ : MethodName)) (z := (⟨"com/example/kinds_by_value/kindsbyvalue/NameSet", "add", "(I)Z"⟩ : MethodName)) hown (mvT hZ (hw _ (List.mem_of_getElem? (i := 22) rfl))) (mvT hZ (hw _ (List.mem_of_getElem? (i := 23) rfl))) (notFace_of_selects (args := #[]) (mvT hZ (hw _ (List.mem_of_getElem? (i := 25) rfl)))) (mvT hZ (hw _ (List.mem_of_getElem? (i := 25) rfl))) (mvT hZ (hw _ (List.mem_of_getElem? (i := 24) rfl))) (by decide) (backOf (W := 0) (rmAT1 l Z a0 hw [] b76 vc ta ts92 k3 T92.heap n0 Zs92 E_b76_92 fE92 fB92 fT92 fA92 G92.1 hfk3 hrk3) hZ (hw _ (List.mem_of_getElem? (i := 26) rfl)) (hw _ (List.mem_of_getElem? (i := 3) rfl)) (by decide) (by decide)) q99a q99c (g := (mkF m 144 #[.val (.int p1), .val (.int p2), .val (.int p3), .val (.int p4), .val (.int p5), .val (.int (1 : Int32)), .val (.int nc), .val (.int va), .val (.int vr), .val (.int vs), .val (.int vb), .val (.int vc), .val (.ref b76), .val (.int (1 : Int32)), .unset] [(.int vc), (.ref b76)])) rfl (by rw [hml]; rfl) (Steps.refl _) (argsL := [(.int vc)]) (rest := []) (lenOf pd_4 rfl) rfl (by show 2 * 0 + _ ≤ _; exact Nat.le_of_eq rfl) (hb hby at_144) (fun _ _ => ⟨rfl, rfl, (by decide : 2 + 0 ≤ _), (by decide : 21 + 0 ≤ _)⟩)
        dsimp only [Pt.U, Pt.locs, Pt.cells, Pt.slots] at X99 l99 y99 z99 st99 hQ99
        subst l99 y99 z99
        obtain ⟨rfl, N99q, e99⟩ := hQ99
        have e99h : T99.heap = T92.heap := e99
        have N99 := Fr.app N92 N99q
        refine own_step (fun _ kc_ => st99.trans kc_) ?_
        show own_Ends p e below s _ _ _ (T99.setTop (mkF m 147 #[.val (.int p1), .val (.int p2), .val (.int p3), .val (.int p4), .val (.int p5), .val (.int (1 : Int32)), .val (.int nc), .val (.int va), .val (.int vr), .val (.int vs), .val (.int vb), .val (.int vc), .val (.ref b76), .val (.int (1 : Int32)), .unset] [(.int (0 : Int32))]))
        refine own_step (fun _ kc_ => XS.pop X99.here hx rfl (hb hby at_147) rfl rfl (XS.iload X99.here hx rfl (hb hby at_148) rfl kc_)) ?_
        show own_Ends p e below s _ _ _ (T99.setTop (mkF m 150 #[.val (.int p1), .val (.int p2), .val (.int p3), .val (.int p4), .val (.int p5), .val (.int (1 : Int32)), .val (.int nc), .val (.int va), .val (.int vr), .val (.int vs), .val (.int vb), .val (.int vc), .val (.ref b76), .val (.int (1 : Int32)), .unset] [(.int va)]))
        obtain ⟨_, _, ⟨T100, L100, k100, n100⟩, -, X100, ⟨Lc100, hQ100, l100, y100, z100⟩, st100⟩ := Jvm.LawKit.callS X99 hx (y := (⟨"com/example/kinds_by_value/kindsbyvalue/Hashes", "spread", "(I)I"⟩ : MethodName)) hown (mvT hZ (hw _ (List.mem_of_getElem? (i := 39) rfl))) (mvT hZ (hw _ (List.mem_of_getElem? (i := 35) rfl))) (mvT hZ (hw _ (List.mem_of_getElem? (i := 36) rfl))) (mvT hZ (hw _ (List.mem_of_getElem? (i := 37) rfl))) (by decide) (backOf (W := 0) (rm6 l Z a0 hw [] va  T92.heap n0 Zs92 ) hZ (hw _ (List.mem_of_getElem? (i := 37) rfl)) (hw _ (List.mem_of_getElem? (i := 36) rfl)) (by decide) (by decide)) (g := (mkF m 150 #[.val (.int p1), .val (.int p2), .val (.int p3), .val (.int p4), .val (.int p5), .val (.int (1 : Int32)), .val (.int nc), .val (.int va), .val (.int vr), .val (.int vs), .val (.int vb), .val (.int vc), .val (.ref b76), .val (.int (1 : Int32)), .unset] [(.int va)])) rfl (by rw [hml]; rfl) (argsL := [(.int va)]) (rest := []) (lenOf pd_3 rfl) rfl (by show 2 * 0 + _ ≤ _; exact Nat.le_of_eq rfl) (hb hby at_150) (fun _ _ => ⟨rfl, e99h, (by decide : 2 + 0 ≤ _), (by decide : 21 + 0 ≤ _)⟩)
        dsimp only [Pt.U, Pt.locs, Pt.cells, Pt.slots] at X100 l100 y100 z100 st100 hQ100
        subst l100 y100 z100
        obtain ⟨rfl, N100q, e100⟩ := hQ100
        have e100h : T100.heap = T92.heap := e100
        have N100 := Fr.app N99 N100q
        refine own_step (fun _ kc_ => st100 _ kc_) ?_
        show own_Ends p e below s _ _ _ (T100.setTop (mkF m 153 #[.val (.int p1), .val (.int p2), .val (.int p3), .val (.int p4), .val (.int p5), .val (.int (1 : Int32)), .val (.int nc), .val (.int va), .val (.int vr), .val (.int vs), .val (.int vb), .val (.int vc), .val (.ref b76), .val (.int (1 : Int32)), .unset] [(.int (own_sp va))]))
        refine own_step (fun _ kc_ => XS.istore X100.here hx rfl (hb hby at_153) rfl (l' := #[.val (.int p1), .val (.int p2), .val (.int p3), .val (.int p4), .val (.int p5), .val (.int (1 : Int32)), .val (.int nc), .val (.int va), .val (.int vr), .val (.int vs), .val (.int vb), .val (.int vc), .val (.ref b76), .val (.int (1 : Int32)), .val (.int (own_sp va))]) rfl (XS.iload X100.here hx rfl (hb hby at_155) rfl (XS.iload X100.here hx rfl (hb hby at_157) rfl (XS.icmpNo X100.here hx rfl (hb hby at_159) rfl (XT.ii_eq_f (hba : ¬ (vb = va))) (XS.iload X100.here hx rfl (hb hby at_162) rfl (XS.iload X100.here hx rfl (hb hby at_164) rfl kc_)))))) ?_
        show own_Ends p e below s _ _ _ (T100.setTop (mkF m 166 #[.val (.int p1), .val (.int p2), .val (.int p3), .val (.int p4), .val (.int p5), .val (.int (1 : Int32)), .val (.int nc), .val (.int va), .val (.int vr), .val (.int vs), .val (.int vb), .val (.int vc), .val (.ref b76), .val (.int (1 : Int32)), .val (.int (own_sp va))] [(.int vb), (.int (own_sp va))]))
        obtain ⟨_, _, ⟨T101, L101, k101, n101⟩, -, X101, ⟨Lc101, hQ101, l101, y101, z101⟩, st101⟩ := Jvm.LawKit.callS X100 hx (y := (⟨"com/example/kinds_by_value/kindsbyvalue/Hashes", "spread", "(I)I"⟩ : MethodName)) hown (mvT hZ (hw _ (List.mem_of_getElem? (i := 39) rfl))) (mvT hZ (hw _ (List.mem_of_getElem? (i := 35) rfl))) (mvT hZ (hw _ (List.mem_of_getElem? (i := 36) rfl))) (mvT hZ (hw _ (List.mem_of_getElem? (i := 37) rfl))) (by decide) (backOf (W := 1) (rm6 l Z a0 hw [] vb  T92.heap n0 Zs92 ) hZ (hw _ (List.mem_of_getElem? (i := 37) rfl)) (hw _ (List.mem_of_getElem? (i := 36) rfl)) (by decide) (by decide)) (g := (mkF m 166 #[.val (.int p1), .val (.int p2), .val (.int p3), .val (.int p4), .val (.int p5), .val (.int (1 : Int32)), .val (.int nc), .val (.int va), .val (.int vr), .val (.int vs), .val (.int vb), .val (.int vc), .val (.ref b76), .val (.int (1 : Int32)), .val (.int (own_sp va))] [(.int vb), (.int (own_sp va))])) rfl (by rw [hml]; rfl) (argsL := [(.int vb)]) (rest := [(.int (own_sp va))]) (lenOf pd_3 rfl) rfl (by show 2 * 0 + _ ≤ _; exact Nat.le_of_eq rfl) (hb hby at_166) (fun _ _ => ⟨rfl, e100h, (by decide : 2 + 0 ≤ _), (by decide : 21 + 0 ≤ _)⟩)
        dsimp only [Pt.U, Pt.locs, Pt.cells, Pt.slots] at X101 l101 y101 z101 st101 hQ101
        subst l101 y101 z101
        obtain ⟨rfl, N101q, e101⟩ := hQ101
        have e101h : T101.heap = T92.heap := e101
        have N101 := Fr.app N100 N101q
        refine own_step (fun _ kc_ => st101 _ kc_) ?_
        show own_Ends p e below s _ _ _ (T101.setTop (mkF m 169 #[.val (.int p1), .val (.int p2), .val (.int p3), .val (.int p4), .val (.int p5), .val (.int (1 : Int32)), .val (.int nc), .val (.int va), .val (.int vr), .val (.int vs), .val (.int vb), .val (.int vc), .val (.ref b76), .val (.int (1 : Int32)), .val (.int (own_sp va))] [(.int (own_sp vb)), (.int (own_sp va))]))
        refine own_step (fun _ kc_ => XS.iadd X101.here hx rfl (hb hby at_169) rfl (XS.istore X101.here hx rfl (hb hby at_170) rfl (l' := #[.val (.int p1), .val (.int p2), .val (.int p3), .val (.int p4), .val (.int p5), .val (.int (1 : Int32)), .val (.int nc), .val (.int va), .val (.int vr), .val (.int vs), .val (.int vb), .val (.int vc), .val (.ref b76), .val (.int (1 : Int32)), .val (.int ((own_sp va) + (own_sp vb)))]) rfl (XS.iload X101.here hx rfl (hb hby at_172) rfl (XS.iload X101.here hx rfl (hb hby at_174) rfl (XS.icmpNo X101.here hx rfl (hb hby at_176) rfl (XT.ii_eq_f (hca : ¬ (vc = va))) (XS.iload X101.here hx rfl (hb hby at_179) rfl (XS.iload X101.here hx rfl (hb hby at_181) rfl (XS.icmpYes X101.here hx rfl (pc0 := 183) (pc' := 196) rfl (hb hby at_183) rfl (XT.ii_eq_t (hcb : vc = vb)) (by decide) (by decide) kc_)))))))) ?_
        show own_Ends p e below s _ _ _ (T101.setTop (mkF m 196 #[.val (.int p1), .val (.int p2), .val (.int p3), .val (.int p4), .val (.int p5), .val (.int (1 : Int32)), .val (.int nc), .val (.int va), .val (.int vr), .val (.int vs), .val (.int vb), .val (.int vc), .val (.ref b76), .val (.int (1 : Int32)), .val (.int ((own_sp va) + (own_sp vb)))] []))
        refine own_step (fun _ kc_ => XS.iload X101.here hx rfl (hb hby at_196) rfl (XS.ifNo X101.here hx rfl (hb hby at_198) rfl (XT.i0_eq_f (by decide : ¬ ((1 : Int32) = 0))) (XS.aload X101.here hx rfl (hb hby at_201) rfl rfl kc_))) ?_
        show own_Ends p e below s _ _ _ (T101.setTop (mkF m 203 #[.val (.int p1), .val (.int p2), .val (.int p3), .val (.int p4), .val (.int p5), .val (.int (1 : Int32)), .val (.int nc), .val (.int va), .val (.int vr), .val (.int vs), .val (.int vb), .val (.int vc), .val (.ref b76), .val (.int (1 : Int32)), .val (.int ((own_sp va) + (own_sp vb)))] [(.ref b76)]))
        obtain ⟨cq102, kq102, q102a, q102b, q102c⟩ := isOf hZ e101h E_b76_92
        obtain ⟨_, _, ⟨T102, L102, k102, n102⟩, -, X102, ⟨Lc102, hQ102, l102, y102, z102⟩, st102⟩ := X101.virtualBack hx (y := (⟨"com/example/kinds_by_value/kindsbyvalue/NameSet", "hashCode", "()I"⟩ : MethodName)) (z := (⟨"com/example/kinds_by_value/kindsbyvalue/NameSet", "hashCode", "()I"⟩ : MethodName)) hown (mvT hZ (hw _ (List.mem_of_getElem? (i := 13) rfl))) (mvT hZ (hw _ (List.mem_of_getElem? (i := 14) rfl))) (notFace_of_selects (args := #[]) (mvT hZ (hw _ (List.mem_of_getElem? (i := 16) rfl)))) (mvT hZ (hw _ (List.mem_of_getElem? (i := 16) rfl))) (mvT hZ (hw _ (List.mem_of_getElem? (i := 15) rfl))) (by decide) (backOf (W := 0) (rmH0 l Z a0 hw [] b76 (((0 : Int32) + own_sp va) + own_sp vb) T92.heap n0 Zs92 fE92 fH92) hZ (hw _ (List.mem_of_getElem? (i := 17) rfl)) (hw _ (List.mem_of_getElem? (i := 3) rfl)) (by decide) (by decide)) q102a q102c (g := (mkF m 203 #[.val (.int p1), .val (.int p2), .val (.int p3), .val (.int p4), .val (.int p5), .val (.int (1 : Int32)), .val (.int nc), .val (.int va), .val (.int vr), .val (.int vs), .val (.int vb), .val (.int vc), .val (.ref b76), .val (.int (1 : Int32)), .val (.int ((own_sp va) + (own_sp vb)))] [(.ref b76)])) rfl (by rw [hml]; rfl) (Steps.refl _) (argsL := []) (rest := []) (lenOf pd_6 rfl) rfl (by show 2 * 0 + _ ≤ _; exact Nat.le_of_eq rfl) (hb hby at_203) (fun _ _ => ⟨rfl, e101h, (by decide : 2 + 0 ≤ _), (by decide : 21 + 0 ≤ _)⟩)
        dsimp only [Pt.U, Pt.locs, Pt.cells, Pt.slots] at X102 l102 y102 z102 st102 hQ102
        subst l102 y102 z102
        obtain ⟨rfl, N102q, e102⟩ := hQ102
        have e102h : T102.heap = T92.heap := e102
        have N102 := Fr.app N101 N102q
        refine own_step (fun _ kc_ => st102.trans kc_) ?_
        show own_Ends p e below s _ _ _ (T102.setTop (mkF m 206 #[.val (.int p1), .val (.int p2), .val (.int p3), .val (.int p4), .val (.int p5), .val (.int (1 : Int32)), .val (.int nc), .val (.int va), .val (.int vr), .val (.int vs), .val (.int vb), .val (.int vc), .val (.ref b76), .val (.int (1 : Int32)), .val (.int ((own_sp va) + (own_sp vb)))] [(.int (((0 : Int32) + own_sp va) + own_sp vb))]))
        refine own_step (fun _ kc_ => XS.iload X102.here hx rfl (hb hby at_206) rfl (XS.icmpNo X102.here hx rfl (hb hby at_208) rfl (XT.ii_ne_f (by simp only [Int32.zero_add] : (((0 : Int32) + own_sp va) + own_sp vb) = ((own_sp va) + (own_sp vb)))) (XS.iconst X102.here hx rfl (hb hby at_211) (XS.goto X102.here hx rfl (pc0 := 212) (pc' := 216) rfl (hb hby at_212) (by decide) (by decide) (XS.istore X102.here hx rfl (hb hby at_216) rfl (l' := #[.val (.int p1), .val (.int p2), .val (.int p3), .val (.int p4), .val (.int p5), .val (.int (1 : Int32)), .val (.int nc), .val (.int va), .val (.int vr), .val (.int vs), .val (.int vb), .val (.int vc), .val (.ref b76), .val (.int (1 : Int32)), .val (.int ((own_sp va) + (own_sp vb)))]) rfl (XS.aload X102.here hx rfl (hb hby at_218) rfl rfl kc_)))))) ?_
        show own_Ends p e below s _ _ _ (T102.setTop (mkF m 220 #[.val (.int p1), .val (.int p2), .val (.int p3), .val (.int p4), .val (.int p5), .val (.int (1 : Int32)), .val (.int nc), .val (.int va), .val (.int vr), .val (.int vs), .val (.int vb), .val (.int vc), .val (.ref b76), .val (.int (1 : Int32)), .val (.int ((own_sp va) + (own_sp vb)))] [(.ref b76)]))
        obtain ⟨cq103, kq103, q103a, q103b, q103c⟩ := isOf hZ e102h E_b76_92
        obtain ⟨_, _, ⟨T103, L103, k103, n103⟩, -, X103, ⟨Lc103, hQ103, l103, y103, z103⟩, st103⟩ := X102.virtualBack hx (y := (⟨"com/example/kinds_by_value/kindsbyvalue/NameSet", "addEveryName", "()V"⟩ : MethodName)) (z := (⟨"com/example/kinds_by_value/kindsbyvalue/NameSet", "addEveryName", "()V"⟩ : MethodName)) hown (mvT hZ (hw _ (List.mem_of_getElem? (i := 40) rfl))) (mvT hZ (hw _ (List.mem_of_getElem? (i := 41) rfl))) (notFace_of_selects (args := #[]) (mvT hZ (hw _ (List.mem_of_getElem? (i := 43) rfl)))) (mvT hZ (hw _ (List.mem_of_getElem? (i := 43) rfl))) (mvT hZ (hw _ (List.mem_of_getElem? (i := 42) rfl))) (by decide) (backOf (W := 0) (rm7 l Z a0 hw [] b76 (.int (0 : Int32)) .null (.ref ta) (.int (((0 : Int32) + (1 : Int32)) + (1 : Int32))) (.int (((0 : Int32) + own_sp va) + own_sp vb)) T92.heap n0 Zs92 E_b76_92 fE92 fB92 fT92 fS92 fH92 n0_b76) hZ (hw _ (List.mem_of_getElem? (i := 44) rfl)) (hw _ (List.mem_of_getElem? (i := 3) rfl)) (by decide) (by decide)) q103a q103c (g := (mkF m 220 #[.val (.int p1), .val (.int p2), .val (.int p3), .val (.int p4), .val (.int p5), .val (.int (1 : Int32)), .val (.int nc), .val (.int va), .val (.int vr), .val (.int vs), .val (.int vb), .val (.int vc), .val (.ref b76), .val (.int (1 : Int32)), .val (.int ((own_sp va) + (own_sp vb)))] [(.ref b76)])) rfl (by rw [hml]; rfl) (Steps.refl _) (argsL := []) (rest := []) (lenOf pd_1 rfl) rfl (by show 2 * 0 + _ ≤ _; exact Nat.le_of_eq rfl) (hb hby at_220) (fun _ _ => ⟨rfl, e102h, (by decide : 2 + 0 ≤ _), (by decide : 21 + 0 ≤ _)⟩)
        dsimp only [Pt.U, Pt.locs, Pt.cells, Pt.slots] at X103 l103 y103 z103 st103 hQ103
        subst l103 y103 z103
        obtain ⟨rfl, N103q, K103k, fE103⟩ := hQ103
        have E_b76_103 := (E_b76_92).keep K103k
        have A_ta_103 := (fA92).keep K103k (ninS (Ne.symm noar) nin0)
        have Zs103 := Nat.le_trans Zs92 K103k.1
        have N103 := Fr.app N102 N103q
        refine own_step (fun _ kc_ => st103.trans kc_) ?_
        show own_Ends p e below s _ _ _ (T103.setTop (mkF m 223 #[.val (.int p1), .val (.int p2), .val (.int p3), .val (.int p4), .val (.int p5), .val (.int (1 : Int32)), .val (.int nc), .val (.int va), .val (.int vr), .val (.int vs), .val (.int vb), .val (.int vc), .val (.ref b76), .val (.int (1 : Int32)), .val (.int ((own_sp va) + (own_sp vb)))] []))
        refine own_step (fun _ kc_ => XS.iload X103.here hx rfl (hb hby at_223) rfl (XS.ifNo X103.here hx rfl (hb hby at_225) rfl (XT.i0_eq_f (by decide : ¬ ((1 : Int32) = 0))) (XS.aload X103.here hx rfl (hb hby at_228) rfl rfl kc_))) ?_
        show own_Ends p e below s _ _ _ (T103.setTop (mkF m 230 #[.val (.int p1), .val (.int p2), .val (.int p3), .val (.int p4), .val (.int p5), .val (.int (1 : Int32)), .val (.int nc), .val (.int va), .val (.int vr), .val (.int vs), .val (.int vb), .val (.int vc), .val (.ref b76), .val (.int (1 : Int32)), .val (.int ((own_sp va) + (own_sp vb)))] [(.ref b76)]))
        obtain ⟨cq104, kq104, q104a, q104b, q104c⟩ := isOf hZ rfl E_b76_103
        obtain ⟨_, _, ⟨T104, L104, k104, n104⟩, -, X104, ⟨Lc104, hQ104, l104, y104, z104⟩, st104⟩ := X103.virtualBack hx (y := (⟨"com/example/kinds_by_value/kindsbyvalue/NameSet", "hashCode", "()I"⟩ : MethodName)) (z := (⟨"com/example/kinds_by_value/kindsbyvalue/NameSet", "hashCode", "()I"⟩ : MethodName)) hown (mvT hZ (hw _ (List.mem_of_getElem? (i := 13) rfl))) (mvT hZ (hw _ (List.mem_of_getElem? (i := 14) rfl))) (notFace_of_selects (args := #[]) (mvT hZ (hw _ (List.mem_of_getElem? (i := 16) rfl)))) (mvT hZ (hw _ (List.mem_of_getElem? (i := 16) rfl))) (mvT hZ (hw _ (List.mem_of_getElem? (i := 15) rfl))) (by decide) (backOf (W := 0) (rmH1 l Z a0 hw [] b76  T103.heap n0 Zs103 fE103) hZ (hw _ (List.mem_of_getElem? (i := 17) rfl)) (hw _ (List.mem_of_getElem? (i := 3) rfl)) (by decide) (by decide)) q104a q104c (g := (mkF m 230 #[.val (.int p1), .val (.int p2), .val (.int p3), .val (.int p4), .val (.int p5), .val (.int (1 : Int32)), .val (.int nc), .val (.int va), .val (.int vr), .val (.int vs), .val (.int vb), .val (.int vc), .val (.ref b76), .val (.int (1 : Int32)), .val (.int ((own_sp va) + (own_sp vb)))] [(.ref b76)])) rfl (by rw [hml]; rfl) (Steps.refl _) (argsL := []) (rest := []) (lenOf pd_6 rfl) rfl (by show 2 * 0 + _ ≤ _; exact Nat.le_of_eq rfl) (hb hby at_230) (fun _ _ => ⟨rfl, rfl, (by decide : 2 + 0 ≤ _), (by decide : 21 + 0 ≤ _)⟩)
        dsimp only [Pt.U, Pt.locs, Pt.cells, Pt.slots] at X104 l104 y104 z104 st104 hQ104
        subst l104 y104 z104
        obtain ⟨rfl, N104q, e104⟩ := hQ104
        have e104h : T104.heap = T103.heap := e104
        have N104 := Fr.app N103 N104q
        refine own_step (fun _ kc_ => st104.trans kc_) ?_
        show own_Ends p e below s _ _ _ (T104.setTop (mkF m 233 #[.val (.int p1), .val (.int p2), .val (.int p3), .val (.int p4), .val (.int p5), .val (.int (1 : Int32)), .val (.int nc), .val (.int va), .val (.int vr), .val (.int vs), .val (.int vb), .val (.int vc), .val (.ref b76), .val (.int (1 : Int32)), .val (.int ((own_sp va) + (own_sp vb)))] [(.int (-1 : Int32))]))
        refine own_step (fun _ kc_ => XS.iconst X104.here hx rfl (hb hby at_233) (XS.icmpNo X104.here hx rfl (hb hby at_234) rfl (XT.ii_ne_f (rfl : (-1 : Int32) = (-1 : Int32))) (XS.iconst X104.here hx rfl (hb hby at_237) (XS.goto X104.here hx rfl (pc0 := 238) (pc' := 242) rfl (hb hby at_238) (by decide) (by decide) (XS.istore X104.here hx rfl (hb hby at_242) rfl (l' := #[.val (.int p1), .val (.int p2), .val (.int p3), .val (.int p4), .val (.int p5), .val (.int (1 : Int32)), .val (.int nc), .val (.int va), .val (.int vr), .val (.int vs), .val (.int vb), .val (.int vc), .val (.ref b76), .val (.int (1 : Int32)), .val (.int ((own_sp va) + (own_sp vb)))]) rfl (XS.iload X104.here hx rfl (hb hby at_244) rfl kc_)))))) ?_
        show own_Ends p e below s _ _ _ (T104.setTop (mkF m 246 #[.val (.int p1), .val (.int p2), .val (.int p3), .val (.int p4), .val (.int p5), .val (.int (1 : Int32)), .val (.int nc), .val (.int va), .val (.int vr), .val (.int vs), .val (.int vb), .val (.int vc), .val (.ref b76), .val (.int (1 : Int32)), .val (.int ((own_sp va) + (own_sp vb)))] [(.int (1 : Int32))]))
        exact own_retN X104 hx (t := .boolean) hret (by simp) hlk (hb hby at_246) (by decide) (by decide) rfl ⟨rfl, N104⟩
      · show own_Ends p e below s _ _ _ (T92.setTop (mkF m 142 #[.val (.int p1), .val (.int p2), .val (.int p3), .val (.int p4), .val (.int p5), .val (.int (1 : Int32)), .val (.int nc), .val (.int va), .val (.int vr), .val (.int vs), .val (.int vb), .val (.int vc), .val (.ref b76), .val (.int (1 : Int32)), .unset] [(.ref b76)]))
        refine own_step (fun _ kc_ => XS.iload X92.here hx rfl (hb hby at_142) rfl kc_) ?_
        show own_Ends p e below s _ _ _ (T92.setTop (mkF m 144 #[.val (.int p1), .val (.int p2), .val (.int p3), .val (.int p4), .val (.int p5), .val (.int (1 : Int32)), .val (.int nc), .val (.int va), .val (.int vr), .val (.int vs), .val (.int vb), .val (.int vc), .val (.ref b76), .val (.int (1 : Int32)), .unset] [(.int vc), (.ref b76)]))
        have hin : vc ∉ [vb, va] := by simp [hca, hcb]
        obtain ⟨k3, hkk3, hfk3, hmk3⟩ := own_miss G92 (Nat.le_of_ble_eq_true rfl) hin (own_ne1 oc.1)
        have hrk3 : ¬ own_pr ts92 vc k3 = vc := fun q => own_ne1 oc.1 (q.symm.trans hmk3)
        obtain ⟨cq105, kq105, q105a, q105b, q105c⟩ := isOf hZ rfl E_b76_92
        obtain ⟨_, _, ⟨T105, L105, k105, n105⟩, -, X105, ⟨Lc105, hQ105, l105, y105, z105⟩, st105⟩ := X92.virtualBack hx (y := (⟨"com/example/kinds_by_value/kindsbyvalue/NameSet", "add", "(I)Z"⟩ : MethodName)) (z := (⟨"com/example/kinds_by_value/kindsbyvalue/NameSet", "add", "(I)Z"⟩ : MethodName)) hown (mvT hZ (hw _ (List.mem_of_getElem? (i := 22) rfl))) (mvT hZ (hw _ (List.mem_of_getElem? (i := 23) rfl))) (notFace_of_selects (args := #[]) (mvT hZ (hw _ (List.mem_of_getElem? (i := 25) rfl)))) (mvT hZ (hw _ (List.mem_of_getElem? (i := 25) rfl))) (mvT hZ (hw _ (List.mem_of_getElem? (i := 24) rfl))) (by decide) (backOf (W := 0) (rmAT0 l Z a0 hw [] b76 vc ta ts92 k3 (((0 : Int32) + (1 : Int32)) + (1 : Int32)) (((0 : Int32) + own_sp va) + own_sp vb) T92.heap n0 Zs92 E_b76_92 fE92 fB92 fT92 fA92 G92.1 hfk3 hrk3 (by decide) fS92 fH92 n0_b76 n0ar noar) hZ (hw _ (List.mem_of_getElem? (i := 26) rfl)) (hw _ (List.mem_of_getElem? (i := 3) rfl)) (by decide) (by decide)) q105a q105c (g := (mkF m 144 #[.val (.int p1), .val (.int p2), .val (.int p3), .val (.int p4), .val (.int p5), .val (.int (1 : Int32)), .val (.int nc), .val (.int va), .val (.int vr), .val (.int vs), .val (.int vb), .val (.int vc), .val (.ref b76), .val (.int (1 : Int32)), .unset] [(.int vc), (.ref b76)])) rfl (by rw [hml]; rfl) (Steps.refl _) (argsL := [(.int vc)]) (rest := []) (lenOf pd_4 rfl) rfl (by show 2 * 0 + _ ≤ _; exact Nat.le_of_eq rfl) (hb hby at_144) (fun _ _ => ⟨rfl, rfl, (by decide : 2 + 0 ≤ _), (by decide : 21 + 0 ≤ _)⟩)
        dsimp only [Pt.U, Pt.locs, Pt.cells, Pt.slots] at X105 l105 y105 z105 st105 hQ105
        subst l105 y105 z105
        obtain ⟨rfl, N105q, K105k, fE105, fS105, fH105, fB105, fT105, fA105⟩ := hQ105
        have E_b76_105 := (E_b76_92).keep K105k
        have Zs105 := Nat.le_trans Zs92 K105k.1
        have N105 := Fr.app N92 N105q
        refine own_step (fun _ kc_ => st105.trans kc_) ?_
        show own_Ends p e below s _ _ _ (T105.setTop (mkF m 147 #[.val (.int p1), .val (.int p2), .val (.int p3), .val (.int p4), .val (.int p5), .val (.int (1 : Int32)), .val (.int nc), .val (.int va), .val (.int vr), .val (.int vs), .val (.int vb), .val (.int vc), .val (.ref b76), .val (.int (1 : Int32)), .unset] [(.int (1 : Int32))]))
        refine own_step (fun _ kc_ => XS.pop X105.here hx rfl (hb hby at_147) rfl rfl (XS.iload X105.here hx rfl (hb hby at_148) rfl kc_)) ?_
        show own_Ends p e below s _ _ _ (T105.setTop (mkF m 150 #[.val (.int p1), .val (.int p2), .val (.int p3), .val (.int p4), .val (.int p5), .val (.int (1 : Int32)), .val (.int nc), .val (.int va), .val (.int vr), .val (.int vs), .val (.int vb), .val (.int vc), .val (.ref b76), .val (.int (1 : Int32)), .unset] [(.int va)]))
        obtain ⟨_, _, ⟨T106, L106, k106, n106⟩, -, X106, ⟨Lc106, hQ106, l106, y106, z106⟩, st106⟩ := Jvm.LawKit.callS X105 hx (y := (⟨"com/example/kinds_by_value/kindsbyvalue/Hashes", "spread", "(I)I"⟩ : MethodName)) hown (mvT hZ (hw _ (List.mem_of_getElem? (i := 39) rfl))) (mvT hZ (hw _ (List.mem_of_getElem? (i := 35) rfl))) (mvT hZ (hw _ (List.mem_of_getElem? (i := 36) rfl))) (mvT hZ (hw _ (List.mem_of_getElem? (i := 37) rfl))) (by decide) (backOf (W := 0) (rm6 l Z a0 hw [] va  T105.heap n0 Zs105 ) hZ (hw _ (List.mem_of_getElem? (i := 37) rfl)) (hw _ (List.mem_of_getElem? (i := 36) rfl)) (by decide) (by decide)) (g := (mkF m 150 #[.val (.int p1), .val (.int p2), .val (.int p3), .val (.int p4), .val (.int p5), .val (.int (1 : Int32)), .val (.int nc), .val (.int va), .val (.int vr), .val (.int vs), .val (.int vb), .val (.int vc), .val (.ref b76), .val (.int (1 : Int32)), .unset] [(.int va)])) rfl (by rw [hml]; rfl) (argsL := [(.int va)]) (rest := []) (lenOf pd_3 rfl) rfl (by show 2 * 0 + _ ≤ _; exact Nat.le_of_eq rfl) (hb hby at_150) (fun _ _ => ⟨rfl, rfl, (by decide : 2 + 0 ≤ _), (by decide : 21 + 0 ≤ _)⟩)
        dsimp only [Pt.U, Pt.locs, Pt.cells, Pt.slots] at X106 l106 y106 z106 st106 hQ106
        subst l106 y106 z106
        obtain ⟨rfl, N106q, e106⟩ := hQ106
        have e106h : T106.heap = T105.heap := e106
        have N106 := Fr.app N105 N106q
        refine own_step (fun _ kc_ => st106 _ kc_) ?_
        show own_Ends p e below s _ _ _ (T106.setTop (mkF m 153 #[.val (.int p1), .val (.int p2), .val (.int p3), .val (.int p4), .val (.int p5), .val (.int (1 : Int32)), .val (.int nc), .val (.int va), .val (.int vr), .val (.int vs), .val (.int vb), .val (.int vc), .val (.ref b76), .val (.int (1 : Int32)), .unset] [(.int (own_sp va))]))
        refine own_step (fun _ kc_ => XS.istore X106.here hx rfl (hb hby at_153) rfl (l' := #[.val (.int p1), .val (.int p2), .val (.int p3), .val (.int p4), .val (.int p5), .val (.int (1 : Int32)), .val (.int nc), .val (.int va), .val (.int vr), .val (.int vs), .val (.int vb), .val (.int vc), .val (.ref b76), .val (.int (1 : Int32)), .val (.int (own_sp va))]) rfl (XS.iload X106.here hx rfl (hb hby at_155) rfl (XS.iload X106.here hx rfl (hb hby at_157) rfl (XS.icmpNo X106.here hx rfl (hb hby at_159) rfl (XT.ii_eq_f (hba : ¬ (vb = va))) (XS.iload X106.here hx rfl (hb hby at_162) rfl (XS.iload X106.here hx rfl (hb hby at_164) rfl kc_)))))) ?_
        show own_Ends p e below s _ _ _ (T106.setTop (mkF m 166 #[.val (.int p1), .val (.int p2), .val (.int p3), .val (.int p4), .val (.int p5), .val (.int (1 : Int32)), .val (.int nc), .val (.int va), .val (.int vr), .val (.int vs), .val (.int vb), .val (.int vc), .val (.ref b76), .val (.int (1 : Int32)), .val (.int (own_sp va))] [(.int vb), (.int (own_sp va))]))
        obtain ⟨_, _, ⟨T107, L107, k107, n107⟩, -, X107, ⟨Lc107, hQ107, l107, y107, z107⟩, st107⟩ := Jvm.LawKit.callS X106 hx (y := (⟨"com/example/kinds_by_value/kindsbyvalue/Hashes", "spread", "(I)I"⟩ : MethodName)) hown (mvT hZ (hw _ (List.mem_of_getElem? (i := 39) rfl))) (mvT hZ (hw _ (List.mem_of_getElem? (i := 35) rfl))) (mvT hZ (hw _ (List.mem_of_getElem? (i := 36) rfl))) (mvT hZ (hw _ (List.mem_of_getElem? (i := 37) rfl))) (by decide) (backOf (W := 1) (rm6 l Z a0 hw [] vb  T105.heap n0 Zs105 ) hZ (hw _ (List.mem_of_getElem? (i := 37) rfl)) (hw _ (List.mem_of_getElem? (i := 36) rfl)) (by decide) (by decide)) (g := (mkF m 166 #[.val (.int p1), .val (.int p2), .val (.int p3), .val (.int p4), .val (.int p5), .val (.int (1 : Int32)), .val (.int nc), .val (.int va), .val (.int vr), .val (.int vs), .val (.int vb), .val (.int vc), .val (.ref b76), .val (.int (1 : Int32)), .val (.int (own_sp va))] [(.int vb), (.int (own_sp va))])) rfl (by rw [hml]; rfl) (argsL := [(.int vb)]) (rest := [(.int (own_sp va))]) (lenOf pd_3 rfl) rfl (by show 2 * 0 + _ ≤ _; exact Nat.le_of_eq rfl) (hb hby at_166) (fun _ _ => ⟨rfl, e106h, (by decide : 2 + 0 ≤ _), (by decide : 21 + 0 ≤ _)⟩)
        dsimp only [Pt.U, Pt.locs, Pt.cells, Pt.slots] at X107 l107 y107 z107 st107 hQ107
        subst l107 y107 z107
        obtain ⟨rfl, N107q, e107⟩ := hQ107
        have e107h : T107.heap = T105.heap := e107
        have N107 := Fr.app N106 N107q
        refine own_step (fun _ kc_ => st107 _ kc_) ?_
        show own_Ends p e below s _ _ _ (T107.setTop (mkF m 169 #[.val (.int p1), .val (.int p2), .val (.int p3), .val (.int p4), .val (.int p5), .val (.int (1 : Int32)), .val (.int nc), .val (.int va), .val (.int vr), .val (.int vs), .val (.int vb), .val (.int vc), .val (.ref b76), .val (.int (1 : Int32)), .val (.int (own_sp va))] [(.int (own_sp vb)), (.int (own_sp va))]))
        refine own_step (fun _ kc_ => XS.iadd X107.here hx rfl (hb hby at_169) rfl (XS.istore X107.here hx rfl (hb hby at_170) rfl (l' := #[.val (.int p1), .val (.int p2), .val (.int p3), .val (.int p4), .val (.int p5), .val (.int (1 : Int32)), .val (.int nc), .val (.int va), .val (.int vr), .val (.int vs), .val (.int vb), .val (.int vc), .val (.ref b76), .val (.int (1 : Int32)), .val (.int ((own_sp va) + (own_sp vb)))]) rfl (XS.iload X107.here hx rfl (hb hby at_172) rfl (XS.iload X107.here hx rfl (hb hby at_174) rfl (XS.icmpNo X107.here hx rfl (hb hby at_176) rfl (XT.ii_eq_f (hca : ¬ (vc = va))) (XS.iload X107.here hx rfl (hb hby at_179) rfl (XS.iload X107.here hx rfl (hb hby at_181) rfl (XS.icmpNo X107.here hx rfl (hb hby at_183) rfl (XT.ii_eq_f (hcb : ¬ (vc = vb))) kc_)))))))) ?_
        show own_Ends p e below s _ _ _ (T107.setTop (mkF m 186 #[.val (.int p1), .val (.int p2), .val (.int p3), .val (.int p4), .val (.int p5), .val (.int (1 : Int32)), .val (.int nc), .val (.int va), .val (.int vr), .val (.int vs), .val (.int vb), .val (.int vc), .val (.ref b76), .val (.int (1 : Int32)), .val (.int ((own_sp va) + (own_sp vb)))] []))
        refine own_step (fun _ kc_ => XS.iload X107.here hx rfl (hb hby at_186) rfl (XS.iload X107.here hx rfl (hb hby at_188) rfl kc_)) ?_
        show own_Ends p e below s _ _ _ (T107.setTop (mkF m 190 #[.val (.int p1), .val (.int p2), .val (.int p3), .val (.int p4), .val (.int p5), .val (.int (1 : Int32)), .val (.int nc), .val (.int va), .val (.int vr), .val (.int vs), .val (.int vb), .val (.int vc), .val (.ref b76), .val (.int (1 : Int32)), .val (.int ((own_sp va) + (own_sp vb)))] [(.int vc), (.int ((own_sp va) + (own_sp vb)))]))
        obtain ⟨_, _, ⟨T108, L108, k108, n108⟩, -, X108, ⟨Lc108, hQ108, l108, y108, z108⟩, st108⟩ := Jvm.LawKit.callS X107 hx (y := (⟨"com/example/kinds_by_value/kindsbyvalue/Hashes", "spread", "(I)I"⟩ : MethodName)) hown (mvT hZ (hw _ (List.mem_of_getElem? (i := 39) rfl))) (mvT hZ (hw _ (List.mem_of_getElem? (i := 35) rfl))) (mvT hZ (hw _ (List.mem_of_getElem? (i := 36) rfl))) (mvT hZ (hw _ (List.mem_of_getElem? (i := 37) rfl))) (by decide) (backOf (W := 1) (rm6 l Z a0 hw [] vc  T105.heap n0 Zs105 ) hZ (hw _ (List.mem_of_getElem? (i := 37) rfl)) (hw _ (List.mem_of_getElem? (i := 36) rfl)) (by decide) (by decide)) (g := (mkF m 190 #[.val (.int p1), .val (.int p2), .val (.int p3), .val (.int p4), .val (.int p5), .val (.int (1 : Int32)), .val (.int nc), .val (.int va), .val (.int vr), .val (.int vs), .val (.int vb), .val (.int vc), .val (.ref b76), .val (.int (1 : Int32)), .val (.int ((own_sp va) + (own_sp vb)))] [(.int vc), (.int ((own_sp va) + (own_sp vb)))])) rfl (by rw [hml]; rfl) (argsL := [(.int vc)]) (rest := [(.int ((own_sp va) + (own_sp vb)))]) (lenOf pd_3 rfl) rfl (by show 2 * 0 + _ ≤ _; exact Nat.le_of_eq rfl) (hb hby at_190) (fun _ _ => ⟨rfl, e107h, (by decide : 2 + 0 ≤ _), (by decide : 21 + 0 ≤ _)⟩)
        dsimp only [Pt.U, Pt.locs, Pt.cells, Pt.slots] at X108 l108 y108 z108 st108 hQ108
        subst l108 y108 z108
        obtain ⟨rfl, N108q, e108⟩ := hQ108
        have e108h : T108.heap = T105.heap := e108
        have N108 := Fr.app N107 N108q
        refine own_step (fun _ kc_ => st108 _ kc_) ?_
        show own_Ends p e below s _ _ _ (T108.setTop (mkF m 193 #[.val (.int p1), .val (.int p2), .val (.int p3), .val (.int p4), .val (.int p5), .val (.int (1 : Int32)), .val (.int nc), .val (.int va), .val (.int vr), .val (.int vs), .val (.int vb), .val (.int vc), .val (.ref b76), .val (.int (1 : Int32)), .val (.int ((own_sp va) + (own_sp vb)))] [(.int (own_sp vc)), (.int ((own_sp va) + (own_sp vb)))]))
        refine own_step (fun _ kc_ => XS.iadd X108.here hx rfl (hb hby at_193) rfl (XS.istore X108.here hx rfl (hb hby at_194) rfl (l' := #[.val (.int p1), .val (.int p2), .val (.int p3), .val (.int p4), .val (.int p5), .val (.int (1 : Int32)), .val (.int nc), .val (.int va), .val (.int vr), .val (.int vs), .val (.int vb), .val (.int vc), .val (.ref b76), .val (.int (1 : Int32)), .val (.int (((own_sp va) + (own_sp vb)) + (own_sp vc)))]) rfl (XS.iload X108.here hx rfl (hb hby at_196) rfl (XS.ifNo X108.here hx rfl (hb hby at_198) rfl (XT.i0_eq_f (by decide : ¬ ((1 : Int32) = 0))) (XS.aload X108.here hx rfl (hb hby at_201) rfl rfl kc_))))) ?_
        show own_Ends p e below s _ _ _ (T108.setTop (mkF m 203 #[.val (.int p1), .val (.int p2), .val (.int p3), .val (.int p4), .val (.int p5), .val (.int (1 : Int32)), .val (.int nc), .val (.int va), .val (.int vr), .val (.int vs), .val (.int vb), .val (.int vc), .val (.ref b76), .val (.int (1 : Int32)), .val (.int (((own_sp va) + (own_sp vb)) + (own_sp vc)))] [(.ref b76)]))
        obtain ⟨cq109, kq109, q109a, q109b, q109c⟩ := isOf hZ e108h E_b76_105
        obtain ⟨_, _, ⟨T109, L109, k109, n109⟩, -, X109, ⟨Lc109, hQ109, l109, y109, z109⟩, st109⟩ := X108.virtualBack hx (y := (⟨"com/example/kinds_by_value/kindsbyvalue/NameSet", "hashCode", "()I"⟩ : MethodName)) (z := (⟨"com/example/kinds_by_value/kindsbyvalue/NameSet", "hashCode", "()I"⟩ : MethodName)) hown (mvT hZ (hw _ (List.mem_of_getElem? (i := 13) rfl))) (mvT hZ (hw _ (List.mem_of_getElem? (i := 14) rfl))) (notFace_of_selects (args := #[]) (mvT hZ (hw _ (List.mem_of_getElem? (i := 16) rfl)))) (mvT hZ (hw _ (List.mem_of_getElem? (i := 16) rfl))) (mvT hZ (hw _ (List.mem_of_getElem? (i := 15) rfl))) (by decide) (backOf (W := 0) (rmH0 l Z a0 hw [] b76 ((((0 : Int32) + own_sp va) + own_sp vb) + own_sp vc) T105.heap n0 Zs105 fE105 fH105) hZ (hw _ (List.mem_of_getElem? (i := 17) rfl)) (hw _ (List.mem_of_getElem? (i := 3) rfl)) (by decide) (by decide)) q109a q109c (g := (mkF m 203 #[.val (.int p1), .val (.int p2), .val (.int p3), .val (.int p4), .val (.int p5), .val (.int (1 : Int32)), .val (.int nc), .val (.int va), .val (.int vr), .val (.int vs), .val (.int vb), .val (.int vc), .val (.ref b76), .val (.int (1 : Int32)), .val (.int (((own_sp va) + (own_sp vb)) + (own_sp vc)))] [(.ref b76)])) rfl (by rw [hml]; rfl) (Steps.refl _) (argsL := []) (rest := []) (lenOf pd_6 rfl) rfl (by show 2 * 0 + _ ≤ _; exact Nat.le_of_eq rfl) (hb hby at_203) (fun _ _ => ⟨rfl, e108h, (by decide : 2 + 0 ≤ _), (by decide : 21 + 0 ≤ _)⟩)
        dsimp only [Pt.U, Pt.locs, Pt.cells, Pt.slots] at X109 l109 y109 z109 st109 hQ109
        subst l109 y109 z109
        obtain ⟨rfl, N109q, e109⟩ := hQ109
        have e109h : T109.heap = T105.heap := e109
        have N109 := Fr.app N108 N109q
        refine own_step (fun _ kc_ => st109.trans kc_) ?_
        show own_Ends p e below s _ _ _ (T109.setTop (mkF m 206 #[.val (.int p1), .val (.int p2), .val (.int p3), .val (.int p4), .val (.int p5), .val (.int (1 : Int32)), .val (.int nc), .val (.int va), .val (.int vr), .val (.int vs), .val (.int vb), .val (.int vc), .val (.ref b76), .val (.int (1 : Int32)), .val (.int (((own_sp va) + (own_sp vb)) + (own_sp vc)))] [(.int ((((0 : Int32) + own_sp va) + own_sp vb) + own_sp vc))]))
        refine own_step (fun _ kc_ => XS.iload X109.here hx rfl (hb hby at_206) rfl (XS.icmpNo X109.here hx rfl (hb hby at_208) rfl (XT.ii_ne_f (by simp only [Int32.zero_add] : ((((0 : Int32) + own_sp va) + own_sp vb) + own_sp vc) = (((own_sp va) + (own_sp vb)) + (own_sp vc)))) (XS.iconst X109.here hx rfl (hb hby at_211) (XS.goto X109.here hx rfl (pc0 := 212) (pc' := 216) rfl (hb hby at_212) (by decide) (by decide) (XS.istore X109.here hx rfl (hb hby at_216) rfl (l' := #[.val (.int p1), .val (.int p2), .val (.int p3), .val (.int p4), .val (.int p5), .val (.int (1 : Int32)), .val (.int nc), .val (.int va), .val (.int vr), .val (.int vs), .val (.int vb), .val (.int vc), .val (.ref b76), .val (.int (1 : Int32)), .val (.int (((own_sp va) + (own_sp vb)) + (own_sp vc)))]) rfl (XS.aload X109.here hx rfl (hb hby at_218) rfl rfl kc_)))))) ?_
        show own_Ends p e below s _ _ _ (T109.setTop (mkF m 220 #[.val (.int p1), .val (.int p2), .val (.int p3), .val (.int p4), .val (.int p5), .val (.int (1 : Int32)), .val (.int nc), .val (.int va), .val (.int vr), .val (.int vs), .val (.int vb), .val (.int vc), .val (.ref b76), .val (.int (1 : Int32)), .val (.int (((own_sp va) + (own_sp vb)) + (own_sp vc)))] [(.ref b76)]))
        obtain ⟨cq110, kq110, q110a, q110b, q110c⟩ := isOf hZ e109h E_b76_105
        obtain ⟨_, _, ⟨T110, L110, k110, n110⟩, -, X110, ⟨Lc110, hQ110, l110, y110, z110⟩, st110⟩ := X109.virtualBack hx (y := (⟨"com/example/kinds_by_value/kindsbyvalue/NameSet", "addEveryName", "()V"⟩ : MethodName)) (z := (⟨"com/example/kinds_by_value/kindsbyvalue/NameSet", "addEveryName", "()V"⟩ : MethodName)) hown (mvT hZ (hw _ (List.mem_of_getElem? (i := 40) rfl))) (mvT hZ (hw _ (List.mem_of_getElem? (i := 41) rfl))) (notFace_of_selects (args := #[]) (mvT hZ (hw _ (List.mem_of_getElem? (i := 43) rfl)))) (mvT hZ (hw _ (List.mem_of_getElem? (i := 43) rfl))) (mvT hZ (hw _ (List.mem_of_getElem? (i := 42) rfl))) (by decide) (backOf (W := 0) (rm7 l Z a0 hw [] b76 (.int (0 : Int32)) .null (.ref ta) (.int ((((0 : Int32) + (1 : Int32)) + (1 : Int32)) + (1 : Int32))) (.int ((((0 : Int32) + own_sp va) + own_sp vb) + own_sp vc)) T105.heap n0 Zs105 E_b76_105 fE105 fB105 fT105 fS105 fH105 n0_b76) hZ (hw _ (List.mem_of_getElem? (i := 44) rfl)) (hw _ (List.mem_of_getElem? (i := 3) rfl)) (by decide) (by decide)) q110a q110c (g := (mkF m 220 #[.val (.int p1), .val (.int p2), .val (.int p3), .val (.int p4), .val (.int p5), .val (.int (1 : Int32)), .val (.int nc), .val (.int va), .val (.int vr), .val (.int vs), .val (.int vb), .val (.int vc), .val (.ref b76), .val (.int (1 : Int32)), .val (.int (((own_sp va) + (own_sp vb)) + (own_sp vc)))] [(.ref b76)])) rfl (by rw [hml]; rfl) (Steps.refl _) (argsL := []) (rest := []) (lenOf pd_1 rfl) rfl (by show 2 * 0 + _ ≤ _; exact Nat.le_of_eq rfl) (hb hby at_220) (fun _ _ => ⟨rfl, e109h, (by decide : 2 + 0 ≤ _), (by decide : 21 + 0 ≤ _)⟩)
        dsimp only [Pt.U, Pt.locs, Pt.cells, Pt.slots] at X110 l110 y110 z110 st110 hQ110
        subst l110 y110 z110
        obtain ⟨rfl, N110q, K110k, fE110⟩ := hQ110
        have E_b76_110 := (E_b76_105).keep K110k
        have A_ta_110 := (fA105).keep K110k (ninS (Ne.symm noar) nin0)
        have Zs110 := Nat.le_trans Zs105 K110k.1
        have N110 := Fr.app N109 N110q
        refine own_step (fun _ kc_ => st110.trans kc_) ?_
        show own_Ends p e below s _ _ _ (T110.setTop (mkF m 223 #[.val (.int p1), .val (.int p2), .val (.int p3), .val (.int p4), .val (.int p5), .val (.int (1 : Int32)), .val (.int nc), .val (.int va), .val (.int vr), .val (.int vs), .val (.int vb), .val (.int vc), .val (.ref b76), .val (.int (1 : Int32)), .val (.int (((own_sp va) + (own_sp vb)) + (own_sp vc)))] []))
        refine own_step (fun _ kc_ => XS.iload X110.here hx rfl (hb hby at_223) rfl (XS.ifNo X110.here hx rfl (hb hby at_225) rfl (XT.i0_eq_f (by decide : ¬ ((1 : Int32) = 0))) (XS.aload X110.here hx rfl (hb hby at_228) rfl rfl kc_))) ?_
        show own_Ends p e below s _ _ _ (T110.setTop (mkF m 230 #[.val (.int p1), .val (.int p2), .val (.int p3), .val (.int p4), .val (.int p5), .val (.int (1 : Int32)), .val (.int nc), .val (.int va), .val (.int vr), .val (.int vs), .val (.int vb), .val (.int vc), .val (.ref b76), .val (.int (1 : Int32)), .val (.int (((own_sp va) + (own_sp vb)) + (own_sp vc)))] [(.ref b76)]))
        obtain ⟨cq111, kq111, q111a, q111b, q111c⟩ := isOf hZ rfl E_b76_110
        obtain ⟨_, _, ⟨T111, L111, k111, n111⟩, -, X111, ⟨Lc111, hQ111, l111, y111, z111⟩, st111⟩ := X110.virtualBack hx (y := (⟨"com/example/kinds_by_value/kindsbyvalue/NameSet", "hashCode", "()I"⟩ : MethodName)) (z := (⟨"com/example/kinds_by_value/kindsbyvalue/NameSet", "hashCode", "()I"⟩ : MethodName)) hown (mvT hZ (hw _ (List.mem_of_getElem? (i := 13) rfl))) (mvT hZ (hw _ (List.mem_of_getElem? (i := 14) rfl))) (notFace_of_selects (args := #[]) (mvT hZ (hw _ (List.mem_of_getElem? (i := 16) rfl)))) (mvT hZ (hw _ (List.mem_of_getElem? (i := 16) rfl))) (mvT hZ (hw _ (List.mem_of_getElem? (i := 15) rfl))) (by decide) (backOf (W := 0) (rmH1 l Z a0 hw [] b76  T110.heap n0 Zs110 fE110) hZ (hw _ (List.mem_of_getElem? (i := 17) rfl)) (hw _ (List.mem_of_getElem? (i := 3) rfl)) (by decide) (by decide)) q111a q111c (g := (mkF m 230 #[.val (.int p1), .val (.int p2), .val (.int p3), .val (.int p4), .val (.int p5), .val (.int (1 : Int32)), .val (.int nc), .val (.int va), .val (.int vr), .val (.int vs), .val (.int vb), .val (.int vc), .val (.ref b76), .val (.int (1 : Int32)), .val (.int (((own_sp va) + (own_sp vb)) + (own_sp vc)))] [(.ref b76)])) rfl (by rw [hml]; rfl) (Steps.refl _) (argsL := []) (rest := []) (lenOf pd_6 rfl) rfl (by show 2 * 0 + _ ≤ _; exact Nat.le_of_eq rfl) (hb hby at_230) (fun _ _ => ⟨rfl, rfl, (by decide : 2 + 0 ≤ _), (by decide : 21 + 0 ≤ _)⟩)
        dsimp only [Pt.U, Pt.locs, Pt.cells, Pt.slots] at X111 l111 y111 z111 st111 hQ111
        subst l111 y111 z111
        obtain ⟨rfl, N111q, e111⟩ := hQ111
        have e111h : T111.heap = T110.heap := e111
        have N111 := Fr.app N110 N111q
        refine own_step (fun _ kc_ => st111.trans kc_) ?_
        show own_Ends p e below s _ _ _ (T111.setTop (mkF m 233 #[.val (.int p1), .val (.int p2), .val (.int p3), .val (.int p4), .val (.int p5), .val (.int (1 : Int32)), .val (.int nc), .val (.int va), .val (.int vr), .val (.int vs), .val (.int vb), .val (.int vc), .val (.ref b76), .val (.int (1 : Int32)), .val (.int (((own_sp va) + (own_sp vb)) + (own_sp vc)))] [(.int (-1 : Int32))]))
        refine own_step (fun _ kc_ => XS.iconst X111.here hx rfl (hb hby at_233) (XS.icmpNo X111.here hx rfl (hb hby at_234) rfl (XT.ii_ne_f (rfl : (-1 : Int32) = (-1 : Int32))) (XS.iconst X111.here hx rfl (hb hby at_237) (XS.goto X111.here hx rfl (pc0 := 238) (pc' := 242) rfl (hb hby at_238) (by decide) (by decide) (XS.istore X111.here hx rfl (hb hby at_242) rfl (l' := #[.val (.int p1), .val (.int p2), .val (.int p3), .val (.int p4), .val (.int p5), .val (.int (1 : Int32)), .val (.int nc), .val (.int va), .val (.int vr), .val (.int vs), .val (.int vb), .val (.int vc), .val (.ref b76), .val (.int (1 : Int32)), .val (.int (((own_sp va) + (own_sp vb)) + (own_sp vc)))]) rfl (XS.iload X111.here hx rfl (hb hby at_244) rfl kc_)))))) ?_
        show own_Ends p e below s _ _ _ (T111.setTop (mkF m 246 #[.val (.int p1), .val (.int p2), .val (.int p3), .val (.int p4), .val (.int p5), .val (.int (1 : Int32)), .val (.int nc), .val (.int va), .val (.int vr), .val (.int vs), .val (.int vb), .val (.int vc), .val (.ref b76), .val (.int (1 : Int32)), .val (.int (((own_sp va) + (own_sp vb)) + (own_sp vc)))] [(.int (1 : Int32))]))
        exact own_retN X111 hx (t := .boolean) hret (by simp) hlk (hb hby at_246) (by decide) (by decide) rfl ⟨rfl, N111⟩
set_option maxRecDepth 65536 in
set_option maxHeartbeats 40000000 in
theorem seg_B {p : Program} {l : Launch} {e : Env} {s : State} {m : MethodId} {below : List Frame} {meth : Method} {c : Code} {Z : State} {a0 : Array Value} (hw : ∀ d ∈ tables_1, d.before a0 Z = true) (hZ : Z.Warmed39 s.vm) (hx : p.tables.exec = Jvm.exec) (hby : c.code = code) (hlk : meth.locks = false) (hret : meth.sig.returnType = some .boolean) (hml : c.maxLocals = 15) (hown : s.vm.findClass "com/example/kinds_by_value/kindsbyvalue/NameSetHashCodePinLaw" = some m.cls) (p1 : Int32) (p2 : Int32) (p3 : Int32) (p4 : Int32) (p5 : Int32)  {h0 : Heap} {n0 : Nat} {nc va vr vs vb vc : Int32} (hnc : 1 ≤ nc.toInt ∧ nc.toInt ≤ 512) (oa : own_ok nc va) (ob : own_ok nc vb) (oc : own_ok nc vc) {h : Heap}  :
    ∀ {T : State} {locs : List Loc} {cells slots : Nat} (X : Stand p l e room_1 s m #[(.int p1), (.int p2), (.int p3), (.int p4), (.int p5)] below meth c T locs cells slots) (e0 : T.heap = h) (N0 : Fr n0 locs) (Z0 : n0 ≤ h.size) (hcs : cells = 0) (hsl : slots = 0), own_Ends p e below s 16 128 (Q0 Z p1 p2 p3 p4 p5  h0 n0) (T.setTop (mkF m 98 #[.val (.int p1), .val (.int p2), .val (.int p3), .val (.int p4), .val (.int p5), .val (.int (0 : Int32)), .val (.int nc), .val (.int va), .val (.int vr), .val (.int vs), .val (.int vb), .val (.int vc), .unset, .unset, .unset] [])) := by
  intro T locs cells slots X e0 N0 Z0 hcs hsl
  subst hcs hsl
  show own_Ends p e below s _ _ _ (T.setTop (mkF m 98 #[.val (.int p1), .val (.int p2), .val (.int p3), .val (.int p4), .val (.int p5), .val (.int (0 : Int32)), .val (.int nc), .val (.int va), .val (.int vr), .val (.int vs), .val (.int vb), .val (.int vc), .unset, .unset, .unset] []))
  obtain ⟨T112, h112, X112, e112, E112, A112, D112, -, st112⟩ := newO X hx hZ hown (hw _ (List.mem_of_getElem? (i := 1) rfl)) (hw _ (List.mem_of_getElem? (i := 2) rfl)) (hw _ (List.mem_of_getElem? (i := 3) rfl)) e0 (g := (mkF m 98 #[.val (.int p1), .val (.int p2), .val (.int p3), .val (.int p4), .val (.int p5), .val (.int (0 : Int32)), .val (.int nc), .val (.int va), .val (.int vr), .val (.int vs), .val (.int vb), .val (.int vc), .unset, .unset, .unset] [])) rfl (hb hby at_98) (by decide : 0 + 1 ≤ _) (by decide : 0 + 5 ≤ _)
  obtain ⟨b112, g112⟩ : ∃ z, z = h.size := ⟨_, rfl⟩
  rw [← g112] at A112 D112 st112
  have n0_b112 : n0 ≤ b112 := Nat.le_trans Z0 (Nat.le_of_eq g112.symm)
  have Zs112 := Nat.le_trans Z0 E112.1
  have F_bits_b112 : Fld Z h112 b112 "com/example/kinds_by_value/kindsbyvalue/NameSet" "bits" "[J" .null := D112 (Or.inl (hw _ (List.mem_of_getElem? (i := 12) rfl))) (ty := (.array .long)) (by decide)
  have F_everyName_b112 : Fld Z h112 b112 "com/example/kinds_by_value/kindsbyvalue/NameSet" "everyName" "Z" (.int (0 : Int32)) := D112 (Or.inl (hw _ (List.mem_of_getElem? (i := 19) rfl))) (ty := .boolean) (by decide)
  have F_hash_b112 : Fld Z h112 b112 "com/example/kinds_by_value/kindsbyvalue/NameSet" "hash" "I" (.int (0 : Int32)) := D112 (Or.inl (hw _ (List.mem_of_getElem? (i := 21) rfl))) (ty := .int) (by decide)
  have F_size_b112 : Fld Z h112 b112 "com/example/kinds_by_value/kindsbyvalue/NameSet" "size" "I" (.int (0 : Int32)) := D112 (Or.inl (hw _ (List.mem_of_getElem? (i := 33) rfl))) (ty := .int) (by decide)
  have F_table_b112 : Fld Z h112 b112 "com/example/kinds_by_value/kindsbyvalue/NameSet" "table" "[I" .null := D112 (Or.inl (hw _ (List.mem_of_getElem? (i := 46) rfl))) (ty := (.array .int)) (by decide)
  refine own_step (fun _ kc_ => st112 _ kc_) ?_
  show own_Ends p e below s _ _ _ (T112.setTop (mkF m 101 #[.val (.int p1), .val (.int p2), .val (.int p3), .val (.int p4), .val (.int p5), .val (.int (0 : Int32)), .val (.int nc), .val (.int va), .val (.int vr), .val (.int vs), .val (.int vb), .val (.int vc), .unset, .unset, .unset] [(.ref b112)]))
  refine own_step (fun _ kc_ => XS.dup X112.here hx rfl (hb hby at_101) rfl rfl (XS.iload X112.here hx rfl (hb hby at_102) rfl kc_)) ?_
  show own_Ends p e below s _ _ _ (T112.setTop (mkF m 104 #[.val (.int p1), .val (.int p2), .val (.int p3), .val (.int p4), .val (.int p5), .val (.int (0 : Int32)), .val (.int nc), .val (.int va), .val (.int vr), .val (.int vs), .val (.int vb), .val (.int vc), .unset, .unset, .unset] [(.int nc), (.ref b112), (.ref b112)]))
  obtain ⟨_, _, ⟨T113, L113, k113, n113⟩, -, X113, ⟨Lc113, hQ113, l113, y113, z113⟩, st113⟩ := X112.specialBack hx (y := (⟨"com/example/kinds_by_value/kindsbyvalue/NameSet", "<init>", "(I)V"⟩ : MethodName)) rfl hown (mvT hZ (hw _ (List.mem_of_getElem? (i := 4) rfl))) (mvT hZ (hw _ (List.mem_of_getElem? (i := 5) rfl))) (mvT hZ (hw _ (List.mem_of_getElem? (i := 6) rfl))) (by decide) (backOf (W := 1) (rmIB l Z a0 hw [] b112 nc nc.toInt.toNat h112 n0 Zs112 A112 F_everyName_b112 F_bits_b112 F_table_b112 F_size_b112 F_hash_b112 n0_b112 (by omega) (by omega)) hZ (hw _ (List.mem_of_getElem? (i := 6) rfl)) (hw _ (List.mem_of_getElem? (i := 3) rfl)) (by decide) (by decide)) (g := (mkF m 104 #[.val (.int p1), .val (.int p2), .val (.int p3), .val (.int p4), .val (.int p5), .val (.int (0 : Int32)), .val (.int nc), .val (.int va), .val (.int vr), .val (.int vs), .val (.int vb), .val (.int vc), .unset, .unset, .unset] [(.int nc), (.ref b112), (.ref b112)])) rfl (by rw [hml]; rfl) (Steps.refl _) (a := b112) (argsL := [(.int nc)]) (rest := [(.ref b112)]) (lenOf pd_5 rfl) rfl (by show 2 * 0 + _ ≤ _; exact Nat.le_of_eq rfl) (hb hby at_104) (fun _ _ => ⟨rfl, e112, (by decide : 1 + 1 ≤ _), (by decide : 5 + 8 ≤ _)⟩)
  dsimp only [Pt.U, Pt.locs, Pt.cells, Pt.slots] at X113 l113 y113 z113 st113 hQ113
  subst l113 y113 z113
  obtain ⟨rfl, N113q, K113k, fE113, fS113, fH113, ba, har, noar, fB113, fT113, fA113⟩ := hQ113
  have n0ar : n0 ≤ ba := Nat.le_trans Zs112 har
  have E_b112_113 := (A112).keep K113k
  have Zs113 := Nat.le_trans Zs112 K113k.1
  have N113 := Fr.app N0 N113q
  refine own_step (fun _ kc_ => st113.trans kc_) ?_
  show own_Ends p e below s _ _ _ (T113.setTop (mkF m 107 #[.val (.int p1), .val (.int p2), .val (.int p3), .val (.int p4), .val (.int p5), .val (.int (0 : Int32)), .val (.int nc), .val (.int va), .val (.int vr), .val (.int vs), .val (.int vb), .val (.int vc), .unset, .unset, .unset] [(.ref b112)]))
  refine own_step (fun _ kc_ => XS.astore X113.here hx rfl (hb hby at_107) rfl rfl (l' := #[.val (.int p1), .val (.int p2), .val (.int p3), .val (.int p4), .val (.int p5), .val (.int (0 : Int32)), .val (.int nc), .val (.int va), .val (.int vr), .val (.int vs), .val (.int vb), .val (.int vc), .val (.ref b112), .unset, .unset]) rfl (XS.aload X113.here hx rfl (hb hby at_109) rfl rfl kc_)) ?_
  show own_Ends p e below s _ _ _ (T113.setTop (mkF m 111 #[.val (.int p1), .val (.int p2), .val (.int p3), .val (.int p4), .val (.int p5), .val (.int (0 : Int32)), .val (.int nc), .val (.int va), .val (.int vr), .val (.int vs), .val (.int vb), .val (.int vc), .val (.ref b112), .unset, .unset] [(.ref b112)]))
  obtain ⟨cq114, kq114, q114a, q114b, q114c⟩ := isOf hZ rfl E_b112_113
  obtain ⟨_, _, ⟨T114, L114, k114, n114⟩, -, X114, ⟨Lc114, hQ114, l114, y114, z114⟩, st114⟩ := X113.virtualBack hx (y := (⟨"com/example/kinds_by_value/kindsbyvalue/NameSet", "hashCode", "()I"⟩ : MethodName)) (z := (⟨"com/example/kinds_by_value/kindsbyvalue/NameSet", "hashCode", "()I"⟩ : MethodName)) hown (mvT hZ (hw _ (List.mem_of_getElem? (i := 13) rfl))) (mvT hZ (hw _ (List.mem_of_getElem? (i := 14) rfl))) (notFace_of_selects (args := #[]) (mvT hZ (hw _ (List.mem_of_getElem? (i := 16) rfl)))) (mvT hZ (hw _ (List.mem_of_getElem? (i := 16) rfl))) (mvT hZ (hw _ (List.mem_of_getElem? (i := 15) rfl))) (by decide) (backOf (W := 0) (rmH0 l Z a0 hw [] b112 (0 : Int32) T113.heap n0 Zs113 fE113 fH113) hZ (hw _ (List.mem_of_getElem? (i := 17) rfl)) (hw _ (List.mem_of_getElem? (i := 3) rfl)) (by decide) (by decide)) q114a q114c (g := (mkF m 111 #[.val (.int p1), .val (.int p2), .val (.int p3), .val (.int p4), .val (.int p5), .val (.int (0 : Int32)), .val (.int nc), .val (.int va), .val (.int vr), .val (.int vs), .val (.int vb), .val (.int vc), .val (.ref b112), .unset, .unset] [(.ref b112)])) rfl (by rw [hml]; rfl) (Steps.refl _) (argsL := []) (rest := []) (lenOf pd_6 rfl) rfl (by show 2 * 0 + _ ≤ _; exact Nat.le_of_eq rfl) (hb hby at_111) (fun _ _ => ⟨rfl, rfl, (by decide : 2 + 0 ≤ _), (by decide : 13 + 0 ≤ _)⟩)
  dsimp only [Pt.U, Pt.locs, Pt.cells, Pt.slots] at X114 l114 y114 z114 st114 hQ114
  subst l114 y114 z114
  obtain ⟨rfl, N114q, e114⟩ := hQ114
  have e114h : T114.heap = T113.heap := e114
  have N114 := Fr.app N113 N114q
  refine own_step (fun _ kc_ => st114.trans kc_) ?_
  show own_Ends p e below s _ _ _ (T114.setTop (mkF m 114 #[.val (.int p1), .val (.int p2), .val (.int p3), .val (.int p4), .val (.int p5), .val (.int (0 : Int32)), .val (.int nc), .val (.int va), .val (.int vr), .val (.int vs), .val (.int vb), .val (.int vc), .val (.ref b112), .unset, .unset] [(.int (0 : Int32))]))
  refine own_step (fun _ kc_ => XS.ifNo X114.here hx rfl (hb hby at_114) rfl (XT.i0_ne_f (by decide : (0 : Int32) = 0)) (XS.iconst X114.here hx rfl (hb hby at_117) (XS.goto X114.here hx rfl (pc0 := 118) (pc' := 122) rfl (hb hby at_118) (by decide) (by decide) (XS.istore X114.here hx rfl (hb hby at_122) rfl (l' := #[.val (.int p1), .val (.int p2), .val (.int p3), .val (.int p4), .val (.int p5), .val (.int (0 : Int32)), .val (.int nc), .val (.int va), .val (.int vr), .val (.int vs), .val (.int vb), .val (.int vc), .val (.ref b112), .val (.int (1 : Int32)), .unset]) rfl (XS.aload X114.here hx rfl (hb hby at_124) rfl rfl (XS.iload X114.here hx rfl (hb hby at_126) rfl kc_)))))) ?_
  show own_Ends p e below s _ _ _ (T114.setTop (mkF m 128 #[.val (.int p1), .val (.int p2), .val (.int p3), .val (.int p4), .val (.int p5), .val (.int (0 : Int32)), .val (.int nc), .val (.int va), .val (.int vr), .val (.int vs), .val (.int vb), .val (.int vc), .val (.ref b112), .val (.int (1 : Int32)), .unset] [(.int va), (.ref b112)]))
  have hin : va ∉ ([] : List Int32) := by simp
  have hrk1 := own_bout (own_bgood0 nc.toInt.toNat) oa hin
  obtain ⟨cq115, kq115, q115a, q115b, q115c⟩ := isOf hZ e114h E_b112_113
  obtain ⟨_, _, ⟨T115, L115, k115, n115⟩, -, X115, ⟨Lc115, hQ115, l115, y115, z115⟩, st115⟩ := X114.virtualBack hx (y := (⟨"com/example/kinds_by_value/kindsbyvalue/NameSet", "add", "(I)Z"⟩ : MethodName)) (z := (⟨"com/example/kinds_by_value/kindsbyvalue/NameSet", "add", "(I)Z"⟩ : MethodName)) hown (mvT hZ (hw _ (List.mem_of_getElem? (i := 22) rfl))) (mvT hZ (hw _ (List.mem_of_getElem? (i := 23) rfl))) (notFace_of_selects (args := #[]) (mvT hZ (hw _ (List.mem_of_getElem? (i := 25) rfl)))) (mvT hZ (hw _ (List.mem_of_getElem? (i := 25) rfl))) (mvT hZ (hw _ (List.mem_of_getElem? (i := 24) rfl))) (by decide) (backOf (W := 0) (rmAB0 l Z a0 hw [] b112 va ba (List.replicate ((nc.toInt.toNat + 63) / 64) (0 : Int64)) (0 : Int32) (0 : Int32) T113.heap n0 Zs113 E_b112_113 fE113 fB113 fA113 oa.1 (own_ql (own_bgood0 nc.toInt.toNat) oa) hrk1 fT113 fS113 fH113 n0_b112 n0ar noar) hZ (hw _ (List.mem_of_getElem? (i := 26) rfl)) (hw _ (List.mem_of_getElem? (i := 3) rfl)) (by decide) (by decide)) q115a q115c (g := (mkF m 128 #[.val (.int p1), .val (.int p2), .val (.int p3), .val (.int p4), .val (.int p5), .val (.int (0 : Int32)), .val (.int nc), .val (.int va), .val (.int vr), .val (.int vs), .val (.int vb), .val (.int vc), .val (.ref b112), .val (.int (1 : Int32)), .unset] [(.int va), (.ref b112)])) rfl (by rw [hml]; rfl) (Steps.refl _) (argsL := [(.int va)]) (rest := []) (lenOf pd_4 rfl) rfl (by show 2 * 0 + _ ≤ _; exact Nat.le_of_eq rfl) (hb hby at_128) (fun _ _ => ⟨rfl, e114h, (by decide : 2 + 0 ≤ _), (by decide : 13 + 0 ≤ _)⟩)
  dsimp only [Pt.U, Pt.locs, Pt.cells, Pt.slots] at X115 l115 y115 z115 st115 hQ115
  subst l115 y115 z115
  obtain ⟨rfl, N115q, K115k, fE115, fS115, fH115, fB115, fT115, fA115⟩ := hQ115
  have E_b112_115 := (E_b112_113).keep K115k
  have Zs115 := Nat.le_trans Zs113 K115k.1
  have G115 : own_bgood ((List.replicate ((nc.toInt.toNat + 63) / 64) (0 : Int64)).set (own_q va) ((List.replicate ((nc.toInt.toNat + 63) / 64) (0 : Int64)).getD (own_q va) 0 ||| own_w va)) nc.toInt.toNat (va :: ([] : List Int32)) := own_bins' (own_bgood0 nc.toInt.toNat) oa
  generalize ((List.replicate ((nc.toInt.toNat + 63) / 64) (0 : Int64)).set (own_q va) ((List.replicate ((nc.toInt.toNat + 63) / 64) (0 : Int64)).getD (own_q va) 0 ||| own_w va)) = ts115 at fA115 G115
  have N115 := Fr.app N114 N115q
  refine own_step (fun _ kc_ => st115.trans kc_) ?_
  show own_Ends p e below s _ _ _ (T115.setTop (mkF m 131 #[.val (.int p1), .val (.int p2), .val (.int p3), .val (.int p4), .val (.int p5), .val (.int (0 : Int32)), .val (.int nc), .val (.int va), .val (.int vr), .val (.int vs), .val (.int vb), .val (.int vc), .val (.ref b112), .val (.int (1 : Int32)), .unset] [(.int (1 : Int32))]))
  refine own_step (fun _ kc_ => XS.pop X115.here hx rfl (hb hby at_131) rfl rfl kc_) ?_
  show own_Ends p e below s _ _ _ (T115.setTop (mkF m 132 #[.val (.int p1), .val (.int p2), .val (.int p3), .val (.int p4), .val (.int p5), .val (.int (0 : Int32)), .val (.int nc), .val (.int va), .val (.int vr), .val (.int vs), .val (.int vb), .val (.int vc), .val (.ref b112), .val (.int (1 : Int32)), .unset] []))
  by_cases hba : vb = va
  · show own_Ends p e below s _ _ _ (T115.setTop (mkF m 132 #[.val (.int p1), .val (.int p2), .val (.int p3), .val (.int p4), .val (.int p5), .val (.int (0 : Int32)), .val (.int nc), .val (.int va), .val (.int vr), .val (.int vs), .val (.int vb), .val (.int vc), .val (.ref b112), .val (.int (1 : Int32)), .unset] []))
    refine own_step (fun _ kc_ => XS.aload X115.here hx rfl (hb hby at_132) rfl rfl (XS.iload X115.here hx rfl (hb hby at_134) rfl kc_)) ?_
    show own_Ends p e below s _ _ _ (T115.setTop (mkF m 136 #[.val (.int p1), .val (.int p2), .val (.int p3), .val (.int p4), .val (.int p5), .val (.int (0 : Int32)), .val (.int nc), .val (.int va), .val (.int vr), .val (.int vs), .val (.int vb), .val (.int vc), .val (.ref b112), .val (.int (1 : Int32)), .unset] [(.int vb), (.ref b112)]))
    have hin : vb ∈ [va] := by simp [hba]
    have hrk2 := own_bin G115 ob hin
    obtain ⟨cq116, kq116, q116a, q116b, q116c⟩ := isOf hZ rfl E_b112_115
    obtain ⟨_, _, ⟨T116, L116, k116, n116⟩, -, X116, ⟨Lc116, hQ116, l116, y116, z116⟩, st116⟩ := X115.virtualBack hx (y := (⟨"com/example/kinds_by_value/kindsbyvalue/NameSet", "add", "(I)Z"⟩ : MethodName)) (z := (⟨"com/example/kinds_by_value/kindsbyvalue/NameSet", "add", "(I)Z"⟩ : MethodName)) hown (mvT hZ (hw _ (List.mem_of_getElem? (i := 22) rfl))) (mvT hZ (hw _ (List.mem_of_getElem? (i := 23) rfl))) (notFace_of_selects (args := #[]) (mvT hZ (hw _ (List.mem_of_getElem? (i := 25) rfl)))) (mvT hZ (hw _ (List.mem_of_getElem? (i := 25) rfl))) (mvT hZ (hw _ (List.mem_of_getElem? (i := 24) rfl))) (by decide) (backOf (W := 0) (rmAB1 l Z a0 hw [] b112 vb ba ts115 T115.heap n0 Zs115 E_b112_115 fE115 fB115 fA115 ob.1 (own_ql G115 ob) hrk2) hZ (hw _ (List.mem_of_getElem? (i := 26) rfl)) (hw _ (List.mem_of_getElem? (i := 3) rfl)) (by decide) (by decide)) q116a q116c (g := (mkF m 136 #[.val (.int p1), .val (.int p2), .val (.int p3), .val (.int p4), .val (.int p5), .val (.int (0 : Int32)), .val (.int nc), .val (.int va), .val (.int vr), .val (.int vs), .val (.int vb), .val (.int vc), .val (.ref b112), .val (.int (1 : Int32)), .unset] [(.int vb), (.ref b112)])) rfl (by rw [hml]; rfl) (Steps.refl _) (argsL := [(.int vb)]) (rest := []) (lenOf pd_4 rfl) rfl (by show 2 * 0 + _ ≤ _; exact Nat.le_of_eq rfl) (hb hby at_136) (fun _ _ => ⟨rfl, rfl, (by decide : 2 + 0 ≤ _), (by decide : 13 + 0 ≤ _)⟩)
    dsimp only [Pt.U, Pt.locs, Pt.cells, Pt.slots] at X116 l116 y116 z116 st116 hQ116
    subst l116 y116 z116
    obtain ⟨rfl, N116q, e116⟩ := hQ116
    have e116h : T116.heap = T115.heap := e116
    have N116 := Fr.app N115 N116q
    refine own_step (fun _ kc_ => st116.trans kc_) ?_
    show own_Ends p e below s _ _ _ (T116.setTop (mkF m 139 #[.val (.int p1), .val (.int p2), .val (.int p3), .val (.int p4), .val (.int p5), .val (.int (0 : Int32)), .val (.int nc), .val (.int va), .val (.int vr), .val (.int vs), .val (.int vb), .val (.int vc), .val (.ref b112), .val (.int (1 : Int32)), .unset] [(.int (0 : Int32))]))
    refine own_step (fun _ kc_ => XS.pop X116.here hx rfl (hb hby at_139) rfl rfl kc_) ?_
    show own_Ends p e below s _ _ _ (T116.setTop (mkF m 140 #[.val (.int p1), .val (.int p2), .val (.int p3), .val (.int p4), .val (.int p5), .val (.int (0 : Int32)), .val (.int nc), .val (.int va), .val (.int vr), .val (.int vs), .val (.int vb), .val (.int vc), .val (.ref b112), .val (.int (1 : Int32)), .unset] []))
    by_cases hca : vc = va
    · show own_Ends p e below s _ _ _ (T116.setTop (mkF m 140 #[.val (.int p1), .val (.int p2), .val (.int p3), .val (.int p4), .val (.int p5), .val (.int (0 : Int32)), .val (.int nc), .val (.int va), .val (.int vr), .val (.int vs), .val (.int vb), .val (.int vc), .val (.ref b112), .val (.int (1 : Int32)), .unset] []))
      refine own_step (fun _ kc_ => XS.aload X116.here hx rfl (hb hby at_140) rfl rfl (XS.iload X116.here hx rfl (hb hby at_142) rfl kc_)) ?_
      show own_Ends p e below s _ _ _ (T116.setTop (mkF m 144 #[.val (.int p1), .val (.int p2), .val (.int p3), .val (.int p4), .val (.int p5), .val (.int (0 : Int32)), .val (.int nc), .val (.int va), .val (.int vr), .val (.int vs), .val (.int vb), .val (.int vc), .val (.ref b112), .val (.int (1 : Int32)), .unset] [(.int vc), (.ref b112)]))
      have hin : vc ∈ [va] := by simp [hca]
      have hrk3 := own_bin G115 oc hin
      obtain ⟨cq117, kq117, q117a, q117b, q117c⟩ := isOf hZ e116h E_b112_115
      obtain ⟨_, _, ⟨T117, L117, k117, n117⟩, -, X117, ⟨Lc117, hQ117, l117, y117, z117⟩, st117⟩ := X116.virtualBack hx (y := (⟨"com/example/kinds_by_value/kindsbyvalue/NameSet", "add", "(I)Z"⟩ : MethodName)) (z := (⟨"com/example/kinds_by_value/kindsbyvalue/NameSet", "add", "(I)Z"⟩ : MethodName)) hown (mvT hZ (hw _ (List.mem_of_getElem? (i := 22) rfl))) (mvT hZ (hw _ (List.mem_of_getElem? (i := 23) rfl))) (notFace_of_selects (args := #[]) (mvT hZ (hw _ (List.mem_of_getElem? (i := 25) rfl)))) (mvT hZ (hw _ (List.mem_of_getElem? (i := 25) rfl))) (mvT hZ (hw _ (List.mem_of_getElem? (i := 24) rfl))) (by decide) (backOf (W := 0) (rmAB1 l Z a0 hw [] b112 vc ba ts115 T115.heap n0 Zs115 E_b112_115 fE115 fB115 fA115 oc.1 (own_ql G115 oc) hrk3) hZ (hw _ (List.mem_of_getElem? (i := 26) rfl)) (hw _ (List.mem_of_getElem? (i := 3) rfl)) (by decide) (by decide)) q117a q117c (g := (mkF m 144 #[.val (.int p1), .val (.int p2), .val (.int p3), .val (.int p4), .val (.int p5), .val (.int (0 : Int32)), .val (.int nc), .val (.int va), .val (.int vr), .val (.int vs), .val (.int vb), .val (.int vc), .val (.ref b112), .val (.int (1 : Int32)), .unset] [(.int vc), (.ref b112)])) rfl (by rw [hml]; rfl) (Steps.refl _) (argsL := [(.int vc)]) (rest := []) (lenOf pd_4 rfl) rfl (by show 2 * 0 + _ ≤ _; exact Nat.le_of_eq rfl) (hb hby at_144) (fun _ _ => ⟨rfl, e116h, (by decide : 2 + 0 ≤ _), (by decide : 13 + 0 ≤ _)⟩)
      dsimp only [Pt.U, Pt.locs, Pt.cells, Pt.slots] at X117 l117 y117 z117 st117 hQ117
      subst l117 y117 z117
      obtain ⟨rfl, N117q, e117⟩ := hQ117
      have e117h : T117.heap = T115.heap := e117
      have N117 := Fr.app N116 N117q
      refine own_step (fun _ kc_ => st117.trans kc_) ?_
      show own_Ends p e below s _ _ _ (T117.setTop (mkF m 147 #[.val (.int p1), .val (.int p2), .val (.int p3), .val (.int p4), .val (.int p5), .val (.int (0 : Int32)), .val (.int nc), .val (.int va), .val (.int vr), .val (.int vs), .val (.int vb), .val (.int vc), .val (.ref b112), .val (.int (1 : Int32)), .unset] [(.int (0 : Int32))]))
      refine own_step (fun _ kc_ => XS.pop X117.here hx rfl (hb hby at_147) rfl rfl (XS.iload X117.here hx rfl (hb hby at_148) rfl kc_)) ?_
      show own_Ends p e below s _ _ _ (T117.setTop (mkF m 150 #[.val (.int p1), .val (.int p2), .val (.int p3), .val (.int p4), .val (.int p5), .val (.int (0 : Int32)), .val (.int nc), .val (.int va), .val (.int vr), .val (.int vs), .val (.int vb), .val (.int vc), .val (.ref b112), .val (.int (1 : Int32)), .unset] [(.int va)]))
      obtain ⟨_, _, ⟨T118, L118, k118, n118⟩, -, X118, ⟨Lc118, hQ118, l118, y118, z118⟩, st118⟩ := Jvm.LawKit.callS X117 hx (y := (⟨"com/example/kinds_by_value/kindsbyvalue/Hashes", "spread", "(I)I"⟩ : MethodName)) hown (mvT hZ (hw _ (List.mem_of_getElem? (i := 39) rfl))) (mvT hZ (hw _ (List.mem_of_getElem? (i := 35) rfl))) (mvT hZ (hw _ (List.mem_of_getElem? (i := 36) rfl))) (mvT hZ (hw _ (List.mem_of_getElem? (i := 37) rfl))) (by decide) (backOf (W := 0) (rm6 l Z a0 hw [] va  T115.heap n0 Zs115 ) hZ (hw _ (List.mem_of_getElem? (i := 37) rfl)) (hw _ (List.mem_of_getElem? (i := 36) rfl)) (by decide) (by decide)) (g := (mkF m 150 #[.val (.int p1), .val (.int p2), .val (.int p3), .val (.int p4), .val (.int p5), .val (.int (0 : Int32)), .val (.int nc), .val (.int va), .val (.int vr), .val (.int vs), .val (.int vb), .val (.int vc), .val (.ref b112), .val (.int (1 : Int32)), .unset] [(.int va)])) rfl (by rw [hml]; rfl) (argsL := [(.int va)]) (rest := []) (lenOf pd_3 rfl) rfl (by show 2 * 0 + _ ≤ _; exact Nat.le_of_eq rfl) (hb hby at_150) (fun _ _ => ⟨rfl, e117h, (by decide : 2 + 0 ≤ _), (by decide : 13 + 0 ≤ _)⟩)
      dsimp only [Pt.U, Pt.locs, Pt.cells, Pt.slots] at X118 l118 y118 z118 st118 hQ118
      subst l118 y118 z118
      obtain ⟨rfl, N118q, e118⟩ := hQ118
      have e118h : T118.heap = T115.heap := e118
      have N118 := Fr.app N117 N118q
      refine own_step (fun _ kc_ => st118 _ kc_) ?_
      show own_Ends p e below s _ _ _ (T118.setTop (mkF m 153 #[.val (.int p1), .val (.int p2), .val (.int p3), .val (.int p4), .val (.int p5), .val (.int (0 : Int32)), .val (.int nc), .val (.int va), .val (.int vr), .val (.int vs), .val (.int vb), .val (.int vc), .val (.ref b112), .val (.int (1 : Int32)), .unset] [(.int (own_sp va))]))
      refine own_step (fun _ kc_ => XS.istore X118.here hx rfl (hb hby at_153) rfl (l' := #[.val (.int p1), .val (.int p2), .val (.int p3), .val (.int p4), .val (.int p5), .val (.int (0 : Int32)), .val (.int nc), .val (.int va), .val (.int vr), .val (.int vs), .val (.int vb), .val (.int vc), .val (.ref b112), .val (.int (1 : Int32)), .val (.int (own_sp va))]) rfl (XS.iload X118.here hx rfl (hb hby at_155) rfl (XS.iload X118.here hx rfl (hb hby at_157) rfl (XS.icmpYes X118.here hx rfl (pc0 := 159) (pc' := 172) rfl (hb hby at_159) rfl (XT.ii_eq_t (hba : vb = va)) (by decide) (by decide) (XS.iload X118.here hx rfl (hb hby at_172) rfl (XS.iload X118.here hx rfl (hb hby at_174) rfl (XS.icmpYes X118.here hx rfl (pc0 := 176) (pc' := 196) rfl (hb hby at_176) rfl (XT.ii_eq_t (hca : vc = va)) (by decide) (by decide) (XS.iload X118.here hx rfl (hb hby at_196) rfl kc_)))))))) ?_
      show own_Ends p e below s _ _ _ (T118.setTop (mkF m 198 #[.val (.int p1), .val (.int p2), .val (.int p3), .val (.int p4), .val (.int p5), .val (.int (0 : Int32)), .val (.int nc), .val (.int va), .val (.int vr), .val (.int vs), .val (.int vb), .val (.int vc), .val (.ref b112), .val (.int (1 : Int32)), .val (.int (own_sp va))] [(.int (1 : Int32))]))
      refine own_step (fun _ kc_ => XS.ifNo X118.here hx rfl (hb hby at_198) rfl (XT.i0_eq_f (by decide : ¬ ((1 : Int32) = 0))) (XS.aload X118.here hx rfl (hb hby at_201) rfl rfl kc_)) ?_
      show own_Ends p e below s _ _ _ (T118.setTop (mkF m 203 #[.val (.int p1), .val (.int p2), .val (.int p3), .val (.int p4), .val (.int p5), .val (.int (0 : Int32)), .val (.int nc), .val (.int va), .val (.int vr), .val (.int vs), .val (.int vb), .val (.int vc), .val (.ref b112), .val (.int (1 : Int32)), .val (.int (own_sp va))] [(.ref b112)]))
      obtain ⟨cq119, kq119, q119a, q119b, q119c⟩ := isOf hZ e118h E_b112_115
      obtain ⟨_, _, ⟨T119, L119, k119, n119⟩, -, X119, ⟨Lc119, hQ119, l119, y119, z119⟩, st119⟩ := X118.virtualBack hx (y := (⟨"com/example/kinds_by_value/kindsbyvalue/NameSet", "hashCode", "()I"⟩ : MethodName)) (z := (⟨"com/example/kinds_by_value/kindsbyvalue/NameSet", "hashCode", "()I"⟩ : MethodName)) hown (mvT hZ (hw _ (List.mem_of_getElem? (i := 13) rfl))) (mvT hZ (hw _ (List.mem_of_getElem? (i := 14) rfl))) (notFace_of_selects (args := #[]) (mvT hZ (hw _ (List.mem_of_getElem? (i := 16) rfl)))) (mvT hZ (hw _ (List.mem_of_getElem? (i := 16) rfl))) (mvT hZ (hw _ (List.mem_of_getElem? (i := 15) rfl))) (by decide) (backOf (W := 0) (rmH0 l Z a0 hw [] b112 ((0 : Int32) + own_sp va) T115.heap n0 Zs115 fE115 fH115) hZ (hw _ (List.mem_of_getElem? (i := 17) rfl)) (hw _ (List.mem_of_getElem? (i := 3) rfl)) (by decide) (by decide)) q119a q119c (g := (mkF m 203 #[.val (.int p1), .val (.int p2), .val (.int p3), .val (.int p4), .val (.int p5), .val (.int (0 : Int32)), .val (.int nc), .val (.int va), .val (.int vr), .val (.int vs), .val (.int vb), .val (.int vc), .val (.ref b112), .val (.int (1 : Int32)), .val (.int (own_sp va))] [(.ref b112)])) rfl (by rw [hml]; rfl) (Steps.refl _) (argsL := []) (rest := []) (lenOf pd_6 rfl) rfl (by show 2 * 0 + _ ≤ _; exact Nat.le_of_eq rfl) (hb hby at_203) (fun _ _ => ⟨rfl, e118h, (by decide : 2 + 0 ≤ _), (by decide : 13 + 0 ≤ _)⟩)
      dsimp only [Pt.U, Pt.locs, Pt.cells, Pt.slots] at X119 l119 y119 z119 st119 hQ119
      subst l119 y119 z119
      obtain ⟨rfl, N119q, e119⟩ := hQ119
      have e119h : T119.heap = T115.heap := e119
      have N119 := Fr.app N118 N119q
      refine own_step (fun _ kc_ => st119.trans kc_) ?_
      show own_Ends p e below s _ _ _ (T119.setTop (mkF m 206 #[.val (.int p1), .val (.int p2), .val (.int p3), .val (.int p4), .val (.int p5), .val (.int (0 : Int32)), .val (.int nc), .val (.int va), .val (.int vr), .val (.int vs), .val (.int vb), .val (.int vc), .val (.ref b112), .val (.int (1 : Int32)), .val (.int (own_sp va))] [(.int ((0 : Int32) + own_sp va))]))
      refine own_step (fun _ kc_ => XS.iload X119.here hx rfl (hb hby at_206) rfl (XS.icmpNo X119.here hx rfl (hb hby at_208) rfl (XT.ii_ne_f (by simp only [Int32.zero_add] : ((0 : Int32) + own_sp va) = (own_sp va))) (XS.iconst X119.here hx rfl (hb hby at_211) (XS.goto X119.here hx rfl (pc0 := 212) (pc' := 216) rfl (hb hby at_212) (by decide) (by decide) (XS.istore X119.here hx rfl (hb hby at_216) rfl (l' := #[.val (.int p1), .val (.int p2), .val (.int p3), .val (.int p4), .val (.int p5), .val (.int (0 : Int32)), .val (.int nc), .val (.int va), .val (.int vr), .val (.int vs), .val (.int vb), .val (.int vc), .val (.ref b112), .val (.int (1 : Int32)), .val (.int (own_sp va))]) rfl (XS.aload X119.here hx rfl (hb hby at_218) rfl rfl kc_)))))) ?_
      show own_Ends p e below s _ _ _ (T119.setTop (mkF m 220 #[.val (.int p1), .val (.int p2), .val (.int p3), .val (.int p4), .val (.int p5), .val (.int (0 : Int32)), .val (.int nc), .val (.int va), .val (.int vr), .val (.int vs), .val (.int vb), .val (.int vc), .val (.ref b112), .val (.int (1 : Int32)), .val (.int (own_sp va))] [(.ref b112)]))
      obtain ⟨cq120, kq120, q120a, q120b, q120c⟩ := isOf hZ e119h E_b112_115
      obtain ⟨_, _, ⟨T120, L120, k120, n120⟩, -, X120, ⟨Lc120, hQ120, l120, y120, z120⟩, st120⟩ := X119.virtualBack hx (y := (⟨"com/example/kinds_by_value/kindsbyvalue/NameSet", "addEveryName", "()V"⟩ : MethodName)) (z := (⟨"com/example/kinds_by_value/kindsbyvalue/NameSet", "addEveryName", "()V"⟩ : MethodName)) hown (mvT hZ (hw _ (List.mem_of_getElem? (i := 40) rfl))) (mvT hZ (hw _ (List.mem_of_getElem? (i := 41) rfl))) (notFace_of_selects (args := #[]) (mvT hZ (hw _ (List.mem_of_getElem? (i := 43) rfl)))) (mvT hZ (hw _ (List.mem_of_getElem? (i := 43) rfl))) (mvT hZ (hw _ (List.mem_of_getElem? (i := 42) rfl))) (by decide) (backOf (W := 0) (rm7 l Z a0 hw [] b112 (.int (0 : Int32)) (.ref ba) .null (.int ((0 : Int32) + (1 : Int32))) (.int ((0 : Int32) + own_sp va)) T115.heap n0 Zs115 E_b112_115 fE115 fB115 fT115 fS115 fH115 n0_b112) hZ (hw _ (List.mem_of_getElem? (i := 44) rfl)) (hw _ (List.mem_of_getElem? (i := 3) rfl)) (by decide) (by decide)) q120a q120c (g := (mkF m 220 #[.val (.int p1), .val (.int p2), .val (.int p3), .val (.int p4), .val (.int p5), .val (.int (0 : Int32)), .val (.int nc), .val (.int va), .val (.int vr), .val (.int vs), .val (.int vb), .val (.int vc), .val (.ref b112), .val (.int (1 : Int32)), .val (.int (own_sp va))] [(.ref b112)])) rfl (by rw [hml]; rfl) (Steps.refl _) (argsL := []) (rest := []) (lenOf pd_1 rfl) rfl (by show 2 * 0 + _ ≤ _; exact Nat.le_of_eq rfl) (hb hby at_220) (fun _ _ => ⟨rfl, e119h, (by decide : 2 + 0 ≤ _), (by decide : 13 + 0 ≤ _)⟩)
      dsimp only [Pt.U, Pt.locs, Pt.cells, Pt.slots] at X120 l120 y120 z120 st120 hQ120
      subst l120 y120 z120
      obtain ⟨rfl, N120q, K120k, fE120⟩ := hQ120
      have E_b112_120 := (E_b112_115).keep K120k
      have A_ba_120 := (fA115).keep K120k (ninS (Ne.symm noar) nin0)
      have Zs120 := Nat.le_trans Zs115 K120k.1
      have N120 := Fr.app N119 N120q
      refine own_step (fun _ kc_ => st120.trans kc_) ?_
      show own_Ends p e below s _ _ _ (T120.setTop (mkF m 223 #[.val (.int p1), .val (.int p2), .val (.int p3), .val (.int p4), .val (.int p5), .val (.int (0 : Int32)), .val (.int nc), .val (.int va), .val (.int vr), .val (.int vs), .val (.int vb), .val (.int vc), .val (.ref b112), .val (.int (1 : Int32)), .val (.int (own_sp va))] []))
      refine own_step (fun _ kc_ => XS.iload X120.here hx rfl (hb hby at_223) rfl (XS.ifNo X120.here hx rfl (hb hby at_225) rfl (XT.i0_eq_f (by decide : ¬ ((1 : Int32) = 0))) (XS.aload X120.here hx rfl (hb hby at_228) rfl rfl kc_))) ?_
      show own_Ends p e below s _ _ _ (T120.setTop (mkF m 230 #[.val (.int p1), .val (.int p2), .val (.int p3), .val (.int p4), .val (.int p5), .val (.int (0 : Int32)), .val (.int nc), .val (.int va), .val (.int vr), .val (.int vs), .val (.int vb), .val (.int vc), .val (.ref b112), .val (.int (1 : Int32)), .val (.int (own_sp va))] [(.ref b112)]))
      obtain ⟨cq121, kq121, q121a, q121b, q121c⟩ := isOf hZ rfl E_b112_120
      obtain ⟨_, _, ⟨T121, L121, k121, n121⟩, -, X121, ⟨Lc121, hQ121, l121, y121, z121⟩, st121⟩ := X120.virtualBack hx (y := (⟨"com/example/kinds_by_value/kindsbyvalue/NameSet", "hashCode", "()I"⟩ : MethodName)) (z := (⟨"com/example/kinds_by_value/kindsbyvalue/NameSet", "hashCode", "()I"⟩ : MethodName)) hown (mvT hZ (hw _ (List.mem_of_getElem? (i := 13) rfl))) (mvT hZ (hw _ (List.mem_of_getElem? (i := 14) rfl))) (notFace_of_selects (args := #[]) (mvT hZ (hw _ (List.mem_of_getElem? (i := 16) rfl)))) (mvT hZ (hw _ (List.mem_of_getElem? (i := 16) rfl))) (mvT hZ (hw _ (List.mem_of_getElem? (i := 15) rfl))) (by decide) (backOf (W := 0) (rmH1 l Z a0 hw [] b112  T120.heap n0 Zs120 fE120) hZ (hw _ (List.mem_of_getElem? (i := 17) rfl)) (hw _ (List.mem_of_getElem? (i := 3) rfl)) (by decide) (by decide)) q121a q121c (g := (mkF m 230 #[.val (.int p1), .val (.int p2), .val (.int p3), .val (.int p4), .val (.int p5), .val (.int (0 : Int32)), .val (.int nc), .val (.int va), .val (.int vr), .val (.int vs), .val (.int vb), .val (.int vc), .val (.ref b112), .val (.int (1 : Int32)), .val (.int (own_sp va))] [(.ref b112)])) rfl (by rw [hml]; rfl) (Steps.refl _) (argsL := []) (rest := []) (lenOf pd_6 rfl) rfl (by show 2 * 0 + _ ≤ _; exact Nat.le_of_eq rfl) (hb hby at_230) (fun _ _ => ⟨rfl, rfl, (by decide : 2 + 0 ≤ _), (by decide : 13 + 0 ≤ _)⟩)
      dsimp only [Pt.U, Pt.locs, Pt.cells, Pt.slots] at X121 l121 y121 z121 st121 hQ121
      subst l121 y121 z121
      obtain ⟨rfl, N121q, e121⟩ := hQ121
      have e121h : T121.heap = T120.heap := e121
      have N121 := Fr.app N120 N121q
      refine own_step (fun _ kc_ => st121.trans kc_) ?_
      show own_Ends p e below s _ _ _ (T121.setTop (mkF m 233 #[.val (.int p1), .val (.int p2), .val (.int p3), .val (.int p4), .val (.int p5), .val (.int (0 : Int32)), .val (.int nc), .val (.int va), .val (.int vr), .val (.int vs), .val (.int vb), .val (.int vc), .val (.ref b112), .val (.int (1 : Int32)), .val (.int (own_sp va))] [(.int (-1 : Int32))]))
      refine own_step (fun _ kc_ => XS.iconst X121.here hx rfl (hb hby at_233) (XS.icmpNo X121.here hx rfl (hb hby at_234) rfl (XT.ii_ne_f (rfl : (-1 : Int32) = (-1 : Int32))) (XS.iconst X121.here hx rfl (hb hby at_237) (XS.goto X121.here hx rfl (pc0 := 238) (pc' := 242) rfl (hb hby at_238) (by decide) (by decide) (XS.istore X121.here hx rfl (hb hby at_242) rfl (l' := #[.val (.int p1), .val (.int p2), .val (.int p3), .val (.int p4), .val (.int p5), .val (.int (0 : Int32)), .val (.int nc), .val (.int va), .val (.int vr), .val (.int vs), .val (.int vb), .val (.int vc), .val (.ref b112), .val (.int (1 : Int32)), .val (.int (own_sp va))]) rfl (XS.iload X121.here hx rfl (hb hby at_244) rfl kc_)))))) ?_
      show own_Ends p e below s _ _ _ (T121.setTop (mkF m 246 #[.val (.int p1), .val (.int p2), .val (.int p3), .val (.int p4), .val (.int p5), .val (.int (0 : Int32)), .val (.int nc), .val (.int va), .val (.int vr), .val (.int vs), .val (.int vb), .val (.int vc), .val (.ref b112), .val (.int (1 : Int32)), .val (.int (own_sp va))] [(.int (1 : Int32))]))
      exact own_retN X121 hx (t := .boolean) hret (by simp) hlk (hb hby at_246) (by decide) (by decide) rfl ⟨rfl, N121⟩
    · show own_Ends p e below s _ _ _ (T116.setTop (mkF m 140 #[.val (.int p1), .val (.int p2), .val (.int p3), .val (.int p4), .val (.int p5), .val (.int (0 : Int32)), .val (.int nc), .val (.int va), .val (.int vr), .val (.int vs), .val (.int vb), .val (.int vc), .val (.ref b112), .val (.int (1 : Int32)), .unset] []))
      refine own_step (fun _ kc_ => XS.aload X116.here hx rfl (hb hby at_140) rfl rfl (XS.iload X116.here hx rfl (hb hby at_142) rfl kc_)) ?_
      show own_Ends p e below s _ _ _ (T116.setTop (mkF m 144 #[.val (.int p1), .val (.int p2), .val (.int p3), .val (.int p4), .val (.int p5), .val (.int (0 : Int32)), .val (.int nc), .val (.int va), .val (.int vr), .val (.int vs), .val (.int vb), .val (.int vc), .val (.ref b112), .val (.int (1 : Int32)), .unset] [(.int vc), (.ref b112)]))
      have hin : vc ∉ [va] := by simp [hca]
      have hrk3 := own_bout G115 oc hin
      obtain ⟨cq122, kq122, q122a, q122b, q122c⟩ := isOf hZ e116h E_b112_115
      obtain ⟨_, _, ⟨T122, L122, k122, n122⟩, -, X122, ⟨Lc122, hQ122, l122, y122, z122⟩, st122⟩ := X116.virtualBack hx (y := (⟨"com/example/kinds_by_value/kindsbyvalue/NameSet", "add", "(I)Z"⟩ : MethodName)) (z := (⟨"com/example/kinds_by_value/kindsbyvalue/NameSet", "add", "(I)Z"⟩ : MethodName)) hown (mvT hZ (hw _ (List.mem_of_getElem? (i := 22) rfl))) (mvT hZ (hw _ (List.mem_of_getElem? (i := 23) rfl))) (notFace_of_selects (args := #[]) (mvT hZ (hw _ (List.mem_of_getElem? (i := 25) rfl)))) (mvT hZ (hw _ (List.mem_of_getElem? (i := 25) rfl))) (mvT hZ (hw _ (List.mem_of_getElem? (i := 24) rfl))) (by decide) (backOf (W := 0) (rmAB0 l Z a0 hw [] b112 vc ba ts115 ((0 : Int32) + (1 : Int32)) ((0 : Int32) + own_sp va) T115.heap n0 Zs115 E_b112_115 fE115 fB115 fA115 oc.1 (own_ql G115 oc) hrk3 fT115 fS115 fH115 n0_b112 n0ar noar) hZ (hw _ (List.mem_of_getElem? (i := 26) rfl)) (hw _ (List.mem_of_getElem? (i := 3) rfl)) (by decide) (by decide)) q122a q122c (g := (mkF m 144 #[.val (.int p1), .val (.int p2), .val (.int p3), .val (.int p4), .val (.int p5), .val (.int (0 : Int32)), .val (.int nc), .val (.int va), .val (.int vr), .val (.int vs), .val (.int vb), .val (.int vc), .val (.ref b112), .val (.int (1 : Int32)), .unset] [(.int vc), (.ref b112)])) rfl (by rw [hml]; rfl) (Steps.refl _) (argsL := [(.int vc)]) (rest := []) (lenOf pd_4 rfl) rfl (by show 2 * 0 + _ ≤ _; exact Nat.le_of_eq rfl) (hb hby at_144) (fun _ _ => ⟨rfl, e116h, (by decide : 2 + 0 ≤ _), (by decide : 13 + 0 ≤ _)⟩)
      dsimp only [Pt.U, Pt.locs, Pt.cells, Pt.slots] at X122 l122 y122 z122 st122 hQ122
      subst l122 y122 z122
      obtain ⟨rfl, N122q, K122k, fE122, fS122, fH122, fB122, fT122, fA122⟩ := hQ122
      have E_b112_122 := (E_b112_115).keep K122k
      have Zs122 := Nat.le_trans Zs115 K122k.1
      have N122 := Fr.app N116 N122q
      refine own_step (fun _ kc_ => st122.trans kc_) ?_
      show own_Ends p e below s _ _ _ (T122.setTop (mkF m 147 #[.val (.int p1), .val (.int p2), .val (.int p3), .val (.int p4), .val (.int p5), .val (.int (0 : Int32)), .val (.int nc), .val (.int va), .val (.int vr), .val (.int vs), .val (.int vb), .val (.int vc), .val (.ref b112), .val (.int (1 : Int32)), .unset] [(.int (1 : Int32))]))
      refine own_step (fun _ kc_ => XS.pop X122.here hx rfl (hb hby at_147) rfl rfl (XS.iload X122.here hx rfl (hb hby at_148) rfl kc_)) ?_
      show own_Ends p e below s _ _ _ (T122.setTop (mkF m 150 #[.val (.int p1), .val (.int p2), .val (.int p3), .val (.int p4), .val (.int p5), .val (.int (0 : Int32)), .val (.int nc), .val (.int va), .val (.int vr), .val (.int vs), .val (.int vb), .val (.int vc), .val (.ref b112), .val (.int (1 : Int32)), .unset] [(.int va)]))
      obtain ⟨_, _, ⟨T123, L123, k123, n123⟩, -, X123, ⟨Lc123, hQ123, l123, y123, z123⟩, st123⟩ := Jvm.LawKit.callS X122 hx (y := (⟨"com/example/kinds_by_value/kindsbyvalue/Hashes", "spread", "(I)I"⟩ : MethodName)) hown (mvT hZ (hw _ (List.mem_of_getElem? (i := 39) rfl))) (mvT hZ (hw _ (List.mem_of_getElem? (i := 35) rfl))) (mvT hZ (hw _ (List.mem_of_getElem? (i := 36) rfl))) (mvT hZ (hw _ (List.mem_of_getElem? (i := 37) rfl))) (by decide) (backOf (W := 0) (rm6 l Z a0 hw [] va  T122.heap n0 Zs122 ) hZ (hw _ (List.mem_of_getElem? (i := 37) rfl)) (hw _ (List.mem_of_getElem? (i := 36) rfl)) (by decide) (by decide)) (g := (mkF m 150 #[.val (.int p1), .val (.int p2), .val (.int p3), .val (.int p4), .val (.int p5), .val (.int (0 : Int32)), .val (.int nc), .val (.int va), .val (.int vr), .val (.int vs), .val (.int vb), .val (.int vc), .val (.ref b112), .val (.int (1 : Int32)), .unset] [(.int va)])) rfl (by rw [hml]; rfl) (argsL := [(.int va)]) (rest := []) (lenOf pd_3 rfl) rfl (by show 2 * 0 + _ ≤ _; exact Nat.le_of_eq rfl) (hb hby at_150) (fun _ _ => ⟨rfl, rfl, (by decide : 2 + 0 ≤ _), (by decide : 13 + 0 ≤ _)⟩)
      dsimp only [Pt.U, Pt.locs, Pt.cells, Pt.slots] at X123 l123 y123 z123 st123 hQ123
      subst l123 y123 z123
      obtain ⟨rfl, N123q, e123⟩ := hQ123
      have e123h : T123.heap = T122.heap := e123
      have N123 := Fr.app N122 N123q
      refine own_step (fun _ kc_ => st123 _ kc_) ?_
      show own_Ends p e below s _ _ _ (T123.setTop (mkF m 153 #[.val (.int p1), .val (.int p2), .val (.int p3), .val (.int p4), .val (.int p5), .val (.int (0 : Int32)), .val (.int nc), .val (.int va), .val (.int vr), .val (.int vs), .val (.int vb), .val (.int vc), .val (.ref b112), .val (.int (1 : Int32)), .unset] [(.int (own_sp va))]))
      refine own_step (fun _ kc_ => XS.istore X123.here hx rfl (hb hby at_153) rfl (l' := #[.val (.int p1), .val (.int p2), .val (.int p3), .val (.int p4), .val (.int p5), .val (.int (0 : Int32)), .val (.int nc), .val (.int va), .val (.int vr), .val (.int vs), .val (.int vb), .val (.int vc), .val (.ref b112), .val (.int (1 : Int32)), .val (.int (own_sp va))]) rfl (XS.iload X123.here hx rfl (hb hby at_155) rfl (XS.iload X123.here hx rfl (hb hby at_157) rfl (XS.icmpYes X123.here hx rfl (pc0 := 159) (pc' := 172) rfl (hb hby at_159) rfl (XT.ii_eq_t (hba : vb = va)) (by decide) (by decide) (XS.iload X123.here hx rfl (hb hby at_172) rfl (XS.iload X123.here hx rfl (hb hby at_174) rfl (XS.icmpNo X123.here hx rfl (hb hby at_176) rfl (XT.ii_eq_f (hca : ¬ (vc = va))) (XS.iload X123.here hx rfl (hb hby at_179) rfl kc_)))))))) ?_
      show own_Ends p e below s _ _ _ (T123.setTop (mkF m 181 #[.val (.int p1), .val (.int p2), .val (.int p3), .val (.int p4), .val (.int p5), .val (.int (0 : Int32)), .val (.int nc), .val (.int va), .val (.int vr), .val (.int vs), .val (.int vb), .val (.int vc), .val (.ref b112), .val (.int (1 : Int32)), .val (.int (own_sp va))] [(.int vc)]))
      refine own_step (fun _ kc_ => XS.iload X123.here hx rfl (hb hby at_181) rfl (XS.icmpNo X123.here hx rfl (hb hby at_183) rfl (XT.ii_eq_f (by rw [hba]; exact hca : ¬ (vc = vb))) (XS.iload X123.here hx rfl (hb hby at_186) rfl (XS.iload X123.here hx rfl (hb hby at_188) rfl kc_)))) ?_
      show own_Ends p e below s _ _ _ (T123.setTop (mkF m 190 #[.val (.int p1), .val (.int p2), .val (.int p3), .val (.int p4), .val (.int p5), .val (.int (0 : Int32)), .val (.int nc), .val (.int va), .val (.int vr), .val (.int vs), .val (.int vb), .val (.int vc), .val (.ref b112), .val (.int (1 : Int32)), .val (.int (own_sp va))] [(.int vc), (.int (own_sp va))]))
      obtain ⟨_, _, ⟨T124, L124, k124, n124⟩, -, X124, ⟨Lc124, hQ124, l124, y124, z124⟩, st124⟩ := Jvm.LawKit.callS X123 hx (y := (⟨"com/example/kinds_by_value/kindsbyvalue/Hashes", "spread", "(I)I"⟩ : MethodName)) hown (mvT hZ (hw _ (List.mem_of_getElem? (i := 39) rfl))) (mvT hZ (hw _ (List.mem_of_getElem? (i := 35) rfl))) (mvT hZ (hw _ (List.mem_of_getElem? (i := 36) rfl))) (mvT hZ (hw _ (List.mem_of_getElem? (i := 37) rfl))) (by decide) (backOf (W := 1) (rm6 l Z a0 hw [] vc  T122.heap n0 Zs122 ) hZ (hw _ (List.mem_of_getElem? (i := 37) rfl)) (hw _ (List.mem_of_getElem? (i := 36) rfl)) (by decide) (by decide)) (g := (mkF m 190 #[.val (.int p1), .val (.int p2), .val (.int p3), .val (.int p4), .val (.int p5), .val (.int (0 : Int32)), .val (.int nc), .val (.int va), .val (.int vr), .val (.int vs), .val (.int vb), .val (.int vc), .val (.ref b112), .val (.int (1 : Int32)), .val (.int (own_sp va))] [(.int vc), (.int (own_sp va))])) rfl (by rw [hml]; rfl) (argsL := [(.int vc)]) (rest := [(.int (own_sp va))]) (lenOf pd_3 rfl) rfl (by show 2 * 0 + _ ≤ _; exact Nat.le_of_eq rfl) (hb hby at_190) (fun _ _ => ⟨rfl, e123h, (by decide : 2 + 0 ≤ _), (by decide : 13 + 0 ≤ _)⟩)
      dsimp only [Pt.U, Pt.locs, Pt.cells, Pt.slots] at X124 l124 y124 z124 st124 hQ124
      subst l124 y124 z124
      obtain ⟨rfl, N124q, e124⟩ := hQ124
      have e124h : T124.heap = T122.heap := e124
      have N124 := Fr.app N123 N124q
      refine own_step (fun _ kc_ => st124 _ kc_) ?_
      show own_Ends p e below s _ _ _ (T124.setTop (mkF m 193 #[.val (.int p1), .val (.int p2), .val (.int p3), .val (.int p4), .val (.int p5), .val (.int (0 : Int32)), .val (.int nc), .val (.int va), .val (.int vr), .val (.int vs), .val (.int vb), .val (.int vc), .val (.ref b112), .val (.int (1 : Int32)), .val (.int (own_sp va))] [(.int (own_sp vc)), (.int (own_sp va))]))
      refine own_step (fun _ kc_ => XS.iadd X124.here hx rfl (hb hby at_193) rfl (XS.istore X124.here hx rfl (hb hby at_194) rfl (l' := #[.val (.int p1), .val (.int p2), .val (.int p3), .val (.int p4), .val (.int p5), .val (.int (0 : Int32)), .val (.int nc), .val (.int va), .val (.int vr), .val (.int vs), .val (.int vb), .val (.int vc), .val (.ref b112), .val (.int (1 : Int32)), .val (.int ((own_sp va) + (own_sp vc)))]) rfl (XS.iload X124.here hx rfl (hb hby at_196) rfl (XS.ifNo X124.here hx rfl (hb hby at_198) rfl (XT.i0_eq_f (by decide : ¬ ((1 : Int32) = 0))) (XS.aload X124.here hx rfl (hb hby at_201) rfl rfl kc_))))) ?_
      show own_Ends p e below s _ _ _ (T124.setTop (mkF m 203 #[.val (.int p1), .val (.int p2), .val (.int p3), .val (.int p4), .val (.int p5), .val (.int (0 : Int32)), .val (.int nc), .val (.int va), .val (.int vr), .val (.int vs), .val (.int vb), .val (.int vc), .val (.ref b112), .val (.int (1 : Int32)), .val (.int ((own_sp va) + (own_sp vc)))] [(.ref b112)]))
      obtain ⟨cq125, kq125, q125a, q125b, q125c⟩ := isOf hZ e124h E_b112_122
      obtain ⟨_, _, ⟨T125, L125, k125, n125⟩, -, X125, ⟨Lc125, hQ125, l125, y125, z125⟩, st125⟩ := X124.virtualBack hx (y := (⟨"com/example/kinds_by_value/kindsbyvalue/NameSet", "hashCode", "()I"⟩ : MethodName)) (z := (⟨"com/example/kinds_by_value/kindsbyvalue/NameSet", "hashCode", "()I"⟩ : MethodName)) hown (mvT hZ (hw _ (List.mem_of_getElem? (i := 13) rfl))) (mvT hZ (hw _ (List.mem_of_getElem? (i := 14) rfl))) (notFace_of_selects (args := #[]) (mvT hZ (hw _ (List.mem_of_getElem? (i := 16) rfl)))) (mvT hZ (hw _ (List.mem_of_getElem? (i := 16) rfl))) (mvT hZ (hw _ (List.mem_of_getElem? (i := 15) rfl))) (by decide) (backOf (W := 0) (rmH0 l Z a0 hw [] b112 (((0 : Int32) + own_sp va) + own_sp vc) T122.heap n0 Zs122 fE122 fH122) hZ (hw _ (List.mem_of_getElem? (i := 17) rfl)) (hw _ (List.mem_of_getElem? (i := 3) rfl)) (by decide) (by decide)) q125a q125c (g := (mkF m 203 #[.val (.int p1), .val (.int p2), .val (.int p3), .val (.int p4), .val (.int p5), .val (.int (0 : Int32)), .val (.int nc), .val (.int va), .val (.int vr), .val (.int vs), .val (.int vb), .val (.int vc), .val (.ref b112), .val (.int (1 : Int32)), .val (.int ((own_sp va) + (own_sp vc)))] [(.ref b112)])) rfl (by rw [hml]; rfl) (Steps.refl _) (argsL := []) (rest := []) (lenOf pd_6 rfl) rfl (by show 2 * 0 + _ ≤ _; exact Nat.le_of_eq rfl) (hb hby at_203) (fun _ _ => ⟨rfl, e124h, (by decide : 2 + 0 ≤ _), (by decide : 13 + 0 ≤ _)⟩)
      dsimp only [Pt.U, Pt.locs, Pt.cells, Pt.slots] at X125 l125 y125 z125 st125 hQ125
      subst l125 y125 z125
      obtain ⟨rfl, N125q, e125⟩ := hQ125
      have e125h : T125.heap = T122.heap := e125
      have N125 := Fr.app N124 N125q
      refine own_step (fun _ kc_ => st125.trans kc_) ?_
      show own_Ends p e below s _ _ _ (T125.setTop (mkF m 206 #[.val (.int p1), .val (.int p2), .val (.int p3), .val (.int p4), .val (.int p5), .val (.int (0 : Int32)), .val (.int nc), .val (.int va), .val (.int vr), .val (.int vs), .val (.int vb), .val (.int vc), .val (.ref b112), .val (.int (1 : Int32)), .val (.int ((own_sp va) + (own_sp vc)))] [(.int (((0 : Int32) + own_sp va) + own_sp vc))]))
      refine own_step (fun _ kc_ => XS.iload X125.here hx rfl (hb hby at_206) rfl (XS.icmpNo X125.here hx rfl (hb hby at_208) rfl (XT.ii_ne_f (by simp only [Int32.zero_add] : (((0 : Int32) + own_sp va) + own_sp vc) = ((own_sp va) + (own_sp vc)))) (XS.iconst X125.here hx rfl (hb hby at_211) (XS.goto X125.here hx rfl (pc0 := 212) (pc' := 216) rfl (hb hby at_212) (by decide) (by decide) (XS.istore X125.here hx rfl (hb hby at_216) rfl (l' := #[.val (.int p1), .val (.int p2), .val (.int p3), .val (.int p4), .val (.int p5), .val (.int (0 : Int32)), .val (.int nc), .val (.int va), .val (.int vr), .val (.int vs), .val (.int vb), .val (.int vc), .val (.ref b112), .val (.int (1 : Int32)), .val (.int ((own_sp va) + (own_sp vc)))]) rfl (XS.aload X125.here hx rfl (hb hby at_218) rfl rfl kc_)))))) ?_
      show own_Ends p e below s _ _ _ (T125.setTop (mkF m 220 #[.val (.int p1), .val (.int p2), .val (.int p3), .val (.int p4), .val (.int p5), .val (.int (0 : Int32)), .val (.int nc), .val (.int va), .val (.int vr), .val (.int vs), .val (.int vb), .val (.int vc), .val (.ref b112), .val (.int (1 : Int32)), .val (.int ((own_sp va) + (own_sp vc)))] [(.ref b112)]))
      obtain ⟨cq126, kq126, q126a, q126b, q126c⟩ := isOf hZ e125h E_b112_122
      obtain ⟨_, _, ⟨T126, L126, k126, n126⟩, -, X126, ⟨Lc126, hQ126, l126, y126, z126⟩, st126⟩ := X125.virtualBack hx (y := (⟨"com/example/kinds_by_value/kindsbyvalue/NameSet", "addEveryName", "()V"⟩ : MethodName)) (z := (⟨"com/example/kinds_by_value/kindsbyvalue/NameSet", "addEveryName", "()V"⟩ : MethodName)) hown (mvT hZ (hw _ (List.mem_of_getElem? (i := 40) rfl))) (mvT hZ (hw _ (List.mem_of_getElem? (i := 41) rfl))) (notFace_of_selects (args := #[]) (mvT hZ (hw _ (List.mem_of_getElem? (i := 43) rfl)))) (mvT hZ (hw _ (List.mem_of_getElem? (i := 43) rfl))) (mvT hZ (hw _ (List.mem_of_getElem? (i := 42) rfl))) (by decide) (backOf (W := 0) (rm7 l Z a0 hw [] b112 (.int (0 : Int32)) (.ref ba) .null (.int (((0 : Int32) + (1 : Int32)) + (1 : Int32))) (.int (((0 : Int32) + own_sp va) + own_sp vc)) T122.heap n0 Zs122 E_b112_122 fE122 fB122 fT122 fS122 fH122 n0_b112) hZ (hw _ (List.mem_of_getElem? (i := 44) rfl)) (hw _ (List.mem_of_getElem? (i := 3) rfl)) (by decide) (by decide)) q126a q126c (g := (mkF m 220 #[.val (.int p1), .val (.int p2), .val (.int p3), .val (.int p4), .val (.int p5), .val (.int (0 : Int32)), .val (.int nc), .val (.int va), .val (.int vr), .val (.int vs), .val (.int vb), .val (.int vc), .val (.ref b112), .val (.int (1 : Int32)), .val (.int ((own_sp va) + (own_sp vc)))] [(.ref b112)])) rfl (by rw [hml]; rfl) (Steps.refl _) (argsL := []) (rest := []) (lenOf pd_1 rfl) rfl (by show 2 * 0 + _ ≤ _; exact Nat.le_of_eq rfl) (hb hby at_220) (fun _ _ => ⟨rfl, e125h, (by decide : 2 + 0 ≤ _), (by decide : 13 + 0 ≤ _)⟩)
      dsimp only [Pt.U, Pt.locs, Pt.cells, Pt.slots] at X126 l126 y126 z126 st126 hQ126
      subst l126 y126 z126
      obtain ⟨rfl, N126q, K126k, fE126⟩ := hQ126
      have E_b112_126 := (E_b112_122).keep K126k
      have A_ba_126 := (fA122).keep K126k (ninS (Ne.symm noar) nin0)
      have Zs126 := Nat.le_trans Zs122 K126k.1
      have N126 := Fr.app N125 N126q
      refine own_step (fun _ kc_ => st126.trans kc_) ?_
      show own_Ends p e below s _ _ _ (T126.setTop (mkF m 223 #[.val (.int p1), .val (.int p2), .val (.int p3), .val (.int p4), .val (.int p5), .val (.int (0 : Int32)), .val (.int nc), .val (.int va), .val (.int vr), .val (.int vs), .val (.int vb), .val (.int vc), .val (.ref b112), .val (.int (1 : Int32)), .val (.int ((own_sp va) + (own_sp vc)))] []))
      refine own_step (fun _ kc_ => XS.iload X126.here hx rfl (hb hby at_223) rfl (XS.ifNo X126.here hx rfl (hb hby at_225) rfl (XT.i0_eq_f (by decide : ¬ ((1 : Int32) = 0))) (XS.aload X126.here hx rfl (hb hby at_228) rfl rfl kc_))) ?_
      show own_Ends p e below s _ _ _ (T126.setTop (mkF m 230 #[.val (.int p1), .val (.int p2), .val (.int p3), .val (.int p4), .val (.int p5), .val (.int (0 : Int32)), .val (.int nc), .val (.int va), .val (.int vr), .val (.int vs), .val (.int vb), .val (.int vc), .val (.ref b112), .val (.int (1 : Int32)), .val (.int ((own_sp va) + (own_sp vc)))] [(.ref b112)]))
      obtain ⟨cq127, kq127, q127a, q127b, q127c⟩ := isOf hZ rfl E_b112_126
      obtain ⟨_, _, ⟨T127, L127, k127, n127⟩, -, X127, ⟨Lc127, hQ127, l127, y127, z127⟩, st127⟩ := X126.virtualBack hx (y := (⟨"com/example/kinds_by_value/kindsbyvalue/NameSet", "hashCode", "()I"⟩ : MethodName)) (z := (⟨"com/example/kinds_by_value/kindsbyvalue/NameSet", "hashCode", "()I"⟩ : MethodName)) hown (mvT hZ (hw _ (List.mem_of_getElem? (i := 13) rfl))) (mvT hZ (hw _ (List.mem_of_getElem? (i := 14) rfl))) (notFace_of_selects (args := #[]) (mvT hZ (hw _ (List.mem_of_getElem? (i := 16) rfl)))) (mvT hZ (hw _ (List.mem_of_getElem? (i := 16) rfl))) (mvT hZ (hw _ (List.mem_of_getElem? (i := 15) rfl))) (by decide) (backOf (W := 0) (rmH1 l Z a0 hw [] b112  T126.heap n0 Zs126 fE126) hZ (hw _ (List.mem_of_getElem? (i := 17) rfl)) (hw _ (List.mem_of_getElem? (i := 3) rfl)) (by decide) (by decide)) q127a q127c (g := (mkF m 230 #[.val (.int p1), .val (.int p2), .val (.int p3), .val (.int p4), .val (.int p5), .val (.int (0 : Int32)), .val (.int nc), .val (.int va), .val (.int vr), .val (.int vs), .val (.int vb), .val (.int vc), .val (.ref b112), .val (.int (1 : Int32)), .val (.int ((own_sp va) + (own_sp vc)))] [(.ref b112)])) rfl (by rw [hml]; rfl) (Steps.refl _) (argsL := []) (rest := []) (lenOf pd_6 rfl) rfl (by show 2 * 0 + _ ≤ _; exact Nat.le_of_eq rfl) (hb hby at_230) (fun _ _ => ⟨rfl, rfl, (by decide : 2 + 0 ≤ _), (by decide : 13 + 0 ≤ _)⟩)
      dsimp only [Pt.U, Pt.locs, Pt.cells, Pt.slots] at X127 l127 y127 z127 st127 hQ127
      subst l127 y127 z127
      obtain ⟨rfl, N127q, e127⟩ := hQ127
      have e127h : T127.heap = T126.heap := e127
      have N127 := Fr.app N126 N127q
      refine own_step (fun _ kc_ => st127.trans kc_) ?_
      show own_Ends p e below s _ _ _ (T127.setTop (mkF m 233 #[.val (.int p1), .val (.int p2), .val (.int p3), .val (.int p4), .val (.int p5), .val (.int (0 : Int32)), .val (.int nc), .val (.int va), .val (.int vr), .val (.int vs), .val (.int vb), .val (.int vc), .val (.ref b112), .val (.int (1 : Int32)), .val (.int ((own_sp va) + (own_sp vc)))] [(.int (-1 : Int32))]))
      refine own_step (fun _ kc_ => XS.iconst X127.here hx rfl (hb hby at_233) (XS.icmpNo X127.here hx rfl (hb hby at_234) rfl (XT.ii_ne_f (rfl : (-1 : Int32) = (-1 : Int32))) (XS.iconst X127.here hx rfl (hb hby at_237) (XS.goto X127.here hx rfl (pc0 := 238) (pc' := 242) rfl (hb hby at_238) (by decide) (by decide) (XS.istore X127.here hx rfl (hb hby at_242) rfl (l' := #[.val (.int p1), .val (.int p2), .val (.int p3), .val (.int p4), .val (.int p5), .val (.int (0 : Int32)), .val (.int nc), .val (.int va), .val (.int vr), .val (.int vs), .val (.int vb), .val (.int vc), .val (.ref b112), .val (.int (1 : Int32)), .val (.int ((own_sp va) + (own_sp vc)))]) rfl (XS.iload X127.here hx rfl (hb hby at_244) rfl kc_)))))) ?_
      show own_Ends p e below s _ _ _ (T127.setTop (mkF m 246 #[.val (.int p1), .val (.int p2), .val (.int p3), .val (.int p4), .val (.int p5), .val (.int (0 : Int32)), .val (.int nc), .val (.int va), .val (.int vr), .val (.int vs), .val (.int vb), .val (.int vc), .val (.ref b112), .val (.int (1 : Int32)), .val (.int ((own_sp va) + (own_sp vc)))] [(.int (1 : Int32))]))
      exact own_retN X127 hx (t := .boolean) hret (by simp) hlk (hb hby at_246) (by decide) (by decide) rfl ⟨rfl, N127⟩
  · show own_Ends p e below s _ _ _ (T115.setTop (mkF m 132 #[.val (.int p1), .val (.int p2), .val (.int p3), .val (.int p4), .val (.int p5), .val (.int (0 : Int32)), .val (.int nc), .val (.int va), .val (.int vr), .val (.int vs), .val (.int vb), .val (.int vc), .val (.ref b112), .val (.int (1 : Int32)), .unset] []))
    refine own_step (fun _ kc_ => XS.aload X115.here hx rfl (hb hby at_132) rfl rfl (XS.iload X115.here hx rfl (hb hby at_134) rfl kc_)) ?_
    show own_Ends p e below s _ _ _ (T115.setTop (mkF m 136 #[.val (.int p1), .val (.int p2), .val (.int p3), .val (.int p4), .val (.int p5), .val (.int (0 : Int32)), .val (.int nc), .val (.int va), .val (.int vr), .val (.int vs), .val (.int vb), .val (.int vc), .val (.ref b112), .val (.int (1 : Int32)), .unset] [(.int vb), (.ref b112)]))
    have hin : vb ∉ [va] := by simp [hba]
    have hrk2 := own_bout G115 ob hin
    obtain ⟨cq128, kq128, q128a, q128b, q128c⟩ := isOf hZ rfl E_b112_115
    obtain ⟨_, _, ⟨T128, L128, k128, n128⟩, -, X128, ⟨Lc128, hQ128, l128, y128, z128⟩, st128⟩ := X115.virtualBack hx (y := (⟨"com/example/kinds_by_value/kindsbyvalue/NameSet", "add", "(I)Z"⟩ : MethodName)) (z := (⟨"com/example/kinds_by_value/kindsbyvalue/NameSet", "add", "(I)Z"⟩ : MethodName)) hown (mvT hZ (hw _ (List.mem_of_getElem? (i := 22) rfl))) (mvT hZ (hw _ (List.mem_of_getElem? (i := 23) rfl))) (notFace_of_selects (args := #[]) (mvT hZ (hw _ (List.mem_of_getElem? (i := 25) rfl)))) (mvT hZ (hw _ (List.mem_of_getElem? (i := 25) rfl))) (mvT hZ (hw _ (List.mem_of_getElem? (i := 24) rfl))) (by decide) (backOf (W := 0) (rmAB0 l Z a0 hw [] b112 vb ba ts115 ((0 : Int32) + (1 : Int32)) ((0 : Int32) + own_sp va) T115.heap n0 Zs115 E_b112_115 fE115 fB115 fA115 ob.1 (own_ql G115 ob) hrk2 fT115 fS115 fH115 n0_b112 n0ar noar) hZ (hw _ (List.mem_of_getElem? (i := 26) rfl)) (hw _ (List.mem_of_getElem? (i := 3) rfl)) (by decide) (by decide)) q128a q128c (g := (mkF m 136 #[.val (.int p1), .val (.int p2), .val (.int p3), .val (.int p4), .val (.int p5), .val (.int (0 : Int32)), .val (.int nc), .val (.int va), .val (.int vr), .val (.int vs), .val (.int vb), .val (.int vc), .val (.ref b112), .val (.int (1 : Int32)), .unset] [(.int vb), (.ref b112)])) rfl (by rw [hml]; rfl) (Steps.refl _) (argsL := [(.int vb)]) (rest := []) (lenOf pd_4 rfl) rfl (by show 2 * 0 + _ ≤ _; exact Nat.le_of_eq rfl) (hb hby at_136) (fun _ _ => ⟨rfl, rfl, (by decide : 2 + 0 ≤ _), (by decide : 13 + 0 ≤ _)⟩)
    dsimp only [Pt.U, Pt.locs, Pt.cells, Pt.slots] at X128 l128 y128 z128 st128 hQ128
    subst l128 y128 z128
    obtain ⟨rfl, N128q, K128k, fE128, fS128, fH128, fB128, fT128, fA128⟩ := hQ128
    have E_b112_128 := (E_b112_115).keep K128k
    have Zs128 := Nat.le_trans Zs115 K128k.1
    have G128 : own_bgood (ts115.set (own_q vb) (ts115.getD (own_q vb) 0 ||| own_w vb)) nc.toInt.toNat (vb :: [va]) := own_bins' G115 ob
    generalize (ts115.set (own_q vb) (ts115.getD (own_q vb) 0 ||| own_w vb)) = ts128 at fA128 G128
    have N128 := Fr.app N115 N128q
    refine own_step (fun _ kc_ => st128.trans kc_) ?_
    show own_Ends p e below s _ _ _ (T128.setTop (mkF m 139 #[.val (.int p1), .val (.int p2), .val (.int p3), .val (.int p4), .val (.int p5), .val (.int (0 : Int32)), .val (.int nc), .val (.int va), .val (.int vr), .val (.int vs), .val (.int vb), .val (.int vc), .val (.ref b112), .val (.int (1 : Int32)), .unset] [(.int (1 : Int32))]))
    refine own_step (fun _ kc_ => XS.pop X128.here hx rfl (hb hby at_139) rfl rfl kc_) ?_
    show own_Ends p e below s _ _ _ (T128.setTop (mkF m 140 #[.val (.int p1), .val (.int p2), .val (.int p3), .val (.int p4), .val (.int p5), .val (.int (0 : Int32)), .val (.int nc), .val (.int va), .val (.int vr), .val (.int vs), .val (.int vb), .val (.int vc), .val (.ref b112), .val (.int (1 : Int32)), .unset] []))
    by_cases hca : vc = va
    · show own_Ends p e below s _ _ _ (T128.setTop (mkF m 140 #[.val (.int p1), .val (.int p2), .val (.int p3), .val (.int p4), .val (.int p5), .val (.int (0 : Int32)), .val (.int nc), .val (.int va), .val (.int vr), .val (.int vs), .val (.int vb), .val (.int vc), .val (.ref b112), .val (.int (1 : Int32)), .unset] []))
      refine own_step (fun _ kc_ => XS.aload X128.here hx rfl (hb hby at_140) rfl rfl (XS.iload X128.here hx rfl (hb hby at_142) rfl kc_)) ?_
      show own_Ends p e below s _ _ _ (T128.setTop (mkF m 144 #[.val (.int p1), .val (.int p2), .val (.int p3), .val (.int p4), .val (.int p5), .val (.int (0 : Int32)), .val (.int nc), .val (.int va), .val (.int vr), .val (.int vs), .val (.int vb), .val (.int vc), .val (.ref b112), .val (.int (1 : Int32)), .unset] [(.int vc), (.ref b112)]))
      have hin : vc ∈ [vb, va] := by simp [hca]
      have hrk3 := own_bin G128 oc hin
      obtain ⟨cq129, kq129, q129a, q129b, q129c⟩ := isOf hZ rfl E_b112_128
      obtain ⟨_, _, ⟨T129, L129, k129, n129⟩, -, X129, ⟨Lc129, hQ129, l129, y129, z129⟩, st129⟩ := X128.virtualBack hx (y := (⟨"com/example/kinds_by_value/kindsbyvalue/NameSet", "add", "(I)Z"⟩ : MethodName)) (z := (⟨"com/example/kinds_by_value/kindsbyvalue/NameSet", "add", "(I)Z"⟩ : MethodName)) hown (mvT hZ (hw _ (List.mem_of_getElem? (i := 22) rfl))) (mvT hZ (hw _ (List.mem_of_getElem? (i := 23) rfl))) (notFace_of_selects (args := #[]) (mvT hZ (hw _ (List.mem_of_getElem? (i := 25) rfl)))) (mvT hZ (hw _ (List.mem_of_getElem? (i := 25) rfl))) (mvT hZ (hw _ (List.mem_of_getElem? (i := 24) rfl))) (by decide) (backOf (W := 0) (rmAB1 l Z a0 hw [] b112 vc ba ts128 T128.heap n0 Zs128 E_b112_128 fE128 fB128 fA128 oc.1 (own_ql G128 oc) hrk3) hZ (hw _ (List.mem_of_getElem? (i := 26) rfl)) (hw _ (List.mem_of_getElem? (i := 3) rfl)) (by decide) (by decide)) q129a q129c (g := (mkF m 144 #[.val (.int p1), .val (.int p2), .val (.int p3), .val (.int p4), .val (.int p5), .val (.int (0 : Int32)), .val (.int nc), .val (.int va), .val (.int vr), .val (.int vs), .val (.int vb), .val (.int vc), .val (.ref b112), .val (.int (1 : Int32)), .unset] [(.int vc), (.ref b112)])) rfl (by rw [hml]; rfl) (Steps.refl _) (argsL := [(.int vc)]) (rest := []) (lenOf pd_4 rfl) rfl (by show 2 * 0 + _ ≤ _; exact Nat.le_of_eq rfl) (hb hby at_144) (fun _ _ => ⟨rfl, rfl, (by decide : 2 + 0 ≤ _), (by decide : 13 + 0 ≤ _)⟩)
      dsimp only [Pt.U, Pt.locs, Pt.cells, Pt.slots] at X129 l129 y129 z129 st129 hQ129
      subst l129 y129 z129
      obtain ⟨rfl, N129q, e129⟩ := hQ129
      have e129h : T129.heap = T128.heap := e129
      have N129 := Fr.app N128 N129q
      refine own_step (fun _ kc_ => st129.trans kc_) ?_
      show own_Ends p e below s _ _ _ (T129.setTop (mkF m 147 #[.val (.int p1), .val (.int p2), .val (.int p3), .val (.int p4), .val (.int p5), .val (.int (0 : Int32)), .val (.int nc), .val (.int va), .val (.int vr), .val (.int vs), .val (.int vb), .val (.int vc), .val (.ref b112), .val (.int (1 : Int32)), .unset] [(.int (0 : Int32))]))
      refine own_step (fun _ kc_ => XS.pop X129.here hx rfl (hb hby at_147) rfl rfl (XS.iload X129.here hx rfl (hb hby at_148) rfl kc_)) ?_
      show own_Ends p e below s _ _ _ (T129.setTop (mkF m 150 #[.val (.int p1), .val (.int p2), .val (.int p3), .val (.int p4), .val (.int p5), .val (.int (0 : Int32)), .val (.int nc), .val (.int va), .val (.int vr), .val (.int vs), .val (.int vb), .val (.int vc), .val (.ref b112), .val (.int (1 : Int32)), .unset] [(.int va)]))
      obtain ⟨_, _, ⟨T130, L130, k130, n130⟩, -, X130, ⟨Lc130, hQ130, l130, y130, z130⟩, st130⟩ := Jvm.LawKit.callS X129 hx (y := (⟨"com/example/kinds_by_value/kindsbyvalue/Hashes", "spread", "(I)I"⟩ : MethodName)) hown (mvT hZ (hw _ (List.mem_of_getElem? (i := 39) rfl))) (mvT hZ (hw _ (List.mem_of_getElem? (i := 35) rfl))) (mvT hZ (hw _ (List.mem_of_getElem? (i := 36) rfl))) (mvT hZ (hw _ (List.mem_of_getElem? (i := 37) rfl))) (by decide) (backOf (W := 0) (rm6 l Z a0 hw [] va  T128.heap n0 Zs128 ) hZ (hw _ (List.mem_of_getElem? (i := 37) rfl)) (hw _ (List.mem_of_getElem? (i := 36) rfl)) (by decide) (by decide)) (g := (mkF m 150 #[.val (.int p1), .val (.int p2), .val (.int p3), .val (.int p4), .val (.int p5), .val (.int (0 : Int32)), .val (.int nc), .val (.int va), .val (.int vr), .val (.int vs), .val (.int vb), .val (.int vc), .val (.ref b112), .val (.int (1 : Int32)), .unset] [(.int va)])) rfl (by rw [hml]; rfl) (argsL := [(.int va)]) (rest := []) (lenOf pd_3 rfl) rfl (by show 2 * 0 + _ ≤ _; exact Nat.le_of_eq rfl) (hb hby at_150) (fun _ _ => ⟨rfl, e129h, (by decide : 2 + 0 ≤ _), (by decide : 13 + 0 ≤ _)⟩)
      dsimp only [Pt.U, Pt.locs, Pt.cells, Pt.slots] at X130 l130 y130 z130 st130 hQ130
      subst l130 y130 z130
      obtain ⟨rfl, N130q, e130⟩ := hQ130
      have e130h : T130.heap = T128.heap := e130
      have N130 := Fr.app N129 N130q
      refine own_step (fun _ kc_ => st130 _ kc_) ?_
      show own_Ends p e below s _ _ _ (T130.setTop (mkF m 153 #[.val (.int p1), .val (.int p2), .val (.int p3), .val (.int p4), .val (.int p5), .val (.int (0 : Int32)), .val (.int nc), .val (.int va), .val (.int vr), .val (.int vs), .val (.int vb), .val (.int vc), .val (.ref b112), .val (.int (1 : Int32)), .unset] [(.int (own_sp va))]))
      refine own_step (fun _ kc_ => XS.istore X130.here hx rfl (hb hby at_153) rfl (l' := #[.val (.int p1), .val (.int p2), .val (.int p3), .val (.int p4), .val (.int p5), .val (.int (0 : Int32)), .val (.int nc), .val (.int va), .val (.int vr), .val (.int vs), .val (.int vb), .val (.int vc), .val (.ref b112), .val (.int (1 : Int32)), .val (.int (own_sp va))]) rfl (XS.iload X130.here hx rfl (hb hby at_155) rfl (XS.iload X130.here hx rfl (hb hby at_157) rfl (XS.icmpNo X130.here hx rfl (hb hby at_159) rfl (XT.ii_eq_f (hba : ¬ (vb = va))) (XS.iload X130.here hx rfl (hb hby at_162) rfl (XS.iload X130.here hx rfl (hb hby at_164) rfl kc_)))))) ?_
      show own_Ends p e below s _ _ _ (T130.setTop (mkF m 166 #[.val (.int p1), .val (.int p2), .val (.int p3), .val (.int p4), .val (.int p5), .val (.int (0 : Int32)), .val (.int nc), .val (.int va), .val (.int vr), .val (.int vs), .val (.int vb), .val (.int vc), .val (.ref b112), .val (.int (1 : Int32)), .val (.int (own_sp va))] [(.int vb), (.int (own_sp va))]))
      obtain ⟨_, _, ⟨T131, L131, k131, n131⟩, -, X131, ⟨Lc131, hQ131, l131, y131, z131⟩, st131⟩ := Jvm.LawKit.callS X130 hx (y := (⟨"com/example/kinds_by_value/kindsbyvalue/Hashes", "spread", "(I)I"⟩ : MethodName)) hown (mvT hZ (hw _ (List.mem_of_getElem? (i := 39) rfl))) (mvT hZ (hw _ (List.mem_of_getElem? (i := 35) rfl))) (mvT hZ (hw _ (List.mem_of_getElem? (i := 36) rfl))) (mvT hZ (hw _ (List.mem_of_getElem? (i := 37) rfl))) (by decide) (backOf (W := 1) (rm6 l Z a0 hw [] vb  T128.heap n0 Zs128 ) hZ (hw _ (List.mem_of_getElem? (i := 37) rfl)) (hw _ (List.mem_of_getElem? (i := 36) rfl)) (by decide) (by decide)) (g := (mkF m 166 #[.val (.int p1), .val (.int p2), .val (.int p3), .val (.int p4), .val (.int p5), .val (.int (0 : Int32)), .val (.int nc), .val (.int va), .val (.int vr), .val (.int vs), .val (.int vb), .val (.int vc), .val (.ref b112), .val (.int (1 : Int32)), .val (.int (own_sp va))] [(.int vb), (.int (own_sp va))])) rfl (by rw [hml]; rfl) (argsL := [(.int vb)]) (rest := [(.int (own_sp va))]) (lenOf pd_3 rfl) rfl (by show 2 * 0 + _ ≤ _; exact Nat.le_of_eq rfl) (hb hby at_166) (fun _ _ => ⟨rfl, e130h, (by decide : 2 + 0 ≤ _), (by decide : 13 + 0 ≤ _)⟩)
      dsimp only [Pt.U, Pt.locs, Pt.cells, Pt.slots] at X131 l131 y131 z131 st131 hQ131
      subst l131 y131 z131
      obtain ⟨rfl, N131q, e131⟩ := hQ131
      have e131h : T131.heap = T128.heap := e131
      have N131 := Fr.app N130 N131q
      refine own_step (fun _ kc_ => st131 _ kc_) ?_
      show own_Ends p e below s _ _ _ (T131.setTop (mkF m 169 #[.val (.int p1), .val (.int p2), .val (.int p3), .val (.int p4), .val (.int p5), .val (.int (0 : Int32)), .val (.int nc), .val (.int va), .val (.int vr), .val (.int vs), .val (.int vb), .val (.int vc), .val (.ref b112), .val (.int (1 : Int32)), .val (.int (own_sp va))] [(.int (own_sp vb)), (.int (own_sp va))]))
      refine own_step (fun _ kc_ => XS.iadd X131.here hx rfl (hb hby at_169) rfl (XS.istore X131.here hx rfl (hb hby at_170) rfl (l' := #[.val (.int p1), .val (.int p2), .val (.int p3), .val (.int p4), .val (.int p5), .val (.int (0 : Int32)), .val (.int nc), .val (.int va), .val (.int vr), .val (.int vs), .val (.int vb), .val (.int vc), .val (.ref b112), .val (.int (1 : Int32)), .val (.int ((own_sp va) + (own_sp vb)))]) rfl (XS.iload X131.here hx rfl (hb hby at_172) rfl (XS.iload X131.here hx rfl (hb hby at_174) rfl (XS.icmpYes X131.here hx rfl (pc0 := 176) (pc' := 196) rfl (hb hby at_176) rfl (XT.ii_eq_t (hca : vc = va)) (by decide) (by decide) (XS.iload X131.here hx rfl (hb hby at_196) rfl (XS.ifNo X131.here hx rfl (hb hby at_198) rfl (XT.i0_eq_f (by decide : ¬ ((1 : Int32) = 0))) (XS.aload X131.here hx rfl (hb hby at_201) rfl rfl kc_)))))))) ?_
      show own_Ends p e below s _ _ _ (T131.setTop (mkF m 203 #[.val (.int p1), .val (.int p2), .val (.int p3), .val (.int p4), .val (.int p5), .val (.int (0 : Int32)), .val (.int nc), .val (.int va), .val (.int vr), .val (.int vs), .val (.int vb), .val (.int vc), .val (.ref b112), .val (.int (1 : Int32)), .val (.int ((own_sp va) + (own_sp vb)))] [(.ref b112)]))
      obtain ⟨cq132, kq132, q132a, q132b, q132c⟩ := isOf hZ e131h E_b112_128
      obtain ⟨_, _, ⟨T132, L132, k132, n132⟩, -, X132, ⟨Lc132, hQ132, l132, y132, z132⟩, st132⟩ := X131.virtualBack hx (y := (⟨"com/example/kinds_by_value/kindsbyvalue/NameSet", "hashCode", "()I"⟩ : MethodName)) (z := (⟨"com/example/kinds_by_value/kindsbyvalue/NameSet", "hashCode", "()I"⟩ : MethodName)) hown (mvT hZ (hw _ (List.mem_of_getElem? (i := 13) rfl))) (mvT hZ (hw _ (List.mem_of_getElem? (i := 14) rfl))) (notFace_of_selects (args := #[]) (mvT hZ (hw _ (List.mem_of_getElem? (i := 16) rfl)))) (mvT hZ (hw _ (List.mem_of_getElem? (i := 16) rfl))) (mvT hZ (hw _ (List.mem_of_getElem? (i := 15) rfl))) (by decide) (backOf (W := 0) (rmH0 l Z a0 hw [] b112 (((0 : Int32) + own_sp va) + own_sp vb) T128.heap n0 Zs128 fE128 fH128) hZ (hw _ (List.mem_of_getElem? (i := 17) rfl)) (hw _ (List.mem_of_getElem? (i := 3) rfl)) (by decide) (by decide)) q132a q132c (g := (mkF m 203 #[.val (.int p1), .val (.int p2), .val (.int p3), .val (.int p4), .val (.int p5), .val (.int (0 : Int32)), .val (.int nc), .val (.int va), .val (.int vr), .val (.int vs), .val (.int vb), .val (.int vc), .val (.ref b112), .val (.int (1 : Int32)), .val (.int ((own_sp va) + (own_sp vb)))] [(.ref b112)])) rfl (by rw [hml]; rfl) (Steps.refl _) (argsL := []) (rest := []) (lenOf pd_6 rfl) rfl (by show 2 * 0 + _ ≤ _; exact Nat.le_of_eq rfl) (hb hby at_203) (fun _ _ => ⟨rfl, e131h, (by decide : 2 + 0 ≤ _), (by decide : 13 + 0 ≤ _)⟩)
      dsimp only [Pt.U, Pt.locs, Pt.cells, Pt.slots] at X132 l132 y132 z132 st132 hQ132
      subst l132 y132 z132
      obtain ⟨rfl, N132q, e132⟩ := hQ132
      have e132h : T132.heap = T128.heap := e132
      have N132 := Fr.app N131 N132q
      refine own_step (fun _ kc_ => st132.trans kc_) ?_
      show own_Ends p e below s _ _ _ (T132.setTop (mkF m 206 #[.val (.int p1), .val (.int p2), .val (.int p3), .val (.int p4), .val (.int p5), .val (.int (0 : Int32)), .val (.int nc), .val (.int va), .val (.int vr), .val (.int vs), .val (.int vb), .val (.int vc), .val (.ref b112), .val (.int (1 : Int32)), .val (.int ((own_sp va) + (own_sp vb)))] [(.int (((0 : Int32) + own_sp va) + own_sp vb))]))
      refine own_step (fun _ kc_ => XS.iload X132.here hx rfl (hb hby at_206) rfl (XS.icmpNo X132.here hx rfl (hb hby at_208) rfl (XT.ii_ne_f (by simp only [Int32.zero_add] : (((0 : Int32) + own_sp va) + own_sp vb) = ((own_sp va) + (own_sp vb)))) (XS.iconst X132.here hx rfl (hb hby at_211) (XS.goto X132.here hx rfl (pc0 := 212) (pc' := 216) rfl (hb hby at_212) (by decide) (by decide) (XS.istore X132.here hx rfl (hb hby at_216) rfl (l' := #[.val (.int p1), .val (.int p2), .val (.int p3), .val (.int p4), .val (.int p5), .val (.int (0 : Int32)), .val (.int nc), .val (.int va), .val (.int vr), .val (.int vs), .val (.int vb), .val (.int vc), .val (.ref b112), .val (.int (1 : Int32)), .val (.int ((own_sp va) + (own_sp vb)))]) rfl (XS.aload X132.here hx rfl (hb hby at_218) rfl rfl kc_)))))) ?_
      show own_Ends p e below s _ _ _ (T132.setTop (mkF m 220 #[.val (.int p1), .val (.int p2), .val (.int p3), .val (.int p4), .val (.int p5), .val (.int (0 : Int32)), .val (.int nc), .val (.int va), .val (.int vr), .val (.int vs), .val (.int vb), .val (.int vc), .val (.ref b112), .val (.int (1 : Int32)), .val (.int ((own_sp va) + (own_sp vb)))] [(.ref b112)]))
      obtain ⟨cq133, kq133, q133a, q133b, q133c⟩ := isOf hZ e132h E_b112_128
      obtain ⟨_, _, ⟨T133, L133, k133, n133⟩, -, X133, ⟨Lc133, hQ133, l133, y133, z133⟩, st133⟩ := X132.virtualBack hx (y := (⟨"com/example/kinds_by_value/kindsbyvalue/NameSet", "addEveryName", "()V"⟩ : MethodName)) (z := (⟨"com/example/kinds_by_value/kindsbyvalue/NameSet", "addEveryName", "()V"⟩ : MethodName)) hown (mvT hZ (hw _ (List.mem_of_getElem? (i := 40) rfl))) (mvT hZ (hw _ (List.mem_of_getElem? (i := 41) rfl))) (notFace_of_selects (args := #[]) (mvT hZ (hw _ (List.mem_of_getElem? (i := 43) rfl)))) (mvT hZ (hw _ (List.mem_of_getElem? (i := 43) rfl))) (mvT hZ (hw _ (List.mem_of_getElem? (i := 42) rfl))) (by decide) (backOf (W := 0) (rm7 l Z a0 hw [] b112 (.int (0 : Int32)) (.ref ba) .null (.int (((0 : Int32) + (1 : Int32)) + (1 : Int32))) (.int (((0 : Int32) + own_sp va) + own_sp vb)) T128.heap n0 Zs128 E_b112_128 fE128 fB128 fT128 fS128 fH128 n0_b112) hZ (hw _ (List.mem_of_getElem? (i := 44) rfl)) (hw _ (List.mem_of_getElem? (i := 3) rfl)) (by decide) (by decide)) q133a q133c (g := (mkF m 220 #[.val (.int p1), .val (.int p2), .val (.int p3), .val (.int p4), .val (.int p5), .val (.int (0 : Int32)), .val (.int nc), .val (.int va), .val (.int vr), .val (.int vs), .val (.int vb), .val (.int vc), .val (.ref b112), .val (.int (1 : Int32)), .val (.int ((own_sp va) + (own_sp vb)))] [(.ref b112)])) rfl (by rw [hml]; rfl) (Steps.refl _) (argsL := []) (rest := []) (lenOf pd_1 rfl) rfl (by show 2 * 0 + _ ≤ _; exact Nat.le_of_eq rfl) (hb hby at_220) (fun _ _ => ⟨rfl, e132h, (by decide : 2 + 0 ≤ _), (by decide : 13 + 0 ≤ _)⟩)
      dsimp only [Pt.U, Pt.locs, Pt.cells, Pt.slots] at X133 l133 y133 z133 st133 hQ133
      subst l133 y133 z133
      obtain ⟨rfl, N133q, K133k, fE133⟩ := hQ133
      have E_b112_133 := (E_b112_128).keep K133k
      have A_ba_133 := (fA128).keep K133k (ninS (Ne.symm noar) nin0)
      have Zs133 := Nat.le_trans Zs128 K133k.1
      have N133 := Fr.app N132 N133q
      refine own_step (fun _ kc_ => st133.trans kc_) ?_
      show own_Ends p e below s _ _ _ (T133.setTop (mkF m 223 #[.val (.int p1), .val (.int p2), .val (.int p3), .val (.int p4), .val (.int p5), .val (.int (0 : Int32)), .val (.int nc), .val (.int va), .val (.int vr), .val (.int vs), .val (.int vb), .val (.int vc), .val (.ref b112), .val (.int (1 : Int32)), .val (.int ((own_sp va) + (own_sp vb)))] []))
      refine own_step (fun _ kc_ => XS.iload X133.here hx rfl (hb hby at_223) rfl (XS.ifNo X133.here hx rfl (hb hby at_225) rfl (XT.i0_eq_f (by decide : ¬ ((1 : Int32) = 0))) (XS.aload X133.here hx rfl (hb hby at_228) rfl rfl kc_))) ?_
      show own_Ends p e below s _ _ _ (T133.setTop (mkF m 230 #[.val (.int p1), .val (.int p2), .val (.int p3), .val (.int p4), .val (.int p5), .val (.int (0 : Int32)), .val (.int nc), .val (.int va), .val (.int vr), .val (.int vs), .val (.int vb), .val (.int vc), .val (.ref b112), .val (.int (1 : Int32)), .val (.int ((own_sp va) + (own_sp vb)))] [(.ref b112)]))
      obtain ⟨cq134, kq134, q134a, q134b, q134c⟩ := isOf hZ rfl E_b112_133
      obtain ⟨_, _, ⟨T134, L134, k134, n134⟩, -, X134, ⟨Lc134, hQ134, l134, y134, z134⟩, st134⟩ := X133.virtualBack hx (y := (⟨"com/example/kinds_by_value/kindsbyvalue/NameSet", "hashCode", "()I"⟩ : MethodName)) (z := (⟨"com/example/kinds_by_value/kindsbyvalue/NameSet", "hashCode", "()I"⟩ : MethodName)) hown (mvT hZ (hw _ (List.mem_of_getElem? (i := 13) rfl))) (mvT hZ (hw _ (List.mem_of_getElem? (i := 14) rfl))) (notFace_of_selects (args := #[]) (mvT hZ (hw _ (List.mem_of_getElem? (i := 16) rfl)))) (mvT hZ (hw _ (List.mem_of_getElem? (i := 16) rfl))) (mvT hZ (hw _ (List.mem_of_getElem? (i := 15) rfl))) (by decide) (backOf (W := 0) (rmH1 l Z a0 hw [] b112  T133.heap n0 Zs133 fE133) hZ (hw _ (List.mem_of_getElem? (i := 17) rfl)) (hw _ (List.mem_of_getElem? (i := 3) rfl)) (by decide) (by decide)) q134a q134c (g := (mkF m 230 #[.val (.int p1), .val (.int p2), .val (.int p3), .val (.int p4), .val (.int p5), .val (.int (0 : Int32)), .val (.int nc), .val (.int va), .val (.int vr), .val (.int vs), .val (.int vb), .val (.int vc), .val (.ref b112), .val (.int (1 : Int32)), .val (.int ((own_sp va) + (own_sp vb)))] [(.ref b112)])) rfl (by rw [hml]; rfl) (Steps.refl _) (argsL := []) (rest := []) (lenOf pd_6 rfl) rfl (by show 2 * 0 + _ ≤ _; exact Nat.le_of_eq rfl) (hb hby at_230) (fun _ _ => ⟨rfl, rfl, (by decide : 2 + 0 ≤ _), (by decide : 13 + 0 ≤ _)⟩)
      dsimp only [Pt.U, Pt.locs, Pt.cells, Pt.slots] at X134 l134 y134 z134 st134 hQ134
      subst l134 y134 z134
      obtain ⟨rfl, N134q, e134⟩ := hQ134
      have e134h : T134.heap = T133.heap := e134
      have N134 := Fr.app N133 N134q
      refine own_step (fun _ kc_ => st134.trans kc_) ?_
      show own_Ends p e below s _ _ _ (T134.setTop (mkF m 233 #[.val (.int p1), .val (.int p2), .val (.int p3), .val (.int p4), .val (.int p5), .val (.int (0 : Int32)), .val (.int nc), .val (.int va), .val (.int vr), .val (.int vs), .val (.int vb), .val (.int vc), .val (.ref b112), .val (.int (1 : Int32)), .val (.int ((own_sp va) + (own_sp vb)))] [(.int (-1 : Int32))]))
      refine own_step (fun _ kc_ => XS.iconst X134.here hx rfl (hb hby at_233) (XS.icmpNo X134.here hx rfl (hb hby at_234) rfl (XT.ii_ne_f (rfl : (-1 : Int32) = (-1 : Int32))) (XS.iconst X134.here hx rfl (hb hby at_237) (XS.goto X134.here hx rfl (pc0 := 238) (pc' := 242) rfl (hb hby at_238) (by decide) (by decide) (XS.istore X134.here hx rfl (hb hby at_242) rfl (l' := #[.val (.int p1), .val (.int p2), .val (.int p3), .val (.int p4), .val (.int p5), .val (.int (0 : Int32)), .val (.int nc), .val (.int va), .val (.int vr), .val (.int vs), .val (.int vb), .val (.int vc), .val (.ref b112), .val (.int (1 : Int32)), .val (.int ((own_sp va) + (own_sp vb)))]) rfl (XS.iload X134.here hx rfl (hb hby at_244) rfl kc_)))))) ?_
      show own_Ends p e below s _ _ _ (T134.setTop (mkF m 246 #[.val (.int p1), .val (.int p2), .val (.int p3), .val (.int p4), .val (.int p5), .val (.int (0 : Int32)), .val (.int nc), .val (.int va), .val (.int vr), .val (.int vs), .val (.int vb), .val (.int vc), .val (.ref b112), .val (.int (1 : Int32)), .val (.int ((own_sp va) + (own_sp vb)))] [(.int (1 : Int32))]))
      exact own_retN X134 hx (t := .boolean) hret (by simp) hlk (hb hby at_246) (by decide) (by decide) rfl ⟨rfl, N134⟩
    · show own_Ends p e below s _ _ _ (T128.setTop (mkF m 140 #[.val (.int p1), .val (.int p2), .val (.int p3), .val (.int p4), .val (.int p5), .val (.int (0 : Int32)), .val (.int nc), .val (.int va), .val (.int vr), .val (.int vs), .val (.int vb), .val (.int vc), .val (.ref b112), .val (.int (1 : Int32)), .unset] []))
      refine own_step (fun _ kc_ => XS.aload X128.here hx rfl (hb hby at_140) rfl rfl kc_) ?_
      show own_Ends p e below s _ _ _ (T128.setTop (mkF m 142 #[.val (.int p1), .val (.int p2), .val (.int p3), .val (.int p4), .val (.int p5), .val (.int (0 : Int32)), .val (.int nc), .val (.int va), .val (.int vr), .val (.int vs), .val (.int vb), .val (.int vc), .val (.ref b112), .val (.int (1 : Int32)), .unset] [(.ref b112)]))
      by_cases hcb : vc = vb
      · show own_Ends p e below s _ _ _ (T128.setTop (mkF m 142 #[.val (.int p1), .val (.int p2), .val (.int p3), .val (.int p4), .val (.int p5), .val (.int (0 : Int32)), .val (.int nc), .val (.int va), .val (.int vr), .val (.int vs), .val (.int vb), .val (.int vc), .val (.ref b112), .val (.int (1 : Int32)), .unset] [(.ref b112)]))
        refine own_step (fun _ kc_ => XS.iload X128.here hx rfl (hb hby at_142) rfl kc_) ?_
        show own_Ends p e below s _ _ _ (T128.setTop (mkF m 144 #[.val (.int p1), .val (.int p2), .val (.int p3), .val (.int p4), .val (.int p5), .val (.int (0 : Int32)), .val (.int nc), .val (.int va), .val (.int vr), .val (.int vs), .val (.int vb), .val (.int vc), .val (.ref b112), .val (.int (1 : Int32)), .unset] [(.int vc), (.ref b112)]))
        have hin : vc ∈ [vb, va] := by simp [hcb]
        have hrk3 := own_bin G128 oc hin
        obtain ⟨cq135, kq135, q135a, q135b, q135c⟩ := isOf hZ rfl E_b112_128
        obtain ⟨_, _, ⟨T135, L135, k135, n135⟩, -, X135, ⟨Lc135, hQ135, l135, y135, z135⟩, st135⟩ := X128.virtualBack hx (y := (⟨"com/example/kinds_by_value/kindsbyvalue/NameSet", "add", "(I)Z"⟩ : MethodName)) (z := (⟨"com/example/kinds_by_value/kindsbyvalue/NameSet", "add", "(I)Z"⟩ : MethodName)) hown (mvT hZ (hw _ (List.mem_of_getElem? (i := 22) rfl))) (mvT hZ (hw _ (List.mem_of_getElem? (i := 23) rfl))) (notFace_of_selects (args := #[]) (mvT hZ (hw _ (List.mem_of_getElem? (i := 25) rfl)))) (mvT hZ (hw _ (List.mem_of_getElem? (i := 25) rfl))) (mvT hZ (hw _ (List.mem_of_getElem? (i := 24) rfl))) (by decide) (backOf (W := 0) (rmAB1 l Z a0 hw [] b112 vc ba ts128 T128.heap n0 Zs128 E_b112_128 fE128 fB128 fA128 oc.1 (own_ql G128 oc) hrk3) hZ (hw _ (List.mem_of_getElem? (i := 26) rfl)) (hw _ (List.mem_of_getElem? (i := 3) rfl)) (by decide) (by decide)) q135a q135c (g := (mkF m 144 #[.val (.int p1), .val (.int p2), .val (.int p3), .val (.int p4), .val (.int p5), .val (.int (0 : Int32)), .val (.int nc), .val (.int va), .val (.int vr), .val (.int vs), .val (.int vb), .val (.int vc), .val (.ref b112), .val (.int (1 : Int32)), .unset] [(.int vc), (.ref b112)])) rfl (by rw [hml]; rfl) (Steps.refl _) (argsL := [(.int vc)]) (rest := []) (lenOf pd_4 rfl) rfl (by show 2 * 0 + _ ≤ _; exact Nat.le_of_eq rfl) (hb hby at_144) (fun _ _ => ⟨rfl, rfl, (by decide : 2 + 0 ≤ _), (by decide : 13 + 0 ≤ _)⟩)
        dsimp only [Pt.U, Pt.locs, Pt.cells, Pt.slots] at X135 l135 y135 z135 st135 hQ135
        subst l135 y135 z135
        obtain ⟨rfl, N135q, e135⟩ := hQ135
        have e135h : T135.heap = T128.heap := e135
        have N135 := Fr.app N128 N135q
        refine own_step (fun _ kc_ => st135.trans kc_) ?_
        show own_Ends p e below s _ _ _ (T135.setTop (mkF m 147 #[.val (.int p1), .val (.int p2), .val (.int p3), .val (.int p4), .val (.int p5), .val (.int (0 : Int32)), .val (.int nc), .val (.int va), .val (.int vr), .val (.int vs), .val (.int vb), .val (.int vc), .val (.ref b112), .val (.int (1 : Int32)), .unset] [(.int (0 : Int32))]))
        refine own_step (fun _ kc_ => XS.pop X135.here hx rfl (hb hby at_147) rfl rfl (XS.iload X135.here hx rfl (hb hby at_148) rfl kc_)) ?_
        show own_Ends p e below s _ _ _ (T135.setTop (mkF m 150 #[.val (.int p1), .val (.int p2), .val (.int p3), .val (.int p4), .val (.int p5), .val (.int (0 : Int32)), .val (.int nc), .val (.int va), .val (.int vr), .val (.int vs), .val (.int vb), .val (.int vc), .val (.ref b112), .val (.int (1 : Int32)), .unset] [(.int va)]))
        obtain ⟨_, _, ⟨T136, L136, k136, n136⟩, -, X136, ⟨Lc136, hQ136, l136, y136, z136⟩, st136⟩ := Jvm.LawKit.callS X135 hx (y := (⟨"com/example/kinds_by_value/kindsbyvalue/Hashes", "spread", "(I)I"⟩ : MethodName)) hown (mvT hZ (hw _ (List.mem_of_getElem? (i := 39) rfl))) (mvT hZ (hw _ (List.mem_of_getElem? (i := 35) rfl))) (mvT hZ (hw _ (List.mem_of_getElem? (i := 36) rfl))) (mvT hZ (hw _ (List.mem_of_getElem? (i := 37) rfl))) (by decide) (backOf (W := 0) (rm6 l Z a0 hw [] va  T128.heap n0 Zs128 ) hZ (hw _ (List.mem_of_getElem? (i := 37) rfl)) (hw _ (List.mem_of_getElem? (i := 36) rfl)) (by decide) (by decide)) (g := (mkF m 150 #[.val (.int p1), .val (.int p2), .val (.int p3), .val (.int p4), .val (.int p5), .val (.int (0 : Int32)), .val (.int nc), .val (.int va), .val (.int vr), .val (.int vs), .val (.int vb), .val (.int vc), .val (.ref b112), .val (.int (1 : Int32)), .unset] [(.int va)])) rfl (by rw [hml]; rfl) (argsL := [(.int va)]) (rest := []) (lenOf pd_3 rfl) rfl (by show 2 * 0 + _ ≤ _; exact Nat.le_of_eq rfl) (hb hby at_150) (fun _ _ => ⟨rfl, e135h, (by decide : 2 + 0 ≤ _), (by decide : 13 + 0 ≤ _)⟩)
        dsimp only [Pt.U, Pt.locs, Pt.cells, Pt.slots] at X136 l136 y136 z136 st136 hQ136
        subst l136 y136 z136
        obtain ⟨rfl, N136q, e136⟩ := hQ136
        have e136h : T136.heap = T128.heap := e136
        have N136 := Fr.app N135 N136q
        refine own_step (fun _ kc_ => st136 _ kc_) ?_
        show own_Ends p e below s _ _ _ (T136.setTop (mkF m 153 #[.val (.int p1), .val (.int p2), .val (.int p3), .val (.int p4), .val (.int p5), .val (.int (0 : Int32)), .val (.int nc), .val (.int va), .val (.int vr), .val (.int vs), .val (.int vb), .val (.int vc), .val (.ref b112), .val (.int (1 : Int32)), .unset] [(.int (own_sp va))]))
        refine own_step (fun _ kc_ => XS.istore X136.here hx rfl (hb hby at_153) rfl (l' := #[.val (.int p1), .val (.int p2), .val (.int p3), .val (.int p4), .val (.int p5), .val (.int (0 : Int32)), .val (.int nc), .val (.int va), .val (.int vr), .val (.int vs), .val (.int vb), .val (.int vc), .val (.ref b112), .val (.int (1 : Int32)), .val (.int (own_sp va))]) rfl (XS.iload X136.here hx rfl (hb hby at_155) rfl (XS.iload X136.here hx rfl (hb hby at_157) rfl (XS.icmpNo X136.here hx rfl (hb hby at_159) rfl (XT.ii_eq_f (hba : ¬ (vb = va))) (XS.iload X136.here hx rfl (hb hby at_162) rfl (XS.iload X136.here hx rfl (hb hby at_164) rfl kc_)))))) ?_
        show own_Ends p e below s _ _ _ (T136.setTop (mkF m 166 #[.val (.int p1), .val (.int p2), .val (.int p3), .val (.int p4), .val (.int p5), .val (.int (0 : Int32)), .val (.int nc), .val (.int va), .val (.int vr), .val (.int vs), .val (.int vb), .val (.int vc), .val (.ref b112), .val (.int (1 : Int32)), .val (.int (own_sp va))] [(.int vb), (.int (own_sp va))]))
        obtain ⟨_, _, ⟨T137, L137, k137, n137⟩, -, X137, ⟨Lc137, hQ137, l137, y137, z137⟩, st137⟩ := Jvm.LawKit.callS X136 hx (y := (⟨"com/example/kinds_by_value/kindsbyvalue/Hashes", "spread", "(I)I"⟩ : MethodName)) hown (mvT hZ (hw _ (List.mem_of_getElem? (i := 39) rfl))) (mvT hZ (hw _ (List.mem_of_getElem? (i := 35) rfl))) (mvT hZ (hw _ (List.mem_of_getElem? (i := 36) rfl))) (mvT hZ (hw _ (List.mem_of_getElem? (i := 37) rfl))) (by decide) (backOf (W := 1) (rm6 l Z a0 hw [] vb  T128.heap n0 Zs128 ) hZ (hw _ (List.mem_of_getElem? (i := 37) rfl)) (hw _ (List.mem_of_getElem? (i := 36) rfl)) (by decide) (by decide)) (g := (mkF m 166 #[.val (.int p1), .val (.int p2), .val (.int p3), .val (.int p4), .val (.int p5), .val (.int (0 : Int32)), .val (.int nc), .val (.int va), .val (.int vr), .val (.int vs), .val (.int vb), .val (.int vc), .val (.ref b112), .val (.int (1 : Int32)), .val (.int (own_sp va))] [(.int vb), (.int (own_sp va))])) rfl (by rw [hml]; rfl) (argsL := [(.int vb)]) (rest := [(.int (own_sp va))]) (lenOf pd_3 rfl) rfl (by show 2 * 0 + _ ≤ _; exact Nat.le_of_eq rfl) (hb hby at_166) (fun _ _ => ⟨rfl, e136h, (by decide : 2 + 0 ≤ _), (by decide : 13 + 0 ≤ _)⟩)
        dsimp only [Pt.U, Pt.locs, Pt.cells, Pt.slots] at X137 l137 y137 z137 st137 hQ137
        subst l137 y137 z137
        obtain ⟨rfl, N137q, e137⟩ := hQ137
        have e137h : T137.heap = T128.heap := e137
        have N137 := Fr.app N136 N137q
        refine own_step (fun _ kc_ => st137 _ kc_) ?_
        show own_Ends p e below s _ _ _ (T137.setTop (mkF m 169 #[.val (.int p1), .val (.int p2), .val (.int p3), .val (.int p4), .val (.int p5), .val (.int (0 : Int32)), .val (.int nc), .val (.int va), .val (.int vr), .val (.int vs), .val (.int vb), .val (.int vc), .val (.ref b112), .val (.int (1 : Int32)), .val (.int (own_sp va))] [(.int (own_sp vb)), (.int (own_sp va))]))
        refine own_step (fun _ kc_ => XS.iadd X137.here hx rfl (hb hby at_169) rfl (XS.istore X137.here hx rfl (hb hby at_170) rfl (l' := #[.val (.int p1), .val (.int p2), .val (.int p3), .val (.int p4), .val (.int p5), .val (.int (0 : Int32)), .val (.int nc), .val (.int va), .val (.int vr), .val (.int vs), .val (.int vb), .val (.int vc), .val (.ref b112), .val (.int (1 : Int32)), .val (.int ((own_sp va) + (own_sp vb)))]) rfl (XS.iload X137.here hx rfl (hb hby at_172) rfl (XS.iload X137.here hx rfl (hb hby at_174) rfl (XS.icmpNo X137.here hx rfl (hb hby at_176) rfl (XT.ii_eq_f (hca : ¬ (vc = va))) (XS.iload X137.here hx rfl (hb hby at_179) rfl (XS.iload X137.here hx rfl (hb hby at_181) rfl (XS.icmpYes X137.here hx rfl (pc0 := 183) (pc' := 196) rfl (hb hby at_183) rfl (XT.ii_eq_t (hcb : vc = vb)) (by decide) (by decide) kc_)))))))) ?_
        show own_Ends p e below s _ _ _ (T137.setTop (mkF m 196 #[.val (.int p1), .val (.int p2), .val (.int p3), .val (.int p4), .val (.int p5), .val (.int (0 : Int32)), .val (.int nc), .val (.int va), .val (.int vr), .val (.int vs), .val (.int vb), .val (.int vc), .val (.ref b112), .val (.int (1 : Int32)), .val (.int ((own_sp va) + (own_sp vb)))] []))
        refine own_step (fun _ kc_ => XS.iload X137.here hx rfl (hb hby at_196) rfl (XS.ifNo X137.here hx rfl (hb hby at_198) rfl (XT.i0_eq_f (by decide : ¬ ((1 : Int32) = 0))) (XS.aload X137.here hx rfl (hb hby at_201) rfl rfl kc_))) ?_
        show own_Ends p e below s _ _ _ (T137.setTop (mkF m 203 #[.val (.int p1), .val (.int p2), .val (.int p3), .val (.int p4), .val (.int p5), .val (.int (0 : Int32)), .val (.int nc), .val (.int va), .val (.int vr), .val (.int vs), .val (.int vb), .val (.int vc), .val (.ref b112), .val (.int (1 : Int32)), .val (.int ((own_sp va) + (own_sp vb)))] [(.ref b112)]))
        obtain ⟨cq138, kq138, q138a, q138b, q138c⟩ := isOf hZ e137h E_b112_128
        obtain ⟨_, _, ⟨T138, L138, k138, n138⟩, -, X138, ⟨Lc138, hQ138, l138, y138, z138⟩, st138⟩ := X137.virtualBack hx (y := (⟨"com/example/kinds_by_value/kindsbyvalue/NameSet", "hashCode", "()I"⟩ : MethodName)) (z := (⟨"com/example/kinds_by_value/kindsbyvalue/NameSet", "hashCode", "()I"⟩ : MethodName)) hown (mvT hZ (hw _ (List.mem_of_getElem? (i := 13) rfl))) (mvT hZ (hw _ (List.mem_of_getElem? (i := 14) rfl))) (notFace_of_selects (args := #[]) (mvT hZ (hw _ (List.mem_of_getElem? (i := 16) rfl)))) (mvT hZ (hw _ (List.mem_of_getElem? (i := 16) rfl))) (mvT hZ (hw _ (List.mem_of_getElem? (i := 15) rfl))) (by decide) (backOf (W := 0) (rmH0 l Z a0 hw [] b112 (((0 : Int32) + own_sp va) + own_sp vb) T128.heap n0 Zs128 fE128 fH128) hZ (hw _ (List.mem_of_getElem? (i := 17) rfl)) (hw _ (List.mem_of_getElem? (i := 3) rfl)) (by decide) (by decide)) q138a q138c (g := (mkF m 203 #[.val (.int p1), .val (.int p2), .val (.int p3), .val (.int p4), .val (.int p5), .val (.int (0 : Int32)), .val (.int nc), .val (.int va), .val (.int vr), .val (.int vs), .val (.int vb), .val (.int vc), .val (.ref b112), .val (.int (1 : Int32)), .val (.int ((own_sp va) + (own_sp vb)))] [(.ref b112)])) rfl (by rw [hml]; rfl) (Steps.refl _) (argsL := []) (rest := []) (lenOf pd_6 rfl) rfl (by show 2 * 0 + _ ≤ _; exact Nat.le_of_eq rfl) (hb hby at_203) (fun _ _ => ⟨rfl, e137h, (by decide : 2 + 0 ≤ _), (by decide : 13 + 0 ≤ _)⟩)
        dsimp only [Pt.U, Pt.locs, Pt.cells, Pt.slots] at X138 l138 y138 z138 st138 hQ138
        subst l138 y138 z138
        obtain ⟨rfl, N138q, e138⟩ := hQ138
        have e138h : T138.heap = T128.heap := e138
        have N138 := Fr.app N137 N138q
        refine own_step (fun _ kc_ => st138.trans kc_) ?_
        show own_Ends p e below s _ _ _ (T138.setTop (mkF m 206 #[.val (.int p1), .val (.int p2), .val (.int p3), .val (.int p4), .val (.int p5), .val (.int (0 : Int32)), .val (.int nc), .val (.int va), .val (.int vr), .val (.int vs), .val (.int vb), .val (.int vc), .val (.ref b112), .val (.int (1 : Int32)), .val (.int ((own_sp va) + (own_sp vb)))] [(.int (((0 : Int32) + own_sp va) + own_sp vb))]))
        refine own_step (fun _ kc_ => XS.iload X138.here hx rfl (hb hby at_206) rfl (XS.icmpNo X138.here hx rfl (hb hby at_208) rfl (XT.ii_ne_f (by simp only [Int32.zero_add] : (((0 : Int32) + own_sp va) + own_sp vb) = ((own_sp va) + (own_sp vb)))) (XS.iconst X138.here hx rfl (hb hby at_211) (XS.goto X138.here hx rfl (pc0 := 212) (pc' := 216) rfl (hb hby at_212) (by decide) (by decide) (XS.istore X138.here hx rfl (hb hby at_216) rfl (l' := #[.val (.int p1), .val (.int p2), .val (.int p3), .val (.int p4), .val (.int p5), .val (.int (0 : Int32)), .val (.int nc), .val (.int va), .val (.int vr), .val (.int vs), .val (.int vb), .val (.int vc), .val (.ref b112), .val (.int (1 : Int32)), .val (.int ((own_sp va) + (own_sp vb)))]) rfl (XS.aload X138.here hx rfl (hb hby at_218) rfl rfl kc_)))))) ?_
        show own_Ends p e below s _ _ _ (T138.setTop (mkF m 220 #[.val (.int p1), .val (.int p2), .val (.int p3), .val (.int p4), .val (.int p5), .val (.int (0 : Int32)), .val (.int nc), .val (.int va), .val (.int vr), .val (.int vs), .val (.int vb), .val (.int vc), .val (.ref b112), .val (.int (1 : Int32)), .val (.int ((own_sp va) + (own_sp vb)))] [(.ref b112)]))
        obtain ⟨cq139, kq139, q139a, q139b, q139c⟩ := isOf hZ e138h E_b112_128
        obtain ⟨_, _, ⟨T139, L139, k139, n139⟩, -, X139, ⟨Lc139, hQ139, l139, y139, z139⟩, st139⟩ := X138.virtualBack hx (y := (⟨"com/example/kinds_by_value/kindsbyvalue/NameSet", "addEveryName", "()V"⟩ : MethodName)) (z := (⟨"com/example/kinds_by_value/kindsbyvalue/NameSet", "addEveryName", "()V"⟩ : MethodName)) hown (mvT hZ (hw _ (List.mem_of_getElem? (i := 40) rfl))) (mvT hZ (hw _ (List.mem_of_getElem? (i := 41) rfl))) (notFace_of_selects (args := #[]) (mvT hZ (hw _ (List.mem_of_getElem? (i := 43) rfl)))) (mvT hZ (hw _ (List.mem_of_getElem? (i := 43) rfl))) (mvT hZ (hw _ (List.mem_of_getElem? (i := 42) rfl))) (by decide) (backOf (W := 0) (rm7 l Z a0 hw [] b112 (.int (0 : Int32)) (.ref ba) .null (.int (((0 : Int32) + (1 : Int32)) + (1 : Int32))) (.int (((0 : Int32) + own_sp va) + own_sp vb)) T128.heap n0 Zs128 E_b112_128 fE128 fB128 fT128 fS128 fH128 n0_b112) hZ (hw _ (List.mem_of_getElem? (i := 44) rfl)) (hw _ (List.mem_of_getElem? (i := 3) rfl)) (by decide) (by decide)) q139a q139c (g := (mkF m 220 #[.val (.int p1), .val (.int p2), .val (.int p3), .val (.int p4), .val (.int p5), .val (.int (0 : Int32)), .val (.int nc), .val (.int va), .val (.int vr), .val (.int vs), .val (.int vb), .val (.int vc), .val (.ref b112), .val (.int (1 : Int32)), .val (.int ((own_sp va) + (own_sp vb)))] [(.ref b112)])) rfl (by rw [hml]; rfl) (Steps.refl _) (argsL := []) (rest := []) (lenOf pd_1 rfl) rfl (by show 2 * 0 + _ ≤ _; exact Nat.le_of_eq rfl) (hb hby at_220) (fun _ _ => ⟨rfl, e138h, (by decide : 2 + 0 ≤ _), (by decide : 13 + 0 ≤ _)⟩)
        dsimp only [Pt.U, Pt.locs, Pt.cells, Pt.slots] at X139 l139 y139 z139 st139 hQ139
        subst l139 y139 z139
        obtain ⟨rfl, N139q, K139k, fE139⟩ := hQ139
        have E_b112_139 := (E_b112_128).keep K139k
        have A_ba_139 := (fA128).keep K139k (ninS (Ne.symm noar) nin0)
        have Zs139 := Nat.le_trans Zs128 K139k.1
        have N139 := Fr.app N138 N139q
        refine own_step (fun _ kc_ => st139.trans kc_) ?_
        show own_Ends p e below s _ _ _ (T139.setTop (mkF m 223 #[.val (.int p1), .val (.int p2), .val (.int p3), .val (.int p4), .val (.int p5), .val (.int (0 : Int32)), .val (.int nc), .val (.int va), .val (.int vr), .val (.int vs), .val (.int vb), .val (.int vc), .val (.ref b112), .val (.int (1 : Int32)), .val (.int ((own_sp va) + (own_sp vb)))] []))
        refine own_step (fun _ kc_ => XS.iload X139.here hx rfl (hb hby at_223) rfl (XS.ifNo X139.here hx rfl (hb hby at_225) rfl (XT.i0_eq_f (by decide : ¬ ((1 : Int32) = 0))) (XS.aload X139.here hx rfl (hb hby at_228) rfl rfl kc_))) ?_
        show own_Ends p e below s _ _ _ (T139.setTop (mkF m 230 #[.val (.int p1), .val (.int p2), .val (.int p3), .val (.int p4), .val (.int p5), .val (.int (0 : Int32)), .val (.int nc), .val (.int va), .val (.int vr), .val (.int vs), .val (.int vb), .val (.int vc), .val (.ref b112), .val (.int (1 : Int32)), .val (.int ((own_sp va) + (own_sp vb)))] [(.ref b112)]))
        obtain ⟨cq140, kq140, q140a, q140b, q140c⟩ := isOf hZ rfl E_b112_139
        obtain ⟨_, _, ⟨T140, L140, k140, n140⟩, -, X140, ⟨Lc140, hQ140, l140, y140, z140⟩, st140⟩ := X139.virtualBack hx (y := (⟨"com/example/kinds_by_value/kindsbyvalue/NameSet", "hashCode", "()I"⟩ : MethodName)) (z := (⟨"com/example/kinds_by_value/kindsbyvalue/NameSet", "hashCode", "()I"⟩ : MethodName)) hown (mvT hZ (hw _ (List.mem_of_getElem? (i := 13) rfl))) (mvT hZ (hw _ (List.mem_of_getElem? (i := 14) rfl))) (notFace_of_selects (args := #[]) (mvT hZ (hw _ (List.mem_of_getElem? (i := 16) rfl)))) (mvT hZ (hw _ (List.mem_of_getElem? (i := 16) rfl))) (mvT hZ (hw _ (List.mem_of_getElem? (i := 15) rfl))) (by decide) (backOf (W := 0) (rmH1 l Z a0 hw [] b112  T139.heap n0 Zs139 fE139) hZ (hw _ (List.mem_of_getElem? (i := 17) rfl)) (hw _ (List.mem_of_getElem? (i := 3) rfl)) (by decide) (by decide)) q140a q140c (g := (mkF m 230 #[.val (.int p1), .val (.int p2), .val (.int p3), .val (.int p4), .val (.int p5), .val (.int (0 : Int32)), .val (.int nc), .val (.int va), .val (.int vr), .val (.int vs), .val (.int vb), .val (.int vc), .val (.ref b112), .val (.int (1 : Int32)), .val (.int ((own_sp va) + (own_sp vb)))] [(.ref b112)])) rfl (by rw [hml]; rfl) (Steps.refl _) (argsL := []) (rest := []) (lenOf pd_6 rfl) rfl (by show 2 * 0 + _ ≤ _; exact Nat.le_of_eq rfl) (hb hby at_230) (fun _ _ => ⟨rfl, rfl, (by decide : 2 + 0 ≤ _), (by decide : 13 + 0 ≤ _)⟩)
        dsimp only [Pt.U, Pt.locs, Pt.cells, Pt.slots] at X140 l140 y140 z140 st140 hQ140
        subst l140 y140 z140
        obtain ⟨rfl, N140q, e140⟩ := hQ140
        have e140h : T140.heap = T139.heap := e140
        have N140 := Fr.app N139 N140q
        refine own_step (fun _ kc_ => st140.trans kc_) ?_
        show own_Ends p e below s _ _ _ (T140.setTop (mkF m 233 #[.val (.int p1), .val (.int p2), .val (.int p3), .val (.int p4), .val (.int p5), .val (.int (0 : Int32)), .val (.int nc), .val (.int va), .val (.int vr), .val (.int vs), .val (.int vb), .val (.int vc), .val (.ref b112), .val (.int (1 : Int32)), .val (.int ((own_sp va) + (own_sp vb)))] [(.int (-1 : Int32))]))
        refine own_step (fun _ kc_ => XS.iconst X140.here hx rfl (hb hby at_233) (XS.icmpNo X140.here hx rfl (hb hby at_234) rfl (XT.ii_ne_f (rfl : (-1 : Int32) = (-1 : Int32))) (XS.iconst X140.here hx rfl (hb hby at_237) (XS.goto X140.here hx rfl (pc0 := 238) (pc' := 242) rfl (hb hby at_238) (by decide) (by decide) (XS.istore X140.here hx rfl (hb hby at_242) rfl (l' := #[.val (.int p1), .val (.int p2), .val (.int p3), .val (.int p4), .val (.int p5), .val (.int (0 : Int32)), .val (.int nc), .val (.int va), .val (.int vr), .val (.int vs), .val (.int vb), .val (.int vc), .val (.ref b112), .val (.int (1 : Int32)), .val (.int ((own_sp va) + (own_sp vb)))]) rfl (XS.iload X140.here hx rfl (hb hby at_244) rfl kc_)))))) ?_
        show own_Ends p e below s _ _ _ (T140.setTop (mkF m 246 #[.val (.int p1), .val (.int p2), .val (.int p3), .val (.int p4), .val (.int p5), .val (.int (0 : Int32)), .val (.int nc), .val (.int va), .val (.int vr), .val (.int vs), .val (.int vb), .val (.int vc), .val (.ref b112), .val (.int (1 : Int32)), .val (.int ((own_sp va) + (own_sp vb)))] [(.int (1 : Int32))]))
        exact own_retN X140 hx (t := .boolean) hret (by simp) hlk (hb hby at_246) (by decide) (by decide) rfl ⟨rfl, N140⟩
      · show own_Ends p e below s _ _ _ (T128.setTop (mkF m 142 #[.val (.int p1), .val (.int p2), .val (.int p3), .val (.int p4), .val (.int p5), .val (.int (0 : Int32)), .val (.int nc), .val (.int va), .val (.int vr), .val (.int vs), .val (.int vb), .val (.int vc), .val (.ref b112), .val (.int (1 : Int32)), .unset] [(.ref b112)]))
        refine own_step (fun _ kc_ => XS.iload X128.here hx rfl (hb hby at_142) rfl kc_) ?_
        show own_Ends p e below s _ _ _ (T128.setTop (mkF m 144 #[.val (.int p1), .val (.int p2), .val (.int p3), .val (.int p4), .val (.int p5), .val (.int (0 : Int32)), .val (.int nc), .val (.int va), .val (.int vr), .val (.int vs), .val (.int vb), .val (.int vc), .val (.ref b112), .val (.int (1 : Int32)), .unset] [(.int vc), (.ref b112)]))
        have hin : vc ∉ [vb, va] := by simp [hca, hcb]
        have hrk3 := own_bout G128 oc hin
        obtain ⟨cq141, kq141, q141a, q141b, q141c⟩ := isOf hZ rfl E_b112_128
        obtain ⟨_, _, ⟨T141, L141, k141, n141⟩, -, X141, ⟨Lc141, hQ141, l141, y141, z141⟩, st141⟩ := X128.virtualBack hx (y := (⟨"com/example/kinds_by_value/kindsbyvalue/NameSet", "add", "(I)Z"⟩ : MethodName)) (z := (⟨"com/example/kinds_by_value/kindsbyvalue/NameSet", "add", "(I)Z"⟩ : MethodName)) hown (mvT hZ (hw _ (List.mem_of_getElem? (i := 22) rfl))) (mvT hZ (hw _ (List.mem_of_getElem? (i := 23) rfl))) (notFace_of_selects (args := #[]) (mvT hZ (hw _ (List.mem_of_getElem? (i := 25) rfl)))) (mvT hZ (hw _ (List.mem_of_getElem? (i := 25) rfl))) (mvT hZ (hw _ (List.mem_of_getElem? (i := 24) rfl))) (by decide) (backOf (W := 0) (rmAB0 l Z a0 hw [] b112 vc ba ts128 (((0 : Int32) + (1 : Int32)) + (1 : Int32)) (((0 : Int32) + own_sp va) + own_sp vb) T128.heap n0 Zs128 E_b112_128 fE128 fB128 fA128 oc.1 (own_ql G128 oc) hrk3 fT128 fS128 fH128 n0_b112 n0ar noar) hZ (hw _ (List.mem_of_getElem? (i := 26) rfl)) (hw _ (List.mem_of_getElem? (i := 3) rfl)) (by decide) (by decide)) q141a q141c (g := (mkF m 144 #[.val (.int p1), .val (.int p2), .val (.int p3), .val (.int p4), .val (.int p5), .val (.int (0 : Int32)), .val (.int nc), .val (.int va), .val (.int vr), .val (.int vs), .val (.int vb), .val (.int vc), .val (.ref b112), .val (.int (1 : Int32)), .unset] [(.int vc), (.ref b112)])) rfl (by rw [hml]; rfl) (Steps.refl _) (argsL := [(.int vc)]) (rest := []) (lenOf pd_4 rfl) rfl (by show 2 * 0 + _ ≤ _; exact Nat.le_of_eq rfl) (hb hby at_144) (fun _ _ => ⟨rfl, rfl, (by decide : 2 + 0 ≤ _), (by decide : 13 + 0 ≤ _)⟩)
        dsimp only [Pt.U, Pt.locs, Pt.cells, Pt.slots] at X141 l141 y141 z141 st141 hQ141
        subst l141 y141 z141
        obtain ⟨rfl, N141q, K141k, fE141, fS141, fH141, fB141, fT141, fA141⟩ := hQ141
        have E_b112_141 := (E_b112_128).keep K141k
        have Zs141 := Nat.le_trans Zs128 K141k.1
        have N141 := Fr.app N128 N141q
        refine own_step (fun _ kc_ => st141.trans kc_) ?_
        show own_Ends p e below s _ _ _ (T141.setTop (mkF m 147 #[.val (.int p1), .val (.int p2), .val (.int p3), .val (.int p4), .val (.int p5), .val (.int (0 : Int32)), .val (.int nc), .val (.int va), .val (.int vr), .val (.int vs), .val (.int vb), .val (.int vc), .val (.ref b112), .val (.int (1 : Int32)), .unset] [(.int (1 : Int32))]))
        refine own_step (fun _ kc_ => XS.pop X141.here hx rfl (hb hby at_147) rfl rfl (XS.iload X141.here hx rfl (hb hby at_148) rfl kc_)) ?_
        show own_Ends p e below s _ _ _ (T141.setTop (mkF m 150 #[.val (.int p1), .val (.int p2), .val (.int p3), .val (.int p4), .val (.int p5), .val (.int (0 : Int32)), .val (.int nc), .val (.int va), .val (.int vr), .val (.int vs), .val (.int vb), .val (.int vc), .val (.ref b112), .val (.int (1 : Int32)), .unset] [(.int va)]))
        obtain ⟨_, _, ⟨T142, L142, k142, n142⟩, -, X142, ⟨Lc142, hQ142, l142, y142, z142⟩, st142⟩ := Jvm.LawKit.callS X141 hx (y := (⟨"com/example/kinds_by_value/kindsbyvalue/Hashes", "spread", "(I)I"⟩ : MethodName)) hown (mvT hZ (hw _ (List.mem_of_getElem? (i := 39) rfl))) (mvT hZ (hw _ (List.mem_of_getElem? (i := 35) rfl))) (mvT hZ (hw _ (List.mem_of_getElem? (i := 36) rfl))) (mvT hZ (hw _ (List.mem_of_getElem? (i := 37) rfl))) (by decide) (backOf (W := 0) (rm6 l Z a0 hw [] va  T141.heap n0 Zs141 ) hZ (hw _ (List.mem_of_getElem? (i := 37) rfl)) (hw _ (List.mem_of_getElem? (i := 36) rfl)) (by decide) (by decide)) (g := (mkF m 150 #[.val (.int p1), .val (.int p2), .val (.int p3), .val (.int p4), .val (.int p5), .val (.int (0 : Int32)), .val (.int nc), .val (.int va), .val (.int vr), .val (.int vs), .val (.int vb), .val (.int vc), .val (.ref b112), .val (.int (1 : Int32)), .unset] [(.int va)])) rfl (by rw [hml]; rfl) (argsL := [(.int va)]) (rest := []) (lenOf pd_3 rfl) rfl (by show 2 * 0 + _ ≤ _; exact Nat.le_of_eq rfl) (hb hby at_150) (fun _ _ => ⟨rfl, rfl, (by decide : 2 + 0 ≤ _), (by decide : 13 + 0 ≤ _)⟩)
        dsimp only [Pt.U, Pt.locs, Pt.cells, Pt.slots] at X142 l142 y142 z142 st142 hQ142
        subst l142 y142 z142
        obtain ⟨rfl, N142q, e142⟩ := hQ142
        have e142h : T142.heap = T141.heap := e142
        have N142 := Fr.app N141 N142q
        refine own_step (fun _ kc_ => st142 _ kc_) ?_
        show own_Ends p e below s _ _ _ (T142.setTop (mkF m 153 #[.val (.int p1), .val (.int p2), .val (.int p3), .val (.int p4), .val (.int p5), .val (.int (0 : Int32)), .val (.int nc), .val (.int va), .val (.int vr), .val (.int vs), .val (.int vb), .val (.int vc), .val (.ref b112), .val (.int (1 : Int32)), .unset] [(.int (own_sp va))]))
        refine own_step (fun _ kc_ => XS.istore X142.here hx rfl (hb hby at_153) rfl (l' := #[.val (.int p1), .val (.int p2), .val (.int p3), .val (.int p4), .val (.int p5), .val (.int (0 : Int32)), .val (.int nc), .val (.int va), .val (.int vr), .val (.int vs), .val (.int vb), .val (.int vc), .val (.ref b112), .val (.int (1 : Int32)), .val (.int (own_sp va))]) rfl (XS.iload X142.here hx rfl (hb hby at_155) rfl (XS.iload X142.here hx rfl (hb hby at_157) rfl (XS.icmpNo X142.here hx rfl (hb hby at_159) rfl (XT.ii_eq_f (hba : ¬ (vb = va))) (XS.iload X142.here hx rfl (hb hby at_162) rfl (XS.iload X142.here hx rfl (hb hby at_164) rfl kc_)))))) ?_
        show own_Ends p e below s _ _ _ (T142.setTop (mkF m 166 #[.val (.int p1), .val (.int p2), .val (.int p3), .val (.int p4), .val (.int p5), .val (.int (0 : Int32)), .val (.int nc), .val (.int va), .val (.int vr), .val (.int vs), .val (.int vb), .val (.int vc), .val (.ref b112), .val (.int (1 : Int32)), .val (.int (own_sp va))] [(.int vb), (.int (own_sp va))]))
        obtain ⟨_, _, ⟨T143, L143, k143, n143⟩, -, X143, ⟨Lc143, hQ143, l143, y143, z143⟩, st143⟩ := Jvm.LawKit.callS X142 hx (y := (⟨"com/example/kinds_by_value/kindsbyvalue/Hashes", "spread", "(I)I"⟩ : MethodName)) hown (mvT hZ (hw _ (List.mem_of_getElem? (i := 39) rfl))) (mvT hZ (hw _ (List.mem_of_getElem? (i := 35) rfl))) (mvT hZ (hw _ (List.mem_of_getElem? (i := 36) rfl))) (mvT hZ (hw _ (List.mem_of_getElem? (i := 37) rfl))) (by decide) (backOf (W := 1) (rm6 l Z a0 hw [] vb  T141.heap n0 Zs141 ) hZ (hw _ (List.mem_of_getElem? (i := 37) rfl)) (hw _ (List.mem_of_getElem? (i := 36) rfl)) (by decide) (by decide)) (g := (mkF m 166 #[.val (.int p1), .val (.int p2), .val (.int p3), .val (.int p4), .val (.int p5), .val (.int (0 : Int32)), .val (.int nc), .val (.int va), .val (.int vr), .val (.int vs), .val (.int vb), .val (.int vc), .val (.ref b112), .val (.int (1 : Int32)), .val (.int (own_sp va))] [(.int vb), (.int (own_sp va))])) rfl (by rw [hml]; rfl) (argsL := [(.int vb)]) (rest := [(.int (own_sp va))]) (lenOf pd_3 rfl) rfl (by show 2 * 0 + _ ≤ _; exact Nat.le_of_eq rfl) (hb hby at_166) (fun _ _ => ⟨rfl, e142h, (by decide : 2 + 0 ≤ _), (by decide : 13 + 0 ≤ _)⟩)
        dsimp only [Pt.U, Pt.locs, Pt.cells, Pt.slots] at X143 l143 y143 z143 st143 hQ143
        subst l143 y143 z143
        obtain ⟨rfl, N143q, e143⟩ := hQ143
        have e143h : T143.heap = T141.heap := e143
        have N143 := Fr.app N142 N143q
        refine own_step (fun _ kc_ => st143 _ kc_) ?_
        show own_Ends p e below s _ _ _ (T143.setTop (mkF m 169 #[.val (.int p1), .val (.int p2), .val (.int p3), .val (.int p4), .val (.int p5), .val (.int (0 : Int32)), .val (.int nc), .val (.int va), .val (.int vr), .val (.int vs), .val (.int vb), .val (.int vc), .val (.ref b112), .val (.int (1 : Int32)), .val (.int (own_sp va))] [(.int (own_sp vb)), (.int (own_sp va))]))
        refine own_step (fun _ kc_ => XS.iadd X143.here hx rfl (hb hby at_169) rfl (XS.istore X143.here hx rfl (hb hby at_170) rfl (l' := #[.val (.int p1), .val (.int p2), .val (.int p3), .val (.int p4), .val (.int p5), .val (.int (0 : Int32)), .val (.int nc), .val (.int va), .val (.int vr), .val (.int vs), .val (.int vb), .val (.int vc), .val (.ref b112), .val (.int (1 : Int32)), .val (.int ((own_sp va) + (own_sp vb)))]) rfl (XS.iload X143.here hx rfl (hb hby at_172) rfl (XS.iload X143.here hx rfl (hb hby at_174) rfl (XS.icmpNo X143.here hx rfl (hb hby at_176) rfl (XT.ii_eq_f (hca : ¬ (vc = va))) (XS.iload X143.here hx rfl (hb hby at_179) rfl (XS.iload X143.here hx rfl (hb hby at_181) rfl (XS.icmpNo X143.here hx rfl (hb hby at_183) rfl (XT.ii_eq_f (hcb : ¬ (vc = vb))) kc_)))))))) ?_
        show own_Ends p e below s _ _ _ (T143.setTop (mkF m 186 #[.val (.int p1), .val (.int p2), .val (.int p3), .val (.int p4), .val (.int p5), .val (.int (0 : Int32)), .val (.int nc), .val (.int va), .val (.int vr), .val (.int vs), .val (.int vb), .val (.int vc), .val (.ref b112), .val (.int (1 : Int32)), .val (.int ((own_sp va) + (own_sp vb)))] []))
        refine own_step (fun _ kc_ => XS.iload X143.here hx rfl (hb hby at_186) rfl (XS.iload X143.here hx rfl (hb hby at_188) rfl kc_)) ?_
        show own_Ends p e below s _ _ _ (T143.setTop (mkF m 190 #[.val (.int p1), .val (.int p2), .val (.int p3), .val (.int p4), .val (.int p5), .val (.int (0 : Int32)), .val (.int nc), .val (.int va), .val (.int vr), .val (.int vs), .val (.int vb), .val (.int vc), .val (.ref b112), .val (.int (1 : Int32)), .val (.int ((own_sp va) + (own_sp vb)))] [(.int vc), (.int ((own_sp va) + (own_sp vb)))]))
        obtain ⟨_, _, ⟨T144, L144, k144, n144⟩, -, X144, ⟨Lc144, hQ144, l144, y144, z144⟩, st144⟩ := Jvm.LawKit.callS X143 hx (y := (⟨"com/example/kinds_by_value/kindsbyvalue/Hashes", "spread", "(I)I"⟩ : MethodName)) hown (mvT hZ (hw _ (List.mem_of_getElem? (i := 39) rfl))) (mvT hZ (hw _ (List.mem_of_getElem? (i := 35) rfl))) (mvT hZ (hw _ (List.mem_of_getElem? (i := 36) rfl))) (mvT hZ (hw _ (List.mem_of_getElem? (i := 37) rfl))) (by decide) (backOf (W := 1) (rm6 l Z a0 hw [] vc  T141.heap n0 Zs141 ) hZ (hw _ (List.mem_of_getElem? (i := 37) rfl)) (hw _ (List.mem_of_getElem? (i := 36) rfl)) (by decide) (by decide)) (g := (mkF m 190 #[.val (.int p1), .val (.int p2), .val (.int p3), .val (.int p4), .val (.int p5), .val (.int (0 : Int32)), .val (.int nc), .val (.int va), .val (.int vr), .val (.int vs), .val (.int vb), .val (.int vc), .val (.ref b112), .val (.int (1 : Int32)), .val (.int ((own_sp va) + (own_sp vb)))] [(.int vc), (.int ((own_sp va) + (own_sp vb)))])) rfl (by rw [hml]; rfl) (argsL := [(.int vc)]) (rest := [(.int ((own_sp va) + (own_sp vb)))]) (lenOf pd_3 rfl) rfl (by show 2 * 0 + _ ≤ _; exact Nat.le_of_eq rfl) (hb hby at_190) (fun _ _ => ⟨rfl, e143h, (by decide : 2 + 0 ≤ _), (by decide : 13 + 0 ≤ _)⟩)
        dsimp only [Pt.U, Pt.locs, Pt.cells, Pt.slots] at X144 l144 y144 z144 st144 hQ144
        subst l144 y144 z144
        obtain ⟨rfl, N144q, e144⟩ := hQ144
        have e144h : T144.heap = T141.heap := e144
        have N144 := Fr.app N143 N144q
        refine own_step (fun _ kc_ => st144 _ kc_) ?_
        show own_Ends p e below s _ _ _ (T144.setTop (mkF m 193 #[.val (.int p1), .val (.int p2), .val (.int p3), .val (.int p4), .val (.int p5), .val (.int (0 : Int32)), .val (.int nc), .val (.int va), .val (.int vr), .val (.int vs), .val (.int vb), .val (.int vc), .val (.ref b112), .val (.int (1 : Int32)), .val (.int ((own_sp va) + (own_sp vb)))] [(.int (own_sp vc)), (.int ((own_sp va) + (own_sp vb)))]))
        refine own_step (fun _ kc_ => XS.iadd X144.here hx rfl (hb hby at_193) rfl (XS.istore X144.here hx rfl (hb hby at_194) rfl (l' := #[.val (.int p1), .val (.int p2), .val (.int p3), .val (.int p4), .val (.int p5), .val (.int (0 : Int32)), .val (.int nc), .val (.int va), .val (.int vr), .val (.int vs), .val (.int vb), .val (.int vc), .val (.ref b112), .val (.int (1 : Int32)), .val (.int (((own_sp va) + (own_sp vb)) + (own_sp vc)))]) rfl (XS.iload X144.here hx rfl (hb hby at_196) rfl (XS.ifNo X144.here hx rfl (hb hby at_198) rfl (XT.i0_eq_f (by decide : ¬ ((1 : Int32) = 0))) (XS.aload X144.here hx rfl (hb hby at_201) rfl rfl kc_))))) ?_
        show own_Ends p e below s _ _ _ (T144.setTop (mkF m 203 #[.val (.int p1), .val (.int p2), .val (.int p3), .val (.int p4), .val (.int p5), .val (.int (0 : Int32)), .val (.int nc), .val (.int va), .val (.int vr), .val (.int vs), .val (.int vb), .val (.int vc), .val (.ref b112), .val (.int (1 : Int32)), .val (.int (((own_sp va) + (own_sp vb)) + (own_sp vc)))] [(.ref b112)]))
        obtain ⟨cq145, kq145, q145a, q145b, q145c⟩ := isOf hZ e144h E_b112_141
        obtain ⟨_, _, ⟨T145, L145, k145, n145⟩, -, X145, ⟨Lc145, hQ145, l145, y145, z145⟩, st145⟩ := X144.virtualBack hx (y := (⟨"com/example/kinds_by_value/kindsbyvalue/NameSet", "hashCode", "()I"⟩ : MethodName)) (z := (⟨"com/example/kinds_by_value/kindsbyvalue/NameSet", "hashCode", "()I"⟩ : MethodName)) hown (mvT hZ (hw _ (List.mem_of_getElem? (i := 13) rfl))) (mvT hZ (hw _ (List.mem_of_getElem? (i := 14) rfl))) (notFace_of_selects (args := #[]) (mvT hZ (hw _ (List.mem_of_getElem? (i := 16) rfl)))) (mvT hZ (hw _ (List.mem_of_getElem? (i := 16) rfl))) (mvT hZ (hw _ (List.mem_of_getElem? (i := 15) rfl))) (by decide) (backOf (W := 0) (rmH0 l Z a0 hw [] b112 ((((0 : Int32) + own_sp va) + own_sp vb) + own_sp vc) T141.heap n0 Zs141 fE141 fH141) hZ (hw _ (List.mem_of_getElem? (i := 17) rfl)) (hw _ (List.mem_of_getElem? (i := 3) rfl)) (by decide) (by decide)) q145a q145c (g := (mkF m 203 #[.val (.int p1), .val (.int p2), .val (.int p3), .val (.int p4), .val (.int p5), .val (.int (0 : Int32)), .val (.int nc), .val (.int va), .val (.int vr), .val (.int vs), .val (.int vb), .val (.int vc), .val (.ref b112), .val (.int (1 : Int32)), .val (.int (((own_sp va) + (own_sp vb)) + (own_sp vc)))] [(.ref b112)])) rfl (by rw [hml]; rfl) (Steps.refl _) (argsL := []) (rest := []) (lenOf pd_6 rfl) rfl (by show 2 * 0 + _ ≤ _; exact Nat.le_of_eq rfl) (hb hby at_203) (fun _ _ => ⟨rfl, e144h, (by decide : 2 + 0 ≤ _), (by decide : 13 + 0 ≤ _)⟩)
        dsimp only [Pt.U, Pt.locs, Pt.cells, Pt.slots] at X145 l145 y145 z145 st145 hQ145
        subst l145 y145 z145
        obtain ⟨rfl, N145q, e145⟩ := hQ145
        have e145h : T145.heap = T141.heap := e145
        have N145 := Fr.app N144 N145q
        refine own_step (fun _ kc_ => st145.trans kc_) ?_
        show own_Ends p e below s _ _ _ (T145.setTop (mkF m 206 #[.val (.int p1), .val (.int p2), .val (.int p3), .val (.int p4), .val (.int p5), .val (.int (0 : Int32)), .val (.int nc), .val (.int va), .val (.int vr), .val (.int vs), .val (.int vb), .val (.int vc), .val (.ref b112), .val (.int (1 : Int32)), .val (.int (((own_sp va) + (own_sp vb)) + (own_sp vc)))] [(.int ((((0 : Int32) + own_sp va) + own_sp vb) + own_sp vc))]))
        refine own_step (fun _ kc_ => XS.iload X145.here hx rfl (hb hby at_206) rfl (XS.icmpNo X145.here hx rfl (hb hby at_208) rfl (XT.ii_ne_f (by simp only [Int32.zero_add] : ((((0 : Int32) + own_sp va) + own_sp vb) + own_sp vc) = (((own_sp va) + (own_sp vb)) + (own_sp vc)))) (XS.iconst X145.here hx rfl (hb hby at_211) (XS.goto X145.here hx rfl (pc0 := 212) (pc' := 216) rfl (hb hby at_212) (by decide) (by decide) (XS.istore X145.here hx rfl (hb hby at_216) rfl (l' := #[.val (.int p1), .val (.int p2), .val (.int p3), .val (.int p4), .val (.int p5), .val (.int (0 : Int32)), .val (.int nc), .val (.int va), .val (.int vr), .val (.int vs), .val (.int vb), .val (.int vc), .val (.ref b112), .val (.int (1 : Int32)), .val (.int (((own_sp va) + (own_sp vb)) + (own_sp vc)))]) rfl (XS.aload X145.here hx rfl (hb hby at_218) rfl rfl kc_)))))) ?_
        show own_Ends p e below s _ _ _ (T145.setTop (mkF m 220 #[.val (.int p1), .val (.int p2), .val (.int p3), .val (.int p4), .val (.int p5), .val (.int (0 : Int32)), .val (.int nc), .val (.int va), .val (.int vr), .val (.int vs), .val (.int vb), .val (.int vc), .val (.ref b112), .val (.int (1 : Int32)), .val (.int (((own_sp va) + (own_sp vb)) + (own_sp vc)))] [(.ref b112)]))
        obtain ⟨cq146, kq146, q146a, q146b, q146c⟩ := isOf hZ e145h E_b112_141
        obtain ⟨_, _, ⟨T146, L146, k146, n146⟩, -, X146, ⟨Lc146, hQ146, l146, y146, z146⟩, st146⟩ := X145.virtualBack hx (y := (⟨"com/example/kinds_by_value/kindsbyvalue/NameSet", "addEveryName", "()V"⟩ : MethodName)) (z := (⟨"com/example/kinds_by_value/kindsbyvalue/NameSet", "addEveryName", "()V"⟩ : MethodName)) hown (mvT hZ (hw _ (List.mem_of_getElem? (i := 40) rfl))) (mvT hZ (hw _ (List.mem_of_getElem? (i := 41) rfl))) (notFace_of_selects (args := #[]) (mvT hZ (hw _ (List.mem_of_getElem? (i := 43) rfl)))) (mvT hZ (hw _ (List.mem_of_getElem? (i := 43) rfl))) (mvT hZ (hw _ (List.mem_of_getElem? (i := 42) rfl))) (by decide) (backOf (W := 0) (rm7 l Z a0 hw [] b112 (.int (0 : Int32)) (.ref ba) .null (.int ((((0 : Int32) + (1 : Int32)) + (1 : Int32)) + (1 : Int32))) (.int ((((0 : Int32) + own_sp va) + own_sp vb) + own_sp vc)) T141.heap n0 Zs141 E_b112_141 fE141 fB141 fT141 fS141 fH141 n0_b112) hZ (hw _ (List.mem_of_getElem? (i := 44) rfl)) (hw _ (List.mem_of_getElem? (i := 3) rfl)) (by decide) (by decide)) q146a q146c (g := (mkF m 220 #[.val (.int p1), .val (.int p2), .val (.int p3), .val (.int p4), .val (.int p5), .val (.int (0 : Int32)), .val (.int nc), .val (.int va), .val (.int vr), .val (.int vs), .val (.int vb), .val (.int vc), .val (.ref b112), .val (.int (1 : Int32)), .val (.int (((own_sp va) + (own_sp vb)) + (own_sp vc)))] [(.ref b112)])) rfl (by rw [hml]; rfl) (Steps.refl _) (argsL := []) (rest := []) (lenOf pd_1 rfl) rfl (by show 2 * 0 + _ ≤ _; exact Nat.le_of_eq rfl) (hb hby at_220) (fun _ _ => ⟨rfl, e145h, (by decide : 2 + 0 ≤ _), (by decide : 13 + 0 ≤ _)⟩)
        dsimp only [Pt.U, Pt.locs, Pt.cells, Pt.slots] at X146 l146 y146 z146 st146 hQ146
        subst l146 y146 z146
        obtain ⟨rfl, N146q, K146k, fE146⟩ := hQ146
        have E_b112_146 := (E_b112_141).keep K146k
        have A_ba_146 := (fA141).keep K146k (ninS (Ne.symm noar) nin0)
        have Zs146 := Nat.le_trans Zs141 K146k.1
        have N146 := Fr.app N145 N146q
        refine own_step (fun _ kc_ => st146.trans kc_) ?_
        show own_Ends p e below s _ _ _ (T146.setTop (mkF m 223 #[.val (.int p1), .val (.int p2), .val (.int p3), .val (.int p4), .val (.int p5), .val (.int (0 : Int32)), .val (.int nc), .val (.int va), .val (.int vr), .val (.int vs), .val (.int vb), .val (.int vc), .val (.ref b112), .val (.int (1 : Int32)), .val (.int (((own_sp va) + (own_sp vb)) + (own_sp vc)))] []))
        refine own_step (fun _ kc_ => XS.iload X146.here hx rfl (hb hby at_223) rfl (XS.ifNo X146.here hx rfl (hb hby at_225) rfl (XT.i0_eq_f (by decide : ¬ ((1 : Int32) = 0))) (XS.aload X146.here hx rfl (hb hby at_228) rfl rfl kc_))) ?_
        show own_Ends p e below s _ _ _ (T146.setTop (mkF m 230 #[.val (.int p1), .val (.int p2), .val (.int p3), .val (.int p4), .val (.int p5), .val (.int (0 : Int32)), .val (.int nc), .val (.int va), .val (.int vr), .val (.int vs), .val (.int vb), .val (.int vc), .val (.ref b112), .val (.int (1 : Int32)), .val (.int (((own_sp va) + (own_sp vb)) + (own_sp vc)))] [(.ref b112)]))
        obtain ⟨cq147, kq147, q147a, q147b, q147c⟩ := isOf hZ rfl E_b112_146
        obtain ⟨_, _, ⟨T147, L147, k147, n147⟩, -, X147, ⟨Lc147, hQ147, l147, y147, z147⟩, st147⟩ := X146.virtualBack hx (y := (⟨"com/example/kinds_by_value/kindsbyvalue/NameSet", "hashCode", "()I"⟩ : MethodName)) (z := (⟨"com/example/kinds_by_value/kindsbyvalue/NameSet", "hashCode", "()I"⟩ : MethodName)) hown (mvT hZ (hw _ (List.mem_of_getElem? (i := 13) rfl))) (mvT hZ (hw _ (List.mem_of_getElem? (i := 14) rfl))) (notFace_of_selects (args := #[]) (mvT hZ (hw _ (List.mem_of_getElem? (i := 16) rfl)))) (mvT hZ (hw _ (List.mem_of_getElem? (i := 16) rfl))) (mvT hZ (hw _ (List.mem_of_getElem? (i := 15) rfl))) (by decide) (backOf (W := 0) (rmH1 l Z a0 hw [] b112  T146.heap n0 Zs146 fE146) hZ (hw _ (List.mem_of_getElem? (i := 17) rfl)) (hw _ (List.mem_of_getElem? (i := 3) rfl)) (by decide) (by decide)) q147a q147c (g := (mkF m 230 #[.val (.int p1), .val (.int p2), .val (.int p3), .val (.int p4), .val (.int p5), .val (.int (0 : Int32)), .val (.int nc), .val (.int va), .val (.int vr), .val (.int vs), .val (.int vb), .val (.int vc), .val (.ref b112), .val (.int (1 : Int32)), .val (.int (((own_sp va) + (own_sp vb)) + (own_sp vc)))] [(.ref b112)])) rfl (by rw [hml]; rfl) (Steps.refl _) (argsL := []) (rest := []) (lenOf pd_6 rfl) rfl (by show 2 * 0 + _ ≤ _; exact Nat.le_of_eq rfl) (hb hby at_230) (fun _ _ => ⟨rfl, rfl, (by decide : 2 + 0 ≤ _), (by decide : 13 + 0 ≤ _)⟩)
        dsimp only [Pt.U, Pt.locs, Pt.cells, Pt.slots] at X147 l147 y147 z147 st147 hQ147
        subst l147 y147 z147
        obtain ⟨rfl, N147q, e147⟩ := hQ147
        have e147h : T147.heap = T146.heap := e147
        have N147 := Fr.app N146 N147q
        refine own_step (fun _ kc_ => st147.trans kc_) ?_
        show own_Ends p e below s _ _ _ (T147.setTop (mkF m 233 #[.val (.int p1), .val (.int p2), .val (.int p3), .val (.int p4), .val (.int p5), .val (.int (0 : Int32)), .val (.int nc), .val (.int va), .val (.int vr), .val (.int vs), .val (.int vb), .val (.int vc), .val (.ref b112), .val (.int (1 : Int32)), .val (.int (((own_sp va) + (own_sp vb)) + (own_sp vc)))] [(.int (-1 : Int32))]))
        refine own_step (fun _ kc_ => XS.iconst X147.here hx rfl (hb hby at_233) (XS.icmpNo X147.here hx rfl (hb hby at_234) rfl (XT.ii_ne_f (rfl : (-1 : Int32) = (-1 : Int32))) (XS.iconst X147.here hx rfl (hb hby at_237) (XS.goto X147.here hx rfl (pc0 := 238) (pc' := 242) rfl (hb hby at_238) (by decide) (by decide) (XS.istore X147.here hx rfl (hb hby at_242) rfl (l' := #[.val (.int p1), .val (.int p2), .val (.int p3), .val (.int p4), .val (.int p5), .val (.int (0 : Int32)), .val (.int nc), .val (.int va), .val (.int vr), .val (.int vs), .val (.int vb), .val (.int vc), .val (.ref b112), .val (.int (1 : Int32)), .val (.int (((own_sp va) + (own_sp vb)) + (own_sp vc)))]) rfl (XS.iload X147.here hx rfl (hb hby at_244) rfl kc_)))))) ?_
        show own_Ends p e below s _ _ _ (T147.setTop (mkF m 246 #[.val (.int p1), .val (.int p2), .val (.int p3), .val (.int p4), .val (.int p5), .val (.int (0 : Int32)), .val (.int nc), .val (.int va), .val (.int vr), .val (.int vs), .val (.int vb), .val (.int vc), .val (.ref b112), .val (.int (1 : Int32)), .val (.int (((own_sp va) + (own_sp vb)) + (own_sp vc)))] [(.int (1 : Int32))]))
        exact own_retN X147 hx (t := .boolean) hret (by simp) hlk (hb hby at_246) (by decide) (by decide) rfl ⟨rfl, N147⟩
theorem ef_rm0 (m : MethodId) (p1 : Int32) (p2 : Int32) (p3 : Int32) (p4 : Int32) (p5 : Int32) : entryFrame m #[(.int p1), (.int p2), (.int p3), (.int p4), (.int p5)] maxLocals = mkF m 0 #[.val (.int p1), .val (.int p2), .val (.int p3), .val (.int p4), .val (.int p5), .unset, .unset, .unset, .unset, .unset, .unset, .unset, .unset, .unset, .unset] [] := by first | (simp [entryFrame, mkF, argsToLocals, Value.category, maxLocals]; done) | rfl
set_option maxRecDepth 65536 in
set_option maxHeartbeats 40000000 in
theorem rm0 (l : Launch) (Z : State) (a0 : Array Value) (hw : ∀ d ∈ tables_1, d.before a0 Z = true) (ws : List Jvm.Cond) (p1 : Int32) (p2 : Int32) (p3 : Int32) (p4 : Int32) (p5 : Int32)  (h0 : Heap) (n0 : Nat) (Z0 : n0 ≤ h0.size)  :
    MetFree l x (head1 (Jvm.Cond.code x code maxLocals ret :: ws) room_1) (fun a U => a = #[(.int p1), (.int p2), (.int p3), (.int p4), (.int p5)] ∧ Z.Warmed39 U.vm ∧ U.heap = h0) (fun _ _ _ _ _ => True) (fun _ U o U' => ∃ v L, o = .returned v ∧ Q0 Z p1 p2 p3 p4 p5  h0 n0 v U'.heap L ∧ FrameEnd U o U' L room_1.cells room_1.slots) := by
  refine MetFree.of_bodySF (plainFor_of_name pn_3) hisR ?_
  intro p e s m args below meth c s₁ Bd hml0 hP hK
  obtain ⟨rfl, hZ, hh⟩ := hP
  have hx := Bd.exec
  have hby := Bd.bytes
  have hlk : meth.locks = false := BodyLoose.notSynchronized Bd
  have hret := Bd.returns
  have hml : c.maxLocals = 15 := hml0
  have hown : s.vm.findClass "com/example/kinds_by_value/kindsbyvalue/NameSetHashCodePinLaw" = some m.cls := findClass_of_methodNamed Bd.named
  have hnm := (name_of_methodNamed Bd.named Bd.method).1
  have X0 : Stand p l e room_1 s m #[(.int p1), (.int p2), (.int p3), (.int p4), (.int p5)] below meth c s₁ [] 0 0 := Stand.of_body Bd
  have e0 : s₁.heap = h0 := by rw [← hh, Bd.state]; rfl
  have N0 := Fr.nil n0
  show own_Ends p e below s 16 128 (Q0 Z p1 p2 p3 p4 p5  h0 n0) (s₁.setTop (entryFrame m #[(.int p1), (.int p2), (.int p3), (.int p4), (.int p5)] maxLocals))
  refine own_step (fun t k => castTop (ef_rm0 m p1 p2 p3 p4 p5) k) ?_
  show own_Ends p e below s _ _ _ (s₁.setTop (mkF m 0 #[.val (.int p1), .val (.int p2), .val (.int p3), .val (.int p4), .val (.int p5), .unset, .unset, .unset, .unset, .unset, .unset, .unset, .unset, .unset, .unset] []))
  refine own_step (fun _ kc_ => XS.iload X0.here hx rfl (hb hby at_0) rfl (XS.iconst X0.here hx rfl (hb hby at_2) (XS.iand X0.here hx rfl (hb hby at_3) rfl kc_))) ?_
  show own_Ends p e below s _ _ _ (s₁.setTop (mkF m 4 #[.val (.int p1), .val (.int p2), .val (.int p3), .val (.int p4), .val (.int p5), .unset, .unset, .unset, .unset, .unset, .unset, .unset, .unset, .unset, .unset] [(.int (p5 &&& (4 : Int32)))]))
  by_cases hc4 : (p5 &&& (4 : Int32)) = 0
  · refine own_step (fun _ kc_ => XS.ifYes X0.here hx rfl (pc0 := 4) (pc' := 11) rfl (hb hby at_4) rfl (XT.i0_eq_t hc4) (by decide) (by decide) (XS.iconst X0.here hx rfl (hb hby at_11) (XS.istore X0.here hx rfl (hb hby at_12) rfl (l' := #[.val (.int p1), .val (.int p2), .val (.int p3), .val (.int p4), .val (.int p5), .val (.int (0 : Int32)), .unset, .unset, .unset, .unset, .unset, .unset, .unset, .unset, .unset]) rfl (XS.iload X0.here hx rfl (hb hby at_14) rfl (XS.ifYes X0.here hx rfl (pc0 := 16) (pc' := 30) rfl (hb hby at_16) rfl (XT.i0_eq_t (by decide : (0 : Int32) = 0)) (by decide) (by decide) (XS.iconst X0.here hx rfl (hb hby at_30) (XS.iloadN X0.here hx rfl (hb hby at_31) rfl (XS.sipush X0.here hx rfl (hb hby at_32) kc_)))))))) ?_
    show own_Ends p e below s _ _ _ (s₁.setTop (mkF m 35 #[.val (.int p1), .val (.int p2), .val (.int p3), .val (.int p4), .val (.int p5), .val (.int (0 : Int32)), .unset, .unset, .unset, .unset, .unset, .unset, .unset, .unset, .unset] [(.int (511 : Int32)), (.int p1), (.int (1 : Int32))]))
    refine own_step (fun _ kc_ => XS.iand X0.here hx rfl (hb hby at_35) rfl (XS.iadd X0.here hx rfl (hb hby at_36) rfl (XS.istore X0.here hx rfl (hb hby at_37) rfl (l' := #[.val (.int p1), .val (.int p2), .val (.int p3), .val (.int p4), .val (.int p5), .val (.int (0 : Int32)), .val (.int ((1 : Int32) + (p1 &&& (511 : Int32)))), .unset, .unset, .unset, .unset, .unset, .unset, .unset, .unset]) rfl kc_))) ?_
    show own_Ends p e below s _ _ _ (s₁.setTop (mkF m 39 #[.val (.int p1), .val (.int p2), .val (.int p3), .val (.int p4), .val (.int p5), .val (.int (0 : Int32)), .val (.int ((1 : Int32) + (p1 &&& (511 : Int32)))), .unset, .unset, .unset, .unset, .unset, .unset, .unset, .unset] []))
    generalize hnc : ((1 : Int32) + (p1 &&& (511 : Int32))) = nc
    show own_Ends p e below s _ _ _ (s₁.setTop (mkF m 39 #[.val (.int p1), .val (.int p2), .val (.int p3), .val (.int p4), .val (.int p5), .val (.int (0 : Int32)), .val (.int nc), .unset, .unset, .unset, .unset, .unset, .unset, .unset, .unset] []))
    have hn := own_ncB p1
    rw [hnc] at hn
    have hn1 : 1 ≤ nc.toInt := by omega
    refine own_step (fun _ kc_ => XS.iloadN X0.here hx rfl (hb hby at_39) rfl (X0.ldcI hx hown (mvT hZ (hw _ (List.mem_of_getElem? (i := 0) rfl))) rfl (hb hby at_40) (XS.iand X0.here hx rfl (hb hby at_42) rfl (XS.iload X0.here hx rfl (hb hby at_43) rfl (Jvm.RoadKit.iremM X0 hx rfl (hb hby at_45) rfl (own_nz hn1) (XS.istore X0.here hx rfl (hb hby at_46) rfl (l' := #[.val (.int p1), .val (.int p2), .val (.int p3), .val (.int p4), .val (.int p5), .val (.int (0 : Int32)), .val (.int nc), .val (.int ((p2 &&& (2147483647 : Int32)) % nc)), .unset, .unset, .unset, .unset, .unset, .unset, .unset]) rfl kc_)))))) ?_
    show own_Ends p e below s _ _ _ (s₁.setTop (mkF m 48 #[.val (.int p1), .val (.int p2), .val (.int p3), .val (.int p4), .val (.int p5), .val (.int (0 : Int32)), .val (.int nc), .val (.int ((p2 &&& (2147483647 : Int32)) % nc)), .unset, .unset, .unset, .unset, .unset, .unset, .unset] []))
    generalize hva : ((p2 &&& (2147483647 : Int32)) % nc) = va
    show own_Ends p e below s _ _ _ (s₁.setTop (mkF m 48 #[.val (.int p1), .val (.int p2), .val (.int p3), .val (.int p4), .val (.int p5), .val (.int (0 : Int32)), .val (.int nc), .val (.int va), .unset, .unset, .unset, .unset, .unset, .unset, .unset] []))
    refine own_step (fun _ kc_ => XS.iloadN X0.here hx rfl (hb hby at_48) rfl (X0.ldcI hx hown (mvT hZ (hw _ (List.mem_of_getElem? (i := 0) rfl))) rfl (hb hby at_49) (XS.iand X0.here hx rfl (hb hby at_51) rfl (XS.iload X0.here hx rfl (hb hby at_52) rfl (Jvm.RoadKit.iremM X0 hx rfl (hb hby at_54) rfl (own_nz hn1) (XS.istore X0.here hx rfl (hb hby at_55) rfl (l' := #[.val (.int p1), .val (.int p2), .val (.int p3), .val (.int p4), .val (.int p5), .val (.int (0 : Int32)), .val (.int nc), .val (.int va), .val (.int ((p3 &&& (2147483647 : Int32)) % nc)), .unset, .unset, .unset, .unset, .unset, .unset]) rfl kc_)))))) ?_
    show own_Ends p e below s _ _ _ (s₁.setTop (mkF m 57 #[.val (.int p1), .val (.int p2), .val (.int p3), .val (.int p4), .val (.int p5), .val (.int (0 : Int32)), .val (.int nc), .val (.int va), .val (.int ((p3 &&& (2147483647 : Int32)) % nc)), .unset, .unset, .unset, .unset, .unset, .unset] []))
    generalize hvr : ((p3 &&& (2147483647 : Int32)) % nc) = vr
    show own_Ends p e below s _ _ _ (s₁.setTop (mkF m 57 #[.val (.int p1), .val (.int p2), .val (.int p3), .val (.int p4), .val (.int p5), .val (.int (0 : Int32)), .val (.int nc), .val (.int va), .val (.int vr), .unset, .unset, .unset, .unset, .unset, .unset] []))
    refine own_step (fun _ kc_ => XS.iloadN X0.here hx rfl (hb hby at_57) rfl (X0.ldcI hx hown (mvT hZ (hw _ (List.mem_of_getElem? (i := 0) rfl))) rfl (hb hby at_58) (XS.iand X0.here hx rfl (hb hby at_60) rfl (XS.iload X0.here hx rfl (hb hby at_61) rfl (Jvm.RoadKit.iremM X0 hx rfl (hb hby at_63) rfl (own_nz hn1) (XS.istore X0.here hx rfl (hb hby at_64) rfl (l' := #[.val (.int p1), .val (.int p2), .val (.int p3), .val (.int p4), .val (.int p5), .val (.int (0 : Int32)), .val (.int nc), .val (.int va), .val (.int vr), .val (.int ((p4 &&& (2147483647 : Int32)) % nc)), .unset, .unset, .unset, .unset, .unset]) rfl kc_)))))) ?_
    show own_Ends p e below s _ _ _ (s₁.setTop (mkF m 66 #[.val (.int p1), .val (.int p2), .val (.int p3), .val (.int p4), .val (.int p5), .val (.int (0 : Int32)), .val (.int nc), .val (.int va), .val (.int vr), .val (.int ((p4 &&& (2147483647 : Int32)) % nc)), .unset, .unset, .unset, .unset, .unset] []))
    generalize hvs : ((p4 &&& (2147483647 : Int32)) % nc) = vs
    show own_Ends p e below s _ _ _ (s₁.setTop (mkF m 66 #[.val (.int p1), .val (.int p2), .val (.int p3), .val (.int p4), .val (.int p5), .val (.int (0 : Int32)), .val (.int nc), .val (.int va), .val (.int vr), .val (.int vs), .unset, .unset, .unset, .unset, .unset] []))
    have oa := own_okm hn1 hva
    have or := own_okm hn1 hvr
    have os := own_okm hn1 hvs
    have J80 : ∀ (vb : Int32) (ob : own_ok nc vb), own_Ends p e below s 16 128 (Q0 Z p1 p2 p3 p4 p5  h0 n0) (s₁.setTop (mkF m 80 #[.val (.int p1), .val (.int p2), .val (.int p3), .val (.int p4), .val (.int p5), .val (.int (0 : Int32)), .val (.int nc), .val (.int va), .val (.int vr), .val (.int vs), .unset, .unset, .unset, .unset, .unset] [(.int vb)])) := by
      intro vb ob
      show own_Ends p e below s _ _ _ (s₁.setTop (mkF m 80 #[.val (.int p1), .val (.int p2), .val (.int p3), .val (.int p4), .val (.int p5), .val (.int (0 : Int32)), .val (.int nc), .val (.int va), .val (.int vr), .val (.int vs), .unset, .unset, .unset, .unset, .unset] [(.int vb)]))
      refine own_step (fun _ kc_ => XS.istore X0.here hx rfl (hb hby at_80) rfl (l' := #[.val (.int p1), .val (.int p2), .val (.int p3), .val (.int p4), .val (.int p5), .val (.int (0 : Int32)), .val (.int nc), .val (.int va), .val (.int vr), .val (.int vs), .val (.int vb), .unset, .unset, .unset, .unset]) rfl kc_) ?_
      show own_Ends p e below s _ _ _ (s₁.setTop (mkF m 82 #[.val (.int p1), .val (.int p2), .val (.int p3), .val (.int p4), .val (.int p5), .val (.int (0 : Int32)), .val (.int nc), .val (.int va), .val (.int vr), .val (.int vs), .val (.int vb), .unset, .unset, .unset, .unset] []))
      have J96 : ∀ (vc : Int32) (oc : own_ok nc vc), own_Ends p e below s 16 128 (Q0 Z p1 p2 p3 p4 p5  h0 n0) (s₁.setTop (mkF m 96 #[.val (.int p1), .val (.int p2), .val (.int p3), .val (.int p4), .val (.int p5), .val (.int (0 : Int32)), .val (.int nc), .val (.int va), .val (.int vr), .val (.int vs), .val (.int vb), .unset, .unset, .unset, .unset] [(.int vc)])) := by
        intro vc oc
        show own_Ends p e below s _ _ _ (s₁.setTop (mkF m 96 #[.val (.int p1), .val (.int p2), .val (.int p3), .val (.int p4), .val (.int p5), .val (.int (0 : Int32)), .val (.int nc), .val (.int va), .val (.int vr), .val (.int vs), .val (.int vb), .unset, .unset, .unset, .unset] [(.int vc)]))
        refine own_step (fun _ kc_ => XS.istore X0.here hx rfl (hb hby at_96) rfl (l' := #[.val (.int p1), .val (.int p2), .val (.int p3), .val (.int p4), .val (.int p5), .val (.int (0 : Int32)), .val (.int nc), .val (.int va), .val (.int vr), .val (.int vs), .val (.int vb), .val (.int vc), .unset, .unset, .unset]) rfl kc_) ?_
        show own_Ends p e below s _ _ _ (s₁.setTop (mkF m 98 #[.val (.int p1), .val (.int p2), .val (.int p3), .val (.int p4), .val (.int p5), .val (.int (0 : Int32)), .val (.int nc), .val (.int va), .val (.int vr), .val (.int vs), .val (.int vb), .val (.int vc), .unset, .unset, .unset] []))
        exact seg_B hw hZ hx hby hlk hret hml hown p1 p2 p3 p4 p5 hn oa ob oc X0 e0 N0 Z0 rfl rfl
      refine own_step (fun _ kc_ => XS.iload X0.here hx rfl (hb hby at_82) rfl (XS.iconst X0.here hx rfl (hb hby at_84) (XS.iand X0.here hx rfl (hb hby at_85) rfl kc_))) ?_
      show own_Ends p e below s _ _ _ (s₁.setTop (mkF m 86 #[.val (.int p1), .val (.int p2), .val (.int p3), .val (.int p4), .val (.int p5), .val (.int (0 : Int32)), .val (.int nc), .val (.int va), .val (.int vr), .val (.int vs), .val (.int vb), .unset, .unset, .unset, .unset] [(.int (p5 &&& (2 : Int32)))]))
      by_cases hc86 : (p5 &&& (2 : Int32)) = 0
      · refine own_step (fun _ kc_ => XS.ifYes X0.here hx rfl (pc0 := 86) (pc' := 94) rfl (hb hby at_86) rfl (XT.i0_eq_t hc86) (by decide) (by decide) (XS.iload X0.here hx rfl (hb hby at_94) rfl kc_)) ?_
        show own_Ends p e below s _ _ _ (s₁.setTop (mkF m 96 #[.val (.int p1), .val (.int p2), .val (.int p3), .val (.int p4), .val (.int p5), .val (.int (0 : Int32)), .val (.int nc), .val (.int va), .val (.int vr), .val (.int vs), .val (.int vb), .unset, .unset, .unset, .unset] [(.int vs)]))
        exact J96 _ os
      · refine own_step (fun _ kc_ => XS.ifNo X0.here hx rfl (hb hby at_86) rfl (XT.i0_eq_f hc86) (XS.iload X0.here hx rfl (hb hby at_89) rfl (XS.goto X0.here hx rfl (pc0 := 91) (pc' := 96) rfl (hb hby at_91) (by decide) (by decide) kc_))) ?_
        show own_Ends p e below s _ _ _ (s₁.setTop (mkF m 96 #[.val (.int p1), .val (.int p2), .val (.int p3), .val (.int p4), .val (.int p5), .val (.int (0 : Int32)), .val (.int nc), .val (.int va), .val (.int vr), .val (.int vs), .val (.int vb), .unset, .unset, .unset, .unset] [(.int vb)]))
        exact J96 _ ob
    refine own_step (fun _ kc_ => XS.iload X0.here hx rfl (hb hby at_66) rfl (XS.iconst X0.here hx rfl (hb hby at_68) (XS.iand X0.here hx rfl (hb hby at_69) rfl kc_))) ?_
    show own_Ends p e below s _ _ _ (s₁.setTop (mkF m 70 #[.val (.int p1), .val (.int p2), .val (.int p3), .val (.int p4), .val (.int p5), .val (.int (0 : Int32)), .val (.int nc), .val (.int va), .val (.int vr), .val (.int vs), .unset, .unset, .unset, .unset, .unset] [(.int (p5 &&& (1 : Int32)))]))
    by_cases hc70 : (p5 &&& (1 : Int32)) = 0
    · refine own_step (fun _ kc_ => XS.ifYes X0.here hx rfl (pc0 := 70) (pc' := 78) rfl (hb hby at_70) rfl (XT.i0_eq_t hc70) (by decide) (by decide) (XS.iload X0.here hx rfl (hb hby at_78) rfl kc_)) ?_
      show own_Ends p e below s _ _ _ (s₁.setTop (mkF m 80 #[.val (.int p1), .val (.int p2), .val (.int p3), .val (.int p4), .val (.int p5), .val (.int (0 : Int32)), .val (.int nc), .val (.int va), .val (.int vr), .val (.int vs), .unset, .unset, .unset, .unset, .unset] [(.int vr)]))
      exact J80 _ or
    · refine own_step (fun _ kc_ => XS.ifNo X0.here hx rfl (hb hby at_70) rfl (XT.i0_eq_f hc70) (XS.iload X0.here hx rfl (hb hby at_73) rfl (XS.goto X0.here hx rfl (pc0 := 75) (pc' := 80) rfl (hb hby at_75) (by decide) (by decide) kc_))) ?_
      show own_Ends p e below s _ _ _ (s₁.setTop (mkF m 80 #[.val (.int p1), .val (.int p2), .val (.int p3), .val (.int p4), .val (.int p5), .val (.int (0 : Int32)), .val (.int nc), .val (.int va), .val (.int vr), .val (.int vs), .unset, .unset, .unset, .unset, .unset] [(.int va)]))
      exact J80 _ oa
  · refine own_step (fun _ kc_ => XS.ifNo X0.here hx rfl (hb hby at_4) rfl (XT.i0_eq_f hc4) (XS.iconst X0.here hx rfl (hb hby at_7) (XS.goto X0.here hx rfl (pc0 := 8) (pc' := 12) rfl (hb hby at_8) (by decide) (by decide) (XS.istore X0.here hx rfl (hb hby at_12) rfl (l' := #[.val (.int p1), .val (.int p2), .val (.int p3), .val (.int p4), .val (.int p5), .val (.int (1 : Int32)), .unset, .unset, .unset, .unset, .unset, .unset, .unset, .unset, .unset]) rfl (XS.iload X0.here hx rfl (hb hby at_14) rfl (XS.ifNo X0.here hx rfl (hb hby at_16) rfl (XT.i0_eq_f (by decide : ¬ ((1 : Int32) = 0))) (XS.sipush X0.here hx rfl (hb hby at_19) (XS.iloadN X0.here hx rfl (hb hby at_22) rfl kc_)))))))) ?_
    show own_Ends p e below s _ _ _ (s₁.setTop (mkF m 23 #[.val (.int p1), .val (.int p2), .val (.int p3), .val (.int p4), .val (.int p5), .val (.int (1 : Int32)), .unset, .unset, .unset, .unset, .unset, .unset, .unset, .unset, .unset] [(.int p1), (.int (513 : Int32))]))
    refine own_step (fun _ kc_ => X0.ldcI hx hown (mvT hZ (hw _ (List.mem_of_getElem? (i := 47) rfl))) rfl (hb hby at_23) (XS.iand X0.here hx rfl (hb hby at_25) rfl (XS.iadd X0.here hx rfl (hb hby at_26) rfl (XS.goto X0.here hx rfl (pc0 := 27) (pc' := 37) rfl (hb hby at_27) (by decide) (by decide) (XS.istore X0.here hx rfl (hb hby at_37) rfl (l' := #[.val (.int p1), .val (.int p2), .val (.int p3), .val (.int p4), .val (.int p5), .val (.int (1 : Int32)), .val (.int ((513 : Int32) + (p1 &&& (1073741823 : Int32)))), .unset, .unset, .unset, .unset, .unset, .unset, .unset, .unset]) rfl kc_))))) ?_
    show own_Ends p e below s _ _ _ (s₁.setTop (mkF m 39 #[.val (.int p1), .val (.int p2), .val (.int p3), .val (.int p4), .val (.int p5), .val (.int (1 : Int32)), .val (.int ((513 : Int32) + (p1 &&& (1073741823 : Int32)))), .unset, .unset, .unset, .unset, .unset, .unset, .unset, .unset] []))
    generalize hnc : ((513 : Int32) + (p1 &&& (1073741823 : Int32))) = nc
    show own_Ends p e below s _ _ _ (s₁.setTop (mkF m 39 #[.val (.int p1), .val (.int p2), .val (.int p3), .val (.int p4), .val (.int p5), .val (.int (1 : Int32)), .val (.int nc), .unset, .unset, .unset, .unset, .unset, .unset, .unset, .unset] []))
    have hn := own_ncT p1
    rw [hnc] at hn
    have hn1 : 1 ≤ nc.toInt := by omega
    refine own_step (fun _ kc_ => XS.iloadN X0.here hx rfl (hb hby at_39) rfl (X0.ldcI hx hown (mvT hZ (hw _ (List.mem_of_getElem? (i := 0) rfl))) rfl (hb hby at_40) (XS.iand X0.here hx rfl (hb hby at_42) rfl (XS.iload X0.here hx rfl (hb hby at_43) rfl (Jvm.RoadKit.iremM X0 hx rfl (hb hby at_45) rfl (own_nz hn1) (XS.istore X0.here hx rfl (hb hby at_46) rfl (l' := #[.val (.int p1), .val (.int p2), .val (.int p3), .val (.int p4), .val (.int p5), .val (.int (1 : Int32)), .val (.int nc), .val (.int ((p2 &&& (2147483647 : Int32)) % nc)), .unset, .unset, .unset, .unset, .unset, .unset, .unset]) rfl kc_)))))) ?_
    show own_Ends p e below s _ _ _ (s₁.setTop (mkF m 48 #[.val (.int p1), .val (.int p2), .val (.int p3), .val (.int p4), .val (.int p5), .val (.int (1 : Int32)), .val (.int nc), .val (.int ((p2 &&& (2147483647 : Int32)) % nc)), .unset, .unset, .unset, .unset, .unset, .unset, .unset] []))
    generalize hva : ((p2 &&& (2147483647 : Int32)) % nc) = va
    show own_Ends p e below s _ _ _ (s₁.setTop (mkF m 48 #[.val (.int p1), .val (.int p2), .val (.int p3), .val (.int p4), .val (.int p5), .val (.int (1 : Int32)), .val (.int nc), .val (.int va), .unset, .unset, .unset, .unset, .unset, .unset, .unset] []))
    refine own_step (fun _ kc_ => XS.iloadN X0.here hx rfl (hb hby at_48) rfl (X0.ldcI hx hown (mvT hZ (hw _ (List.mem_of_getElem? (i := 0) rfl))) rfl (hb hby at_49) (XS.iand X0.here hx rfl (hb hby at_51) rfl (XS.iload X0.here hx rfl (hb hby at_52) rfl (Jvm.RoadKit.iremM X0 hx rfl (hb hby at_54) rfl (own_nz hn1) (XS.istore X0.here hx rfl (hb hby at_55) rfl (l' := #[.val (.int p1), .val (.int p2), .val (.int p3), .val (.int p4), .val (.int p5), .val (.int (1 : Int32)), .val (.int nc), .val (.int va), .val (.int ((p3 &&& (2147483647 : Int32)) % nc)), .unset, .unset, .unset, .unset, .unset, .unset]) rfl kc_)))))) ?_
    show own_Ends p e below s _ _ _ (s₁.setTop (mkF m 57 #[.val (.int p1), .val (.int p2), .val (.int p3), .val (.int p4), .val (.int p5), .val (.int (1 : Int32)), .val (.int nc), .val (.int va), .val (.int ((p3 &&& (2147483647 : Int32)) % nc)), .unset, .unset, .unset, .unset, .unset, .unset] []))
    generalize hvr : ((p3 &&& (2147483647 : Int32)) % nc) = vr
    show own_Ends p e below s _ _ _ (s₁.setTop (mkF m 57 #[.val (.int p1), .val (.int p2), .val (.int p3), .val (.int p4), .val (.int p5), .val (.int (1 : Int32)), .val (.int nc), .val (.int va), .val (.int vr), .unset, .unset, .unset, .unset, .unset, .unset] []))
    refine own_step (fun _ kc_ => XS.iloadN X0.here hx rfl (hb hby at_57) rfl (X0.ldcI hx hown (mvT hZ (hw _ (List.mem_of_getElem? (i := 0) rfl))) rfl (hb hby at_58) (XS.iand X0.here hx rfl (hb hby at_60) rfl (XS.iload X0.here hx rfl (hb hby at_61) rfl (Jvm.RoadKit.iremM X0 hx rfl (hb hby at_63) rfl (own_nz hn1) (XS.istore X0.here hx rfl (hb hby at_64) rfl (l' := #[.val (.int p1), .val (.int p2), .val (.int p3), .val (.int p4), .val (.int p5), .val (.int (1 : Int32)), .val (.int nc), .val (.int va), .val (.int vr), .val (.int ((p4 &&& (2147483647 : Int32)) % nc)), .unset, .unset, .unset, .unset, .unset]) rfl kc_)))))) ?_
    show own_Ends p e below s _ _ _ (s₁.setTop (mkF m 66 #[.val (.int p1), .val (.int p2), .val (.int p3), .val (.int p4), .val (.int p5), .val (.int (1 : Int32)), .val (.int nc), .val (.int va), .val (.int vr), .val (.int ((p4 &&& (2147483647 : Int32)) % nc)), .unset, .unset, .unset, .unset, .unset] []))
    generalize hvs : ((p4 &&& (2147483647 : Int32)) % nc) = vs
    show own_Ends p e below s _ _ _ (s₁.setTop (mkF m 66 #[.val (.int p1), .val (.int p2), .val (.int p3), .val (.int p4), .val (.int p5), .val (.int (1 : Int32)), .val (.int nc), .val (.int va), .val (.int vr), .val (.int vs), .unset, .unset, .unset, .unset, .unset] []))
    have oa := own_okm hn1 hva
    have or := own_okm hn1 hvr
    have os := own_okm hn1 hvs
    have J80 : ∀ (vb : Int32) (ob : own_ok nc vb), own_Ends p e below s 16 128 (Q0 Z p1 p2 p3 p4 p5  h0 n0) (s₁.setTop (mkF m 80 #[.val (.int p1), .val (.int p2), .val (.int p3), .val (.int p4), .val (.int p5), .val (.int (1 : Int32)), .val (.int nc), .val (.int va), .val (.int vr), .val (.int vs), .unset, .unset, .unset, .unset, .unset] [(.int vb)])) := by
      intro vb ob
      show own_Ends p e below s _ _ _ (s₁.setTop (mkF m 80 #[.val (.int p1), .val (.int p2), .val (.int p3), .val (.int p4), .val (.int p5), .val (.int (1 : Int32)), .val (.int nc), .val (.int va), .val (.int vr), .val (.int vs), .unset, .unset, .unset, .unset, .unset] [(.int vb)]))
      refine own_step (fun _ kc_ => XS.istore X0.here hx rfl (hb hby at_80) rfl (l' := #[.val (.int p1), .val (.int p2), .val (.int p3), .val (.int p4), .val (.int p5), .val (.int (1 : Int32)), .val (.int nc), .val (.int va), .val (.int vr), .val (.int vs), .val (.int vb), .unset, .unset, .unset, .unset]) rfl kc_) ?_
      show own_Ends p e below s _ _ _ (s₁.setTop (mkF m 82 #[.val (.int p1), .val (.int p2), .val (.int p3), .val (.int p4), .val (.int p5), .val (.int (1 : Int32)), .val (.int nc), .val (.int va), .val (.int vr), .val (.int vs), .val (.int vb), .unset, .unset, .unset, .unset] []))
      have J96 : ∀ (vc : Int32) (oc : own_ok nc vc), own_Ends p e below s 16 128 (Q0 Z p1 p2 p3 p4 p5  h0 n0) (s₁.setTop (mkF m 96 #[.val (.int p1), .val (.int p2), .val (.int p3), .val (.int p4), .val (.int p5), .val (.int (1 : Int32)), .val (.int nc), .val (.int va), .val (.int vr), .val (.int vs), .val (.int vb), .unset, .unset, .unset, .unset] [(.int vc)])) := by
        intro vc oc
        show own_Ends p e below s _ _ _ (s₁.setTop (mkF m 96 #[.val (.int p1), .val (.int p2), .val (.int p3), .val (.int p4), .val (.int p5), .val (.int (1 : Int32)), .val (.int nc), .val (.int va), .val (.int vr), .val (.int vs), .val (.int vb), .unset, .unset, .unset, .unset] [(.int vc)]))
        refine own_step (fun _ kc_ => XS.istore X0.here hx rfl (hb hby at_96) rfl (l' := #[.val (.int p1), .val (.int p2), .val (.int p3), .val (.int p4), .val (.int p5), .val (.int (1 : Int32)), .val (.int nc), .val (.int va), .val (.int vr), .val (.int vs), .val (.int vb), .val (.int vc), .unset, .unset, .unset]) rfl kc_) ?_
        show own_Ends p e below s _ _ _ (s₁.setTop (mkF m 98 #[.val (.int p1), .val (.int p2), .val (.int p3), .val (.int p4), .val (.int p5), .val (.int (1 : Int32)), .val (.int nc), .val (.int va), .val (.int vr), .val (.int vs), .val (.int vb), .val (.int vc), .unset, .unset, .unset] []))
        exact seg_T hw hZ hx hby hlk hret hml hown p1 p2 p3 p4 p5 hn oa ob oc X0 e0 N0 Z0 rfl rfl
      refine own_step (fun _ kc_ => XS.iload X0.here hx rfl (hb hby at_82) rfl (XS.iconst X0.here hx rfl (hb hby at_84) (XS.iand X0.here hx rfl (hb hby at_85) rfl kc_))) ?_
      show own_Ends p e below s _ _ _ (s₁.setTop (mkF m 86 #[.val (.int p1), .val (.int p2), .val (.int p3), .val (.int p4), .val (.int p5), .val (.int (1 : Int32)), .val (.int nc), .val (.int va), .val (.int vr), .val (.int vs), .val (.int vb), .unset, .unset, .unset, .unset] [(.int (p5 &&& (2 : Int32)))]))
      by_cases hc86 : (p5 &&& (2 : Int32)) = 0
      · refine own_step (fun _ kc_ => XS.ifYes X0.here hx rfl (pc0 := 86) (pc' := 94) rfl (hb hby at_86) rfl (XT.i0_eq_t hc86) (by decide) (by decide) (XS.iload X0.here hx rfl (hb hby at_94) rfl kc_)) ?_
        show own_Ends p e below s _ _ _ (s₁.setTop (mkF m 96 #[.val (.int p1), .val (.int p2), .val (.int p3), .val (.int p4), .val (.int p5), .val (.int (1 : Int32)), .val (.int nc), .val (.int va), .val (.int vr), .val (.int vs), .val (.int vb), .unset, .unset, .unset, .unset] [(.int vs)]))
        exact J96 _ os
      · refine own_step (fun _ kc_ => XS.ifNo X0.here hx rfl (hb hby at_86) rfl (XT.i0_eq_f hc86) (XS.iload X0.here hx rfl (hb hby at_89) rfl (XS.goto X0.here hx rfl (pc0 := 91) (pc' := 96) rfl (hb hby at_91) (by decide) (by decide) kc_))) ?_
        show own_Ends p e below s _ _ _ (s₁.setTop (mkF m 96 #[.val (.int p1), .val (.int p2), .val (.int p3), .val (.int p4), .val (.int p5), .val (.int (1 : Int32)), .val (.int nc), .val (.int va), .val (.int vr), .val (.int vs), .val (.int vb), .unset, .unset, .unset, .unset] [(.int vb)]))
        exact J96 _ ob
    refine own_step (fun _ kc_ => XS.iload X0.here hx rfl (hb hby at_66) rfl (XS.iconst X0.here hx rfl (hb hby at_68) (XS.iand X0.here hx rfl (hb hby at_69) rfl kc_))) ?_
    show own_Ends p e below s _ _ _ (s₁.setTop (mkF m 70 #[.val (.int p1), .val (.int p2), .val (.int p3), .val (.int p4), .val (.int p5), .val (.int (1 : Int32)), .val (.int nc), .val (.int va), .val (.int vr), .val (.int vs), .unset, .unset, .unset, .unset, .unset] [(.int (p5 &&& (1 : Int32)))]))
    by_cases hc70 : (p5 &&& (1 : Int32)) = 0
    · refine own_step (fun _ kc_ => XS.ifYes X0.here hx rfl (pc0 := 70) (pc' := 78) rfl (hb hby at_70) rfl (XT.i0_eq_t hc70) (by decide) (by decide) (XS.iload X0.here hx rfl (hb hby at_78) rfl kc_)) ?_
      show own_Ends p e below s _ _ _ (s₁.setTop (mkF m 80 #[.val (.int p1), .val (.int p2), .val (.int p3), .val (.int p4), .val (.int p5), .val (.int (1 : Int32)), .val (.int nc), .val (.int va), .val (.int vr), .val (.int vs), .unset, .unset, .unset, .unset, .unset] [(.int vr)]))
      exact J80 _ or
    · refine own_step (fun _ kc_ => XS.ifNo X0.here hx rfl (hb hby at_70) rfl (XT.i0_eq_f hc70) (XS.iload X0.here hx rfl (hb hby at_73) rfl (XS.goto X0.here hx rfl (pc0 := 75) (pc' := 80) rfl (hb hby at_75) (by decide) (by decide) kc_))) ?_
      show own_Ends p e below s _ _ _ (s₁.setTop (mkF m 80 #[.val (.int p1), .val (.int p2), .val (.int p3), .val (.int p4), .val (.int p5), .val (.int (1 : Int32)), .val (.int nc), .val (.int va), .val (.int vr), .val (.int vs), .unset, .unset, .unset, .unset, .unset] [(.int va)]))
      exact J80 _ oa
set_option maxRecDepth 65536 in
set_option maxHeartbeats 40000000 in
theorem comes_1 {Post : Tables → Env → Array Value → State → Outcome → State → Prop} (hpost : ∀ tb e args s v u, (limb_1_1.after args s (.returned v) u = true ∧ limb_1_2.after args s (.returned v) u = true ∧ True) → FrameEnd s (.returned v) u (Jvm.fieldLocs frame_1_writes args s ++ Jvm.arrayLocs frame_1_arrays args s ++ Jvm.staticLocs frame_1_statics s) 16 128 → Post tb e args s (.returned v) u) :
    ArmFor flags0 classFile x code maxLocals ret World_1 tables_1 room_1 Calls_1 rest_1 Pre_1 Post := by
  intro l hfl _ _ p e ha hc hk s m args below hf hA hF happ hP
  obtain ⟨hcalls, hrest, hpre⟩ := hP
  obtain ⟨-, -, -, hnamed, -, -, -, hat⟩ := (Spec.applies_iff hf).mp happ
  obtain ⟨hg, hn⟩ := and_e (Cond.before_iff.mp (show (Jvm.Cond.and given_1 narrow_1).before args s = true from hpre))
  obtain ⟨g_c, g_0⟩ := and_e hg
  obtain ⟨w0, w1, w2, w3, w4, rfl⟩ : ∃ w0 w1 w2 w3 w4 : Value, args = #[w0, w1, w2, w3, w4] := by
    have hs : args.size = 5 := by simpa [Cond.value, given_1] using g_c
    obtain ⟨L⟩ := args
    match L, hs with
    | [w0, w1, w2, w3, w4], _ => exact ⟨w0, w1, w2, w3, w4, rfl⟩
  have hw := fun d (hd : d ∈ tables_1) => atoms_spec (ws := Jvm.Cond.code x code maxLocals ret :: tables_1) hat d (List.mem_cons_of_mem _ hd)
  obtain ⟨g_v0, g_1⟩ := and_e g_0
  obtain ⟨i0, ei0⟩ := is_v g_v0
  obtain rfl : w0 = (.int i0) := Option.some.inj ei0
  obtain ⟨g_v1, g_2⟩ := and_e g_1
  obtain ⟨i1, ei1⟩ := is_v g_v1
  obtain rfl : w1 = (.int i1) := Option.some.inj ei1
  obtain ⟨g_v2, g_3⟩ := and_e g_2
  obtain ⟨i2, ei2⟩ := is_v g_v2
  obtain rfl : w2 = (.int i2) := Option.some.inj ei2
  obtain ⟨g_v3, g_4⟩ := and_e g_3
  obtain ⟨i3, ei3⟩ := is_v g_v3
  obtain rfl : w3 = (.int i3) := Option.some.inj ei3
  obtain ⟨i4, ei4⟩ := is_v g_4
  obtain rfl : w4 = (.int i4) := Option.some.inj ei4
  obtain ⟨n, o, h1, h2, h3, _, L, rfl, ⟨rfl, N⟩, hq⟩ := rm0 l s _ hw tables_1 i0 i1 i2 i3 i4  s.heap s.heap.size (Nat.le_refl _) p e ha hc hk s m _ below hf ((Spec.applies_iff_loose hf).mp happ).1 ⟨rfl, State.Warmed39.refl s, rfl⟩ trivial
  refine ⟨n, _, h1, h2, h3, hpost _ _ _ _ _ _ ⟨Cond.after_iff.mpr rfl, Cond.after_iff.mpr (eq_i res_at (Term.int_eval (1)) rfl), trivial⟩ ⟨hq.1, hq.2.1, (hq.2.2.sift fun y hy => Or.inr (N y hy)).mono (by decide) (by decide)⟩⟩
theorem main_1_1 : Claimed_1_1 := comes_1 fun _ _ _ _ _ _ h hF => ⟨h.1, hF⟩
theorem main_1_2 : Claimed_1_2 := comes_1 fun _ _ _ _ _ _ h hF => ⟨h.2.1, hF⟩
end Jvm.Pilot.@@N@@
namespace Jvm.Pilot.@@N@@
open Jvm Jvm.ClassFile Sem Op Lib Jvm.Free Jvm.Stand Jvm.Pilot.@@N@@.Jvm.D
/-! MADE BY PROGRAM (witnessworld.py) out of the Statement's table words and the real class files: 13 classes; the members and pool entries that the words name. The judged class is class 1, her method 1. -/
namespace start1
open Jvm.ClassFile
def u (s : String) : CpInfo := .utf8 (stringToUtf16 s)
/-- a pool by its gaps: so many unusable entries, then the entry; so many at the end -/
def gap : Nat → List CpInfo → List CpInfo
  | 0, r => r
  | n + 1, r => .unusable :: gap n r
def poolList (es : List (Nat × CpInfo)) (last : Nat) : List CpInfo := es.foldr (fun e r => gap e.1 (e.2 :: r)) (gap last [])
def pool (es : List (Nat × CpInfo)) (last : Nat) : Array CpInfo := ⟨poolList es last⟩
def fileOf (pool : Array CpInfo) (this : Nat) (attrs : Array Attribute := #[]) (ms : Array MethodInfo := #[]) (fl : Nat := 33) (sup : Nat := 0) (ifs : Array Nat := #[]) (fds : Array FieldInfo := #[]) : ClassFile where
  minorVersion := 0
  majorVersion := 65
  constantPool := pool
  accessFlags := fl
  thisClass := this
  superClass := sup
  interfaces := ifs
  fields := fds
  methods := ms
  attributes := attrs
def plain (name : String) (sup : Option ClassId) : Class where
  name := name
  kind := .ordinary
  loader := none
  accessFlags := 33
  super := sup
  interfaces := #[]
  cf := none
  fields := #[]
  methods := #[]
  instanceTypes := #[]
  staticTypes := #[]
  resolved := #[]
  callSites := []
  init := .initialized
  statics := none
  mirror := none

def pool0 : Array CpInfo := pool [(5, u "<init>"), (0, u "()V"), (1, .class_ 10), (1, u "java/lang/Object")] 113

def k0c0 : Code := { maxStack := 0, maxLocals := 1, code := object_method_1_code, exceptionTable := #[], attributes := #[] }
def k0m0 : Method := { name := "<init>", desc := "()V", sig := { parameters := [], returnType := none }, accessFlags := 1, code := some k0c0 }
/-- java/lang/Object -/
def k0 : Class := { plain "java/lang/Object" none with
  accessFlags := 33
  interfaces := #[]
  cf := some (fileOf pool0 8 #[] #[{ accessFlags := 1, nameIndex := 5, descriptorIndex := 6, attributes := #[] }] 33 0 #[] #[])
  fields := #[]
  methods := #[k0m0]
  instanceTypes := #[]
  staticTypes := #[]
  resolved := Array.replicate 124 none
  statics := none }

def pool1 : Array CpInfo := pool [(2, .class_ 4), (1, u "java/lang/Object"), (0, u "<init>"), (0, u "()V"), (0, .integer 1073741823), (0, .integer 2147483647), (0, .class_ 10), (0, u "com/example/kinds_by_value/kindsbyvalue/NameSet"), (0, .methodref 9 12), (0, .nameAndType 5 13), (0, u "(I)V"), (0, .methodref 9 15), (0, .nameAndType 16 17), (0, u "hashCode"), (0, u "()I"), (0, .methodref 9 19), (0, .nameAndType 20 21), (0, u "add"), (0, u "(I)Z"), (0, .methodref 23 24), (0, .class_ 25), (0, .nameAndType 26 27), (0, u "com/example/kinds_by_value/kindsbyvalue/Hashes"), (0, u "spread"), (0, u "(I)I"), (0, .methodref 9 29), (0, .nameAndType 30 6), (0, u "addEveryName"), (0, .class_ 32), (0, u "com/example/kinds_by_value/kindsbyvalue/NameSetHashCodePinLaw"), (2, u "law"), (0, u "(IIIII)Z")] 3

def k1m0 : Method := { name := "<init>", desc := "()V", sig := { parameters := [], returnType := none }, accessFlags := 2, code := none }
def k1c1 : Code := { maxStack := 3, maxLocals := 15, code := code, exceptionTable := #[], attributes := #[] }
def k1m1 : Method := { name := "law", desc := "(IIIII)Z", sig := { parameters := [.int, .int, .int, .int, .int], returnType := some .boolean }, accessFlags := 9, code := some k1c1 }
/-- com/example/kinds_by_value/kindsbyvalue/NameSetHashCodePinLaw -/
def k1 : Class := { plain "com/example/kinds_by_value/kindsbyvalue/NameSetHashCodePinLaw" (some 0) with
  accessFlags := 49
  interfaces := #[]
  cf := some (fileOf pool1 31 #[] #[{ accessFlags := 2, nameIndex := 5, descriptorIndex := 6, attributes := #[] }, { accessFlags := 9, nameIndex := 35, descriptorIndex := 36, attributes := #[] }] 49 2 #[] #[])
  fields := #[]
  methods := #[k1m0, k1m1]
  instanceTypes := #[]
  staticTypes := #[]
  resolved := Array.replicate 40 none
  statics := none }

def pool2 : Array CpInfo := pool [(1, .class_ 2), (0, u "com/example/kinds_by_value/kindsbyvalue/NameSet"), (2, .methodref 6 7), (0, .class_ 8), (0, .nameAndType 9 10), (0, u "java/lang/Object"), (0, u "<init>"), (0, u "()V"), (2, .fieldref 1 14), (0, .nameAndType 15 16), (0, u "bits"), (0, u "[J"), (0, .methodref 1 18), (0, .nameAndType 19 20), (0, u "newTable"), (0, u "(I)[I"), (0, .fieldref 1 22), (0, .nameAndType 23 24), (0, u "table"), (0, u "[I"), (0, .fieldref 1 26), (0, .nameAndType 27 28), (0, u "everyName"), (0, u "Z"), (0, .methodref 1 30), (0, .nameAndType 31 32), (0, u "placeOf"), (0, u "(I)I"), (0, .methodref 1 34), (0, .nameAndType 35 36), (0, u "contains"), (0, u "(I)Z"), (0, .fieldref 1 38), (0, .nameAndType 39 40), (0, u "size"), (0, u "I"), (4, .fieldref 1 46), (0, .nameAndType 47 40), (0, u "hash"), (0, .methodref 49 50), (0, .class_ 51), (0, .nameAndType 52 32), (0, u "com/example/kinds_by_value/kindsbyvalue/Hashes"), (0, u "spread"), (5, .class_ 60), (1, u "java/util/Arrays"), (38, .methodref 58 100), (0, .nameAndType 101 102), (0, u "fill"), (0, u "([II)V"), (0, u "FREE"), (2, u "FIRST_TABLE_LENGTH"), (1, u "MOST_NAMES_AS_BITS"), (1, u "(I)V"), (3, u "add"), (1, u "addEveryName"), (4, u "hashCode"), (0, u "()I")] 23

def k2c0 : Code := { maxStack := 3, maxLocals := 2, code := prog_9_method_1_code, exceptionTable := #[], attributes := #[] }
def k2m0 : Method := { name := "<init>", desc := "(I)V", sig := { parameters := [.int], returnType := none }, accessFlags := 0, code := some k2c0 }
def k2c1 : Code := { maxStack := 5, maxLocals := 3, code := prog_9_method_2_code, exceptionTable := #[], attributes := #[] }
def k2m1 : Method := { name := "contains", desc := "(I)Z", sig := { parameters := [.int], returnType := some .boolean }, accessFlags := 0, code := some k2c1 }
def k2c2 : Code := { maxStack := 7, maxLocals := 7, code := prog_9_method_3_code, exceptionTable := #[], attributes := #[] }
def k2m2 : Method := { name := "add", desc := "(I)Z", sig := { parameters := [.int], returnType := some .boolean }, accessFlags := 0, code := some k2c2 }
def k2c3 : Code := { maxStack := 2, maxLocals := 1, code := prog_9_method_4_code, exceptionTable := #[], attributes := #[] }
def k2m3 : Method := { name := "addEveryName", desc := "()V", sig := { parameters := [], returnType := none }, accessFlags := 0, code := some k2c3 }
def k2c4 : Code := { maxStack := 1, maxLocals := 1, code := prog_9_method_8_code, exceptionTable := #[], attributes := #[] }
def k2m4 : Method := { name := "hashCode", desc := "()I", sig := { parameters := [], returnType := some .int }, accessFlags := 1, code := some k2c4 }
def k2c5 : Code := { maxStack := 2, maxLocals := 4, code := prog_9_method_10_code, exceptionTable := #[], attributes := #[] }
def k2m5 : Method := { name := "placeOf", desc := "(I)I", sig := { parameters := [.int], returnType := some .int }, accessFlags := 2, code := some k2c5 }
def k2c6 : Code := { maxStack := 2, maxLocals := 2, code := prog_9_method_11_code, exceptionTable := #[], attributes := #[] }
def k2m6 : Method := { name := "newTable", desc := "(I)[I", sig := { parameters := [.int], returnType := some (.array .int) }, accessFlags := 10, code := some k2c6 }
/-- com/example/kinds_by_value/kindsbyvalue/NameSet -/
def k2 : Class := { plain "com/example/kinds_by_value/kindsbyvalue/NameSet" (some 0) with
  accessFlags := 32
  interfaces := #[]
  cf := some (fileOf pool2 1 #[] #[{ accessFlags := 0, nameIndex := 9, descriptorIndex := 110, attributes := #[] }, { accessFlags := 0, nameIndex := 35, descriptorIndex := 36, attributes := #[] }, { accessFlags := 0, nameIndex := 114, descriptorIndex := 36, attributes := #[] }, { accessFlags := 0, nameIndex := 116, descriptorIndex := 10, attributes := #[] }, { accessFlags := 1, nameIndex := 121, descriptorIndex := 122, attributes := #[] }, { accessFlags := 2, nameIndex := 31, descriptorIndex := 32, attributes := #[] }, { accessFlags := 10, nameIndex := 19, descriptorIndex := 20, attributes := #[] }] 32 6 #[] #[{ accessFlags := 26, nameIndex := 103, descriptorIndex := 40, attributes := #[] }, { accessFlags := 26, nameIndex := 106, descriptorIndex := 40, attributes := #[] }, { accessFlags := 26, nameIndex := 108, descriptorIndex := 40, attributes := #[] }, { accessFlags := 2, nameIndex := 15, descriptorIndex := 16, attributes := #[] }, { accessFlags := 2, nameIndex := 23, descriptorIndex := 24, attributes := #[] }, { accessFlags := 2, nameIndex := 39, descriptorIndex := 40, attributes := #[] }, { accessFlags := 2, nameIndex := 47, descriptorIndex := 40, attributes := #[] }, { accessFlags := 2, nameIndex := 27, descriptorIndex := 28, attributes := #[] }])
  fields := #[{ name := "FREE", type := .int, accessFlags := 26, slot := 0, constantValue := 0 }, { name := "FIRST_TABLE_LENGTH", type := .int, accessFlags := 26, slot := 1, constantValue := 0 }, { name := "MOST_NAMES_AS_BITS", type := .int, accessFlags := 26, slot := 2, constantValue := 0 }, { name := "bits", type := (.array .long), accessFlags := 2, slot := 0, constantValue := 0 }, { name := "table", type := (.array .int), accessFlags := 2, slot := 1, constantValue := 0 }, { name := "size", type := .int, accessFlags := 2, slot := 2, constantValue := 0 }, { name := "hash", type := .int, accessFlags := 2, slot := 3, constantValue := 0 }, { name := "everyName", type := .boolean, accessFlags := 2, slot := 4, constantValue := 0 }]
  methods := #[k2m0, k2m1, k2m2, k2m3, k2m4, k2m5, k2m6]
  instanceTypes := #[(.array .long), (.array .int), .int, .int, .boolean]
  staticTypes := #[.int, .int, .int]
  resolved := Array.replicate 146 none
  statics := none }

def pool3 : Array CpInfo := pool [(2, .class_ 4), (1, u "java/lang/Object"), (0, u "<init>"), (0, u "()V"), (0, .integer 2654435769), (3, .class_ 13), (1, u "com/example/kinds_by_value/kindsbyvalue/Hashes"), (0, u "spread"), (0, u "(I)I")] 5

def k3m0 : Method := { name := "<init>", desc := "()V", sig := { parameters := [], returnType := none }, accessFlags := 2, code := none }
def k3c1 : Code := { maxStack := 3, maxLocals := 2, code := prog_6_method_2_code, exceptionTable := #[], attributes := #[] }
def k3m1 : Method := { name := "spread", desc := "(I)I", sig := { parameters := [.int], returnType := some .int }, accessFlags := 8, code := some k3c1 }
/-- com/example/kinds_by_value/kindsbyvalue/Hashes -/
def k3 : Class := { plain "com/example/kinds_by_value/kindsbyvalue/Hashes" (some 0) with
  accessFlags := 32
  interfaces := #[]
  cf := some (fileOf pool3 11 #[] #[{ accessFlags := 2, nameIndex := 5, descriptorIndex := 6, attributes := #[] }, { accessFlags := 8, nameIndex := 14, descriptorIndex := 15, attributes := #[] }] 32 2 #[] #[])
  fields := #[]
  methods := #[k3m0, k3m1]
  instanceTypes := #[]
  staticTypes := #[]
  resolved := Array.replicate 21 none
  statics := none }

def pool4 : Array CpInfo := pool [(2, .class_ 4), (1, u "java/lang/Object"), (0, u "<init>"), (0, u "()V"), (7, .class_ 16), (1, u "java/util/Arrays"), (57, .class_ 76), (1, u "java/util/Arrays$NaturalOrder"), (36, .class_ 115), (1, u "java/util/Arrays$LegacyMergeSort"), (1, u "Z"), (257, .class_ 376), (0, u "java/util/Arrays$ArrayList"), (68, u "$assertionsDisabled"), (269, u "MIN_ARRAY_SORT_GRAN"), (0, u "I"), (2, u "INSERTIONSORT_THRESHOLD"), (120, u "fill"), (4, u "([II)V"), (129, .class_ 976), (0, u "java/util/Arrays$ArrayItr")] 52

def k4m0 : Method := { name := "<init>", desc := "()V", sig := { parameters := [], returnType := none }, accessFlags := 2, code := none }
def k4c1 : Code := { maxStack := 3, maxLocals := 4, code := jdk_65_method_103_code, exceptionTable := #[], attributes := #[] }
def k4m1 : Method := { name := "fill", desc := "([II)V", sig := { parameters := [(.array .int), .int], returnType := none }, accessFlags := 9, code := some k4c1 }
/-- java/util/Arrays -/
def k4 : Class := { plain "java/util/Arrays" (some 0) with
  accessFlags := 49
  interfaces := #[]
  cf := some (fileOf pool4 14 #[.nestMembers #[975, 375, 113, 74]] #[{ accessFlags := 2, nameIndex := 5, descriptorIndex := 6, attributes := #[] }, { accessFlags := 9, nameIndex := 840, descriptorIndex := 845, attributes := #[] }] 49 2 #[] #[{ accessFlags := 26, nameIndex := 715, descriptorIndex := 716, attributes := #[] }, { accessFlags := 26, nameIndex := 719, descriptorIndex := 716, attributes := #[] }, { accessFlags := 4120, nameIndex := 445, descriptorIndex := 117, attributes := #[] }])
  fields := #[{ name := "MIN_ARRAY_SORT_GRAN", type := .int, accessFlags := 26, slot := 0, constantValue := 0 }, { name := "INSERTIONSORT_THRESHOLD", type := .int, accessFlags := 26, slot := 1, constantValue := 0 }, { name := "$assertionsDisabled", type := .boolean, accessFlags := 4120, slot := 2, constantValue := 0 }]
  methods := #[k4m0, k4m1]
  instanceTypes := #[]
  staticTypes := #[.int, .int, .boolean]
  resolved := Array.replicate 1029 none
  statics := none }

def pool5 : Array CpInfo := pool [(1, u "java/lang/Cloneable"), (0, .class_ 1), (0, u "java/lang/Object"), (0, .class_ 3)] 3

/-- java/lang/Cloneable -/
def k5 : Class := { plain "java/lang/Cloneable" (some 0) with
  accessFlags := 1537
  interfaces := #[]
  cf := some (fileOf pool5 2 #[] #[] 1537 4 #[] #[])
  fields := #[]
  methods := #[]
  instanceTypes := #[]
  staticTypes := #[]
  resolved := Array.replicate 8 none
  statics := none }

def pool6 : Array CpInfo := pool [(1, u "java/io/Serializable"), (0, .class_ 1), (0, u "java/lang/Object"), (0, .class_ 3)] 3

/-- java/io/Serializable -/
def k6 : Class := { plain "java/io/Serializable" (some 0) with
  accessFlags := 1537
  interfaces := #[]
  cf := some (fileOf pool6 2 #[] #[] 1537 4 #[] #[])
  fields := #[]
  methods := #[]
  instanceTypes := #[]
  staticTypes := #[]
  resolved := Array.replicate 8 none
  statics := none }

/-- the primitive byte -/
def k7 : Class := { plain "byte" none with kind := .primitive 'B', accessFlags := 0x411 }
/-- [B -/
def k8 : Class := { plain "[B" (some 0) with kind := .array 7 .byte, interfaces := #[5, 6], accessFlags := 1041 }

/-- the primitive int -/
def k9 : Class := { plain "int" none with kind := .primitive 'I', accessFlags := 0x411 }
/-- [I -/
def k10 : Class := { plain "[I" (some 0) with kind := .array 9 .int, interfaces := #[5, 6], accessFlags := 1041 }

/-- the primitive long -/
def k11 : Class := { plain "long" none with kind := .primitive 'J', accessFlags := 0x411 }
/-- [J -/
def k12 : Class := { plain "[J" (some 0) with kind := .array 11 .long, interfaces := #[5, 6], accessFlags := 1041 }

def heap : Heap := #[]
def classes : Array Class := #[k0, k1, k2, k3, k4, k5, k6, k7, k8, k9, k10, k11, k12]
def interned : List (Array UInt16 × Addr) := []
def slotsUsed : Nat := 0
def theMethod : MethodId := ⟨1, 1⟩
def args0 : Array Value := #[.int 5, .int 7, .int 9, .int 10, .int 0]
def aboutOver (below : List Frame) : State where
  vm := { classes := classes, interned := interned.toArray }
  heap := heap
  slotsUsed := slotsUsed
  threads := #[{ frames := .invoking theMethod args0 :: below }]
def below0 : List Frame := [.native { method := ⟨0, 0⟩, args := #[] }]
def about1 : State := aboutOver below0
def p0 : Program := .bare "" "" ""
def e0 : Env := launch0.env 0 0 0
theorem w_frames : about1.frames = Frame.invoking theMethod args0 :: below0 := rfl
set_option maxRecDepth 65536 in
theorem w_args : argsFit about1.vm theMethod args0 = true := by decide +kernel
set_option maxRecDepth 65536 in
theorem w_heap : heapFits about1 = true := by decide +kernel
set_option maxRecDepth 65536 in
theorem w_runnable : about1.curStatus? = some .runnable := by decide +kernel
set_option maxRecDepth 65536 in
theorem w_alone : about1.alone = true := by decide +kernel
set_option maxRecDepth 65536 in
theorem w_named : about1.methodNamed? x = some theMethod := by decide +kernel
set_option maxRecDepth 65536 in
theorem w_hears : about1.hears theMethod below0 = true := by decide +kernel
set_option maxRecDepth 65536 in
theorem w_ripe : about1.ripe theMethod args0 below0 = true := by decide +kernel
theorem w_running : about1.status = .running := rfl
set_option maxRecDepth 65536 in
theorem w_room : about1.hasRoom e0.platform room_1 = true :=
  launch0.hasRoom_least _ room_1 (by decide +kernel) (by decide +kernel) (by decide +kernel) (by decide +kernel) (by decide +kernel) (by decide +kernel)
theorem allAtoms_all (ts : List Jvm.Cond) (a : Array Jvm.Value) (st : Jvm.State) : (allAtoms ts).before a st = ts.all (fun c => c.before a st) := by
  induction ts with
  | nil => rfl
  | cons c t ih =>
    show (Jvm.Cond.and c (allAtoms t)).before a st = _
    rw [Jvm.Cond.before_and, ih, List.all_cons]
def words1 : List Jvm.Cond := Jvm.Cond.code x code maxLocals ret :: tables_1
/-- a 'code' word, met by the world's own term for the bytes: nothing is compared byte by byte -/
theorem code_word {y : MethodName} {bytes : ByteArray} {mx : Nat} {rt : Option FieldType} {a : Array Value} {s : State} {m : MethodId} {meth : Method} {c : Code} (h1 : s.methodNamed? y = some m) (h2 : s.vm.method? m = some meth) (h3 : meth.code = some c) (h4 : c.code = bytes)
    (h5 : (c.maxLocals == mx && c.exceptionTable.isEmpty && decide (c.maxStack ≤ mostOperands) && decide (meth.sig.returnType = rt) && !meth.locks && decide (parseMethodDescriptor y.desc = some meth.sig)) = true) : (Jvm.Cond.code y bytes mx rt).before a s = true := by
  simp only [Bool.and_eq_true, beq_iff_eq, Bool.not_eq_true', decide_eq_true_eq] at h5
  obtain ⟨⟨⟨⟨⟨g1, g2⟩, g3⟩, g4⟩, g5⟩, g6⟩ := h5
  simp [Cond.before, Cond.holds, Cond.value, h1, h2, h3, h4, g1, g2, g3, g4, g5, g6]
def isCode : Jvm.Cond → Bool
  | .code _ _ _ _ => true
  | _ => false
theorem all_split {L : List Jvm.Cond} {P : Jvm.Cond → Bool} (h1 : L.all (fun c => isCode c || P c) = true) (h2 : ∀ c ∈ L.filter isCode, P c = true) : L.all P = true := by
  refine List.all_eq_true.mpr fun c hc => ?_
  have h := List.all_eq_true.mp h1 c hc
  rcases Bool.eq_false_or_eq_true (isCode c) with hi | hi
  · exact h2 c (List.mem_filter.mpr ⟨hc, hi⟩)
  · simpa [hi] using h
set_option maxRecDepth 65536 in
theorem w_c0 : (Jvm.Cond.code x code maxLocals ret).before args0 about1 = true := code_word (m := ⟨1, 1⟩) (meth := k1m1) (c := k1c1) (by decide +kernel) rfl rfl rfl (by decide +kernel)
set_option maxRecDepth 65536 in
theorem w_c1 : (Jvm.Cond.code ({ cls := "com/example/kinds_by_value/kindsbyvalue/NameSet", name := "<init>", desc := "(I)V" } : Jvm.MethodName) prog_9_method_1_code (2 : Nat) (Option.none : Option Jvm.ClassFile.FieldType)).before args0 about1 = true := code_word (m := ⟨2, 0⟩) (meth := k2m0) (c := k2c0) (by decide +kernel) rfl rfl rfl (by decide +kernel)
set_option maxRecDepth 65536 in
theorem w_c2 : (Jvm.Cond.code ({ cls := "java/lang/Object", name := "<init>", desc := "()V" } : Jvm.MethodName) object_method_1_code (1 : Nat) (Option.none : Option Jvm.ClassFile.FieldType)).before args0 about1 = true := code_word (m := ⟨0, 0⟩) (meth := k0m0) (c := k0c0) (by decide +kernel) rfl rfl rfl (by decide +kernel)
set_option maxRecDepth 65536 in
theorem w_c3 : (Jvm.Cond.code ({ cls := "com/example/kinds_by_value/kindsbyvalue/NameSet", name := "hashCode", desc := "()I" } : Jvm.MethodName) prog_9_method_8_code (1 : Nat) (Option.some Jvm.ClassFile.FieldType.int)).before args0 about1 = true := code_word (m := ⟨2, 4⟩) (meth := k2m4) (c := k2c4) (by decide +kernel) rfl rfl rfl (by decide +kernel)
set_option maxRecDepth 65536 in
theorem w_c4 : (Jvm.Cond.code ({ cls := "com/example/kinds_by_value/kindsbyvalue/NameSet", name := "add", desc := "(I)Z" } : Jvm.MethodName) prog_9_method_3_code (7 : Nat) (Option.some Jvm.ClassFile.FieldType.boolean)).before args0 about1 = true := code_word (m := ⟨2, 2⟩) (meth := k2m2) (c := k2c2) (by decide +kernel) rfl rfl rfl (by decide +kernel)
set_option maxRecDepth 65536 in
theorem w_c5 : (Jvm.Cond.code ({ cls := "com/example/kinds_by_value/kindsbyvalue/NameSet", name := "contains", desc := "(I)Z" } : Jvm.MethodName) prog_9_method_2_code (3 : Nat) (Option.some Jvm.ClassFile.FieldType.boolean)).before args0 about1 = true := code_word (m := ⟨2, 1⟩) (meth := k2m1) (c := k2c1) (by decide +kernel) rfl rfl rfl (by decide +kernel)
set_option maxRecDepth 65536 in
theorem w_c6 : (Jvm.Cond.code ({ cls := "com/example/kinds_by_value/kindsbyvalue/Hashes", name := "spread", desc := "(I)I" } : Jvm.MethodName) prog_6_method_2_code (2 : Nat) (Option.some Jvm.ClassFile.FieldType.int)).before args0 about1 = true := code_word (m := ⟨3, 1⟩) (meth := k3m1) (c := k3c1) (by decide +kernel) rfl rfl rfl (by decide +kernel)
set_option maxRecDepth 65536 in
theorem w_c7 : (Jvm.Cond.code ({ cls := "com/example/kinds_by_value/kindsbyvalue/NameSet", name := "addEveryName", desc := "()V" } : Jvm.MethodName) prog_9_method_4_code (1 : Nat) (Option.none : Option Jvm.ClassFile.FieldType)).before args0 about1 = true := code_word (m := ⟨2, 3⟩) (meth := k2m3) (c := k2c3) (by decide +kernel) rfl rfl rfl (by decide +kernel)
set_option maxRecDepth 65536 in
theorem w_c8 : (Jvm.Cond.code ({ cls := "com/example/kinds_by_value/kindsbyvalue/NameSet", name := "newTable", desc := "(I)[I" } : Jvm.MethodName) prog_9_method_11_code (2 : Nat) (Option.some (Jvm.ClassFile.FieldType.array Jvm.ClassFile.FieldType.int))).before args0 about1 = true := code_word (m := ⟨2, 6⟩) (meth := k2m6) (c := k2c6) (by decide +kernel) rfl rfl rfl (by decide +kernel)
set_option maxRecDepth 65536 in
theorem w_c9 : (Jvm.Cond.code ({ cls := "java/util/Arrays", name := "fill", desc := "([II)V" } : Jvm.MethodName) jdk_65_method_103_code (4 : Nat) (Option.none : Option Jvm.ClassFile.FieldType)).before args0 about1 = true := code_word (m := ⟨4, 1⟩) (meth := k4m1) (c := k4c1) (by decide +kernel) rfl rfl rfl (by decide +kernel)
set_option maxRecDepth 65536 in
theorem w_c10 : (Jvm.Cond.code ({ cls := "com/example/kinds_by_value/kindsbyvalue/NameSet", name := "placeOf", desc := "(I)I" } : Jvm.MethodName) prog_9_method_10_code (4 : Nat) (Option.some Jvm.ClassFile.FieldType.int)).before args0 about1 = true := code_word (m := ⟨2, 5⟩) (meth := k2m5) (c := k2c5) (by decide +kernel) rfl rfl rfl (by decide +kernel)
def codes1 : List Jvm.Cond := [Jvm.Cond.code x code maxLocals ret, Jvm.Cond.code ({ cls := "com/example/kinds_by_value/kindsbyvalue/NameSet", name := "<init>", desc := "(I)V" } : Jvm.MethodName) prog_9_method_1_code (2 : Nat) (Option.none : Option Jvm.ClassFile.FieldType), Jvm.Cond.code ({ cls := "java/lang/Object", name := "<init>", desc := "()V" } : Jvm.MethodName) object_method_1_code (1 : Nat) (Option.none : Option Jvm.ClassFile.FieldType), Jvm.Cond.code ({ cls := "com/example/kinds_by_value/kindsbyvalue/NameSet", name := "hashCode", desc := "()I" } : Jvm.MethodName) prog_9_method_8_code (1 : Nat) (Option.some Jvm.ClassFile.FieldType.int), Jvm.Cond.code ({ cls := "com/example/kinds_by_value/kindsbyvalue/NameSet", name := "add", desc := "(I)Z" } : Jvm.MethodName) prog_9_method_3_code (7 : Nat) (Option.some Jvm.ClassFile.FieldType.boolean), Jvm.Cond.code ({ cls := "com/example/kinds_by_value/kindsbyvalue/NameSet", name := "contains", desc := "(I)Z" } : Jvm.MethodName) prog_9_method_2_code (3 : Nat) (Option.some Jvm.ClassFile.FieldType.boolean), Jvm.Cond.code ({ cls := "com/example/kinds_by_value/kindsbyvalue/Hashes", name := "spread", desc := "(I)I" } : Jvm.MethodName) prog_6_method_2_code (2 : Nat) (Option.some Jvm.ClassFile.FieldType.int), Jvm.Cond.code ({ cls := "com/example/kinds_by_value/kindsbyvalue/NameSet", name := "addEveryName", desc := "()V" } : Jvm.MethodName) prog_9_method_4_code (1 : Nat) (Option.none : Option Jvm.ClassFile.FieldType), Jvm.Cond.code ({ cls := "com/example/kinds_by_value/kindsbyvalue/NameSet", name := "newTable", desc := "(I)[I" } : Jvm.MethodName) prog_9_method_11_code (2 : Nat) (Option.some (Jvm.ClassFile.FieldType.array Jvm.ClassFile.FieldType.int)), Jvm.Cond.code ({ cls := "java/util/Arrays", name := "fill", desc := "([II)V" } : Jvm.MethodName) jdk_65_method_103_code (4 : Nat) (Option.none : Option Jvm.ClassFile.FieldType), Jvm.Cond.code ({ cls := "com/example/kinds_by_value/kindsbyvalue/NameSet", name := "placeOf", desc := "(I)I" } : Jvm.MethodName) prog_9_method_10_code (4 : Nat) (Option.some Jvm.ClassFile.FieldType.int)]
set_option maxRecDepth 65536 in
theorem codes_eq : words1.filter isCode = codes1 := rfl
theorem w_codes : ∀ c ∈ words1.filter isCode, c.before args0 about1 = true := by
  rw [codes_eq]
  intro c hc
  simp only [codes1, List.mem_cons, List.not_mem_nil, or_false] at hc
  rcases hc with rfl | rfl | rfl | rfl | rfl | rfl | rfl | rfl | rfl | rfl | rfl
  · exact w_c0
  · exact w_c1
  · exact w_c2
  · exact w_c3
  · exact w_c4
  · exact w_c5
  · exact w_c6
  · exact w_c7
  · exact w_c8
  · exact w_c9
  · exact w_c10
set_option maxRecDepth 65536 in
theorem w_t1 : (words1.take 24).all (fun c => isCode c || c.before args0 about1) = true := by decide +kernel
set_option maxRecDepth 65536 in
theorem w_t2 : ((words1.drop 24).take 24).all (fun c => isCode c || c.before args0 about1) = true := by decide +kernel
set_option maxRecDepth 65536 in
theorem w_t3 : ((words1.drop 24).drop 24).all (fun c => isCode c || c.before args0 about1) = true := by decide +kernel
theorem w_tables : (allAtoms (Jvm.Cond.code x code maxLocals ret :: tables_1)).before args0 about1 = true := by
  rw [allAtoms_all]
  show words1.all (fun c => c.before args0 about1) = true
  refine all_split ?_ w_codes
  rw [← List.take_append_drop 24 words1, List.all_append, w_t1, ← List.take_append_drop 24 (words1.drop 24), List.all_append, w_t2, w_t3]
  rfl
set_option maxRecDepth 65536 in
theorem w_case : (Jvm.Cond.and given_1 narrow_1).before args0 about1 = true := by decide +kernel
theorem w_applies : (headSpec (Jvm.Cond.code x code maxLocals ret :: tables_1) room_1).applies x e0.platform about1 = true :=
  (Spec.applies_iff w_frames).mpr ⟨w_running, w_runnable, w_alone, w_named, w_hears, w_ripe, w_room, w_tables⟩
theorem atStart : AtStart classFile x code maxLocals ret World_1 tables_1 room_1 Calls_1 rest_1 Pre_1 launch0 p0 e0 about1 theMethod args0 below0 :=
  ⟨lists_1, trivial, launch0.admits_env _ _ _, launch0.least_env, fairChoices_fair.cas, fairChoices_fair.clock, w_frames, w_args, w_heap, w_applies, trivial, trivial, w_case⟩
end start1
theorem witness_1 : WitnessClaimed_1 := ⟨start1.p0, start1.e0, start1.about1, start1.theMethod, start1.args0, start1.below0, start1.atStart⟩
end Jvm.Pilot.@@N@@
