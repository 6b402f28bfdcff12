import JvmDerived
import JvmDerived.Pilot.@@N@@Statement
import JvmDerived.Pilot.@@N@@Code
set_option linter.unusedVariables false
set_option linter.unusedSimpArgs false
@@BLOCK:HandJ.lean.txt@@
@@BLOCK:NumsL.lean.txt@@
@@BLOCK:SymMore.lean.txt@@
@@BLOCK:LamKit.lean.txt@@
namespace Jvm.RoadKit
open Sem ClassFile Op Lib Jvm.Stand Jvm.Free Jvm.LawKit
section New
variable {p : Program} {l : Launch} {e : Env} {R : Room} {s : State} {m : MethodId} {args : Array Value} {below : List Frame} {meth : Method} {c : Code} {T : State} {locs : List Loc} {cells slots : Nat}
theorem retI (X : Stand p l e R s m args below meth c T locs cells slots) (hx : p.tables.exec = Jvm.exec) {pc : Nat} {Ls : Array Slot} {z : Int32} {rest : List Value} (hret : meth.sig.returnType = some .int) (hd : decode c.code pc = .ok (.ireturn, 1)) {fs : List Frame}
    (hl : ∀ (f : JFrame) (acts : List Action), f.method = m → f.locked = none → f.entered = [] → (doReturn e (T.setTop f) acts (some (.int z))).1 = T.setFrames fs) : Steps p.tables e below (T.setTop (mkF m pc Ls (.int z :: rest))) (T.setFrames fs) := by
  have hm' : T.vm.method? m = some meth := X.method'
  have hn : narrow .int (.int z) = .int z := rfl
  show Steps p.tables e below (T.setTop { method := m, pc := pc, locals := Ls, stack := _ :: rest, locked := none }) _
  jvm_step X.here [X.here.top, hx, hd, hm', hret, hn]
  first | (intro acts; rw [hl _ acts rfl rfl rfl]) | rw [hl _ _ rfl rfl rfl]
  exact Steps.refl _
end New
end Jvm.RoadKit
namespace Jvm.Pilot.@@N@@
open Jvm Jvm.ClassFile Sem Op Lib Jvm.Free Jvm.Stand Jvm.LawKit Jvm.RoadKit Bundle Jvm.Pilot.@@N@@.Jvm.D
/-- from F the invocation ends: it returns, and Q holds of what it returned, the heap and the places written -/
def own_Ends (p : Program) (e : Env) (below : List Frame) (s : State) (C S : Nat) (Q : Option Value → Heap → List Loc → Prop) (F : State) : Prop :=
  ∃ s₂ o, Steps p.tables e below F s₂ ∧ s₂.status = .running ∧ Ended s₂ below o ∧ ∃ v L, o = .returned v ∧ Q v s₂.heap L ∧ FrameEnd s o s₂ L C S
theorem own_step {p : Program} {e : Env} {below : List Frame} {s : State} {C S : Nat} {Q : Option Value → Heap → List Loc → Prop} {F F' : State} (h : ∀ t, Steps p.tables e below F' t → Steps p.tables e below F t) (k : own_Ends p e below s C S Q F') : own_Ends p e below s C S Q F := by
  obtain ⟨s₂, o, st, r⟩ := k
  exact ⟨s₂, o, h _ st, r⟩
section OwnRet
variable {p : Program} {l : Launch} {e : Env} {R : Room} {s : State} {m : MethodId} {args : Array Value} {below : List Frame} {meth : Method} {c : Code} {T : State} {locs : List Loc} {cells slots : Nat} {C S : Nat} {Q : Option Value → Heap → List Loc → Prop}
theorem own_retI (X : Stand p l e R s m args below meth c T locs cells slots) (hx : p.tables.exec = Jvm.exec) {pc : Nat} {Ls : Array Slot} {z : Int32} {rest : List Value} (hret : meth.sig.returnType = some .int) (hlk : meth.locks = false) (hd : decode c.code pc = .ok (.ireturn, 1)) (hc : cells ≤ C) (hs : slots ≤ S)
    (hQ : Q (some (.int z)) T.heap locs) : own_Ends p e below s C S Q (T.setTop (mkF m pc Ls (.int z :: rest))) := by
  obtain ⟨fs, hr, hrun, hended, hW, hsame⟩ := X.leave (v := some (.int z)) (fun h => by rw [hret] at h; cases h) hlk
  exact ⟨_, _, retI X hx hret hd hr, hrun, hended, _, _, rfl, hQ, ⟨_, rfl⟩, hW, hsame.mono hc hs⟩
theorem own_retN (X : Stand p l e R s m args below meth c T locs cells slots) (hx : p.tables.exec = Jvm.exec) {pc : Nat} {Ls : Array Slot} {z z' : Int32} {rest : List Value} {t : FieldType} (hret : meth.sig.returnType = some t) (ht : t = .boolean ∨ t = .byte ∨ t = .char ∨ t = .short) (hlk : meth.locks = false) (hd : decode c.code pc = .ok (.ireturn, 1)) (hc : cells ≤ C) (hs : slots ≤ S)
    (hz : nar t z = z') (hQ : Q (some (.int z')) T.heap locs) : own_Ends p e below s C S Q (T.setTop (mkF m pc Ls (.int z :: rest))) := by
  subst hz
  obtain ⟨fs, hr, hrun, hended, hW, hsame⟩ := X.leave (v := some (.int (nar t z))) (fun h => by rw [hret] at h; cases h) hlk
  exact ⟨_, _, retN X hx hret ht hd hr, hrun, hended, _, _, rfl, hQ, ⟨_, rfl⟩, hW, hsame.mono hc hs⟩
theorem own_retJ (X : Stand p l e R s m args below meth c T locs cells slots) (hx : p.tables.exec = Jvm.exec) {pc : Nat} {Ls : Array Slot} {z : Int64} (hret : meth.sig.returnType = some .long) (hlk : meth.locks = false) (hd : decode c.code pc = .ok (.lreturn, 1)) (hc : cells ≤ C) (hs : slots ≤ S)
    (hQ : Q (some (.long z)) T.heap locs) : own_Ends p e below s C S Q (T.setTop (mkF m pc Ls [.long z])) := by
  obtain ⟨fs, hr, hrun, hended, hW, hsame⟩ := X.leave (v := some (.long z)) (fun h => by rw [hret] at h; cases h) hlk
  exact ⟨_, _, X.lreturnOut hx hret hd hr, hrun, hended, _, _, rfl, hQ, ⟨_, rfl⟩, hW, hsame.mono hc hs⟩
theorem own_retV (X : Stand p l e R s m args below meth c T locs cells slots) (hx : p.tables.exec = Jvm.exec) {pc : Nat} {Ls : Array Slot} (hret : meth.sig.returnType = none) (hlk : meth.locks = false) (hd : decode c.code pc = .ok (.return_, 1)) (hc : cells ≤ C) (hs : slots ≤ S)
    (hQ : Q none T.heap locs) : own_Ends p e below s C S Q (T.setTop (mkF m pc Ls [])) := by
  obtain ⟨fs, hr, hrun, hended, hW, hsame⟩ := X.leave (v := none) (fun _ => rfl) hlk
  exact ⟨_, _, X.returnOut hx hret hd hr, hrun, hended, _, _, rfl, hQ, ⟨_, rfl⟩, hW, hsame.mono hc hs⟩
theorem own_retR (X : Stand p l e R s m args below meth c T locs cells slots) (hx : p.tables.exec = Jvm.exec) {pc : Nat} {Ls : Array Slot} {w : Value} {t : FieldType} {rest : List Value} (hret : meth.sig.returnType = some t) (ht : t.isReference = true) (hw : w.isRef = true) (hn : narrow t w = w) (hlk : meth.locks = false) (hd : decode c.code pc = .ok (.areturn, 1)) (hc : cells ≤ C) (hs : slots ≤ S)
    (hQ : Q (some w) T.heap locs) : own_Ends p e below s C S Q (T.setTop (mkF m pc Ls (w :: rest))) := by
  obtain ⟨fs, hr, hrun, hended, hW, hsame⟩ := X.leave (v := some w) (fun h => by rw [hret] at h; cases h) hlk
  exact ⟨_, _, retOut X hx hret hn (Or.inr (Or.inr (Or.inr (Or.inr ⟨rfl, ht, hw⟩)))) hd hr, hrun, hended, _, _, rfl, hQ, ⟨_, rfl⟩, hW, hsame.mono hc hs⟩
end OwnRet
/-- the array at a holds just vs -/
def own_Ar (Z : State) (h : Heap) (a : Addr) (ty : FieldType) (vs : List Value) : Prop :=
  vs.length < 2 ^ 31 ∧ ∃ cl : Cell, Arr Z h a cl ty ∧ cl.slots.toList = vs
section OwnArr
variable {p : Program} {l : Launch} {e : Env} {R : Room} {s : State} {m : MethodId} {args : Array Value} {below : List Frame} {meth : Method} {c : Code} {T : State} {locs : List Loc} {cells slots : Nat} {Z : State} {h h' : Heap} {a b : Addr} {ty : FieldType} {vs : List Value} {ws : List Addr} {sl : Nat} {w : Value}
theorem own_Ar.lt (A : own_Ar Z h a ty vs) : a < h.size := by obtain ⟨_, cl, h1, _⟩ := A; exact h1.lt
theorem own_Ar.ext (A : own_Ar Z h a ty vs) (E : Ext h h') : own_Ar Z h' a ty vs := by obtain ⟨q, cl, h1, r⟩ := A; exact ⟨q, cl, h1.ext E, r⟩
theorem own_Ar.other (A : own_Ar Z h a ty vs) (W : Wr h h' b sl w) (q : a ≠ b) : own_Ar Z h' a ty vs := by obtain ⟨z, cl, h1, r⟩ := A; exact ⟨z, cl, h1.other W q, r⟩
theorem own_Ar.keep (A : own_Ar Z h a ty vs) (K : Keep h h' ws) (q : a ∉ ws) : own_Ar Z h' a ty vs := by obtain ⟨z, cl, h1, r⟩ := A; exact ⟨z, cl, ⟨K.2.1 a cl h1.1 q, h1.2⟩, r⟩
theorem own_Ar.set (A : own_Ar Z h a ty vs) {i : Nat} (W : Wr h h' a i w) : own_Ar Z h' a ty (vs.set i w) := by
  obtain ⟨z, cl, h1, r⟩ := A
  refine ⟨by rw [List.length_set]; exact z, cl.setSlot i w, h1.same W, ?_⟩
  rw [← r]; simp [Cell.setSlot]
theorem own_Ar.new {k : ClassId} {z : Int32} (A : Arr Z h a (newA k ty z) ty) (q : ¬ z < 0) : own_Ar Z h a ty (List.replicate z.toNatClampNeg (defaultValue ty)) :=
  ⟨by rw [List.length_replicate]; exact (back32 q).2, _, A, by simp [newA]⟩
theorem own_Ar.cast {us : List Value} (A : own_Ar Z h a ty vs) (q : vs = us) : own_Ar Z h a ty us := q ▸ A
theorem own_Ar.ne {C : String} {a0 : Array Value} {k : Nat} (A : own_Ar Z h b ty vs) (F : Exa Z h a C) (wi : (Cond.instantiable C k).before a0 Z = true) : a ≠ b := by obtain ⟨_, cl, h1, _⟩ := A; exact ne_arr F wi h1
theorem own_in {cl : Cell} (r : cl.slots.toList = vs) {j : Int32} {i : Nat} (h0 : ¬ j < 0) (hj : j.toNatClampNeg = i) (hi : i < vs.length) : ¬ (j < 0 ∨ cl.slots.size ≤ j.toNatClampNeg) := by
  have : cl.slots.size = vs.length := by rw [← r]; simp
  rintro (q | q)
  · exact h0 q
  · omega
theorem own_at {cl : Cell} (r : cl.slots.toList = vs) {j : Int32} {i : Nat} (hj : j.toNatClampNeg = i) {v : Value} (hv : vs[i]? = some v) : cl.slots[j.toNatClampNeg]? = some v := by
  rw [hj, ← Array.getElem?_toList, r]; exact hv
theorem own_alen (X : Stand p l e R s m args below meth c T locs cells slots) (hx : p.tables.exec = Jvm.exec) (hZ : Z.Warmed39 s.vm) (eT : T.heap = h) (A : own_Ar Z h a ty vs) {n : Nat} {z : Int32} (hn : vs.length = n) (hz : Int32.ofNat n = z) {pc : Nat} {Ls : Array Slot} {st : List Value} (hd : decode c.code pc = .ok (.arraylength, 1)) (t : State)
    (k : Steps p.tables e below (T.setTop (mkF m (pc + 1) Ls (.int z :: st))) t) : Steps p.tables e below (T.setTop (mkF m pc Ls (.ref a :: st))) t := by
  obtain ⟨_, cl, h1, r⟩ := A
  refine X.arraylength hx (by rw [eT]; exact h1.1) (State.isArrayOf_alike hZ.alike h1.2.1) (g := mkF m pc Ls (.ref a :: st)) rfl rfl hd _ ?_
  have : cl.slots.size = n := by rw [← hn, ← r]; simp
  rw [this, show n.toInt32 = z from hz]; exact k
theorem own_iaload (X : Stand p l e R s m args below meth c T locs cells slots) (hx : p.tables.exec = Jvm.exec) (hZ : Z.Warmed39 s.vm) (eT : T.heap = h) (A : own_Ar Z h a .int vs) {j : Int32} {i : Nat} {v : Value} (h0 : ¬ j < 0) (hj : j.toNatClampNeg = i) (hv : vs[i]? = some v) {pc : Nat} {Ls : Array Slot} {st : List Value} (hd : decode c.code pc = .ok (.iaload, 1)) (t : State)
    (k : Steps p.tables e below (T.setTop (mkF m (pc + 1) Ls (v :: st))) t) : Steps p.tables e below (T.setTop (mkF m pc Ls (.int j :: .ref a :: st))) t := by
  obtain ⟨z, cl, h1, r⟩ := A
  exact X.iaload hx (by rw [eT]; exact h1.1) (State.isArrayOf_alike hZ.alike h1.2.1) h1.2.2 (own_in r h0 hj (List.getElem?_eq_some_iff.mp hv).1) (own_at r hj hv) (g := mkF m pc Ls (.int j :: .ref a :: st)) rfl rfl hd _ k
theorem own_laload (X : Stand p l e R s m args below meth c T locs cells slots) (hx : p.tables.exec = Jvm.exec) (hZ : Z.Warmed39 s.vm) (eT : T.heap = h) (A : own_Ar Z h a .long vs) {j : Int32} {i : Nat} {v : Value} (h0 : ¬ j < 0) (hj : j.toNatClampNeg = i) (hv : vs[i]? = some v) {pc : Nat} {Ls : Array Slot} {st : List Value} (hd : decode c.code pc = .ok (.laload, 1)) (t : State)
    (k : Steps p.tables e below (T.setTop (mkF m (pc + 1) Ls (v :: st))) t) : Steps p.tables e below (T.setTop (mkF m pc Ls (.int j :: .ref a :: st))) t := by
  obtain ⟨z, cl, h1, r⟩ := A
  exact X.laload hx (by rw [eT]; exact h1.1) (State.isArrayOf_alike hZ.alike h1.2.1) h1.2.2 (own_in r h0 hj (List.getElem?_eq_some_iff.mp hv).1) (own_at r hj hv) (g := mkF m pc Ls (.int j :: .ref a :: st)) rfl rfl hd _ k
theorem own_baload (X : Stand p l e R s m args below meth c T locs cells slots) (hx : p.tables.exec = Jvm.exec) (hZ : Z.Warmed39 s.vm) (eT : T.heap = h) (A : own_Ar Z h a .byte vs) {j : Int32} {i : Nat} {v : Value} (h0 : ¬ j < 0) (hj : j.toNatClampNeg = i) (hv : vs[i]? = some v) {pc : Nat} {Ls : Array Slot} {st : List Value} (hd : decode c.code pc = .ok (.baload, 1)) (t : State)
    (k : Steps p.tables e below (T.setTop (mkF m (pc + 1) Ls (v :: st))) t) : Steps p.tables e below (T.setTop (mkF m pc Ls (.int j :: .ref a :: st))) t := by
  obtain ⟨z, cl, h1, r⟩ := A
  exact X.baloadBytes hx (by rw [eT]; exact h1.1) (State.isArrayOf_alike hZ.alike h1.2.1) h1.2.2 (own_in r h0 hj (List.getElem?_eq_some_iff.mp hv).1) (own_at r hj hv) (g := mkF m pc Ls (.int j :: .ref a :: st)) rfl rfl hd _ k
theorem own_aaload (X : Stand p l e R s m args below meth c T locs cells slots) (hx : p.tables.exec = Jvm.exec) (hZ : Z.Warmed39 s.vm) (eT : T.heap = h) (A : own_Ar Z h a ty vs) (hty : ty.isReference = true) {j : Int32} {i : Nat} {v : Value} (h0 : ¬ j < 0) (hj : j.toNatClampNeg = i) (hv : vs[i]? = some v) {pc : Nat} {Ls : Array Slot} {st : List Value} (hd : decode c.code pc = .ok (.aaload, 1)) (t : State)
    (k : Steps p.tables e below (T.setTop (mkF m (pc + 1) Ls (v :: st))) t) : Steps p.tables e below (T.setTop (mkF m pc Ls (.int j :: .ref a :: st))) t := by
  obtain ⟨z, cl, h1, r⟩ := A
  exact X.aaload hx (by rw [eT]; exact h1.1) (State.isArrayOf_alike hZ.alike h1.2.1) hty h1.2.2 (own_in r h0 hj (List.getElem?_eq_some_iff.mp hv).1) (own_at r hj hv) (g := mkF m pc Ls (.int j :: .ref a :: st)) rfl rfl hd _ k
theorem own_iastore (X : Stand p l e R s m args below meth c T locs cells slots) (hx : p.tables.exec = Jvm.exec) (hZ : Z.Warmed39 s.vm) (eT : T.heap = h) (A : own_Ar Z h a .int vs) {j x : Int32} {i : Nat} (h0 : ¬ j < 0) (hj : j.toNatClampNeg = i) (hi : i < vs.length) {pc : Nat} {Ls : Array Slot} {st : List Value} (hd : decode c.code pc = .ok (.iastore, 1)) :
    ∃ T' h', Stand p l e R s m args below meth c T' (locs ++ [⟨a, i⟩]) cells slots ∧ T'.heap = h' ∧ Wr h h' a i (.int x) ∧ own_Ar Z h' a .int (vs.set i (.int x)) ∧ ∀ t, Steps p.tables e below (T'.setTop (mkF m (pc + 1) Ls st)) t → Steps p.tables e below (T.setTop (mkF m pc Ls (.int x :: .int j :: .ref a :: st))) t := by
  have A' := A
  obtain ⟨z, cl, h1, r⟩ := A
  obtain ⟨T', h', X', e', W, k⟩ := stI X hx hZ eT h1 (j := j) (x := x) (own_in r h0 hj hi) (g := mkF m pc Ls (.int x :: .int j :: .ref a :: st)) rfl rfl hd
  rw [hj] at X' W
  exact ⟨T', h', X', e', W, A'.set W, k⟩
theorem own_lastore (X : Stand p l e R s m args below meth c T locs cells slots) (hx : p.tables.exec = Jvm.exec) (hZ : Z.Warmed39 s.vm) (eT : T.heap = h) (A : own_Ar Z h a .long vs) {j : Int32} {x : Int64} {i : Nat} (h0 : ¬ j < 0) (hj : j.toNatClampNeg = i) (hi : i < vs.length) {pc : Nat} {Ls : Array Slot} {st : List Value} (hd : decode c.code pc = .ok (.lastore, 1)) :
    ∃ T' h', Stand p l e R s m args below meth c T' (locs ++ [⟨a, i⟩]) cells slots ∧ T'.heap = h' ∧ Wr h h' a i (.long x) ∧ own_Ar Z h' a .long (vs.set i (.long x)) ∧ ∀ t, Steps p.tables e below (T'.setTop (mkF m (pc + 1) Ls st)) t → Steps p.tables e below (T.setTop (mkF m pc Ls (.long x :: .int j :: .ref a :: st))) t := by
  have A' := A
  obtain ⟨z, cl, h1, r⟩ := A
  obtain ⟨T', h', X', e', W, k⟩ := stJ X hx hZ eT h1 (j := j) (x := x) (own_in r h0 hj hi) (g := mkF m pc Ls (.long x :: .int j :: .ref a :: st)) rfl rfl hd
  rw [hj] at X' W
  exact ⟨T', h', X', e', W, A'.set W, k⟩
theorem own_bastore (X : Stand p l e R s m args below meth c T locs cells slots) (hx : p.tables.exec = Jvm.exec) (hZ : Z.Warmed39 s.vm) (eT : T.heap = h) (A : own_Ar Z h a .byte vs) {j x : Int32} {i : Nat} (h0 : ¬ j < 0) (hj : j.toNatClampNeg = i) (hi : i < vs.length) {pc : Nat} {Ls : Array Slot} {st : List Value} (hd : decode c.code pc = .ok (.bastore, 1)) :
    ∃ T' h', Stand p l e R s m args below meth c T' (locs ++ [⟨a, i⟩]) cells slots ∧ T'.heap = h' ∧ Wr h h' a i (.int (nar .byte x)) ∧ own_Ar Z h' a .byte (vs.set i (.int (nar .byte x))) ∧ ∀ t, Steps p.tables e below (T'.setTop (mkF m (pc + 1) Ls st)) t → Steps p.tables e below (T.setTop (mkF m pc Ls (.int x :: .int j :: .ref a :: st))) t := by
  have A' := A
  obtain ⟨z, cl, h1, r⟩ := A
  obtain ⟨T', h', X', e', W, k⟩ := stB X hx hZ eT h1 (j := j) (x := x) (own_in r h0 hj hi) (g := mkF m pc Ls (.int x :: .int j :: .ref a :: st)) rfl rfl hd
  rw [hj] at X' W
  exact ⟨T', h', X', e', W, A'.set W, k⟩
end OwnArr

def own_sp (p : Int32) : Int32 := (p * (-1640531527 : Int32)) ^^^ (((p * (-1640531527 : Int32)).toUInt32 >>> ((16 : Int32) &&& 31).toUInt32).toInt32)
/-- where the search of x begins -/
def own_s (x : Int32) : Nat := (own_sp x &&& (15 : Int32)).toNatClampNeg
theorem own_s_eq (x : Int32) : own_sp x &&& (15 : Int32) = Int32.ofNat (own_s x) ∧ own_s x < 16 := by
  have h := Jvm.Kit.i32_mask (own_sp x) 15 (k := 4) (by decide) (by decide)
  have e : own_s x = (own_sp x &&& (15 : Int32)).toInt.toNat := rfl
  refine ⟨?_, by omega⟩
  apply Int32.toInt_inj.mp
  rw [Int32.toInt_ofNat_small (by omega)]; omega
/-- the k-th place of the search of x -/
def own_pl (x : Int32) (k : Nat) : Nat := (own_s x + k) % 16
theorem own_pl_lt (x : Int32) (k : Nat) : own_pl x k < 16 := Nat.mod_lt _ (by decide)
def own_pr (ts : List Int32) (x : Int32) (k : Nat) : Int32 := ts.getD (own_pl x k) 0
/-- the search of x ends at its k-th place -/
def own_fin (ts : List Int32) (x : Int32) (k : Nat) : Prop := (own_pr ts x k = x ∨ own_pr ts x k = -1) ∧ ∀ j, j < k → ¬ own_pr ts x j = x ∧ ¬ own_pr ts x j = -1
def own_good (ts : List Int32) (S : List Int32) : Prop := ts.length = 16 ∧ (∀ i, i < 16 → ts.getD i 0 = -1 ∨ ts.getD i 0 ∈ S) ∧ (∀ y ∈ S, ∃ k, k < 16 ∧ own_pr ts y k = y ∧ ∀ j, j < k → ¬ own_pr ts y j = y ∧ ¬ own_pr ts y j = -1) ∧ ∃ P : List Nat, P.length ≤ S.length ∧ ∀ i, i < 16 → ¬ ts.getD i 0 = -1 → i ∈ P
theorem own_good0 : own_good (List.replicate 16 (-1 : Int32)) [] := by
  have h : ∀ i, i < 16 → (List.replicate 16 (-1 : Int32)).getD i 0 = -1 := by decide
  exact ⟨rfl, fun i hi => Or.inl (h i hi), (fun y hy => by cases hy), [], Nat.le_refl _, fun i hi q => absurd (h i hi) q⟩
theorem own_hit {ts S : List Int32} {x : Int32} (G : own_good ts S) (hx : x ∈ S) : ∃ k, k < 16 ∧ own_fin ts x k ∧ own_pr ts x k = x := by
  obtain ⟨k, hk, h1, h2⟩ := G.2.2.1 x hx
  exact ⟨k, hk, ⟨Or.inl h1, h2⟩, h1⟩
theorem own_free {ts S : List Int32} (G : own_good ts S) (hS : S.length ≤ 2) (s : Nat) : ts.getD ((s + 0) % 16) 0 = -1 ∨ ts.getD ((s + 1) % 16) 0 = -1 ∨ ts.getD ((s + 2) % 16) 0 = -1 := by
  obtain ⟨-, -, -, P, hP, hq⟩ := G
  have key : ∀ k, ts.getD ((s + k) % 16) 0 = -1 ∨ (s + k) % 16 ∈ P := fun k => by
    by_cases h : ts.getD ((s + k) % 16) 0 = -1
    · exact Or.inl h
    · exact Or.inr (hq _ (Nat.mod_lt _ (by decide)) h)
  have h0 := key 0
  have h1 := key 1
  have h2 := key 2
  match P, hP with
  | [], _ => simp at h0; exact Or.inl h0
  | [p], _ =>
    simp only [List.mem_singleton] at h0 h1 h2
    rcases h0 with h0 | h0
    · exact Or.inl h0
    · rcases h1 with h1 | h1
      · exact Or.inr (Or.inl h1)
      · omega
  | [p, q], _ =>
    simp only [List.mem_cons, List.not_mem_nil, or_false] at h0 h1 h2
    rcases h0 with h0 | h0
    · exact Or.inl h0
    · rcases h1 with h1 | h1
      · exact Or.inr (Or.inl h1)
      · rcases h2 with h2 | h2
        · exact Or.inr (Or.inr h2)
        · omega
  | _ :: _ :: _ :: _, h => simp at h; omega
theorem own_miss {ts S : List Int32} {x : Int32} (G : own_good ts S) (hS : S.length ≤ 2) (hx : x ∉ S) (hm : ¬ x = -1) : ∃ k, k < 16 ∧ own_fin ts x k ∧ own_pr ts x k = -1 := by
  have nx : ∀ k, ¬ own_pr ts x k = x := fun k q => by
    rcases G.2.1 _ (own_pl_lt x k) with h | h
    · exact hm (q.symm.trans h)
    · rw [show ts.getD (own_pl x k) 0 = own_pr ts x k from rfl, q] at h; exact hx h
  have h0 : own_pr ts x 0 = -1 ∨ own_pr ts x 1 = -1 ∨ own_pr ts x 2 = -1 := own_free G hS (own_s x)
  by_cases q0 : own_pr ts x 0 = -1
  · exact ⟨0, by decide, ⟨Or.inr q0, fun j hj => by omega⟩, q0⟩
  · by_cases q1 : own_pr ts x 1 = -1
    · refine ⟨1, by decide, ⟨Or.inr q1, fun j hj => ⟨nx j, ?_⟩⟩, q1⟩
      rw [show j = 0 from by omega]; exact q0
    · have q2 : own_pr ts x 2 = -1 := by rcases h0 with h | h | h <;> first | exact absurd h q0 | exact absurd h q1 | exact h
      refine ⟨2, by decide, ⟨Or.inr q2, fun j hj => ⟨nx j, ?_⟩⟩, q2⟩
      rcases (show j = 0 ∨ j = 1 by omega) with h | h <;> rw [h] <;> assumption
theorem own_getD_set (ts : List Int32) (p i : Nat) (x : Int32) (hp : p < ts.length) : (ts.set p x).getD i 0 = if i = p then x else ts.getD i 0 := by
  rw [List.getD_eq_getElem?_getD, List.getD_eq_getElem?_getD, List.getElem?_set]
  by_cases h : p = i
  · subst h; simp [hp]
  · rw [if_neg h, if_neg (fun q => h q.symm)]
theorem own_ins {ts S : List Int32} {x : Int32} (G : own_good ts S) (hx : x ∉ S) (hm : ¬ x = -1) (hS : ∀ y ∈ S, ¬ y = -1) {k : Nat} (hk : k < 16) (E : own_fin ts x k) (h : own_pr ts x k = -1) : own_good (ts.set (own_pl x k) x) (x :: S) := by
  obtain ⟨g1, g2, g3, P, hP, hq⟩ := G
  have hp : own_pl x k < ts.length := by rw [g1]; exact own_pl_lt x k
  have rd : ∀ y j, own_pr (ts.set (own_pl x k) x) y j = if own_pl y j = own_pl x k then x else own_pr ts y j := fun y j => own_getD_set ts _ _ x hp
  refine ⟨by rw [List.length_set]; exact g1, ?_, ?_, own_pl x k :: P, by simp; omega, ?_⟩
  · intro i hi
    rw [own_getD_set ts _ _ x hp]
    split
    · exact Or.inr (List.mem_cons_self ..)
    · rcases g2 i hi with q | q
      · exact Or.inl q
      · exact Or.inr (List.mem_cons_of_mem _ q)
  · intro y hy
    rcases List.mem_cons.mp hy with rfl | hy
    · refine ⟨k, hk, by rw [rd, if_pos rfl], fun j hj => ?_⟩
      have hne : ¬ own_pl y j = own_pl y k := by unfold own_pl; have := (own_s_eq y).2; omega
      rw [rd, if_neg hne]
      exact E.2 j hj
    · obtain ⟨ky, q1, q2, q3⟩ := g3 y hy
      have hxy : ¬ x = y := fun q => hx (q ▸ hy)
      refine ⟨ky, q1, ?_, fun j hj => ?_⟩
      · rw [rd]
        split
        · rename_i e
          have : own_pr ts y ky = own_pr ts x k := by unfold own_pr; rw [e]
          exact absurd (q2.symm.trans (this.trans h)) (hS y hy)
        · exact q2
      · rw [rd]
        split
        · exact ⟨hxy, hm⟩
        · exact q3 j hj
  · intro i hi q
    rw [own_getD_set ts _ _ x hp] at q
    by_cases e : i = own_pl x k
    · rw [e]; exact List.mem_cons_self ..
    · rw [if_neg e] at q; exact List.mem_cons_of_mem _ (hq i hi q)
/-- 1L << x -/
def own_w (x : Int32) : Int64 := (1 : Int64) <<< (x &&& 0x3f).toInt64
def own_k (x : Int32) : Nat := (x.toInt % 64).toNat
theorem own_w_bit (x : Int32) (i : Nat) : (own_w x).toBitVec.getLsbD i = (decide (i < 64) && decide (i = own_k x)) := by
  have h := Jvm.Kit.i32_mask x 0x3f (k := 6) (by decide) (by decide)
  have hk : own_k x < 64 := by unfold own_k; omega
  have e : ((x &&& 0x3f).toInt64.toBitVec.smod 64).toNat = own_k x := by
    have e1 : (x &&& 0x3f).toInt64.toInt = (own_k x : Int) := by rw [Int32.toInt_toInt64, h]; unfold own_k; omega
    have e2 : (x &&& 0x3f).toInt64 = Int64.ofNat (own_k x) := by
      apply Int64.toInt_inj.mp
      rw [e1, Int64.toInt_ofNat_of_lt (by omega)]
    rw [e2]
    have : ∀ q : Fin 64, ((Int64.ofNat q.val).toBitVec.smod 64).toNat = q.val := by decide +kernel
    exact this ⟨_, hk⟩
  rw [own_w, Int64.toBitVec_shiftLeft, BitVec.shiftLeft_eq', e]
  show (1#64 <<< own_k x).getLsbD i = _
  rw [BitVec.getLsbD_shiftLeft]
  by_cases h64 : i < 64
  · by_cases hik : i < own_k x
    · simp [h64, hik]; omega
    · have : (1#64).getLsbD (i - own_k x) = decide (i - own_k x = 0) := by
        rw [BitVec.getLsbD_one]; simp
      rw [this]; simp [h64, hik]; omega
  · simp [h64]
theorem own_bit (w : Int64) (x : Int32) : (w &&& own_w x = 0) ↔ w.toBitVec.getLsbD (own_k x) = false := by
  have hk : own_k x < 64 := by unfold own_k; omega
  rw [← Int64.toBitVec_inj, Int64.toBitVec_and]
  constructor
  · intro h
    have q := congrArg (fun b => b.getLsbD (own_k x)) h
    simp only [BitVec.getLsbD_and, own_w_bit, hk, decide_true, Bool.and_true] at q
    rw [q]
    show (0#64).getLsbD _ = false
    simp
  · intro h
    apply BitVec.eq_of_getLsbD_eq
    intro i hi
    show _ = (0#64).getLsbD i
    rw [BitVec.getLsbD_and, own_w_bit, BitVec.getLsbD_zero]
    by_cases e : i = own_k x
    · rw [e, h]; simp
    · simp [e]
theorem own_or (w : Int64) (x y : Int32) : ((w ||| own_w x) &&& own_w y = 0) ↔ (w &&& own_w y = 0) ∧ ¬ own_k y = own_k x := by
  have hk : own_k y < 64 := by unfold own_k; omega
  rw [own_bit, own_bit, Int64.toBitVec_or, BitVec.getLsbD_or, own_w_bit]
  simp [hk]
def own_q (x : Int32) : Nat := x.toInt.toNat / 64
theorem own_div (x : Int32) (h0 : 0 ≤ x.toInt) : ¬ x / (64 : Int32) < 0 ∧ (x / (64 : Int32)).toNatClampNeg = own_q x := by
  have h := Jvm.Kit.i32_div (x := x) (y := 64) (by rw [show (64 : Int32).toInt = 64 from rfl]; omega)
  rw [show (64 : Int32).toInt = 64 from rfl, Int.tdiv_eq_ediv_of_nonneg h0] at h
  refine ⟨?_, ?_⟩
  · rw [Int32.lt_iff_toInt_lt, h, show (0 : Int32).toInt = 0 from rfl]; omega
  · show (x / (64 : Int32)).toInt.toNat = _
    rw [h, own_q]; omega
def own_bgood (ls : List Int64) (nc : Nat) (S : List Int32) : Prop := ls.length = (nc + 63) / 64 ∧ ∀ y : Int32, 0 ≤ y.toInt → y.toInt < nc → (¬ (ls.getD (own_q y) 0 &&& own_w y) = 0 ↔ y ∈ S)
theorem own_bgood0 (nc : Nat) : own_bgood (List.replicate ((nc + 63) / 64) (0 : Int64)) nc [] := by
  refine ⟨by simp, fun y _ _ => ?_⟩
  have e : (List.replicate ((nc + 63) / 64) (0 : Int64)).getD (own_q y) 0 = 0 := by
    rw [List.getD_eq_getElem?_getD, List.getElem?_replicate]; split <;> rfl
  rw [e]
  simp
theorem own_q_lt {x : Int32} {nc : Nat} (h0 : 0 ≤ x.toInt) (h1 : x.toInt < nc) : own_q x < (nc + 63) / 64 := by unfold own_q; omega
theorem own_getD_setL (ts : List Int64) (p i : Nat) (x : Int64) (hp : p < ts.length) : (ts.set p x).getD i 0 = if i = p then x else ts.getD i 0 := by
  rw [List.getD_eq_getElem?_getD, List.getD_eq_getElem?_getD, List.getElem?_set]
  by_cases h : p = i
  · subst h; simp [hp]
  · rw [if_neg h, if_neg (fun q => h q.symm)]
theorem own_bins {ls : List Int64} {nc : Nat} {S : List Int32} {x : Int32} (G : own_bgood ls nc S) (h0 : 0 ≤ x.toInt) (h1 : x.toInt < nc) : own_bgood (ls.set (own_q x) (ls.getD (own_q x) 0 ||| own_w x)) nc (x :: S) := by
  refine ⟨by rw [List.length_set]; exact G.1, fun y q0 q1 => ?_⟩
  have hp : own_q x < ls.length := by rw [G.1]; exact own_q_lt h0 h1
  rw [own_getD_setL ls _ _ _ hp, List.mem_cons]
  by_cases e : own_q y = own_q x
  · rw [if_pos e, own_or, ← G.2 y q0 q1, e]
    have hk : own_k y = own_k x ↔ y = x := by
      rw [← Int32.toInt_inj]
      unfold own_k own_q at *
      omega
    rw [hk]
    by_cases hyx : y = x
    · simp [hyx]
    · simp [hyx]
  · rw [if_neg e, G.2 y q0 q1]
    have : ¬ y = x := fun q => e (by rw [q])
    simp [this]
theorem own_nn {i : Nat} (h : i < 2 ^ 31) : ¬ Int32.ofNat i < 0 := by
  rw [Int32.lt_iff_toInt_lt, Int32.toInt_ofNat_small h, show (0 : Int32).toInt = 0 from rfl]; omega
theorem own_nc {i : Nat} (h : i < 2 ^ 31) : (Int32.ofNat i).toNatClampNeg = i := by
  rw [Int32.toNatClampNeg, Int32.toInt_ofNat_small h]; rfl
theorem own_pl_lt31 (x : Int32) (k : Nat) : own_pl x k < 2 ^ 31 := by have := own_pl_lt x k; omega
theorem own_rd {ts : List Int32} (hl : ts.length = 16) (x : Int32) (k : Nat) : (ts.map Value.int)[own_pl x k]? = some (.int (own_pr ts x k)) := by
  have h : own_pl x k < ts.length := by rw [hl]; exact own_pl_lt x k
  rw [List.getElem?_map, List.getElem?_eq_getElem h, own_pr, List.getD_eq_getElem?_getD, List.getElem?_eq_getElem h]; rfl
theorem own_rdL {ls : List Int64} {x : Int32} (h : own_q x < ls.length) : (ls.map Value.long)[own_q x]? = some (.long (ls.getD (own_q x) 0)) := by
  rw [List.getElem?_map, List.getElem?_eq_getElem h, List.getD_eq_getElem?_getD, List.getElem?_eq_getElem h]; rfl
theorem own_pl0 (x : Int32) : own_sp x &&& (15 : Int32) = Int32.ofNat (own_pl x 0) := by
  rw [(own_s_eq x).1, own_pl, Nat.add_zero, Nat.mod_eq_of_lt (own_s_eq x).2]
theorem own_nextpl (x : Int32) (j : Nat) : (Int32.ofNat (own_pl x j) + (1 : Int32)) &&& (15 : Int32) = Int32.ofNat (own_pl x (j + 1)) := by
  have h := own_pl_lt x j
  have e : ∀ q : Fin 16, (Int32.ofNat q.val + (1 : Int32)) &&& (15 : Int32) = Int32.ofNat ((q.val + 1) % 16) := by decide +kernel
  have e' := e ⟨own_pl x j, h⟩
  rw [e']
  congr 1
  show (own_pl x j + 1) % 16 = own_pl x (j + 1)
  unfold own_pl; omega
theorem own_le512 {nc : Int32} {N : Nat} (hN : nc.toInt = N) (hn : N ≤ 512) : ¬ (512 : Int32) < nc := by
  rw [Int32.lt_iff_toInt_lt, hN, show (512 : Int32).toInt = 512 from rfl]; omega
theorem own_bl {nc : Int32} {N : Nat} (hN : nc.toInt = N) (hn : N ≤ 512) : ¬ (((nc + (64 : Int32)) - (1 : Int32)) / (64 : Int32)) < 0 ∧ (((nc + (64 : Int32)) - (1 : Int32)) / (64 : Int32)).toNatClampNeg = (N + 63) / 64 := by
  have h1 : (nc + (64 : Int32)).toInt = nc.toInt + 64 := Jvm.Kit.i32_add (q := 64) (by rw [show (64 : Int32).toInt = 64 from rfl]; omega) (by rw [show (64 : Int32).toInt = 64 from rfl]; omega)
  have h2 : ((nc + (64 : Int32)) - (1 : Int32)).toInt = (nc + (64 : Int32)).toInt - 1 := Jvm.Kit.i32_sub (q := 1) (by rw [show (1 : Int32).toInt = 1 from rfl]; omega) (by rw [show (1 : Int32).toInt = 1 from rfl]; omega)
  have h3 := Jvm.Kit.i32_div (x := (nc + (64 : Int32)) - (1 : Int32)) (y := 64) (by rw [show (64 : Int32).toInt = 64 from rfl]; omega)
  rw [show (64 : Int32).toInt = 64 from rfl, Int.tdiv_eq_ediv_of_nonneg (by omega)] at h3
  refine ⟨?_, ?_⟩
  · rw [Int32.lt_iff_toInt_lt, h3, show (0 : Int32).toInt = 0 from rfl]; omega
  · show (((nc + (64 : Int32)) - (1 : Int32)) / (64 : Int32)).toInt.toNat = _
    rw [h3]; omega
theorem own_ne1 {x : Int32} (h : 0 ≤ x.toInt) : ¬ x = -1 := fun q => by rw [q, show (-1 : Int32).toInt = -1 from rfl] at h; omega
theorem own_ncT (n : Int32) : 513 ≤ ((513 : Int32) + (n &&& (1073741823 : Int32))).toInt := by
  have h1 := Jvm.Kit.i32_mask n 1073741823 (k := 30) (by decide) (by decide)
  have h2 : ((513 : Int32) + (n &&& (1073741823 : Int32))).toInt = (513 : Int32).toInt + (n &&& (1073741823 : Int32)).toInt := Jvm.Kit.i32_add (by rw [show (513 : Int32).toInt = 513 from rfl]; omega) (by rw [show (513 : Int32).toInt = 513 from rfl]; omega)
  rw [h2, show (513 : Int32).toInt = 513 from rfl]; omega
theorem own_ncB (n : Int32) : 1 ≤ ((1 : Int32) + (n &&& (511 : Int32))).toInt ∧ ((1 : Int32) + (n &&& (511 : Int32))).toInt ≤ 512 := by
  have h1 := Jvm.Kit.i32_mask n 511 (k := 9) (by decide) (by decide)
  have h2 : ((1 : Int32) + (n &&& (511 : Int32))).toInt = (1 : Int32).toInt + (n &&& (511 : Int32)).toInt := Jvm.Kit.i32_add (by rw [show (1 : Int32).toInt = 1 from rfl]; omega) (by rw [show (1 : Int32).toInt = 1 from rfl]; omega)
  rw [h2, show (1 : Int32).toInt = 1 from rfl]; omega
theorem own_nz {nc : Int32} (h : 1 ≤ nc.toInt) : nc ≠ 0 := fun q => by rw [q, show (0 : Int32).toInt = 0 from rfl] at h; omega
def own_ok (nc x : Int32) : Prop := 0 ≤ x.toInt ∧ x.toInt < nc.toInt
theorem own_okm {nc x y : Int32} (h : 1 ≤ nc.toInt) (e : (x &&& (2147483647 : Int32)) % nc = y) : own_ok nc y := by
  have h1 := Jvm.Kit.i32_mask x 2147483647 (k := 31) (by decide) (by decide)
  have h2 : ((x &&& (2147483647 : Int32)) % nc).toInt = (x &&& (2147483647 : Int32)).toInt % nc.toInt := Jvm.Kit.i32_rem_nonneg (by omega)
  rw [← e]
  unfold own_ok
  rw [h2]
  exact ⟨Int.emod_nonneg _ (by omega), Int.emod_lt_of_pos _ (by omega)⟩
theorem own_ql {ls : List Int64} {nc : Int32} {S : List Int32} (G : own_bgood ls nc.toInt.toNat S) {x : Int32} (h : own_ok nc x) : own_q x < ls.length := by
  rw [G.1]; exact own_q_lt h.1 (by have := h.1; have := h.2; omega)
theorem own_bin {ls : List Int64} {nc : Int32} {S : List Int32} (G : own_bgood ls nc.toInt.toNat S) {x : Int32} (h : own_ok nc x) (hS : x ∈ S) : ¬ ls.getD (own_q x) 0 &&& own_w x = 0 := (G.2 x h.1 (by have := h.1; have := h.2; omega)).mpr hS
theorem own_bout {ls : List Int64} {nc : Int32} {S : List Int32} (G : own_bgood ls nc.toInt.toNat S) {x : Int32} (h : own_ok nc x) (hS : x ∉ S) : ls.getD (own_q x) 0 &&& own_w x = 0 := Classical.byContradiction fun q => hS ((G.2 x h.1 (by have := h.1; have := h.2; omega)).mp q)
theorem own_bins' {ls : List Int64} {nc : Int32} {S : List Int32} (G : own_bgood ls nc.toInt.toNat S) {x : Int32} (h : own_ok nc x) : own_bgood (ls.set (own_q x) (ls.getD (own_q x) 0 ||| own_w x)) nc.toInt.toNat (x :: S) := own_bins G h.1 (by have := h.1; have := h.2; omega)

def own_sg : Lambda.Shape := Lambda.Shape.mk "java/util/function/IntUnaryOperator" "applyAsInt" (MethodDescriptor.mk ([FieldType.int] : List FieldType) (Option.some FieldType.int)) ([] : List FieldType) 6 "com/example/kinds_by_value/kindsbyvalue/NameSet" "lambda$below$0" (MethodDescriptor.mk ([FieldType.int] : List FieldType) (Option.some FieldType.int)) false (MethodDescriptor.mk ([FieldType.int] : List FieldType) (Option.some FieldType.int))
def own_bel : MethodName := ⟨"com/example/kinds_by_value/kindsbyvalue/NameSet", "below", "(I)[I"⟩
/-- the lambda's site is linked in U -/
def own_Site (U : State) : Prop := ∃ c one, U.lambdaAt? own_bel 12 53 own_sg = some (c, one)
def own_fc : ByteArray := ⟨#[0x1b, 0xb8, 0x00, 0x11, 0xac]⟩
theorem own_fc0 : decode own_fc 0 = .ok (.iload_n 1, 1) := by decide +kernel
theorem own_fc1 : decode own_fc 1 = .ok (.invokestatic 17, 3) := by decide +kernel
theorem own_fc4 : decode own_fc (1 + 3) = .ok (.ireturn, 1) := by decide +kernel
theorem own_fok : Jvm.LamKit.fwdOK own_sg "com/example/kinds_by_value/kindsbyvalue/NameSet" own_fc 2 (some .int) 17 14 = true := by decide +kernel
section OwnBack
variable {p : Program} {l : Launch} {e : Env} {R : Room} {s : State} {args : Array Value} {below : List Frame} {Z : State} {a0 : Array Value} {h : Heap}
theorem own_backX {y : MethodName} {bytes : ByteArray} {maxL : Nat} {ret : Option FieldType} {rm : Room} {len W : Nat} {as' : Array Value} {Q : Option Value → Heap → List Loc → Prop} {Ex : State → Prop}
    (hM : MetFree l y (head1 [Cond.code y bytes maxL ret] rm) (fun a U => a = as' ∧ Z.Warmed39 U.vm ∧ U.heap = h ∧ Ex U) (fun _ _ _ _ _ => True) (fun _ U o U' => ∃ v L, o = .returned v ∧ Q v U'.heap L ∧ FrameEnd U o U' L rm.cells rm.slots))
    (hZ : Z.Warmed39 s.vm) (wc : (Cond.code y bytes maxL ret).before a0 Z = true) (wz : (Cond.initialized y.cls).before a0 Z = true) (hf : rm.frames + 1 ≤ R.frames) (hl : W + (maxL + 11) + rm.locals ≤ R.locals)
    (hEx : ∀ m meth c (A : Pt) a (g : JFrame) mk, Stand p l e R s m args below meth c A.U A.locs A.cells A.slots → Ex (A.U.calling g mk a)) :
    Back l R p e below s args y len W (fun A a => a = as' ∧ A.U.heap = h ∧ A.cells + rm.cells ≤ R.cells ∧ A.slots + rm.slots ≤ R.slots)
      (fun A _ v B => ∃ L, Q v B.U.heap L ∧ B.locs = A.locs ++ L ∧ B.cells = A.cells + rm.cells ∧ B.slots = A.slots + rm.slots) :=
  Back.of_free (bytes := bytes) (maxL := maxL) (ret := ret) (E := fun _ _ o t L k n => k = rm.cells ∧ n = rm.slots ∧ ∃ v, o = .returned v ∧ Q v t.heap L) hM hf hl
    (fun m meth c A a Y hp => by
      have hU : Z.Warmed39 A.U.vm := wtrans hZ Y.warmed
      refine ⟨?_, mv hU wc, mv hU wz, hp.2.2.1, hp.2.2.2⟩
      show (Cond.and _ .tt).before a A.U = true
      rw [Cond.before_and, mv hU wc]; rfl)
    (fun m meth c A a g mk Y hp => ⟨hp.1, wtrans hZ Y.warmed, hp.2.1, hEx m meth c A a g mk Y⟩) (fun _ _ _ _ _ _ _ _ _ => trivial)
    (fun a first o t hq => by obtain ⟨v, L, ho, hq, hF⟩ := hq; exact ⟨L, _, _, hF, rfl, rfl, v, ho, hq⟩)
    (fun m meth c A a g mk v t L k n Y hp hq hF hE => by
      obtain ⟨rfl, rfl, v', ho, hq'⟩ := hE
      cases ho
      exact ⟨L, hq', rfl, rfl, rfl⟩)
theorem own_site_at {m : MethodId} {meth : Method} {c : Code} {A : Pt} {a : Array Value} {g : JFrame} {mk : MethodId} (hS : own_Site s) (Y : Stand p l e R s m args below meth c A.U A.locs A.cells A.slots) : own_Site (A.U.calling g mk a) := by
  obtain ⟨cK, one, q⟩ := hS
  exact ⟨cK, one, (State.lambdaAt?_rides (t := A.U) Y.warmed Y.same q :)⟩
theorem own_made_at {m : MethodId} {meth : Method} {c : Code} {A : Pt} {a : Array Value} {g : JFrame} {mk : MethodId} {host : String} {σ : Lambda.Shape} {cK : ClassId} (hS : Jvm.LamKit.Made s host σ cK) (Y : Stand p l e R s m args below meth c A.U A.locs A.cells A.slots) : Jvm.LamKit.Made (A.U.calling g mk a) host σ cK := by
  obtain ⟨d, dk, h1, h2, h3, h4⟩ := hS
  obtain ⟨dk', q1, q2⟩ := Y.warmed.alike.2.2 _ _ h1
  refine ⟨d, dk', q1, by rw [q2]; exact h2, Lambda.isMade_warmer Y.warmed h3, ?_⟩
  have hA := Y.warmed.alike
  show A.U.lambdaCallable σ cK = true
  simp only [State.lambdaCallable, hA.findClass, hA.assignable, hA.superclasses, hA.declaredIn] at h4 ⊢
  exact h4
theorem own_fn_ext {h h' : Heap} {a : Addr} {cK : ClassId} (F : Jvm.LamKit.FnAt h a cK) (E : Ext h h') : Jvm.LamKit.FnAt h' a cK := by obtain ⟨cl, q, r⟩ := F; exact ⟨cl, E.2 _ _ q, r⟩
theorem own_fn_wr {h h' : Heap} {a b : Addr} {sl : Nat} {v : Value} {cK : ClassId} (F : Jvm.LamKit.FnAt h a cK) (W : Wr h h' b sl v) : Jvm.LamKit.FnAt h' a cK := by
  obtain ⟨cl, q, r1, r2⟩ := F
  obtain ⟨cl', q', s1, s2, -⟩ := wr_at W q
  exact ⟨cl', q', by rw [s1]; exact r1, by rw [s2]; exact r2⟩
end OwnBack
theorem own_lim (c : Int32) {y : Int32} (h : ((c.toUInt32 >>> ((10 : Int32) &&& 31).toUInt32).toInt32) &&& (7 : Int32) = y) : y = 0 ∨ y = 1 ∨ y = 2 ∨ y = 3 ∨ y = 4 ∨ y = 5 ∨ y = 6 ∨ y = 7 := by
  have h1 := Jvm.Kit.i32_mask ((c.toUInt32 >>> ((10 : Int32) &&& 31).toUInt32).toInt32) 7 (k := 3) (by decide) (by decide)
  rw [h] at h1
  simp only [← Int32.toInt_inj, show (0 : Int32).toInt = 0 from rfl, show (1 : Int32).toInt = 1 from rfl, show (2 : Int32).toInt = 2 from rfl, show (3 : Int32).toInt = 3 from rfl, show (4 : Int32).toInt = 4 from rfl, show (5 : Int32).toInt = 5 from rfl, show (6 : Int32).toInt = 6 from rfl, show (7 : Int32).toInt = 7 from rfl]
  omega
theorem own_nc1023 (n : Int32) {y : Int32} (h : n &&& (1023 : Int32) = y) : 0 ≤ y.toInt ∧ y.toInt < 1024 := by
  have h1 := Jvm.Kit.i32_mask n 1023 (k := 10) (by decide) (by decide)
  rw [h] at h1; omega
theorem own_siteC {s : State} {args : Array Value} (h : own_Site s) : (Cond.lambdaSite own_bel 12 53 own_sg).before args s = true := by
  obtain ⟨c, one, q⟩ := h
  simp [Cond.before, Cond.holds, Cond.value, q]
theorem own_nzlt {x : Int32} (h : 0 < x) : x ≠ 0 := fun q => by rw [q] at h; exact absurd h (by decide)

theorem d13_0 : decode prog_6_method_2_code 0 = .ok (.iload_n 0, 1) := by decide +kernel
theorem d13_1 : decode prog_6_method_2_code 1 = .ok (.ldc 7, 2) := by decide +kernel
theorem d13_3 : decode prog_6_method_2_code 3 = .ok (.imul, 1) := by decide +kernel
theorem d13_4 : decode prog_6_method_2_code 4 = .ok (.istore_n 1, 1) := by decide +kernel
theorem d13_5 : decode prog_6_method_2_code 5 = .ok (.iload_n 1, 1) := by decide +kernel
theorem d13_6 : decode prog_6_method_2_code 6 = .ok (.iload_n 1, 1) := by decide +kernel
theorem d13_7 : decode prog_6_method_2_code 7 = .ok (.bipush 16, 2) := by decide +kernel
theorem d13_9 : decode prog_6_method_2_code 9 = .ok (.iushr, 1) := by decide +kernel
theorem d13_10 : decode prog_6_method_2_code 10 = .ok (.ixor, 1) := by decide +kernel
theorem d13_11 : decode prog_6_method_2_code 11 = .ok (.ireturn, 1) := by decide +kernel
theorem pn_0 : plainName "com/example/kinds_by_value/kindsbyvalue/Hashes" = true := by first | (simp [plainName, overriddenIn]; done) | decide +kernel
theorem d16_0 : decode jdk_65_method_103_code 0 = .ok (.iconst 0, 1) := by decide +kernel
theorem d16_1 : decode jdk_65_method_103_code 1 = .ok (.istore_n 2, 1) := by decide +kernel
theorem d16_2 : decode jdk_65_method_103_code 2 = .ok (.aload_n 0, 1) := by decide +kernel
theorem d16_3 : decode jdk_65_method_103_code 3 = .ok (.arraylength, 1) := by decide +kernel
theorem d16_4 : decode jdk_65_method_103_code 4 = .ok (.istore_n 3, 1) := by decide +kernel
theorem d16_5 : decode jdk_65_method_103_code 5 = .ok (.iload_n 2, 1) := by decide +kernel
theorem d16_6 : decode jdk_65_method_103_code 6 = .ok (.iload_n 3, 1) := by decide +kernel
theorem d16_7 : decode jdk_65_method_103_code 7 = .ok (.if_icmp .ge 13, 3) := by decide +kernel
theorem d16_10 : decode jdk_65_method_103_code 10 = .ok (.aload_n 0, 1) := by decide +kernel
theorem d16_11 : decode jdk_65_method_103_code 11 = .ok (.iload_n 2, 1) := by decide +kernel
theorem d16_12 : decode jdk_65_method_103_code 12 = .ok (.iload_n 1, 1) := by decide +kernel
theorem d16_13 : decode jdk_65_method_103_code 13 = .ok (.iastore, 1) := by decide +kernel
theorem d16_14 : decode jdk_65_method_103_code 14 = .ok (.iinc 2 1, 3) := by decide +kernel
theorem d16_17 : decode jdk_65_method_103_code 17 = .ok (.goto (-12), 3) := by decide +kernel
theorem d16_20 : decode jdk_65_method_103_code 20 = .ok (.return_, 1) := by decide +kernel
theorem pn_1 : plainName "java/util/Arrays" = true := by first | (simp [plainName, overriddenIn]; done) | decide +kernel
theorem d15_0 : decode prog_9_method_11_code 0 = .ok (.iload_n 0, 1) := by decide +kernel
theorem d15_1 : decode prog_9_method_11_code 1 = .ok (.newarray .int, 2) := by decide +kernel
theorem d15_3 : decode prog_9_method_11_code 3 = .ok (.astore_n 1, 1) := by decide +kernel
theorem d15_4 : decode prog_9_method_11_code 4 = .ok (.aload_n 1, 1) := by decide +kernel
theorem d15_5 : decode prog_9_method_11_code 5 = .ok (.iconst (-1), 1) := by decide +kernel
theorem d15_6 : decode prog_9_method_11_code 6 = .ok (.invokestatic 99, 3) := by decide +kernel
theorem d15_9 : decode prog_9_method_11_code 9 = .ok (.aload_n 1, 1) := by decide +kernel
theorem d15_10 : decode prog_9_method_11_code 10 = .ok (.areturn, 1) := by decide +kernel
theorem pn_2 : plainName "com/example/kinds_by_value/kindsbyvalue/NameSet" = true := by first | (simp [plainName, overriddenIn]; done) | decide +kernel
theorem pd_0 : parseMethodDescriptor "([II)V" = some ⟨[(.array .int), .int], none⟩ := by decide +kernel
theorem d1_0 : decode prog_9_method_1_code 0 = .ok (.aload_n 0, 1) := by decide +kernel
theorem d1_1 : decode prog_9_method_1_code 1 = .ok (.invokespecial 5, 3) := by decide +kernel
theorem d1_4 : decode prog_9_method_1_code 4 = .ok (.iload_n 1, 1) := by decide +kernel
theorem d1_5 : decode prog_9_method_1_code 5 = .ok (.sipush 512, 3) := by decide +kernel
theorem d1_8 : decode prog_9_method_1_code 8 = .ok (.if_icmp .gt 21, 3) := by decide +kernel
theorem d1_11 : decode prog_9_method_1_code 11 = .ok (.aload_n 0, 1) := by decide +kernel
theorem d1_12 : decode prog_9_method_1_code 12 = .ok (.iload_n 1, 1) := by decide +kernel
theorem d1_13 : decode prog_9_method_1_code 13 = .ok (.bipush 64, 2) := by decide +kernel
theorem d1_15 : decode prog_9_method_1_code 15 = .ok (.iadd, 1) := by decide +kernel
theorem d1_16 : decode prog_9_method_1_code 16 = .ok (.iconst 1, 1) := by decide +kernel
theorem d1_17 : decode prog_9_method_1_code 17 = .ok (.isub, 1) := by decide +kernel
theorem d1_18 : decode prog_9_method_1_code 18 = .ok (.bipush 64, 2) := by decide +kernel
theorem d1_20 : decode prog_9_method_1_code 20 = .ok (.idiv, 1) := by decide +kernel
theorem d1_21 : decode prog_9_method_1_code 21 = .ok (.newarray .long, 2) := by decide +kernel
theorem d1_23 : decode prog_9_method_1_code 23 = .ok (.putfield 13, 3) := by decide +kernel
theorem d1_26 : decode prog_9_method_1_code 26 = .ok (.goto 12, 3) := by decide +kernel
theorem d1_29 : decode prog_9_method_1_code 29 = .ok (.aload_n 0, 1) := by decide +kernel
theorem d1_30 : decode prog_9_method_1_code 30 = .ok (.bipush 16, 2) := by decide +kernel
theorem d1_32 : decode prog_9_method_1_code 32 = .ok (.invokestatic 17, 3) := by decide +kernel
theorem d1_35 : decode prog_9_method_1_code 35 = .ok (.putfield 21, 3) := by decide +kernel
theorem d1_38 : decode prog_9_method_1_code 38 = .ok (.return_, 1) := by decide +kernel
theorem pd_1 : parseMethodDescriptor "()V" = some ⟨[], none⟩ := by decide +kernel
theorem pd_2 : parseMethodDescriptor "(I)[I" = some ⟨[.int], some (.array .int)⟩ := by decide +kernel
theorem d7_0 : decode prog_9_method_8_code 0 = .ok (.aload_n 0, 1) := by decide +kernel
theorem d7_1 : decode prog_9_method_8_code 1 = .ok (.getfield 25, 3) := by decide +kernel
theorem d7_4 : decode prog_9_method_8_code 4 = .ok (.ifCond .eq 7, 3) := by decide +kernel
theorem d7_7 : decode prog_9_method_8_code 7 = .ok (.iconst (-1), 1) := by decide +kernel
theorem d7_8 : decode prog_9_method_8_code 8 = .ok (.goto 7, 3) := by decide +kernel
theorem d7_11 : decode prog_9_method_8_code 11 = .ok (.aload_n 0, 1) := by decide +kernel
theorem d7_12 : decode prog_9_method_8_code 12 = .ok (.getfield 45, 3) := by decide +kernel
theorem d7_15 : decode prog_9_method_8_code 15 = .ok (.ireturn, 1) := by decide +kernel
theorem d17_0 : decode prog_9_method_10_code 0 = .ok (.aload_n 0, 1) := by decide +kernel
theorem d17_1 : decode prog_9_method_10_code 1 = .ok (.getfield 21, 3) := by decide +kernel
theorem d17_4 : decode prog_9_method_10_code 4 = .ok (.arraylength, 1) := by decide +kernel
theorem d17_5 : decode prog_9_method_10_code 5 = .ok (.iconst 1, 1) := by decide +kernel
theorem d17_6 : decode prog_9_method_10_code 6 = .ok (.isub, 1) := by decide +kernel
theorem d17_7 : decode prog_9_method_10_code 7 = .ok (.istore_n 2, 1) := by decide +kernel
theorem d17_8 : decode prog_9_method_10_code 8 = .ok (.iload_n 1, 1) := by decide +kernel
theorem d17_9 : decode prog_9_method_10_code 9 = .ok (.invokestatic 48, 3) := by decide +kernel
theorem d17_12 : decode prog_9_method_10_code 12 = .ok (.iload_n 2, 1) := by decide +kernel
theorem d17_13 : decode prog_9_method_10_code 13 = .ok (.iand, 1) := by decide +kernel
theorem d17_14 : decode prog_9_method_10_code 14 = .ok (.istore_n 3, 1) := by decide +kernel
theorem d17_15 : decode prog_9_method_10_code 15 = .ok (.aload_n 0, 1) := by decide +kernel
theorem d17_16 : decode prog_9_method_10_code 16 = .ok (.getfield 21, 3) := by decide +kernel
theorem d17_19 : decode prog_9_method_10_code 19 = .ok (.iload_n 3, 1) := by decide +kernel
theorem d17_20 : decode prog_9_method_10_code 20 = .ok (.iaload, 1) := by decide +kernel
theorem d17_21 : decode prog_9_method_10_code 21 = .ok (.iload_n 1, 1) := by decide +kernel
theorem d17_22 : decode prog_9_method_10_code 22 = .ok (.if_icmp .eq 22, 3) := by decide +kernel
theorem d17_25 : decode prog_9_method_10_code 25 = .ok (.aload_n 0, 1) := by decide +kernel
theorem d17_26 : decode prog_9_method_10_code 26 = .ok (.getfield 21, 3) := by decide +kernel
theorem d17_29 : decode prog_9_method_10_code 29 = .ok (.iload_n 3, 1) := by decide +kernel
theorem d17_30 : decode prog_9_method_10_code 30 = .ok (.iaload, 1) := by decide +kernel
theorem d17_31 : decode prog_9_method_10_code 31 = .ok (.iconst (-1), 1) := by decide +kernel
theorem d17_32 : decode prog_9_method_10_code 32 = .ok (.if_icmp .eq 12, 3) := by decide +kernel
theorem d17_35 : decode prog_9_method_10_code 35 = .ok (.iload_n 3, 1) := by decide +kernel
theorem d17_36 : decode prog_9_method_10_code 36 = .ok (.iconst 1, 1) := by decide +kernel
theorem d17_37 : decode prog_9_method_10_code 37 = .ok (.iadd, 1) := by decide +kernel
theorem d17_38 : decode prog_9_method_10_code 38 = .ok (.iload_n 2, 1) := by decide +kernel
theorem d17_39 : decode prog_9_method_10_code 39 = .ok (.iand, 1) := by decide +kernel
theorem d17_40 : decode prog_9_method_10_code 40 = .ok (.istore_n 3, 1) := by decide +kernel
theorem d17_41 : decode prog_9_method_10_code 41 = .ok (.goto (-26), 3) := by decide +kernel
theorem d17_44 : decode prog_9_method_10_code 44 = .ok (.iload_n 3, 1) := by decide +kernel
theorem d17_45 : decode prog_9_method_10_code 45 = .ok (.ireturn, 1) := by decide +kernel
theorem pd_3 : parseMethodDescriptor "(I)I" = some ⟨[.int], some .int⟩ := by decide +kernel
theorem d5_0 : decode prog_9_method_2_code 0 = .ok (.aload_n 0, 1) := by decide +kernel
theorem d5_1 : decode prog_9_method_2_code 1 = .ok (.getfield 25, 3) := by decide +kernel
theorem d5_4 : decode prog_9_method_2_code 4 = .ok (.ifCond .eq 8, 3) := by decide +kernel
theorem d5_7 : decode prog_9_method_2_code 7 = .ok (.iconst 1, 1) := by decide +kernel
theorem d5_8 : decode prog_9_method_2_code 8 = .ok (.istore_n 2, 1) := by decide +kernel
theorem d5_9 : decode prog_9_method_2_code 9 = .ok (.goto 57, 3) := by decide +kernel
theorem d5_12 : decode prog_9_method_2_code 12 = .ok (.aload_n 0, 1) := by decide +kernel
theorem d5_13 : decode prog_9_method_2_code 13 = .ok (.getfield 13, 3) := by decide +kernel
theorem d5_16 : decode prog_9_method_2_code 16 = .ok (.ifnull 30, 3) := by decide +kernel
theorem d5_19 : decode prog_9_method_2_code 19 = .ok (.aload_n 0, 1) := by decide +kernel
theorem d5_20 : decode prog_9_method_2_code 20 = .ok (.getfield 13, 3) := by decide +kernel
theorem d5_23 : decode prog_9_method_2_code 23 = .ok (.iload_n 1, 1) := by decide +kernel
theorem d5_24 : decode prog_9_method_2_code 24 = .ok (.bipush 64, 2) := by decide +kernel
theorem d5_26 : decode prog_9_method_2_code 26 = .ok (.idiv, 1) := by decide +kernel
theorem d5_27 : decode prog_9_method_2_code 27 = .ok (.laload, 1) := by decide +kernel
theorem d5_28 : decode prog_9_method_2_code 28 = .ok (.lconst 1, 1) := by decide +kernel
theorem d5_29 : decode prog_9_method_2_code 29 = .ok (.iload_n 1, 1) := by decide +kernel
theorem d5_30 : decode prog_9_method_2_code 30 = .ok (.lshl, 1) := by decide +kernel
theorem d5_31 : decode prog_9_method_2_code 31 = .ok (.land, 1) := by decide +kernel
theorem d5_32 : decode prog_9_method_2_code 32 = .ok (.lconst 0, 1) := by decide +kernel
theorem d5_33 : decode prog_9_method_2_code 33 = .ok (.lcmp, 1) := by decide +kernel
theorem d5_34 : decode prog_9_method_2_code 34 = .ok (.ifCond .eq 7, 3) := by decide +kernel
theorem d5_37 : decode prog_9_method_2_code 37 = .ok (.iconst 1, 1) := by decide +kernel
theorem d5_38 : decode prog_9_method_2_code 38 = .ok (.goto 4, 3) := by decide +kernel
theorem d5_41 : decode prog_9_method_2_code 41 = .ok (.iconst 0, 1) := by decide +kernel
theorem d5_42 : decode prog_9_method_2_code 42 = .ok (.istore_n 2, 1) := by decide +kernel
theorem d5_43 : decode prog_9_method_2_code 43 = .ok (.goto 23, 3) := by decide +kernel
theorem d5_46 : decode prog_9_method_2_code 46 = .ok (.aload_n 0, 1) := by decide +kernel
theorem d5_47 : decode prog_9_method_2_code 47 = .ok (.getfield 21, 3) := by decide +kernel
theorem d5_50 : decode prog_9_method_2_code 50 = .ok (.aload_n 0, 1) := by decide +kernel
theorem d5_51 : decode prog_9_method_2_code 51 = .ok (.iload_n 1, 1) := by decide +kernel
theorem d5_52 : decode prog_9_method_2_code 52 = .ok (.invokevirtual 29, 3) := by decide +kernel
theorem d5_55 : decode prog_9_method_2_code 55 = .ok (.iaload, 1) := by decide +kernel
theorem d5_56 : decode prog_9_method_2_code 56 = .ok (.iload_n 1, 1) := by decide +kernel
theorem d5_57 : decode prog_9_method_2_code 57 = .ok (.if_icmp .ne 7, 3) := by decide +kernel
theorem d5_60 : decode prog_9_method_2_code 60 = .ok (.iconst 1, 1) := by decide +kernel
theorem d5_61 : decode prog_9_method_2_code 61 = .ok (.goto 4, 3) := by decide +kernel
theorem d5_64 : decode prog_9_method_2_code 64 = .ok (.iconst 0, 1) := by decide +kernel
theorem d5_65 : decode prog_9_method_2_code 65 = .ok (.istore_n 2, 1) := by decide +kernel
theorem d5_66 : decode prog_9_method_2_code 66 = .ok (.iload_n 2, 1) := by decide +kernel
theorem d5_67 : decode prog_9_method_2_code 67 = .ok (.ireturn, 1) := by decide +kernel
theorem d6_0 : decode prog_9_method_3_code 0 = .ok (.aload_n 0, 1) := by decide +kernel
theorem d6_1 : decode prog_9_method_3_code 1 = .ok (.iload_n 1, 1) := by decide +kernel
theorem d6_2 : decode prog_9_method_3_code 2 = .ok (.invokevirtual 33, 3) := by decide +kernel
theorem d6_5 : decode prog_9_method_3_code 5 = .ok (.ifCond .eq 5, 3) := by decide +kernel
theorem d6_8 : decode prog_9_method_3_code 8 = .ok (.iconst 0, 1) := by decide +kernel
theorem d6_9 : decode prog_9_method_3_code 9 = .ok (.ireturn, 1) := by decide +kernel
theorem d6_10 : decode prog_9_method_3_code 10 = .ok (.aload_n 0, 1) := by decide +kernel
theorem d6_11 : decode prog_9_method_3_code 11 = .ok (.getfield 13, 3) := by decide +kernel
theorem d6_14 : decode prog_9_method_3_code 14 = .ok (.ifnull 21, 3) := by decide +kernel
theorem d6_17 : decode prog_9_method_3_code 17 = .ok (.aload_n 0, 1) := by decide +kernel
theorem d6_18 : decode prog_9_method_3_code 18 = .ok (.getfield 13, 3) := by decide +kernel
theorem d6_21 : decode prog_9_method_3_code 21 = .ok (.iload_n 1, 1) := by decide +kernel
theorem d6_22 : decode prog_9_method_3_code 22 = .ok (.bipush 64, 2) := by decide +kernel
theorem d6_24 : decode prog_9_method_3_code 24 = .ok (.idiv, 1) := by decide +kernel
theorem d6_25 : decode prog_9_method_3_code 25 = .ok (.dup2, 1) := by decide +kernel
theorem d6_26 : decode prog_9_method_3_code 26 = .ok (.laload, 1) := by decide +kernel
theorem d6_27 : decode prog_9_method_3_code 27 = .ok (.lconst 1, 1) := by decide +kernel
theorem d6_28 : decode prog_9_method_3_code 28 = .ok (.iload_n 1, 1) := by decide +kernel
theorem d6_29 : decode prog_9_method_3_code 29 = .ok (.lshl, 1) := by decide +kernel
theorem d6_30 : decode prog_9_method_3_code 30 = .ok (.lor, 1) := by decide +kernel
theorem d6_31 : decode prog_9_method_3_code 31 = .ok (.lastore, 1) := by decide +kernel
theorem d6_32 : decode prog_9_method_3_code 32 = .ok (.goto 90, 3) := by decide +kernel
theorem d6_35 : decode prog_9_method_3_code 35 = .ok (.iconst 2, 1) := by decide +kernel
theorem d6_36 : decode prog_9_method_3_code 36 = .ok (.aload_n 0, 1) := by decide +kernel
theorem d6_37 : decode prog_9_method_3_code 37 = .ok (.getfield 37, 3) := by decide +kernel
theorem d6_40 : decode prog_9_method_3_code 40 = .ok (.iconst 1, 1) := by decide +kernel
theorem d6_41 : decode prog_9_method_3_code 41 = .ok (.iadd, 1) := by decide +kernel
theorem d6_42 : decode prog_9_method_3_code 42 = .ok (.imul, 1) := by decide +kernel
theorem d6_43 : decode prog_9_method_3_code 43 = .ok (.aload_n 0, 1) := by decide +kernel
theorem d6_44 : decode prog_9_method_3_code 44 = .ok (.getfield 21, 3) := by decide +kernel
theorem d6_47 : decode prog_9_method_3_code 47 = .ok (.arraylength, 1) := by decide +kernel
theorem d6_48 : decode prog_9_method_3_code 48 = .ok (.if_icmp .le 63, 3) := by decide +kernel
theorem d6_51 : decode prog_9_method_3_code 51 = .ok (.aload_n 0, 1) := by decide +kernel
theorem d6_52 : decode prog_9_method_3_code 52 = .ok (.invokevirtual 41, 3) := by decide +kernel
theorem d6_55 : decode prog_9_method_3_code 55 = .ok (.astore_n 2, 1) := by decide +kernel
theorem d6_56 : decode prog_9_method_3_code 56 = .ok (.aload_n 0, 1) := by decide +kernel
theorem d6_57 : decode prog_9_method_3_code 57 = .ok (.iconst 2, 1) := by decide +kernel
theorem d6_58 : decode prog_9_method_3_code 58 = .ok (.aload_n 0, 1) := by decide +kernel
theorem d6_59 : decode prog_9_method_3_code 59 = .ok (.getfield 21, 3) := by decide +kernel
theorem d6_62 : decode prog_9_method_3_code 62 = .ok (.arraylength, 1) := by decide +kernel
theorem d6_63 : decode prog_9_method_3_code 63 = .ok (.imul, 1) := by decide +kernel
theorem d6_64 : decode prog_9_method_3_code 64 = .ok (.invokestatic 17, 3) := by decide +kernel
theorem d6_67 : decode prog_9_method_3_code 67 = .ok (.putfield 21, 3) := by decide +kernel
theorem d6_70 : decode prog_9_method_3_code 70 = .ok (.aload_n 2, 1) := by decide +kernel
theorem d6_71 : decode prog_9_method_3_code 71 = .ok (.astore_n 3, 1) := by decide +kernel
theorem d6_72 : decode prog_9_method_3_code 72 = .ok (.aload_n 3, 1) := by decide +kernel
theorem d6_73 : decode prog_9_method_3_code 73 = .ok (.arraylength, 1) := by decide +kernel
theorem d6_74 : decode prog_9_method_3_code 74 = .ok (.istore 4, 2) := by decide +kernel
theorem d6_76 : decode prog_9_method_3_code 76 = .ok (.iconst 0, 1) := by decide +kernel
theorem d6_77 : decode prog_9_method_3_code 77 = .ok (.istore 5, 2) := by decide +kernel
theorem d6_79 : decode prog_9_method_3_code 79 = .ok (.iload 5, 2) := by decide +kernel
theorem d6_81 : decode prog_9_method_3_code 81 = .ok (.iload 4, 2) := by decide +kernel
theorem d6_83 : decode prog_9_method_3_code 83 = .ok (.if_icmp .ge 28, 3) := by decide +kernel
theorem d6_86 : decode prog_9_method_3_code 86 = .ok (.aload_n 3, 1) := by decide +kernel
theorem d6_87 : decode prog_9_method_3_code 87 = .ok (.iload 5, 2) := by decide +kernel
theorem d6_89 : decode prog_9_method_3_code 89 = .ok (.iaload, 1) := by decide +kernel
theorem d6_90 : decode prog_9_method_3_code 90 = .ok (.istore 6, 2) := by decide +kernel
theorem d6_92 : decode prog_9_method_3_code 92 = .ok (.aload_n 0, 1) := by decide +kernel
theorem d6_93 : decode prog_9_method_3_code 93 = .ok (.getfield 21, 3) := by decide +kernel
theorem d6_96 : decode prog_9_method_3_code 96 = .ok (.aload_n 0, 1) := by decide +kernel
theorem d6_97 : decode prog_9_method_3_code 97 = .ok (.iload 6, 2) := by decide +kernel
theorem d6_99 : decode prog_9_method_3_code 99 = .ok (.invokevirtual 29, 3) := by decide +kernel
theorem d6_102 : decode prog_9_method_3_code 102 = .ok (.iload 6, 2) := by decide +kernel
theorem d6_104 : decode prog_9_method_3_code 104 = .ok (.iastore, 1) := by decide +kernel
theorem d6_105 : decode prog_9_method_3_code 105 = .ok (.iinc 5 1, 3) := by decide +kernel
theorem d6_108 : decode prog_9_method_3_code 108 = .ok (.goto (-29), 3) := by decide +kernel
theorem d6_111 : decode prog_9_method_3_code 111 = .ok (.aload_n 0, 1) := by decide +kernel
theorem d6_112 : decode prog_9_method_3_code 112 = .ok (.getfield 21, 3) := by decide +kernel
theorem d6_115 : decode prog_9_method_3_code 115 = .ok (.aload_n 0, 1) := by decide +kernel
theorem d6_116 : decode prog_9_method_3_code 116 = .ok (.iload_n 1, 1) := by decide +kernel
theorem d6_117 : decode prog_9_method_3_code 117 = .ok (.invokevirtual 29, 3) := by decide +kernel
theorem d6_120 : decode prog_9_method_3_code 120 = .ok (.iload_n 1, 1) := by decide +kernel
theorem d6_121 : decode prog_9_method_3_code 121 = .ok (.iastore, 1) := by decide +kernel
theorem d6_122 : decode prog_9_method_3_code 122 = .ok (.aload_n 0, 1) := by decide +kernel
theorem d6_123 : decode prog_9_method_3_code 123 = .ok (.dup, 1) := by decide +kernel
theorem d6_124 : decode prog_9_method_3_code 124 = .ok (.getfield 37, 3) := by decide +kernel
theorem d6_127 : decode prog_9_method_3_code 127 = .ok (.iconst 1, 1) := by decide +kernel
theorem d6_128 : decode prog_9_method_3_code 128 = .ok (.iadd, 1) := by decide +kernel
theorem d6_129 : decode prog_9_method_3_code 129 = .ok (.putfield 37, 3) := by decide +kernel
theorem d6_132 : decode prog_9_method_3_code 132 = .ok (.aload_n 0, 1) := by decide +kernel
theorem d6_133 : decode prog_9_method_3_code 133 = .ok (.dup, 1) := by decide +kernel
theorem d6_134 : decode prog_9_method_3_code 134 = .ok (.getfield 45, 3) := by decide +kernel
theorem d6_137 : decode prog_9_method_3_code 137 = .ok (.iload_n 1, 1) := by decide +kernel
theorem d6_138 : decode prog_9_method_3_code 138 = .ok (.invokestatic 48, 3) := by decide +kernel
theorem d6_141 : decode prog_9_method_3_code 141 = .ok (.iadd, 1) := by decide +kernel
theorem d6_142 : decode prog_9_method_3_code 142 = .ok (.putfield 45, 3) := by decide +kernel
theorem d6_145 : decode prog_9_method_3_code 145 = .ok (.iconst 1, 1) := by decide +kernel
theorem d6_146 : decode prog_9_method_3_code 146 = .ok (.ireturn, 1) := by decide +kernel
theorem pd_4 : parseMethodDescriptor "(I)Z" = some ⟨[.int], some .boolean⟩ := by decide +kernel
theorem d3_0 : decode prog_9_method_4_code 0 = .ok (.aload_n 0, 1) := by decide +kernel
theorem d3_1 : decode prog_9_method_4_code 1 = .ok (.iconst 1, 1) := by decide +kernel
theorem d3_2 : decode prog_9_method_4_code 2 = .ok (.putfield 25, 3) := by decide +kernel
theorem d3_5 : decode prog_9_method_4_code 5 = .ok (.aload_n 0, 1) := by decide +kernel
theorem d3_6 : decode prog_9_method_4_code 6 = .ok (.aconst_null, 1) := by decide +kernel
theorem d3_7 : decode prog_9_method_4_code 7 = .ok (.putfield 13, 3) := by decide +kernel
theorem d3_10 : decode prog_9_method_4_code 10 = .ok (.aload_n 0, 1) := by decide +kernel
theorem d3_11 : decode prog_9_method_4_code 11 = .ok (.aconst_null, 1) := by decide +kernel
theorem d3_12 : decode prog_9_method_4_code 12 = .ok (.putfield 21, 3) := by decide +kernel
theorem d3_15 : decode prog_9_method_4_code 15 = .ok (.aload_n 0, 1) := by decide +kernel
theorem d3_16 : decode prog_9_method_4_code 16 = .ok (.iconst 0, 1) := by decide +kernel
theorem d3_17 : decode prog_9_method_4_code 17 = .ok (.putfield 37, 3) := by decide +kernel
theorem d3_20 : decode prog_9_method_4_code 20 = .ok (.aload_n 0, 1) := by decide +kernel
theorem d3_21 : decode prog_9_method_4_code 21 = .ok (.iconst 0, 1) := by decide +kernel
theorem d3_22 : decode prog_9_method_4_code 22 = .ok (.putfield 45, 3) := by decide +kernel
theorem d3_25 : decode prog_9_method_4_code 25 = .ok (.return_, 1) := by decide +kernel
theorem ef_rm13 (m : MethodId) (p1 : Int32) : entryFrame m #[(.int p1)] 2 = mkF m 0 #[.val (.int p1), .unset] [] := by first | (simp [entryFrame, mkF, argsToLocals, Value.category]; done) | rfl
def Q13 (Z : State) (p1 : Int32)  (h0 : Heap) (n0 : Nat) (v : Option Value) (h : Heap) (L : List Loc) : Prop := v = some (.int (own_sp p1)) ∧ Fr n0 L ∧ h = h0
set_option maxRecDepth 65536 in
set_option maxHeartbeats 40000000 in
theorem rm13 (l : Launch) (Z : State) (a0 : Array Value) (hw : ∀ d ∈ tables_1, d.before a0 Z = true) (ws : List Jvm.Cond) (p1 : Int32)  (h0 : Heap) (n0 : Nat) (Z0 : n0 ≤ h0.size)  :
    MetFree l (⟨"com/example/kinds_by_value/kindsbyvalue/Hashes", "spread", "(I)I"⟩ : MethodName) (head1 (Jvm.Cond.code (⟨"com/example/kinds_by_value/kindsbyvalue/Hashes", "spread", "(I)I"⟩ : MethodName) prog_6_method_2_code 2 (some .int) :: ws) ({ frames := 0, cells := 0, slots := 0, locals := 0 } : Room)) (fun a U => a = #[(.int p1)] ∧ Z.Warmed39 U.vm ∧ U.heap = h0) (fun _ _ _ _ _ => True) (fun _ U o U' => ∃ v L, o = .returned v ∧ Q13 Z p1  h0 n0 v U'.heap L ∧ FrameEnd U o U' L ({ frames := 0, cells := 0, slots := 0, locals := 0 } : Room).cells ({ frames := 0, cells := 0, slots := 0, locals := 0 } : Room).slots) := by
  refine MetFree.of_bodySF (plainFor_of_name pn_0) hisR ?_
  intro p e s m args below meth c s₁ Bd hml0 hP hK
  obtain ⟨rfl, hZ, hh⟩ := hP
  have hx := Bd.exec
  have hby := Bd.bytes
  have hlk : meth.locks = false := BodyLoose.notSynchronized Bd
  have hret := Bd.returns
  have hml : c.maxLocals = 2 := hml0
  have hown : s.vm.findClass "com/example/kinds_by_value/kindsbyvalue/Hashes" = some m.cls := findClass_of_methodNamed Bd.named
  have hnm := (name_of_methodNamed Bd.named Bd.method).1
  have X0 : Stand p l e ({ frames := 0, cells := 0, slots := 0, locals := 0 } : Room) s m #[(.int p1)] below meth c s₁ [] 0 0 := Stand.of_body Bd
  have e0 : s₁.heap = h0 := by rw [← hh, Bd.state]; rfl
  have N0 := Fr.nil n0
  show own_Ends p e below s 0 0 (Q13 Z p1  h0 n0) (s₁.setTop (entryFrame m #[(.int p1)] 2))
  refine own_step (fun t k => castTop (ef_rm13 m p1) k) ?_
  show own_Ends p e below s _ _ _ (s₁.setTop (mkF m 0 #[.val (.int p1), .unset] []))
  refine own_step (fun _ kc_ => XS.iloadN X0.here hx rfl (hb hby d13_0) rfl (X0.ldcI hx hown (mvT hZ (hw _ (List.mem_of_getElem? (i := 78) rfl))) rfl (hb hby d13_1) (XS.imul X0.here hx rfl (hb hby d13_3) rfl (XS.istoreN X0.here hx rfl (hb hby d13_4) rfl (l' := #[.val (.int p1), .val (.int (p1 * (-1640531527 : Int32)))]) rfl (XS.iloadN X0.here hx rfl (hb hby d13_5) rfl (XS.iloadN X0.here hx rfl (hb hby d13_6) rfl (XS.bipush X0.here hx rfl (hb hby d13_7) (XS.iushr X0.here hx rfl (hb hby d13_9) rfl kc_)))))))) ?_
  show own_Ends p e below s _ _ _ (s₁.setTop (mkF m 10 #[.val (.int p1), .val (.int (p1 * (-1640531527 : Int32)))] [(.int (((p1 * (-1640531527 : Int32)).toUInt32 >>> ((16 : Int32) &&& 31).toUInt32).toInt32)), (.int (p1 * (-1640531527 : Int32)))]))
  refine own_step (fun _ kc_ => XS.ixor X0.here hx rfl (hb hby d13_10) rfl kc_) ?_
  show own_Ends p e below s _ _ _ (s₁.setTop (mkF m 11 #[.val (.int p1), .val (.int (p1 * (-1640531527 : Int32)))] [(.int ((p1 * (-1640531527 : Int32)) ^^^ (((p1 * (-1640531527 : Int32)).toUInt32 >>> ((16 : Int32) &&& 31).toUInt32).toInt32)))]))
  exact own_retI X0 hx hret hlk (hb hby d13_11) (by decide) (by decide) ⟨rfl, N0, e0⟩
theorem ef_rm16 (m : MethodId) (ta : Addr) : entryFrame m #[(.ref ta), (.int (-1 : Int32))] 4 = mkF m 0 #[.val (.ref ta), .val (.int (-1 : Int32)), .unset, .unset] [] := by first | (simp [entryFrame, mkF, argsToLocals, Value.category]; done) | rfl
def Q16 (Z : State) (ta : Addr)  (h0 : Heap) (n0 : Nat) (v : Option Value) (h : Heap) (L : List Loc) : Prop := v = none ∧ Fr n0 L ∧ Keep h0 h [ta] ∧ own_Ar Z h ta .int [(.int (-1 : Int32)), (.int (-1 : Int32)), (.int (-1 : Int32)), (.int (-1 : Int32)), (.int (-1 : Int32)), (.int (-1 : Int32)), (.int (-1 : Int32)), (.int (-1 : Int32)), (.int (-1 : Int32)), (.int (-1 : Int32)), (.int (-1 : Int32)), (.int (-1 : Int32)), (.int (-1 : Int32)), (.int (-1 : Int32)), (.int (-1 : Int32)), (.int (-1 : Int32))]
set_option maxRecDepth 65536 in
set_option maxHeartbeats 40000000 in
theorem rm16 (l : Launch) (Z : State) (a0 : Array Value) (hw : ∀ d ∈ tables_1, d.before a0 Z = true) (ws : List Jvm.Cond) (ta : Addr)  (h0 : Heap) (n0 : Nat) (Z0 : n0 ≤ h0.size) (A0 : own_Ar Z h0 ta .int [(.int (0 : Int32)), (.int (0 : Int32)), (.int (0 : Int32)), (.int (0 : Int32)), (.int (0 : Int32)), (.int (0 : Int32)), (.int (0 : Int32)), (.int (0 : Int32)), (.int (0 : Int32)), (.int (0 : Int32)), (.int (0 : Int32)), (.int (0 : Int32)), (.int (0 : Int32)), (.int (0 : Int32)), (.int (0 : Int32)), (.int (0 : Int32))]) (g0 : n0 ≤ ta) :
    MetFree l (⟨"java/util/Arrays", "fill", "([II)V"⟩ : MethodName) (head1 (Jvm.Cond.code (⟨"java/util/Arrays", "fill", "([II)V"⟩ : MethodName) jdk_65_method_103_code 4 none :: ws) ({ frames := 0, cells := 0, slots := 0, locals := 0 } : Room)) (fun a U => a = #[(.ref ta), (.int (-1 : Int32))] ∧ Z.Warmed39 U.vm ∧ U.heap = h0) (fun _ _ _ _ _ => True) (fun _ U o U' => ∃ v L, o = .returned v ∧ Q16 Z ta  h0 n0 v U'.heap L ∧ FrameEnd U o U' L ({ frames := 0, cells := 0, slots := 0, locals := 0 } : Room).cells ({ frames := 0, cells := 0, slots := 0, locals := 0 } : Room).slots) := by
  refine MetFree.of_bodySF (plainFor_of_name pn_1) hisR ?_
  intro p e s m args below meth c s₁ Bd hml0 hP hK
  obtain ⟨rfl, hZ, hh⟩ := hP
  have hx := Bd.exec
  have hby := Bd.bytes
  have hlk : meth.locks = false := BodyLoose.notSynchronized Bd
  have hret := Bd.returns
  have hml : c.maxLocals = 4 := hml0
  have hown : s.vm.findClass "java/util/Arrays" = some m.cls := findClass_of_methodNamed Bd.named
  have hnm := (name_of_methodNamed Bd.named Bd.method).1
  have X0 : Stand p l e ({ frames := 0, cells := 0, slots := 0, locals := 0 } : Room) s m #[(.ref ta), (.int (-1 : Int32))] below meth c s₁ [] 0 0 := Stand.of_body Bd
  have e0 : s₁.heap = h0 := by rw [← hh, Bd.state]; rfl
  have N0 := Fr.nil n0
  show own_Ends p e below s 0 0 (Q16 Z ta  h0 n0) (s₁.setTop (entryFrame m #[(.ref ta), (.int (-1 : Int32))] 4))
  refine own_step (fun t k => castTop (ef_rm16 m ta) k) ?_
  show own_Ends p e below s _ _ _ (s₁.setTop (mkF m 0 #[.val (.ref ta), .val (.int (-1 : Int32)), .unset, .unset] []))
  refine own_step (fun _ kc_ => XS.iconst X0.here hx rfl (hb hby d16_0) (XS.istoreN X0.here hx rfl (hb hby d16_1) rfl (l' := #[.val (.ref ta), .val (.int (-1 : Int32)), .val (.int (0 : Int32)), .unset]) rfl (XS.aloadN X0.here hx rfl (hb hby d16_2) rfl rfl (own_alen X0 hx hZ e0 A0 (n := 16) (z := (16 : Int32)) rfl rfl (hb hby d16_3) _ (XS.istoreN X0.here hx rfl (hb hby d16_4) rfl (l' := #[.val (.ref ta), .val (.int (-1 : Int32)), .val (.int (0 : Int32)), .val (.int (16 : Int32))]) rfl (XS.iloadN X0.here hx rfl (hb hby d16_5) rfl (XS.iloadN X0.here hx rfl (hb hby d16_6) rfl (XS.icmpNo X0.here hx rfl (hb hby d16_7) rfl (XT.ii_ge_f (by decide : (0 : Int32) < (16 : Int32))) kc_)))))))) ?_
  show own_Ends p e below s _ _ _ (s₁.setTop (mkF m 10 #[.val (.ref ta), .val (.int (-1 : Int32)), .val (.int (0 : Int32)), .val (.int (16 : Int32))] []))
  refine own_step (fun _ kc_ => XS.aloadN X0.here hx rfl (hb hby d16_10) rfl rfl (XS.iloadN X0.here hx rfl (hb hby d16_11) rfl (XS.iloadN X0.here hx rfl (hb hby d16_12) rfl kc_))) ?_
  show own_Ends p e below s _ _ _ (s₁.setTop (mkF m 13 #[.val (.ref ta), .val (.int (-1 : Int32)), .val (.int (0 : Int32)), .val (.int (16 : Int32))] [(.int (-1 : Int32)), (.int (0 : Int32)), (.ref ta)]))
  obtain ⟨T1, h1, X1, e1, W1, A1, st1⟩ := own_iastore X0 hx hZ e0 A0 (j := (0 : Int32)) (x := (-1 : Int32)) (by decide) (i := 0) rfl (Nat.le_of_ble_eq_true rfl) (Ls := #[.val (.ref ta), .val (.int (-1 : Int32)), .val (.int (0 : Int32)), .val (.int (16 : Int32))]) (st := []) (hb hby d16_13)
  have A_ta_1 : own_Ar Z h1 ta .int [(.int (-1 : Int32)), (.int (0 : Int32)), (.int (0 : Int32)), (.int (0 : Int32)), (.int (0 : Int32)), (.int (0 : Int32)), (.int (0 : Int32)), (.int (0 : Int32)), (.int (0 : Int32)), (.int (0 : Int32)), (.int (0 : Int32)), (.int (0 : Int32)), (.int (0 : Int32)), (.int (0 : Int32)), (.int (0 : Int32)), (.int (0 : Int32))] := A1
  have K1 := ((Keep.refl h0 [ta])).wr W1 (Or.inl (List.mem_of_getElem? (i := 0) rfl))
  have Zs1 := Nat.le_trans Z0 (Nat.le_of_eq W1.size.symm)
  have N1 := Fr.snoc X1 N0 g0
  refine own_step (fun _ kc_ => st1 _ kc_) ?_
  show own_Ends p e below s _ _ _ (T1.setTop (mkF m 14 #[.val (.ref ta), .val (.int (-1 : Int32)), .val (.int (0 : Int32)), .val (.int (16 : Int32))] []))
  refine own_step (fun _ kc_ => XS.iinc X1.here hx rfl (hb hby d16_14) rfl (l' := #[.val (.ref ta), .val (.int (-1 : Int32)), .val (.int ((0 : Int32) + (1 : Int32))), .val (.int (16 : Int32))]) rfl kc_) ?_
  show own_Ends p e below s _ _ _ (T1.setTop (mkF m 17 #[.val (.ref ta), .val (.int (-1 : Int32)), .val (.int ((0 : Int32) + (1 : Int32))), .val (.int (16 : Int32))] []))
  rw [show ((0 : Int32) + (1 : Int32)) = (1 : Int32) from by decide]
  show own_Ends p e below s _ _ _ (T1.setTop (mkF m 17 #[.val (.ref ta), .val (.int (-1 : Int32)), .val (.int (1 : Int32)), .val (.int (16 : Int32))] []))
  refine own_step (fun _ kc_ => XS.goto X1.here hx rfl (pc0 := 17) (pc' := 5) rfl (hb hby d16_17) (by decide) (by decide) (XS.iloadN X1.here hx rfl (hb hby d16_5) rfl (XS.iloadN X1.here hx rfl (hb hby d16_6) rfl (XS.icmpNo X1.here hx rfl (hb hby d16_7) rfl (XT.ii_ge_f (by decide : (1 : Int32) < (16 : Int32))) (XS.aloadN X1.here hx rfl (hb hby d16_10) rfl rfl (XS.iloadN X1.here hx rfl (hb hby d16_11) rfl (XS.iloadN X1.here hx rfl (hb hby d16_12) rfl kc_))))))) ?_
  show own_Ends p e below s _ _ _ (T1.setTop (mkF m 13 #[.val (.ref ta), .val (.int (-1 : Int32)), .val (.int (1 : Int32)), .val (.int (16 : Int32))] [(.int (-1 : Int32)), (.int (1 : Int32)), (.ref ta)]))
  obtain ⟨T2, h2, X2, e2, W2, A2, st2⟩ := own_iastore X1 hx hZ e1 A_ta_1 (j := (1 : Int32)) (x := (-1 : Int32)) (by decide) (i := 1) rfl (Nat.le_of_ble_eq_true rfl) (Ls := #[.val (.ref ta), .val (.int (-1 : Int32)), .val (.int (1 : Int32)), .val (.int (16 : Int32))]) (st := []) (hb hby d16_13)
  have A_ta_2 : own_Ar Z h2 ta .int [(.int (-1 : Int32)), (.int (-1 : Int32)), (.int (0 : Int32)), (.int (0 : Int32)), (.int (0 : Int32)), (.int (0 : Int32)), (.int (0 : Int32)), (.int (0 : Int32)), (.int (0 : Int32)), (.int (0 : Int32)), (.int (0 : Int32)), (.int (0 : Int32)), (.int (0 : Int32)), (.int (0 : Int32)), (.int (0 : Int32)), (.int (0 : Int32))] := A2
  have K2 := (K1).wr W2 (Or.inl (List.mem_of_getElem? (i := 0) rfl))
  have Zs2 := Nat.le_trans Zs1 (Nat.le_of_eq W2.size.symm)
  have N2 := Fr.snoc X2 N1 g0
  refine own_step (fun _ kc_ => st2 _ kc_) ?_
  show own_Ends p e below s _ _ _ (T2.setTop (mkF m 14 #[.val (.ref ta), .val (.int (-1 : Int32)), .val (.int (1 : Int32)), .val (.int (16 : Int32))] []))
  refine own_step (fun _ kc_ => XS.iinc X2.here hx rfl (hb hby d16_14) rfl (l' := #[.val (.ref ta), .val (.int (-1 : Int32)), .val (.int ((1 : Int32) + (1 : Int32))), .val (.int (16 : Int32))]) rfl kc_) ?_
  show own_Ends p e below s _ _ _ (T2.setTop (mkF m 17 #[.val (.ref ta), .val (.int (-1 : Int32)), .val (.int ((1 : Int32) + (1 : Int32))), .val (.int (16 : Int32))] []))
  rw [show ((1 : Int32) + (1 : Int32)) = (2 : Int32) from by decide]
  show own_Ends p e below s _ _ _ (T2.setTop (mkF m 17 #[.val (.ref ta), .val (.int (-1 : Int32)), .val (.int (2 : Int32)), .val (.int (16 : Int32))] []))
  refine own_step (fun _ kc_ => XS.goto X2.here hx rfl (pc0 := 17) (pc' := 5) rfl (hb hby d16_17) (by decide) (by decide) (XS.iloadN X2.here hx rfl (hb hby d16_5) rfl (XS.iloadN X2.here hx rfl (hb hby d16_6) rfl (XS.icmpNo X2.here hx rfl (hb hby d16_7) rfl (XT.ii_ge_f (by decide : (2 : Int32) < (16 : Int32))) (XS.aloadN X2.here hx rfl (hb hby d16_10) rfl rfl (XS.iloadN X2.here hx rfl (hb hby d16_11) rfl (XS.iloadN X2.here hx rfl (hb hby d16_12) rfl kc_))))))) ?_
  show own_Ends p e below s _ _ _ (T2.setTop (mkF m 13 #[.val (.ref ta), .val (.int (-1 : Int32)), .val (.int (2 : Int32)), .val (.int (16 : Int32))] [(.int (-1 : Int32)), (.int (2 : Int32)), (.ref ta)]))
  obtain ⟨T3, h3, X3, e3, W3, A3, st3⟩ := own_iastore X2 hx hZ e2 A_ta_2 (j := (2 : Int32)) (x := (-1 : Int32)) (by decide) (i := 2) rfl (Nat.le_of_ble_eq_true rfl) (Ls := #[.val (.ref ta), .val (.int (-1 : Int32)), .val (.int (2 : Int32)), .val (.int (16 : Int32))]) (st := []) (hb hby d16_13)
  have A_ta_3 : own_Ar Z h3 ta .int [(.int (-1 : Int32)), (.int (-1 : Int32)), (.int (-1 : Int32)), (.int (0 : Int32)), (.int (0 : Int32)), (.int (0 : Int32)), (.int (0 : Int32)), (.int (0 : Int32)), (.int (0 : Int32)), (.int (0 : Int32)), (.int (0 : Int32)), (.int (0 : Int32)), (.int (0 : Int32)), (.int (0 : Int32)), (.int (0 : Int32)), (.int (0 : Int32))] := A3
  have K3 := (K2).wr W3 (Or.inl (List.mem_of_getElem? (i := 0) rfl))
  have Zs3 := Nat.le_trans Zs2 (Nat.le_of_eq W3.size.symm)
  have N3 := Fr.snoc X3 N2 g0
  refine own_step (fun _ kc_ => st3 _ kc_) ?_
  show own_Ends p e below s _ _ _ (T3.setTop (mkF m 14 #[.val (.ref ta), .val (.int (-1 : Int32)), .val (.int (2 : Int32)), .val (.int (16 : Int32))] []))
  refine own_step (fun _ kc_ => XS.iinc X3.here hx rfl (hb hby d16_14) rfl (l' := #[.val (.ref ta), .val (.int (-1 : Int32)), .val (.int ((2 : Int32) + (1 : Int32))), .val (.int (16 : Int32))]) rfl kc_) ?_
  show own_Ends p e below s _ _ _ (T3.setTop (mkF m 17 #[.val (.ref ta), .val (.int (-1 : Int32)), .val (.int ((2 : Int32) + (1 : Int32))), .val (.int (16 : Int32))] []))
  rw [show ((2 : Int32) + (1 : Int32)) = (3 : Int32) from by decide]
  show own_Ends p e below s _ _ _ (T3.setTop (mkF m 17 #[.val (.ref ta), .val (.int (-1 : Int32)), .val (.int (3 : Int32)), .val (.int (16 : Int32))] []))
  refine own_step (fun _ kc_ => XS.goto X3.here hx rfl (pc0 := 17) (pc' := 5) rfl (hb hby d16_17) (by decide) (by decide) (XS.iloadN X3.here hx rfl (hb hby d16_5) rfl (XS.iloadN X3.here hx rfl (hb hby d16_6) rfl (XS.icmpNo X3.here hx rfl (hb hby d16_7) rfl (XT.ii_ge_f (by decide : (3 : Int32) < (16 : Int32))) (XS.aloadN X3.here hx rfl (hb hby d16_10) rfl rfl (XS.iloadN X3.here hx rfl (hb hby d16_11) rfl (XS.iloadN X3.here hx rfl (hb hby d16_12) rfl kc_))))))) ?_
  show own_Ends p e below s _ _ _ (T3.setTop (mkF m 13 #[.val (.ref ta), .val (.int (-1 : Int32)), .val (.int (3 : Int32)), .val (.int (16 : Int32))] [(.int (-1 : Int32)), (.int (3 : Int32)), (.ref ta)]))
  obtain ⟨T4, h4, X4, e4, W4, A4, st4⟩ := own_iastore X3 hx hZ e3 A_ta_3 (j := (3 : Int32)) (x := (-1 : Int32)) (by decide) (i := 3) rfl (Nat.le_of_ble_eq_true rfl) (Ls := #[.val (.ref ta), .val (.int (-1 : Int32)), .val (.int (3 : Int32)), .val (.int (16 : Int32))]) (st := []) (hb hby d16_13)
  have A_ta_4 : own_Ar Z h4 ta .int [(.int (-1 : Int32)), (.int (-1 : Int32)), (.int (-1 : Int32)), (.int (-1 : Int32)), (.int (0 : Int32)), (.int (0 : Int32)), (.int (0 : Int32)), (.int (0 : Int32)), (.int (0 : Int32)), (.int (0 : Int32)), (.int (0 : Int32)), (.int (0 : Int32)), (.int (0 : Int32)), (.int (0 : Int32)), (.int (0 : Int32)), (.int (0 : Int32))] := A4
  have K4 := (K3).wr W4 (Or.inl (List.mem_of_getElem? (i := 0) rfl))
  have Zs4 := Nat.le_trans Zs3 (Nat.le_of_eq W4.size.symm)
  have N4 := Fr.snoc X4 N3 g0
  refine own_step (fun _ kc_ => st4 _ kc_) ?_
  show own_Ends p e below s _ _ _ (T4.setTop (mkF m 14 #[.val (.ref ta), .val (.int (-1 : Int32)), .val (.int (3 : Int32)), .val (.int (16 : Int32))] []))
  refine own_step (fun _ kc_ => XS.iinc X4.here hx rfl (hb hby d16_14) rfl (l' := #[.val (.ref ta), .val (.int (-1 : Int32)), .val (.int ((3 : Int32) + (1 : Int32))), .val (.int (16 : Int32))]) rfl kc_) ?_
  show own_Ends p e below s _ _ _ (T4.setTop (mkF m 17 #[.val (.ref ta), .val (.int (-1 : Int32)), .val (.int ((3 : Int32) + (1 : Int32))), .val (.int (16 : Int32))] []))
  rw [show ((3 : Int32) + (1 : Int32)) = (4 : Int32) from by decide]
  show own_Ends p e below s _ _ _ (T4.setTop (mkF m 17 #[.val (.ref ta), .val (.int (-1 : Int32)), .val (.int (4 : Int32)), .val (.int (16 : Int32))] []))
  refine own_step (fun _ kc_ => XS.goto X4.here hx rfl (pc0 := 17) (pc' := 5) rfl (hb hby d16_17) (by decide) (by decide) (XS.iloadN X4.here hx rfl (hb hby d16_5) rfl (XS.iloadN X4.here hx rfl (hb hby d16_6) rfl (XS.icmpNo X4.here hx rfl (hb hby d16_7) rfl (XT.ii_ge_f (by decide : (4 : Int32) < (16 : Int32))) (XS.aloadN X4.here hx rfl (hb hby d16_10) rfl rfl (XS.iloadN X4.here hx rfl (hb hby d16_11) rfl (XS.iloadN X4.here hx rfl (hb hby d16_12) rfl kc_))))))) ?_
  show own_Ends p e below s _ _ _ (T4.setTop (mkF m 13 #[.val (.ref ta), .val (.int (-1 : Int32)), .val (.int (4 : Int32)), .val (.int (16 : Int32))] [(.int (-1 : Int32)), (.int (4 : Int32)), (.ref ta)]))
  obtain ⟨T5, h5, X5, e5, W5, A5, st5⟩ := own_iastore X4 hx hZ e4 A_ta_4 (j := (4 : Int32)) (x := (-1 : Int32)) (by decide) (i := 4) rfl (Nat.le_of_ble_eq_true rfl) (Ls := #[.val (.ref ta), .val (.int (-1 : Int32)), .val (.int (4 : Int32)), .val (.int (16 : Int32))]) (st := []) (hb hby d16_13)
  have A_ta_5 : own_Ar Z h5 ta .int [(.int (-1 : Int32)), (.int (-1 : Int32)), (.int (-1 : Int32)), (.int (-1 : Int32)), (.int (-1 : Int32)), (.int (0 : Int32)), (.int (0 : Int32)), (.int (0 : Int32)), (.int (0 : Int32)), (.int (0 : Int32)), (.int (0 : Int32)), (.int (0 : Int32)), (.int (0 : Int32)), (.int (0 : Int32)), (.int (0 : Int32)), (.int (0 : Int32))] := A5
  have K5 := (K4).wr W5 (Or.inl (List.mem_of_getElem? (i := 0) rfl))
  have Zs5 := Nat.le_trans Zs4 (Nat.le_of_eq W5.size.symm)
  have N5 := Fr.snoc X5 N4 g0
  refine own_step (fun _ kc_ => st5 _ kc_) ?_
  show own_Ends p e below s _ _ _ (T5.setTop (mkF m 14 #[.val (.ref ta), .val (.int (-1 : Int32)), .val (.int (4 : Int32)), .val (.int (16 : Int32))] []))
  refine own_step (fun _ kc_ => XS.iinc X5.here hx rfl (hb hby d16_14) rfl (l' := #[.val (.ref ta), .val (.int (-1 : Int32)), .val (.int ((4 : Int32) + (1 : Int32))), .val (.int (16 : Int32))]) rfl kc_) ?_
  show own_Ends p e below s _ _ _ (T5.setTop (mkF m 17 #[.val (.ref ta), .val (.int (-1 : Int32)), .val (.int ((4 : Int32) + (1 : Int32))), .val (.int (16 : Int32))] []))
  rw [show ((4 : Int32) + (1 : Int32)) = (5 : Int32) from by decide]
  show own_Ends p e below s _ _ _ (T5.setTop (mkF m 17 #[.val (.ref ta), .val (.int (-1 : Int32)), .val (.int (5 : Int32)), .val (.int (16 : Int32))] []))
  refine own_step (fun _ kc_ => XS.goto X5.here hx rfl (pc0 := 17) (pc' := 5) rfl (hb hby d16_17) (by decide) (by decide) (XS.iloadN X5.here hx rfl (hb hby d16_5) rfl (XS.iloadN X5.here hx rfl (hb hby d16_6) rfl (XS.icmpNo X5.here hx rfl (hb hby d16_7) rfl (XT.ii_ge_f (by decide : (5 : Int32) < (16 : Int32))) (XS.aloadN X5.here hx rfl (hb hby d16_10) rfl rfl (XS.iloadN X5.here hx rfl (hb hby d16_11) rfl (XS.iloadN X5.here hx rfl (hb hby d16_12) rfl kc_))))))) ?_
  show own_Ends p e below s _ _ _ (T5.setTop (mkF m 13 #[.val (.ref ta), .val (.int (-1 : Int32)), .val (.int (5 : Int32)), .val (.int (16 : Int32))] [(.int (-1 : Int32)), (.int (5 : Int32)), (.ref ta)]))
  obtain ⟨T6, h6, X6, e6, W6, A6, st6⟩ := own_iastore X5 hx hZ e5 A_ta_5 (j := (5 : Int32)) (x := (-1 : Int32)) (by decide) (i := 5) rfl (Nat.le_of_ble_eq_true rfl) (Ls := #[.val (.ref ta), .val (.int (-1 : Int32)), .val (.int (5 : Int32)), .val (.int (16 : Int32))]) (st := []) (hb hby d16_13)
  have A_ta_6 : own_Ar Z h6 ta .int [(.int (-1 : Int32)), (.int (-1 : Int32)), (.int (-1 : Int32)), (.int (-1 : Int32)), (.int (-1 : Int32)), (.int (-1 : Int32)), (.int (0 : Int32)), (.int (0 : Int32)), (.int (0 : Int32)), (.int (0 : Int32)), (.int (0 : Int32)), (.int (0 : Int32)), (.int (0 : Int32)), (.int (0 : Int32)), (.int (0 : Int32)), (.int (0 : Int32))] := A6
  have K6 := (K5).wr W6 (Or.inl (List.mem_of_getElem? (i := 0) rfl))
  have Zs6 := Nat.le_trans Zs5 (Nat.le_of_eq W6.size.symm)
  have N6 := Fr.snoc X6 N5 g0
  refine own_step (fun _ kc_ => st6 _ kc_) ?_
  show own_Ends p e below s _ _ _ (T6.setTop (mkF m 14 #[.val (.ref ta), .val (.int (-1 : Int32)), .val (.int (5 : Int32)), .val (.int (16 : Int32))] []))
  refine own_step (fun _ kc_ => XS.iinc X6.here hx rfl (hb hby d16_14) rfl (l' := #[.val (.ref ta), .val (.int (-1 : Int32)), .val (.int ((5 : Int32) + (1 : Int32))), .val (.int (16 : Int32))]) rfl kc_) ?_
  show own_Ends p e below s _ _ _ (T6.setTop (mkF m 17 #[.val (.ref ta), .val (.int (-1 : Int32)), .val (.int ((5 : Int32) + (1 : Int32))), .val (.int (16 : Int32))] []))
  rw [show ((5 : Int32) + (1 : Int32)) = (6 : Int32) from by decide]
  show own_Ends p e below s _ _ _ (T6.setTop (mkF m 17 #[.val (.ref ta), .val (.int (-1 : Int32)), .val (.int (6 : Int32)), .val (.int (16 : Int32))] []))
  refine own_step (fun _ kc_ => XS.goto X6.here hx rfl (pc0 := 17) (pc' := 5) rfl (hb hby d16_17) (by decide) (by decide) (XS.iloadN X6.here hx rfl (hb hby d16_5) rfl (XS.iloadN X6.here hx rfl (hb hby d16_6) rfl (XS.icmpNo X6.here hx rfl (hb hby d16_7) rfl (XT.ii_ge_f (by decide : (6 : Int32) < (16 : Int32))) (XS.aloadN X6.here hx rfl (hb hby d16_10) rfl rfl (XS.iloadN X6.here hx rfl (hb hby d16_11) rfl (XS.iloadN X6.here hx rfl (hb hby d16_12) rfl kc_))))))) ?_
  show own_Ends p e below s _ _ _ (T6.setTop (mkF m 13 #[.val (.ref ta), .val (.int (-1 : Int32)), .val (.int (6 : Int32)), .val (.int (16 : Int32))] [(.int (-1 : Int32)), (.int (6 : Int32)), (.ref ta)]))
  obtain ⟨T7, h7, X7, e7, W7, A7, st7⟩ := own_iastore X6 hx hZ e6 A_ta_6 (j := (6 : Int32)) (x := (-1 : Int32)) (by decide) (i := 6) rfl (Nat.le_of_ble_eq_true rfl) (Ls := #[.val (.ref ta), .val (.int (-1 : Int32)), .val (.int (6 : Int32)), .val (.int (16 : Int32))]) (st := []) (hb hby d16_13)
  have A_ta_7 : own_Ar Z h7 ta .int [(.int (-1 : Int32)), (.int (-1 : Int32)), (.int (-1 : Int32)), (.int (-1 : Int32)), (.int (-1 : Int32)), (.int (-1 : Int32)), (.int (-1 : Int32)), (.int (0 : Int32)), (.int (0 : Int32)), (.int (0 : Int32)), (.int (0 : Int32)), (.int (0 : Int32)), (.int (0 : Int32)), (.int (0 : Int32)), (.int (0 : Int32)), (.int (0 : Int32))] := A7
  have K7 := (K6).wr W7 (Or.inl (List.mem_of_getElem? (i := 0) rfl))
  have Zs7 := Nat.le_trans Zs6 (Nat.le_of_eq W7.size.symm)
  have N7 := Fr.snoc X7 N6 g0
  refine own_step (fun _ kc_ => st7 _ kc_) ?_
  show own_Ends p e below s _ _ _ (T7.setTop (mkF m 14 #[.val (.ref ta), .val (.int (-1 : Int32)), .val (.int (6 : Int32)), .val (.int (16 : Int32))] []))
  refine own_step (fun _ kc_ => XS.iinc X7.here hx rfl (hb hby d16_14) rfl (l' := #[.val (.ref ta), .val (.int (-1 : Int32)), .val (.int ((6 : Int32) + (1 : Int32))), .val (.int (16 : Int32))]) rfl kc_) ?_
  show own_Ends p e below s _ _ _ (T7.setTop (mkF m 17 #[.val (.ref ta), .val (.int (-1 : Int32)), .val (.int ((6 : Int32) + (1 : Int32))), .val (.int (16 : Int32))] []))
  rw [show ((6 : Int32) + (1 : Int32)) = (7 : Int32) from by decide]
  show own_Ends p e below s _ _ _ (T7.setTop (mkF m 17 #[.val (.ref ta), .val (.int (-1 : Int32)), .val (.int (7 : Int32)), .val (.int (16 : Int32))] []))
  refine own_step (fun _ kc_ => XS.goto X7.here hx rfl (pc0 := 17) (pc' := 5) rfl (hb hby d16_17) (by decide) (by decide) (XS.iloadN X7.here hx rfl (hb hby d16_5) rfl (XS.iloadN X7.here hx rfl (hb hby d16_6) rfl (XS.icmpNo X7.here hx rfl (hb hby d16_7) rfl (XT.ii_ge_f (by decide : (7 : Int32) < (16 : Int32))) (XS.aloadN X7.here hx rfl (hb hby d16_10) rfl rfl (XS.iloadN X7.here hx rfl (hb hby d16_11) rfl (XS.iloadN X7.here hx rfl (hb hby d16_12) rfl kc_))))))) ?_
  show own_Ends p e below s _ _ _ (T7.setTop (mkF m 13 #[.val (.ref ta), .val (.int (-1 : Int32)), .val (.int (7 : Int32)), .val (.int (16 : Int32))] [(.int (-1 : Int32)), (.int (7 : Int32)), (.ref ta)]))
  obtain ⟨T8, h8, X8, e8, W8, A8, st8⟩ := own_iastore X7 hx hZ e7 A_ta_7 (j := (7 : Int32)) (x := (-1 : Int32)) (by decide) (i := 7) rfl (Nat.le_of_ble_eq_true rfl) (Ls := #[.val (.ref ta), .val (.int (-1 : Int32)), .val (.int (7 : Int32)), .val (.int (16 : Int32))]) (st := []) (hb hby d16_13)
  have A_ta_8 : own_Ar Z h8 ta .int [(.int (-1 : Int32)), (.int (-1 : Int32)), (.int (-1 : Int32)), (.int (-1 : Int32)), (.int (-1 : Int32)), (.int (-1 : Int32)), (.int (-1 : Int32)), (.int (-1 : Int32)), (.int (0 : Int32)), (.int (0 : Int32)), (.int (0 : Int32)), (.int (0 : Int32)), (.int (0 : Int32)), (.int (0 : Int32)), (.int (0 : Int32)), (.int (0 : Int32))] := A8
  have K8 := (K7).wr W8 (Or.inl (List.mem_of_getElem? (i := 0) rfl))
  have Zs8 := Nat.le_trans Zs7 (Nat.le_of_eq W8.size.symm)
  have N8 := Fr.snoc X8 N7 g0
  refine own_step (fun _ kc_ => st8 _ kc_) ?_
  show own_Ends p e below s _ _ _ (T8.setTop (mkF m 14 #[.val (.ref ta), .val (.int (-1 : Int32)), .val (.int (7 : Int32)), .val (.int (16 : Int32))] []))
  refine own_step (fun _ kc_ => XS.iinc X8.here hx rfl (hb hby d16_14) rfl (l' := #[.val (.ref ta), .val (.int (-1 : Int32)), .val (.int ((7 : Int32) + (1 : Int32))), .val (.int (16 : Int32))]) rfl kc_) ?_
  show own_Ends p e below s _ _ _ (T8.setTop (mkF m 17 #[.val (.ref ta), .val (.int (-1 : Int32)), .val (.int ((7 : Int32) + (1 : Int32))), .val (.int (16 : Int32))] []))
  rw [show ((7 : Int32) + (1 : Int32)) = (8 : Int32) from by decide]
  show own_Ends p e below s _ _ _ (T8.setTop (mkF m 17 #[.val (.ref ta), .val (.int (-1 : Int32)), .val (.int (8 : Int32)), .val (.int (16 : Int32))] []))
  refine own_step (fun _ kc_ => XS.goto X8.here hx rfl (pc0 := 17) (pc' := 5) rfl (hb hby d16_17) (by decide) (by decide) (XS.iloadN X8.here hx rfl (hb hby d16_5) rfl (XS.iloadN X8.here hx rfl (hb hby d16_6) rfl (XS.icmpNo X8.here hx rfl (hb hby d16_7) rfl (XT.ii_ge_f (by decide : (8 : Int32) < (16 : Int32))) (XS.aloadN X8.here hx rfl (hb hby d16_10) rfl rfl (XS.iloadN X8.here hx rfl (hb hby d16_11) rfl (XS.iloadN X8.here hx rfl (hb hby d16_12) rfl kc_))))))) ?_
  show own_Ends p e below s _ _ _ (T8.setTop (mkF m 13 #[.val (.ref ta), .val (.int (-1 : Int32)), .val (.int (8 : Int32)), .val (.int (16 : Int32))] [(.int (-1 : Int32)), (.int (8 : Int32)), (.ref ta)]))
  obtain ⟨T9, h9, X9, e9, W9, A9, st9⟩ := own_iastore X8 hx hZ e8 A_ta_8 (j := (8 : Int32)) (x := (-1 : Int32)) (by decide) (i := 8) rfl (Nat.le_of_ble_eq_true rfl) (Ls := #[.val (.ref ta), .val (.int (-1 : Int32)), .val (.int (8 : Int32)), .val (.int (16 : Int32))]) (st := []) (hb hby d16_13)
  have A_ta_9 : own_Ar Z h9 ta .int [(.int (-1 : Int32)), (.int (-1 : Int32)), (.int (-1 : Int32)), (.int (-1 : Int32)), (.int (-1 : Int32)), (.int (-1 : Int32)), (.int (-1 : Int32)), (.int (-1 : Int32)), (.int (-1 : Int32)), (.int (0 : Int32)), (.int (0 : Int32)), (.int (0 : Int32)), (.int (0 : Int32)), (.int (0 : Int32)), (.int (0 : Int32)), (.int (0 : Int32))] := A9
  have K9 := (K8).wr W9 (Or.inl (List.mem_of_getElem? (i := 0) rfl))
  have Zs9 := Nat.le_trans Zs8 (Nat.le_of_eq W9.size.symm)
  have N9 := Fr.snoc X9 N8 g0
  refine own_step (fun _ kc_ => st9 _ kc_) ?_
  show own_Ends p e below s _ _ _ (T9.setTop (mkF m 14 #[.val (.ref ta), .val (.int (-1 : Int32)), .val (.int (8 : Int32)), .val (.int (16 : Int32))] []))
  refine own_step (fun _ kc_ => XS.iinc X9.here hx rfl (hb hby d16_14) rfl (l' := #[.val (.ref ta), .val (.int (-1 : Int32)), .val (.int ((8 : Int32) + (1 : Int32))), .val (.int (16 : Int32))]) rfl kc_) ?_
  show own_Ends p e below s _ _ _ (T9.setTop (mkF m 17 #[.val (.ref ta), .val (.int (-1 : Int32)), .val (.int ((8 : Int32) + (1 : Int32))), .val (.int (16 : Int32))] []))
  rw [show ((8 : Int32) + (1 : Int32)) = (9 : Int32) from by decide]
  show own_Ends p e below s _ _ _ (T9.setTop (mkF m 17 #[.val (.ref ta), .val (.int (-1 : Int32)), .val (.int (9 : Int32)), .val (.int (16 : Int32))] []))
  refine own_step (fun _ kc_ => XS.goto X9.here hx rfl (pc0 := 17) (pc' := 5) rfl (hb hby d16_17) (by decide) (by decide) (XS.iloadN X9.here hx rfl (hb hby d16_5) rfl (XS.iloadN X9.here hx rfl (hb hby d16_6) rfl (XS.icmpNo X9.here hx rfl (hb hby d16_7) rfl (XT.ii_ge_f (by decide : (9 : Int32) < (16 : Int32))) (XS.aloadN X9.here hx rfl (hb hby d16_10) rfl rfl (XS.iloadN X9.here hx rfl (hb hby d16_11) rfl (XS.iloadN X9.here hx rfl (hb hby d16_12) rfl kc_))))))) ?_
  show own_Ends p e below s _ _ _ (T9.setTop (mkF m 13 #[.val (.ref ta), .val (.int (-1 : Int32)), .val (.int (9 : Int32)), .val (.int (16 : Int32))] [(.int (-1 : Int32)), (.int (9 : Int32)), (.ref ta)]))
  obtain ⟨T10, h10, X10, e10, W10, A10, st10⟩ := own_iastore X9 hx hZ e9 A_ta_9 (j := (9 : Int32)) (x := (-1 : Int32)) (by decide) (i := 9) rfl (Nat.le_of_ble_eq_true rfl) (Ls := #[.val (.ref ta), .val (.int (-1 : Int32)), .val (.int (9 : Int32)), .val (.int (16 : Int32))]) (st := []) (hb hby d16_13)
  have A_ta_10 : own_Ar Z h10 ta .int [(.int (-1 : Int32)), (.int (-1 : Int32)), (.int (-1 : Int32)), (.int (-1 : Int32)), (.int (-1 : Int32)), (.int (-1 : Int32)), (.int (-1 : Int32)), (.int (-1 : Int32)), (.int (-1 : Int32)), (.int (-1 : Int32)), (.int (0 : Int32)), (.int (0 : Int32)), (.int (0 : Int32)), (.int (0 : Int32)), (.int (0 : Int32)), (.int (0 : Int32))] := A10
  have K10 := (K9).wr W10 (Or.inl (List.mem_of_getElem? (i := 0) rfl))
  have Zs10 := Nat.le_trans Zs9 (Nat.le_of_eq W10.size.symm)
  have N10 := Fr.snoc X10 N9 g0
  refine own_step (fun _ kc_ => st10 _ kc_) ?_
  show own_Ends p e below s _ _ _ (T10.setTop (mkF m 14 #[.val (.ref ta), .val (.int (-1 : Int32)), .val (.int (9 : Int32)), .val (.int (16 : Int32))] []))
  refine own_step (fun _ kc_ => XS.iinc X10.here hx rfl (hb hby d16_14) rfl (l' := #[.val (.ref ta), .val (.int (-1 : Int32)), .val (.int ((9 : Int32) + (1 : Int32))), .val (.int (16 : Int32))]) rfl kc_) ?_
  show own_Ends p e below s _ _ _ (T10.setTop (mkF m 17 #[.val (.ref ta), .val (.int (-1 : Int32)), .val (.int ((9 : Int32) + (1 : Int32))), .val (.int (16 : Int32))] []))
  rw [show ((9 : Int32) + (1 : Int32)) = (10 : Int32) from by decide]
  show own_Ends p e below s _ _ _ (T10.setTop (mkF m 17 #[.val (.ref ta), .val (.int (-1 : Int32)), .val (.int (10 : Int32)), .val (.int (16 : Int32))] []))
  refine own_step (fun _ kc_ => XS.goto X10.here hx rfl (pc0 := 17) (pc' := 5) rfl (hb hby d16_17) (by decide) (by decide) (XS.iloadN X10.here hx rfl (hb hby d16_5) rfl (XS.iloadN X10.here hx rfl (hb hby d16_6) rfl (XS.icmpNo X10.here hx rfl (hb hby d16_7) rfl (XT.ii_ge_f (by decide : (10 : Int32) < (16 : Int32))) (XS.aloadN X10.here hx rfl (hb hby d16_10) rfl rfl (XS.iloadN X10.here hx rfl (hb hby d16_11) rfl (XS.iloadN X10.here hx rfl (hb hby d16_12) rfl kc_))))))) ?_
  show own_Ends p e below s _ _ _ (T10.setTop (mkF m 13 #[.val (.ref ta), .val (.int (-1 : Int32)), .val (.int (10 : Int32)), .val (.int (16 : Int32))] [(.int (-1 : Int32)), (.int (10 : Int32)), (.ref ta)]))
  obtain ⟨T11, h11, X11, e11, W11, A11, st11⟩ := own_iastore X10 hx hZ e10 A_ta_10 (j := (10 : Int32)) (x := (-1 : Int32)) (by decide) (i := 10) rfl (Nat.le_of_ble_eq_true rfl) (Ls := #[.val (.ref ta), .val (.int (-1 : Int32)), .val (.int (10 : Int32)), .val (.int (16 : Int32))]) (st := []) (hb hby d16_13)
  have A_ta_11 : own_Ar Z h11 ta .int [(.int (-1 : Int32)), (.int (-1 : Int32)), (.int (-1 : Int32)), (.int (-1 : Int32)), (.int (-1 : Int32)), (.int (-1 : Int32)), (.int (-1 : Int32)), (.int (-1 : Int32)), (.int (-1 : Int32)), (.int (-1 : Int32)), (.int (-1 : Int32)), (.int (0 : Int32)), (.int (0 : Int32)), (.int (0 : Int32)), (.int (0 : Int32)), (.int (0 : Int32))] := A11
  have K11 := (K10).wr W11 (Or.inl (List.mem_of_getElem? (i := 0) rfl))
  have Zs11 := Nat.le_trans Zs10 (Nat.le_of_eq W11.size.symm)
  have N11 := Fr.snoc X11 N10 g0
  refine own_step (fun _ kc_ => st11 _ kc_) ?_
  show own_Ends p e below s _ _ _ (T11.setTop (mkF m 14 #[.val (.ref ta), .val (.int (-1 : Int32)), .val (.int (10 : Int32)), .val (.int (16 : Int32))] []))
  refine own_step (fun _ kc_ => XS.iinc X11.here hx rfl (hb hby d16_14) rfl (l' := #[.val (.ref ta), .val (.int (-1 : Int32)), .val (.int ((10 : Int32) + (1 : Int32))), .val (.int (16 : Int32))]) rfl kc_) ?_
  show own_Ends p e below s _ _ _ (T11.setTop (mkF m 17 #[.val (.ref ta), .val (.int (-1 : Int32)), .val (.int ((10 : Int32) + (1 : Int32))), .val (.int (16 : Int32))] []))
  rw [show ((10 : Int32) + (1 : Int32)) = (11 : Int32) from by decide]
  show own_Ends p e below s _ _ _ (T11.setTop (mkF m 17 #[.val (.ref ta), .val (.int (-1 : Int32)), .val (.int (11 : Int32)), .val (.int (16 : Int32))] []))
  refine own_step (fun _ kc_ => XS.goto X11.here hx rfl (pc0 := 17) (pc' := 5) rfl (hb hby d16_17) (by decide) (by decide) (XS.iloadN X11.here hx rfl (hb hby d16_5) rfl (XS.iloadN X11.here hx rfl (hb hby d16_6) rfl (XS.icmpNo X11.here hx rfl (hb hby d16_7) rfl (XT.ii_ge_f (by decide : (11 : Int32) < (16 : Int32))) (XS.aloadN X11.here hx rfl (hb hby d16_10) rfl rfl (XS.iloadN X11.here hx rfl (hb hby d16_11) rfl (XS.iloadN X11.here hx rfl (hb hby d16_12) rfl kc_))))))) ?_
  show own_Ends p e below s _ _ _ (T11.setTop (mkF m 13 #[.val (.ref ta), .val (.int (-1 : Int32)), .val (.int (11 : Int32)), .val (.int (16 : Int32))] [(.int (-1 : Int32)), (.int (11 : Int32)), (.ref ta)]))
  obtain ⟨T12, h12, X12, e12, W12, A12, st12⟩ := own_iastore X11 hx hZ e11 A_ta_11 (j := (11 : Int32)) (x := (-1 : Int32)) (by decide) (i := 11) rfl (Nat.le_of_ble_eq_true rfl) (Ls := #[.val (.ref ta), .val (.int (-1 : Int32)), .val (.int (11 : Int32)), .val (.int (16 : Int32))]) (st := []) (hb hby d16_13)
  have A_ta_12 : own_Ar Z h12 ta .int [(.int (-1 : Int32)), (.int (-1 : Int32)), (.int (-1 : Int32)), (.int (-1 : Int32)), (.int (-1 : Int32)), (.int (-1 : Int32)), (.int (-1 : Int32)), (.int (-1 : Int32)), (.int (-1 : Int32)), (.int (-1 : Int32)), (.int (-1 : Int32)), (.int (-1 : Int32)), (.int (0 : Int32)), (.int (0 : Int32)), (.int (0 : Int32)), (.int (0 : Int32))] := A12
  have K12 := (K11).wr W12 (Or.inl (List.mem_of_getElem? (i := 0) rfl))
  have Zs12 := Nat.le_trans Zs11 (Nat.le_of_eq W12.size.symm)
  have N12 := Fr.snoc X12 N11 g0
  refine own_step (fun _ kc_ => st12 _ kc_) ?_
  show own_Ends p e below s _ _ _ (T12.setTop (mkF m 14 #[.val (.ref ta), .val (.int (-1 : Int32)), .val (.int (11 : Int32)), .val (.int (16 : Int32))] []))
  refine own_step (fun _ kc_ => XS.iinc X12.here hx rfl (hb hby d16_14) rfl (l' := #[.val (.ref ta), .val (.int (-1 : Int32)), .val (.int ((11 : Int32) + (1 : Int32))), .val (.int (16 : Int32))]) rfl kc_) ?_
  show own_Ends p e below s _ _ _ (T12.setTop (mkF m 17 #[.val (.ref ta), .val (.int (-1 : Int32)), .val (.int ((11 : Int32) + (1 : Int32))), .val (.int (16 : Int32))] []))
  rw [show ((11 : Int32) + (1 : Int32)) = (12 : Int32) from by decide]
  show own_Ends p e below s _ _ _ (T12.setTop (mkF m 17 #[.val (.ref ta), .val (.int (-1 : Int32)), .val (.int (12 : Int32)), .val (.int (16 : Int32))] []))
  refine own_step (fun _ kc_ => XS.goto X12.here hx rfl (pc0 := 17) (pc' := 5) rfl (hb hby d16_17) (by decide) (by decide) (XS.iloadN X12.here hx rfl (hb hby d16_5) rfl (XS.iloadN X12.here hx rfl (hb hby d16_6) rfl (XS.icmpNo X12.here hx rfl (hb hby d16_7) rfl (XT.ii_ge_f (by decide : (12 : Int32) < (16 : Int32))) (XS.aloadN X12.here hx rfl (hb hby d16_10) rfl rfl (XS.iloadN X12.here hx rfl (hb hby d16_11) rfl (XS.iloadN X12.here hx rfl (hb hby d16_12) rfl kc_))))))) ?_
  show own_Ends p e below s _ _ _ (T12.setTop (mkF m 13 #[.val (.ref ta), .val (.int (-1 : Int32)), .val (.int (12 : Int32)), .val (.int (16 : Int32))] [(.int (-1 : Int32)), (.int (12 : Int32)), (.ref ta)]))
  obtain ⟨T13, h13, X13, e13, W13, A13, st13⟩ := own_iastore X12 hx hZ e12 A_ta_12 (j := (12 : Int32)) (x := (-1 : Int32)) (by decide) (i := 12) rfl (Nat.le_of_ble_eq_true rfl) (Ls := #[.val (.ref ta), .val (.int (-1 : Int32)), .val (.int (12 : Int32)), .val (.int (16 : Int32))]) (st := []) (hb hby d16_13)
  have A_ta_13 : own_Ar Z h13 ta .int [(.int (-1 : Int32)), (.int (-1 : Int32)), (.int (-1 : Int32)), (.int (-1 : Int32)), (.int (-1 : Int32)), (.int (-1 : Int32)), (.int (-1 : Int32)), (.int (-1 : Int32)), (.int (-1 : Int32)), (.int (-1 : Int32)), (.int (-1 : Int32)), (.int (-1 : Int32)), (.int (-1 : Int32)), (.int (0 : Int32)), (.int (0 : Int32)), (.int (0 : Int32))] := A13
  have K13 := (K12).wr W13 (Or.inl (List.mem_of_getElem? (i := 0) rfl))
  have Zs13 := Nat.le_trans Zs12 (Nat.le_of_eq W13.size.symm)
  have N13 := Fr.snoc X13 N12 g0
  refine own_step (fun _ kc_ => st13 _ kc_) ?_
  show own_Ends p e below s _ _ _ (T13.setTop (mkF m 14 #[.val (.ref ta), .val (.int (-1 : Int32)), .val (.int (12 : Int32)), .val (.int (16 : Int32))] []))
  refine own_step (fun _ kc_ => XS.iinc X13.here hx rfl (hb hby d16_14) rfl (l' := #[.val (.ref ta), .val (.int (-1 : Int32)), .val (.int ((12 : Int32) + (1 : Int32))), .val (.int (16 : Int32))]) rfl kc_) ?_
  show own_Ends p e below s _ _ _ (T13.setTop (mkF m 17 #[.val (.ref ta), .val (.int (-1 : Int32)), .val (.int ((12 : Int32) + (1 : Int32))), .val (.int (16 : Int32))] []))
  rw [show ((12 : Int32) + (1 : Int32)) = (13 : Int32) from by decide]
  show own_Ends p e below s _ _ _ (T13.setTop (mkF m 17 #[.val (.ref ta), .val (.int (-1 : Int32)), .val (.int (13 : Int32)), .val (.int (16 : Int32))] []))
  refine own_step (fun _ kc_ => XS.goto X13.here hx rfl (pc0 := 17) (pc' := 5) rfl (hb hby d16_17) (by decide) (by decide) (XS.iloadN X13.here hx rfl (hb hby d16_5) rfl (XS.iloadN X13.here hx rfl (hb hby d16_6) rfl (XS.icmpNo X13.here hx rfl (hb hby d16_7) rfl (XT.ii_ge_f (by decide : (13 : Int32) < (16 : Int32))) (XS.aloadN X13.here hx rfl (hb hby d16_10) rfl rfl (XS.iloadN X13.here hx rfl (hb hby d16_11) rfl (XS.iloadN X13.here hx rfl (hb hby d16_12) rfl kc_))))))) ?_
  show own_Ends p e below s _ _ _ (T13.setTop (mkF m 13 #[.val (.ref ta), .val (.int (-1 : Int32)), .val (.int (13 : Int32)), .val (.int (16 : Int32))] [(.int (-1 : Int32)), (.int (13 : Int32)), (.ref ta)]))
  obtain ⟨T14, h14, X14, e14, W14, A14, st14⟩ := own_iastore X13 hx hZ e13 A_ta_13 (j := (13 : Int32)) (x := (-1 : Int32)) (by decide) (i := 13) rfl (Nat.le_of_ble_eq_true rfl) (Ls := #[.val (.ref ta), .val (.int (-1 : Int32)), .val (.int (13 : Int32)), .val (.int (16 : Int32))]) (st := []) (hb hby d16_13)
  have A_ta_14 : own_Ar Z h14 ta .int [(.int (-1 : Int32)), (.int (-1 : Int32)), (.int (-1 : Int32)), (.int (-1 : Int32)), (.int (-1 : Int32)), (.int (-1 : Int32)), (.int (-1 : Int32)), (.int (-1 : Int32)), (.int (-1 : Int32)), (.int (-1 : Int32)), (.int (-1 : Int32)), (.int (-1 : Int32)), (.int (-1 : Int32)), (.int (-1 : Int32)), (.int (0 : Int32)), (.int (0 : Int32))] := A14
  have K14 := (K13).wr W14 (Or.inl (List.mem_of_getElem? (i := 0) rfl))
  have Zs14 := Nat.le_trans Zs13 (Nat.le_of_eq W14.size.symm)
  have N14 := Fr.snoc X14 N13 g0
  refine own_step (fun _ kc_ => st14 _ kc_) ?_
  show own_Ends p e below s _ _ _ (T14.setTop (mkF m 14 #[.val (.ref ta), .val (.int (-1 : Int32)), .val (.int (13 : Int32)), .val (.int (16 : Int32))] []))
  refine own_step (fun _ kc_ => XS.iinc X14.here hx rfl (hb hby d16_14) rfl (l' := #[.val (.ref ta), .val (.int (-1 : Int32)), .val (.int ((13 : Int32) + (1 : Int32))), .val (.int (16 : Int32))]) rfl kc_) ?_
  show own_Ends p e below s _ _ _ (T14.setTop (mkF m 17 #[.val (.ref ta), .val (.int (-1 : Int32)), .val (.int ((13 : Int32) + (1 : Int32))), .val (.int (16 : Int32))] []))
  rw [show ((13 : Int32) + (1 : Int32)) = (14 : Int32) from by decide]
  show own_Ends p e below s _ _ _ (T14.setTop (mkF m 17 #[.val (.ref ta), .val (.int (-1 : Int32)), .val (.int (14 : Int32)), .val (.int (16 : Int32))] []))
  refine own_step (fun _ kc_ => XS.goto X14.here hx rfl (pc0 := 17) (pc' := 5) rfl (hb hby d16_17) (by decide) (by decide) (XS.iloadN X14.here hx rfl (hb hby d16_5) rfl (XS.iloadN X14.here hx rfl (hb hby d16_6) rfl (XS.icmpNo X14.here hx rfl (hb hby d16_7) rfl (XT.ii_ge_f (by decide : (14 : Int32) < (16 : Int32))) (XS.aloadN X14.here hx rfl (hb hby d16_10) rfl rfl (XS.iloadN X14.here hx rfl (hb hby d16_11) rfl (XS.iloadN X14.here hx rfl (hb hby d16_12) rfl kc_))))))) ?_
  show own_Ends p e below s _ _ _ (T14.setTop (mkF m 13 #[.val (.ref ta), .val (.int (-1 : Int32)), .val (.int (14 : Int32)), .val (.int (16 : Int32))] [(.int (-1 : Int32)), (.int (14 : Int32)), (.ref ta)]))
  obtain ⟨T15, h15, X15, e15, W15, A15, st15⟩ := own_iastore X14 hx hZ e14 A_ta_14 (j := (14 : Int32)) (x := (-1 : Int32)) (by decide) (i := 14) rfl (Nat.le_of_ble_eq_true rfl) (Ls := #[.val (.ref ta), .val (.int (-1 : Int32)), .val (.int (14 : Int32)), .val (.int (16 : Int32))]) (st := []) (hb hby d16_13)
  have A_ta_15 : own_Ar Z h15 ta .int [(.int (-1 : Int32)), (.int (-1 : Int32)), (.int (-1 : Int32)), (.int (-1 : Int32)), (.int (-1 : Int32)), (.int (-1 : Int32)), (.int (-1 : Int32)), (.int (-1 : Int32)), (.int (-1 : Int32)), (.int (-1 : Int32)), (.int (-1 : Int32)), (.int (-1 : Int32)), (.int (-1 : Int32)), (.int (-1 : Int32)), (.int (-1 : Int32)), (.int (0 : Int32))] := A15
  have K15 := (K14).wr W15 (Or.inl (List.mem_of_getElem? (i := 0) rfl))
  have Zs15 := Nat.le_trans Zs14 (Nat.le_of_eq W15.size.symm)
  have N15 := Fr.snoc X15 N14 g0
  refine own_step (fun _ kc_ => st15 _ kc_) ?_
  show own_Ends p e below s _ _ _ (T15.setTop (mkF m 14 #[.val (.ref ta), .val (.int (-1 : Int32)), .val (.int (14 : Int32)), .val (.int (16 : Int32))] []))
  refine own_step (fun _ kc_ => XS.iinc X15.here hx rfl (hb hby d16_14) rfl (l' := #[.val (.ref ta), .val (.int (-1 : Int32)), .val (.int ((14 : Int32) + (1 : Int32))), .val (.int (16 : Int32))]) rfl kc_) ?_
  show own_Ends p e below s _ _ _ (T15.setTop (mkF m 17 #[.val (.ref ta), .val (.int (-1 : Int32)), .val (.int ((14 : Int32) + (1 : Int32))), .val (.int (16 : Int32))] []))
  rw [show ((14 : Int32) + (1 : Int32)) = (15 : Int32) from by decide]
  show own_Ends p e below s _ _ _ (T15.setTop (mkF m 17 #[.val (.ref ta), .val (.int (-1 : Int32)), .val (.int (15 : Int32)), .val (.int (16 : Int32))] []))
  refine own_step (fun _ kc_ => XS.goto X15.here hx rfl (pc0 := 17) (pc' := 5) rfl (hb hby d16_17) (by decide) (by decide) (XS.iloadN X15.here hx rfl (hb hby d16_5) rfl (XS.iloadN X15.here hx rfl (hb hby d16_6) rfl (XS.icmpNo X15.here hx rfl (hb hby d16_7) rfl (XT.ii_ge_f (by decide : (15 : Int32) < (16 : Int32))) (XS.aloadN X15.here hx rfl (hb hby d16_10) rfl rfl (XS.iloadN X15.here hx rfl (hb hby d16_11) rfl (XS.iloadN X15.here hx rfl (hb hby d16_12) rfl kc_))))))) ?_
  show own_Ends p e below s _ _ _ (T15.setTop (mkF m 13 #[.val (.ref ta), .val (.int (-1 : Int32)), .val (.int (15 : Int32)), .val (.int (16 : Int32))] [(.int (-1 : Int32)), (.int (15 : Int32)), (.ref ta)]))
  obtain ⟨T16, h16, X16, e16, W16, A16, st16⟩ := own_iastore X15 hx hZ e15 A_ta_15 (j := (15 : Int32)) (x := (-1 : Int32)) (by decide) (i := 15) rfl (Nat.le_of_ble_eq_true rfl) (Ls := #[.val (.ref ta), .val (.int (-1 : Int32)), .val (.int (15 : Int32)), .val (.int (16 : Int32))]) (st := []) (hb hby d16_13)
  have A_ta_16 : own_Ar Z h16 ta .int [(.int (-1 : Int32)), (.int (-1 : Int32)), (.int (-1 : Int32)), (.int (-1 : Int32)), (.int (-1 : Int32)), (.int (-1 : Int32)), (.int (-1 : Int32)), (.int (-1 : Int32)), (.int (-1 : Int32)), (.int (-1 : Int32)), (.int (-1 : Int32)), (.int (-1 : Int32)), (.int (-1 : Int32)), (.int (-1 : Int32)), (.int (-1 : Int32)), (.int (-1 : Int32))] := A16
  have K16 := (K15).wr W16 (Or.inl (List.mem_of_getElem? (i := 0) rfl))
  have Zs16 := Nat.le_trans Zs15 (Nat.le_of_eq W16.size.symm)
  have N16 := Fr.snoc X16 N15 g0
  refine own_step (fun _ kc_ => st16 _ kc_) ?_
  show own_Ends p e below s _ _ _ (T16.setTop (mkF m 14 #[.val (.ref ta), .val (.int (-1 : Int32)), .val (.int (15 : Int32)), .val (.int (16 : Int32))] []))
  refine own_step (fun _ kc_ => XS.iinc X16.here hx rfl (hb hby d16_14) rfl (l' := #[.val (.ref ta), .val (.int (-1 : Int32)), .val (.int ((15 : Int32) + (1 : Int32))), .val (.int (16 : Int32))]) rfl kc_) ?_
  show own_Ends p e below s _ _ _ (T16.setTop (mkF m 17 #[.val (.ref ta), .val (.int (-1 : Int32)), .val (.int ((15 : Int32) + (1 : Int32))), .val (.int (16 : Int32))] []))
  rw [show ((15 : Int32) + (1 : Int32)) = (16 : Int32) from by decide]
  show own_Ends p e below s _ _ _ (T16.setTop (mkF m 17 #[.val (.ref ta), .val (.int (-1 : Int32)), .val (.int (16 : Int32)), .val (.int (16 : Int32))] []))
  refine own_step (fun _ kc_ => XS.goto X16.here hx rfl (pc0 := 17) (pc' := 5) rfl (hb hby d16_17) (by decide) (by decide) (XS.iloadN X16.here hx rfl (hb hby d16_5) rfl (XS.iloadN X16.here hx rfl (hb hby d16_6) rfl (XS.icmpYes X16.here hx rfl (pc0 := 7) (pc' := 20) rfl (hb hby d16_7) rfl (XT.ii_ge_t (by decide : ¬ ((16 : Int32) < (16 : Int32)))) (by decide) (by decide) kc_)))) ?_
  show own_Ends p e below s _ _ _ (T16.setTop (mkF m 20 #[.val (.ref ta), .val (.int (-1 : Int32)), .val (.int (16 : Int32)), .val (.int (16 : Int32))] []))
  exact own_retV X16 hx hret hlk (hb hby d16_20) (by decide) (by decide) (by rw [e16]; exact ⟨rfl, N16, K16, A_ta_16⟩)
theorem ef_rm15 (m : MethodId)  : entryFrame m #[(.int (16 : Int32))] 2 = mkF m 0 #[.val (.int (16 : Int32)), .unset] [] := by first | (simp [entryFrame, mkF, argsToLocals, Value.category]; done) | rfl
def Q15 (Z : State)   (h0 : Heap) (n0 : Nat) (v : Option Value) (h : Heap) (L : List Loc) : Prop := Fr n0 L ∧ Keep h0 h [] ∧ ∃ ta, v = some (.ref ta) ∧ h0.size ≤ ta ∧ own_Ar Z h ta .int [(.int (-1 : Int32)), (.int (-1 : Int32)), (.int (-1 : Int32)), (.int (-1 : Int32)), (.int (-1 : Int32)), (.int (-1 : Int32)), (.int (-1 : Int32)), (.int (-1 : Int32)), (.int (-1 : Int32)), (.int (-1 : Int32)), (.int (-1 : Int32)), (.int (-1 : Int32)), (.int (-1 : Int32)), (.int (-1 : Int32)), (.int (-1 : Int32)), (.int (-1 : Int32))]
set_option maxRecDepth 65536 in
set_option maxHeartbeats 40000000 in
theorem rm15 (l : Launch) (Z : State) (a0 : Array Value) (hw : ∀ d ∈ tables_1, d.before a0 Z = true) (ws : List Jvm.Cond)   (h0 : Heap) (n0 : Nat) (Z0 : n0 ≤ h0.size)  :
    MetFree l (⟨"com/example/kinds_by_value/kindsbyvalue/NameSet", "newTable", "(I)[I"⟩ : MethodName) (head1 (Jvm.Cond.code (⟨"com/example/kinds_by_value/kindsbyvalue/NameSet", "newTable", "(I)[I"⟩ : MethodName) prog_9_method_11_code 2 (some (.array .int)) :: ws) ({ frames := 1, cells := 1, slots := 16, locals := 15 } : Room)) (fun a U => a = #[(.int (16 : Int32))] ∧ Z.Warmed39 U.vm ∧ U.heap = h0) (fun _ _ _ _ _ => True) (fun _ U o U' => ∃ v L, o = .returned v ∧ Q15 Z   h0 n0 v U'.heap L ∧ FrameEnd U o U' L ({ frames := 1, cells := 1, slots := 16, locals := 15 } : Room).cells ({ frames := 1, cells := 1, slots := 16, locals := 15 } : Room).slots) := by
  refine MetFree.of_bodySF (plainFor_of_name pn_2) hisR ?_
  intro p e s m args below meth c s₁ Bd hml0 hP hK
  obtain ⟨rfl, hZ, hh⟩ := hP
  have hx := Bd.exec
  have hby := Bd.bytes
  have hlk : meth.locks = false := BodyLoose.notSynchronized Bd
  have hret := Bd.returns
  have hml : c.maxLocals = 2 := hml0
  have hown : s.vm.findClass "com/example/kinds_by_value/kindsbyvalue/NameSet" = some m.cls := findClass_of_methodNamed Bd.named
  have hnm := (name_of_methodNamed Bd.named Bd.method).1
  have X0 : Stand p l e ({ frames := 1, cells := 1, slots := 16, locals := 15 } : Room) s m #[(.int (16 : Int32))] below meth c s₁ [] 0 0 := Stand.of_body Bd
  have e0 : s₁.heap = h0 := by rw [← hh, Bd.state]; rfl
  have N0 := Fr.nil n0
  show own_Ends p e below s 1 16 (Q15 Z   h0 n0) (s₁.setTop (entryFrame m #[(.int (16 : Int32))] 2))
  refine own_step (fun t k => castTop (ef_rm15 m ) k) ?_
  show own_Ends p e below s _ _ _ (s₁.setTop (mkF m 0 #[.val (.int (16 : Int32)), .unset] []))
  refine own_step (fun _ kc_ => XS.iloadN X0.here hx rfl (hb hby d15_0) rfl kc_) ?_
  show own_Ends p e below s _ _ _ (s₁.setTop (mkF m 1 #[.val (.int (16 : Int32)), .unset] [(.int (16 : Int32))]))
  obtain ⟨T17, h17, k17, X17, e17, E17, A17, st17⟩ := newP X0 hx hZ (hw _ (List.mem_of_getElem? (i := 59) rfl)) e0 (g := (mkF m 1 #[.val (.int (16 : Int32)), .unset] [(.int (16 : Int32))])) rfl (hb hby d15_1) rfl (by decide) (cap := 16) (by decide) (by decide) (by decide : 0 + 1 ≤ _) (by decide : 0 + 16 ≤ _)
  obtain ⟨b17, g17⟩ : ∃ z, z = h0.size := ⟨_, rfl⟩
  rw [← g17] at A17 st17
  have n0_b17 : n0 ≤ b17 := Nat.le_trans Z0 (Nat.le_of_eq g17.symm)
  have h0_b17 : h0.size ≤ b17 := Nat.le_trans ((Keep.refl h0 [])).1 (Nat.le_of_eq g17.symm)
  have K17 := ((Keep.refl h0 [])).ext E17
  have Zs17 := Nat.le_trans Z0 E17.1
  have A_b17 : own_Ar Z h17 b17 .int [(.int (0 : Int32)), (.int (0 : Int32)), (.int (0 : Int32)), (.int (0 : Int32)), (.int (0 : Int32)), (.int (0 : Int32)), (.int (0 : Int32)), (.int (0 : Int32)), (.int (0 : Int32)), (.int (0 : Int32)), (.int (0 : Int32)), (.int (0 : Int32)), (.int (0 : Int32)), (.int (0 : Int32)), (.int (0 : Int32)), (.int (0 : Int32))] := own_Ar.new A17 (by decide)
  refine own_step (fun _ kc_ => st17 _ kc_) ?_
  show own_Ends p e below s _ _ _ (T17.setTop (mkF m 3 #[.val (.int (16 : Int32)), .unset] [(.ref b17)]))
  refine own_step (fun _ kc_ => XS.astoreN X17.here hx rfl (hb hby d15_3) rfl rfl (l' := #[.val (.int (16 : Int32)), .val (.ref b17)]) rfl (XS.aloadN X17.here hx rfl (hb hby d15_4) rfl rfl (XS.iconst X17.here hx rfl (hb hby d15_5) kc_))) ?_
  show own_Ends p e below s _ _ _ (T17.setTop (mkF m 6 #[.val (.int (16 : Int32)), .val (.ref b17)] [(.int (-1 : Int32)), (.ref b17)]))
  obtain ⟨_, _, ⟨T18, L18, k18, n18⟩, -, X18, ⟨Lc18, hQ18, l18, y18, z18⟩, st18⟩ := Jvm.LawKit.callS X17 hx (y := (⟨"java/util/Arrays", "fill", "([II)V"⟩ : MethodName)) hown (mvT hZ (hw _ (List.mem_of_getElem? (i := 87) rfl))) (mvT hZ (hw _ (List.mem_of_getElem? (i := 88) rfl))) (mvT hZ (hw _ (List.mem_of_getElem? (i := 64) rfl))) (mvT hZ (hw _ (List.mem_of_getElem? (i := 89) rfl))) (by decide) (backOf (W := 0) (rm16 l Z a0 hw [] b17  h17 n0 Zs17 A_b17 n0_b17) hZ (hw _ (List.mem_of_getElem? (i := 89) rfl)) (hw _ (List.mem_of_getElem? (i := 64) rfl)) (by decide) (by decide)) (g := (mkF m 6 #[.val (.int (16 : Int32)), .val (.ref b17)] [(.int (-1 : Int32)), (.ref b17)])) rfl (by rw [hml]; rfl) (argsL := [(.ref b17), (.int (-1 : Int32))]) (rest := []) (lenOf pd_0 rfl) rfl (by show 2 * 0 + _ ≤ _; exact Nat.le_of_eq rfl) (hb hby d15_6) (fun _ _ => ⟨rfl, e17, (by decide : 1 + 0 ≤ _), (by decide : 16 + 0 ≤ _)⟩)
  dsimp only [Pt.U, Pt.locs, Pt.cells, Pt.slots] at X18 l18 y18 z18 st18 hQ18
  subst y18 z18
  obtain ⟨rfl, N18q, K18k, A18k⟩ := hQ18
  have K18 := (K17).trans K18k (allS (Or.inr h0_b17) all0)
  have Zs18 := Nat.le_trans Zs17 K18k.1
  have N18 : Fr n0 L18 := by rw [l18]; exact Fr.app N0 N18q
  refine own_step (fun _ kc_ => st18 _ kc_) ?_
  show own_Ends p e below s _ _ _ (T18.setTop (mkF m 9 #[.val (.int (16 : Int32)), .val (.ref b17)] []))
  refine own_step (fun _ kc_ => XS.aloadN X18.here hx rfl (hb hby d15_9) rfl rfl kc_) ?_
  show own_Ends p e below s _ _ _ (T18.setTop (mkF m 10 #[.val (.int (16 : Int32)), .val (.ref b17)] [(.ref b17)]))
  exact own_retR X18 hx hret rfl rfl rfl hlk (hb hby d15_10) (by decide) (by decide) (by exact ⟨N18, K18, b17, rfl, h0_b17, A18k⟩)
theorem ef_rmIT (m : MethodId) (oo : Addr) (nc : Int32) : entryFrame m #[(.ref oo), (.int nc)] 2 = mkF m 0 #[.val (.ref oo), .val (.int nc)] [] := by first | (simp [entryFrame, mkF, argsToLocals, Value.category]; done) | rfl
def QIT (Z : State) (oo : Addr) (nc : Int32)  (h0 : Heap) (n0 : Nat) (v : Option Value) (h : Heap) (L : List Loc) : Prop := v = none ∧ Fr n0 L ∧ Keep h0 h [oo] ∧ Fld Z h oo "com/example/kinds_by_value/kindsbyvalue/NameSet" "everyName" "Z" (.int (0 : Int32)) ∧ Fld Z h oo "com/example/kinds_by_value/kindsbyvalue/NameSet" "size" "I" (.int (0 : Int32)) ∧ Fld Z h oo "com/example/kinds_by_value/kindsbyvalue/NameSet" "hash" "I" (.int (0 : Int32)) ∧ ∃ ta, h0.size ≤ ta ∧ oo ≠ ta ∧ Fld Z h oo "com/example/kinds_by_value/kindsbyvalue/NameSet" "bits" "[J" .null ∧ Fld Z h oo "com/example/kinds_by_value/kindsbyvalue/NameSet" "table" "[I" (.ref ta) ∧ own_Ar Z h ta .int ((List.replicate 16 (-1 : Int32)).map Value.int)
set_option maxRecDepth 65536 in
set_option maxHeartbeats 40000000 in
theorem rmIT (l : Launch) (Z : State) (a0 : Array Value) (hw : ∀ d ∈ tables_1, d.before a0 Z = true) (ws : List Jvm.Cond) (oo : Addr) (nc : Int32)  (h0 : Heap) (n0 : Nat) (Z0 : n0 ≤ h0.size) (E0 : Exa Z h0 oo "com/example/kinds_by_value/kindsbyvalue/NameSet") (f0 : Fld Z h0 oo "com/example/kinds_by_value/kindsbyvalue/NameSet" "everyName" "Z" (.int (0 : Int32))) (f1 : Fld Z h0 oo "com/example/kinds_by_value/kindsbyvalue/NameSet" "bits" "[J" .null) (f2 : Fld Z h0 oo "com/example/kinds_by_value/kindsbyvalue/NameSet" "table" "[I" .null) (f3 : Fld Z h0 oo "com/example/kinds_by_value/kindsbyvalue/NameSet" "size" "I" (.int (0 : Int32))) (f4 : Fld Z h0 oo "com/example/kinds_by_value/kindsbyvalue/NameSet" "hash" "I" (.int (0 : Int32))) (g0 : n0 ≤ oo) (hn : (512 : Int32) < nc) :
    MetFree l (⟨"com/example/kinds_by_value/kindsbyvalue/NameSet", "<init>", "(I)V"⟩ : MethodName) (head1 (Jvm.Cond.code (⟨"com/example/kinds_by_value/kindsbyvalue/NameSet", "<init>", "(I)V"⟩ : MethodName) prog_9_method_1_code 2 none :: ws) ({ frames := 2, cells := 1, slots := 16, locals := 29 } : Room)) (fun a U => a = #[(.ref oo), (.int nc)] ∧ Z.Warmed39 U.vm ∧ U.heap = h0) (fun _ _ _ _ _ => True) (fun _ U o U' => ∃ v L, o = .returned v ∧ QIT Z oo nc  h0 n0 v U'.heap L ∧ FrameEnd U o U' L ({ frames := 2, cells := 1, slots := 16, locals := 29 } : Room).cells ({ frames := 2, cells := 1, slots := 16, locals := 29 } : Room).slots) := by
  refine MetFree.of_bodySF (plainFor_of_name pn_2) hisR ?_
  intro p e s m args below meth c s₁ Bd hml0 hP hK
  obtain ⟨rfl, hZ, hh⟩ := hP
  have hx := Bd.exec
  have hby := Bd.bytes
  have hlk : meth.locks = false := BodyLoose.notSynchronized Bd
  have hret := Bd.returns
  have hml : c.maxLocals = 2 := hml0
  have hown : s.vm.findClass "com/example/kinds_by_value/kindsbyvalue/NameSet" = some m.cls := findClass_of_methodNamed Bd.named
  have hnm := (name_of_methodNamed Bd.named Bd.method).1
  have X0 : Stand p l e ({ frames := 2, cells := 1, slots := 16, locals := 29 } : Room) s m #[(.ref oo), (.int nc)] below meth c s₁ [] 0 0 := Stand.of_body Bd
  have e0 : s₁.heap = h0 := by rw [← hh, Bd.state]; rfl
  have N0 := Fr.nil n0
  show own_Ends p e below s 1 16 (QIT Z oo nc  h0 n0) (s₁.setTop (entryFrame m #[(.ref oo), (.int nc)] 2))
  refine own_step (fun t k => castTop (ef_rmIT m oo nc) k) ?_
  show own_Ends p e below s _ _ _ (s₁.setTop (mkF m 0 #[.val (.ref oo), .val (.int nc)] []))
  refine own_step (fun _ kc_ => XS.aloadN X0.here hx rfl (hb hby d1_0) rfl rfl kc_) ?_
  show own_Ends p e below s _ _ _ (s₁.setTop (mkF m 1 #[.val (.ref oo), .val (.int nc)] [(.ref oo)]))
  obtain ⟨T19, X19, e19, st19⟩ := initO X0 hx hZ hown (hw _ (List.mem_of_getElem? (i := 6) rfl)) (hw _ (List.mem_of_getElem? (i := 7) rfl)) (hw _ (List.mem_of_getElem? (i := 8) rfl)) e0 (g := (mkF m 1 #[.val (.ref oo), .val (.int nc)] [(.ref oo)])) rfl (by rw [hml]; rfl) rfl (hb hby d1_1) (by decide) (W := 0) (by show 2 * 0 + _ ≤ _; exact Nat.le_of_eq rfl) (by decide)
  refine own_step (fun _ kc_ => st19 _ kc_) ?_
  show own_Ends p e below s _ _ _ (T19.setTop (mkF m 4 #[.val (.ref oo), .val (.int nc)] []))
  refine own_step (fun _ kc_ => XS.iloadN X19.here hx rfl (hb hby d1_4) rfl (XS.sipush X19.here hx rfl (hb hby d1_5) (XS.icmpYes X19.here hx rfl (pc0 := 8) (pc' := 29) rfl (hb hby d1_8) rfl (XT.ii_gt_t (hn : (512 : Int32) < nc)) (by decide) (by decide) (XS.aloadN X19.here hx rfl (hb hby d1_29) rfl rfl (XS.bipush X19.here hx rfl (hb hby d1_30) kc_))))) ?_
  show own_Ends p e below s _ _ _ (T19.setTop (mkF m 32 #[.val (.ref oo), .val (.int nc)] [(.int (16 : Int32)), (.ref oo)]))
  obtain ⟨_, _, ⟨T20, L20, k20, n20⟩, -, X20, ⟨Lc20, hQ20, l20, y20, z20⟩, st20⟩ := Jvm.LawKit.callS X19 hx (y := (⟨"com/example/kinds_by_value/kindsbyvalue/NameSet", "newTable", "(I)[I"⟩ : MethodName)) hown (mvT hZ (hw _ (List.mem_of_getElem? (i := 84) rfl))) (mvT hZ (hw _ (List.mem_of_getElem? (i := 85) rfl))) (mvT hZ (hw _ (List.mem_of_getElem? (i := 2) rfl))) (mvT hZ (hw _ (List.mem_of_getElem? (i := 86) rfl))) (by decide) (backOf (W := 1) (rm15 l Z a0 hw []   h0 n0 Z0 ) hZ (hw _ (List.mem_of_getElem? (i := 86) rfl)) (hw _ (List.mem_of_getElem? (i := 2) rfl)) (by decide) (by decide)) (g := (mkF m 32 #[.val (.ref oo), .val (.int nc)] [(.int (16 : Int32)), (.ref oo)])) rfl (by rw [hml]; rfl) (argsL := [(.int (16 : Int32))]) (rest := [(.ref oo)]) (lenOf pd_2 rfl) rfl (by show 2 * 0 + _ ≤ _; exact Nat.le_of_eq rfl) (hb hby d1_32) (fun _ _ => ⟨rfl, e19, (by decide : 0 + 1 ≤ _), (by decide : 0 + 16 ≤ _)⟩)
  dsimp only [Pt.U, Pt.locs, Pt.cells, Pt.slots] at X20 l20 y20 z20 st20 hQ20
  subst y20 z20
  obtain ⟨N20q, K20k, ta, rfl, hta, A20k⟩ := hQ20
  have nota : oo ≠ ta := Nat.ne_of_lt (Nat.lt_of_lt_of_le (E0).lt hta)
  have h0ta : h0.size ≤ ta := Nat.le_trans ((Keep.refl h0 [oo])).1 hta
  have n0ta : n0 ≤ ta := Nat.le_trans Z0 hta
  have E_oo_20 := (E0).keep K20k
  have F_oo_everyName_20 := (f0).keep K20k nin0
  have F_oo_bits_20 := (f1).keep K20k nin0
  have F_oo_table_20 := (f2).keep K20k nin0
  have F_oo_size_20 := (f3).keep K20k nin0
  have F_oo_hash_20 := (f4).keep K20k nin0
  have K20 := ((Keep.refl h0 [oo])).trans K20k all0
  have Zs20 := Nat.le_trans Z0 K20k.1
  have N20 : Fr n0 L20 := by rw [l20]; exact Fr.app N0 N20q
  refine own_step (fun _ kc_ => st20 _ kc_) ?_
  show own_Ends p e below s _ _ _ (T20.setTop (mkF m 35 #[.val (.ref oo), .val (.int nc)] [(.ref ta), (.ref oo)]))
  obtain ⟨T21, h21, X21, e21, W21, st21⟩ := putF X20 hx hZ hown (host := "") (Or.inl (hw _ (List.mem_of_getElem? (i := 19) rfl))) Via.refl rfl F_oo_table_20 E_oo_20 (Or.inl (hw _ (List.mem_of_getElem? (i := 20) rfl))) (hw _ (List.mem_of_getElem? (i := 1) rfl)) (ty := (.array .int)) (by decide) rfl rfl (g := (mkF m 35 #[.val (.ref oo), .val (.int nc)] [(.ref ta), (.ref oo)])) rfl rfl (hb hby d1_35)
  have E_oo_21 := (E_oo_20).wr W21
  have F_oo_everyName_21 := (F_oo_everyName_20).other W21 (Or.inr (slot_ne (Or.inl (hw _ (List.mem_of_getElem? (i := 18) rfl))) (Or.inl (hw _ (List.mem_of_getElem? (i := 20) rfl))) (by decide) (t := .boolean) (t' := (.array .int)) (by decide) (by decide)))
  have F_oo_bits_21 := (F_oo_bits_20).other W21 (Or.inr (slot_ne (Or.inl (hw _ (List.mem_of_getElem? (i := 11) rfl))) (Or.inl (hw _ (List.mem_of_getElem? (i := 20) rfl))) (by decide) (t := (.array .long)) (t' := (.array .int)) (by decide) (by decide)))
  have F_oo_table_21 := (F_oo_table_20).same W21
  have F_oo_size_21 := (F_oo_size_20).other W21 (Or.inr (slot_ne (Or.inl (hw _ (List.mem_of_getElem? (i := 22) rfl))) (Or.inl (hw _ (List.mem_of_getElem? (i := 20) rfl))) (by decide) (t := .int) (t' := (.array .int)) (by decide) (by decide)))
  have F_oo_hash_21 := (F_oo_hash_20).other W21 (Or.inr (slot_ne (Or.inl (hw _ (List.mem_of_getElem? (i := 24) rfl))) (Or.inl (hw _ (List.mem_of_getElem? (i := 20) rfl))) (by decide) (t := .int) (t' := (.array .int)) (by decide) (by decide)))
  have A_ta_21 := (A20k).other W21 (Ne.symm nota)
  have K21 := (K20).wr W21 (Or.inl (List.mem_of_getElem? (i := 0) rfl))
  have Zs21 := Nat.le_trans Zs20 (Nat.le_of_eq W21.size.symm)
  have N21 := Fr.snoc X21 N20 g0
  refine own_step (fun _ kc_ => st21 _ kc_) ?_
  show own_Ends p e below s _ _ _ (T21.setTop (mkF m 38 #[.val (.ref oo), .val (.int nc)] []))
  exact own_retV X21 hx hret hlk (hb hby d1_38) (by decide) (by decide) (by rw [e21]; exact ⟨rfl, N21, K21, F_oo_everyName_21, F_oo_size_21, F_oo_hash_21, ta, h0ta, nota, F_oo_bits_21, F_oo_table_21, A_ta_21⟩)
theorem ef_rmIB (m : MethodId) (oo : Addr) (nc : Int32) : entryFrame m #[(.ref oo), (.int nc)] 2 = mkF m 0 #[.val (.ref oo), .val (.int nc)] [] := by first | (simp [entryFrame, mkF, argsToLocals, Value.category]; done) | rfl
def QIB (Z : State) (oo : Addr) (nc : Int32) (N : Nat) (h0 : Heap) (n0 : Nat) (v : Option Value) (h : Heap) (L : List Loc) : Prop := v = none ∧ Fr n0 L ∧ Keep h0 h [oo] ∧ Fld Z h oo "com/example/kinds_by_value/kindsbyvalue/NameSet" "everyName" "Z" (.int (0 : Int32)) ∧ Fld Z h oo "com/example/kinds_by_value/kindsbyvalue/NameSet" "size" "I" (.int (0 : Int32)) ∧ Fld Z h oo "com/example/kinds_by_value/kindsbyvalue/NameSet" "hash" "I" (.int (0 : Int32)) ∧ ∃ ba, h0.size ≤ ba ∧ oo ≠ ba ∧ Fld Z h oo "com/example/kinds_by_value/kindsbyvalue/NameSet" "bits" "[J" (.ref ba) ∧ Fld Z h oo "com/example/kinds_by_value/kindsbyvalue/NameSet" "table" "[I" .null ∧ own_Ar Z h ba .long ((List.replicate ((N + 63) / 64) (0 : Int64)).map Value.long)
set_option maxRecDepth 65536 in
set_option maxHeartbeats 40000000 in
theorem rmIB (l : Launch) (Z : State) (a0 : Array Value) (hw : ∀ d ∈ tables_1, d.before a0 Z = true) (ws : List Jvm.Cond) (oo : Addr) (nc : Int32) (N : Nat) (h0 : Heap) (n0 : Nat) (Z0 : n0 ≤ h0.size) (E0 : Exa Z h0 oo "com/example/kinds_by_value/kindsbyvalue/NameSet") (f0 : Fld Z h0 oo "com/example/kinds_by_value/kindsbyvalue/NameSet" "everyName" "Z" (.int (0 : Int32))) (f1 : Fld Z h0 oo "com/example/kinds_by_value/kindsbyvalue/NameSet" "bits" "[J" .null) (f2 : Fld Z h0 oo "com/example/kinds_by_value/kindsbyvalue/NameSet" "table" "[I" .null) (f3 : Fld Z h0 oo "com/example/kinds_by_value/kindsbyvalue/NameSet" "size" "I" (.int (0 : Int32))) (f4 : Fld Z h0 oo "com/example/kinds_by_value/kindsbyvalue/NameSet" "hash" "I" (.int (0 : Int32))) (g0 : n0 ≤ oo) (hN : nc.toInt = N) (hn : N ≤ 512) :
    MetFree l (⟨"com/example/kinds_by_value/kindsbyvalue/NameSet", "<init>", "(I)V"⟩ : MethodName) (head1 (Jvm.Cond.code (⟨"com/example/kinds_by_value/kindsbyvalue/NameSet", "<init>", "(I)V"⟩ : MethodName) prog_9_method_1_code 2 none :: ws) ({ frames := 1, cells := 1, slots := 8, locals := 12 } : Room)) (fun a U => a = #[(.ref oo), (.int nc)] ∧ Z.Warmed39 U.vm ∧ U.heap = h0) (fun _ _ _ _ _ => True) (fun _ U o U' => ∃ v L, o = .returned v ∧ QIB Z oo nc N h0 n0 v U'.heap L ∧ FrameEnd U o U' L ({ frames := 1, cells := 1, slots := 8, locals := 12 } : Room).cells ({ frames := 1, cells := 1, slots := 8, locals := 12 } : Room).slots) := by
  refine MetFree.of_bodySF (plainFor_of_name pn_2) hisR ?_
  intro p e s m args below meth c s₁ Bd hml0 hP hK
  obtain ⟨rfl, hZ, hh⟩ := hP
  have hx := Bd.exec
  have hby := Bd.bytes
  have hlk : meth.locks = false := BodyLoose.notSynchronized Bd
  have hret := Bd.returns
  have hml : c.maxLocals = 2 := hml0
  have hown : s.vm.findClass "com/example/kinds_by_value/kindsbyvalue/NameSet" = some m.cls := findClass_of_methodNamed Bd.named
  have hnm := (name_of_methodNamed Bd.named Bd.method).1
  have X0 : Stand p l e ({ frames := 1, cells := 1, slots := 8, locals := 12 } : Room) s m #[(.ref oo), (.int nc)] below meth c s₁ [] 0 0 := Stand.of_body Bd
  have e0 : s₁.heap = h0 := by rw [← hh, Bd.state]; rfl
  have N0 := Fr.nil n0
  show own_Ends p e below s 1 8 (QIB Z oo nc N h0 n0) (s₁.setTop (entryFrame m #[(.ref oo), (.int nc)] 2))
  refine own_step (fun t k => castTop (ef_rmIB m oo nc) k) ?_
  show own_Ends p e below s _ _ _ (s₁.setTop (mkF m 0 #[.val (.ref oo), .val (.int nc)] []))
  refine own_step (fun _ kc_ => XS.aloadN X0.here hx rfl (hb hby d1_0) rfl rfl kc_) ?_
  show own_Ends p e below s _ _ _ (s₁.setTop (mkF m 1 #[.val (.ref oo), .val (.int nc)] [(.ref oo)]))
  obtain ⟨T22, X22, e22, st22⟩ := initO X0 hx hZ hown (hw _ (List.mem_of_getElem? (i := 6) rfl)) (hw _ (List.mem_of_getElem? (i := 7) rfl)) (hw _ (List.mem_of_getElem? (i := 8) rfl)) e0 (g := (mkF m 1 #[.val (.ref oo), .val (.int nc)] [(.ref oo)])) rfl (by rw [hml]; rfl) rfl (hb hby d1_1) (by decide) (W := 0) (by show 2 * 0 + _ ≤ _; exact Nat.le_of_eq rfl) (by decide)
  refine own_step (fun _ kc_ => st22 _ kc_) ?_
  show own_Ends p e below s _ _ _ (T22.setTop (mkF m 4 #[.val (.ref oo), .val (.int nc)] []))
  refine own_step (fun _ kc_ => XS.iloadN X22.here hx rfl (hb hby d1_4) rfl (XS.sipush X22.here hx rfl (hb hby d1_5) (XS.icmpNo X22.here hx rfl (hb hby d1_8) rfl (XT.ii_gt_f (own_le512 hN hn : ¬ ((512 : Int32) < nc))) (XS.aloadN X22.here hx rfl (hb hby d1_11) rfl rfl (XS.iloadN X22.here hx rfl (hb hby d1_12) rfl (XS.bipush X22.here hx rfl (hb hby d1_13) (XS.iadd X22.here hx rfl (hb hby d1_15) rfl (XS.iconst X22.here hx rfl (hb hby d1_16) kc_)))))))) ?_
  show own_Ends p e below s _ _ _ (T22.setTop (mkF m 17 #[.val (.ref oo), .val (.int nc)] [(.int (1 : Int32)), (.int (nc + (64 : Int32))), (.ref oo)]))
  refine own_step (fun _ kc_ => XS.isub X22.here hx rfl (hb hby d1_17) rfl (XS.bipush X22.here hx rfl (hb hby d1_18) (XS.idiv X22.here hx rfl (hb hby d1_20) rfl (by decide) kc_))) ?_
  show own_Ends p e below s _ _ _ (T22.setTop (mkF m 21 #[.val (.ref oo), .val (.int nc)] [(.int (((nc + (64 : Int32)) - (1 : Int32)) / (64 : Int32))), (.ref oo)]))
  obtain ⟨T23, h23, k23, X23, e23, E23, A23, st23⟩ := newP X22 hx hZ (hw _ (List.mem_of_getElem? (i := 9) rfl)) e22 (g := (mkF m 21 #[.val (.ref oo), .val (.int nc)] [(.int (((nc + (64 : Int32)) - (1 : Int32)) / (64 : Int32))), (.ref oo)])) rfl (hb hby d1_21) rfl (own_bl hN hn).1 (cap := 8) (by rw [(own_bl hN hn).2]; omega) (by decide) (by decide : 0 + 1 ≤ _) (by decide : 0 + 8 ≤ _)
  obtain ⟨b23, g23⟩ : ∃ z, z = h0.size := ⟨_, rfl⟩
  rw [← g23] at A23 st23
  have ne_oo_b23 : oo ≠ b23 := Nat.ne_of_lt (Nat.lt_of_lt_of_le (E0).lt (Nat.le_of_eq g23.symm))
  have n0_b23 : n0 ≤ b23 := Nat.le_trans Z0 (Nat.le_of_eq g23.symm)
  have h0_b23 : h0.size ≤ b23 := Nat.le_trans ((Keep.refl h0 [oo])).1 (Nat.le_of_eq g23.symm)
  have E_oo_23 := (E0).ext E23
  have F_oo_everyName_23 := (f0).ext E23
  have F_oo_bits_23 := (f1).ext E23
  have F_oo_table_23 := (f2).ext E23
  have F_oo_size_23 := (f3).ext E23
  have F_oo_hash_23 := (f4).ext E23
  have K23 := ((Keep.refl h0 [oo])).ext E23
  have Zs23 := Nat.le_trans Z0 E23.1
  have A_b23 : own_Ar Z h23 b23 .long (List.replicate ((((nc + (64 : Int32)) - (1 : Int32)) / (64 : Int32))).toNatClampNeg (.long (0 : Int64))) := own_Ar.new A23 (own_bl hN hn).1
  refine own_step (fun _ kc_ => st23 _ kc_) ?_
  show own_Ends p e below s _ _ _ (T23.setTop (mkF m 23 #[.val (.ref oo), .val (.int nc)] [(.ref b23), (.ref oo)]))
  have B_b23 : own_Ar Z h23 b23 .long ((List.replicate ((N + 63) / 64) (0 : Int64)).map Value.long) := A_b23.cast (by rw [(own_bl hN hn).2, List.map_replicate])
  obtain ⟨T24, h24, X24, e24, W24, st24⟩ := putF X23 hx hZ hown (host := "") (Or.inl (hw _ (List.mem_of_getElem? (i := 10) rfl))) Via.refl e23 F_oo_bits_23 E_oo_23 (Or.inl (hw _ (List.mem_of_getElem? (i := 11) rfl))) (hw _ (List.mem_of_getElem? (i := 1) rfl)) (ty := (.array .long)) (by decide) rfl rfl (g := (mkF m 23 #[.val (.ref oo), .val (.int nc)] [(.ref b23), (.ref oo)])) rfl rfl (hb hby d1_23)
  have E_oo_24 := (E_oo_23).wr W24
  have F_oo_everyName_24 := (F_oo_everyName_23).other W24 (Or.inr (slot_ne (Or.inl (hw _ (List.mem_of_getElem? (i := 18) rfl))) (Or.inl (hw _ (List.mem_of_getElem? (i := 11) rfl))) (by decide) (t := .boolean) (t' := (.array .long)) (by decide) (by decide)))
  have F_oo_bits_24 := (F_oo_bits_23).same W24
  have F_oo_table_24 := (F_oo_table_23).other W24 (Or.inr (slot_ne (Or.inl (hw _ (List.mem_of_getElem? (i := 20) rfl))) (Or.inl (hw _ (List.mem_of_getElem? (i := 11) rfl))) (by decide) (t := (.array .int)) (t' := (.array .long)) (by decide) (by decide)))
  have F_oo_size_24 := (F_oo_size_23).other W24 (Or.inr (slot_ne (Or.inl (hw _ (List.mem_of_getElem? (i := 22) rfl))) (Or.inl (hw _ (List.mem_of_getElem? (i := 11) rfl))) (by decide) (t := .int) (t' := (.array .long)) (by decide) (by decide)))
  have F_oo_hash_24 := (F_oo_hash_23).other W24 (Or.inr (slot_ne (Or.inl (hw _ (List.mem_of_getElem? (i := 24) rfl))) (Or.inl (hw _ (List.mem_of_getElem? (i := 11) rfl))) (by decide) (t := .int) (t' := (.array .long)) (by decide) (by decide)))
  have A_b23_24 := (B_b23).other W24 (Ne.symm ne_oo_b23)
  have K24 := (K23).wr W24 (Or.inl (List.mem_of_getElem? (i := 0) rfl))
  have Zs24 := Nat.le_trans Zs23 (Nat.le_of_eq W24.size.symm)
  have N24 := Fr.snoc X24 N0 g0
  refine own_step (fun _ kc_ => st24 _ kc_) ?_
  show own_Ends p e below s _ _ _ (T24.setTop (mkF m 26 #[.val (.ref oo), .val (.int nc)] []))
  refine own_step (fun _ kc_ => XS.goto X24.here hx rfl (pc0 := 26) (pc' := 38) rfl (hb hby d1_26) (by decide) (by decide) kc_) ?_
  show own_Ends p e below s _ _ _ (T24.setTop (mkF m 38 #[.val (.ref oo), .val (.int nc)] []))
  exact own_retV X24 hx hret hlk (hb hby d1_38) (by decide) (by decide) (by rw [e24]; exact ⟨rfl, N24, K24, F_oo_everyName_24, F_oo_size_24, F_oo_hash_24, b23, h0_b23, ne_oo_b23, F_oo_bits_24, F_oo_table_24, A_b23_24⟩)
theorem ef_rmH0 (m : MethodId) (oo : Addr) : entryFrame m #[(.ref oo)] 1 = mkF m 0 #[.val (.ref oo)] [] := by first | (simp [entryFrame, mkF, argsToLocals, Value.category]; done) | rfl
def QH0 (Z : State) (oo : Addr) (hv : Int32) (h0 : Heap) (n0 : Nat) (v : Option Value) (h : Heap) (L : List Loc) : Prop := v = some (.int hv) ∧ Fr n0 L ∧ h = h0
set_option maxRecDepth 65536 in
set_option maxHeartbeats 40000000 in
theorem rmH0 (l : Launch) (Z : State) (a0 : Array Value) (hw : ∀ d ∈ tables_1, d.before a0 Z = true) (ws : List Jvm.Cond) (oo : Addr) (hv : Int32) (h0 : Heap) (n0 : Nat) (Z0 : n0 ≤ h0.size) (f0 : Fld Z h0 oo "com/example/kinds_by_value/kindsbyvalue/NameSet" "everyName" "Z" (.int (0 : Int32))) (f4 : Fld Z h0 oo "com/example/kinds_by_value/kindsbyvalue/NameSet" "hash" "I" (.int hv)) :
    MetFree l (⟨"com/example/kinds_by_value/kindsbyvalue/NameSet", "hashCode", "()I"⟩ : MethodName) (head1 (Jvm.Cond.code (⟨"com/example/kinds_by_value/kindsbyvalue/NameSet", "hashCode", "()I"⟩ : MethodName) prog_9_method_8_code 1 (some .int) :: ws) ({ frames := 0, cells := 0, slots := 0, locals := 0 } : Room)) (fun a U => a = #[(.ref oo)] ∧ Z.Warmed39 U.vm ∧ U.heap = h0) (fun _ _ _ _ _ => True) (fun _ U o U' => ∃ v L, o = .returned v ∧ QH0 Z oo hv h0 n0 v U'.heap L ∧ FrameEnd U o U' L ({ frames := 0, cells := 0, slots := 0, locals := 0 } : Room).cells ({ frames := 0, cells := 0, slots := 0, locals := 0 } : Room).slots) := by
  refine MetFree.of_bodySF (plainFor_of_name pn_2) hisR ?_
  intro p e s m args below meth c s₁ Bd hml0 hP hK
  obtain ⟨rfl, hZ, hh⟩ := hP
  have hx := Bd.exec
  have hby := Bd.bytes
  have hlk : meth.locks = false := BodyLoose.notSynchronized Bd
  have hret := Bd.returns
  have hml : c.maxLocals = 1 := hml0
  have hown : s.vm.findClass "com/example/kinds_by_value/kindsbyvalue/NameSet" = some m.cls := findClass_of_methodNamed Bd.named
  have hnm := (name_of_methodNamed Bd.named Bd.method).1
  have X0 : Stand p l e ({ frames := 0, cells := 0, slots := 0, locals := 0 } : Room) s m #[(.ref oo)] below meth c s₁ [] 0 0 := Stand.of_body Bd
  have e0 : s₁.heap = h0 := by rw [← hh, Bd.state]; rfl
  have N0 := Fr.nil n0
  show own_Ends p e below s 0 0 (QH0 Z oo hv h0 n0) (s₁.setTop (entryFrame m #[(.ref oo)] 1))
  refine own_step (fun t k => castTop (ef_rmH0 m oo) k) ?_
  show own_Ends p e below s _ _ _ (s₁.setTop (mkF m 0 #[.val (.ref oo)] []))
  refine own_step (fun _ kc_ => XS.aloadN X0.here hx rfl (hb hby d7_0) rfl rfl kc_) ?_
  show own_Ends p e below s _ _ _ (s₁.setTop (mkF m 1 #[.val (.ref oo)] [(.ref oo)]))
  obtain ⟨T25, X25, e25, st25⟩ := getF X0 hx hZ hown (host := "") (Or.inl (hw _ (List.mem_of_getElem? (i := 17) rfl))) Via.refl e0 f0 (g := (mkF m 1 #[.val (.ref oo)] [(.ref oo)])) rfl rfl (hb hby d7_1)
  refine own_step (fun _ kc_ => st25 _ kc_) ?_
  show own_Ends p e below s _ _ _ (T25.setTop (mkF m 4 #[.val (.ref oo)] [(.int (0 : Int32))]))
  refine own_step (fun _ kc_ => XS.ifYes X25.here hx rfl (pc0 := 4) (pc' := 11) rfl (hb hby d7_4) rfl (XT.i0_eq_t (by decide : (0 : Int32) = 0)) (by decide) (by decide) (XS.aloadN X25.here hx rfl (hb hby d7_11) rfl rfl kc_)) ?_
  show own_Ends p e below s _ _ _ (T25.setTop (mkF m 12 #[.val (.ref oo)] [(.ref oo)]))
  obtain ⟨T26, X26, e26, st26⟩ := getF X25 hx hZ hown (host := "") (Or.inl (hw _ (List.mem_of_getElem? (i := 23) rfl))) Via.refl e25 f4 (g := (mkF m 12 #[.val (.ref oo)] [(.ref oo)])) rfl rfl (hb hby d7_12)
  refine own_step (fun _ kc_ => st26 _ kc_) ?_
  show own_Ends p e below s _ _ _ (T26.setTop (mkF m 15 #[.val (.ref oo)] [(.int hv)]))
  exact own_retI X26 hx hret hlk (hb hby d7_15) (by decide) (by decide) ⟨rfl, N0, e26⟩
theorem ef_rmH1 (m : MethodId) (oo : Addr) : entryFrame m #[(.ref oo)] 1 = mkF m 0 #[.val (.ref oo)] [] := by first | (simp [entryFrame, mkF, argsToLocals, Value.category]; done) | rfl
def QH1 (Z : State) (oo : Addr)  (h0 : Heap) (n0 : Nat) (v : Option Value) (h : Heap) (L : List Loc) : Prop := v = some (.int (-1 : Int32)) ∧ Fr n0 L ∧ h = h0
set_option maxRecDepth 65536 in
set_option maxHeartbeats 40000000 in
theorem rmH1 (l : Launch) (Z : State) (a0 : Array Value) (hw : ∀ d ∈ tables_1, d.before a0 Z = true) (ws : List Jvm.Cond) (oo : Addr)  (h0 : Heap) (n0 : Nat) (Z0 : n0 ≤ h0.size) (f0 : Fld Z h0 oo "com/example/kinds_by_value/kindsbyvalue/NameSet" "everyName" "Z" (.int (1 : Int32))) :
    MetFree l (⟨"com/example/kinds_by_value/kindsbyvalue/NameSet", "hashCode", "()I"⟩ : MethodName) (head1 (Jvm.Cond.code (⟨"com/example/kinds_by_value/kindsbyvalue/NameSet", "hashCode", "()I"⟩ : MethodName) prog_9_method_8_code 1 (some .int) :: ws) ({ frames := 0, cells := 0, slots := 0, locals := 0 } : Room)) (fun a U => a = #[(.ref oo)] ∧ Z.Warmed39 U.vm ∧ U.heap = h0) (fun _ _ _ _ _ => True) (fun _ U o U' => ∃ v L, o = .returned v ∧ QH1 Z oo  h0 n0 v U'.heap L ∧ FrameEnd U o U' L ({ frames := 0, cells := 0, slots := 0, locals := 0 } : Room).cells ({ frames := 0, cells := 0, slots := 0, locals := 0 } : Room).slots) := by
  refine MetFree.of_bodySF (plainFor_of_name pn_2) hisR ?_
  intro p e s m args below meth c s₁ Bd hml0 hP hK
  obtain ⟨rfl, hZ, hh⟩ := hP
  have hx := Bd.exec
  have hby := Bd.bytes
  have hlk : meth.locks = false := BodyLoose.notSynchronized Bd
  have hret := Bd.returns
  have hml : c.maxLocals = 1 := hml0
  have hown : s.vm.findClass "com/example/kinds_by_value/kindsbyvalue/NameSet" = some m.cls := findClass_of_methodNamed Bd.named
  have hnm := (name_of_methodNamed Bd.named Bd.method).1
  have X0 : Stand p l e ({ frames := 0, cells := 0, slots := 0, locals := 0 } : Room) s m #[(.ref oo)] below meth c s₁ [] 0 0 := Stand.of_body Bd
  have e0 : s₁.heap = h0 := by rw [← hh, Bd.state]; rfl
  have N0 := Fr.nil n0
  show own_Ends p e below s 0 0 (QH1 Z oo  h0 n0) (s₁.setTop (entryFrame m #[(.ref oo)] 1))
  refine own_step (fun t k => castTop (ef_rmH1 m oo) k) ?_
  show own_Ends p e below s _ _ _ (s₁.setTop (mkF m 0 #[.val (.ref oo)] []))
  refine own_step (fun _ kc_ => XS.aloadN X0.here hx rfl (hb hby d7_0) rfl rfl kc_) ?_
  show own_Ends p e below s _ _ _ (s₁.setTop (mkF m 1 #[.val (.ref oo)] [(.ref oo)]))
  obtain ⟨T27, X27, e27, st27⟩ := getF X0 hx hZ hown (host := "") (Or.inl (hw _ (List.mem_of_getElem? (i := 17) rfl))) Via.refl e0 f0 (g := (mkF m 1 #[.val (.ref oo)] [(.ref oo)])) rfl rfl (hb hby d7_1)
  refine own_step (fun _ kc_ => st27 _ kc_) ?_
  show own_Ends p e below s _ _ _ (T27.setTop (mkF m 4 #[.val (.ref oo)] [(.int (1 : Int32))]))
  refine own_step (fun _ kc_ => XS.ifNo X27.here hx rfl (hb hby d7_4) rfl (XT.i0_eq_f (by decide : ¬ ((1 : Int32) = 0))) (XS.iconst X27.here hx rfl (hb hby d7_7) (XS.goto X27.here hx rfl (pc0 := 8) (pc' := 15) rfl (hb hby d7_8) (by decide) (by decide) kc_))) ?_
  show own_Ends p e below s _ _ _ (T27.setTop (mkF m 15 #[.val (.ref oo)] [(.int (-1 : Int32))]))
  exact own_retI X27 hx hret hlk (hb hby d7_15) (by decide) (by decide) ⟨rfl, N0, e27⟩
theorem ef_rm3 (m : MethodId) (oo : Addr) : entryFrame m #[(.ref oo)] 1 = mkF m 0 #[.val (.ref oo)] [] := by first | (simp [entryFrame, mkF, argsToLocals, Value.category]; done) | rfl
def Q3 (Z : State) (oo : Addr) (v0 v1 v2 v3 v4 : Value) (h0 : Heap) (n0 : Nat) (v : Option Value) (h : Heap) (L : List Loc) : Prop := v = none ∧ Fr n0 L ∧ Keep h0 h [oo] ∧ Fld Z h oo "com/example/kinds_by_value/kindsbyvalue/NameSet" "everyName" "Z" (.int (1 : Int32)) ∧ Fld Z h oo "com/example/kinds_by_value/kindsbyvalue/NameSet" "bits" "[J" .null ∧ Fld Z h oo "com/example/kinds_by_value/kindsbyvalue/NameSet" "table" "[I" .null ∧ Fld Z h oo "com/example/kinds_by_value/kindsbyvalue/NameSet" "size" "I" (.int (0 : Int32)) ∧ Fld Z h oo "com/example/kinds_by_value/kindsbyvalue/NameSet" "hash" "I" (.int (0 : Int32))
set_option maxRecDepth 65536 in
set_option maxHeartbeats 40000000 in
theorem rm3 (l : Launch) (Z : State) (a0 : Array Value) (hw : ∀ d ∈ tables_1, d.before a0 Z = true) (ws : List Jvm.Cond) (oo : Addr) (v0 v1 v2 v3 v4 : Value) (h0 : Heap) (n0 : Nat) (Z0 : n0 ≤ h0.size) (E0 : Exa Z h0 oo "com/example/kinds_by_value/kindsbyvalue/NameSet") (f0 : Fld Z h0 oo "com/example/kinds_by_value/kindsbyvalue/NameSet" "everyName" "Z" v0) (f1 : Fld Z h0 oo "com/example/kinds_by_value/kindsbyvalue/NameSet" "bits" "[J" v1) (f2 : Fld Z h0 oo "com/example/kinds_by_value/kindsbyvalue/NameSet" "table" "[I" v2) (f3 : Fld Z h0 oo "com/example/kinds_by_value/kindsbyvalue/NameSet" "size" "I" v3) (f4 : Fld Z h0 oo "com/example/kinds_by_value/kindsbyvalue/NameSet" "hash" "I" v4) (g0 : n0 ≤ oo) :
    MetFree l (⟨"com/example/kinds_by_value/kindsbyvalue/NameSet", "addEveryName", "()V"⟩ : MethodName) (head1 (Jvm.Cond.code (⟨"com/example/kinds_by_value/kindsbyvalue/NameSet", "addEveryName", "()V"⟩ : MethodName) prog_9_method_4_code 1 none :: ws) ({ frames := 0, cells := 0, slots := 0, locals := 0 } : Room)) (fun a U => a = #[(.ref oo)] ∧ Z.Warmed39 U.vm ∧ U.heap = h0) (fun _ _ _ _ _ => True) (fun _ U o U' => ∃ v L, o = .returned v ∧ Q3 Z oo v0 v1 v2 v3 v4 h0 n0 v U'.heap L ∧ FrameEnd U o U' L ({ frames := 0, cells := 0, slots := 0, locals := 0 } : Room).cells ({ frames := 0, cells := 0, slots := 0, locals := 0 } : Room).slots) := by
  refine MetFree.of_bodySF (plainFor_of_name pn_2) hisR ?_
  intro p e s m args below meth c s₁ Bd hml0 hP hK
  obtain ⟨rfl, hZ, hh⟩ := hP
  have hx := Bd.exec
  have hby := Bd.bytes
  have hlk : meth.locks = false := BodyLoose.notSynchronized Bd
  have hret := Bd.returns
  have hml : c.maxLocals = 1 := hml0
  have hown : s.vm.findClass "com/example/kinds_by_value/kindsbyvalue/NameSet" = some m.cls := findClass_of_methodNamed Bd.named
  have hnm := (name_of_methodNamed Bd.named Bd.method).1
  have X0 : Stand p l e ({ frames := 0, cells := 0, slots := 0, locals := 0 } : Room) s m #[(.ref oo)] below meth c s₁ [] 0 0 := Stand.of_body Bd
  have e0 : s₁.heap = h0 := by rw [← hh, Bd.state]; rfl
  have N0 := Fr.nil n0
  show own_Ends p e below s 0 0 (Q3 Z oo v0 v1 v2 v3 v4 h0 n0) (s₁.setTop (entryFrame m #[(.ref oo)] 1))
  refine own_step (fun t k => castTop (ef_rm3 m oo) k) ?_
  show own_Ends p e below s _ _ _ (s₁.setTop (mkF m 0 #[.val (.ref oo)] []))
  refine own_step (fun _ kc_ => XS.aloadN X0.here hx rfl (hb hby d3_0) rfl rfl (XS.iconst X0.here hx rfl (hb hby d3_1) kc_)) ?_
  show own_Ends p e below s _ _ _ (s₁.setTop (mkF m 2 #[.val (.ref oo)] [(.int (1 : Int32)), (.ref oo)]))
  obtain ⟨T28, h28, X28, e28, W28, st28⟩ := putFN X0 hx hZ hown (hw _ (List.mem_of_getElem? (i := 17) rfl)) Via.refl e0 f0 E0 (Or.inl (hw _ (List.mem_of_getElem? (i := 18) rfl))) (hw _ (List.mem_of_getElem? (i := 1) rfl)) (ty := .boolean) (v' := (.int (1 : Int32))) (by decide) rfl rfl (g := (mkF m 2 #[.val (.ref oo)] [(.int (1 : Int32)), (.ref oo)])) rfl rfl (hb hby d3_2)
  have E_oo_28 := (E0).wr W28
  have F_oo_everyName_28 := (f0).same W28
  have F_oo_bits_28 := (f1).other W28 (Or.inr (slot_ne (Or.inl (hw _ (List.mem_of_getElem? (i := 11) rfl))) (Or.inl (hw _ (List.mem_of_getElem? (i := 18) rfl))) (by decide) (t := (.array .long)) (t' := .boolean) (by decide) (by decide)))
  have F_oo_table_28 := (f2).other W28 (Or.inr (slot_ne (Or.inl (hw _ (List.mem_of_getElem? (i := 20) rfl))) (Or.inl (hw _ (List.mem_of_getElem? (i := 18) rfl))) (by decide) (t := (.array .int)) (t' := .boolean) (by decide) (by decide)))
  have F_oo_size_28 := (f3).other W28 (Or.inr (slot_ne (Or.inl (hw _ (List.mem_of_getElem? (i := 22) rfl))) (Or.inl (hw _ (List.mem_of_getElem? (i := 18) rfl))) (by decide) (t := .int) (t' := .boolean) (by decide) (by decide)))
  have F_oo_hash_28 := (f4).other W28 (Or.inr (slot_ne (Or.inl (hw _ (List.mem_of_getElem? (i := 24) rfl))) (Or.inl (hw _ (List.mem_of_getElem? (i := 18) rfl))) (by decide) (t := .int) (t' := .boolean) (by decide) (by decide)))
  have K28 := ((Keep.refl h0 [oo])).wr W28 (Or.inl (List.mem_of_getElem? (i := 0) rfl))
  have Zs28 := Nat.le_trans Z0 (Nat.le_of_eq W28.size.symm)
  have N28 := Fr.snoc X28 N0 g0
  refine own_step (fun _ kc_ => st28 _ kc_) ?_
  show own_Ends p e below s _ _ _ (T28.setTop (mkF m 5 #[.val (.ref oo)] []))
  refine own_step (fun _ kc_ => XS.aloadN X28.here hx rfl (hb hby d3_5) rfl rfl (XS.aconstNull X28.here hx rfl (hb hby d3_6) kc_)) ?_
  show own_Ends p e below s _ _ _ (T28.setTop (mkF m 7 #[.val (.ref oo)] [.null, (.ref oo)]))
  obtain ⟨T29, h29, X29, e29, W29, st29⟩ := putF X28 hx hZ hown (host := "") (Or.inl (hw _ (List.mem_of_getElem? (i := 10) rfl))) Via.refl e28 F_oo_bits_28 E_oo_28 (Or.inl (hw _ (List.mem_of_getElem? (i := 11) rfl))) (hw _ (List.mem_of_getElem? (i := 1) rfl)) (ty := (.array .long)) (by decide) rfl rfl (g := (mkF m 7 #[.val (.ref oo)] [.null, (.ref oo)])) rfl rfl (hb hby d3_7)
  have E_oo_29 := (E_oo_28).wr W29
  have F_oo_everyName_29 := (F_oo_everyName_28).other W29 (Or.inr (slot_ne (Or.inl (hw _ (List.mem_of_getElem? (i := 18) rfl))) (Or.inl (hw _ (List.mem_of_getElem? (i := 11) rfl))) (by decide) (t := .boolean) (t' := (.array .long)) (by decide) (by decide)))
  have F_oo_bits_29 := (F_oo_bits_28).same W29
  have F_oo_table_29 := (F_oo_table_28).other W29 (Or.inr (slot_ne (Or.inl (hw _ (List.mem_of_getElem? (i := 20) rfl))) (Or.inl (hw _ (List.mem_of_getElem? (i := 11) rfl))) (by decide) (t := (.array .int)) (t' := (.array .long)) (by decide) (by decide)))
  have F_oo_size_29 := (F_oo_size_28).other W29 (Or.inr (slot_ne (Or.inl (hw _ (List.mem_of_getElem? (i := 22) rfl))) (Or.inl (hw _ (List.mem_of_getElem? (i := 11) rfl))) (by decide) (t := .int) (t' := (.array .long)) (by decide) (by decide)))
  have F_oo_hash_29 := (F_oo_hash_28).other W29 (Or.inr (slot_ne (Or.inl (hw _ (List.mem_of_getElem? (i := 24) rfl))) (Or.inl (hw _ (List.mem_of_getElem? (i := 11) rfl))) (by decide) (t := .int) (t' := (.array .long)) (by decide) (by decide)))
  have K29 := (K28).wr W29 (Or.inl (List.mem_of_getElem? (i := 0) rfl))
  have Zs29 := Nat.le_trans Zs28 (Nat.le_of_eq W29.size.symm)
  have N29 := Fr.snoc X29 N28 g0
  refine own_step (fun _ kc_ => st29 _ kc_) ?_
  show own_Ends p e below s _ _ _ (T29.setTop (mkF m 10 #[.val (.ref oo)] []))
  refine own_step (fun _ kc_ => XS.aloadN X29.here hx rfl (hb hby d3_10) rfl rfl (XS.aconstNull X29.here hx rfl (hb hby d3_11) kc_)) ?_
  show own_Ends p e below s _ _ _ (T29.setTop (mkF m 12 #[.val (.ref oo)] [.null, (.ref oo)]))
  obtain ⟨T30, h30, X30, e30, W30, st30⟩ := putF X29 hx hZ hown (host := "") (Or.inl (hw _ (List.mem_of_getElem? (i := 19) rfl))) Via.refl e29 F_oo_table_29 E_oo_29 (Or.inl (hw _ (List.mem_of_getElem? (i := 20) rfl))) (hw _ (List.mem_of_getElem? (i := 1) rfl)) (ty := (.array .int)) (by decide) rfl rfl (g := (mkF m 12 #[.val (.ref oo)] [.null, (.ref oo)])) rfl rfl (hb hby d3_12)
  have E_oo_30 := (E_oo_29).wr W30
  have F_oo_everyName_30 := (F_oo_everyName_29).other W30 (Or.inr (slot_ne (Or.inl (hw _ (List.mem_of_getElem? (i := 18) rfl))) (Or.inl (hw _ (List.mem_of_getElem? (i := 20) rfl))) (by decide) (t := .boolean) (t' := (.array .int)) (by decide) (by decide)))
  have F_oo_bits_30 := (F_oo_bits_29).other W30 (Or.inr (slot_ne (Or.inl (hw _ (List.mem_of_getElem? (i := 11) rfl))) (Or.inl (hw _ (List.mem_of_getElem? (i := 20) rfl))) (by decide) (t := (.array .long)) (t' := (.array .int)) (by decide) (by decide)))
  have F_oo_table_30 := (F_oo_table_29).same W30
  have F_oo_size_30 := (F_oo_size_29).other W30 (Or.inr (slot_ne (Or.inl (hw _ (List.mem_of_getElem? (i := 22) rfl))) (Or.inl (hw _ (List.mem_of_getElem? (i := 20) rfl))) (by decide) (t := .int) (t' := (.array .int)) (by decide) (by decide)))
  have F_oo_hash_30 := (F_oo_hash_29).other W30 (Or.inr (slot_ne (Or.inl (hw _ (List.mem_of_getElem? (i := 24) rfl))) (Or.inl (hw _ (List.mem_of_getElem? (i := 20) rfl))) (by decide) (t := .int) (t' := (.array .int)) (by decide) (by decide)))
  have K30 := (K29).wr W30 (Or.inl (List.mem_of_getElem? (i := 0) rfl))
  have Zs30 := Nat.le_trans Zs29 (Nat.le_of_eq W30.size.symm)
  have N30 := Fr.snoc X30 N29 g0
  refine own_step (fun _ kc_ => st30 _ kc_) ?_
  show own_Ends p e below s _ _ _ (T30.setTop (mkF m 15 #[.val (.ref oo)] []))
  refine own_step (fun _ kc_ => XS.aloadN X30.here hx rfl (hb hby d3_15) rfl rfl (XS.iconst X30.here hx rfl (hb hby d3_16) kc_)) ?_
  show own_Ends p e below s _ _ _ (T30.setTop (mkF m 17 #[.val (.ref oo)] [(.int (0 : Int32)), (.ref oo)]))
  obtain ⟨T31, h31, X31, e31, W31, st31⟩ := putF X30 hx hZ hown (host := "") (Or.inl (hw _ (List.mem_of_getElem? (i := 21) rfl))) Via.refl e30 F_oo_size_30 E_oo_30 (Or.inl (hw _ (List.mem_of_getElem? (i := 22) rfl))) (hw _ (List.mem_of_getElem? (i := 1) rfl)) (ty := .int) (by decide) rfl rfl (g := (mkF m 17 #[.val (.ref oo)] [(.int (0 : Int32)), (.ref oo)])) rfl rfl (hb hby d3_17)
  have E_oo_31 := (E_oo_30).wr W31
  have F_oo_everyName_31 := (F_oo_everyName_30).other W31 (Or.inr (slot_ne (Or.inl (hw _ (List.mem_of_getElem? (i := 18) rfl))) (Or.inl (hw _ (List.mem_of_getElem? (i := 22) rfl))) (by decide) (t := .boolean) (t' := .int) (by decide) (by decide)))
  have F_oo_bits_31 := (F_oo_bits_30).other W31 (Or.inr (slot_ne (Or.inl (hw _ (List.mem_of_getElem? (i := 11) rfl))) (Or.inl (hw _ (List.mem_of_getElem? (i := 22) rfl))) (by decide) (t := (.array .long)) (t' := .int) (by decide) (by decide)))
  have F_oo_table_31 := (F_oo_table_30).other W31 (Or.inr (slot_ne (Or.inl (hw _ (List.mem_of_getElem? (i := 20) rfl))) (Or.inl (hw _ (List.mem_of_getElem? (i := 22) rfl))) (by decide) (t := (.array .int)) (t' := .int) (by decide) (by decide)))
  have F_oo_size_31 := (F_oo_size_30).same W31
  have F_oo_hash_31 := (F_oo_hash_30).other W31 (Or.inr (slot_ne (Or.inl (hw _ (List.mem_of_getElem? (i := 24) rfl))) (Or.inl (hw _ (List.mem_of_getElem? (i := 22) rfl))) (by decide) (t := .int) (t' := .int) (by decide) (by decide)))
  have K31 := (K30).wr W31 (Or.inl (List.mem_of_getElem? (i := 0) rfl))
  have Zs31 := Nat.le_trans Zs30 (Nat.le_of_eq W31.size.symm)
  have N31 := Fr.snoc X31 N30 g0
  refine own_step (fun _ kc_ => st31 _ kc_) ?_
  show own_Ends p e below s _ _ _ (T31.setTop (mkF m 20 #[.val (.ref oo)] []))
  refine own_step (fun _ kc_ => XS.aloadN X31.here hx rfl (hb hby d3_20) rfl rfl (XS.iconst X31.here hx rfl (hb hby d3_21) kc_)) ?_
  show own_Ends p e below s _ _ _ (T31.setTop (mkF m 22 #[.val (.ref oo)] [(.int (0 : Int32)), (.ref oo)]))
  obtain ⟨T32, h32, X32, e32, W32, st32⟩ := putF X31 hx hZ hown (host := "") (Or.inl (hw _ (List.mem_of_getElem? (i := 23) rfl))) Via.refl e31 F_oo_hash_31 E_oo_31 (Or.inl (hw _ (List.mem_of_getElem? (i := 24) rfl))) (hw _ (List.mem_of_getElem? (i := 1) rfl)) (ty := .int) (by decide) rfl rfl (g := (mkF m 22 #[.val (.ref oo)] [(.int (0 : Int32)), (.ref oo)])) rfl rfl (hb hby d3_22)
  have E_oo_32 := (E_oo_31).wr W32
  have F_oo_everyName_32 := (F_oo_everyName_31).other W32 (Or.inr (slot_ne (Or.inl (hw _ (List.mem_of_getElem? (i := 18) rfl))) (Or.inl (hw _ (List.mem_of_getElem? (i := 24) rfl))) (by decide) (t := .boolean) (t' := .int) (by decide) (by decide)))
  have F_oo_bits_32 := (F_oo_bits_31).other W32 (Or.inr (slot_ne (Or.inl (hw _ (List.mem_of_getElem? (i := 11) rfl))) (Or.inl (hw _ (List.mem_of_getElem? (i := 24) rfl))) (by decide) (t := (.array .long)) (t' := .int) (by decide) (by decide)))
  have F_oo_table_32 := (F_oo_table_31).other W32 (Or.inr (slot_ne (Or.inl (hw _ (List.mem_of_getElem? (i := 20) rfl))) (Or.inl (hw _ (List.mem_of_getElem? (i := 24) rfl))) (by decide) (t := (.array .int)) (t' := .int) (by decide) (by decide)))
  have F_oo_size_32 := (F_oo_size_31).other W32 (Or.inr (slot_ne (Or.inl (hw _ (List.mem_of_getElem? (i := 22) rfl))) (Or.inl (hw _ (List.mem_of_getElem? (i := 24) rfl))) (by decide) (t := .int) (t' := .int) (by decide) (by decide)))
  have F_oo_hash_32 := (F_oo_hash_31).same W32
  have K32 := (K31).wr W32 (Or.inl (List.mem_of_getElem? (i := 0) rfl))
  have Zs32 := Nat.le_trans Zs31 (Nat.le_of_eq W32.size.symm)
  have N32 := Fr.snoc X32 N31 g0
  refine own_step (fun _ kc_ => st32 _ kc_) ?_
  show own_Ends p e below s _ _ _ (T32.setTop (mkF m 25 #[.val (.ref oo)] []))
  exact own_retV X32 hx hret hlk (hb hby d3_25) (by decide) (by decide) (by rw [e32]; exact ⟨rfl, N32, K32, F_oo_everyName_32, F_oo_bits_32, F_oo_table_32, F_oo_size_32, F_oo_hash_32⟩)
set_option maxRecDepth 65536 in
set_option maxHeartbeats 40000000 in
theorem own_ploop {p : Program} {l : Launch} {e : Env} {s : State} {m : MethodId} {below : List Frame} {meth : Method} {c : Code} {Z : State} {a0 : Array Value} (hw : ∀ d ∈ tables_1, d.before a0 Z = true) (hZ : Z.Warmed39 s.vm) (hx : p.tables.exec = Jvm.exec) (hby : c.code = prog_9_method_10_code) (hlk : meth.locks = false) (hret : meth.sig.returnType = some .int) (hml : c.maxLocals = 4) (hown : s.vm.findClass "com/example/kinds_by_value/kindsbyvalue/NameSet" = some m.cls)
    {args : Array Value} {R : Room} {C S : Nat} {Q : Option Value → Heap → List Loc → Prop} {h0 : Heap} {n0 : Nat} {oo ta : Addr} {x : Int32} {ts : List Int32} {k : Nat} (fT : Fld Z h0 oo "com/example/kinds_by_value/kindsbyvalue/NameSet" "table" "[I" (.ref ta)) (A0 : own_Ar Z h0 ta .int (ts.map Value.int)) (hl : ts.length = 16) (hf : own_fin ts x k) (hq : ∀ L, Fr n0 L → Q (some (.int (Int32.ofNat (own_pl x k)))) h0 L) :
    ∀ (r j : Nat) (hj : j + r = k) {T : State} {locs : List Loc} {cells slots : Nat} (hcc : cells ≤ C) (hss : slots ≤ S) (X : Stand p l e R s m args below meth c T locs cells slots) (e0 : T.heap = h0) (N0 : Fr n0 locs),
      own_Ends p e below s C S Q (T.setTop (mkF m 15 #[.val (.ref oo), .val (.int x), .val (.int (15 : Int32)), .val (.int (Int32.ofNat (own_pl x j)))] [])) := by
  intro r
  induction r with
  | zero =>
    intro j hj T locs cells slots hcc hss X e0 N0
    have hjk : j = k := by omega
    subst hjk
    show own_Ends p e below s _ _ _ (T.setTop (mkF m 15 #[.val (.ref oo), .val (.int x), .val (.int (15 : Int32)), .val (.int (Int32.ofNat (own_pl x j)))] []))
    refine own_step (fun _ kc_ => XS.aloadN X.here hx rfl (hb hby d17_15) rfl rfl kc_) ?_
    show own_Ends p e below s _ _ _ (T.setTop (mkF m 16 #[.val (.ref oo), .val (.int x), .val (.int (15 : Int32)), .val (.int (Int32.ofNat (own_pl x j)))] [(.ref oo)]))
    obtain ⟨T33, X33, e33, st33⟩ := getF X hx hZ hown (host := "") (Or.inl (hw _ (List.mem_of_getElem? (i := 19) rfl))) Via.refl e0 fT (g := (mkF m 16 #[.val (.ref oo), .val (.int x), .val (.int (15 : Int32)), .val (.int (Int32.ofNat (own_pl x j)))] [(.ref oo)])) rfl rfl (hb hby d17_16)
    refine own_step (fun _ kc_ => st33 _ kc_) ?_
    show own_Ends p e below s _ _ _ (T33.setTop (mkF m 19 #[.val (.ref oo), .val (.int x), .val (.int (15 : Int32)), .val (.int (Int32.ofNat (own_pl x j)))] [(.ref ta)]))
    refine own_step (fun _ kc_ => XS.iloadN X33.here hx rfl (hb hby d17_19) rfl (own_iaload X33 hx hZ e33 A0 (j := (Int32.ofNat (own_pl x j))) (own_nn (own_pl_lt31 x j)) (i := own_pl x j) (own_nc (own_pl_lt31 x j)) (v := (.int (own_pr ts x j))) (own_rd hl x j) (hb hby d17_20) _ (XS.iloadN X33.here hx rfl (hb hby d17_21) rfl kc_))) ?_
    show own_Ends p e below s _ _ _ (T33.setTop (mkF m 22 #[.val (.ref oo), .val (.int x), .val (.int (15 : Int32)), .val (.int (Int32.ofNat (own_pl x j)))] [(.int x), (.int (own_pr ts x j))]))
    by_cases hc22 : (own_pr ts x j) = x
    · refine own_step (fun _ kc_ => XS.icmpYes X33.here hx rfl (pc0 := 22) (pc' := 44) rfl (hb hby d17_22) rfl (XT.ii_eq_t hc22) (by decide) (by decide) (XS.iloadN X33.here hx rfl (hb hby d17_44) rfl kc_)) ?_
      show own_Ends p e below s _ _ _ (T33.setTop (mkF m 45 #[.val (.ref oo), .val (.int x), .val (.int (15 : Int32)), .val (.int (Int32.ofNat (own_pl x j)))] [(.int (Int32.ofNat (own_pl x j)))]))
      exact own_retI X33 hx hret hlk (hb hby d17_45) hcc hss (by rw [e33]; exact hq _ N0)
    · refine own_step (fun _ kc_ => XS.icmpNo X33.here hx rfl (hb hby d17_22) rfl (XT.ii_eq_f hc22) (XS.aloadN X33.here hx rfl (hb hby d17_25) rfl rfl kc_)) ?_
      show own_Ends p e below s _ _ _ (T33.setTop (mkF m 26 #[.val (.ref oo), .val (.int x), .val (.int (15 : Int32)), .val (.int (Int32.ofNat (own_pl x j)))] [(.ref oo)]))
      obtain ⟨T34, X34, e34, st34⟩ := getF X33 hx hZ hown (host := "") (Or.inl (hw _ (List.mem_of_getElem? (i := 19) rfl))) Via.refl e33 fT (g := (mkF m 26 #[.val (.ref oo), .val (.int x), .val (.int (15 : Int32)), .val (.int (Int32.ofNat (own_pl x j)))] [(.ref oo)])) rfl rfl (hb hby d17_26)
      refine own_step (fun _ kc_ => st34 _ kc_) ?_
      show own_Ends p e below s _ _ _ (T34.setTop (mkF m 29 #[.val (.ref oo), .val (.int x), .val (.int (15 : Int32)), .val (.int (Int32.ofNat (own_pl x j)))] [(.ref ta)]))
      refine own_step (fun _ kc_ => XS.iloadN X34.here hx rfl (hb hby d17_29) rfl (own_iaload X34 hx hZ e34 A0 (j := (Int32.ofNat (own_pl x j))) (own_nn (own_pl_lt31 x j)) (i := own_pl x j) (own_nc (own_pl_lt31 x j)) (v := (.int (own_pr ts x j))) (own_rd hl x j) (hb hby d17_30) _ (XS.iconst X34.here hx rfl (hb hby d17_31) (XS.icmpYes X34.here hx rfl (pc0 := 32) (pc' := 44) rfl (hb hby d17_32) rfl (XT.ii_eq_t (hf.1.resolve_left hc22 : (own_pr ts x j) = (-1 : Int32))) (by decide) (by decide) (XS.iloadN X34.here hx rfl (hb hby d17_44) rfl kc_))))) ?_
      show own_Ends p e below s _ _ _ (T34.setTop (mkF m 45 #[.val (.ref oo), .val (.int x), .val (.int (15 : Int32)), .val (.int (Int32.ofNat (own_pl x j)))] [(.int (Int32.ofNat (own_pl x j)))]))
      exact own_retI X34 hx hret hlk (hb hby d17_45) hcc hss (by rw [e34]; exact hq _ N0)
  | succ r ih =>
    intro j hj T locs cells slots hcc hss X e0 N0
    show own_Ends p e below s _ _ _ (T.setTop (mkF m 15 #[.val (.ref oo), .val (.int x), .val (.int (15 : Int32)), .val (.int (Int32.ofNat (own_pl x j)))] []))
    refine own_step (fun _ kc_ => XS.aloadN X.here hx rfl (hb hby d17_15) rfl rfl kc_) ?_
    show own_Ends p e below s _ _ _ (T.setTop (mkF m 16 #[.val (.ref oo), .val (.int x), .val (.int (15 : Int32)), .val (.int (Int32.ofNat (own_pl x j)))] [(.ref oo)]))
    obtain ⟨T35, X35, e35, st35⟩ := getF X hx hZ hown (host := "") (Or.inl (hw _ (List.mem_of_getElem? (i := 19) rfl))) Via.refl e0 fT (g := (mkF m 16 #[.val (.ref oo), .val (.int x), .val (.int (15 : Int32)), .val (.int (Int32.ofNat (own_pl x j)))] [(.ref oo)])) rfl rfl (hb hby d17_16)
    refine own_step (fun _ kc_ => st35 _ kc_) ?_
    show own_Ends p e below s _ _ _ (T35.setTop (mkF m 19 #[.val (.ref oo), .val (.int x), .val (.int (15 : Int32)), .val (.int (Int32.ofNat (own_pl x j)))] [(.ref ta)]))
    refine own_step (fun _ kc_ => XS.iloadN X35.here hx rfl (hb hby d17_19) rfl (own_iaload X35 hx hZ e35 A0 (j := (Int32.ofNat (own_pl x j))) (own_nn (own_pl_lt31 x j)) (i := own_pl x j) (own_nc (own_pl_lt31 x j)) (v := (.int (own_pr ts x j))) (own_rd hl x j) (hb hby d17_20) _ (XS.iloadN X35.here hx rfl (hb hby d17_21) rfl (XS.icmpNo X35.here hx rfl (hb hby d17_22) rfl (XT.ii_eq_f ((hf.2 j (by omega)).1 : ¬ ((own_pr ts x j) = x))) (XS.aloadN X35.here hx rfl (hb hby d17_25) rfl rfl kc_))))) ?_
    show own_Ends p e below s _ _ _ (T35.setTop (mkF m 26 #[.val (.ref oo), .val (.int x), .val (.int (15 : Int32)), .val (.int (Int32.ofNat (own_pl x j)))] [(.ref oo)]))
    obtain ⟨T36, X36, e36, st36⟩ := getF X35 hx hZ hown (host := "") (Or.inl (hw _ (List.mem_of_getElem? (i := 19) rfl))) Via.refl e35 fT (g := (mkF m 26 #[.val (.ref oo), .val (.int x), .val (.int (15 : Int32)), .val (.int (Int32.ofNat (own_pl x j)))] [(.ref oo)])) rfl rfl (hb hby d17_26)
    refine own_step (fun _ kc_ => st36 _ kc_) ?_
    show own_Ends p e below s _ _ _ (T36.setTop (mkF m 29 #[.val (.ref oo), .val (.int x), .val (.int (15 : Int32)), .val (.int (Int32.ofNat (own_pl x j)))] [(.ref ta)]))
    refine own_step (fun _ kc_ => XS.iloadN X36.here hx rfl (hb hby d17_29) rfl (own_iaload X36 hx hZ e36 A0 (j := (Int32.ofNat (own_pl x j))) (own_nn (own_pl_lt31 x j)) (i := own_pl x j) (own_nc (own_pl_lt31 x j)) (v := (.int (own_pr ts x j))) (own_rd hl x j) (hb hby d17_30) _ (XS.iconst X36.here hx rfl (hb hby d17_31) (XS.icmpNo X36.here hx rfl (hb hby d17_32) rfl (XT.ii_eq_f ((hf.2 j (by omega)).2 : ¬ ((own_pr ts x j) = (-1 : Int32)))) (XS.iloadN X36.here hx rfl (hb hby d17_35) rfl (XS.iconst X36.here hx rfl (hb hby d17_36) (XS.iadd X36.here hx rfl (hb hby d17_37) rfl (XS.iloadN X36.here hx rfl (hb hby d17_38) rfl kc_)))))))) ?_
    show own_Ends p e below s _ _ _ (T36.setTop (mkF m 39 #[.val (.ref oo), .val (.int x), .val (.int (15 : Int32)), .val (.int (Int32.ofNat (own_pl x j)))] [(.int (15 : Int32)), (.int ((Int32.ofNat (own_pl x j)) + (1 : Int32)))]))
    refine own_step (fun _ kc_ => XS.iand X36.here hx rfl (hb hby d17_39) rfl (XS.istoreN X36.here hx rfl (hb hby d17_40) rfl (l' := #[.val (.ref oo), .val (.int x), .val (.int (15 : Int32)), .val (.int (((Int32.ofNat (own_pl x j)) + (1 : Int32)) &&& (15 : Int32)))]) rfl (XS.goto X36.here hx rfl (pc0 := 41) (pc' := 15) rfl (hb hby d17_41) (by decide) (by decide) kc_))) ?_
    show own_Ends p e below s _ _ _ (T36.setTop (mkF m 15 #[.val (.ref oo), .val (.int x), .val (.int (15 : Int32)), .val (.int (((Int32.ofNat (own_pl x j)) + (1 : Int32)) &&& (15 : Int32)))] []))
    rw [own_nextpl x j]
    exact ih (j + 1) (by omega) hcc hss X36 e36 N0
theorem ef_rm17 (m : MethodId) (oo : Addr) (x : Int32) : entryFrame m #[(.ref oo), (.int x)] 4 = mkF m 0 #[.val (.ref oo), .val (.int x), .unset, .unset] [] := by first | (simp [entryFrame, mkF, argsToLocals, Value.category]; done) | rfl
def Q17 (Z : State) (oo : Addr) (x : Int32) (ta : Addr) (ts : List Int32) (k : Nat) (h0 : Heap) (n0 : Nat) (v : Option Value) (h : Heap) (L : List Loc) : Prop := v = some (.int (Int32.ofNat (own_pl x k))) ∧ Fr n0 L ∧ h = h0
set_option maxRecDepth 65536 in
set_option maxHeartbeats 40000000 in
theorem rm17 (l : Launch) (Z : State) (a0 : Array Value) (hw : ∀ d ∈ tables_1, d.before a0 Z = true) (ws : List Jvm.Cond) (oo : Addr) (x : Int32) (ta : Addr) (ts : List Int32) (k : Nat) (h0 : Heap) (n0 : Nat) (Z0 : n0 ≤ h0.size) (fT : Fld Z h0 oo "com/example/kinds_by_value/kindsbyvalue/NameSet" "table" "[I" (.ref ta)) (A0 : own_Ar Z h0 ta .int (ts.map Value.int)) (hl : ts.length = 16) (hf : own_fin ts x k) :
    MetFree l (⟨"com/example/kinds_by_value/kindsbyvalue/NameSet", "placeOf", "(I)I"⟩ : MethodName) (head1 (Jvm.Cond.code (⟨"com/example/kinds_by_value/kindsbyvalue/NameSet", "placeOf", "(I)I"⟩ : MethodName) prog_9_method_10_code 4 (some .int) :: ws) ({ frames := 1, cells := 0, slots := 0, locals := 13 } : Room)) (fun a U => a = #[(.ref oo), (.int x)] ∧ Z.Warmed39 U.vm ∧ U.heap = h0) (fun _ _ _ _ _ => True) (fun _ U o U' => ∃ v L, o = .returned v ∧ Q17 Z oo x ta ts k h0 n0 v U'.heap L ∧ FrameEnd U o U' L ({ frames := 1, cells := 0, slots := 0, locals := 13 } : Room).cells ({ frames := 1, cells := 0, slots := 0, locals := 13 } : Room).slots) := by
  refine MetFree.of_bodySF (plainFor_of_name pn_2) hisR ?_
  intro p e s m args below meth c s₁ Bd hml0 hP hK
  obtain ⟨rfl, hZ, hh⟩ := hP
  have hx := Bd.exec
  have hby := Bd.bytes
  have hlk : meth.locks = false := BodyLoose.notSynchronized Bd
  have hret := Bd.returns
  have hml : c.maxLocals = 4 := hml0
  have hown : s.vm.findClass "com/example/kinds_by_value/kindsbyvalue/NameSet" = some m.cls := findClass_of_methodNamed Bd.named
  have hnm := (name_of_methodNamed Bd.named Bd.method).1
  have X0 : Stand p l e ({ frames := 1, cells := 0, slots := 0, locals := 13 } : Room) s m #[(.ref oo), (.int x)] below meth c s₁ [] 0 0 := Stand.of_body Bd
  have e0 : s₁.heap = h0 := by rw [← hh, Bd.state]; rfl
  have N0 := Fr.nil n0
  show own_Ends p e below s 0 0 (Q17 Z oo x ta ts k h0 n0) (s₁.setTop (entryFrame m #[(.ref oo), (.int x)] 4))
  refine own_step (fun t k => castTop (ef_rm17 m oo x) k) ?_
  show own_Ends p e below s _ _ _ (s₁.setTop (mkF m 0 #[.val (.ref oo), .val (.int x), .unset, .unset] []))
  refine own_step (fun _ kc_ => XS.aloadN X0.here hx rfl (hb hby d17_0) rfl rfl kc_) ?_
  show own_Ends p e below s _ _ _ (s₁.setTop (mkF m 1 #[.val (.ref oo), .val (.int x), .unset, .unset] [(.ref oo)]))
  obtain ⟨T37, X37, e37, st37⟩ := getF X0 hx hZ hown (host := "") (Or.inl (hw _ (List.mem_of_getElem? (i := 19) rfl))) Via.refl e0 fT (g := (mkF m 1 #[.val (.ref oo), .val (.int x), .unset, .unset] [(.ref oo)])) rfl rfl (hb hby d17_1)
  refine own_step (fun _ kc_ => st37 _ kc_) ?_
  show own_Ends p e below s _ _ _ (T37.setTop (mkF m 4 #[.val (.ref oo), .val (.int x), .unset, .unset] [(.ref ta)]))
  refine own_step (fun _ kc_ => own_alen X37 hx hZ e37 A0 (n := 16) (z := (16 : Int32)) (by rw [List.length_map]; exact hl) rfl (hb hby d17_4) _ (XS.iconst X37.here hx rfl (hb hby d17_5) (XS.isub X37.here hx rfl (hb hby d17_6) rfl kc_))) ?_
  show own_Ends p e below s _ _ _ (T37.setTop (mkF m 7 #[.val (.ref oo), .val (.int x), .unset, .unset] [(.int ((16 : Int32) - (1 : Int32)))]))
  rw [show ((16 : Int32) - (1 : Int32)) = (15 : Int32) from by decide]
  show own_Ends p e below s _ _ _ (T37.setTop (mkF m 7 #[.val (.ref oo), .val (.int x), .unset, .unset] [(.int (15 : Int32))]))
  refine own_step (fun _ kc_ => XS.istoreN X37.here hx rfl (hb hby d17_7) rfl (l' := #[.val (.ref oo), .val (.int x), .val (.int (15 : Int32)), .unset]) rfl (XS.iloadN X37.here hx rfl (hb hby d17_8) rfl kc_)) ?_
  show own_Ends p e below s _ _ _ (T37.setTop (mkF m 9 #[.val (.ref oo), .val (.int x), .val (.int (15 : Int32)), .unset] [(.int x)]))
  obtain ⟨_, _, ⟨T38, L38, k38, n38⟩, -, X38, ⟨Lc38, hQ38, l38, y38, z38⟩, st38⟩ := Jvm.LawKit.callS X37 hx (y := (⟨"com/example/kinds_by_value/kindsbyvalue/Hashes", "spread", "(I)I"⟩ : MethodName)) hown (mvT hZ (hw _ (List.mem_of_getElem? (i := 74) rfl))) (mvT hZ (hw _ (List.mem_of_getElem? (i := 75) rfl))) (mvT hZ (hw _ (List.mem_of_getElem? (i := 76) rfl))) (mvT hZ (hw _ (List.mem_of_getElem? (i := 77) rfl))) (by decide) (backOf (W := 0) (rm13 l Z a0 hw [] x  h0 n0 Z0 ) hZ (hw _ (List.mem_of_getElem? (i := 77) rfl)) (hw _ (List.mem_of_getElem? (i := 76) rfl)) (by decide) (by decide)) (g := (mkF m 9 #[.val (.ref oo), .val (.int x), .val (.int (15 : Int32)), .unset] [(.int x)])) rfl (by rw [hml]; rfl) (argsL := [(.int x)]) (rest := []) (lenOf pd_3 rfl) rfl (by show 2 * 0 + _ ≤ _; exact Nat.le_of_eq rfl) (hb hby d17_9) (fun _ _ => ⟨rfl, e37, (by decide : 0 + 0 ≤ _), (by decide : 0 + 0 ≤ _)⟩)
  dsimp only [Pt.U, Pt.locs, Pt.cells, Pt.slots] at X38 l38 y38 z38 st38 hQ38
  subst y38 z38
  obtain ⟨rfl, N38q, e38⟩ := hQ38
  have e38h : T38.heap = h0 := e38
  have N38 : Fr n0 L38 := by rw [l38]; exact Fr.app N0 N38q
  refine own_step (fun _ kc_ => st38 _ kc_) ?_
  show own_Ends p e below s _ _ _ (T38.setTop (mkF m 12 #[.val (.ref oo), .val (.int x), .val (.int (15 : Int32)), .unset] [(.int (own_sp x))]))
  refine own_step (fun _ kc_ => XS.iloadN X38.here hx rfl (hb hby d17_12) rfl (XS.iand X38.here hx rfl (hb hby d17_13) rfl (XS.istoreN X38.here hx rfl (hb hby d17_14) rfl (l' := #[.val (.ref oo), .val (.int x), .val (.int (15 : Int32)), .val (.int ((own_sp x) &&& (15 : Int32)))]) rfl kc_))) ?_
  show own_Ends p e below s _ _ _ (T38.setTop (mkF m 15 #[.val (.ref oo), .val (.int x), .val (.int (15 : Int32)), .val (.int ((own_sp x) &&& (15 : Int32)))] []))
  rw [show own_sp x &&& (15 : Int32) = Int32.ofNat (own_pl x 0) from own_pl0 x]
  exact own_ploop hw hZ hx hby hlk hret hml hown fT A0 hl hf (fun L hL => ⟨rfl, hL, rfl⟩) k 0 (by omega) (Nat.le_refl _) (Nat.le_refl _) X38 e38h N38
theorem ef_rmCT1 (m : MethodId) (oo : Addr) (x : Int32) : entryFrame m #[(.ref oo), (.int x)] 3 = mkF m 0 #[.val (.ref oo), .val (.int x), .unset] [] := by first | (simp [entryFrame, mkF, argsToLocals, Value.category]; done) | rfl
def QCT1 (Z : State) (oo : Addr) (x : Int32) (ta : Addr) (ts : List Int32) (k : Nat) (h0 : Heap) (n0 : Nat) (v : Option Value) (h : Heap) (L : List Loc) : Prop := v = some (.int (1 : Int32)) ∧ Fr n0 L ∧ h = h0
set_option maxRecDepth 65536 in
set_option maxHeartbeats 40000000 in
theorem rmCT1 (l : Launch) (Z : State) (a0 : Array Value) (hw : ∀ d ∈ tables_1, d.before a0 Z = true) (ws : List Jvm.Cond) (oo : Addr) (x : Int32) (ta : Addr) (ts : List Int32) (k : Nat) (h0 : Heap) (n0 : Nat) (Z0 : n0 ≤ h0.size) (E0 : Exa Z h0 oo "com/example/kinds_by_value/kindsbyvalue/NameSet") (f0 : Fld Z h0 oo "com/example/kinds_by_value/kindsbyvalue/NameSet" "everyName" "Z" (.int (0 : Int32))) (f1 : Fld Z h0 oo "com/example/kinds_by_value/kindsbyvalue/NameSet" "bits" "[J" .null) (f2 : Fld Z h0 oo "com/example/kinds_by_value/kindsbyvalue/NameSet" "table" "[I" (.ref ta)) (A0 : own_Ar Z h0 ta .int (ts.map Value.int)) (hl : ts.length = 16) (hf : own_fin ts x k) (hr : own_pr ts x k = x) :
    MetFree l (⟨"com/example/kinds_by_value/kindsbyvalue/NameSet", "contains", "(I)Z"⟩ : MethodName) (head1 (Jvm.Cond.code (⟨"com/example/kinds_by_value/kindsbyvalue/NameSet", "contains", "(I)Z"⟩ : MethodName) prog_9_method_2_code 3 (some .boolean) :: ws) ({ frames := 2, cells := 0, slots := 0, locals := 29 } : Room)) (fun a U => a = #[(.ref oo), (.int x)] ∧ Z.Warmed39 U.vm ∧ U.heap = h0) (fun _ _ _ _ _ => True) (fun _ U o U' => ∃ v L, o = .returned v ∧ QCT1 Z oo x ta ts k h0 n0 v U'.heap L ∧ FrameEnd U o U' L ({ frames := 2, cells := 0, slots := 0, locals := 29 } : Room).cells ({ frames := 2, cells := 0, slots := 0, locals := 29 } : Room).slots) := by
  refine MetFree.of_bodySF (plainFor_of_name pn_2) hisR ?_
  intro p e s m args below meth c s₁ Bd hml0 hP hK
  obtain ⟨rfl, hZ, hh⟩ := hP
  have hx := Bd.exec
  have hby := Bd.bytes
  have hlk : meth.locks = false := BodyLoose.notSynchronized Bd
  have hret := Bd.returns
  have hml : c.maxLocals = 3 := hml0
  have hown : s.vm.findClass "com/example/kinds_by_value/kindsbyvalue/NameSet" = some m.cls := findClass_of_methodNamed Bd.named
  have hnm := (name_of_methodNamed Bd.named Bd.method).1
  have X0 : Stand p l e ({ frames := 2, cells := 0, slots := 0, locals := 29 } : Room) s m #[(.ref oo), (.int x)] below meth c s₁ [] 0 0 := Stand.of_body Bd
  have e0 : s₁.heap = h0 := by rw [← hh, Bd.state]; rfl
  have N0 := Fr.nil n0
  show own_Ends p e below s 0 0 (QCT1 Z oo x ta ts k h0 n0) (s₁.setTop (entryFrame m #[(.ref oo), (.int x)] 3))
  refine own_step (fun t k => castTop (ef_rmCT1 m oo x) k) ?_
  show own_Ends p e below s _ _ _ (s₁.setTop (mkF m 0 #[.val (.ref oo), .val (.int x), .unset] []))
  refine own_step (fun _ kc_ => XS.aloadN X0.here hx rfl (hb hby d5_0) rfl rfl kc_) ?_
  show own_Ends p e below s _ _ _ (s₁.setTop (mkF m 1 #[.val (.ref oo), .val (.int x), .unset] [(.ref oo)]))
  obtain ⟨T39, X39, e39, st39⟩ := getF X0 hx hZ hown (host := "") (Or.inl (hw _ (List.mem_of_getElem? (i := 17) rfl))) Via.refl e0 f0 (g := (mkF m 1 #[.val (.ref oo), .val (.int x), .unset] [(.ref oo)])) rfl rfl (hb hby d5_1)
  refine own_step (fun _ kc_ => st39 _ kc_) ?_
  show own_Ends p e below s _ _ _ (T39.setTop (mkF m 4 #[.val (.ref oo), .val (.int x), .unset] [(.int (0 : Int32))]))
  refine own_step (fun _ kc_ => XS.ifYes X39.here hx rfl (pc0 := 4) (pc' := 12) rfl (hb hby d5_4) rfl (XT.i0_eq_t (by decide : (0 : Int32) = 0)) (by decide) (by decide) (XS.aloadN X39.here hx rfl (hb hby d5_12) rfl rfl kc_)) ?_
  show own_Ends p e below s _ _ _ (T39.setTop (mkF m 13 #[.val (.ref oo), .val (.int x), .unset] [(.ref oo)]))
  obtain ⟨T40, X40, e40, st40⟩ := getF X39 hx hZ hown (host := "") (Or.inl (hw _ (List.mem_of_getElem? (i := 10) rfl))) Via.refl e39 f1 (g := (mkF m 13 #[.val (.ref oo), .val (.int x), .unset] [(.ref oo)])) rfl rfl (hb hby d5_13)
  refine own_step (fun _ kc_ => st40 _ kc_) ?_
  show own_Ends p e below s _ _ _ (T40.setTop (mkF m 16 #[.val (.ref oo), .val (.int x), .unset] [.null]))
  refine own_step (fun _ kc_ => XS.ifnullYes X40.here hx rfl (pc0 := 16) (pc' := 46) rfl (hb hby d5_16) rfl (by decide) (by decide) (XS.aloadN X40.here hx rfl (hb hby d5_46) rfl rfl kc_)) ?_
  show own_Ends p e below s _ _ _ (T40.setTop (mkF m 47 #[.val (.ref oo), .val (.int x), .unset] [(.ref oo)]))
  obtain ⟨T41, X41, e41, st41⟩ := getF X40 hx hZ hown (host := "") (Or.inl (hw _ (List.mem_of_getElem? (i := 19) rfl))) Via.refl e40 f2 (g := (mkF m 47 #[.val (.ref oo), .val (.int x), .unset] [(.ref oo)])) rfl rfl (hb hby d5_47)
  refine own_step (fun _ kc_ => st41 _ kc_) ?_
  show own_Ends p e below s _ _ _ (T41.setTop (mkF m 50 #[.val (.ref oo), .val (.int x), .unset] [(.ref ta)]))
  refine own_step (fun _ kc_ => XS.aloadN X41.here hx rfl (hb hby d5_50) rfl rfl (XS.iloadN X41.here hx rfl (hb hby d5_51) rfl kc_)) ?_
  show own_Ends p e below s _ _ _ (T41.setTop (mkF m 52 #[.val (.ref oo), .val (.int x), .unset] [(.int x), (.ref oo), (.ref ta)]))
  obtain ⟨cq42, q42, q42'⟩ := (E0).cell
  obtain ⟨_, _, ⟨T42, L42, k42, n42⟩, -, X42, ⟨Lc42, hQ42, l42, y42, z42⟩, st42⟩ := X41.privateBack hx (y := (⟨"com/example/kinds_by_value/kindsbyvalue/NameSet", "placeOf", "(I)I"⟩ : MethodName)) hown (mvT hZ (hw _ (List.mem_of_getElem? (i := 90) rfl))) (mvT hZ (hw _ (List.mem_of_getElem? (i := 91) rfl))) (Jvm.Kit.selects_private (by decide) (mvT hZ (hw _ (List.mem_of_getElem? (i := 1) rfl))) (mvP hZ (hw _ (List.mem_of_getElem? (i := 92) rfl))) (mvT hZ (hw _ (List.mem_of_getElem? (i := 91) rfl)))) (Cond.privateMethod_at (mvP hZ (hw _ (List.mem_of_getElem? (i := 92) rfl)) (args := #[]))) (mvT hZ (hw _ (List.mem_of_getElem? (i := 93) rfl))) (by decide) (backOf (W := 1) (rm17 l Z a0 hw [] oo x ta ts k h0 n0 Z0 f2 A0 hl hf) hZ (hw _ (List.mem_of_getElem? (i := 93) rfl)) (hw _ (List.mem_of_getElem? (i := 2) rfl)) (by decide) (by decide)) (g := (mkF m 52 #[.val (.ref oo), .val (.int x), .unset] [(.int x), (.ref oo), (.ref ta)])) rfl (by rw [hml]; rfl) (Steps.refl _) (a := oo) (by rw [e41]; exact q42) q42' (argsL := [(.int x)]) (rest := [(.ref ta)]) (lenOf pd_3 rfl) rfl (by show 2 * 0 + _ ≤ _; exact Nat.le_of_eq rfl) (hb hby d5_52) (fun _ _ => ⟨rfl, e41, (by decide : 0 + 0 ≤ _), (by decide : 0 + 0 ≤ _)⟩)
  dsimp only [Pt.U, Pt.locs, Pt.cells, Pt.slots] at X42 l42 y42 z42 st42 hQ42
  subst y42 z42
  obtain ⟨rfl, N42q, e42⟩ := hQ42
  have e42h : T42.heap = h0 := e42
  have N42 : Fr n0 L42 := by rw [l42]; exact Fr.app N0 N42q
  refine own_step (fun _ kc_ => st42.trans kc_) ?_
  show own_Ends p e below s _ _ _ (T42.setTop (mkF m 55 #[.val (.ref oo), .val (.int x), .unset] [(.int (Int32.ofNat (own_pl x k))), (.ref ta)]))
  refine own_step (fun _ kc_ => own_iaload X42 hx hZ e42h A0 (j := (Int32.ofNat (own_pl x k))) (own_nn (own_pl_lt31 x k)) (i := own_pl x k) (own_nc (own_pl_lt31 x k)) (v := (.int (own_pr ts x k))) (own_rd hl x k) (hb hby d5_55) _ (XS.iloadN X42.here hx rfl (hb hby d5_56) rfl (XS.icmpNo X42.here hx rfl (hb hby d5_57) rfl (XT.ii_ne_f (hr : (own_pr ts x k) = x)) (XS.iconst X42.here hx rfl (hb hby d5_60) (XS.goto X42.here hx rfl (pc0 := 61) (pc' := 65) rfl (hb hby d5_61) (by decide) (by decide) (XS.istoreN X42.here hx rfl (hb hby d5_65) rfl (l' := #[.val (.ref oo), .val (.int x), .val (.int (1 : Int32))]) rfl (XS.iloadN X42.here hx rfl (hb hby d5_66) rfl kc_))))))) ?_
  show own_Ends p e below s _ _ _ (T42.setTop (mkF m 67 #[.val (.ref oo), .val (.int x), .val (.int (1 : Int32))] [(.int (1 : Int32))]))
  exact own_retN X42 hx (t := .boolean) hret (by simp) hlk (hb hby d5_67) (by decide) (by decide) rfl ⟨rfl, N42, e42h⟩
theorem ef_rmCT0 (m : MethodId) (oo : Addr) (x : Int32) : entryFrame m #[(.ref oo), (.int x)] 3 = mkF m 0 #[.val (.ref oo), .val (.int x), .unset] [] := by first | (simp [entryFrame, mkF, argsToLocals, Value.category]; done) | rfl
def QCT0 (Z : State) (oo : Addr) (x : Int32) (ta : Addr) (ts : List Int32) (k : Nat) (h0 : Heap) (n0 : Nat) (v : Option Value) (h : Heap) (L : List Loc) : Prop := v = some (.int (0 : Int32)) ∧ Fr n0 L ∧ h = h0
set_option maxRecDepth 65536 in
set_option maxHeartbeats 40000000 in
theorem rmCT0 (l : Launch) (Z : State) (a0 : Array Value) (hw : ∀ d ∈ tables_1, d.before a0 Z = true) (ws : List Jvm.Cond) (oo : Addr) (x : Int32) (ta : Addr) (ts : List Int32) (k : Nat) (h0 : Heap) (n0 : Nat) (Z0 : n0 ≤ h0.size) (E0 : Exa Z h0 oo "com/example/kinds_by_value/kindsbyvalue/NameSet") (f0 : Fld Z h0 oo "com/example/kinds_by_value/kindsbyvalue/NameSet" "everyName" "Z" (.int (0 : Int32))) (f1 : Fld Z h0 oo "com/example/kinds_by_value/kindsbyvalue/NameSet" "bits" "[J" .null) (f2 : Fld Z h0 oo "com/example/kinds_by_value/kindsbyvalue/NameSet" "table" "[I" (.ref ta)) (A0 : own_Ar Z h0 ta .int (ts.map Value.int)) (hl : ts.length = 16) (hf : own_fin ts x k) (hr : ¬ own_pr ts x k = x) :
    MetFree l (⟨"com/example/kinds_by_value/kindsbyvalue/NameSet", "contains", "(I)Z"⟩ : MethodName) (head1 (Jvm.Cond.code (⟨"com/example/kinds_by_value/kindsbyvalue/NameSet", "contains", "(I)Z"⟩ : MethodName) prog_9_method_2_code 3 (some .boolean) :: ws) ({ frames := 2, cells := 0, slots := 0, locals := 29 } : Room)) (fun a U => a = #[(.ref oo), (.int x)] ∧ Z.Warmed39 U.vm ∧ U.heap = h0) (fun _ _ _ _ _ => True) (fun _ U o U' => ∃ v L, o = .returned v ∧ QCT0 Z oo x ta ts k h0 n0 v U'.heap L ∧ FrameEnd U o U' L ({ frames := 2, cells := 0, slots := 0, locals := 29 } : Room).cells ({ frames := 2, cells := 0, slots := 0, locals := 29 } : Room).slots) := by
  refine MetFree.of_bodySF (plainFor_of_name pn_2) hisR ?_
  intro p e s m args below meth c s₁ Bd hml0 hP hK
  obtain ⟨rfl, hZ, hh⟩ := hP
  have hx := Bd.exec
  have hby := Bd.bytes
  have hlk : meth.locks = false := BodyLoose.notSynchronized Bd
  have hret := Bd.returns
  have hml : c.maxLocals = 3 := hml0
  have hown : s.vm.findClass "com/example/kinds_by_value/kindsbyvalue/NameSet" = some m.cls := findClass_of_methodNamed Bd.named
  have hnm := (name_of_methodNamed Bd.named Bd.method).1
  have X0 : Stand p l e ({ frames := 2, cells := 0, slots := 0, locals := 29 } : Room) s m #[(.ref oo), (.int x)] below meth c s₁ [] 0 0 := Stand.of_body Bd
  have e0 : s₁.heap = h0 := by rw [← hh, Bd.state]; rfl
  have N0 := Fr.nil n0
  show own_Ends p e below s 0 0 (QCT0 Z oo x ta ts k h0 n0) (s₁.setTop (entryFrame m #[(.ref oo), (.int x)] 3))
  refine own_step (fun t k => castTop (ef_rmCT0 m oo x) k) ?_
  show own_Ends p e below s _ _ _ (s₁.setTop (mkF m 0 #[.val (.ref oo), .val (.int x), .unset] []))
  refine own_step (fun _ kc_ => XS.aloadN X0.here hx rfl (hb hby d5_0) rfl rfl kc_) ?_
  show own_Ends p e below s _ _ _ (s₁.setTop (mkF m 1 #[.val (.ref oo), .val (.int x), .unset] [(.ref oo)]))
  obtain ⟨T43, X43, e43, st43⟩ := getF X0 hx hZ hown (host := "") (Or.inl (hw _ (List.mem_of_getElem? (i := 17) rfl))) Via.refl e0 f0 (g := (mkF m 1 #[.val (.ref oo), .val (.int x), .unset] [(.ref oo)])) rfl rfl (hb hby d5_1)
  refine own_step (fun _ kc_ => st43 _ kc_) ?_
  show own_Ends p e below s _ _ _ (T43.setTop (mkF m 4 #[.val (.ref oo), .val (.int x), .unset] [(.int (0 : Int32))]))
  refine own_step (fun _ kc_ => XS.ifYes X43.here hx rfl (pc0 := 4) (pc' := 12) rfl (hb hby d5_4) rfl (XT.i0_eq_t (by decide : (0 : Int32) = 0)) (by decide) (by decide) (XS.aloadN X43.here hx rfl (hb hby d5_12) rfl rfl kc_)) ?_
  show own_Ends p e below s _ _ _ (T43.setTop (mkF m 13 #[.val (.ref oo), .val (.int x), .unset] [(.ref oo)]))
  obtain ⟨T44, X44, e44, st44⟩ := getF X43 hx hZ hown (host := "") (Or.inl (hw _ (List.mem_of_getElem? (i := 10) rfl))) Via.refl e43 f1 (g := (mkF m 13 #[.val (.ref oo), .val (.int x), .unset] [(.ref oo)])) rfl rfl (hb hby d5_13)
  refine own_step (fun _ kc_ => st44 _ kc_) ?_
  show own_Ends p e below s _ _ _ (T44.setTop (mkF m 16 #[.val (.ref oo), .val (.int x), .unset] [.null]))
  refine own_step (fun _ kc_ => XS.ifnullYes X44.here hx rfl (pc0 := 16) (pc' := 46) rfl (hb hby d5_16) rfl (by decide) (by decide) (XS.aloadN X44.here hx rfl (hb hby d5_46) rfl rfl kc_)) ?_
  show own_Ends p e below s _ _ _ (T44.setTop (mkF m 47 #[.val (.ref oo), .val (.int x), .unset] [(.ref oo)]))
  obtain ⟨T45, X45, e45, st45⟩ := getF X44 hx hZ hown (host := "") (Or.inl (hw _ (List.mem_of_getElem? (i := 19) rfl))) Via.refl e44 f2 (g := (mkF m 47 #[.val (.ref oo), .val (.int x), .unset] [(.ref oo)])) rfl rfl (hb hby d5_47)
  refine own_step (fun _ kc_ => st45 _ kc_) ?_
  show own_Ends p e below s _ _ _ (T45.setTop (mkF m 50 #[.val (.ref oo), .val (.int x), .unset] [(.ref ta)]))
  refine own_step (fun _ kc_ => XS.aloadN X45.here hx rfl (hb hby d5_50) rfl rfl (XS.iloadN X45.here hx rfl (hb hby d5_51) rfl kc_)) ?_
  show own_Ends p e below s _ _ _ (T45.setTop (mkF m 52 #[.val (.ref oo), .val (.int x), .unset] [(.int x), (.ref oo), (.ref ta)]))
  obtain ⟨cq46, q46, q46'⟩ := (E0).cell
  obtain ⟨_, _, ⟨T46, L46, k46, n46⟩, -, X46, ⟨Lc46, hQ46, l46, y46, z46⟩, st46⟩ := X45.privateBack hx (y := (⟨"com/example/kinds_by_value/kindsbyvalue/NameSet", "placeOf", "(I)I"⟩ : MethodName)) hown (mvT hZ (hw _ (List.mem_of_getElem? (i := 90) rfl))) (mvT hZ (hw _ (List.mem_of_getElem? (i := 91) rfl))) (Jvm.Kit.selects_private (by decide) (mvT hZ (hw _ (List.mem_of_getElem? (i := 1) rfl))) (mvP hZ (hw _ (List.mem_of_getElem? (i := 92) rfl))) (mvT hZ (hw _ (List.mem_of_getElem? (i := 91) rfl)))) (Cond.privateMethod_at (mvP hZ (hw _ (List.mem_of_getElem? (i := 92) rfl)) (args := #[]))) (mvT hZ (hw _ (List.mem_of_getElem? (i := 93) rfl))) (by decide) (backOf (W := 1) (rm17 l Z a0 hw [] oo x ta ts k h0 n0 Z0 f2 A0 hl hf) hZ (hw _ (List.mem_of_getElem? (i := 93) rfl)) (hw _ (List.mem_of_getElem? (i := 2) rfl)) (by decide) (by decide)) (g := (mkF m 52 #[.val (.ref oo), .val (.int x), .unset] [(.int x), (.ref oo), (.ref ta)])) rfl (by rw [hml]; rfl) (Steps.refl _) (a := oo) (by rw [e45]; exact q46) q46' (argsL := [(.int x)]) (rest := [(.ref ta)]) (lenOf pd_3 rfl) rfl (by show 2 * 0 + _ ≤ _; exact Nat.le_of_eq rfl) (hb hby d5_52) (fun _ _ => ⟨rfl, e45, (by decide : 0 + 0 ≤ _), (by decide : 0 + 0 ≤ _)⟩)
  dsimp only [Pt.U, Pt.locs, Pt.cells, Pt.slots] at X46 l46 y46 z46 st46 hQ46
  subst y46 z46
  obtain ⟨rfl, N46q, e46⟩ := hQ46
  have e46h : T46.heap = h0 := e46
  have N46 : Fr n0 L46 := by rw [l46]; exact Fr.app N0 N46q
  refine own_step (fun _ kc_ => st46.trans kc_) ?_
  show own_Ends p e below s _ _ _ (T46.setTop (mkF m 55 #[.val (.ref oo), .val (.int x), .unset] [(.int (Int32.ofNat (own_pl x k))), (.ref ta)]))
  refine own_step (fun _ kc_ => own_iaload X46 hx hZ e46h A0 (j := (Int32.ofNat (own_pl x k))) (own_nn (own_pl_lt31 x k)) (i := own_pl x k) (own_nc (own_pl_lt31 x k)) (v := (.int (own_pr ts x k))) (own_rd hl x k) (hb hby d5_55) _ (XS.iloadN X46.here hx rfl (hb hby d5_56) rfl (XS.icmpYes X46.here hx rfl (pc0 := 57) (pc' := 64) rfl (hb hby d5_57) rfl (XT.ii_ne_t (hr : ¬ ((own_pr ts x k) = x))) (by decide) (by decide) (XS.iconst X46.here hx rfl (hb hby d5_64) (XS.istoreN X46.here hx rfl (hb hby d5_65) rfl (l' := #[.val (.ref oo), .val (.int x), .val (.int (0 : Int32))]) rfl (XS.iloadN X46.here hx rfl (hb hby d5_66) rfl kc_)))))) ?_
  show own_Ends p e below s _ _ _ (T46.setTop (mkF m 67 #[.val (.ref oo), .val (.int x), .val (.int (0 : Int32))] [(.int (0 : Int32))]))
  exact own_retN X46 hx (t := .boolean) hret (by simp) hlk (hb hby d5_67) (by decide) (by decide) rfl ⟨rfl, N46, e46h⟩
theorem ef_rmCB1 (m : MethodId) (oo : Addr) (x : Int32) : entryFrame m #[(.ref oo), (.int x)] 3 = mkF m 0 #[.val (.ref oo), .val (.int x), .unset] [] := by first | (simp [entryFrame, mkF, argsToLocals, Value.category]; done) | rfl
def QCB1 (Z : State) (oo : Addr) (x : Int32) (ba : Addr) (ls : List Int64) (h0 : Heap) (n0 : Nat) (v : Option Value) (h : Heap) (L : List Loc) : Prop := v = some (.int (1 : Int32)) ∧ Fr n0 L ∧ h = h0
set_option maxRecDepth 65536 in
set_option maxHeartbeats 40000000 in
theorem rmCB1 (l : Launch) (Z : State) (a0 : Array Value) (hw : ∀ d ∈ tables_1, d.before a0 Z = true) (ws : List Jvm.Cond) (oo : Addr) (x : Int32) (ba : Addr) (ls : List Int64) (h0 : Heap) (n0 : Nat) (Z0 : n0 ≤ h0.size) (E0 : Exa Z h0 oo "com/example/kinds_by_value/kindsbyvalue/NameSet") (f0 : Fld Z h0 oo "com/example/kinds_by_value/kindsbyvalue/NameSet" "everyName" "Z" (.int (0 : Int32))) (f1 : Fld Z h0 oo "com/example/kinds_by_value/kindsbyvalue/NameSet" "bits" "[J" (.ref ba)) (A0 : own_Ar Z h0 ba .long (ls.map Value.long)) (hx0 : 0 ≤ x.toInt) (hx1 : own_q x < ls.length) (hr : ¬ ls.getD (own_q x) 0 &&& own_w x = 0) :
    MetFree l (⟨"com/example/kinds_by_value/kindsbyvalue/NameSet", "contains", "(I)Z"⟩ : MethodName) (head1 (Jvm.Cond.code (⟨"com/example/kinds_by_value/kindsbyvalue/NameSet", "contains", "(I)Z"⟩ : MethodName) prog_9_method_2_code 3 (some .boolean) :: ws) ({ frames := 0, cells := 0, slots := 0, locals := 0 } : Room)) (fun a U => a = #[(.ref oo), (.int x)] ∧ Z.Warmed39 U.vm ∧ U.heap = h0) (fun _ _ _ _ _ => True) (fun _ U o U' => ∃ v L, o = .returned v ∧ QCB1 Z oo x ba ls h0 n0 v U'.heap L ∧ FrameEnd U o U' L ({ frames := 0, cells := 0, slots := 0, locals := 0 } : Room).cells ({ frames := 0, cells := 0, slots := 0, locals := 0 } : Room).slots) := by
  refine MetFree.of_bodySF (plainFor_of_name pn_2) hisR ?_
  intro p e s m args below meth c s₁ Bd hml0 hP hK
  obtain ⟨rfl, hZ, hh⟩ := hP
  have hx := Bd.exec
  have hby := Bd.bytes
  have hlk : meth.locks = false := BodyLoose.notSynchronized Bd
  have hret := Bd.returns
  have hml : c.maxLocals = 3 := hml0
  have hown : s.vm.findClass "com/example/kinds_by_value/kindsbyvalue/NameSet" = some m.cls := findClass_of_methodNamed Bd.named
  have hnm := (name_of_methodNamed Bd.named Bd.method).1
  have X0 : Stand p l e ({ frames := 0, cells := 0, slots := 0, locals := 0 } : Room) s m #[(.ref oo), (.int x)] below meth c s₁ [] 0 0 := Stand.of_body Bd
  have e0 : s₁.heap = h0 := by rw [← hh, Bd.state]; rfl
  have N0 := Fr.nil n0
  show own_Ends p e below s 0 0 (QCB1 Z oo x ba ls h0 n0) (s₁.setTop (entryFrame m #[(.ref oo), (.int x)] 3))
  refine own_step (fun t k => castTop (ef_rmCB1 m oo x) k) ?_
  show own_Ends p e below s _ _ _ (s₁.setTop (mkF m 0 #[.val (.ref oo), .val (.int x), .unset] []))
  refine own_step (fun _ kc_ => XS.aloadN X0.here hx rfl (hb hby d5_0) rfl rfl kc_) ?_
  show own_Ends p e below s _ _ _ (s₁.setTop (mkF m 1 #[.val (.ref oo), .val (.int x), .unset] [(.ref oo)]))
  obtain ⟨T47, X47, e47, st47⟩ := getF X0 hx hZ hown (host := "") (Or.inl (hw _ (List.mem_of_getElem? (i := 17) rfl))) Via.refl e0 f0 (g := (mkF m 1 #[.val (.ref oo), .val (.int x), .unset] [(.ref oo)])) rfl rfl (hb hby d5_1)
  refine own_step (fun _ kc_ => st47 _ kc_) ?_
  show own_Ends p e below s _ _ _ (T47.setTop (mkF m 4 #[.val (.ref oo), .val (.int x), .unset] [(.int (0 : Int32))]))
  refine own_step (fun _ kc_ => XS.ifYes X47.here hx rfl (pc0 := 4) (pc' := 12) rfl (hb hby d5_4) rfl (XT.i0_eq_t (by decide : (0 : Int32) = 0)) (by decide) (by decide) (XS.aloadN X47.here hx rfl (hb hby d5_12) rfl rfl kc_)) ?_
  show own_Ends p e below s _ _ _ (T47.setTop (mkF m 13 #[.val (.ref oo), .val (.int x), .unset] [(.ref oo)]))
  obtain ⟨T48, X48, e48, st48⟩ := getF X47 hx hZ hown (host := "") (Or.inl (hw _ (List.mem_of_getElem? (i := 10) rfl))) Via.refl e47 f1 (g := (mkF m 13 #[.val (.ref oo), .val (.int x), .unset] [(.ref oo)])) rfl rfl (hb hby d5_13)
  refine own_step (fun _ kc_ => st48 _ kc_) ?_
  show own_Ends p e below s _ _ _ (T48.setTop (mkF m 16 #[.val (.ref oo), .val (.int x), .unset] [(.ref ba)]))
  refine own_step (fun _ kc_ => XS.ifnullNo X48.here hx rfl (hb hby d5_16) rfl (XS.aloadN X48.here hx rfl (hb hby d5_19) rfl rfl kc_)) ?_
  show own_Ends p e below s _ _ _ (T48.setTop (mkF m 20 #[.val (.ref oo), .val (.int x), .unset] [(.ref oo)]))
  obtain ⟨T49, X49, e49, st49⟩ := getF X48 hx hZ hown (host := "") (Or.inl (hw _ (List.mem_of_getElem? (i := 10) rfl))) Via.refl e48 f1 (g := (mkF m 20 #[.val (.ref oo), .val (.int x), .unset] [(.ref oo)])) rfl rfl (hb hby d5_20)
  refine own_step (fun _ kc_ => st49 _ kc_) ?_
  show own_Ends p e below s _ _ _ (T49.setTop (mkF m 23 #[.val (.ref oo), .val (.int x), .unset] [(.ref ba)]))
  refine own_step (fun _ kc_ => XS.iloadN X49.here hx rfl (hb hby d5_23) rfl (XS.bipush X49.here hx rfl (hb hby d5_24) (XS.idiv X49.here hx rfl (hb hby d5_26) rfl (by decide) (own_laload X49 hx hZ e49 A0 (j := (x / (64 : Int32))) (own_div x hx0).1 (i := own_q x) (own_div x hx0).2 (v := (.long (ls.getD (own_q x) 0))) (own_rdL hx1) (hb hby d5_27) _ (XS.lconst X49.here hx rfl (hb hby d5_28) (XS.iloadN X49.here hx rfl (hb hby d5_29) rfl (XS.lshl X49.here hx rfl (hb hby d5_30) rfl (XS.land X49.here hx rfl (hb hby d5_31) rfl kc_)))))))) ?_
  show own_Ends p e below s _ _ _ (T49.setTop (mkF m 32 #[.val (.ref oo), .val (.int x), .unset] [(.long ((ls.getD (own_q x) 0) &&& ((1 : Int64) <<< (x &&& 0x3f).toInt64)))]))
  refine own_step (fun _ kc_ => XS.lconst X49.here hx rfl (hb hby d5_32) (XT.lcmp X49.here hx rfl (hb hby d5_33) rfl (XS.ifNo X49.here hx rfl (hb hby d5_34) rfl (XT.ll_eq_f (hr : ¬ (((ls.getD (own_q x) 0) &&& ((1 : Int64) <<< (x &&& 0x3f).toInt64)) = (0 : Int64)))) (XS.iconst X49.here hx rfl (hb hby d5_37) (XS.goto X49.here hx rfl (pc0 := 38) (pc' := 42) rfl (hb hby d5_38) (by decide) (by decide) (XS.istoreN X49.here hx rfl (hb hby d5_42) rfl (l' := #[.val (.ref oo), .val (.int x), .val (.int (1 : Int32))]) rfl (XS.goto X49.here hx rfl (pc0 := 43) (pc' := 66) rfl (hb hby d5_43) (by decide) (by decide) (XS.iloadN X49.here hx rfl (hb hby d5_66) rfl kc_)))))))) ?_
  show own_Ends p e below s _ _ _ (T49.setTop (mkF m 67 #[.val (.ref oo), .val (.int x), .val (.int (1 : Int32))] [(.int (1 : Int32))]))
  exact own_retN X49 hx (t := .boolean) hret (by simp) hlk (hb hby d5_67) (by decide) (by decide) rfl ⟨rfl, N0, e49⟩
theorem ef_rmCB0 (m : MethodId) (oo : Addr) (x : Int32) : entryFrame m #[(.ref oo), (.int x)] 3 = mkF m 0 #[.val (.ref oo), .val (.int x), .unset] [] := by first | (simp [entryFrame, mkF, argsToLocals, Value.category]; done) | rfl
def QCB0 (Z : State) (oo : Addr) (x : Int32) (ba : Addr) (ls : List Int64) (h0 : Heap) (n0 : Nat) (v : Option Value) (h : Heap) (L : List Loc) : Prop := v = some (.int (0 : Int32)) ∧ Fr n0 L ∧ h = h0
set_option maxRecDepth 65536 in
set_option maxHeartbeats 40000000 in
theorem rmCB0 (l : Launch) (Z : State) (a0 : Array Value) (hw : ∀ d ∈ tables_1, d.before a0 Z = true) (ws : List Jvm.Cond) (oo : Addr) (x : Int32) (ba : Addr) (ls : List Int64) (h0 : Heap) (n0 : Nat) (Z0 : n0 ≤ h0.size) (E0 : Exa Z h0 oo "com/example/kinds_by_value/kindsbyvalue/NameSet") (f0 : Fld Z h0 oo "com/example/kinds_by_value/kindsbyvalue/NameSet" "everyName" "Z" (.int (0 : Int32))) (f1 : Fld Z h0 oo "com/example/kinds_by_value/kindsbyvalue/NameSet" "bits" "[J" (.ref ba)) (A0 : own_Ar Z h0 ba .long (ls.map Value.long)) (hx0 : 0 ≤ x.toInt) (hx1 : own_q x < ls.length) (hr : ls.getD (own_q x) 0 &&& own_w x = 0) :
    MetFree l (⟨"com/example/kinds_by_value/kindsbyvalue/NameSet", "contains", "(I)Z"⟩ : MethodName) (head1 (Jvm.Cond.code (⟨"com/example/kinds_by_value/kindsbyvalue/NameSet", "contains", "(I)Z"⟩ : MethodName) prog_9_method_2_code 3 (some .boolean) :: ws) ({ frames := 0, cells := 0, slots := 0, locals := 0 } : Room)) (fun a U => a = #[(.ref oo), (.int x)] ∧ Z.Warmed39 U.vm ∧ U.heap = h0) (fun _ _ _ _ _ => True) (fun _ U o U' => ∃ v L, o = .returned v ∧ QCB0 Z oo x ba ls h0 n0 v U'.heap L ∧ FrameEnd U o U' L ({ frames := 0, cells := 0, slots := 0, locals := 0 } : Room).cells ({ frames := 0, cells := 0, slots := 0, locals := 0 } : Room).slots) := by
  refine MetFree.of_bodySF (plainFor_of_name pn_2) hisR ?_
  intro p e s m args below meth c s₁ Bd hml0 hP hK
  obtain ⟨rfl, hZ, hh⟩ := hP
  have hx := Bd.exec
  have hby := Bd.bytes
  have hlk : meth.locks = false := BodyLoose.notSynchronized Bd
  have hret := Bd.returns
  have hml : c.maxLocals = 3 := hml0
  have hown : s.vm.findClass "com/example/kinds_by_value/kindsbyvalue/NameSet" = some m.cls := findClass_of_methodNamed Bd.named
  have hnm := (name_of_methodNamed Bd.named Bd.method).1
  have X0 : Stand p l e ({ frames := 0, cells := 0, slots := 0, locals := 0 } : Room) s m #[(.ref oo), (.int x)] below meth c s₁ [] 0 0 := Stand.of_body Bd
  have e0 : s₁.heap = h0 := by rw [← hh, Bd.state]; rfl
  have N0 := Fr.nil n0
  show own_Ends p e below s 0 0 (QCB0 Z oo x ba ls h0 n0) (s₁.setTop (entryFrame m #[(.ref oo), (.int x)] 3))
  refine own_step (fun t k => castTop (ef_rmCB0 m oo x) k) ?_
  show own_Ends p e below s _ _ _ (s₁.setTop (mkF m 0 #[.val (.ref oo), .val (.int x), .unset] []))
  refine own_step (fun _ kc_ => XS.aloadN X0.here hx rfl (hb hby d5_0) rfl rfl kc_) ?_
  show own_Ends p e below s _ _ _ (s₁.setTop (mkF m 1 #[.val (.ref oo), .val (.int x), .unset] [(.ref oo)]))
  obtain ⟨T50, X50, e50, st50⟩ := getF X0 hx hZ hown (host := "") (Or.inl (hw _ (List.mem_of_getElem? (i := 17) rfl))) Via.refl e0 f0 (g := (mkF m 1 #[.val (.ref oo), .val (.int x), .unset] [(.ref oo)])) rfl rfl (hb hby d5_1)
  refine own_step (fun _ kc_ => st50 _ kc_) ?_
  show own_Ends p e below s _ _ _ (T50.setTop (mkF m 4 #[.val (.ref oo), .val (.int x), .unset] [(.int (0 : Int32))]))
  refine own_step (fun _ kc_ => XS.ifYes X50.here hx rfl (pc0 := 4) (pc' := 12) rfl (hb hby d5_4) rfl (XT.i0_eq_t (by decide : (0 : Int32) = 0)) (by decide) (by decide) (XS.aloadN X50.here hx rfl (hb hby d5_12) rfl rfl kc_)) ?_
  show own_Ends p e below s _ _ _ (T50.setTop (mkF m 13 #[.val (.ref oo), .val (.int x), .unset] [(.ref oo)]))
  obtain ⟨T51, X51, e51, st51⟩ := getF X50 hx hZ hown (host := "") (Or.inl (hw _ (List.mem_of_getElem? (i := 10) rfl))) Via.refl e50 f1 (g := (mkF m 13 #[.val (.ref oo), .val (.int x), .unset] [(.ref oo)])) rfl rfl (hb hby d5_13)
  refine own_step (fun _ kc_ => st51 _ kc_) ?_
  show own_Ends p e below s _ _ _ (T51.setTop (mkF m 16 #[.val (.ref oo), .val (.int x), .unset] [(.ref ba)]))
  refine own_step (fun _ kc_ => XS.ifnullNo X51.here hx rfl (hb hby d5_16) rfl (XS.aloadN X51.here hx rfl (hb hby d5_19) rfl rfl kc_)) ?_
  show own_Ends p e below s _ _ _ (T51.setTop (mkF m 20 #[.val (.ref oo), .val (.int x), .unset] [(.ref oo)]))
  obtain ⟨T52, X52, e52, st52⟩ := getF X51 hx hZ hown (host := "") (Or.inl (hw _ (List.mem_of_getElem? (i := 10) rfl))) Via.refl e51 f1 (g := (mkF m 20 #[.val (.ref oo), .val (.int x), .unset] [(.ref oo)])) rfl rfl (hb hby d5_20)
  refine own_step (fun _ kc_ => st52 _ kc_) ?_
  show own_Ends p e below s _ _ _ (T52.setTop (mkF m 23 #[.val (.ref oo), .val (.int x), .unset] [(.ref ba)]))
  refine own_step (fun _ kc_ => XS.iloadN X52.here hx rfl (hb hby d5_23) rfl (XS.bipush X52.here hx rfl (hb hby d5_24) (XS.idiv X52.here hx rfl (hb hby d5_26) rfl (by decide) (own_laload X52 hx hZ e52 A0 (j := (x / (64 : Int32))) (own_div x hx0).1 (i := own_q x) (own_div x hx0).2 (v := (.long (ls.getD (own_q x) 0))) (own_rdL hx1) (hb hby d5_27) _ (XS.lconst X52.here hx rfl (hb hby d5_28) (XS.iloadN X52.here hx rfl (hb hby d5_29) rfl (XS.lshl X52.here hx rfl (hb hby d5_30) rfl (XS.land X52.here hx rfl (hb hby d5_31) rfl kc_)))))))) ?_
  show own_Ends p e below s _ _ _ (T52.setTop (mkF m 32 #[.val (.ref oo), .val (.int x), .unset] [(.long ((ls.getD (own_q x) 0) &&& ((1 : Int64) <<< (x &&& 0x3f).toInt64)))]))
  refine own_step (fun _ kc_ => XS.lconst X52.here hx rfl (hb hby d5_32) (XT.lcmp X52.here hx rfl (hb hby d5_33) rfl (XS.ifYes X52.here hx rfl (pc0 := 34) (pc' := 41) rfl (hb hby d5_34) rfl (XT.ll_eq_t (hr : ((ls.getD (own_q x) 0) &&& ((1 : Int64) <<< (x &&& 0x3f).toInt64)) = (0 : Int64))) (by decide) (by decide) (XS.iconst X52.here hx rfl (hb hby d5_41) (XS.istoreN X52.here hx rfl (hb hby d5_42) rfl (l' := #[.val (.ref oo), .val (.int x), .val (.int (0 : Int32))]) rfl (XS.goto X52.here hx rfl (pc0 := 43) (pc' := 66) rfl (hb hby d5_43) (by decide) (by decide) (XS.iloadN X52.here hx rfl (hb hby d5_66) rfl kc_))))))) ?_
  show own_Ends p e below s _ _ _ (T52.setTop (mkF m 67 #[.val (.ref oo), .val (.int x), .val (.int (0 : Int32))] [(.int (0 : Int32))]))
  exact own_retN X52 hx (t := .boolean) hret (by simp) hlk (hb hby d5_67) (by decide) (by decide) rfl ⟨rfl, N0, e52⟩
theorem ef_rmAT1 (m : MethodId) (oo : Addr) (x : Int32) : entryFrame m #[(.ref oo), (.int x)] 7 = mkF m 0 #[.val (.ref oo), .val (.int x), .unset, .unset, .unset, .unset, .unset] [] := by first | (simp [entryFrame, mkF, argsToLocals, Value.category]; done) | rfl
def QAT1 (Z : State) (oo : Addr) (x : Int32) (ta : Addr) (ts : List Int32) (k : Nat) (h0 : Heap) (n0 : Nat) (v : Option Value) (h : Heap) (L : List Loc) : Prop := v = some (.int (0 : Int32)) ∧ Fr n0 L ∧ h = h0
set_option maxRecDepth 65536 in
set_option maxHeartbeats 40000000 in
theorem rmAT1 (l : Launch) (Z : State) (a0 : Array Value) (hw : ∀ d ∈ tables_1, d.before a0 Z = true) (ws : List Jvm.Cond) (oo : Addr) (x : Int32) (ta : Addr) (ts : List Int32) (k : Nat) (h0 : Heap) (n0 : Nat) (Z0 : n0 ≤ h0.size) (E0 : Exa Z h0 oo "com/example/kinds_by_value/kindsbyvalue/NameSet") (f0 : Fld Z h0 oo "com/example/kinds_by_value/kindsbyvalue/NameSet" "everyName" "Z" (.int (0 : Int32))) (f1 : Fld Z h0 oo "com/example/kinds_by_value/kindsbyvalue/NameSet" "bits" "[J" .null) (f2 : Fld Z h0 oo "com/example/kinds_by_value/kindsbyvalue/NameSet" "table" "[I" (.ref ta)) (A0 : own_Ar Z h0 ta .int (ts.map Value.int)) (hl : ts.length = 16) (hf : own_fin ts x k) (hr : own_pr ts x k = x) :
    MetFree l (⟨"com/example/kinds_by_value/kindsbyvalue/NameSet", "add", "(I)Z"⟩ : MethodName) (head1 (Jvm.Cond.code (⟨"com/example/kinds_by_value/kindsbyvalue/NameSet", "add", "(I)Z"⟩ : MethodName) prog_9_method_3_code 7 (some .boolean) :: ws) ({ frames := 3, cells := 0, slots := 0, locals := 43 } : Room)) (fun a U => a = #[(.ref oo), (.int x)] ∧ Z.Warmed39 U.vm ∧ U.heap = h0) (fun _ _ _ _ _ => True) (fun _ U o U' => ∃ v L, o = .returned v ∧ QAT1 Z oo x ta ts k h0 n0 v U'.heap L ∧ FrameEnd U o U' L ({ frames := 3, cells := 0, slots := 0, locals := 43 } : Room).cells ({ frames := 3, cells := 0, slots := 0, locals := 43 } : Room).slots) := by
  refine MetFree.of_bodySF (plainFor_of_name pn_2) hisR ?_
  intro p e s m args below meth c s₁ Bd hml0 hP hK
  obtain ⟨rfl, hZ, hh⟩ := hP
  have hx := Bd.exec
  have hby := Bd.bytes
  have hlk : meth.locks = false := BodyLoose.notSynchronized Bd
  have hret := Bd.returns
  have hml : c.maxLocals = 7 := hml0
  have hown : s.vm.findClass "com/example/kinds_by_value/kindsbyvalue/NameSet" = some m.cls := findClass_of_methodNamed Bd.named
  have hnm := (name_of_methodNamed Bd.named Bd.method).1
  have X0 : Stand p l e ({ frames := 3, cells := 0, slots := 0, locals := 43 } : Room) s m #[(.ref oo), (.int x)] below meth c s₁ [] 0 0 := Stand.of_body Bd
  have e0 : s₁.heap = h0 := by rw [← hh, Bd.state]; rfl
  have N0 := Fr.nil n0
  show own_Ends p e below s 0 0 (QAT1 Z oo x ta ts k h0 n0) (s₁.setTop (entryFrame m #[(.ref oo), (.int x)] 7))
  refine own_step (fun t k => castTop (ef_rmAT1 m oo x) k) ?_
  show own_Ends p e below s _ _ _ (s₁.setTop (mkF m 0 #[.val (.ref oo), .val (.int x), .unset, .unset, .unset, .unset, .unset] []))
  refine own_step (fun _ kc_ => XS.aloadN X0.here hx rfl (hb hby d6_0) rfl rfl (XS.iloadN X0.here hx rfl (hb hby d6_1) rfl kc_)) ?_
  show own_Ends p e below s _ _ _ (s₁.setTop (mkF m 2 #[.val (.ref oo), .val (.int x), .unset, .unset, .unset, .unset, .unset] [(.int x), (.ref oo)]))
  obtain ⟨cq53, kq53, q53a, q53b, q53c⟩ := isOf hZ e0 E0
  obtain ⟨_, _, ⟨T53, L53, k53, n53⟩, -, X53, ⟨Lc53, hQ53, l53, y53, z53⟩, st53⟩ := X0.virtualBack hx (y := (⟨"com/example/kinds_by_value/kindsbyvalue/NameSet", "contains", "(I)Z"⟩ : MethodName)) (z := (⟨"com/example/kinds_by_value/kindsbyvalue/NameSet", "contains", "(I)Z"⟩ : MethodName)) hown (mvT hZ (hw _ (List.mem_of_getElem? (i := 41) rfl))) (mvT hZ (hw _ (List.mem_of_getElem? (i := 32) rfl))) (notFace_of_selects (args := #[]) (mvT hZ (hw _ (List.mem_of_getElem? (i := 34) rfl)))) (mvT hZ (hw _ (List.mem_of_getElem? (i := 34) rfl))) (mvT hZ (hw _ (List.mem_of_getElem? (i := 33) rfl))) (by decide) (backOf (W := 0) (rmCT1 l Z a0 hw [] oo x ta ts k h0 n0 Z0 E0 f0 f1 f2 A0 hl hf hr) hZ (hw _ (List.mem_of_getElem? (i := 35) rfl)) (hw _ (List.mem_of_getElem? (i := 2) rfl)) (by decide) (by decide)) q53a q53c (g := (mkF m 2 #[.val (.ref oo), .val (.int x), .unset, .unset, .unset, .unset, .unset] [(.int x), (.ref oo)])) rfl (by rw [hml]; rfl) (Steps.refl _) (argsL := [(.int x)]) (rest := []) (lenOf pd_4 rfl) rfl (by show 2 * 0 + _ ≤ _; exact Nat.le_of_eq rfl) (hb hby d6_2) (fun _ _ => ⟨rfl, e0, (by decide : 0 + 0 ≤ _), (by decide : 0 + 0 ≤ _)⟩)
  dsimp only [Pt.U, Pt.locs, Pt.cells, Pt.slots] at X53 l53 y53 z53 st53 hQ53
  subst y53 z53
  obtain ⟨rfl, N53q, e53⟩ := hQ53
  have e53h : T53.heap = h0 := e53
  have N53 : Fr n0 L53 := by rw [l53]; exact Fr.app N0 N53q
  refine own_step (fun _ kc_ => st53.trans kc_) ?_
  show own_Ends p e below s _ _ _ (T53.setTop (mkF m 5 #[.val (.ref oo), .val (.int x), .unset, .unset, .unset, .unset, .unset] [(.int (1 : Int32))]))
  refine own_step (fun _ kc_ => XS.ifNo X53.here hx rfl (hb hby d6_5) rfl (XT.i0_eq_f (by decide : ¬ ((1 : Int32) = 0))) (XS.iconst X53.here hx rfl (hb hby d6_8) kc_)) ?_
  show own_Ends p e below s _ _ _ (T53.setTop (mkF m 9 #[.val (.ref oo), .val (.int x), .unset, .unset, .unset, .unset, .unset] [(.int (0 : Int32))]))
  exact own_retN X53 hx (t := .boolean) hret (by simp) hlk (hb hby d6_9) (by decide) (by decide) rfl ⟨rfl, N53, e53h⟩
theorem ef_rmAT0 (m : MethodId) (oo : Addr) (x : Int32) : entryFrame m #[(.ref oo), (.int x)] 7 = mkF m 0 #[.val (.ref oo), .val (.int x), .unset, .unset, .unset, .unset, .unset] [] := by first | (simp [entryFrame, mkF, argsToLocals, Value.category]; done) | rfl
def QAT0 (Z : State) (oo : Addr) (x : Int32) (ta : Addr) (ts : List Int32) (k : Nat) (sz hv : Int32) (h0 : Heap) (n0 : Nat) (v : Option Value) (h : Heap) (L : List Loc) : Prop := v = some (.int (1 : Int32)) ∧ Fr n0 L ∧ Keep h0 h [oo, ta] ∧ Fld Z h oo "com/example/kinds_by_value/kindsbyvalue/NameSet" "everyName" "Z" (.int (0 : Int32)) ∧ Fld Z h oo "com/example/kinds_by_value/kindsbyvalue/NameSet" "size" "I" (.int (sz + (1 : Int32))) ∧ Fld Z h oo "com/example/kinds_by_value/kindsbyvalue/NameSet" "hash" "I" (.int (hv + own_sp x)) ∧ Fld Z h oo "com/example/kinds_by_value/kindsbyvalue/NameSet" "bits" "[J" .null ∧ Fld Z h oo "com/example/kinds_by_value/kindsbyvalue/NameSet" "table" "[I" (.ref ta) ∧ own_Ar Z h ta .int ((ts.set (own_pl x k) x).map Value.int)
set_option maxRecDepth 65536 in
set_option maxHeartbeats 40000000 in
theorem rmAT0 (l : Launch) (Z : State) (a0 : Array Value) (hw : ∀ d ∈ tables_1, d.before a0 Z = true) (ws : List Jvm.Cond) (oo : Addr) (x : Int32) (ta : Addr) (ts : List Int32) (k : Nat) (sz hv : Int32) (h0 : Heap) (n0 : Nat) (Z0 : n0 ≤ h0.size) (E0 : Exa Z h0 oo "com/example/kinds_by_value/kindsbyvalue/NameSet") (f0 : Fld Z h0 oo "com/example/kinds_by_value/kindsbyvalue/NameSet" "everyName" "Z" (.int (0 : Int32))) (f1 : Fld Z h0 oo "com/example/kinds_by_value/kindsbyvalue/NameSet" "bits" "[J" .null) (f2 : Fld Z h0 oo "com/example/kinds_by_value/kindsbyvalue/NameSet" "table" "[I" (.ref ta)) (A0 : own_Ar Z h0 ta .int (ts.map Value.int)) (hl : ts.length = 16) (hf : own_fin ts x k) (hr : ¬ own_pr ts x k = x) (hsz : ¬ (16 : Int32) < (2 : Int32) * (sz + (1 : Int32))) (f3 : Fld Z h0 oo "com/example/kinds_by_value/kindsbyvalue/NameSet" "size" "I" (.int sz)) (f4 : Fld Z h0 oo "com/example/kinds_by_value/kindsbyvalue/NameSet" "hash" "I" (.int hv)) (g0 : n0 ≤ oo) (g1 : n0 ≤ ta) (ne0 : oo ≠ ta) :
    MetFree l (⟨"com/example/kinds_by_value/kindsbyvalue/NameSet", "add", "(I)Z"⟩ : MethodName) (head1 (Jvm.Cond.code (⟨"com/example/kinds_by_value/kindsbyvalue/NameSet", "add", "(I)Z"⟩ : MethodName) prog_9_method_3_code 7 (some .boolean) :: ws) ({ frames := 3, cells := 0, slots := 0, locals := 43 } : Room)) (fun a U => a = #[(.ref oo), (.int x)] ∧ Z.Warmed39 U.vm ∧ U.heap = h0) (fun _ _ _ _ _ => True) (fun _ U o U' => ∃ v L, o = .returned v ∧ QAT0 Z oo x ta ts k sz hv h0 n0 v U'.heap L ∧ FrameEnd U o U' L ({ frames := 3, cells := 0, slots := 0, locals := 43 } : Room).cells ({ frames := 3, cells := 0, slots := 0, locals := 43 } : Room).slots) := by
  refine MetFree.of_bodySF (plainFor_of_name pn_2) hisR ?_
  intro p e s m args below meth c s₁ Bd hml0 hP hK
  obtain ⟨rfl, hZ, hh⟩ := hP
  have hx := Bd.exec
  have hby := Bd.bytes
  have hlk : meth.locks = false := BodyLoose.notSynchronized Bd
  have hret := Bd.returns
  have hml : c.maxLocals = 7 := hml0
  have hown : s.vm.findClass "com/example/kinds_by_value/kindsbyvalue/NameSet" = some m.cls := findClass_of_methodNamed Bd.named
  have hnm := (name_of_methodNamed Bd.named Bd.method).1
  have X0 : Stand p l e ({ frames := 3, cells := 0, slots := 0, locals := 43 } : Room) s m #[(.ref oo), (.int x)] below meth c s₁ [] 0 0 := Stand.of_body Bd
  have e0 : s₁.heap = h0 := by rw [← hh, Bd.state]; rfl
  have N0 := Fr.nil n0
  show own_Ends p e below s 0 0 (QAT0 Z oo x ta ts k sz hv h0 n0) (s₁.setTop (entryFrame m #[(.ref oo), (.int x)] 7))
  refine own_step (fun t k => castTop (ef_rmAT0 m oo x) k) ?_
  show own_Ends p e below s _ _ _ (s₁.setTop (mkF m 0 #[.val (.ref oo), .val (.int x), .unset, .unset, .unset, .unset, .unset] []))
  refine own_step (fun _ kc_ => XS.aloadN X0.here hx rfl (hb hby d6_0) rfl rfl (XS.iloadN X0.here hx rfl (hb hby d6_1) rfl kc_)) ?_
  show own_Ends p e below s _ _ _ (s₁.setTop (mkF m 2 #[.val (.ref oo), .val (.int x), .unset, .unset, .unset, .unset, .unset] [(.int x), (.ref oo)]))
  obtain ⟨cq54, kq54, q54a, q54b, q54c⟩ := isOf hZ e0 E0
  obtain ⟨_, _, ⟨T54, L54, k54, n54⟩, -, X54, ⟨Lc54, hQ54, l54, y54, z54⟩, st54⟩ := X0.virtualBack hx (y := (⟨"com/example/kinds_by_value/kindsbyvalue/NameSet", "contains", "(I)Z"⟩ : MethodName)) (z := (⟨"com/example/kinds_by_value/kindsbyvalue/NameSet", "contains", "(I)Z"⟩ : MethodName)) hown (mvT hZ (hw _ (List.mem_of_getElem? (i := 41) rfl))) (mvT hZ (hw _ (List.mem_of_getElem? (i := 32) rfl))) (notFace_of_selects (args := #[]) (mvT hZ (hw _ (List.mem_of_getElem? (i := 34) rfl)))) (mvT hZ (hw _ (List.mem_of_getElem? (i := 34) rfl))) (mvT hZ (hw _ (List.mem_of_getElem? (i := 33) rfl))) (by decide) (backOf (W := 0) (rmCT0 l Z a0 hw [] oo x ta ts k h0 n0 Z0 E0 f0 f1 f2 A0 hl hf hr) hZ (hw _ (List.mem_of_getElem? (i := 35) rfl)) (hw _ (List.mem_of_getElem? (i := 2) rfl)) (by decide) (by decide)) q54a q54c (g := (mkF m 2 #[.val (.ref oo), .val (.int x), .unset, .unset, .unset, .unset, .unset] [(.int x), (.ref oo)])) rfl (by rw [hml]; rfl) (Steps.refl _) (argsL := [(.int x)]) (rest := []) (lenOf pd_4 rfl) rfl (by show 2 * 0 + _ ≤ _; exact Nat.le_of_eq rfl) (hb hby d6_2) (fun _ _ => ⟨rfl, e0, (by decide : 0 + 0 ≤ _), (by decide : 0 + 0 ≤ _)⟩)
  dsimp only [Pt.U, Pt.locs, Pt.cells, Pt.slots] at X54 l54 y54 z54 st54 hQ54
  subst y54 z54
  obtain ⟨rfl, N54q, e54⟩ := hQ54
  have e54h : T54.heap = h0 := e54
  have N54 : Fr n0 L54 := by rw [l54]; exact Fr.app N0 N54q
  refine own_step (fun _ kc_ => st54.trans kc_) ?_
  show own_Ends p e below s _ _ _ (T54.setTop (mkF m 5 #[.val (.ref oo), .val (.int x), .unset, .unset, .unset, .unset, .unset] [(.int (0 : Int32))]))
  refine own_step (fun _ kc_ => XS.ifYes X54.here hx rfl (pc0 := 5) (pc' := 10) rfl (hb hby d6_5) rfl (XT.i0_eq_t (by decide : (0 : Int32) = 0)) (by decide) (by decide) (XS.aloadN X54.here hx rfl (hb hby d6_10) rfl rfl kc_)) ?_
  show own_Ends p e below s _ _ _ (T54.setTop (mkF m 11 #[.val (.ref oo), .val (.int x), .unset, .unset, .unset, .unset, .unset] [(.ref oo)]))
  obtain ⟨T55, X55, e55, st55⟩ := getF X54 hx hZ hown (host := "") (Or.inl (hw _ (List.mem_of_getElem? (i := 10) rfl))) Via.refl e54h f1 (g := (mkF m 11 #[.val (.ref oo), .val (.int x), .unset, .unset, .unset, .unset, .unset] [(.ref oo)])) rfl rfl (hb hby d6_11)
  refine own_step (fun _ kc_ => st55 _ kc_) ?_
  show own_Ends p e below s _ _ _ (T55.setTop (mkF m 14 #[.val (.ref oo), .val (.int x), .unset, .unset, .unset, .unset, .unset] [.null]))
  refine own_step (fun _ kc_ => XS.ifnullYes X55.here hx rfl (pc0 := 14) (pc' := 35) rfl (hb hby d6_14) rfl (by decide) (by decide) (XS.iconst X55.here hx rfl (hb hby d6_35) (XS.aloadN X55.here hx rfl (hb hby d6_36) rfl rfl kc_))) ?_
  show own_Ends p e below s _ _ _ (T55.setTop (mkF m 37 #[.val (.ref oo), .val (.int x), .unset, .unset, .unset, .unset, .unset] [(.ref oo), (.int (2 : Int32))]))
  obtain ⟨T56, X56, e56, st56⟩ := getF X55 hx hZ hown (host := "") (Or.inl (hw _ (List.mem_of_getElem? (i := 21) rfl))) Via.refl e55 f3 (g := (mkF m 37 #[.val (.ref oo), .val (.int x), .unset, .unset, .unset, .unset, .unset] [(.ref oo), (.int (2 : Int32))])) rfl rfl (hb hby d6_37)
  refine own_step (fun _ kc_ => st56 _ kc_) ?_
  show own_Ends p e below s _ _ _ (T56.setTop (mkF m 40 #[.val (.ref oo), .val (.int x), .unset, .unset, .unset, .unset, .unset] [(.int sz), (.int (2 : Int32))]))
  refine own_step (fun _ kc_ => XS.iconst X56.here hx rfl (hb hby d6_40) (XS.iadd X56.here hx rfl (hb hby d6_41) rfl (XS.imul X56.here hx rfl (hb hby d6_42) rfl (XS.aloadN X56.here hx rfl (hb hby d6_43) rfl rfl kc_)))) ?_
  show own_Ends p e below s _ _ _ (T56.setTop (mkF m 44 #[.val (.ref oo), .val (.int x), .unset, .unset, .unset, .unset, .unset] [(.ref oo), (.int ((2 : Int32) * (sz + (1 : Int32))))]))
  obtain ⟨T57, X57, e57, st57⟩ := getF X56 hx hZ hown (host := "") (Or.inl (hw _ (List.mem_of_getElem? (i := 19) rfl))) Via.refl e56 f2 (g := (mkF m 44 #[.val (.ref oo), .val (.int x), .unset, .unset, .unset, .unset, .unset] [(.ref oo), (.int ((2 : Int32) * (sz + (1 : Int32))))])) rfl rfl (hb hby d6_44)
  refine own_step (fun _ kc_ => st57 _ kc_) ?_
  show own_Ends p e below s _ _ _ (T57.setTop (mkF m 47 #[.val (.ref oo), .val (.int x), .unset, .unset, .unset, .unset, .unset] [(.ref ta), (.int ((2 : Int32) * (sz + (1 : Int32))))]))
  refine own_step (fun _ kc_ => own_alen X57 hx hZ e57 A0 (n := 16) (z := (16 : Int32)) (by rw [List.length_map]; exact hl) rfl (hb hby d6_47) _ (XS.icmpYes X57.here hx rfl (pc0 := 48) (pc' := 111) rfl (hb hby d6_48) rfl (XT.ii_le_t (hsz : ¬ ((16 : Int32) < ((2 : Int32) * (sz + (1 : Int32)))))) (by decide) (by decide) (XS.aloadN X57.here hx rfl (hb hby d6_111) rfl rfl kc_))) ?_
  show own_Ends p e below s _ _ _ (T57.setTop (mkF m 112 #[.val (.ref oo), .val (.int x), .unset, .unset, .unset, .unset, .unset] [(.ref oo)]))
  obtain ⟨T58, X58, e58, st58⟩ := getF X57 hx hZ hown (host := "") (Or.inl (hw _ (List.mem_of_getElem? (i := 19) rfl))) Via.refl e57 f2 (g := (mkF m 112 #[.val (.ref oo), .val (.int x), .unset, .unset, .unset, .unset, .unset] [(.ref oo)])) rfl rfl (hb hby d6_112)
  refine own_step (fun _ kc_ => st58 _ kc_) ?_
  show own_Ends p e below s _ _ _ (T58.setTop (mkF m 115 #[.val (.ref oo), .val (.int x), .unset, .unset, .unset, .unset, .unset] [(.ref ta)]))
  refine own_step (fun _ kc_ => XS.aloadN X58.here hx rfl (hb hby d6_115) rfl rfl (XS.iloadN X58.here hx rfl (hb hby d6_116) rfl kc_)) ?_
  show own_Ends p e below s _ _ _ (T58.setTop (mkF m 117 #[.val (.ref oo), .val (.int x), .unset, .unset, .unset, .unset, .unset] [(.int x), (.ref oo), (.ref ta)]))
  obtain ⟨cq59, q59, q59'⟩ := (E0).cell
  obtain ⟨_, _, ⟨T59, L59, k59, n59⟩, -, X59, ⟨Lc59, hQ59, l59, y59, z59⟩, st59⟩ := X58.privateBack hx (y := (⟨"com/example/kinds_by_value/kindsbyvalue/NameSet", "placeOf", "(I)I"⟩ : MethodName)) hown (mvT hZ (hw _ (List.mem_of_getElem? (i := 90) rfl))) (mvT hZ (hw _ (List.mem_of_getElem? (i := 91) rfl))) (Jvm.Kit.selects_private (by decide) (mvT hZ (hw _ (List.mem_of_getElem? (i := 1) rfl))) (mvP hZ (hw _ (List.mem_of_getElem? (i := 92) rfl))) (mvT hZ (hw _ (List.mem_of_getElem? (i := 91) rfl)))) (Cond.privateMethod_at (mvP hZ (hw _ (List.mem_of_getElem? (i := 92) rfl)) (args := #[]))) (mvT hZ (hw _ (List.mem_of_getElem? (i := 93) rfl))) (by decide) (backOf (W := 1) (rm17 l Z a0 hw [] oo x ta ts k h0 n0 Z0 f2 A0 hl hf) hZ (hw _ (List.mem_of_getElem? (i := 93) rfl)) (hw _ (List.mem_of_getElem? (i := 2) rfl)) (by decide) (by decide)) (g := (mkF m 117 #[.val (.ref oo), .val (.int x), .unset, .unset, .unset, .unset, .unset] [(.int x), (.ref oo), (.ref ta)])) rfl (by rw [hml]; rfl) (Steps.refl _) (a := oo) (by rw [e58]; exact q59) q59' (argsL := [(.int x)]) (rest := [(.ref ta)]) (lenOf pd_3 rfl) rfl (by show 2 * 0 + _ ≤ _; exact Nat.le_of_eq rfl) (hb hby d6_117) (fun _ _ => ⟨rfl, e58, (by decide : 0 + 0 ≤ _), (by decide : 0 + 0 ≤ _)⟩)
  dsimp only [Pt.U, Pt.locs, Pt.cells, Pt.slots] at X59 l59 y59 z59 st59 hQ59
  subst y59 z59
  obtain ⟨rfl, N59q, e59⟩ := hQ59
  have e59h : T59.heap = h0 := e59
  have N59 : Fr n0 L59 := by rw [l59]; exact Fr.app N54 N59q
  refine own_step (fun _ kc_ => st59.trans kc_) ?_
  show own_Ends p e below s _ _ _ (T59.setTop (mkF m 120 #[.val (.ref oo), .val (.int x), .unset, .unset, .unset, .unset, .unset] [(.int (Int32.ofNat (own_pl x k))), (.ref ta)]))
  refine own_step (fun _ kc_ => XS.iloadN X59.here hx rfl (hb hby d6_120) rfl kc_) ?_
  show own_Ends p e below s _ _ _ (T59.setTop (mkF m 121 #[.val (.ref oo), .val (.int x), .unset, .unset, .unset, .unset, .unset] [(.int x), (.int (Int32.ofNat (own_pl x k))), (.ref ta)]))
  obtain ⟨T60, h60, X60, e60, W60, A60, st60⟩ := own_iastore X59 hx hZ e59h A0 (j := (Int32.ofNat (own_pl x k))) (x := x) (own_nn (own_pl_lt31 x k)) (i := own_pl x k) (own_nc (own_pl_lt31 x k)) (by rw [List.length_map, hl]; exact own_pl_lt x k) (Ls := #[.val (.ref oo), .val (.int x), .unset, .unset, .unset, .unset, .unset]) (st := []) (hb hby d6_121)
  have A_ta_60 : own_Ar Z h60 ta .int ((ts.set (own_pl x k) x).map Value.int) := A60.cast (by rw [List.map_set])
  have E_oo_60 := (E0).wr W60
  have F_oo_everyName_60 := (f0).other W60 (Or.inl ne0)
  have F_oo_bits_60 := (f1).other W60 (Or.inl ne0)
  have F_oo_table_60 := (f2).other W60 (Or.inl ne0)
  have F_oo_size_60 := (f3).other W60 (Or.inl ne0)
  have F_oo_hash_60 := (f4).other W60 (Or.inl ne0)
  have K60 := ((Keep.refl h0 [oo, ta])).wr W60 (Or.inl (List.mem_of_getElem? (i := 1) rfl))
  have Zs60 := Nat.le_trans Z0 (Nat.le_of_eq W60.size.symm)
  have N60 := Fr.snoc X60 N59 g1
  refine own_step (fun _ kc_ => st60 _ kc_) ?_
  show own_Ends p e below s _ _ _ (T60.setTop (mkF m 122 #[.val (.ref oo), .val (.int x), .unset, .unset, .unset, .unset, .unset] []))
  refine own_step (fun _ kc_ => XS.aloadN X60.here hx rfl (hb hby d6_122) rfl rfl (XS.dup X60.here hx rfl (hb hby d6_123) rfl rfl kc_)) ?_
  show own_Ends p e below s _ _ _ (T60.setTop (mkF m 124 #[.val (.ref oo), .val (.int x), .unset, .unset, .unset, .unset, .unset] [(.ref oo), (.ref oo)]))
  obtain ⟨T61, X61, e61, st61⟩ := getF X60 hx hZ hown (host := "") (Or.inl (hw _ (List.mem_of_getElem? (i := 21) rfl))) Via.refl e60 F_oo_size_60 (g := (mkF m 124 #[.val (.ref oo), .val (.int x), .unset, .unset, .unset, .unset, .unset] [(.ref oo), (.ref oo)])) rfl rfl (hb hby d6_124)
  refine own_step (fun _ kc_ => st61 _ kc_) ?_
  show own_Ends p e below s _ _ _ (T61.setTop (mkF m 127 #[.val (.ref oo), .val (.int x), .unset, .unset, .unset, .unset, .unset] [(.int sz), (.ref oo)]))
  refine own_step (fun _ kc_ => XS.iconst X61.here hx rfl (hb hby d6_127) (XS.iadd X61.here hx rfl (hb hby d6_128) rfl kc_)) ?_
  show own_Ends p e below s _ _ _ (T61.setTop (mkF m 129 #[.val (.ref oo), .val (.int x), .unset, .unset, .unset, .unset, .unset] [(.int (sz + (1 : Int32))), (.ref oo)]))
  obtain ⟨T62, h62, X62, e62, W62, st62⟩ := putF X61 hx hZ hown (host := "") (Or.inl (hw _ (List.mem_of_getElem? (i := 21) rfl))) Via.refl e61 F_oo_size_60 E_oo_60 (Or.inl (hw _ (List.mem_of_getElem? (i := 22) rfl))) (hw _ (List.mem_of_getElem? (i := 1) rfl)) (ty := .int) (by decide) rfl rfl (g := (mkF m 129 #[.val (.ref oo), .val (.int x), .unset, .unset, .unset, .unset, .unset] [(.int (sz + (1 : Int32))), (.ref oo)])) rfl rfl (hb hby d6_129)
  have E_oo_62 := (E_oo_60).wr W62
  have F_oo_everyName_62 := (F_oo_everyName_60).other W62 (Or.inr (slot_ne (Or.inl (hw _ (List.mem_of_getElem? (i := 18) rfl))) (Or.inl (hw _ (List.mem_of_getElem? (i := 22) rfl))) (by decide) (t := .boolean) (t' := .int) (by decide) (by decide)))
  have F_oo_bits_62 := (F_oo_bits_60).other W62 (Or.inr (slot_ne (Or.inl (hw _ (List.mem_of_getElem? (i := 11) rfl))) (Or.inl (hw _ (List.mem_of_getElem? (i := 22) rfl))) (by decide) (t := (.array .long)) (t' := .int) (by decide) (by decide)))
  have F_oo_table_62 := (F_oo_table_60).other W62 (Or.inr (slot_ne (Or.inl (hw _ (List.mem_of_getElem? (i := 20) rfl))) (Or.inl (hw _ (List.mem_of_getElem? (i := 22) rfl))) (by decide) (t := (.array .int)) (t' := .int) (by decide) (by decide)))
  have A_ta_62 := (A_ta_60).other W62 (Ne.symm ne0)
  have F_oo_size_62 := (F_oo_size_60).same W62
  have F_oo_hash_62 := (F_oo_hash_60).other W62 (Or.inr (slot_ne (Or.inl (hw _ (List.mem_of_getElem? (i := 24) rfl))) (Or.inl (hw _ (List.mem_of_getElem? (i := 22) rfl))) (by decide) (t := .int) (t' := .int) (by decide) (by decide)))
  have K62 := (K60).wr W62 (Or.inl (List.mem_of_getElem? (i := 0) rfl))
  have Zs62 := Nat.le_trans Zs60 (Nat.le_of_eq W62.size.symm)
  have N62 := Fr.snoc X62 N60 g0
  refine own_step (fun _ kc_ => st62 _ kc_) ?_
  show own_Ends p e below s _ _ _ (T62.setTop (mkF m 132 #[.val (.ref oo), .val (.int x), .unset, .unset, .unset, .unset, .unset] []))
  refine own_step (fun _ kc_ => XS.aloadN X62.here hx rfl (hb hby d6_132) rfl rfl (XS.dup X62.here hx rfl (hb hby d6_133) rfl rfl kc_)) ?_
  show own_Ends p e below s _ _ _ (T62.setTop (mkF m 134 #[.val (.ref oo), .val (.int x), .unset, .unset, .unset, .unset, .unset] [(.ref oo), (.ref oo)]))
  obtain ⟨T63, X63, e63, st63⟩ := getF X62 hx hZ hown (host := "") (Or.inl (hw _ (List.mem_of_getElem? (i := 23) rfl))) Via.refl e62 F_oo_hash_62 (g := (mkF m 134 #[.val (.ref oo), .val (.int x), .unset, .unset, .unset, .unset, .unset] [(.ref oo), (.ref oo)])) rfl rfl (hb hby d6_134)
  refine own_step (fun _ kc_ => st63 _ kc_) ?_
  show own_Ends p e below s _ _ _ (T63.setTop (mkF m 137 #[.val (.ref oo), .val (.int x), .unset, .unset, .unset, .unset, .unset] [(.int hv), (.ref oo)]))
  refine own_step (fun _ kc_ => XS.iloadN X63.here hx rfl (hb hby d6_137) rfl kc_) ?_
  show own_Ends p e below s _ _ _ (T63.setTop (mkF m 138 #[.val (.ref oo), .val (.int x), .unset, .unset, .unset, .unset, .unset] [(.int x), (.int hv), (.ref oo)]))
  obtain ⟨_, _, ⟨T64, L64, k64, n64⟩, -, X64, ⟨Lc64, hQ64, l64, y64, z64⟩, st64⟩ := Jvm.LawKit.callS X63 hx (y := (⟨"com/example/kinds_by_value/kindsbyvalue/Hashes", "spread", "(I)I"⟩ : MethodName)) hown (mvT hZ (hw _ (List.mem_of_getElem? (i := 74) rfl))) (mvT hZ (hw _ (List.mem_of_getElem? (i := 75) rfl))) (mvT hZ (hw _ (List.mem_of_getElem? (i := 76) rfl))) (mvT hZ (hw _ (List.mem_of_getElem? (i := 77) rfl))) (by decide) (backOf (W := 2) (rm13 l Z a0 hw [] x  h62 n0 Zs62 ) hZ (hw _ (List.mem_of_getElem? (i := 77) rfl)) (hw _ (List.mem_of_getElem? (i := 76) rfl)) (by decide) (by decide)) (g := (mkF m 138 #[.val (.ref oo), .val (.int x), .unset, .unset, .unset, .unset, .unset] [(.int x), (.int hv), (.ref oo)])) rfl (by rw [hml]; rfl) (argsL := [(.int x)]) (rest := [(.int hv), (.ref oo)]) (lenOf pd_3 rfl) rfl (by show 2 * 0 + _ ≤ _; exact Nat.le_of_eq rfl) (hb hby d6_138) (fun _ _ => ⟨rfl, e63, (by decide : 0 + 0 ≤ _), (by decide : 0 + 0 ≤ _)⟩)
  dsimp only [Pt.U, Pt.locs, Pt.cells, Pt.slots] at X64 l64 y64 z64 st64 hQ64
  subst y64 z64
  obtain ⟨rfl, N64q, e64⟩ := hQ64
  have e64h : T64.heap = h62 := e64
  have N64 : Fr n0 L64 := by rw [l64]; exact Fr.app N62 N64q
  refine own_step (fun _ kc_ => st64 _ kc_) ?_
  show own_Ends p e below s _ _ _ (T64.setTop (mkF m 141 #[.val (.ref oo), .val (.int x), .unset, .unset, .unset, .unset, .unset] [(.int (own_sp x)), (.int hv), (.ref oo)]))
  refine own_step (fun _ kc_ => XS.iadd X64.here hx rfl (hb hby d6_141) rfl kc_) ?_
  show own_Ends p e below s _ _ _ (T64.setTop (mkF m 142 #[.val (.ref oo), .val (.int x), .unset, .unset, .unset, .unset, .unset] [(.int (hv + (own_sp x))), (.ref oo)]))
  obtain ⟨T65, h65, X65, e65, W65, st65⟩ := putF X64 hx hZ hown (host := "") (Or.inl (hw _ (List.mem_of_getElem? (i := 23) rfl))) Via.refl e64h F_oo_hash_62 E_oo_62 (Or.inl (hw _ (List.mem_of_getElem? (i := 24) rfl))) (hw _ (List.mem_of_getElem? (i := 1) rfl)) (ty := .int) (by decide) rfl rfl (g := (mkF m 142 #[.val (.ref oo), .val (.int x), .unset, .unset, .unset, .unset, .unset] [(.int (hv + (own_sp x))), (.ref oo)])) rfl rfl (hb hby d6_142)
  have E_oo_65 := (E_oo_62).wr W65
  have F_oo_everyName_65 := (F_oo_everyName_62).other W65 (Or.inr (slot_ne (Or.inl (hw _ (List.mem_of_getElem? (i := 18) rfl))) (Or.inl (hw _ (List.mem_of_getElem? (i := 24) rfl))) (by decide) (t := .boolean) (t' := .int) (by decide) (by decide)))
  have F_oo_bits_65 := (F_oo_bits_62).other W65 (Or.inr (slot_ne (Or.inl (hw _ (List.mem_of_getElem? (i := 11) rfl))) (Or.inl (hw _ (List.mem_of_getElem? (i := 24) rfl))) (by decide) (t := (.array .long)) (t' := .int) (by decide) (by decide)))
  have F_oo_table_65 := (F_oo_table_62).other W65 (Or.inr (slot_ne (Or.inl (hw _ (List.mem_of_getElem? (i := 20) rfl))) (Or.inl (hw _ (List.mem_of_getElem? (i := 24) rfl))) (by decide) (t := (.array .int)) (t' := .int) (by decide) (by decide)))
  have A_ta_65 := (A_ta_62).other W65 (Ne.symm ne0)
  have F_oo_size_65 := (F_oo_size_62).other W65 (Or.inr (slot_ne (Or.inl (hw _ (List.mem_of_getElem? (i := 22) rfl))) (Or.inl (hw _ (List.mem_of_getElem? (i := 24) rfl))) (by decide) (t := .int) (t' := .int) (by decide) (by decide)))
  have F_oo_hash_65 := (F_oo_hash_62).same W65
  have K65 := (K62).wr W65 (Or.inl (List.mem_of_getElem? (i := 0) rfl))
  have Zs65 := Nat.le_trans Zs62 (Nat.le_of_eq W65.size.symm)
  have N65 := Fr.snoc X65 N64 g0
  refine own_step (fun _ kc_ => st65 _ kc_) ?_
  show own_Ends p e below s _ _ _ (T65.setTop (mkF m 145 #[.val (.ref oo), .val (.int x), .unset, .unset, .unset, .unset, .unset] []))
  refine own_step (fun _ kc_ => XS.iconst X65.here hx rfl (hb hby d6_145) kc_) ?_
  show own_Ends p e below s _ _ _ (T65.setTop (mkF m 146 #[.val (.ref oo), .val (.int x), .unset, .unset, .unset, .unset, .unset] [(.int (1 : Int32))]))
  exact own_retN X65 hx (t := .boolean) hret (by simp) hlk (hb hby d6_146) (by decide) (by decide) rfl (by rw [e65]; exact ⟨rfl, N65, K65, F_oo_everyName_65, F_oo_size_65, F_oo_hash_65, F_oo_bits_65, F_oo_table_65, A_ta_65⟩)
theorem ef_rmAB1 (m : MethodId) (oo : Addr) (x : Int32) : entryFrame m #[(.ref oo), (.int x)] 7 = mkF m 0 #[.val (.ref oo), .val (.int x), .unset, .unset, .unset, .unset, .unset] [] := by first | (simp [entryFrame, mkF, argsToLocals, Value.category]; done) | rfl
def QAB1 (Z : State) (oo : Addr) (x : Int32) (ba : Addr) (ls : List Int64) (h0 : Heap) (n0 : Nat) (v : Option Value) (h : Heap) (L : List Loc) : Prop := v = some (.int (0 : Int32)) ∧ Fr n0 L ∧ h = h0
set_option maxRecDepth 65536 in
set_option maxHeartbeats 40000000 in
theorem rmAB1 (l : Launch) (Z : State) (a0 : Array Value) (hw : ∀ d ∈ tables_1, d.before a0 Z = true) (ws : List Jvm.Cond) (oo : Addr) (x : Int32) (ba : Addr) (ls : List Int64) (h0 : Heap) (n0 : Nat) (Z0 : n0 ≤ h0.size) (E0 : Exa Z h0 oo "com/example/kinds_by_value/kindsbyvalue/NameSet") (f0 : Fld Z h0 oo "com/example/kinds_by_value/kindsbyvalue/NameSet" "everyName" "Z" (.int (0 : Int32))) (f1 : Fld Z h0 oo "com/example/kinds_by_value/kindsbyvalue/NameSet" "bits" "[J" (.ref ba)) (A0 : own_Ar Z h0 ba .long (ls.map Value.long)) (hx0 : 0 ≤ x.toInt) (hx1 : own_q x < ls.length) (hr : ¬ ls.getD (own_q x) 0 &&& own_w x = 0) :
    MetFree l (⟨"com/example/kinds_by_value/kindsbyvalue/NameSet", "add", "(I)Z"⟩ : MethodName) (head1 (Jvm.Cond.code (⟨"com/example/kinds_by_value/kindsbyvalue/NameSet", "add", "(I)Z"⟩ : MethodName) prog_9_method_3_code 7 (some .boolean) :: ws) ({ frames := 3, cells := 0, slots := 0, locals := 43 } : Room)) (fun a U => a = #[(.ref oo), (.int x)] ∧ Z.Warmed39 U.vm ∧ U.heap = h0) (fun _ _ _ _ _ => True) (fun _ U o U' => ∃ v L, o = .returned v ∧ QAB1 Z oo x ba ls h0 n0 v U'.heap L ∧ FrameEnd U o U' L ({ frames := 3, cells := 0, slots := 0, locals := 43 } : Room).cells ({ frames := 3, cells := 0, slots := 0, locals := 43 } : Room).slots) := by
  refine MetFree.of_bodySF (plainFor_of_name pn_2) hisR ?_
  intro p e s m args below meth c s₁ Bd hml0 hP hK
  obtain ⟨rfl, hZ, hh⟩ := hP
  have hx := Bd.exec
  have hby := Bd.bytes
  have hlk : meth.locks = false := BodyLoose.notSynchronized Bd
  have hret := Bd.returns
  have hml : c.maxLocals = 7 := hml0
  have hown : s.vm.findClass "com/example/kinds_by_value/kindsbyvalue/NameSet" = some m.cls := findClass_of_methodNamed Bd.named
  have hnm := (name_of_methodNamed Bd.named Bd.method).1
  have X0 : Stand p l e ({ frames := 3, cells := 0, slots := 0, locals := 43 } : Room) s m #[(.ref oo), (.int x)] below meth c s₁ [] 0 0 := Stand.of_body Bd
  have e0 : s₁.heap = h0 := by rw [← hh, Bd.state]; rfl
  have N0 := Fr.nil n0
  show own_Ends p e below s 0 0 (QAB1 Z oo x ba ls h0 n0) (s₁.setTop (entryFrame m #[(.ref oo), (.int x)] 7))
  refine own_step (fun t k => castTop (ef_rmAB1 m oo x) k) ?_
  show own_Ends p e below s _ _ _ (s₁.setTop (mkF m 0 #[.val (.ref oo), .val (.int x), .unset, .unset, .unset, .unset, .unset] []))
  refine own_step (fun _ kc_ => XS.aloadN X0.here hx rfl (hb hby d6_0) rfl rfl (XS.iloadN X0.here hx rfl (hb hby d6_1) rfl kc_)) ?_
  show own_Ends p e below s _ _ _ (s₁.setTop (mkF m 2 #[.val (.ref oo), .val (.int x), .unset, .unset, .unset, .unset, .unset] [(.int x), (.ref oo)]))
  obtain ⟨cq66, kq66, q66a, q66b, q66c⟩ := isOf hZ e0 E0
  obtain ⟨_, _, ⟨T66, L66, k66, n66⟩, -, X66, ⟨Lc66, hQ66, l66, y66, z66⟩, st66⟩ := X0.virtualBack hx (y := (⟨"com/example/kinds_by_value/kindsbyvalue/NameSet", "contains", "(I)Z"⟩ : MethodName)) (z := (⟨"com/example/kinds_by_value/kindsbyvalue/NameSet", "contains", "(I)Z"⟩ : MethodName)) hown (mvT hZ (hw _ (List.mem_of_getElem? (i := 41) rfl))) (mvT hZ (hw _ (List.mem_of_getElem? (i := 32) rfl))) (notFace_of_selects (args := #[]) (mvT hZ (hw _ (List.mem_of_getElem? (i := 34) rfl)))) (mvT hZ (hw _ (List.mem_of_getElem? (i := 34) rfl))) (mvT hZ (hw _ (List.mem_of_getElem? (i := 33) rfl))) (by decide) (backOf (W := 0) (rmCB1 l Z a0 hw [] oo x ba ls h0 n0 Z0 E0 f0 f1 A0 hx0 hx1 hr) hZ (hw _ (List.mem_of_getElem? (i := 35) rfl)) (hw _ (List.mem_of_getElem? (i := 2) rfl)) (by decide) (by decide)) q66a q66c (g := (mkF m 2 #[.val (.ref oo), .val (.int x), .unset, .unset, .unset, .unset, .unset] [(.int x), (.ref oo)])) rfl (by rw [hml]; rfl) (Steps.refl _) (argsL := [(.int x)]) (rest := []) (lenOf pd_4 rfl) rfl (by show 2 * 0 + _ ≤ _; exact Nat.le_of_eq rfl) (hb hby d6_2) (fun _ _ => ⟨rfl, e0, (by decide : 0 + 0 ≤ _), (by decide : 0 + 0 ≤ _)⟩)
  dsimp only [Pt.U, Pt.locs, Pt.cells, Pt.slots] at X66 l66 y66 z66 st66 hQ66
  subst y66 z66
  obtain ⟨rfl, N66q, e66⟩ := hQ66
  have e66h : T66.heap = h0 := e66
  have N66 : Fr n0 L66 := by rw [l66]; exact Fr.app N0 N66q
  refine own_step (fun _ kc_ => st66.trans kc_) ?_
  show own_Ends p e below s _ _ _ (T66.setTop (mkF m 5 #[.val (.ref oo), .val (.int x), .unset, .unset, .unset, .unset, .unset] [(.int (1 : Int32))]))
  refine own_step (fun _ kc_ => XS.ifNo X66.here hx rfl (hb hby d6_5) rfl (XT.i0_eq_f (by decide : ¬ ((1 : Int32) = 0))) (XS.iconst X66.here hx rfl (hb hby d6_8) kc_)) ?_
  show own_Ends p e below s _ _ _ (T66.setTop (mkF m 9 #[.val (.ref oo), .val (.int x), .unset, .unset, .unset, .unset, .unset] [(.int (0 : Int32))]))
  exact own_retN X66 hx (t := .boolean) hret (by simp) hlk (hb hby d6_9) (by decide) (by decide) rfl ⟨rfl, N66, e66h⟩
theorem ef_rmAB0 (m : MethodId) (oo : Addr) (x : Int32) : entryFrame m #[(.ref oo), (.int x)] 7 = mkF m 0 #[.val (.ref oo), .val (.int x), .unset, .unset, .unset, .unset, .unset] [] := by first | (simp [entryFrame, mkF, argsToLocals, Value.category]; done) | rfl
def QAB0 (Z : State) (oo : Addr) (x : Int32) (ba : Addr) (ls : List Int64) (sz hv : Int32) (h0 : Heap) (n0 : Nat) (v : Option Value) (h : Heap) (L : List Loc) : Prop := v = some (.int (1 : Int32)) ∧ Fr n0 L ∧ Keep h0 h [oo, ba] ∧ Fld Z h oo "com/example/kinds_by_value/kindsbyvalue/NameSet" "everyName" "Z" (.int (0 : Int32)) ∧ Fld Z h oo "com/example/kinds_by_value/kindsbyvalue/NameSet" "size" "I" (.int (sz + (1 : Int32))) ∧ Fld Z h oo "com/example/kinds_by_value/kindsbyvalue/NameSet" "hash" "I" (.int (hv + own_sp x)) ∧ Fld Z h oo "com/example/kinds_by_value/kindsbyvalue/NameSet" "bits" "[J" (.ref ba) ∧ Fld Z h oo "com/example/kinds_by_value/kindsbyvalue/NameSet" "table" "[I" .null ∧ own_Ar Z h ba .long ((ls.set (own_q x) (ls.getD (own_q x) 0 ||| own_w x)).map Value.long)
set_option maxRecDepth 65536 in
set_option maxHeartbeats 40000000 in
theorem rmAB0 (l : Launch) (Z : State) (a0 : Array Value) (hw : ∀ d ∈ tables_1, d.before a0 Z = true) (ws : List Jvm.Cond) (oo : Addr) (x : Int32) (ba : Addr) (ls : List Int64) (sz hv : Int32) (h0 : Heap) (n0 : Nat) (Z0 : n0 ≤ h0.size) (E0 : Exa Z h0 oo "com/example/kinds_by_value/kindsbyvalue/NameSet") (f0 : Fld Z h0 oo "com/example/kinds_by_value/kindsbyvalue/NameSet" "everyName" "Z" (.int (0 : Int32))) (f1 : Fld Z h0 oo "com/example/kinds_by_value/kindsbyvalue/NameSet" "bits" "[J" (.ref ba)) (A0 : own_Ar Z h0 ba .long (ls.map Value.long)) (hx0 : 0 ≤ x.toInt) (hx1 : own_q x < ls.length) (hr : ls.getD (own_q x) 0 &&& own_w x = 0) (f2 : Fld Z h0 oo "com/example/kinds_by_value/kindsbyvalue/NameSet" "table" "[I" .null) (f3 : Fld Z h0 oo "com/example/kinds_by_value/kindsbyvalue/NameSet" "size" "I" (.int sz)) (f4 : Fld Z h0 oo "com/example/kinds_by_value/kindsbyvalue/NameSet" "hash" "I" (.int hv)) (g0 : n0 ≤ oo) (g1 : n0 ≤ ba) (ne0 : oo ≠ ba) :
    MetFree l (⟨"com/example/kinds_by_value/kindsbyvalue/NameSet", "add", "(I)Z"⟩ : MethodName) (head1 (Jvm.Cond.code (⟨"com/example/kinds_by_value/kindsbyvalue/NameSet", "add", "(I)Z"⟩ : MethodName) prog_9_method_3_code 7 (some .boolean) :: ws) ({ frames := 3, cells := 0, slots := 0, locals := 43 } : Room)) (fun a U => a = #[(.ref oo), (.int x)] ∧ Z.Warmed39 U.vm ∧ U.heap = h0) (fun _ _ _ _ _ => True) (fun _ U o U' => ∃ v L, o = .returned v ∧ QAB0 Z oo x ba ls sz hv h0 n0 v U'.heap L ∧ FrameEnd U o U' L ({ frames := 3, cells := 0, slots := 0, locals := 43 } : Room).cells ({ frames := 3, cells := 0, slots := 0, locals := 43 } : Room).slots) := by
  refine MetFree.of_bodySF (plainFor_of_name pn_2) hisR ?_
  intro p e s m args below meth c s₁ Bd hml0 hP hK
  obtain ⟨rfl, hZ, hh⟩ := hP
  have hx := Bd.exec
  have hby := Bd.bytes
  have hlk : meth.locks = false := BodyLoose.notSynchronized Bd
  have hret := Bd.returns
  have hml : c.maxLocals = 7 := hml0
  have hown : s.vm.findClass "com/example/kinds_by_value/kindsbyvalue/NameSet" = some m.cls := findClass_of_methodNamed Bd.named
  have hnm := (name_of_methodNamed Bd.named Bd.method).1
  have X0 : Stand p l e ({ frames := 3, cells := 0, slots := 0, locals := 43 } : Room) s m #[(.ref oo), (.int x)] below meth c s₁ [] 0 0 := Stand.of_body Bd
  have e0 : s₁.heap = h0 := by rw [← hh, Bd.state]; rfl
  have N0 := Fr.nil n0
  show own_Ends p e below s 0 0 (QAB0 Z oo x ba ls sz hv h0 n0) (s₁.setTop (entryFrame m #[(.ref oo), (.int x)] 7))
  refine own_step (fun t k => castTop (ef_rmAB0 m oo x) k) ?_
  show own_Ends p e below s _ _ _ (s₁.setTop (mkF m 0 #[.val (.ref oo), .val (.int x), .unset, .unset, .unset, .unset, .unset] []))
  refine own_step (fun _ kc_ => XS.aloadN X0.here hx rfl (hb hby d6_0) rfl rfl (XS.iloadN X0.here hx rfl (hb hby d6_1) rfl kc_)) ?_
  show own_Ends p e below s _ _ _ (s₁.setTop (mkF m 2 #[.val (.ref oo), .val (.int x), .unset, .unset, .unset, .unset, .unset] [(.int x), (.ref oo)]))
  obtain ⟨cq67, kq67, q67a, q67b, q67c⟩ := isOf hZ e0 E0
  obtain ⟨_, _, ⟨T67, L67, k67, n67⟩, -, X67, ⟨Lc67, hQ67, l67, y67, z67⟩, st67⟩ := X0.virtualBack hx (y := (⟨"com/example/kinds_by_value/kindsbyvalue/NameSet", "contains", "(I)Z"⟩ : MethodName)) (z := (⟨"com/example/kinds_by_value/kindsbyvalue/NameSet", "contains", "(I)Z"⟩ : MethodName)) hown (mvT hZ (hw _ (List.mem_of_getElem? (i := 41) rfl))) (mvT hZ (hw _ (List.mem_of_getElem? (i := 32) rfl))) (notFace_of_selects (args := #[]) (mvT hZ (hw _ (List.mem_of_getElem? (i := 34) rfl)))) (mvT hZ (hw _ (List.mem_of_getElem? (i := 34) rfl))) (mvT hZ (hw _ (List.mem_of_getElem? (i := 33) rfl))) (by decide) (backOf (W := 0) (rmCB0 l Z a0 hw [] oo x ba ls h0 n0 Z0 E0 f0 f1 A0 hx0 hx1 hr) hZ (hw _ (List.mem_of_getElem? (i := 35) rfl)) (hw _ (List.mem_of_getElem? (i := 2) rfl)) (by decide) (by decide)) q67a q67c (g := (mkF m 2 #[.val (.ref oo), .val (.int x), .unset, .unset, .unset, .unset, .unset] [(.int x), (.ref oo)])) rfl (by rw [hml]; rfl) (Steps.refl _) (argsL := [(.int x)]) (rest := []) (lenOf pd_4 rfl) rfl (by show 2 * 0 + _ ≤ _; exact Nat.le_of_eq rfl) (hb hby d6_2) (fun _ _ => ⟨rfl, e0, (by decide : 0 + 0 ≤ _), (by decide : 0 + 0 ≤ _)⟩)
  dsimp only [Pt.U, Pt.locs, Pt.cells, Pt.slots] at X67 l67 y67 z67 st67 hQ67
  subst y67 z67
  obtain ⟨rfl, N67q, e67⟩ := hQ67
  have e67h : T67.heap = h0 := e67
  have N67 : Fr n0 L67 := by rw [l67]; exact Fr.app N0 N67q
  refine own_step (fun _ kc_ => st67.trans kc_) ?_
  show own_Ends p e below s _ _ _ (T67.setTop (mkF m 5 #[.val (.ref oo), .val (.int x), .unset, .unset, .unset, .unset, .unset] [(.int (0 : Int32))]))
  refine own_step (fun _ kc_ => XS.ifYes X67.here hx rfl (pc0 := 5) (pc' := 10) rfl (hb hby d6_5) rfl (XT.i0_eq_t (by decide : (0 : Int32) = 0)) (by decide) (by decide) (XS.aloadN X67.here hx rfl (hb hby d6_10) rfl rfl kc_)) ?_
  show own_Ends p e below s _ _ _ (T67.setTop (mkF m 11 #[.val (.ref oo), .val (.int x), .unset, .unset, .unset, .unset, .unset] [(.ref oo)]))
  obtain ⟨T68, X68, e68, st68⟩ := getF X67 hx hZ hown (host := "") (Or.inl (hw _ (List.mem_of_getElem? (i := 10) rfl))) Via.refl e67h f1 (g := (mkF m 11 #[.val (.ref oo), .val (.int x), .unset, .unset, .unset, .unset, .unset] [(.ref oo)])) rfl rfl (hb hby d6_11)
  refine own_step (fun _ kc_ => st68 _ kc_) ?_
  show own_Ends p e below s _ _ _ (T68.setTop (mkF m 14 #[.val (.ref oo), .val (.int x), .unset, .unset, .unset, .unset, .unset] [(.ref ba)]))
  refine own_step (fun _ kc_ => XS.ifnullNo X68.here hx rfl (hb hby d6_14) rfl (XS.aloadN X68.here hx rfl (hb hby d6_17) rfl rfl kc_)) ?_
  show own_Ends p e below s _ _ _ (T68.setTop (mkF m 18 #[.val (.ref oo), .val (.int x), .unset, .unset, .unset, .unset, .unset] [(.ref oo)]))
  obtain ⟨T69, X69, e69, st69⟩ := getF X68 hx hZ hown (host := "") (Or.inl (hw _ (List.mem_of_getElem? (i := 10) rfl))) Via.refl e68 f1 (g := (mkF m 18 #[.val (.ref oo), .val (.int x), .unset, .unset, .unset, .unset, .unset] [(.ref oo)])) rfl rfl (hb hby d6_18)
  refine own_step (fun _ kc_ => st69 _ kc_) ?_
  show own_Ends p e below s _ _ _ (T69.setTop (mkF m 21 #[.val (.ref oo), .val (.int x), .unset, .unset, .unset, .unset, .unset] [(.ref ba)]))
  refine own_step (fun _ kc_ => XS.iloadN X69.here hx rfl (hb hby d6_21) rfl (XS.bipush X69.here hx rfl (hb hby d6_22) (XS.idiv X69.here hx rfl (hb hby d6_24) rfl (by decide) (XT.dup2 X69.here hx rfl (hb hby d6_25) rfl rfl rfl (own_laload X69 hx hZ e69 A0 (j := (x / (64 : Int32))) (own_div x hx0).1 (i := own_q x) (own_div x hx0).2 (v := (.long (ls.getD (own_q x) 0))) (own_rdL hx1) (hb hby d6_26) _ (XS.lconst X69.here hx rfl (hb hby d6_27) (XS.iloadN X69.here hx rfl (hb hby d6_28) rfl (XS.lshl X69.here hx rfl (hb hby d6_29) rfl kc_)))))))) ?_
  show own_Ends p e below s _ _ _ (T69.setTop (mkF m 30 #[.val (.ref oo), .val (.int x), .unset, .unset, .unset, .unset, .unset] [(.long ((1 : Int64) <<< (x &&& 0x3f).toInt64)), (.long (ls.getD (own_q x) 0)), (.int (x / (64 : Int32))), (.ref ba)]))
  refine own_step (fun _ kc_ => XS.lor X69.here hx rfl (hb hby d6_30) rfl kc_) ?_
  show own_Ends p e below s _ _ _ (T69.setTop (mkF m 31 #[.val (.ref oo), .val (.int x), .unset, .unset, .unset, .unset, .unset] [(.long ((ls.getD (own_q x) 0) ||| ((1 : Int64) <<< (x &&& 0x3f).toInt64))), (.int (x / (64 : Int32))), (.ref ba)]))
  obtain ⟨T70, h70, X70, e70, W70, A70, st70⟩ := own_lastore X69 hx hZ e69 A0 (j := (x / (64 : Int32))) (x := ((ls.getD (own_q x) 0) ||| ((1 : Int64) <<< (x &&& 0x3f).toInt64))) (own_div x hx0).1 (i := own_q x) (own_div x hx0).2 (by rw [List.length_map]; exact hx1) (Ls := #[.val (.ref oo), .val (.int x), .unset, .unset, .unset, .unset, .unset]) (st := []) (hb hby d6_31)
  have A_ba_70 : own_Ar Z h70 ba .long ((ls.set (own_q x) (ls.getD (own_q x) 0 ||| own_w x)).map Value.long) := A70.cast (by rw [List.map_set]; rfl)
  have E_oo_70 := (E0).wr W70
  have F_oo_everyName_70 := (f0).other W70 (Or.inl ne0)
  have F_oo_bits_70 := (f1).other W70 (Or.inl ne0)
  have F_oo_size_70 := (f3).other W70 (Or.inl ne0)
  have F_oo_hash_70 := (f4).other W70 (Or.inl ne0)
  have F_oo_table_70 := (f2).other W70 (Or.inl ne0)
  have K70 := ((Keep.refl h0 [oo, ba])).wr W70 (Or.inl (List.mem_of_getElem? (i := 1) rfl))
  have Zs70 := Nat.le_trans Z0 (Nat.le_of_eq W70.size.symm)
  have N70 := Fr.snoc X70 N67 g1
  refine own_step (fun _ kc_ => st70 _ kc_) ?_
  show own_Ends p e below s _ _ _ (T70.setTop (mkF m 32 #[.val (.ref oo), .val (.int x), .unset, .unset, .unset, .unset, .unset] []))
  refine own_step (fun _ kc_ => XS.goto X70.here hx rfl (pc0 := 32) (pc' := 122) rfl (hb hby d6_32) (by decide) (by decide) (XS.aloadN X70.here hx rfl (hb hby d6_122) rfl rfl (XS.dup X70.here hx rfl (hb hby d6_123) rfl rfl kc_))) ?_
  show own_Ends p e below s _ _ _ (T70.setTop (mkF m 124 #[.val (.ref oo), .val (.int x), .unset, .unset, .unset, .unset, .unset] [(.ref oo), (.ref oo)]))
  obtain ⟨T71, X71, e71, st71⟩ := getF X70 hx hZ hown (host := "") (Or.inl (hw _ (List.mem_of_getElem? (i := 21) rfl))) Via.refl e70 F_oo_size_70 (g := (mkF m 124 #[.val (.ref oo), .val (.int x), .unset, .unset, .unset, .unset, .unset] [(.ref oo), (.ref oo)])) rfl rfl (hb hby d6_124)
  refine own_step (fun _ kc_ => st71 _ kc_) ?_
  show own_Ends p e below s _ _ _ (T71.setTop (mkF m 127 #[.val (.ref oo), .val (.int x), .unset, .unset, .unset, .unset, .unset] [(.int sz), (.ref oo)]))
  refine own_step (fun _ kc_ => XS.iconst X71.here hx rfl (hb hby d6_127) (XS.iadd X71.here hx rfl (hb hby d6_128) rfl kc_)) ?_
  show own_Ends p e below s _ _ _ (T71.setTop (mkF m 129 #[.val (.ref oo), .val (.int x), .unset, .unset, .unset, .unset, .unset] [(.int (sz + (1 : Int32))), (.ref oo)]))
  obtain ⟨T72, h72, X72, e72, W72, st72⟩ := putF X71 hx hZ hown (host := "") (Or.inl (hw _ (List.mem_of_getElem? (i := 21) rfl))) Via.refl e71 F_oo_size_70 E_oo_70 (Or.inl (hw _ (List.mem_of_getElem? (i := 22) rfl))) (hw _ (List.mem_of_getElem? (i := 1) rfl)) (ty := .int) (by decide) rfl rfl (g := (mkF m 129 #[.val (.ref oo), .val (.int x), .unset, .unset, .unset, .unset, .unset] [(.int (sz + (1 : Int32))), (.ref oo)])) rfl rfl (hb hby d6_129)
  have E_oo_72 := (E_oo_70).wr W72
  have F_oo_everyName_72 := (F_oo_everyName_70).other W72 (Or.inr (slot_ne (Or.inl (hw _ (List.mem_of_getElem? (i := 18) rfl))) (Or.inl (hw _ (List.mem_of_getElem? (i := 22) rfl))) (by decide) (t := .boolean) (t' := .int) (by decide) (by decide)))
  have F_oo_bits_72 := (F_oo_bits_70).other W72 (Or.inr (slot_ne (Or.inl (hw _ (List.mem_of_getElem? (i := 11) rfl))) (Or.inl (hw _ (List.mem_of_getElem? (i := 22) rfl))) (by decide) (t := (.array .long)) (t' := .int) (by decide) (by decide)))
  have A_ba_72 := (A_ba_70).other W72 (Ne.symm ne0)
  have F_oo_size_72 := (F_oo_size_70).same W72
  have F_oo_hash_72 := (F_oo_hash_70).other W72 (Or.inr (slot_ne (Or.inl (hw _ (List.mem_of_getElem? (i := 24) rfl))) (Or.inl (hw _ (List.mem_of_getElem? (i := 22) rfl))) (by decide) (t := .int) (t' := .int) (by decide) (by decide)))
  have F_oo_table_72 := (F_oo_table_70).other W72 (Or.inr (slot_ne (Or.inl (hw _ (List.mem_of_getElem? (i := 20) rfl))) (Or.inl (hw _ (List.mem_of_getElem? (i := 22) rfl))) (by decide) (t := (.array .int)) (t' := .int) (by decide) (by decide)))
  have K72 := (K70).wr W72 (Or.inl (List.mem_of_getElem? (i := 0) rfl))
  have Zs72 := Nat.le_trans Zs70 (Nat.le_of_eq W72.size.symm)
  have N72 := Fr.snoc X72 N70 g0
  refine own_step (fun _ kc_ => st72 _ kc_) ?_
  show own_Ends p e below s _ _ _ (T72.setTop (mkF m 132 #[.val (.ref oo), .val (.int x), .unset, .unset, .unset, .unset, .unset] []))
  refine own_step (fun _ kc_ => XS.aloadN X72.here hx rfl (hb hby d6_132) rfl rfl (XS.dup X72.here hx rfl (hb hby d6_133) rfl rfl kc_)) ?_
  show own_Ends p e below s _ _ _ (T72.setTop (mkF m 134 #[.val (.ref oo), .val (.int x), .unset, .unset, .unset, .unset, .unset] [(.ref oo), (.ref oo)]))
  obtain ⟨T73, X73, e73, st73⟩ := getF X72 hx hZ hown (host := "") (Or.inl (hw _ (List.mem_of_getElem? (i := 23) rfl))) Via.refl e72 F_oo_hash_72 (g := (mkF m 134 #[.val (.ref oo), .val (.int x), .unset, .unset, .unset, .unset, .unset] [(.ref oo), (.ref oo)])) rfl rfl (hb hby d6_134)
  refine own_step (fun _ kc_ => st73 _ kc_) ?_
  show own_Ends p e below s _ _ _ (T73.setTop (mkF m 137 #[.val (.ref oo), .val (.int x), .unset, .unset, .unset, .unset, .unset] [(.int hv), (.ref oo)]))
  refine own_step (fun _ kc_ => XS.iloadN X73.here hx rfl (hb hby d6_137) rfl kc_) ?_
  show own_Ends p e below s _ _ _ (T73.setTop (mkF m 138 #[.val (.ref oo), .val (.int x), .unset, .unset, .unset, .unset, .unset] [(.int x), (.int hv), (.ref oo)]))
  obtain ⟨_, _, ⟨T74, L74, k74, n74⟩, -, X74, ⟨Lc74, hQ74, l74, y74, z74⟩, st74⟩ := Jvm.LawKit.callS X73 hx (y := (⟨"com/example/kinds_by_value/kindsbyvalue/Hashes", "spread", "(I)I"⟩ : MethodName)) hown (mvT hZ (hw _ (List.mem_of_getElem? (i := 74) rfl))) (mvT hZ (hw _ (List.mem_of_getElem? (i := 75) rfl))) (mvT hZ (hw _ (List.mem_of_getElem? (i := 76) rfl))) (mvT hZ (hw _ (List.mem_of_getElem? (i := 77) rfl))) (by decide) (backOf (W := 2) (rm13 l Z a0 hw [] x  h72 n0 Zs72 ) hZ (hw _ (List.mem_of_getElem? (i := 77) rfl)) (hw _ (List.mem_of_getElem? (i := 76) rfl)) (by decide) (by decide)) (g := (mkF m 138 #[.val (.ref oo), .val (.int x), .unset, .unset, .unset, .unset, .unset] [(.int x), (.int hv), (.ref oo)])) rfl (by rw [hml]; rfl) (argsL := [(.int x)]) (rest := [(.int hv), (.ref oo)]) (lenOf pd_3 rfl) rfl (by show 2 * 0 + _ ≤ _; exact Nat.le_of_eq rfl) (hb hby d6_138) (fun _ _ => ⟨rfl, e73, (by decide : 0 + 0 ≤ _), (by decide : 0 + 0 ≤ _)⟩)
  dsimp only [Pt.U, Pt.locs, Pt.cells, Pt.slots] at X74 l74 y74 z74 st74 hQ74
  subst y74 z74
  obtain ⟨rfl, N74q, e74⟩ := hQ74
  have e74h : T74.heap = h72 := e74
  have N74 : Fr n0 L74 := by rw [l74]; exact Fr.app N72 N74q
  refine own_step (fun _ kc_ => st74 _ kc_) ?_
  show own_Ends p e below s _ _ _ (T74.setTop (mkF m 141 #[.val (.ref oo), .val (.int x), .unset, .unset, .unset, .unset, .unset] [(.int (own_sp x)), (.int hv), (.ref oo)]))
  refine own_step (fun _ kc_ => XS.iadd X74.here hx rfl (hb hby d6_141) rfl kc_) ?_
  show own_Ends p e below s _ _ _ (T74.setTop (mkF m 142 #[.val (.ref oo), .val (.int x), .unset, .unset, .unset, .unset, .unset] [(.int (hv + (own_sp x))), (.ref oo)]))
  obtain ⟨T75, h75, X75, e75, W75, st75⟩ := putF X74 hx hZ hown (host := "") (Or.inl (hw _ (List.mem_of_getElem? (i := 23) rfl))) Via.refl e74h F_oo_hash_72 E_oo_72 (Or.inl (hw _ (List.mem_of_getElem? (i := 24) rfl))) (hw _ (List.mem_of_getElem? (i := 1) rfl)) (ty := .int) (by decide) rfl rfl (g := (mkF m 142 #[.val (.ref oo), .val (.int x), .unset, .unset, .unset, .unset, .unset] [(.int (hv + (own_sp x))), (.ref oo)])) rfl rfl (hb hby d6_142)
  have E_oo_75 := (E_oo_72).wr W75
  have F_oo_everyName_75 := (F_oo_everyName_72).other W75 (Or.inr (slot_ne (Or.inl (hw _ (List.mem_of_getElem? (i := 18) rfl))) (Or.inl (hw _ (List.mem_of_getElem? (i := 24) rfl))) (by decide) (t := .boolean) (t' := .int) (by decide) (by decide)))
  have F_oo_bits_75 := (F_oo_bits_72).other W75 (Or.inr (slot_ne (Or.inl (hw _ (List.mem_of_getElem? (i := 11) rfl))) (Or.inl (hw _ (List.mem_of_getElem? (i := 24) rfl))) (by decide) (t := (.array .long)) (t' := .int) (by decide) (by decide)))
  have A_ba_75 := (A_ba_72).other W75 (Ne.symm ne0)
  have F_oo_size_75 := (F_oo_size_72).other W75 (Or.inr (slot_ne (Or.inl (hw _ (List.mem_of_getElem? (i := 22) rfl))) (Or.inl (hw _ (List.mem_of_getElem? (i := 24) rfl))) (by decide) (t := .int) (t' := .int) (by decide) (by decide)))
  have F_oo_hash_75 := (F_oo_hash_72).same W75
  have F_oo_table_75 := (F_oo_table_72).other W75 (Or.inr (slot_ne (Or.inl (hw _ (List.mem_of_getElem? (i := 20) rfl))) (Or.inl (hw _ (List.mem_of_getElem? (i := 24) rfl))) (by decide) (t := (.array .int)) (t' := .int) (by decide) (by decide)))
  have K75 := (K72).wr W75 (Or.inl (List.mem_of_getElem? (i := 0) rfl))
  have Zs75 := Nat.le_trans Zs72 (Nat.le_of_eq W75.size.symm)
  have N75 := Fr.snoc X75 N74 g0
  refine own_step (fun _ kc_ => st75 _ kc_) ?_
  show own_Ends p e below s _ _ _ (T75.setTop (mkF m 145 #[.val (.ref oo), .val (.int x), .unset, .unset, .unset, .unset, .unset] []))
  refine own_step (fun _ kc_ => XS.iconst X75.here hx rfl (hb hby d6_145) kc_) ?_
  show own_Ends p e below s _ _ _ (T75.setTop (mkF m 146 #[.val (.ref oo), .val (.int x), .unset, .unset, .unset, .unset, .unset] [(.int (1 : Int32))]))
  exact own_retN X75 hx (t := .boolean) hret (by simp) hlk (hb hby d6_146) (by decide) (by decide) rfl (by rw [e75]; exact ⟨rfl, N75, K75, F_oo_everyName_75, F_oo_size_75, F_oo_hash_75, F_oo_bits_75, F_oo_table_75, A_ba_75⟩)
theorem d4_0 : decode prog_9_method_5_code 0 = .ok (.aload_n 0, 1) := by decide +kernel
theorem d4_1 : decode prog_9_method_5_code 1 = .ok (.getfield 25, 3) := by decide +kernel
theorem d4_4 : decode prog_9_method_5_code 4 = .ok (.ireturn, 1) := by decide +kernel
theorem d8_0 : decode prog_9_method_7_code 0 = .ok (.aload_n 1, 1) := by decide +kernel
theorem d8_1 : decode prog_9_method_7_code 1 = .ok (.instanceof 1, 3) := by decide +kernel
theorem d8_4 : decode prog_9_method_7_code 4 = .ok (.ifCond .eq 41, 3) := by decide +kernel
theorem d8_7 : decode prog_9_method_7_code 7 = .ok (.aload_n 1, 1) := by decide +kernel
theorem d8_8 : decode prog_9_method_7_code 8 = .ok (.checkcast 1, 3) := by decide +kernel
theorem d8_11 : decode prog_9_method_7_code 11 = .ok (.astore_n 2, 1) := by decide +kernel
theorem d8_12 : decode prog_9_method_7_code 12 = .ok (.aload_n 2, 1) := by decide +kernel
theorem d8_13 : decode prog_9_method_7_code 13 = .ok (.getfield 25, 3) := by decide +kernel
theorem d8_16 : decode prog_9_method_7_code 16 = .ok (.aload_n 0, 1) := by decide +kernel
theorem d8_17 : decode prog_9_method_7_code 17 = .ok (.getfield 25, 3) := by decide +kernel
theorem d8_20 : decode prog_9_method_7_code 20 = .ok (.if_icmp .ne 25, 3) := by decide +kernel
theorem d8_23 : decode prog_9_method_7_code 23 = .ok (.aload_n 2, 1) := by decide +kernel
theorem d8_24 : decode prog_9_method_7_code 24 = .ok (.getfield 37, 3) := by decide +kernel
theorem d8_27 : decode prog_9_method_7_code 27 = .ok (.aload_n 0, 1) := by decide +kernel
theorem d8_28 : decode prog_9_method_7_code 28 = .ok (.getfield 37, 3) := by decide +kernel
theorem d8_31 : decode prog_9_method_7_code 31 = .ok (.if_icmp .ne 14, 3) := by decide +kernel
theorem d8_34 : decode prog_9_method_7_code 34 = .ok (.aload_n 2, 1) := by decide +kernel
theorem d8_35 : decode prog_9_method_7_code 35 = .ok (.getfield 45, 3) := by decide +kernel
theorem d8_38 : decode prog_9_method_7_code 38 = .ok (.aload_n 0, 1) := by decide +kernel
theorem d8_39 : decode prog_9_method_7_code 39 = .ok (.getfield 45, 3) := by decide +kernel
theorem d8_42 : decode prog_9_method_7_code 42 = .ok (.if_icmp .eq 5, 3) := by decide +kernel
theorem d8_45 : decode prog_9_method_7_code 45 = .ok (.iconst 0, 1) := by decide +kernel
theorem d8_46 : decode prog_9_method_7_code 46 = .ok (.ireturn, 1) := by decide +kernel
theorem d8_47 : decode prog_9_method_7_code 47 = .ok (.aload_n 0, 1) := by decide +kernel
theorem d8_48 : decode prog_9_method_7_code 48 = .ok (.getfield 13, 3) := by decide +kernel
theorem d8_51 : decode prog_9_method_7_code 51 = .ok (.ifnull 25, 3) := by decide +kernel
theorem d8_54 : decode prog_9_method_7_code 54 = .ok (.aload_n 2, 1) := by decide +kernel
theorem d8_55 : decode prog_9_method_7_code 55 = .ok (.getfield 13, 3) := by decide +kernel
theorem d8_58 : decode prog_9_method_7_code 58 = .ok (.ifnull 18, 3) := by decide +kernel
theorem d8_61 : decode prog_9_method_7_code 61 = .ok (.aload_n 0, 1) := by decide +kernel
theorem d8_62 : decode prog_9_method_7_code 62 = .ok (.getfield 13, 3) := by decide +kernel
theorem d8_65 : decode prog_9_method_7_code 65 = .ok (.aload_n 2, 1) := by decide +kernel
theorem d8_66 : decode prog_9_method_7_code 66 = .ok (.getfield 13, 3) := by decide +kernel
theorem d8_69 : decode prog_9_method_7_code 69 = .ok (.invokestatic 71, 3) := by decide +kernel
theorem d8_72 : decode prog_9_method_7_code 72 = .ok (.istore_n 3, 1) := by decide +kernel
theorem d8_73 : decode prog_9_method_7_code 73 = .ok (.goto 42, 3) := by decide +kernel
theorem d8_76 : decode prog_9_method_7_code 76 = .ok (.aload_n 0, 1) := by decide +kernel
theorem d8_77 : decode prog_9_method_7_code 77 = .ok (.getfield 25, 3) := by decide +kernel
theorem d8_80 : decode prog_9_method_7_code 80 = .ok (.ifCond .ne 29, 3) := by decide +kernel
theorem d8_83 : decode prog_9_method_7_code 83 = .ok (.aload_n 0, 1) := by decide +kernel
theorem d8_84 : decode prog_9_method_7_code 84 = .ok (.invokevirtual 41, 3) := by decide +kernel
theorem d8_87 : decode prog_9_method_7_code 87 = .ok (.invokestatic 75, 3) := by decide +kernel
theorem d8_90 : decode prog_9_method_7_code 90 = .ok (.aload_n 2, 1) := by decide +kernel
theorem d8_91 : decode prog_9_method_7_code 91 = .ok (.dup, 1) := by decide +kernel
theorem d8_92 : decode prog_9_method_7_code 92 = .ok (.invokestatic 79, 3) := by decide +kernel
theorem d8_95 : decode prog_9_method_7_code 95 = .ok (.pop, 1) := by decide +kernel
theorem d8_96 : decode prog_9_method_7_code 96 = .ok (.invokedynamic 85, 5) := by decide +kernel
theorem d8_101 : decode prog_9_method_7_code 101 = .ok (.invokeinterface 89 2, 5) := by decide +kernel
theorem d8_106 : decode prog_9_method_7_code 106 = .ok (.ifCond .eq 7, 3) := by decide +kernel
theorem d8_109 : decode prog_9_method_7_code 109 = .ok (.iconst 1, 1) := by decide +kernel
theorem d8_110 : decode prog_9_method_7_code 110 = .ok (.goto 4, 3) := by decide +kernel
theorem d8_113 : decode prog_9_method_7_code 113 = .ok (.iconst 0, 1) := by decide +kernel
theorem d8_114 : decode prog_9_method_7_code 114 = .ok (.istore_n 3, 1) := by decide +kernel
theorem d8_115 : decode prog_9_method_7_code 115 = .ok (.iload_n 3, 1) := by decide +kernel
theorem d8_116 : decode prog_9_method_7_code 116 = .ok (.ireturn, 1) := by decide +kernel
theorem pd_5 : parseMethodDescriptor "(Ljava/lang/Object;)Ljava/lang/Object;" = some ⟨[(.object "java/lang/Object")], some (.object "java/lang/Object")⟩ := by decide +kernel
theorem d9_0 : decode prog_9_method_6_code 0 = .ok (.aload_n 0, 1) := by decide +kernel
theorem d9_1 : decode prog_9_method_6_code 1 = .ok (.getfield 25, 3) := by decide +kernel
theorem d9_4 : decode prog_9_method_6_code 4 = .ok (.ifCond .eq 19, 3) := by decide +kernel
theorem d9_7 : decode prog_9_method_6_code 7 = .ok (.iload_n 1, 1) := by decide +kernel
theorem d9_8 : decode prog_9_method_6_code 8 = .ok (.newarray .int, 2) := by decide +kernel
theorem d9_10 : decode prog_9_method_6_code 10 = .ok (.astore_n 2, 1) := by decide +kernel
theorem d9_11 : decode prog_9_method_6_code 11 = .ok (.aload_n 2, 1) := by decide +kernel
theorem d9_12 : decode prog_9_method_6_code 12 = .ok (.invokedynamic 53, 5) := by decide +kernel
theorem d9_17 : decode prog_9_method_6_code 17 = .ok (.invokestatic 57, 3) := by decide +kernel
theorem d9_20 : decode prog_9_method_6_code 20 = .ok (.goto 75, 3) := by decide +kernel
theorem d9_23 : decode prog_9_method_6_code 23 = .ok (.aload_n 0, 1) := by decide +kernel
theorem d9_24 : decode prog_9_method_6_code 24 = .ok (.invokevirtual 41, 3) := by decide +kernel
theorem d9_27 : decode prog_9_method_6_code 27 = .ok (.astore_n 3, 1) := by decide +kernel
theorem d9_28 : decode prog_9_method_6_code 28 = .ok (.iconst 0, 1) := by decide +kernel
theorem d9_29 : decode prog_9_method_6_code 29 = .ok (.istore 4, 2) := by decide +kernel
theorem d9_31 : decode prog_9_method_6_code 31 = .ok (.aload_n 3, 1) := by decide +kernel
theorem d9_32 : decode prog_9_method_6_code 32 = .ok (.astore 5, 2) := by decide +kernel
theorem d9_34 : decode prog_9_method_6_code 34 = .ok (.aload 5, 2) := by decide +kernel
theorem d9_36 : decode prog_9_method_6_code 36 = .ok (.arraylength, 1) := by decide +kernel
theorem d9_37 : decode prog_9_method_6_code 37 = .ok (.istore 6, 2) := by decide +kernel
theorem d9_39 : decode prog_9_method_6_code 39 = .ok (.iconst 0, 1) := by decide +kernel
theorem d9_40 : decode prog_9_method_6_code 40 = .ok (.istore 7, 2) := by decide +kernel
theorem d9_42 : decode prog_9_method_6_code 42 = .ok (.iload 7, 2) := by decide +kernel
theorem d9_44 : decode prog_9_method_6_code 44 = .ok (.iload 6, 2) := by decide +kernel
theorem d9_46 : decode prog_9_method_6_code 46 = .ok (.if_icmp .ge 31, 3) := by decide +kernel
theorem d9_49 : decode prog_9_method_6_code 49 = .ok (.aload 5, 2) := by decide +kernel
theorem d9_51 : decode prog_9_method_6_code 51 = .ok (.iload 7, 2) := by decide +kernel
theorem d9_53 : decode prog_9_method_6_code 53 = .ok (.iaload, 1) := by decide +kernel
theorem d9_54 : decode prog_9_method_6_code 54 = .ok (.istore 8, 2) := by decide +kernel
theorem d9_56 : decode prog_9_method_6_code 56 = .ok (.iload 8, 2) := by decide +kernel
theorem d9_58 : decode prog_9_method_6_code 58 = .ok (.iload_n 1, 1) := by decide +kernel
theorem d9_59 : decode prog_9_method_6_code 59 = .ok (.if_icmp .ge 12, 3) := by decide +kernel
theorem d9_62 : decode prog_9_method_6_code 62 = .ok (.aload_n 3, 1) := by decide +kernel
theorem d9_63 : decode prog_9_method_6_code 63 = .ok (.iload 4, 2) := by decide +kernel
theorem d9_65 : decode prog_9_method_6_code 65 = .ok (.iinc 4 1, 3) := by decide +kernel
theorem d9_68 : decode prog_9_method_6_code 68 = .ok (.iload 8, 2) := by decide +kernel
theorem d9_70 : decode prog_9_method_6_code 70 = .ok (.iastore, 1) := by decide +kernel
theorem d9_71 : decode prog_9_method_6_code 71 = .ok (.iinc 7 1, 3) := by decide +kernel
theorem d9_74 : decode prog_9_method_6_code 74 = .ok (.goto (-32), 3) := by decide +kernel
theorem d9_77 : decode prog_9_method_6_code 77 = .ok (.aload_n 3, 1) := by decide +kernel
theorem d9_78 : decode prog_9_method_6_code 78 = .ok (.iload 4, 2) := by decide +kernel
theorem d9_80 : decode prog_9_method_6_code 80 = .ok (.invokestatic 63, 3) := by decide +kernel
theorem d9_83 : decode prog_9_method_6_code 83 = .ok (.astore_n 2, 1) := by decide +kernel
theorem d9_84 : decode prog_9_method_6_code 84 = .ok (.aload_n 0, 1) := by decide +kernel
theorem d9_85 : decode prog_9_method_6_code 85 = .ok (.getfield 21, 3) := by decide +kernel
theorem d9_88 : decode prog_9_method_6_code 88 = .ok (.ifnull 7, 3) := by decide +kernel
theorem d9_91 : decode prog_9_method_6_code 91 = .ok (.aload_n 2, 1) := by decide +kernel
theorem d9_92 : decode prog_9_method_6_code 92 = .ok (.invokestatic 67, 3) := by decide +kernel
theorem d9_95 : decode prog_9_method_6_code 95 = .ok (.aload_n 2, 1) := by decide +kernel
theorem d9_96 : decode prog_9_method_6_code 96 = .ok (.areturn, 1) := by decide +kernel
theorem pd_6 : parseMethodDescriptor "([ILjava/util/function/IntUnaryOperator;)V" = some ⟨[(.array .int), (.object "java/util/function/IntUnaryOperator")], none⟩ := by decide +kernel
theorem d10_0 : decode jdk_65_method_175_code 0 = .ok (.aload_n 1, 1) := by decide +kernel
theorem d10_1 : decode jdk_65_method_175_code 1 = .ok (.invokestatic 175, 3) := by decide +kernel
theorem d10_4 : decode jdk_65_method_175_code 4 = .ok (.pop, 1) := by decide +kernel
theorem d10_5 : decode jdk_65_method_175_code 5 = .ok (.iconst 0, 1) := by decide +kernel
theorem d10_6 : decode jdk_65_method_175_code 6 = .ok (.istore_n 2, 1) := by decide +kernel
theorem d10_7 : decode jdk_65_method_175_code 7 = .ok (.iload_n 2, 1) := by decide +kernel
theorem d10_8 : decode jdk_65_method_175_code 8 = .ok (.aload_n 0, 1) := by decide +kernel
theorem d10_9 : decode jdk_65_method_175_code 9 = .ok (.arraylength, 1) := by decide +kernel
theorem d10_10 : decode jdk_65_method_175_code 10 = .ok (.if_icmp .ge 19, 3) := by decide +kernel
theorem d10_13 : decode jdk_65_method_175_code 13 = .ok (.aload_n 0, 1) := by decide +kernel
theorem d10_14 : decode jdk_65_method_175_code 14 = .ok (.iload_n 2, 1) := by decide +kernel
theorem d10_15 : decode jdk_65_method_175_code 15 = .ok (.aload_n 1, 1) := by decide +kernel
theorem d10_16 : decode jdk_65_method_175_code 16 = .ok (.iload_n 2, 1) := by decide +kernel
theorem d10_17 : decode jdk_65_method_175_code 17 = .ok (.invokeinterface 582 2, 5) := by decide +kernel
theorem d10_22 : decode jdk_65_method_175_code 22 = .ok (.iastore, 1) := by decide +kernel
theorem d10_23 : decode jdk_65_method_175_code 23 = .ok (.iinc 2 1, 3) := by decide +kernel
theorem d10_26 : decode jdk_65_method_175_code 26 = .ok (.goto (-19), 3) := by decide +kernel
theorem d10_29 : decode jdk_65_method_175_code 29 = .ok (.return_, 1) := by decide +kernel
theorem d11_0 : decode jdk_31_method_10_code 0 = .ok (.aload_n 0, 1) := by decide +kernel
theorem d11_1 : decode jdk_31_method_10_code 1 = .ok (.ifnonnull 11, 3) := by decide +kernel
theorem d11_4 : decode jdk_31_method_10_code 4 = .ok (.new 84, 3) := by decide +kernel
theorem d11_7 : decode jdk_31_method_10_code 7 = .ok (.dup, 1) := by decide +kernel
theorem d11_8 : decode jdk_31_method_10_code 8 = .ok (.invokespecial 86, 3) := by decide +kernel
theorem d11_11 : decode jdk_31_method_10_code 11 = .ok (.athrow, 1) := by decide +kernel
theorem d11_12 : decode jdk_31_method_10_code 12 = .ok (.aload_n 0, 1) := by decide +kernel
theorem d11_13 : decode jdk_31_method_10_code 13 = .ok (.areturn, 1) := by decide +kernel
theorem pn_3 : plainName "java/util/Objects" = true := by first | (simp [plainName, overriddenIn]; done) | decide +kernel
theorem d12_0 : decode method_3_code 0 = .ok (.iload_n 1, 1) := by decide +kernel
theorem d12_1 : decode method_3_code 1 = .ok (.aload_n 0, 1) := by decide +kernel
theorem d12_2 : decode method_3_code 2 = .ok (.arraylength, 1) := by decide +kernel
theorem d12_3 : decode method_3_code 3 = .ok (.if_icmp .ge 10, 3) := by decide +kernel
theorem d12_6 : decode method_3_code 6 = .ok (.aload_n 0, 1) := by decide +kernel
theorem d12_7 : decode method_3_code 7 = .ok (.iload_n 1, 1) := by decide +kernel
theorem d12_8 : decode method_3_code 8 = .ok (.iaload, 1) := by decide +kernel
theorem d12_9 : decode method_3_code 9 = .ok (.iload_n 1, 1) := by decide +kernel
theorem d12_10 : decode method_3_code 10 = .ok (.if_icmp .ne 7, 3) := by decide +kernel
theorem d12_13 : decode method_3_code 13 = .ok (.iconst 1, 1) := by decide +kernel
theorem d12_14 : decode method_3_code 14 = .ok (.goto 4, 3) := by decide +kernel
theorem d12_17 : decode method_3_code 17 = .ok (.iconst 0, 1) := by decide +kernel
theorem d12_18 : decode method_3_code 18 = .ok (.ireturn, 1) := by decide +kernel
theorem pn_4 : plainName "com/example/kinds_by_value/kindsbyvalue/NameSetAddEveryNamePinLaw" = true := by first | (simp [plainName, overriddenIn]; done) | decide +kernel
theorem d14_0 : decode prog_9_method_12_code 0 = .ok (.iload_n 0, 1) := by decide +kernel
theorem d14_1 : decode prog_9_method_12_code 1 = .ok (.ireturn, 1) := by decide +kernel
theorem ef_rm4 (m : MethodId) (oo : Addr) : entryFrame m #[(.ref oo)] 1 = mkF m 0 #[.val (.ref oo)] [] := by first | (simp [entryFrame, mkF, argsToLocals, Value.category]; done) | rfl
def Q4 (Z : State) (oo : Addr)  (h0 : Heap) (n0 : Nat) (v : Option Value) (h : Heap) (L : List Loc) : Prop := v = some (.int (1 : Int32)) ∧ Fr n0 L ∧ h = h0
set_option maxRecDepth 65536 in
set_option maxHeartbeats 40000000 in
theorem rm4 (l : Launch) (Z : State) (a0 : Array Value) (hw : ∀ d ∈ tables_1, d.before a0 Z = true) (ws : List Jvm.Cond) (oo : Addr)  (h0 : Heap) (n0 : Nat) (Z0 : n0 ≤ h0.size) (f0 : Fld Z h0 oo "com/example/kinds_by_value/kindsbyvalue/NameSet" "everyName" "Z" (.int (1 : Int32))) :
    MetFree l (⟨"com/example/kinds_by_value/kindsbyvalue/NameSet", "holdsEveryName", "()Z"⟩ : MethodName) (head1 (Jvm.Cond.code (⟨"com/example/kinds_by_value/kindsbyvalue/NameSet", "holdsEveryName", "()Z"⟩ : MethodName) prog_9_method_5_code 1 (some .boolean) :: ws) ({ frames := 0, cells := 0, slots := 0, locals := 0 } : Room)) (fun a U => a = #[(.ref oo)] ∧ Z.Warmed39 U.vm ∧ U.heap = h0) (fun _ _ _ _ _ => True) (fun _ U o U' => ∃ v L, o = .returned v ∧ Q4 Z oo  h0 n0 v U'.heap L ∧ FrameEnd U o U' L ({ frames := 0, cells := 0, slots := 0, locals := 0 } : Room).cells ({ frames := 0, cells := 0, slots := 0, locals := 0 } : Room).slots) := by
  refine MetFree.of_bodySF (plainFor_of_name pn_2) hisR ?_
  intro p e s m args below meth c s₁ Bd hml0 hP hK
  obtain ⟨rfl, hZ, hh⟩ := hP
  have hx := Bd.exec
  have hby := Bd.bytes
  have hlk : meth.locks = false := BodyLoose.notSynchronized Bd
  have hret := Bd.returns
  have hml : c.maxLocals = 1 := hml0
  have hown : s.vm.findClass "com/example/kinds_by_value/kindsbyvalue/NameSet" = some m.cls := findClass_of_methodNamed Bd.named
  have hnm := (name_of_methodNamed Bd.named Bd.method).1
  have X0 : Stand p l e ({ frames := 0, cells := 0, slots := 0, locals := 0 } : Room) s m #[(.ref oo)] below meth c s₁ [] 0 0 := Stand.of_body Bd
  have e0 : s₁.heap = h0 := by rw [← hh, Bd.state]; rfl
  have N0 := Fr.nil n0
  show own_Ends p e below s 0 0 (Q4 Z oo  h0 n0) (s₁.setTop (entryFrame m #[(.ref oo)] 1))
  refine own_step (fun t k => castTop (ef_rm4 m oo) k) ?_
  show own_Ends p e below s _ _ _ (s₁.setTop (mkF m 0 #[.val (.ref oo)] []))
  refine own_step (fun _ kc_ => XS.aloadN X0.here hx rfl (hb hby d4_0) rfl rfl kc_) ?_
  show own_Ends p e below s _ _ _ (s₁.setTop (mkF m 1 #[.val (.ref oo)] [(.ref oo)]))
  obtain ⟨T76, X76, e76, st76⟩ := getF X0 hx hZ hown (host := "") (Or.inl (hw _ (List.mem_of_getElem? (i := 17) rfl))) Via.refl e0 f0 (g := (mkF m 1 #[.val (.ref oo)] [(.ref oo)])) rfl rfl (hb hby d4_1)
  refine own_step (fun _ kc_ => st76 _ kc_) ?_
  show own_Ends p e below s _ _ _ (T76.setTop (mkF m 4 #[.val (.ref oo)] [(.int (1 : Int32))]))
  exact own_retN X76 hx (t := .boolean) hret (by simp) hlk (hb hby d4_4) (by decide) (by decide) rfl ⟨rfl, N0, e76⟩
theorem ef_rmCE (m : MethodId) (oo : Addr) (x : Int32) : entryFrame m #[(.ref oo), (.int x)] 3 = mkF m 0 #[.val (.ref oo), .val (.int x), .unset] [] := by first | (simp [entryFrame, mkF, argsToLocals, Value.category]; done) | rfl
def QCE (Z : State) (oo : Addr) (x : Int32)  (h0 : Heap) (n0 : Nat) (v : Option Value) (h : Heap) (L : List Loc) : Prop := v = some (.int (1 : Int32)) ∧ Fr n0 L ∧ h = h0
set_option maxRecDepth 65536 in
set_option maxHeartbeats 40000000 in
theorem rmCE (l : Launch) (Z : State) (a0 : Array Value) (hw : ∀ d ∈ tables_1, d.before a0 Z = true) (ws : List Jvm.Cond) (oo : Addr) (x : Int32)  (h0 : Heap) (n0 : Nat) (Z0 : n0 ≤ h0.size) (f0 : Fld Z h0 oo "com/example/kinds_by_value/kindsbyvalue/NameSet" "everyName" "Z" (.int (1 : Int32))) :
    MetFree l (⟨"com/example/kinds_by_value/kindsbyvalue/NameSet", "contains", "(I)Z"⟩ : MethodName) (head1 (Jvm.Cond.code (⟨"com/example/kinds_by_value/kindsbyvalue/NameSet", "contains", "(I)Z"⟩ : MethodName) prog_9_method_2_code 3 (some .boolean) :: ws) ({ frames := 0, cells := 0, slots := 0, locals := 0 } : Room)) (fun a U => a = #[(.ref oo), (.int x)] ∧ Z.Warmed39 U.vm ∧ U.heap = h0) (fun _ _ _ _ _ => True) (fun _ U o U' => ∃ v L, o = .returned v ∧ QCE Z oo x  h0 n0 v U'.heap L ∧ FrameEnd U o U' L ({ frames := 0, cells := 0, slots := 0, locals := 0 } : Room).cells ({ frames := 0, cells := 0, slots := 0, locals := 0 } : Room).slots) := by
  refine MetFree.of_bodySF (plainFor_of_name pn_2) hisR ?_
  intro p e s m args below meth c s₁ Bd hml0 hP hK
  obtain ⟨rfl, hZ, hh⟩ := hP
  have hx := Bd.exec
  have hby := Bd.bytes
  have hlk : meth.locks = false := BodyLoose.notSynchronized Bd
  have hret := Bd.returns
  have hml : c.maxLocals = 3 := hml0
  have hown : s.vm.findClass "com/example/kinds_by_value/kindsbyvalue/NameSet" = some m.cls := findClass_of_methodNamed Bd.named
  have hnm := (name_of_methodNamed Bd.named Bd.method).1
  have X0 : Stand p l e ({ frames := 0, cells := 0, slots := 0, locals := 0 } : Room) s m #[(.ref oo), (.int x)] below meth c s₁ [] 0 0 := Stand.of_body Bd
  have e0 : s₁.heap = h0 := by rw [← hh, Bd.state]; rfl
  have N0 := Fr.nil n0
  show own_Ends p e below s 0 0 (QCE Z oo x  h0 n0) (s₁.setTop (entryFrame m #[(.ref oo), (.int x)] 3))
  refine own_step (fun t k => castTop (ef_rmCE m oo x) k) ?_
  show own_Ends p e below s _ _ _ (s₁.setTop (mkF m 0 #[.val (.ref oo), .val (.int x), .unset] []))
  refine own_step (fun _ kc_ => XS.aloadN X0.here hx rfl (hb hby d5_0) rfl rfl kc_) ?_
  show own_Ends p e below s _ _ _ (s₁.setTop (mkF m 1 #[.val (.ref oo), .val (.int x), .unset] [(.ref oo)]))
  obtain ⟨T77, X77, e77, st77⟩ := getF X0 hx hZ hown (host := "") (Or.inl (hw _ (List.mem_of_getElem? (i := 17) rfl))) Via.refl e0 f0 (g := (mkF m 1 #[.val (.ref oo), .val (.int x), .unset] [(.ref oo)])) rfl rfl (hb hby d5_1)
  refine own_step (fun _ kc_ => st77 _ kc_) ?_
  show own_Ends p e below s _ _ _ (T77.setTop (mkF m 4 #[.val (.ref oo), .val (.int x), .unset] [(.int (1 : Int32))]))
  refine own_step (fun _ kc_ => XS.ifNo X77.here hx rfl (hb hby d5_4) rfl (XT.i0_eq_f (by decide : ¬ ((1 : Int32) = 0))) (XS.iconst X77.here hx rfl (hb hby d5_7) (XS.istoreN X77.here hx rfl (hb hby d5_8) rfl (l' := #[.val (.ref oo), .val (.int x), .val (.int (1 : Int32))]) rfl (XS.goto X77.here hx rfl (pc0 := 9) (pc' := 66) rfl (hb hby d5_9) (by decide) (by decide) (XS.iloadN X77.here hx rfl (hb hby d5_66) rfl kc_))))) ?_
  show own_Ends p e below s _ _ _ (T77.setTop (mkF m 67 #[.val (.ref oo), .val (.int x), .val (.int (1 : Int32))] [(.int (1 : Int32))]))
  exact own_retN X77 hx (t := .boolean) hret (by simp) hlk (hb hby d5_67) (by decide) (by decide) rfl ⟨rfl, N0, e77⟩
theorem ef_rmAE (m : MethodId) (oo : Addr) (x : Int32) : entryFrame m #[(.ref oo), (.int x)] 7 = mkF m 0 #[.val (.ref oo), .val (.int x), .unset, .unset, .unset, .unset, .unset] [] := by first | (simp [entryFrame, mkF, argsToLocals, Value.category]; done) | rfl
def QAE (Z : State) (oo : Addr) (x : Int32)  (h0 : Heap) (n0 : Nat) (v : Option Value) (h : Heap) (L : List Loc) : Prop := v = some (.int (0 : Int32)) ∧ Fr n0 L ∧ h = h0
set_option maxRecDepth 65536 in
set_option maxHeartbeats 40000000 in
theorem rmAE (l : Launch) (Z : State) (a0 : Array Value) (hw : ∀ d ∈ tables_1, d.before a0 Z = true) (ws : List Jvm.Cond) (oo : Addr) (x : Int32)  (h0 : Heap) (n0 : Nat) (Z0 : n0 ≤ h0.size) (E0 : Exa Z h0 oo "com/example/kinds_by_value/kindsbyvalue/NameSet") (f0 : Fld Z h0 oo "com/example/kinds_by_value/kindsbyvalue/NameSet" "everyName" "Z" (.int (1 : Int32))) :
    MetFree l (⟨"com/example/kinds_by_value/kindsbyvalue/NameSet", "add", "(I)Z"⟩ : MethodName) (head1 (Jvm.Cond.code (⟨"com/example/kinds_by_value/kindsbyvalue/NameSet", "add", "(I)Z"⟩ : MethodName) prog_9_method_3_code 7 (some .boolean) :: ws) ({ frames := 1, cells := 0, slots := 0, locals := 14 } : Room)) (fun a U => a = #[(.ref oo), (.int x)] ∧ Z.Warmed39 U.vm ∧ U.heap = h0) (fun _ _ _ _ _ => True) (fun _ U o U' => ∃ v L, o = .returned v ∧ QAE Z oo x  h0 n0 v U'.heap L ∧ FrameEnd U o U' L ({ frames := 1, cells := 0, slots := 0, locals := 14 } : Room).cells ({ frames := 1, cells := 0, slots := 0, locals := 14 } : Room).slots) := by
  refine MetFree.of_bodySF (plainFor_of_name pn_2) hisR ?_
  intro p e s m args below meth c s₁ Bd hml0 hP hK
  obtain ⟨rfl, hZ, hh⟩ := hP
  have hx := Bd.exec
  have hby := Bd.bytes
  have hlk : meth.locks = false := BodyLoose.notSynchronized Bd
  have hret := Bd.returns
  have hml : c.maxLocals = 7 := hml0
  have hown : s.vm.findClass "com/example/kinds_by_value/kindsbyvalue/NameSet" = some m.cls := findClass_of_methodNamed Bd.named
  have hnm := (name_of_methodNamed Bd.named Bd.method).1
  have X0 : Stand p l e ({ frames := 1, cells := 0, slots := 0, locals := 14 } : Room) s m #[(.ref oo), (.int x)] below meth c s₁ [] 0 0 := Stand.of_body Bd
  have e0 : s₁.heap = h0 := by rw [← hh, Bd.state]; rfl
  have N0 := Fr.nil n0
  show own_Ends p e below s 0 0 (QAE Z oo x  h0 n0) (s₁.setTop (entryFrame m #[(.ref oo), (.int x)] 7))
  refine own_step (fun t k => castTop (ef_rmAE m oo x) k) ?_
  show own_Ends p e below s _ _ _ (s₁.setTop (mkF m 0 #[.val (.ref oo), .val (.int x), .unset, .unset, .unset, .unset, .unset] []))
  refine own_step (fun _ kc_ => XS.aloadN X0.here hx rfl (hb hby d6_0) rfl rfl (XS.iloadN X0.here hx rfl (hb hby d6_1) rfl kc_)) ?_
  show own_Ends p e below s _ _ _ (s₁.setTop (mkF m 2 #[.val (.ref oo), .val (.int x), .unset, .unset, .unset, .unset, .unset] [(.int x), (.ref oo)]))
  obtain ⟨cq78, kq78, q78a, q78b, q78c⟩ := isOf hZ e0 E0
  obtain ⟨_, _, ⟨T78, L78, k78, n78⟩, -, X78, ⟨Lc78, hQ78, l78, y78, z78⟩, st78⟩ := X0.virtualBack hx (y := (⟨"com/example/kinds_by_value/kindsbyvalue/NameSet", "contains", "(I)Z"⟩ : MethodName)) (z := (⟨"com/example/kinds_by_value/kindsbyvalue/NameSet", "contains", "(I)Z"⟩ : MethodName)) hown (mvT hZ (hw _ (List.mem_of_getElem? (i := 41) rfl))) (mvT hZ (hw _ (List.mem_of_getElem? (i := 32) rfl))) (notFace_of_selects (args := #[]) (mvT hZ (hw _ (List.mem_of_getElem? (i := 34) rfl)))) (mvT hZ (hw _ (List.mem_of_getElem? (i := 34) rfl))) (mvT hZ (hw _ (List.mem_of_getElem? (i := 33) rfl))) (by decide) (backOf (W := 0) (rmCE l Z a0 hw [] oo x  h0 n0 Z0 f0) hZ (hw _ (List.mem_of_getElem? (i := 35) rfl)) (hw _ (List.mem_of_getElem? (i := 2) rfl)) (by decide) (by decide)) q78a q78c (g := (mkF m 2 #[.val (.ref oo), .val (.int x), .unset, .unset, .unset, .unset, .unset] [(.int x), (.ref oo)])) rfl (by rw [hml]; rfl) (Steps.refl _) (argsL := [(.int x)]) (rest := []) (lenOf pd_4 rfl) rfl (by show 2 * 0 + _ ≤ _; exact Nat.le_of_eq rfl) (hb hby d6_2) (fun _ _ => ⟨rfl, e0, (by decide : 0 + 0 ≤ _), (by decide : 0 + 0 ≤ _)⟩)
  dsimp only [Pt.U, Pt.locs, Pt.cells, Pt.slots] at X78 l78 y78 z78 st78 hQ78
  subst y78 z78
  obtain ⟨rfl, N78q, e78⟩ := hQ78
  have e78h : T78.heap = h0 := e78
  have N78 : Fr n0 L78 := by rw [l78]; exact Fr.app N0 N78q
  refine own_step (fun _ kc_ => st78.trans kc_) ?_
  show own_Ends p e below s _ _ _ (T78.setTop (mkF m 5 #[.val (.ref oo), .val (.int x), .unset, .unset, .unset, .unset, .unset] [(.int (1 : Int32))]))
  refine own_step (fun _ kc_ => XS.ifNo X78.here hx rfl (hb hby d6_5) rfl (XT.i0_eq_f (by decide : ¬ ((1 : Int32) = 0))) (XS.iconst X78.here hx rfl (hb hby d6_8) kc_)) ?_
  show own_Ends p e below s _ _ _ (T78.setTop (mkF m 9 #[.val (.ref oo), .val (.int x), .unset, .unset, .unset, .unset, .unset] [(.int (0 : Int32))]))
  exact own_retN X78 hx (t := .boolean) hret (by simp) hlk (hb hby d6_9) (by decide) (by decide) rfl ⟨rfl, N78, e78h⟩
theorem ef_rm8 (m : MethodId) (oo : Addr) (ot : Addr) : entryFrame m #[(.ref oo), (.ref ot)] 4 = mkF m 0 #[.val (.ref oo), .val (.ref ot), .unset, .unset] [] := by first | (simp [entryFrame, mkF, argsToLocals, Value.category]; done) | rfl
def Q8 (Z : State) (oo : Addr) (ot : Addr)  (h0 : Heap) (n0 : Nat) (v : Option Value) (h : Heap) (L : List Loc) : Prop := v = some (.int (1 : Int32)) ∧ Fr n0 L ∧ h = h0
set_option maxRecDepth 65536 in
set_option maxHeartbeats 40000000 in
theorem rm8 (l : Launch) (Z : State) (a0 : Array Value) (hw : ∀ d ∈ tables_1, d.before a0 Z = true) (ws : List Jvm.Cond) (oo : Addr) (ot : Addr)  (h0 : Heap) (n0 : Nat) (Z0 : n0 ≤ h0.size) (E2 : Exa Z h0 ot "com/example/kinds_by_value/kindsbyvalue/NameSet") (f0 : Fld Z h0 oo "com/example/kinds_by_value/kindsbyvalue/NameSet" "everyName" "Z" (.int (1 : Int32))) (f1 : Fld Z h0 oo "com/example/kinds_by_value/kindsbyvalue/NameSet" "bits" "[J" .null) (f3 : Fld Z h0 oo "com/example/kinds_by_value/kindsbyvalue/NameSet" "size" "I" (.int (0 : Int32))) (f4 : Fld Z h0 oo "com/example/kinds_by_value/kindsbyvalue/NameSet" "hash" "I" (.int (0 : Int32))) (t0 : Fld Z h0 ot "com/example/kinds_by_value/kindsbyvalue/NameSet" "everyName" "Z" (.int (1 : Int32))) (t3 : Fld Z h0 ot "com/example/kinds_by_value/kindsbyvalue/NameSet" "size" "I" (.int (0 : Int32))) (t4 : Fld Z h0 ot "com/example/kinds_by_value/kindsbyvalue/NameSet" "hash" "I" (.int (0 : Int32))) :
    MetFree l (⟨"com/example/kinds_by_value/kindsbyvalue/NameSet", "equals", "(Ljava/lang/Object;)Z"⟩ : MethodName) (head1 (Jvm.Cond.code (⟨"com/example/kinds_by_value/kindsbyvalue/NameSet", "equals", "(Ljava/lang/Object;)Z"⟩ : MethodName) prog_9_method_7_code 4 (some .boolean) :: ws) ({ frames := 0, cells := 0, slots := 0, locals := 0 } : Room)) (fun a U => a = #[(.ref oo), (.ref ot)] ∧ Z.Warmed39 U.vm ∧ U.heap = h0) (fun _ _ _ _ _ => True) (fun _ U o U' => ∃ v L, o = .returned v ∧ Q8 Z oo ot  h0 n0 v U'.heap L ∧ FrameEnd U o U' L ({ frames := 0, cells := 0, slots := 0, locals := 0 } : Room).cells ({ frames := 0, cells := 0, slots := 0, locals := 0 } : Room).slots) := by
  refine MetFree.of_bodySF (plainFor_of_name pn_2) hisR ?_
  intro p e s m args below meth c s₁ Bd hml0 hP hK
  obtain ⟨rfl, hZ, hh⟩ := hP
  have hx := Bd.exec
  have hby := Bd.bytes
  have hlk : meth.locks = false := BodyLoose.notSynchronized Bd
  have hret := Bd.returns
  have hml : c.maxLocals = 4 := hml0
  have hown : s.vm.findClass "com/example/kinds_by_value/kindsbyvalue/NameSet" = some m.cls := findClass_of_methodNamed Bd.named
  have hnm := (name_of_methodNamed Bd.named Bd.method).1
  have X0 : Stand p l e ({ frames := 0, cells := 0, slots := 0, locals := 0 } : Room) s m #[(.ref oo), (.ref ot)] below meth c s₁ [] 0 0 := Stand.of_body Bd
  have e0 : s₁.heap = h0 := by rw [← hh, Bd.state]; rfl
  have N0 := Fr.nil n0
  show own_Ends p e below s 0 0 (Q8 Z oo ot  h0 n0) (s₁.setTop (entryFrame m #[(.ref oo), (.ref ot)] 4))
  refine own_step (fun t k => castTop (ef_rm8 m oo ot) k) ?_
  show own_Ends p e below s _ _ _ (s₁.setTop (mkF m 0 #[.val (.ref oo), .val (.ref ot), .unset, .unset] []))
  refine own_step (fun _ kc_ => XS.aloadN X0.here hx rfl (hb hby d8_0) rfl rfl kc_) ?_
  show own_Ends p e below s _ _ _ (s₁.setTop (mkF m 1 #[.val (.ref oo), .val (.ref ot), .unset, .unset] [(.ref ot)]))
  obtain ⟨T79, X79, e79, st79⟩ := instY X0 hx hZ hown (hw _ (List.mem_of_getElem? (i := 52) rfl)) e0 (Ins.self E2) (g := (mkF m 1 #[.val (.ref oo), .val (.ref ot), .unset, .unset] [(.ref ot)])) rfl rfl (hb hby d8_1)
  refine own_step (fun _ kc_ => st79 _ kc_) ?_
  show own_Ends p e below s _ _ _ (T79.setTop (mkF m 4 #[.val (.ref oo), .val (.ref ot), .unset, .unset] [(.int (1 : Int32))]))
  refine own_step (fun _ kc_ => XS.ifNo X79.here hx rfl (hb hby d8_4) rfl (XT.i0_eq_f (by decide : ¬ ((1 : Int32) = 0))) (XS.aloadN X79.here hx rfl (hb hby d8_7) rfl rfl kc_)) ?_
  show own_Ends p e below s _ _ _ (T79.setTop (mkF m 8 #[.val (.ref oo), .val (.ref ot), .unset, .unset] [(.ref ot)]))
  obtain ⟨T80, X80, e80, st80⟩ := castY X79 hx hZ hown (hw _ (List.mem_of_getElem? (i := 52) rfl)) e79 (Ins.self E2) (g := (mkF m 8 #[.val (.ref oo), .val (.ref ot), .unset, .unset] [(.ref ot)])) rfl rfl (hb hby d8_8)
  refine own_step (fun _ kc_ => st80 _ kc_) ?_
  show own_Ends p e below s _ _ _ (T80.setTop (mkF m 11 #[.val (.ref oo), .val (.ref ot), .unset, .unset] [(.ref ot)]))
  refine own_step (fun _ kc_ => XS.astoreN X80.here hx rfl (hb hby d8_11) rfl rfl (l' := #[.val (.ref oo), .val (.ref ot), .val (.ref ot), .unset]) rfl (XS.aloadN X80.here hx rfl (hb hby d8_12) rfl rfl kc_)) ?_
  show own_Ends p e below s _ _ _ (T80.setTop (mkF m 13 #[.val (.ref oo), .val (.ref ot), .val (.ref ot), .unset] [(.ref ot)]))
  obtain ⟨T81, X81, e81, st81⟩ := getF X80 hx hZ hown (host := "") (Or.inl (hw _ (List.mem_of_getElem? (i := 17) rfl))) Via.refl e80 t0 (g := (mkF m 13 #[.val (.ref oo), .val (.ref ot), .val (.ref ot), .unset] [(.ref ot)])) rfl rfl (hb hby d8_13)
  refine own_step (fun _ kc_ => st81 _ kc_) ?_
  show own_Ends p e below s _ _ _ (T81.setTop (mkF m 16 #[.val (.ref oo), .val (.ref ot), .val (.ref ot), .unset] [(.int (1 : Int32))]))
  refine own_step (fun _ kc_ => XS.aloadN X81.here hx rfl (hb hby d8_16) rfl rfl kc_) ?_
  show own_Ends p e below s _ _ _ (T81.setTop (mkF m 17 #[.val (.ref oo), .val (.ref ot), .val (.ref ot), .unset] [(.ref oo), (.int (1 : Int32))]))
  obtain ⟨T82, X82, e82, st82⟩ := getF X81 hx hZ hown (host := "") (Or.inl (hw _ (List.mem_of_getElem? (i := 17) rfl))) Via.refl e81 f0 (g := (mkF m 17 #[.val (.ref oo), .val (.ref ot), .val (.ref ot), .unset] [(.ref oo), (.int (1 : Int32))])) rfl rfl (hb hby d8_17)
  refine own_step (fun _ kc_ => st82 _ kc_) ?_
  show own_Ends p e below s _ _ _ (T82.setTop (mkF m 20 #[.val (.ref oo), .val (.ref ot), .val (.ref ot), .unset] [(.int (1 : Int32)), (.int (1 : Int32))]))
  refine own_step (fun _ kc_ => XS.icmpNo X82.here hx rfl (hb hby d8_20) rfl (XT.ii_ne_f (by decide : (1 : Int32) = (1 : Int32))) (XS.aloadN X82.here hx rfl (hb hby d8_23) rfl rfl kc_)) ?_
  show own_Ends p e below s _ _ _ (T82.setTop (mkF m 24 #[.val (.ref oo), .val (.ref ot), .val (.ref ot), .unset] [(.ref ot)]))
  obtain ⟨T83, X83, e83, st83⟩ := getF X82 hx hZ hown (host := "") (Or.inl (hw _ (List.mem_of_getElem? (i := 21) rfl))) Via.refl e82 t3 (g := (mkF m 24 #[.val (.ref oo), .val (.ref ot), .val (.ref ot), .unset] [(.ref ot)])) rfl rfl (hb hby d8_24)
  refine own_step (fun _ kc_ => st83 _ kc_) ?_
  show own_Ends p e below s _ _ _ (T83.setTop (mkF m 27 #[.val (.ref oo), .val (.ref ot), .val (.ref ot), .unset] [(.int (0 : Int32))]))
  refine own_step (fun _ kc_ => XS.aloadN X83.here hx rfl (hb hby d8_27) rfl rfl kc_) ?_
  show own_Ends p e below s _ _ _ (T83.setTop (mkF m 28 #[.val (.ref oo), .val (.ref ot), .val (.ref ot), .unset] [(.ref oo), (.int (0 : Int32))]))
  obtain ⟨T84, X84, e84, st84⟩ := getF X83 hx hZ hown (host := "") (Or.inl (hw _ (List.mem_of_getElem? (i := 21) rfl))) Via.refl e83 f3 (g := (mkF m 28 #[.val (.ref oo), .val (.ref ot), .val (.ref ot), .unset] [(.ref oo), (.int (0 : Int32))])) rfl rfl (hb hby d8_28)
  refine own_step (fun _ kc_ => st84 _ kc_) ?_
  show own_Ends p e below s _ _ _ (T84.setTop (mkF m 31 #[.val (.ref oo), .val (.ref ot), .val (.ref ot), .unset] [(.int (0 : Int32)), (.int (0 : Int32))]))
  refine own_step (fun _ kc_ => XS.icmpNo X84.here hx rfl (hb hby d8_31) rfl (XT.ii_ne_f (by decide : (0 : Int32) = (0 : Int32))) (XS.aloadN X84.here hx rfl (hb hby d8_34) rfl rfl kc_)) ?_
  show own_Ends p e below s _ _ _ (T84.setTop (mkF m 35 #[.val (.ref oo), .val (.ref ot), .val (.ref ot), .unset] [(.ref ot)]))
  obtain ⟨T85, X85, e85, st85⟩ := getF X84 hx hZ hown (host := "") (Or.inl (hw _ (List.mem_of_getElem? (i := 23) rfl))) Via.refl e84 t4 (g := (mkF m 35 #[.val (.ref oo), .val (.ref ot), .val (.ref ot), .unset] [(.ref ot)])) rfl rfl (hb hby d8_35)
  refine own_step (fun _ kc_ => st85 _ kc_) ?_
  show own_Ends p e below s _ _ _ (T85.setTop (mkF m 38 #[.val (.ref oo), .val (.ref ot), .val (.ref ot), .unset] [(.int (0 : Int32))]))
  refine own_step (fun _ kc_ => XS.aloadN X85.here hx rfl (hb hby d8_38) rfl rfl kc_) ?_
  show own_Ends p e below s _ _ _ (T85.setTop (mkF m 39 #[.val (.ref oo), .val (.ref ot), .val (.ref ot), .unset] [(.ref oo), (.int (0 : Int32))]))
  obtain ⟨T86, X86, e86, st86⟩ := getF X85 hx hZ hown (host := "") (Or.inl (hw _ (List.mem_of_getElem? (i := 23) rfl))) Via.refl e85 f4 (g := (mkF m 39 #[.val (.ref oo), .val (.ref ot), .val (.ref ot), .unset] [(.ref oo), (.int (0 : Int32))])) rfl rfl (hb hby d8_39)
  refine own_step (fun _ kc_ => st86 _ kc_) ?_
  show own_Ends p e below s _ _ _ (T86.setTop (mkF m 42 #[.val (.ref oo), .val (.ref ot), .val (.ref ot), .unset] [(.int (0 : Int32)), (.int (0 : Int32))]))
  refine own_step (fun _ kc_ => XS.icmpYes X86.here hx rfl (pc0 := 42) (pc' := 47) rfl (hb hby d8_42) rfl (XT.ii_eq_t (by decide : (0 : Int32) = (0 : Int32))) (by decide) (by decide) (XS.aloadN X86.here hx rfl (hb hby d8_47) rfl rfl kc_)) ?_
  show own_Ends p e below s _ _ _ (T86.setTop (mkF m 48 #[.val (.ref oo), .val (.ref ot), .val (.ref ot), .unset] [(.ref oo)]))
  obtain ⟨T87, X87, e87, st87⟩ := getF X86 hx hZ hown (host := "") (Or.inl (hw _ (List.mem_of_getElem? (i := 10) rfl))) Via.refl e86 f1 (g := (mkF m 48 #[.val (.ref oo), .val (.ref ot), .val (.ref ot), .unset] [(.ref oo)])) rfl rfl (hb hby d8_48)
  refine own_step (fun _ kc_ => st87 _ kc_) ?_
  show own_Ends p e below s _ _ _ (T87.setTop (mkF m 51 #[.val (.ref oo), .val (.ref ot), .val (.ref ot), .unset] [.null]))
  refine own_step (fun _ kc_ => XS.ifnullYes X87.here hx rfl (pc0 := 51) (pc' := 76) rfl (hb hby d8_51) rfl (by decide) (by decide) (XS.aloadN X87.here hx rfl (hb hby d8_76) rfl rfl kc_)) ?_
  show own_Ends p e below s _ _ _ (T87.setTop (mkF m 77 #[.val (.ref oo), .val (.ref ot), .val (.ref ot), .unset] [(.ref oo)]))
  obtain ⟨T88, X88, e88, st88⟩ := getF X87 hx hZ hown (host := "") (Or.inl (hw _ (List.mem_of_getElem? (i := 17) rfl))) Via.refl e87 f0 (g := (mkF m 77 #[.val (.ref oo), .val (.ref ot), .val (.ref ot), .unset] [(.ref oo)])) rfl rfl (hb hby d8_77)
  refine own_step (fun _ kc_ => st88 _ kc_) ?_
  show own_Ends p e below s _ _ _ (T88.setTop (mkF m 80 #[.val (.ref oo), .val (.ref ot), .val (.ref ot), .unset] [(.int (1 : Int32))]))
  refine own_step (fun _ kc_ => XS.ifYes X88.here hx rfl (pc0 := 80) (pc' := 109) rfl (hb hby d8_80) rfl (XT.i0_ne_t (by decide : ¬ ((1 : Int32) = 0))) (by decide) (by decide) (XS.iconst X88.here hx rfl (hb hby d8_109) (XS.goto X88.here hx rfl (pc0 := 110) (pc' := 114) rfl (hb hby d8_110) (by decide) (by decide) (XS.istoreN X88.here hx rfl (hb hby d8_114) rfl (l' := #[.val (.ref oo), .val (.ref ot), .val (.ref ot), .val (.int (1 : Int32))]) rfl (XS.iloadN X88.here hx rfl (hb hby d8_115) rfl kc_))))) ?_
  show own_Ends p e below s _ _ _ (T88.setTop (mkF m 116 #[.val (.ref oo), .val (.ref ot), .val (.ref ot), .val (.int (1 : Int32))] [(.int (1 : Int32))]))
  exact own_retN X88 hx (t := .boolean) hret (by simp) hlk (hb hby d8_116) (by decide) (by decide) rfl ⟨rfl, N0, e88⟩
theorem ef_rmT0 (m : MethodId) (ba : Addr) (x : Int32) : entryFrame m #[(.ref ba), (.int x)] 2 = mkF m 0 #[.val (.ref ba), .val (.int x)] [] := by first | (simp [entryFrame, mkF, argsToLocals, Value.category]; done) | rfl
def QT0 (Z : State) (ba : Addr) (x : Int32) (vs : List Value) (n : Nat) (h0 : Heap) (n0 : Nat) (v : Option Value) (h : Heap) (L : List Loc) : Prop := v = some (.int (1 : Int32)) ∧ Fr n0 L ∧ h = h0
set_option maxRecDepth 65536 in
set_option maxHeartbeats 40000000 in
theorem rmT0 (l : Launch) (Z : State) (a0 : Array Value) (hw : ∀ d ∈ tables_1, d.before a0 Z = true) (ws : List Jvm.Cond) (ba : Addr) (x : Int32) (vs : List Value) (n : Nat) (h0 : Heap) (n0 : Nat) (Z0 : n0 ≤ h0.size) (A0 : own_Ar Z h0 ba .int vs) (hn : vs.length = n) (hx0 : ¬ x < Int32.ofNat n) :
    MetFree l (⟨"com/example/kinds_by_value/kindsbyvalue/NameSetAddEveryNamePinLaw", "at", "([II)Z"⟩ : MethodName) (head1 (Jvm.Cond.code (⟨"com/example/kinds_by_value/kindsbyvalue/NameSetAddEveryNamePinLaw", "at", "([II)Z"⟩ : MethodName) method_3_code 2 (some .boolean) :: ws) ({ frames := 0, cells := 0, slots := 0, locals := 0 } : Room)) (fun a U => a = #[(.ref ba), (.int x)] ∧ Z.Warmed39 U.vm ∧ U.heap = h0) (fun _ _ _ _ _ => True) (fun _ U o U' => ∃ v L, o = .returned v ∧ QT0 Z ba x vs n h0 n0 v U'.heap L ∧ FrameEnd U o U' L ({ frames := 0, cells := 0, slots := 0, locals := 0 } : Room).cells ({ frames := 0, cells := 0, slots := 0, locals := 0 } : Room).slots) := by
  refine MetFree.of_bodySF (plainFor_of_name pn_4) hisR ?_
  intro p e s m args below meth c s₁ Bd hml0 hP hK
  obtain ⟨rfl, hZ, hh⟩ := hP
  have hx := Bd.exec
  have hby := Bd.bytes
  have hlk : meth.locks = false := BodyLoose.notSynchronized Bd
  have hret := Bd.returns
  have hml : c.maxLocals = 2 := hml0
  have hown : s.vm.findClass "com/example/kinds_by_value/kindsbyvalue/NameSetAddEveryNamePinLaw" = some m.cls := findClass_of_methodNamed Bd.named
  have hnm := (name_of_methodNamed Bd.named Bd.method).1
  have X0 : Stand p l e ({ frames := 0, cells := 0, slots := 0, locals := 0 } : Room) s m #[(.ref ba), (.int x)] below meth c s₁ [] 0 0 := Stand.of_body Bd
  have e0 : s₁.heap = h0 := by rw [← hh, Bd.state]; rfl
  have N0 := Fr.nil n0
  show own_Ends p e below s 0 0 (QT0 Z ba x vs n h0 n0) (s₁.setTop (entryFrame m #[(.ref ba), (.int x)] 2))
  refine own_step (fun t k => castTop (ef_rmT0 m ba x) k) ?_
  show own_Ends p e below s _ _ _ (s₁.setTop (mkF m 0 #[.val (.ref ba), .val (.int x)] []))
  refine own_step (fun _ kc_ => XS.iloadN X0.here hx rfl (hb hby d12_0) rfl (XS.aloadN X0.here hx rfl (hb hby d12_1) rfl rfl (own_alen X0 hx hZ e0 A0 (n := n) (z := (Int32.ofNat n)) hn rfl (hb hby d12_2) _ (XS.icmpYes X0.here hx rfl (pc0 := 3) (pc' := 13) rfl (hb hby d12_3) rfl (XT.ii_ge_t (hx0 : ¬ (x < (Int32.ofNat n)))) (by decide) (by decide) (XS.iconst X0.here hx rfl (hb hby d12_13) (XS.goto X0.here hx rfl (pc0 := 14) (pc' := 18) rfl (hb hby d12_14) (by decide) (by decide) kc_)))))) ?_
  show own_Ends p e below s _ _ _ (s₁.setTop (mkF m 18 #[.val (.ref ba), .val (.int x)] [(.int (1 : Int32))]))
  exact own_retN X0 hx (t := .boolean) hret (by simp) hlk (hb hby d12_18) (by decide) (by decide) rfl ⟨rfl, N0, e0⟩
theorem ef_rmT1 (m : MethodId) (ba : Addr) (x : Int32) : entryFrame m #[(.ref ba), (.int x)] 2 = mkF m 0 #[.val (.ref ba), .val (.int x)] [] := by first | (simp [entryFrame, mkF, argsToLocals, Value.category]; done) | rfl
def QT1 (Z : State) (ba : Addr) (x : Int32) (vs : List Value) (n i : Nat) (h0 : Heap) (n0 : Nat) (v : Option Value) (h : Heap) (L : List Loc) : Prop := v = some (.int (1 : Int32)) ∧ Fr n0 L ∧ h = h0
set_option maxRecDepth 65536 in
set_option maxHeartbeats 40000000 in
theorem rmT1 (l : Launch) (Z : State) (a0 : Array Value) (hw : ∀ d ∈ tables_1, d.before a0 Z = true) (ws : List Jvm.Cond) (ba : Addr) (x : Int32) (vs : List Value) (n i : Nat) (h0 : Heap) (n0 : Nat) (Z0 : n0 ≤ h0.size) (A0 : own_Ar Z h0 ba .int vs) (hn : vs.length = n) (hx0 : x < Int32.ofNat n) (hx1 : ¬ x < 0) (hx2 : x.toNatClampNeg = i) (hv : vs[i]? = some (.int x)) :
    MetFree l (⟨"com/example/kinds_by_value/kindsbyvalue/NameSetAddEveryNamePinLaw", "at", "([II)Z"⟩ : MethodName) (head1 (Jvm.Cond.code (⟨"com/example/kinds_by_value/kindsbyvalue/NameSetAddEveryNamePinLaw", "at", "([II)Z"⟩ : MethodName) method_3_code 2 (some .boolean) :: ws) ({ frames := 0, cells := 0, slots := 0, locals := 0 } : Room)) (fun a U => a = #[(.ref ba), (.int x)] ∧ Z.Warmed39 U.vm ∧ U.heap = h0) (fun _ _ _ _ _ => True) (fun _ U o U' => ∃ v L, o = .returned v ∧ QT1 Z ba x vs n i h0 n0 v U'.heap L ∧ FrameEnd U o U' L ({ frames := 0, cells := 0, slots := 0, locals := 0 } : Room).cells ({ frames := 0, cells := 0, slots := 0, locals := 0 } : Room).slots) := by
  refine MetFree.of_bodySF (plainFor_of_name pn_4) hisR ?_
  intro p e s m args below meth c s₁ Bd hml0 hP hK
  obtain ⟨rfl, hZ, hh⟩ := hP
  have hx := Bd.exec
  have hby := Bd.bytes
  have hlk : meth.locks = false := BodyLoose.notSynchronized Bd
  have hret := Bd.returns
  have hml : c.maxLocals = 2 := hml0
  have hown : s.vm.findClass "com/example/kinds_by_value/kindsbyvalue/NameSetAddEveryNamePinLaw" = some m.cls := findClass_of_methodNamed Bd.named
  have hnm := (name_of_methodNamed Bd.named Bd.method).1
  have X0 : Stand p l e ({ frames := 0, cells := 0, slots := 0, locals := 0 } : Room) s m #[(.ref ba), (.int x)] below meth c s₁ [] 0 0 := Stand.of_body Bd
  have e0 : s₁.heap = h0 := by rw [← hh, Bd.state]; rfl
  have N0 := Fr.nil n0
  show own_Ends p e below s 0 0 (QT1 Z ba x vs n i h0 n0) (s₁.setTop (entryFrame m #[(.ref ba), (.int x)] 2))
  refine own_step (fun t k => castTop (ef_rmT1 m ba x) k) ?_
  show own_Ends p e below s _ _ _ (s₁.setTop (mkF m 0 #[.val (.ref ba), .val (.int x)] []))
  refine own_step (fun _ kc_ => XS.iloadN X0.here hx rfl (hb hby d12_0) rfl (XS.aloadN X0.here hx rfl (hb hby d12_1) rfl rfl (own_alen X0 hx hZ e0 A0 (n := n) (z := (Int32.ofNat n)) hn rfl (hb hby d12_2) _ (XS.icmpNo X0.here hx rfl (hb hby d12_3) rfl (XT.ii_ge_f (hx0 : x < (Int32.ofNat n))) (XS.aloadN X0.here hx rfl (hb hby d12_6) rfl rfl (XS.iloadN X0.here hx rfl (hb hby d12_7) rfl (own_iaload X0 hx hZ e0 A0 (j := x) hx1 (i := i) hx2 (v := (.int x)) hv (hb hby d12_8) _ (XS.iloadN X0.here hx rfl (hb hby d12_9) rfl kc_)))))))) ?_
  show own_Ends p e below s _ _ _ (s₁.setTop (mkF m 10 #[.val (.ref ba), .val (.int x)] [(.int x), (.int x)]))
  refine own_step (fun _ kc_ => XS.icmpNo X0.here hx rfl (hb hby d12_10) rfl (XT.ii_ne_f (rfl : x = x)) (XS.iconst X0.here hx rfl (hb hby d12_13) (XS.goto X0.here hx rfl (pc0 := 14) (pc' := 18) rfl (hb hby d12_14) (by decide) (by decide) kc_))) ?_
  show own_Ends p e below s _ _ _ (s₁.setTop (mkF m 18 #[.val (.ref ba), .val (.int x)] [(.int (1 : Int32))]))
  exact own_retN X0 hx (t := .boolean) hret (by simp) hlk (hb hby d12_18) (by decide) (by decide) rfl ⟨rfl, N0, e0⟩
theorem ef_rm11 (m : MethodId) (fa : Addr) : entryFrame m #[(.ref fa)] 1 = mkF m 0 #[.val (.ref fa)] [] := by first | (simp [entryFrame, mkF, argsToLocals, Value.category]; done) | rfl
def Q11 (Z : State) (fa : Addr)  (h0 : Heap) (n0 : Nat) (v : Option Value) (h : Heap) (L : List Loc) : Prop := v = some (.ref fa) ∧ Fr n0 L ∧ h = h0
set_option maxRecDepth 65536 in
set_option maxHeartbeats 40000000 in
theorem rm11 (l : Launch) (Z : State) (a0 : Array Value) (hw : ∀ d ∈ tables_1, d.before a0 Z = true) (ws : List Jvm.Cond) (fa : Addr)  (h0 : Heap) (n0 : Nat) (Z0 : n0 ≤ h0.size)  :
    MetFree l (⟨"java/util/Objects", "requireNonNull", "(Ljava/lang/Object;)Ljava/lang/Object;"⟩ : MethodName) (head1 (Jvm.Cond.code (⟨"java/util/Objects", "requireNonNull", "(Ljava/lang/Object;)Ljava/lang/Object;"⟩ : MethodName) jdk_31_method_10_code 1 (some (.object "java/lang/Object")) :: ws) ({ frames := 0, cells := 0, slots := 0, locals := 0 } : Room)) (fun a U => a = #[(.ref fa)] ∧ Z.Warmed39 U.vm ∧ U.heap = h0) (fun _ _ _ _ _ => True) (fun _ U o U' => ∃ v L, o = .returned v ∧ Q11 Z fa  h0 n0 v U'.heap L ∧ FrameEnd U o U' L ({ frames := 0, cells := 0, slots := 0, locals := 0 } : Room).cells ({ frames := 0, cells := 0, slots := 0, locals := 0 } : Room).slots) := by
  refine MetFree.of_bodySF (plainFor_of_name pn_3) hisR ?_
  intro p e s m args below meth c s₁ Bd hml0 hP hK
  obtain ⟨rfl, hZ, hh⟩ := hP
  have hx := Bd.exec
  have hby := Bd.bytes
  have hlk : meth.locks = false := BodyLoose.notSynchronized Bd
  have hret := Bd.returns
  have hml : c.maxLocals = 1 := hml0
  have hown : s.vm.findClass "java/util/Objects" = some m.cls := findClass_of_methodNamed Bd.named
  have hnm := (name_of_methodNamed Bd.named Bd.method).1
  have X0 : Stand p l e ({ frames := 0, cells := 0, slots := 0, locals := 0 } : Room) s m #[(.ref fa)] below meth c s₁ [] 0 0 := Stand.of_body Bd
  have e0 : s₁.heap = h0 := by rw [← hh, Bd.state]; rfl
  have N0 := Fr.nil n0
  show own_Ends p e below s 0 0 (Q11 Z fa  h0 n0) (s₁.setTop (entryFrame m #[(.ref fa)] 1))
  refine own_step (fun t k => castTop (ef_rm11 m fa) k) ?_
  show own_Ends p e below s _ _ _ (s₁.setTop (mkF m 0 #[.val (.ref fa)] []))
  refine own_step (fun _ kc_ => XS.aloadN X0.here hx rfl (hb hby d11_0) rfl rfl (XS.ifnonnullYes X0.here hx rfl (pc0 := 1) (pc' := 12) rfl (hb hby d11_1) rfl (by decide) (by decide) (XS.aloadN X0.here hx rfl (hb hby d11_12) rfl rfl kc_))) ?_
  show own_Ends p e below s _ _ _ (s₁.setTop (mkF m 13 #[.val (.ref fa)] [(.ref fa)]))
  exact own_retR X0 hx hret rfl rfl rfl hlk (hb hby d11_13) (by decide) (by decide) ⟨rfl, N0, e0⟩
theorem ef_rm14 (m : MethodId) (x : Int32) : entryFrame m #[(.int x)] 1 = mkF m 0 #[.val (.int x)] [] := by first | (simp [entryFrame, mkF, argsToLocals, Value.category]; done) | rfl
def Q14 (Z : State) (x : Int32)  (h0 : Heap) (n0 : Nat) (v : Option Value) (h : Heap) (L : List Loc) : Prop := v = some (.int x) ∧ Fr n0 L ∧ h = h0
set_option maxRecDepth 65536 in
set_option maxHeartbeats 40000000 in
theorem rm14 (l : Launch) (Z : State) (a0 : Array Value) (hw : ∀ d ∈ tables_1, d.before a0 Z = true) (ws : List Jvm.Cond) (x : Int32)  (h0 : Heap) (n0 : Nat) (Z0 : n0 ≤ h0.size)  :
    MetFree l (⟨"com/example/kinds_by_value/kindsbyvalue/NameSet", "lambda$below$0", "(I)I"⟩ : MethodName) (head1 (Jvm.Cond.code (⟨"com/example/kinds_by_value/kindsbyvalue/NameSet", "lambda$below$0", "(I)I"⟩ : MethodName) prog_9_method_12_code 1 (some .int) :: ws) ({ frames := 0, cells := 0, slots := 0, locals := 0 } : Room)) (fun a U => a = #[(.int x)] ∧ Z.Warmed39 U.vm ∧ U.heap = h0) (fun _ _ _ _ _ => True) (fun _ U o U' => ∃ v L, o = .returned v ∧ Q14 Z x  h0 n0 v U'.heap L ∧ FrameEnd U o U' L ({ frames := 0, cells := 0, slots := 0, locals := 0 } : Room).cells ({ frames := 0, cells := 0, slots := 0, locals := 0 } : Room).slots) := by
  refine MetFree.of_bodySF (plainFor_of_name pn_2) hisR ?_
  intro p e s m args below meth c s₁ Bd hml0 hP hK
  obtain ⟨rfl, hZ, hh⟩ := hP
  have hx := Bd.exec
  have hby := Bd.bytes
  have hlk : meth.locks = false := BodyLoose.notSynchronized Bd
  have hret := Bd.returns
  have hml : c.maxLocals = 1 := hml0
  have hown : s.vm.findClass "com/example/kinds_by_value/kindsbyvalue/NameSet" = some m.cls := findClass_of_methodNamed Bd.named
  have hnm := (name_of_methodNamed Bd.named Bd.method).1
  have X0 : Stand p l e ({ frames := 0, cells := 0, slots := 0, locals := 0 } : Room) s m #[(.int x)] below meth c s₁ [] 0 0 := Stand.of_body Bd
  have e0 : s₁.heap = h0 := by rw [← hh, Bd.state]; rfl
  have N0 := Fr.nil n0
  show own_Ends p e below s 0 0 (Q14 Z x  h0 n0) (s₁.setTop (entryFrame m #[(.int x)] 1))
  refine own_step (fun t k => castTop (ef_rm14 m x) k) ?_
  show own_Ends p e below s _ _ _ (s₁.setTop (mkF m 0 #[.val (.int x)] []))
  refine own_step (fun _ kc_ => XS.iloadN X0.here hx rfl (hb hby d14_0) rfl kc_) ?_
  show own_Ends p e below s _ _ _ (s₁.setTop (mkF m 1 #[.val (.int x)] [(.int x)]))
  exact own_retI X0 hx hret hlk (hb hby d14_1) (by decide) (by decide) ⟨rfl, N0, e0⟩
theorem own_lamMet (l : Launch) (Z : State) (a0 : Array Value) (hw : ∀ d ∈ tables_1, d.before a0 Z = true) (x : Int32) (h0 : Heap) (n0 : Nat) (Z0 : n0 ≤ h0.size) :
    Met l (⟨"com/example/kinds_by_value/kindsbyvalue/NameSet", "lambda$below$0", "(I)I"⟩ : MethodName) [Jvm.Cond.code (⟨"com/example/kinds_by_value/kindsbyvalue/NameSet", "lambda$below$0", "(I)I"⟩ : MethodName) prog_9_method_12_code 1 (some .int)] ({ frames := 0, cells := 0, slots := 0, locals := 0 } : Room) (fun a U => a = #[.int x] ∧ Z.Warmed39 U.vm ∧ U.heap = h0) (fun _ _ o t => o = .returned (some (.int x)) ∧ t.heap = h0) 0 0 (fun q => n0 ≤ q) := by
  intro p e ha hc hk s m args below hf happ hP hK
  obtain ⟨n, o, h1, h2, h3, v, L, rfl, ⟨rfl, hN, hh⟩, hF⟩ := rm14 l Z a0 hw [] x h0 n0 Z0 p e ha hc hk s m args below hf happ hP hK
  exact ⟨n, _, h1, h2, h3, ⟨rfl, hh⟩, L, hF, hN⟩
theorem ef_rmS0 (m : MethodId) (ba : Addr) (fa : Addr) : entryFrame m #[(.ref ba), (.ref fa)] 3 = mkF m 0 #[.val (.ref ba), .val (.ref fa), .unset] [] := by first | (simp [entryFrame, mkF, argsToLocals, Value.category]; done) | rfl
def QS0 (Z : State) (ba : Addr) (fa : Addr) (cK : ClassId) (h0 : Heap) (n0 : Nat) (v : Option Value) (h : Heap) (L : List Loc) : Prop := v = none ∧ Fr n0 L ∧ Keep h0 h [ba] ∧ own_Ar Z h ba .int []
set_option maxRecDepth 65536 in
set_option maxHeartbeats 40000000 in
theorem rmS0 (l : Launch) (Z : State) (a0 : Array Value) (hw : ∀ d ∈ tables_1, d.before a0 Z = true) (ws : List Jvm.Cond) (ba : Addr) (fa : Addr) (cK : ClassId) (h0 : Heap) (n0 : Nat) (Z0 : n0 ≤ h0.size) (A0 : own_Ar Z h0 ba .int []) (F0 : Jvm.LamKit.FnAt h0 fa cK) (g0 : n0 ≤ ba) :
    MetFree l (⟨"java/util/Arrays", "setAll", "([ILjava/util/function/IntUnaryOperator;)V"⟩ : MethodName) (head1 (Jvm.Cond.code (⟨"java/util/Arrays", "setAll", "([ILjava/util/function/IntUnaryOperator;)V"⟩ : MethodName) jdk_65_method_175_code 3 none :: ws) ({ frames := 2, cells := 0, slots := 0, locals := 27 } : Room)) (fun a U => a = #[(.ref ba), (.ref fa)] ∧ Z.Warmed39 U.vm ∧ U.heap = h0 ∧ (fun U => Jvm.LamKit.Made U "com/example/kinds_by_value/kindsbyvalue/NameSet" own_sg cK) U) (fun _ _ _ _ _ => True) (fun _ U o U' => ∃ v L, o = .returned v ∧ QS0 Z ba fa cK h0 n0 v U'.heap L ∧ FrameEnd U o U' L ({ frames := 2, cells := 0, slots := 0, locals := 27 } : Room).cells ({ frames := 2, cells := 0, slots := 0, locals := 27 } : Room).slots) := by
  refine MetFree.of_bodySF (plainFor_of_name pn_1) hisR ?_
  intro p e s m args below meth c s₁ Bd hml0 hP hK
  obtain ⟨rfl, hZ, hh, hEx⟩ := hP
  have hx := Bd.exec
  have hby := Bd.bytes
  have hlk : meth.locks = false := BodyLoose.notSynchronized Bd
  have hret := Bd.returns
  have hml : c.maxLocals = 3 := hml0
  have hown : s.vm.findClass "java/util/Arrays" = some m.cls := findClass_of_methodNamed Bd.named
  have hnm := (name_of_methodNamed Bd.named Bd.method).1
  have X0 : Stand p l e ({ frames := 2, cells := 0, slots := 0, locals := 27 } : Room) s m #[(.ref ba), (.ref fa)] below meth c s₁ [] 0 0 := Stand.of_body Bd
  have e0 : s₁.heap = h0 := by rw [← hh, Bd.state]; rfl
  have N0 := Fr.nil n0
  show own_Ends p e below s 0 0 (QS0 Z ba fa cK h0 n0) (s₁.setTop (entryFrame m #[(.ref ba), (.ref fa)] 3))
  refine own_step (fun t k => castTop (ef_rmS0 m ba fa) k) ?_
  show own_Ends p e below s _ _ _ (s₁.setTop (mkF m 0 #[.val (.ref ba), .val (.ref fa), .unset] []))
  refine own_step (fun _ kc_ => XS.aloadN X0.here hx rfl (hb hby d10_0) rfl rfl kc_) ?_
  show own_Ends p e below s _ _ _ (s₁.setTop (mkF m 1 #[.val (.ref ba), .val (.ref fa), .unset] [(.ref fa)]))
  obtain ⟨_, _, ⟨T89, L89, k89, n89⟩, -, X89, ⟨Lc89, hQ89, l89, y89, z89⟩, st89⟩ := Jvm.LawKit.callS X0 hx (y := (⟨"java/util/Objects", "requireNonNull", "(Ljava/lang/Object;)Ljava/lang/Object;"⟩ : MethodName)) hown (mvT hZ (hw _ (List.mem_of_getElem? (i := 66) rfl))) (mvT hZ (hw _ (List.mem_of_getElem? (i := 67) rfl))) (mvT hZ (hw _ (List.mem_of_getElem? (i := 68) rfl))) (mvT hZ (hw _ (List.mem_of_getElem? (i := 69) rfl))) (by decide) (backOf (W := 0) (rm11 l Z a0 hw [] fa  h0 n0 Z0 ) hZ (hw _ (List.mem_of_getElem? (i := 69) rfl)) (hw _ (List.mem_of_getElem? (i := 68) rfl)) (by decide) (by decide)) (g := (mkF m 1 #[.val (.ref ba), .val (.ref fa), .unset] [(.ref fa)])) rfl (by rw [hml]; rfl) (argsL := [(.ref fa)]) (rest := []) (lenOf pd_5 rfl) rfl (by show 2 * 0 + _ ≤ _; exact Nat.le_of_eq rfl) (hb hby d10_1) (fun _ _ => ⟨rfl, e0, (by decide : 0 + 0 ≤ _), (by decide : 0 + 0 ≤ _)⟩)
  dsimp only [Pt.U, Pt.locs, Pt.cells, Pt.slots] at X89 l89 y89 z89 st89 hQ89
  subst y89 z89
  obtain ⟨rfl, N89q, e89⟩ := hQ89
  have e89h : T89.heap = h0 := e89
  have N89 : Fr n0 L89 := by rw [l89]; exact Fr.app N0 N89q
  refine own_step (fun _ kc_ => st89 _ kc_) ?_
  show own_Ends p e below s _ _ _ (T89.setTop (mkF m 4 #[.val (.ref ba), .val (.ref fa), .unset] [(.ref fa)]))
  refine own_step (fun _ kc_ => XS.pop X89.here hx rfl (hb hby d10_4) rfl rfl (XS.iconst X89.here hx rfl (hb hby d10_5) (XS.istoreN X89.here hx rfl (hb hby d10_6) rfl (l' := #[.val (.ref ba), .val (.ref fa), .val (.int (0 : Int32))]) rfl (XS.iloadN X89.here hx rfl (hb hby d10_7) rfl (XS.aloadN X89.here hx rfl (hb hby d10_8) rfl rfl (own_alen X89 hx hZ e89h A0 (n := 0) (z := (0 : Int32)) rfl rfl (hb hby d10_9) _ (XS.icmpYes X89.here hx rfl (pc0 := 10) (pc' := 29) rfl (hb hby d10_10) rfl (XT.ii_ge_t (by decide : ¬ ((0 : Int32) < (0 : Int32)))) (by decide) (by decide) kc_))))))) ?_
  show own_Ends p e below s _ _ _ (T89.setTop (mkF m 29 #[.val (.ref ba), .val (.ref fa), .val (.int (0 : Int32))] []))
  exact own_retV X89 hx hret hlk (hb hby d10_29) (by decide) (by decide) (by rw [e89h]; exact ⟨rfl, N89, (Keep.refl h0 [ba]), A0⟩)
theorem ef_rmB0 (m : MethodId) (oo : Addr) : entryFrame m #[(.ref oo), (.int (0 : Int32))] 9 = mkF m 0 #[.val (.ref oo), .val (.int (0 : Int32)), .unset, .unset, .unset, .unset, .unset, .unset, .unset] [] := by first | (simp [entryFrame, mkF, argsToLocals, Value.category]; done) | rfl
def QB0 (Z : State) (oo : Addr)  (h0 : Heap) (n0 : Nat) (v : Option Value) (h : Heap) (L : List Loc) : Prop := Fr n0 L ∧ Keep h0 h [] ∧ ∃ ba, v = some (.ref ba) ∧ own_Ar Z h ba .int []
set_option maxRecDepth 65536 in
set_option maxHeartbeats 40000000 in
theorem rmB0 (l : Launch) (Z : State) (a0 : Array Value) (hw : ∀ d ∈ tables_1, d.before a0 Z = true) (ws : List Jvm.Cond) (oo : Addr)  (h0 : Heap) (n0 : Nat) (Z0 : n0 ≤ h0.size) (f0 : Fld Z h0 oo "com/example/kinds_by_value/kindsbyvalue/NameSet" "everyName" "Z" (.int (1 : Int32))) :
    MetFree l (⟨"com/example/kinds_by_value/kindsbyvalue/NameSet", "below", "(I)[I"⟩ : MethodName) (head1 (Jvm.Cond.code (⟨"com/example/kinds_by_value/kindsbyvalue/NameSet", "below", "(I)[I"⟩ : MethodName) prog_9_method_6_code 9 (some (.array .int)) :: ws) ({ frames := 3, cells := 1, slots := 0, locals := 3100 } : Room)) (fun a U => a = #[(.ref oo), (.int (0 : Int32))] ∧ Z.Warmed39 U.vm ∧ U.heap = h0 ∧ own_Site U) (fun _ _ _ _ _ => True) (fun _ U o U' => ∃ v L, o = .returned v ∧ QB0 Z oo  h0 n0 v U'.heap L ∧ FrameEnd U o U' L ({ frames := 3, cells := 1, slots := 0, locals := 3100 } : Room).cells ({ frames := 3, cells := 1, slots := 0, locals := 3100 } : Room).slots) := by
  refine MetFree.of_bodySF (plainFor_of_name pn_2) hisR ?_
  intro p e s m args below meth c s₁ Bd hml0 hP hK
  obtain ⟨rfl, hZ, hh, hEx⟩ := hP
  have hx := Bd.exec
  have hby := Bd.bytes
  have hlk : meth.locks = false := BodyLoose.notSynchronized Bd
  have hret := Bd.returns
  have hml : c.maxLocals = 9 := hml0
  have hown : s.vm.findClass "com/example/kinds_by_value/kindsbyvalue/NameSet" = some m.cls := findClass_of_methodNamed Bd.named
  have hnm := (name_of_methodNamed Bd.named Bd.method).1
  have X0 : Stand p l e ({ frames := 3, cells := 1, slots := 0, locals := 3100 } : Room) s m #[(.ref oo), (.int (0 : Int32))] below meth c s₁ [] 0 0 := Stand.of_body Bd
  have e0 : s₁.heap = h0 := by rw [← hh, Bd.state]; rfl
  have N0 := Fr.nil n0
  show own_Ends p e below s 1 0 (QB0 Z oo  h0 n0) (s₁.setTop (entryFrame m #[(.ref oo), (.int (0 : Int32))] 9))
  refine own_step (fun t k => castTop (ef_rmB0 m oo) k) ?_
  show own_Ends p e below s _ _ _ (s₁.setTop (mkF m 0 #[.val (.ref oo), .val (.int (0 : Int32)), .unset, .unset, .unset, .unset, .unset, .unset, .unset] []))
  refine own_step (fun _ kc_ => XS.aloadN X0.here hx rfl (hb hby d9_0) rfl rfl kc_) ?_
  show own_Ends p e below s _ _ _ (s₁.setTop (mkF m 1 #[.val (.ref oo), .val (.int (0 : Int32)), .unset, .unset, .unset, .unset, .unset, .unset, .unset] [(.ref oo)]))
  obtain ⟨T90, X90, e90, st90⟩ := getF X0 hx hZ hown (host := "") (Or.inl (hw _ (List.mem_of_getElem? (i := 17) rfl))) Via.refl e0 f0 (g := (mkF m 1 #[.val (.ref oo), .val (.int (0 : Int32)), .unset, .unset, .unset, .unset, .unset, .unset, .unset] [(.ref oo)])) rfl rfl (hb hby d9_1)
  refine own_step (fun _ kc_ => st90 _ kc_) ?_
  show own_Ends p e below s _ _ _ (T90.setTop (mkF m 4 #[.val (.ref oo), .val (.int (0 : Int32)), .unset, .unset, .unset, .unset, .unset, .unset, .unset] [(.int (1 : Int32))]))
  refine own_step (fun _ kc_ => XS.ifNo X90.here hx rfl (hb hby d9_4) rfl (XT.i0_eq_f (by decide : ¬ ((1 : Int32) = 0))) (XS.iloadN X90.here hx rfl (hb hby d9_7) rfl kc_)) ?_
  show own_Ends p e below s _ _ _ (T90.setTop (mkF m 8 #[.val (.ref oo), .val (.int (0 : Int32)), .unset, .unset, .unset, .unset, .unset, .unset, .unset] [(.int (0 : Int32))]))
  obtain ⟨T91, h91, k91, X91, e91, E91, A91, st91⟩ := newP X90 hx hZ (hw _ (List.mem_of_getElem? (i := 59) rfl)) e90 (g := (mkF m 8 #[.val (.ref oo), .val (.int (0 : Int32)), .unset, .unset, .unset, .unset, .unset, .unset, .unset] [(.int (0 : Int32))])) rfl (hb hby d9_8) rfl (by decide) (cap := 0) (by decide) (by decide) (by decide : 0 + 1 ≤ _) (by decide : 0 + 0 ≤ _)
  obtain ⟨b91, g91⟩ : ∃ z, z = h0.size := ⟨_, rfl⟩
  rw [← g91] at A91 st91
  have ne_oo_b91 : oo ≠ b91 := Nat.ne_of_lt (Nat.lt_of_lt_of_le (f0).lt (Nat.le_of_eq g91.symm))
  have n0_b91 : n0 ≤ b91 := Nat.le_trans Z0 (Nat.le_of_eq g91.symm)
  have h0_b91 : h0.size ≤ b91 := Nat.le_trans ((Keep.refl h0 [])).1 (Nat.le_of_eq g91.symm)
  have F_oo_everyName_91 := (f0).ext E91
  have K91 := ((Keep.refl h0 [])).ext E91
  have Zs91 := Nat.le_trans Z0 E91.1
  have A_b91 : own_Ar Z h91 b91 .int [] := own_Ar.new A91 (by decide)
  refine own_step (fun _ kc_ => st91 _ kc_) ?_
  show own_Ends p e below s _ _ _ (T91.setTop (mkF m 10 #[.val (.ref oo), .val (.int (0 : Int32)), .unset, .unset, .unset, .unset, .unset, .unset, .unset] [(.ref b91)]))
  refine own_step (fun _ kc_ => XS.astoreN X91.here hx rfl (hb hby d9_10) rfl rfl (l' := #[.val (.ref oo), .val (.int (0 : Int32)), .val (.ref b91), .unset, .unset, .unset, .unset, .unset, .unset]) rfl (XS.aloadN X91.here hx rfl (hb hby d9_11) rfl rfl kc_)) ?_
  show own_Ends p e below s _ _ _ (T91.setTop (mkF m 12 #[.val (.ref oo), .val (.int (0 : Int32)), .val (.ref b91), .unset, .unset, .unset, .unset, .unset, .unset] [(.ref b91)]))
  have hst : (Cond.lambdaSite own_bel 12 53 own_sg).before #[(.ref oo), (.int (0 : Int32))] s = true := own_siteC hEx
  obtain ⟨fa, cK, hMade, hFn, sp92⟩ := Jvm.LamKit.siteConst X91 hx (x := own_bel) Bd.named hst rfl (g := (mkF m 12 #[.val (.ref oo), .val (.int (0 : Int32)), .val (.ref b91), .unset, .unset, .unset, .unset, .unset, .unset] [(.ref b91)])) rfl rfl (by rw [hml]; rfl) (hb hby d9_12) (Nat.le_of_ble_eq_true rfl)
  have hFn2 : Jvm.LamKit.FnAt h91 fa cK := by rw [← e91]; exact hFn
  refine own_step (fun _ kc_ => sp92 _ kc_) ?_
  show own_Ends p e below s _ _ _ (T91.setTop (mkF m 17 #[.val (.ref oo), .val (.int (0 : Int32)), .val (.ref b91), .unset, .unset, .unset, .unset, .unset, .unset] [(.ref fa), (.ref b91)]))
  obtain ⟨_, _, ⟨T93, L93, k93, n93⟩, -, X93, ⟨Lc93, hQ93, l93, y93, z93⟩, st93⟩ := Jvm.LawKit.callS X91 hx (y := (⟨"java/util/Arrays", "setAll", "([ILjava/util/function/IntUnaryOperator;)V"⟩ : MethodName)) hown (mvT hZ (hw _ (List.mem_of_getElem? (i := 62) rfl))) (mvT hZ (hw _ (List.mem_of_getElem? (i := 63) rfl))) (mvT hZ (hw _ (List.mem_of_getElem? (i := 64) rfl))) (mvT hZ (hw _ (List.mem_of_getElem? (i := 65) rfl))) (by decide) (own_backX (W := 0) (rmS0 l Z a0 hw [] b91 fa cK h91 n0 Zs91 A_b91 hFn2 n0_b91) hZ (hw _ (List.mem_of_getElem? (i := 65) rfl)) (hw _ (List.mem_of_getElem? (i := 64) rfl)) (by decide) (by decide) (fun _ _ _ _ _ _ _ Y => own_made_at hMade Y)) (g := (mkF m 17 #[.val (.ref oo), .val (.int (0 : Int32)), .val (.ref b91), .unset, .unset, .unset, .unset, .unset, .unset] [(.ref fa), (.ref b91)])) rfl (by rw [hml]; rfl) (argsL := [(.ref b91), (.ref fa)]) (rest := []) (lenOf pd_6 rfl) rfl (by show 2 * 0 + _ ≤ _; exact Nat.le_of_eq rfl) (hb hby d9_17) (fun _ _ => ⟨rfl, e91, (by decide : 1 + 0 ≤ _), (by decide : 0 + 0 ≤ _)⟩)
  dsimp only [Pt.U, Pt.locs, Pt.cells, Pt.slots] at X93 l93 y93 z93 st93 hQ93
  subst y93 z93
  obtain ⟨rfl, N93q, K93k, A93k⟩ := hQ93
  have F_oo_everyName_93 := (F_oo_everyName_91).keep K93k (ninS ne_oo_b91 nin0)
  have K93 := (K91).trans K93k (allS (Or.inr h0_b91) all0)
  have Zs93 := Nat.le_trans Zs91 K93k.1
  have N93 : Fr n0 L93 := by rw [l93]; exact Fr.app N0 N93q
  refine own_step (fun _ kc_ => st93 _ kc_) ?_
  show own_Ends p e below s _ _ _ (T93.setTop (mkF m 20 #[.val (.ref oo), .val (.int (0 : Int32)), .val (.ref b91), .unset, .unset, .unset, .unset, .unset, .unset] []))
  refine own_step (fun _ kc_ => XS.goto X93.here hx rfl (pc0 := 20) (pc' := 95) rfl (hb hby d9_20) (by decide) (by decide) (XS.aloadN X93.here hx rfl (hb hby d9_95) rfl rfl kc_)) ?_
  show own_Ends p e below s _ _ _ (T93.setTop (mkF m 96 #[.val (.ref oo), .val (.int (0 : Int32)), .val (.ref b91), .unset, .unset, .unset, .unset, .unset, .unset] [(.ref b91)]))
  exact own_retR X93 hx hret rfl rfl rfl hlk (hb hby d9_96) (by decide) (by decide) (by exact ⟨N93, K93, b91, rfl, A93k⟩)
theorem ef_rmS1 (m : MethodId) (ba : Addr) (fa : Addr) : entryFrame m #[(.ref ba), (.ref fa)] 3 = mkF m 0 #[.val (.ref ba), .val (.ref fa), .unset] [] := by first | (simp [entryFrame, mkF, argsToLocals, Value.category]; done) | rfl
def QS1 (Z : State) (ba : Addr) (fa : Addr) (cK : ClassId) (h0 : Heap) (n0 : Nat) (v : Option Value) (h : Heap) (L : List Loc) : Prop := v = none ∧ Fr n0 L ∧ Keep h0 h [ba] ∧ own_Ar Z h ba .int [(.int (0 : Int32))]
set_option maxRecDepth 65536 in
set_option maxHeartbeats 40000000 in
theorem rmS1 (l : Launch) (Z : State) (a0 : Array Value) (hw : ∀ d ∈ tables_1, d.before a0 Z = true) (ws : List Jvm.Cond) (ba : Addr) (fa : Addr) (cK : ClassId) (h0 : Heap) (n0 : Nat) (Z0 : n0 ≤ h0.size) (A0 : own_Ar Z h0 ba .int [(.int (0 : Int32))]) (F0 : Jvm.LamKit.FnAt h0 fa cK) (g0 : n0 ≤ ba) :
    MetFree l (⟨"java/util/Arrays", "setAll", "([ILjava/util/function/IntUnaryOperator;)V"⟩ : MethodName) (head1 (Jvm.Cond.code (⟨"java/util/Arrays", "setAll", "([ILjava/util/function/IntUnaryOperator;)V"⟩ : MethodName) jdk_65_method_175_code 3 none :: ws) ({ frames := 2, cells := 0, slots := 0, locals := 27 } : Room)) (fun a U => a = #[(.ref ba), (.ref fa)] ∧ Z.Warmed39 U.vm ∧ U.heap = h0 ∧ (fun U => Jvm.LamKit.Made U "com/example/kinds_by_value/kindsbyvalue/NameSet" own_sg cK) U) (fun _ _ _ _ _ => True) (fun _ U o U' => ∃ v L, o = .returned v ∧ QS1 Z ba fa cK h0 n0 v U'.heap L ∧ FrameEnd U o U' L ({ frames := 2, cells := 0, slots := 0, locals := 27 } : Room).cells ({ frames := 2, cells := 0, slots := 0, locals := 27 } : Room).slots) := by
  refine MetFree.of_bodySF (plainFor_of_name pn_1) hisR ?_
  intro p e s m args below meth c s₁ Bd hml0 hP hK
  obtain ⟨rfl, hZ, hh, hEx⟩ := hP
  have hx := Bd.exec
  have hby := Bd.bytes
  have hlk : meth.locks = false := BodyLoose.notSynchronized Bd
  have hret := Bd.returns
  have hml : c.maxLocals = 3 := hml0
  have hown : s.vm.findClass "java/util/Arrays" = some m.cls := findClass_of_methodNamed Bd.named
  have hnm := (name_of_methodNamed Bd.named Bd.method).1
  have X0 : Stand p l e ({ frames := 2, cells := 0, slots := 0, locals := 27 } : Room) s m #[(.ref ba), (.ref fa)] below meth c s₁ [] 0 0 := Stand.of_body Bd
  have e0 : s₁.heap = h0 := by rw [← hh, Bd.state]; rfl
  have N0 := Fr.nil n0
  show own_Ends p e below s 0 0 (QS1 Z ba fa cK h0 n0) (s₁.setTop (entryFrame m #[(.ref ba), (.ref fa)] 3))
  refine own_step (fun t k => castTop (ef_rmS1 m ba fa) k) ?_
  show own_Ends p e below s _ _ _ (s₁.setTop (mkF m 0 #[.val (.ref ba), .val (.ref fa), .unset] []))
  refine own_step (fun _ kc_ => XS.aloadN X0.here hx rfl (hb hby d10_0) rfl rfl kc_) ?_
  show own_Ends p e below s _ _ _ (s₁.setTop (mkF m 1 #[.val (.ref ba), .val (.ref fa), .unset] [(.ref fa)]))
  obtain ⟨_, _, ⟨T94, L94, k94, n94⟩, -, X94, ⟨Lc94, hQ94, l94, y94, z94⟩, st94⟩ := Jvm.LawKit.callS X0 hx (y := (⟨"java/util/Objects", "requireNonNull", "(Ljava/lang/Object;)Ljava/lang/Object;"⟩ : MethodName)) hown (mvT hZ (hw _ (List.mem_of_getElem? (i := 66) rfl))) (mvT hZ (hw _ (List.mem_of_getElem? (i := 67) rfl))) (mvT hZ (hw _ (List.mem_of_getElem? (i := 68) rfl))) (mvT hZ (hw _ (List.mem_of_getElem? (i := 69) rfl))) (by decide) (backOf (W := 0) (rm11 l Z a0 hw [] fa  h0 n0 Z0 ) hZ (hw _ (List.mem_of_getElem? (i := 69) rfl)) (hw _ (List.mem_of_getElem? (i := 68) rfl)) (by decide) (by decide)) (g := (mkF m 1 #[.val (.ref ba), .val (.ref fa), .unset] [(.ref fa)])) rfl (by rw [hml]; rfl) (argsL := [(.ref fa)]) (rest := []) (lenOf pd_5 rfl) rfl (by show 2 * 0 + _ ≤ _; exact Nat.le_of_eq rfl) (hb hby d10_1) (fun _ _ => ⟨rfl, e0, (by decide : 0 + 0 ≤ _), (by decide : 0 + 0 ≤ _)⟩)
  dsimp only [Pt.U, Pt.locs, Pt.cells, Pt.slots] at X94 l94 y94 z94 st94 hQ94
  subst y94 z94
  obtain ⟨rfl, N94q, e94⟩ := hQ94
  have e94h : T94.heap = h0 := e94
  have N94 : Fr n0 L94 := by rw [l94]; exact Fr.app N0 N94q
  refine own_step (fun _ kc_ => st94 _ kc_) ?_
  show own_Ends p e below s _ _ _ (T94.setTop (mkF m 4 #[.val (.ref ba), .val (.ref fa), .unset] [(.ref fa)]))
  refine own_step (fun _ kc_ => XS.pop X94.here hx rfl (hb hby d10_4) rfl rfl (XS.iconst X94.here hx rfl (hb hby d10_5) (XS.istoreN X94.here hx rfl (hb hby d10_6) rfl (l' := #[.val (.ref ba), .val (.ref fa), .val (.int (0 : Int32))]) rfl (XS.iloadN X94.here hx rfl (hb hby d10_7) rfl (XS.aloadN X94.here hx rfl (hb hby d10_8) rfl rfl (own_alen X94 hx hZ e94h A0 (n := 1) (z := (1 : Int32)) rfl rfl (hb hby d10_9) _ (XS.icmpNo X94.here hx rfl (hb hby d10_10) rfl (XT.ii_ge_f (by decide : (0 : Int32) < (1 : Int32))) (XS.aloadN X94.here hx rfl (hb hby d10_13) rfl rfl kc_)))))))) ?_
  show own_Ends p e below s _ _ _ (T94.setTop (mkF m 14 #[.val (.ref ba), .val (.ref fa), .val (.int (0 : Int32))] [(.ref ba)]))
  refine own_step (fun _ kc_ => XS.iloadN X94.here hx rfl (hb hby d10_14) rfl (XS.aloadN X94.here hx rfl (hb hby d10_15) rfl rfl (XS.iloadN X94.here hx rfl (hb hby d10_16) rfl kc_))) ?_
  show own_Ends p e below s _ _ _ (T94.setTop (mkF m 17 #[.val (.ref ba), .val (.ref fa), .val (.int (0 : Int32))] [(.int (0 : Int32)), (.ref fa), (.int (0 : Int32)), (.ref ba)]))
  have F95n : Jvm.LamKit.FnAt T94.heap fa cK := by rw [e94h]; exact F0
  obtain ⟨v95, st95, t95, T95, L95, X95, hL95, eh95, -, ⟨hv95, hh95⟩, sp95⟩ := Jvm.LamKit.callLamS X94 hx (own_lamMet l Z a0 hw (0 : Int32) h0 n0 Z0) (fun _ _ _ _ q => q) rfl rfl (fun w hwm a' U hU => by cases List.mem_singleton.mp hwm; exact mv (wtrans hZ hU) (hw _ (List.mem_of_getElem? (i := 83) rfl))) (List.mem_singleton.mpr rfl) hown (mvT hZ (hw _ (List.mem_of_getElem? (i := 79) rfl))) (mvT hZ (hw _ (List.mem_of_getElem? (i := 80) rfl))) (mvT hZ (hw _ (List.mem_of_getElem? (i := 81) rfl))) (mvT hZ (hw _ (List.mem_of_getElem? (i := 83) rfl))) (mvT hZ (hw _ (List.mem_of_getElem? (i := 82) rfl))) (mvT hZ (hw _ (List.mem_of_getElem? (i := 2) rfl))) (xi := (⟨"java/util/function/IntUnaryOperator", "applyAsInt", "(I)I"⟩ : MethodName)) ⟨rfl, rfl, by decide⟩ ⟨rfl, rfl, by decide⟩ (by decide) hEx F95n own_fok own_fc1 own_fc4 (g := (mkF m 17 #[.val (.ref ba), .val (.ref fa), .val (.int (0 : Int32))] [(.int (0 : Int32)), (.ref fa), (.int (0 : Int32)), (.ref ba)])) rfl (by rw [hml]; rfl) (argsL := [(.int (0 : Int32))]) (argsT := [(.int (0 : Int32))]) (rest := [(.int (0 : Int32)), (.ref ba)]) (L0 := #[.val (.ref fa), .val (.int (0 : Int32))]) (lenOf pd_3 rfl) (lenOf pd_3 rfl) rfl (hb hby d10_17) (fun _ => by first | rfl | (simp [entryFrame, argsToLocals, Value.category]; done)) rfl (fun U ck bl target hAt hck _ _ kk => XS.iloadN hAt hx rfl (hb hck own_fc0) rfl kk) (fun _ v _ q => Or.inl ⟨.int, (0 : Int32), rfl, Or.inl rfl, rfl, rfl, by cases q.1; rfl⟩) (by decide) (Nat.le_of_ble_eq_true rfl) (by decide : 0 + 0 ≤ _) (by decide : 0 + 0 ≤ _) (fun U hU hh => ⟨rfl, wtrans hZ hU, hh.trans e94h⟩)
  cases hv95
  have e95 : T95.heap = h0 := eh95.trans hh95
  have N95 := Fr.app N94 hL95
  refine own_step (fun _ kc_ => sp95 _ kc_) ?_
  show own_Ends p e below s _ _ _ (T95.setTop (mkF m 22 #[.val (.ref ba), .val (.ref fa), .val (.int (0 : Int32))] [(.int (0 : Int32)), (.int (0 : Int32)), (.ref ba)]))
  obtain ⟨T96, h96, X96, e96, W96, A96, st96⟩ := own_iastore X95 hx hZ e95 A0 (j := (0 : Int32)) (x := (0 : Int32)) (by decide) (i := 0) rfl (Nat.le_of_ble_eq_true rfl) (Ls := #[.val (.ref ba), .val (.ref fa), .val (.int (0 : Int32))]) (st := []) (hb hby d10_22)
  have A_ba_96 : own_Ar Z h96 ba .int [(.int (0 : Int32))] := A96
  have K96 := ((Keep.refl h0 [ba])).wr W96 (Or.inl (List.mem_of_getElem? (i := 0) rfl))
  have Zs96 := Nat.le_trans Z0 (Nat.le_of_eq W96.size.symm)
  have N96 := Fr.snoc X96 N95 g0
  refine own_step (fun _ kc_ => st96 _ kc_) ?_
  show own_Ends p e below s _ _ _ (T96.setTop (mkF m 23 #[.val (.ref ba), .val (.ref fa), .val (.int (0 : Int32))] []))
  have Fn96 := own_fn_wr F0 W96
  refine own_step (fun _ kc_ => XS.iinc X96.here hx rfl (hb hby d10_23) rfl (l' := #[.val (.ref ba), .val (.ref fa), .val (.int ((0 : Int32) + (1 : Int32)))]) rfl kc_) ?_
  show own_Ends p e below s _ _ _ (T96.setTop (mkF m 26 #[.val (.ref ba), .val (.ref fa), .val (.int ((0 : Int32) + (1 : Int32)))] []))
  rw [show ((0 : Int32) + (1 : Int32)) = (1 : Int32) from by decide]
  show own_Ends p e below s _ _ _ (T96.setTop (mkF m 26 #[.val (.ref ba), .val (.ref fa), .val (.int (1 : Int32))] []))
  refine own_step (fun _ kc_ => XS.goto X96.here hx rfl (pc0 := 26) (pc' := 7) rfl (hb hby d10_26) (by decide) (by decide) (XS.iloadN X96.here hx rfl (hb hby d10_7) rfl (XS.aloadN X96.here hx rfl (hb hby d10_8) rfl rfl (own_alen X96 hx hZ e96 A_ba_96 (n := 1) (z := (1 : Int32)) rfl rfl (hb hby d10_9) _ (XS.icmpYes X96.here hx rfl (pc0 := 10) (pc' := 29) rfl (hb hby d10_10) rfl (XT.ii_ge_t (by decide : ¬ ((1 : Int32) < (1 : Int32)))) (by decide) (by decide) kc_))))) ?_
  show own_Ends p e below s _ _ _ (T96.setTop (mkF m 29 #[.val (.ref ba), .val (.ref fa), .val (.int (1 : Int32))] []))
  exact own_retV X96 hx hret hlk (hb hby d10_29) (by decide) (by decide) (by rw [e96]; exact ⟨rfl, N96, K96, A_ba_96⟩)
theorem ef_rmB1 (m : MethodId) (oo : Addr) : entryFrame m #[(.ref oo), (.int (1 : Int32))] 9 = mkF m 0 #[.val (.ref oo), .val (.int (1 : Int32)), .unset, .unset, .unset, .unset, .unset, .unset, .unset] [] := by first | (simp [entryFrame, mkF, argsToLocals, Value.category]; done) | rfl
def QB1 (Z : State) (oo : Addr)  (h0 : Heap) (n0 : Nat) (v : Option Value) (h : Heap) (L : List Loc) : Prop := Fr n0 L ∧ Keep h0 h [] ∧ ∃ ba, v = some (.ref ba) ∧ own_Ar Z h ba .int [(.int (0 : Int32))]
set_option maxRecDepth 65536 in
set_option maxHeartbeats 40000000 in
theorem rmB1 (l : Launch) (Z : State) (a0 : Array Value) (hw : ∀ d ∈ tables_1, d.before a0 Z = true) (ws : List Jvm.Cond) (oo : Addr)  (h0 : Heap) (n0 : Nat) (Z0 : n0 ≤ h0.size) (f0 : Fld Z h0 oo "com/example/kinds_by_value/kindsbyvalue/NameSet" "everyName" "Z" (.int (1 : Int32))) :
    MetFree l (⟨"com/example/kinds_by_value/kindsbyvalue/NameSet", "below", "(I)[I"⟩ : MethodName) (head1 (Jvm.Cond.code (⟨"com/example/kinds_by_value/kindsbyvalue/NameSet", "below", "(I)[I"⟩ : MethodName) prog_9_method_6_code 9 (some (.array .int)) :: ws) ({ frames := 3, cells := 1, slots := 1, locals := 3100 } : Room)) (fun a U => a = #[(.ref oo), (.int (1 : Int32))] ∧ Z.Warmed39 U.vm ∧ U.heap = h0 ∧ own_Site U) (fun _ _ _ _ _ => True) (fun _ U o U' => ∃ v L, o = .returned v ∧ QB1 Z oo  h0 n0 v U'.heap L ∧ FrameEnd U o U' L ({ frames := 3, cells := 1, slots := 1, locals := 3100 } : Room).cells ({ frames := 3, cells := 1, slots := 1, locals := 3100 } : Room).slots) := by
  refine MetFree.of_bodySF (plainFor_of_name pn_2) hisR ?_
  intro p e s m args below meth c s₁ Bd hml0 hP hK
  obtain ⟨rfl, hZ, hh, hEx⟩ := hP
  have hx := Bd.exec
  have hby := Bd.bytes
  have hlk : meth.locks = false := BodyLoose.notSynchronized Bd
  have hret := Bd.returns
  have hml : c.maxLocals = 9 := hml0
  have hown : s.vm.findClass "com/example/kinds_by_value/kindsbyvalue/NameSet" = some m.cls := findClass_of_methodNamed Bd.named
  have hnm := (name_of_methodNamed Bd.named Bd.method).1
  have X0 : Stand p l e ({ frames := 3, cells := 1, slots := 1, locals := 3100 } : Room) s m #[(.ref oo), (.int (1 : Int32))] below meth c s₁ [] 0 0 := Stand.of_body Bd
  have e0 : s₁.heap = h0 := by rw [← hh, Bd.state]; rfl
  have N0 := Fr.nil n0
  show own_Ends p e below s 1 1 (QB1 Z oo  h0 n0) (s₁.setTop (entryFrame m #[(.ref oo), (.int (1 : Int32))] 9))
  refine own_step (fun t k => castTop (ef_rmB1 m oo) k) ?_
  show own_Ends p e below s _ _ _ (s₁.setTop (mkF m 0 #[.val (.ref oo), .val (.int (1 : Int32)), .unset, .unset, .unset, .unset, .unset, .unset, .unset] []))
  refine own_step (fun _ kc_ => XS.aloadN X0.here hx rfl (hb hby d9_0) rfl rfl kc_) ?_
  show own_Ends p e below s _ _ _ (s₁.setTop (mkF m 1 #[.val (.ref oo), .val (.int (1 : Int32)), .unset, .unset, .unset, .unset, .unset, .unset, .unset] [(.ref oo)]))
  obtain ⟨T97, X97, e97, st97⟩ := getF X0 hx hZ hown (host := "") (Or.inl (hw _ (List.mem_of_getElem? (i := 17) rfl))) Via.refl e0 f0 (g := (mkF m 1 #[.val (.ref oo), .val (.int (1 : Int32)), .unset, .unset, .unset, .unset, .unset, .unset, .unset] [(.ref oo)])) rfl rfl (hb hby d9_1)
  refine own_step (fun _ kc_ => st97 _ kc_) ?_
  show own_Ends p e below s _ _ _ (T97.setTop (mkF m 4 #[.val (.ref oo), .val (.int (1 : Int32)), .unset, .unset, .unset, .unset, .unset, .unset, .unset] [(.int (1 : Int32))]))
  refine own_step (fun _ kc_ => XS.ifNo X97.here hx rfl (hb hby d9_4) rfl (XT.i0_eq_f (by decide : ¬ ((1 : Int32) = 0))) (XS.iloadN X97.here hx rfl (hb hby d9_7) rfl kc_)) ?_
  show own_Ends p e below s _ _ _ (T97.setTop (mkF m 8 #[.val (.ref oo), .val (.int (1 : Int32)), .unset, .unset, .unset, .unset, .unset, .unset, .unset] [(.int (1 : Int32))]))
  obtain ⟨T98, h98, k98, X98, e98, E98, A98, st98⟩ := newP X97 hx hZ (hw _ (List.mem_of_getElem? (i := 59) rfl)) e97 (g := (mkF m 8 #[.val (.ref oo), .val (.int (1 : Int32)), .unset, .unset, .unset, .unset, .unset, .unset, .unset] [(.int (1 : Int32))])) rfl (hb hby d9_8) rfl (by decide) (cap := 1) (by decide) (by decide) (by decide : 0 + 1 ≤ _) (by decide : 0 + 1 ≤ _)
  obtain ⟨b98, g98⟩ : ∃ z, z = h0.size := ⟨_, rfl⟩
  rw [← g98] at A98 st98
  have ne_oo_b98 : oo ≠ b98 := Nat.ne_of_lt (Nat.lt_of_lt_of_le (f0).lt (Nat.le_of_eq g98.symm))
  have n0_b98 : n0 ≤ b98 := Nat.le_trans Z0 (Nat.le_of_eq g98.symm)
  have h0_b98 : h0.size ≤ b98 := Nat.le_trans ((Keep.refl h0 [])).1 (Nat.le_of_eq g98.symm)
  have F_oo_everyName_98 := (f0).ext E98
  have K98 := ((Keep.refl h0 [])).ext E98
  have Zs98 := Nat.le_trans Z0 E98.1
  have A_b98 : own_Ar Z h98 b98 .int [(.int (0 : Int32))] := own_Ar.new A98 (by decide)
  refine own_step (fun _ kc_ => st98 _ kc_) ?_
  show own_Ends p e below s _ _ _ (T98.setTop (mkF m 10 #[.val (.ref oo), .val (.int (1 : Int32)), .unset, .unset, .unset, .unset, .unset, .unset, .unset] [(.ref b98)]))
  refine own_step (fun _ kc_ => XS.astoreN X98.here hx rfl (hb hby d9_10) rfl rfl (l' := #[.val (.ref oo), .val (.int (1 : Int32)), .val (.ref b98), .unset, .unset, .unset, .unset, .unset, .unset]) rfl (XS.aloadN X98.here hx rfl (hb hby d9_11) rfl rfl kc_)) ?_
  show own_Ends p e below s _ _ _ (T98.setTop (mkF m 12 #[.val (.ref oo), .val (.int (1 : Int32)), .val (.ref b98), .unset, .unset, .unset, .unset, .unset, .unset] [(.ref b98)]))
  have hst : (Cond.lambdaSite own_bel 12 53 own_sg).before #[(.ref oo), (.int (1 : Int32))] s = true := own_siteC hEx
  obtain ⟨fa, cK, hMade, hFn, sp99⟩ := Jvm.LamKit.siteConst X98 hx (x := own_bel) Bd.named hst rfl (g := (mkF m 12 #[.val (.ref oo), .val (.int (1 : Int32)), .val (.ref b98), .unset, .unset, .unset, .unset, .unset, .unset] [(.ref b98)])) rfl rfl (by rw [hml]; rfl) (hb hby d9_12) (Nat.le_of_ble_eq_true rfl)
  have hFn2 : Jvm.LamKit.FnAt h98 fa cK := by rw [← e98]; exact hFn
  refine own_step (fun _ kc_ => sp99 _ kc_) ?_
  show own_Ends p e below s _ _ _ (T98.setTop (mkF m 17 #[.val (.ref oo), .val (.int (1 : Int32)), .val (.ref b98), .unset, .unset, .unset, .unset, .unset, .unset] [(.ref fa), (.ref b98)]))
  obtain ⟨_, _, ⟨T100, L100, k100, n100⟩, -, X100, ⟨Lc100, hQ100, l100, y100, z100⟩, st100⟩ := Jvm.LawKit.callS X98 hx (y := (⟨"java/util/Arrays", "setAll", "([ILjava/util/function/IntUnaryOperator;)V"⟩ : MethodName)) hown (mvT hZ (hw _ (List.mem_of_getElem? (i := 62) rfl))) (mvT hZ (hw _ (List.mem_of_getElem? (i := 63) rfl))) (mvT hZ (hw _ (List.mem_of_getElem? (i := 64) rfl))) (mvT hZ (hw _ (List.mem_of_getElem? (i := 65) rfl))) (by decide) (own_backX (W := 0) (rmS1 l Z a0 hw [] b98 fa cK h98 n0 Zs98 A_b98 hFn2 n0_b98) hZ (hw _ (List.mem_of_getElem? (i := 65) rfl)) (hw _ (List.mem_of_getElem? (i := 64) rfl)) (by decide) (by decide) (fun _ _ _ _ _ _ _ Y => own_made_at hMade Y)) (g := (mkF m 17 #[.val (.ref oo), .val (.int (1 : Int32)), .val (.ref b98), .unset, .unset, .unset, .unset, .unset, .unset] [(.ref fa), (.ref b98)])) rfl (by rw [hml]; rfl) (argsL := [(.ref b98), (.ref fa)]) (rest := []) (lenOf pd_6 rfl) rfl (by show 2 * 0 + _ ≤ _; exact Nat.le_of_eq rfl) (hb hby d9_17) (fun _ _ => ⟨rfl, e98, (by decide : 1 + 0 ≤ _), (by decide : 1 + 0 ≤ _)⟩)
  dsimp only [Pt.U, Pt.locs, Pt.cells, Pt.slots] at X100 l100 y100 z100 st100 hQ100
  subst y100 z100
  obtain ⟨rfl, N100q, K100k, A100k⟩ := hQ100
  have F_oo_everyName_100 := (F_oo_everyName_98).keep K100k (ninS ne_oo_b98 nin0)
  have K100 := (K98).trans K100k (allS (Or.inr h0_b98) all0)
  have Zs100 := Nat.le_trans Zs98 K100k.1
  have N100 : Fr n0 L100 := by rw [l100]; exact Fr.app N0 N100q
  refine own_step (fun _ kc_ => st100 _ kc_) ?_
  show own_Ends p e below s _ _ _ (T100.setTop (mkF m 20 #[.val (.ref oo), .val (.int (1 : Int32)), .val (.ref b98), .unset, .unset, .unset, .unset, .unset, .unset] []))
  refine own_step (fun _ kc_ => XS.goto X100.here hx rfl (pc0 := 20) (pc' := 95) rfl (hb hby d9_20) (by decide) (by decide) (XS.aloadN X100.here hx rfl (hb hby d9_95) rfl rfl kc_)) ?_
  show own_Ends p e below s _ _ _ (T100.setTop (mkF m 96 #[.val (.ref oo), .val (.int (1 : Int32)), .val (.ref b98), .unset, .unset, .unset, .unset, .unset, .unset] [(.ref b98)]))
  exact own_retR X100 hx hret rfl rfl rfl hlk (hb hby d9_96) (by decide) (by decide) (by exact ⟨N100, K100, b98, rfl, A100k⟩)
theorem ef_rmS2 (m : MethodId) (ba : Addr) (fa : Addr) : entryFrame m #[(.ref ba), (.ref fa)] 3 = mkF m 0 #[.val (.ref ba), .val (.ref fa), .unset] [] := by first | (simp [entryFrame, mkF, argsToLocals, Value.category]; done) | rfl
def QS2 (Z : State) (ba : Addr) (fa : Addr) (cK : ClassId) (h0 : Heap) (n0 : Nat) (v : Option Value) (h : Heap) (L : List Loc) : Prop := v = none ∧ Fr n0 L ∧ Keep h0 h [ba] ∧ own_Ar Z h ba .int [(.int (0 : Int32)), (.int (1 : Int32))]
set_option maxRecDepth 65536 in
set_option maxHeartbeats 40000000 in
theorem rmS2 (l : Launch) (Z : State) (a0 : Array Value) (hw : ∀ d ∈ tables_1, d.before a0 Z = true) (ws : List Jvm.Cond) (ba : Addr) (fa : Addr) (cK : ClassId) (h0 : Heap) (n0 : Nat) (Z0 : n0 ≤ h0.size) (A0 : own_Ar Z h0 ba .int [(.int (0 : Int32)), (.int (0 : Int32))]) (F0 : Jvm.LamKit.FnAt h0 fa cK) (g0 : n0 ≤ ba) :
    MetFree l (⟨"java/util/Arrays", "setAll", "([ILjava/util/function/IntUnaryOperator;)V"⟩ : MethodName) (head1 (Jvm.Cond.code (⟨"java/util/Arrays", "setAll", "([ILjava/util/function/IntUnaryOperator;)V"⟩ : MethodName) jdk_65_method_175_code 3 none :: ws) ({ frames := 2, cells := 0, slots := 0, locals := 27 } : Room)) (fun a U => a = #[(.ref ba), (.ref fa)] ∧ Z.Warmed39 U.vm ∧ U.heap = h0 ∧ (fun U => Jvm.LamKit.Made U "com/example/kinds_by_value/kindsbyvalue/NameSet" own_sg cK) U) (fun _ _ _ _ _ => True) (fun _ U o U' => ∃ v L, o = .returned v ∧ QS2 Z ba fa cK h0 n0 v U'.heap L ∧ FrameEnd U o U' L ({ frames := 2, cells := 0, slots := 0, locals := 27 } : Room).cells ({ frames := 2, cells := 0, slots := 0, locals := 27 } : Room).slots) := by
  refine MetFree.of_bodySF (plainFor_of_name pn_1) hisR ?_
  intro p e s m args below meth c s₁ Bd hml0 hP hK
  obtain ⟨rfl, hZ, hh, hEx⟩ := hP
  have hx := Bd.exec
  have hby := Bd.bytes
  have hlk : meth.locks = false := BodyLoose.notSynchronized Bd
  have hret := Bd.returns
  have hml : c.maxLocals = 3 := hml0
  have hown : s.vm.findClass "java/util/Arrays" = some m.cls := findClass_of_methodNamed Bd.named
  have hnm := (name_of_methodNamed Bd.named Bd.method).1
  have X0 : Stand p l e ({ frames := 2, cells := 0, slots := 0, locals := 27 } : Room) s m #[(.ref ba), (.ref fa)] below meth c s₁ [] 0 0 := Stand.of_body Bd
  have e0 : s₁.heap = h0 := by rw [← hh, Bd.state]; rfl
  have N0 := Fr.nil n0
  show own_Ends p e below s 0 0 (QS2 Z ba fa cK h0 n0) (s₁.setTop (entryFrame m #[(.ref ba), (.ref fa)] 3))
  refine own_step (fun t k => castTop (ef_rmS2 m ba fa) k) ?_
  show own_Ends p e below s _ _ _ (s₁.setTop (mkF m 0 #[.val (.ref ba), .val (.ref fa), .unset] []))
  refine own_step (fun _ kc_ => XS.aloadN X0.here hx rfl (hb hby d10_0) rfl rfl kc_) ?_
  show own_Ends p e below s _ _ _ (s₁.setTop (mkF m 1 #[.val (.ref ba), .val (.ref fa), .unset] [(.ref fa)]))
  obtain ⟨_, _, ⟨T101, L101, k101, n101⟩, -, X101, ⟨Lc101, hQ101, l101, y101, z101⟩, st101⟩ := Jvm.LawKit.callS X0 hx (y := (⟨"java/util/Objects", "requireNonNull", "(Ljava/lang/Object;)Ljava/lang/Object;"⟩ : MethodName)) hown (mvT hZ (hw _ (List.mem_of_getElem? (i := 66) rfl))) (mvT hZ (hw _ (List.mem_of_getElem? (i := 67) rfl))) (mvT hZ (hw _ (List.mem_of_getElem? (i := 68) rfl))) (mvT hZ (hw _ (List.mem_of_getElem? (i := 69) rfl))) (by decide) (backOf (W := 0) (rm11 l Z a0 hw [] fa  h0 n0 Z0 ) hZ (hw _ (List.mem_of_getElem? (i := 69) rfl)) (hw _ (List.mem_of_getElem? (i := 68) rfl)) (by decide) (by decide)) (g := (mkF m 1 #[.val (.ref ba), .val (.ref fa), .unset] [(.ref fa)])) rfl (by rw [hml]; rfl) (argsL := [(.ref fa)]) (rest := []) (lenOf pd_5 rfl) rfl (by show 2 * 0 + _ ≤ _; exact Nat.le_of_eq rfl) (hb hby d10_1) (fun _ _ => ⟨rfl, e0, (by decide : 0 + 0 ≤ _), (by decide : 0 + 0 ≤ _)⟩)
  dsimp only [Pt.U, Pt.locs, Pt.cells, Pt.slots] at X101 l101 y101 z101 st101 hQ101
  subst y101 z101
  obtain ⟨rfl, N101q, e101⟩ := hQ101
  have e101h : T101.heap = h0 := e101
  have N101 : Fr n0 L101 := by rw [l101]; exact Fr.app N0 N101q
  refine own_step (fun _ kc_ => st101 _ kc_) ?_
  show own_Ends p e below s _ _ _ (T101.setTop (mkF m 4 #[.val (.ref ba), .val (.ref fa), .unset] [(.ref fa)]))
  refine own_step (fun _ kc_ => XS.pop X101.here hx rfl (hb hby d10_4) rfl rfl (XS.iconst X101.here hx rfl (hb hby d10_5) (XS.istoreN X101.here hx rfl (hb hby d10_6) rfl (l' := #[.val (.ref ba), .val (.ref fa), .val (.int (0 : Int32))]) rfl (XS.iloadN X101.here hx rfl (hb hby d10_7) rfl (XS.aloadN X101.here hx rfl (hb hby d10_8) rfl rfl (own_alen X101 hx hZ e101h A0 (n := 2) (z := (2 : Int32)) rfl rfl (hb hby d10_9) _ (XS.icmpNo X101.here hx rfl (hb hby d10_10) rfl (XT.ii_ge_f (by decide : (0 : Int32) < (2 : Int32))) (XS.aloadN X101.here hx rfl (hb hby d10_13) rfl rfl kc_)))))))) ?_
  show own_Ends p e below s _ _ _ (T101.setTop (mkF m 14 #[.val (.ref ba), .val (.ref fa), .val (.int (0 : Int32))] [(.ref ba)]))
  refine own_step (fun _ kc_ => XS.iloadN X101.here hx rfl (hb hby d10_14) rfl (XS.aloadN X101.here hx rfl (hb hby d10_15) rfl rfl (XS.iloadN X101.here hx rfl (hb hby d10_16) rfl kc_))) ?_
  show own_Ends p e below s _ _ _ (T101.setTop (mkF m 17 #[.val (.ref ba), .val (.ref fa), .val (.int (0 : Int32))] [(.int (0 : Int32)), (.ref fa), (.int (0 : Int32)), (.ref ba)]))
  have F102n : Jvm.LamKit.FnAt T101.heap fa cK := by rw [e101h]; exact F0
  obtain ⟨v102, st102, t102, T102, L102, X102, hL102, eh102, -, ⟨hv102, hh102⟩, sp102⟩ := Jvm.LamKit.callLamS X101 hx (own_lamMet l Z a0 hw (0 : Int32) h0 n0 Z0) (fun _ _ _ _ q => q) rfl rfl (fun w hwm a' U hU => by cases List.mem_singleton.mp hwm; exact mv (wtrans hZ hU) (hw _ (List.mem_of_getElem? (i := 83) rfl))) (List.mem_singleton.mpr rfl) hown (mvT hZ (hw _ (List.mem_of_getElem? (i := 79) rfl))) (mvT hZ (hw _ (List.mem_of_getElem? (i := 80) rfl))) (mvT hZ (hw _ (List.mem_of_getElem? (i := 81) rfl))) (mvT hZ (hw _ (List.mem_of_getElem? (i := 83) rfl))) (mvT hZ (hw _ (List.mem_of_getElem? (i := 82) rfl))) (mvT hZ (hw _ (List.mem_of_getElem? (i := 2) rfl))) (xi := (⟨"java/util/function/IntUnaryOperator", "applyAsInt", "(I)I"⟩ : MethodName)) ⟨rfl, rfl, by decide⟩ ⟨rfl, rfl, by decide⟩ (by decide) hEx F102n own_fok own_fc1 own_fc4 (g := (mkF m 17 #[.val (.ref ba), .val (.ref fa), .val (.int (0 : Int32))] [(.int (0 : Int32)), (.ref fa), (.int (0 : Int32)), (.ref ba)])) rfl (by rw [hml]; rfl) (argsL := [(.int (0 : Int32))]) (argsT := [(.int (0 : Int32))]) (rest := [(.int (0 : Int32)), (.ref ba)]) (L0 := #[.val (.ref fa), .val (.int (0 : Int32))]) (lenOf pd_3 rfl) (lenOf pd_3 rfl) rfl (hb hby d10_17) (fun _ => by first | rfl | (simp [entryFrame, argsToLocals, Value.category]; done)) rfl (fun U ck bl target hAt hck _ _ kk => XS.iloadN hAt hx rfl (hb hck own_fc0) rfl kk) (fun _ v _ q => Or.inl ⟨.int, (0 : Int32), rfl, Or.inl rfl, rfl, rfl, by cases q.1; rfl⟩) (by decide) (Nat.le_of_ble_eq_true rfl) (by decide : 0 + 0 ≤ _) (by decide : 0 + 0 ≤ _) (fun U hU hh => ⟨rfl, wtrans hZ hU, hh.trans e101h⟩)
  cases hv102
  have e102 : T102.heap = h0 := eh102.trans hh102
  have N102 := Fr.app N101 hL102
  refine own_step (fun _ kc_ => sp102 _ kc_) ?_
  show own_Ends p e below s _ _ _ (T102.setTop (mkF m 22 #[.val (.ref ba), .val (.ref fa), .val (.int (0 : Int32))] [(.int (0 : Int32)), (.int (0 : Int32)), (.ref ba)]))
  obtain ⟨T103, h103, X103, e103, W103, A103, st103⟩ := own_iastore X102 hx hZ e102 A0 (j := (0 : Int32)) (x := (0 : Int32)) (by decide) (i := 0) rfl (Nat.le_of_ble_eq_true rfl) (Ls := #[.val (.ref ba), .val (.ref fa), .val (.int (0 : Int32))]) (st := []) (hb hby d10_22)
  have A_ba_103 : own_Ar Z h103 ba .int [(.int (0 : Int32)), (.int (0 : Int32))] := A103
  have K103 := ((Keep.refl h0 [ba])).wr W103 (Or.inl (List.mem_of_getElem? (i := 0) rfl))
  have Zs103 := Nat.le_trans Z0 (Nat.le_of_eq W103.size.symm)
  have N103 := Fr.snoc X103 N102 g0
  refine own_step (fun _ kc_ => st103 _ kc_) ?_
  show own_Ends p e below s _ _ _ (T103.setTop (mkF m 23 #[.val (.ref ba), .val (.ref fa), .val (.int (0 : Int32))] []))
  have Fn103 := own_fn_wr F0 W103
  refine own_step (fun _ kc_ => XS.iinc X103.here hx rfl (hb hby d10_23) rfl (l' := #[.val (.ref ba), .val (.ref fa), .val (.int ((0 : Int32) + (1 : Int32)))]) rfl kc_) ?_
  show own_Ends p e below s _ _ _ (T103.setTop (mkF m 26 #[.val (.ref ba), .val (.ref fa), .val (.int ((0 : Int32) + (1 : Int32)))] []))
  rw [show ((0 : Int32) + (1 : Int32)) = (1 : Int32) from by decide]
  show own_Ends p e below s _ _ _ (T103.setTop (mkF m 26 #[.val (.ref ba), .val (.ref fa), .val (.int (1 : Int32))] []))
  refine own_step (fun _ kc_ => XS.goto X103.here hx rfl (pc0 := 26) (pc' := 7) rfl (hb hby d10_26) (by decide) (by decide) (XS.iloadN X103.here hx rfl (hb hby d10_7) rfl (XS.aloadN X103.here hx rfl (hb hby d10_8) rfl rfl (own_alen X103 hx hZ e103 A_ba_103 (n := 2) (z := (2 : Int32)) rfl rfl (hb hby d10_9) _ (XS.icmpNo X103.here hx rfl (hb hby d10_10) rfl (XT.ii_ge_f (by decide : (1 : Int32) < (2 : Int32))) (XS.aloadN X103.here hx rfl (hb hby d10_13) rfl rfl (XS.iloadN X103.here hx rfl (hb hby d10_14) rfl (XS.aloadN X103.here hx rfl (hb hby d10_15) rfl rfl kc_)))))))) ?_
  show own_Ends p e below s _ _ _ (T103.setTop (mkF m 16 #[.val (.ref ba), .val (.ref fa), .val (.int (1 : Int32))] [(.ref fa), (.int (1 : Int32)), (.ref ba)]))
  refine own_step (fun _ kc_ => XS.iloadN X103.here hx rfl (hb hby d10_16) rfl kc_) ?_
  show own_Ends p e below s _ _ _ (T103.setTop (mkF m 17 #[.val (.ref ba), .val (.ref fa), .val (.int (1 : Int32))] [(.int (1 : Int32)), (.ref fa), (.int (1 : Int32)), (.ref ba)]))
  have F104n : Jvm.LamKit.FnAt T103.heap fa cK := by rw [e103]; exact Fn103
  obtain ⟨v104, st104, t104, T104, L104, X104, hL104, eh104, -, ⟨hv104, hh104⟩, sp104⟩ := Jvm.LamKit.callLamS X103 hx (own_lamMet l Z a0 hw (1 : Int32) h103 n0 Zs103) (fun _ _ _ _ q => q) rfl rfl (fun w hwm a' U hU => by cases List.mem_singleton.mp hwm; exact mv (wtrans hZ hU) (hw _ (List.mem_of_getElem? (i := 83) rfl))) (List.mem_singleton.mpr rfl) hown (mvT hZ (hw _ (List.mem_of_getElem? (i := 79) rfl))) (mvT hZ (hw _ (List.mem_of_getElem? (i := 80) rfl))) (mvT hZ (hw _ (List.mem_of_getElem? (i := 81) rfl))) (mvT hZ (hw _ (List.mem_of_getElem? (i := 83) rfl))) (mvT hZ (hw _ (List.mem_of_getElem? (i := 82) rfl))) (mvT hZ (hw _ (List.mem_of_getElem? (i := 2) rfl))) (xi := (⟨"java/util/function/IntUnaryOperator", "applyAsInt", "(I)I"⟩ : MethodName)) ⟨rfl, rfl, by decide⟩ ⟨rfl, rfl, by decide⟩ (by decide) hEx F104n own_fok own_fc1 own_fc4 (g := (mkF m 17 #[.val (.ref ba), .val (.ref fa), .val (.int (1 : Int32))] [(.int (1 : Int32)), (.ref fa), (.int (1 : Int32)), (.ref ba)])) rfl (by rw [hml]; rfl) (argsL := [(.int (1 : Int32))]) (argsT := [(.int (1 : Int32))]) (rest := [(.int (1 : Int32)), (.ref ba)]) (L0 := #[.val (.ref fa), .val (.int (1 : Int32))]) (lenOf pd_3 rfl) (lenOf pd_3 rfl) rfl (hb hby d10_17) (fun _ => by first | rfl | (simp [entryFrame, argsToLocals, Value.category]; done)) rfl (fun U ck bl target hAt hck _ _ kk => XS.iloadN hAt hx rfl (hb hck own_fc0) rfl kk) (fun _ v _ q => Or.inl ⟨.int, (1 : Int32), rfl, Or.inl rfl, rfl, rfl, by cases q.1; rfl⟩) (by decide) (Nat.le_of_ble_eq_true rfl) (by decide : 0 + 0 ≤ _) (by decide : 0 + 0 ≤ _) (fun U hU hh => ⟨rfl, wtrans hZ hU, hh.trans e103⟩)
  cases hv104
  have e104 : T104.heap = h103 := eh104.trans hh104
  have N104 := Fr.app N103 hL104
  refine own_step (fun _ kc_ => sp104 _ kc_) ?_
  show own_Ends p e below s _ _ _ (T104.setTop (mkF m 22 #[.val (.ref ba), .val (.ref fa), .val (.int (1 : Int32))] [(.int (1 : Int32)), (.int (1 : Int32)), (.ref ba)]))
  obtain ⟨T105, h105, X105, e105, W105, A105, st105⟩ := own_iastore X104 hx hZ e104 A_ba_103 (j := (1 : Int32)) (x := (1 : Int32)) (by decide) (i := 1) rfl (Nat.le_of_ble_eq_true rfl) (Ls := #[.val (.ref ba), .val (.ref fa), .val (.int (1 : Int32))]) (st := []) (hb hby d10_22)
  have A_ba_105 : own_Ar Z h105 ba .int [(.int (0 : Int32)), (.int (1 : Int32))] := A105
  have K105 := (K103).wr W105 (Or.inl (List.mem_of_getElem? (i := 0) rfl))
  have Zs105 := Nat.le_trans Zs103 (Nat.le_of_eq W105.size.symm)
  have N105 := Fr.snoc X105 N104 g0
  refine own_step (fun _ kc_ => st105 _ kc_) ?_
  show own_Ends p e below s _ _ _ (T105.setTop (mkF m 23 #[.val (.ref ba), .val (.ref fa), .val (.int (1 : Int32))] []))
  have Fn105 := own_fn_wr Fn103 W105
  refine own_step (fun _ kc_ => XS.iinc X105.here hx rfl (hb hby d10_23) rfl (l' := #[.val (.ref ba), .val (.ref fa), .val (.int ((1 : Int32) + (1 : Int32)))]) rfl kc_) ?_
  show own_Ends p e below s _ _ _ (T105.setTop (mkF m 26 #[.val (.ref ba), .val (.ref fa), .val (.int ((1 : Int32) + (1 : Int32)))] []))
  rw [show ((1 : Int32) + (1 : Int32)) = (2 : Int32) from by decide]
  show own_Ends p e below s _ _ _ (T105.setTop (mkF m 26 #[.val (.ref ba), .val (.ref fa), .val (.int (2 : Int32))] []))
  refine own_step (fun _ kc_ => XS.goto X105.here hx rfl (pc0 := 26) (pc' := 7) rfl (hb hby d10_26) (by decide) (by decide) (XS.iloadN X105.here hx rfl (hb hby d10_7) rfl (XS.aloadN X105.here hx rfl (hb hby d10_8) rfl rfl (own_alen X105 hx hZ e105 A_ba_105 (n := 2) (z := (2 : Int32)) rfl rfl (hb hby d10_9) _ (XS.icmpYes X105.here hx rfl (pc0 := 10) (pc' := 29) rfl (hb hby d10_10) rfl (XT.ii_ge_t (by decide : ¬ ((2 : Int32) < (2 : Int32)))) (by decide) (by decide) kc_))))) ?_
  show own_Ends p e below s _ _ _ (T105.setTop (mkF m 29 #[.val (.ref ba), .val (.ref fa), .val (.int (2 : Int32))] []))
  exact own_retV X105 hx hret hlk (hb hby d10_29) (by decide) (by decide) (by rw [e105]; exact ⟨rfl, N105, K105, A_ba_105⟩)
theorem ef_rmB2 (m : MethodId) (oo : Addr) : entryFrame m #[(.ref oo), (.int (2 : Int32))] 9 = mkF m 0 #[.val (.ref oo), .val (.int (2 : Int32)), .unset, .unset, .unset, .unset, .unset, .unset, .unset] [] := by first | (simp [entryFrame, mkF, argsToLocals, Value.category]; done) | rfl
def QB2 (Z : State) (oo : Addr)  (h0 : Heap) (n0 : Nat) (v : Option Value) (h : Heap) (L : List Loc) : Prop := Fr n0 L ∧ Keep h0 h [] ∧ ∃ ba, v = some (.ref ba) ∧ own_Ar Z h ba .int [(.int (0 : Int32)), (.int (1 : Int32))]
set_option maxRecDepth 65536 in
set_option maxHeartbeats 40000000 in
theorem rmB2 (l : Launch) (Z : State) (a0 : Array Value) (hw : ∀ d ∈ tables_1, d.before a0 Z = true) (ws : List Jvm.Cond) (oo : Addr)  (h0 : Heap) (n0 : Nat) (Z0 : n0 ≤ h0.size) (f0 : Fld Z h0 oo "com/example/kinds_by_value/kindsbyvalue/NameSet" "everyName" "Z" (.int (1 : Int32))) :
    MetFree l (⟨"com/example/kinds_by_value/kindsbyvalue/NameSet", "below", "(I)[I"⟩ : MethodName) (head1 (Jvm.Cond.code (⟨"com/example/kinds_by_value/kindsbyvalue/NameSet", "below", "(I)[I"⟩ : MethodName) prog_9_method_6_code 9 (some (.array .int)) :: ws) ({ frames := 3, cells := 1, slots := 2, locals := 3100 } : Room)) (fun a U => a = #[(.ref oo), (.int (2 : Int32))] ∧ Z.Warmed39 U.vm ∧ U.heap = h0 ∧ own_Site U) (fun _ _ _ _ _ => True) (fun _ U o U' => ∃ v L, o = .returned v ∧ QB2 Z oo  h0 n0 v U'.heap L ∧ FrameEnd U o U' L ({ frames := 3, cells := 1, slots := 2, locals := 3100 } : Room).cells ({ frames := 3, cells := 1, slots := 2, locals := 3100 } : Room).slots) := by
  refine MetFree.of_bodySF (plainFor_of_name pn_2) hisR ?_
  intro p e s m args below meth c s₁ Bd hml0 hP hK
  obtain ⟨rfl, hZ, hh, hEx⟩ := hP
  have hx := Bd.exec
  have hby := Bd.bytes
  have hlk : meth.locks = false := BodyLoose.notSynchronized Bd
  have hret := Bd.returns
  have hml : c.maxLocals = 9 := hml0
  have hown : s.vm.findClass "com/example/kinds_by_value/kindsbyvalue/NameSet" = some m.cls := findClass_of_methodNamed Bd.named
  have hnm := (name_of_methodNamed Bd.named Bd.method).1
  have X0 : Stand p l e ({ frames := 3, cells := 1, slots := 2, locals := 3100 } : Room) s m #[(.ref oo), (.int (2 : Int32))] below meth c s₁ [] 0 0 := Stand.of_body Bd
  have e0 : s₁.heap = h0 := by rw [← hh, Bd.state]; rfl
  have N0 := Fr.nil n0
  show own_Ends p e below s 1 2 (QB2 Z oo  h0 n0) (s₁.setTop (entryFrame m #[(.ref oo), (.int (2 : Int32))] 9))
  refine own_step (fun t k => castTop (ef_rmB2 m oo) k) ?_
  show own_Ends p e below s _ _ _ (s₁.setTop (mkF m 0 #[.val (.ref oo), .val (.int (2 : Int32)), .unset, .unset, .unset, .unset, .unset, .unset, .unset] []))
  refine own_step (fun _ kc_ => XS.aloadN X0.here hx rfl (hb hby d9_0) rfl rfl kc_) ?_
  show own_Ends p e below s _ _ _ (s₁.setTop (mkF m 1 #[.val (.ref oo), .val (.int (2 : Int32)), .unset, .unset, .unset, .unset, .unset, .unset, .unset] [(.ref oo)]))
  obtain ⟨T106, X106, e106, st106⟩ := getF X0 hx hZ hown (host := "") (Or.inl (hw _ (List.mem_of_getElem? (i := 17) rfl))) Via.refl e0 f0 (g := (mkF m 1 #[.val (.ref oo), .val (.int (2 : Int32)), .unset, .unset, .unset, .unset, .unset, .unset, .unset] [(.ref oo)])) rfl rfl (hb hby d9_1)
  refine own_step (fun _ kc_ => st106 _ kc_) ?_
  show own_Ends p e below s _ _ _ (T106.setTop (mkF m 4 #[.val (.ref oo), .val (.int (2 : Int32)), .unset, .unset, .unset, .unset, .unset, .unset, .unset] [(.int (1 : Int32))]))
  refine own_step (fun _ kc_ => XS.ifNo X106.here hx rfl (hb hby d9_4) rfl (XT.i0_eq_f (by decide : ¬ ((1 : Int32) = 0))) (XS.iloadN X106.here hx rfl (hb hby d9_7) rfl kc_)) ?_
  show own_Ends p e below s _ _ _ (T106.setTop (mkF m 8 #[.val (.ref oo), .val (.int (2 : Int32)), .unset, .unset, .unset, .unset, .unset, .unset, .unset] [(.int (2 : Int32))]))
  obtain ⟨T107, h107, k107, X107, e107, E107, A107, st107⟩ := newP X106 hx hZ (hw _ (List.mem_of_getElem? (i := 59) rfl)) e106 (g := (mkF m 8 #[.val (.ref oo), .val (.int (2 : Int32)), .unset, .unset, .unset, .unset, .unset, .unset, .unset] [(.int (2 : Int32))])) rfl (hb hby d9_8) rfl (by decide) (cap := 2) (by decide) (by decide) (by decide : 0 + 1 ≤ _) (by decide : 0 + 2 ≤ _)
  obtain ⟨b107, g107⟩ : ∃ z, z = h0.size := ⟨_, rfl⟩
  rw [← g107] at A107 st107
  have ne_oo_b107 : oo ≠ b107 := Nat.ne_of_lt (Nat.lt_of_lt_of_le (f0).lt (Nat.le_of_eq g107.symm))
  have n0_b107 : n0 ≤ b107 := Nat.le_trans Z0 (Nat.le_of_eq g107.symm)
  have h0_b107 : h0.size ≤ b107 := Nat.le_trans ((Keep.refl h0 [])).1 (Nat.le_of_eq g107.symm)
  have F_oo_everyName_107 := (f0).ext E107
  have K107 := ((Keep.refl h0 [])).ext E107
  have Zs107 := Nat.le_trans Z0 E107.1
  have A_b107 : own_Ar Z h107 b107 .int [(.int (0 : Int32)), (.int (0 : Int32))] := own_Ar.new A107 (by decide)
  refine own_step (fun _ kc_ => st107 _ kc_) ?_
  show own_Ends p e below s _ _ _ (T107.setTop (mkF m 10 #[.val (.ref oo), .val (.int (2 : Int32)), .unset, .unset, .unset, .unset, .unset, .unset, .unset] [(.ref b107)]))
  refine own_step (fun _ kc_ => XS.astoreN X107.here hx rfl (hb hby d9_10) rfl rfl (l' := #[.val (.ref oo), .val (.int (2 : Int32)), .val (.ref b107), .unset, .unset, .unset, .unset, .unset, .unset]) rfl (XS.aloadN X107.here hx rfl (hb hby d9_11) rfl rfl kc_)) ?_
  show own_Ends p e below s _ _ _ (T107.setTop (mkF m 12 #[.val (.ref oo), .val (.int (2 : Int32)), .val (.ref b107), .unset, .unset, .unset, .unset, .unset, .unset] [(.ref b107)]))
  have hst : (Cond.lambdaSite own_bel 12 53 own_sg).before #[(.ref oo), (.int (2 : Int32))] s = true := own_siteC hEx
  obtain ⟨fa, cK, hMade, hFn, sp108⟩ := Jvm.LamKit.siteConst X107 hx (x := own_bel) Bd.named hst rfl (g := (mkF m 12 #[.val (.ref oo), .val (.int (2 : Int32)), .val (.ref b107), .unset, .unset, .unset, .unset, .unset, .unset] [(.ref b107)])) rfl rfl (by rw [hml]; rfl) (hb hby d9_12) (Nat.le_of_ble_eq_true rfl)
  have hFn2 : Jvm.LamKit.FnAt h107 fa cK := by rw [← e107]; exact hFn
  refine own_step (fun _ kc_ => sp108 _ kc_) ?_
  show own_Ends p e below s _ _ _ (T107.setTop (mkF m 17 #[.val (.ref oo), .val (.int (2 : Int32)), .val (.ref b107), .unset, .unset, .unset, .unset, .unset, .unset] [(.ref fa), (.ref b107)]))
  obtain ⟨_, _, ⟨T109, L109, k109, n109⟩, -, X109, ⟨Lc109, hQ109, l109, y109, z109⟩, st109⟩ := Jvm.LawKit.callS X107 hx (y := (⟨"java/util/Arrays", "setAll", "([ILjava/util/function/IntUnaryOperator;)V"⟩ : MethodName)) hown (mvT hZ (hw _ (List.mem_of_getElem? (i := 62) rfl))) (mvT hZ (hw _ (List.mem_of_getElem? (i := 63) rfl))) (mvT hZ (hw _ (List.mem_of_getElem? (i := 64) rfl))) (mvT hZ (hw _ (List.mem_of_getElem? (i := 65) rfl))) (by decide) (own_backX (W := 0) (rmS2 l Z a0 hw [] b107 fa cK h107 n0 Zs107 A_b107 hFn2 n0_b107) hZ (hw _ (List.mem_of_getElem? (i := 65) rfl)) (hw _ (List.mem_of_getElem? (i := 64) rfl)) (by decide) (by decide) (fun _ _ _ _ _ _ _ Y => own_made_at hMade Y)) (g := (mkF m 17 #[.val (.ref oo), .val (.int (2 : Int32)), .val (.ref b107), .unset, .unset, .unset, .unset, .unset, .unset] [(.ref fa), (.ref b107)])) rfl (by rw [hml]; rfl) (argsL := [(.ref b107), (.ref fa)]) (rest := []) (lenOf pd_6 rfl) rfl (by show 2 * 0 + _ ≤ _; exact Nat.le_of_eq rfl) (hb hby d9_17) (fun _ _ => ⟨rfl, e107, (by decide : 1 + 0 ≤ _), (by decide : 2 + 0 ≤ _)⟩)
  dsimp only [Pt.U, Pt.locs, Pt.cells, Pt.slots] at X109 l109 y109 z109 st109 hQ109
  subst y109 z109
  obtain ⟨rfl, N109q, K109k, A109k⟩ := hQ109
  have F_oo_everyName_109 := (F_oo_everyName_107).keep K109k (ninS ne_oo_b107 nin0)
  have K109 := (K107).trans K109k (allS (Or.inr h0_b107) all0)
  have Zs109 := Nat.le_trans Zs107 K109k.1
  have N109 : Fr n0 L109 := by rw [l109]; exact Fr.app N0 N109q
  refine own_step (fun _ kc_ => st109 _ kc_) ?_
  show own_Ends p e below s _ _ _ (T109.setTop (mkF m 20 #[.val (.ref oo), .val (.int (2 : Int32)), .val (.ref b107), .unset, .unset, .unset, .unset, .unset, .unset] []))
  refine own_step (fun _ kc_ => XS.goto X109.here hx rfl (pc0 := 20) (pc' := 95) rfl (hb hby d9_20) (by decide) (by decide) (XS.aloadN X109.here hx rfl (hb hby d9_95) rfl rfl kc_)) ?_
  show own_Ends p e below s _ _ _ (T109.setTop (mkF m 96 #[.val (.ref oo), .val (.int (2 : Int32)), .val (.ref b107), .unset, .unset, .unset, .unset, .unset, .unset] [(.ref b107)]))
  exact own_retR X109 hx hret rfl rfl rfl hlk (hb hby d9_96) (by decide) (by decide) (by exact ⟨N109, K109, b107, rfl, A109k⟩)
theorem ef_rmS3 (m : MethodId) (ba : Addr) (fa : Addr) : entryFrame m #[(.ref ba), (.ref fa)] 3 = mkF m 0 #[.val (.ref ba), .val (.ref fa), .unset] [] := by first | (simp [entryFrame, mkF, argsToLocals, Value.category]; done) | rfl
def QS3 (Z : State) (ba : Addr) (fa : Addr) (cK : ClassId) (h0 : Heap) (n0 : Nat) (v : Option Value) (h : Heap) (L : List Loc) : Prop := v = none ∧ Fr n0 L ∧ Keep h0 h [ba] ∧ own_Ar Z h ba .int [(.int (0 : Int32)), (.int (1 : Int32)), (.int (2 : Int32))]
set_option maxRecDepth 65536 in
set_option maxHeartbeats 40000000 in
theorem rmS3 (l : Launch) (Z : State) (a0 : Array Value) (hw : ∀ d ∈ tables_1, d.before a0 Z = true) (ws : List Jvm.Cond) (ba : Addr) (fa : Addr) (cK : ClassId) (h0 : Heap) (n0 : Nat) (Z0 : n0 ≤ h0.size) (A0 : own_Ar Z h0 ba .int [(.int (0 : Int32)), (.int (0 : Int32)), (.int (0 : Int32))]) (F0 : Jvm.LamKit.FnAt h0 fa cK) (g0 : n0 ≤ ba) :
    MetFree l (⟨"java/util/Arrays", "setAll", "([ILjava/util/function/IntUnaryOperator;)V"⟩ : MethodName) (head1 (Jvm.Cond.code (⟨"java/util/Arrays", "setAll", "([ILjava/util/function/IntUnaryOperator;)V"⟩ : MethodName) jdk_65_method_175_code 3 none :: ws) ({ frames := 2, cells := 0, slots := 0, locals := 27 } : Room)) (fun a U => a = #[(.ref ba), (.ref fa)] ∧ Z.Warmed39 U.vm ∧ U.heap = h0 ∧ (fun U => Jvm.LamKit.Made U "com/example/kinds_by_value/kindsbyvalue/NameSet" own_sg cK) U) (fun _ _ _ _ _ => True) (fun _ U o U' => ∃ v L, o = .returned v ∧ QS3 Z ba fa cK h0 n0 v U'.heap L ∧ FrameEnd U o U' L ({ frames := 2, cells := 0, slots := 0, locals := 27 } : Room).cells ({ frames := 2, cells := 0, slots := 0, locals := 27 } : Room).slots) := by
  refine MetFree.of_bodySF (plainFor_of_name pn_1) hisR ?_
  intro p e s m args below meth c s₁ Bd hml0 hP hK
  obtain ⟨rfl, hZ, hh, hEx⟩ := hP
  have hx := Bd.exec
  have hby := Bd.bytes
  have hlk : meth.locks = false := BodyLoose.notSynchronized Bd
  have hret := Bd.returns
  have hml : c.maxLocals = 3 := hml0
  have hown : s.vm.findClass "java/util/Arrays" = some m.cls := findClass_of_methodNamed Bd.named
  have hnm := (name_of_methodNamed Bd.named Bd.method).1
  have X0 : Stand p l e ({ frames := 2, cells := 0, slots := 0, locals := 27 } : Room) s m #[(.ref ba), (.ref fa)] below meth c s₁ [] 0 0 := Stand.of_body Bd
  have e0 : s₁.heap = h0 := by rw [← hh, Bd.state]; rfl
  have N0 := Fr.nil n0
  show own_Ends p e below s 0 0 (QS3 Z ba fa cK h0 n0) (s₁.setTop (entryFrame m #[(.ref ba), (.ref fa)] 3))
  refine own_step (fun t k => castTop (ef_rmS3 m ba fa) k) ?_
  show own_Ends p e below s _ _ _ (s₁.setTop (mkF m 0 #[.val (.ref ba), .val (.ref fa), .unset] []))
  refine own_step (fun _ kc_ => XS.aloadN X0.here hx rfl (hb hby d10_0) rfl rfl kc_) ?_
  show own_Ends p e below s _ _ _ (s₁.setTop (mkF m 1 #[.val (.ref ba), .val (.ref fa), .unset] [(.ref fa)]))
  obtain ⟨_, _, ⟨T110, L110, k110, n110⟩, -, X110, ⟨Lc110, hQ110, l110, y110, z110⟩, st110⟩ := Jvm.LawKit.callS X0 hx (y := (⟨"java/util/Objects", "requireNonNull", "(Ljava/lang/Object;)Ljava/lang/Object;"⟩ : MethodName)) hown (mvT hZ (hw _ (List.mem_of_getElem? (i := 66) rfl))) (mvT hZ (hw _ (List.mem_of_getElem? (i := 67) rfl))) (mvT hZ (hw _ (List.mem_of_getElem? (i := 68) rfl))) (mvT hZ (hw _ (List.mem_of_getElem? (i := 69) rfl))) (by decide) (backOf (W := 0) (rm11 l Z a0 hw [] fa  h0 n0 Z0 ) hZ (hw _ (List.mem_of_getElem? (i := 69) rfl)) (hw _ (List.mem_of_getElem? (i := 68) rfl)) (by decide) (by decide)) (g := (mkF m 1 #[.val (.ref ba), .val (.ref fa), .unset] [(.ref fa)])) rfl (by rw [hml]; rfl) (argsL := [(.ref fa)]) (rest := []) (lenOf pd_5 rfl) rfl (by show 2 * 0 + _ ≤ _; exact Nat.le_of_eq rfl) (hb hby d10_1) (fun _ _ => ⟨rfl, e0, (by decide : 0 + 0 ≤ _), (by decide : 0 + 0 ≤ _)⟩)
  dsimp only [Pt.U, Pt.locs, Pt.cells, Pt.slots] at X110 l110 y110 z110 st110 hQ110
  subst y110 z110
  obtain ⟨rfl, N110q, e110⟩ := hQ110
  have e110h : T110.heap = h0 := e110
  have N110 : Fr n0 L110 := by rw [l110]; exact Fr.app N0 N110q
  refine own_step (fun _ kc_ => st110 _ kc_) ?_
  show own_Ends p e below s _ _ _ (T110.setTop (mkF m 4 #[.val (.ref ba), .val (.ref fa), .unset] [(.ref fa)]))
  refine own_step (fun _ kc_ => XS.pop X110.here hx rfl (hb hby d10_4) rfl rfl (XS.iconst X110.here hx rfl (hb hby d10_5) (XS.istoreN X110.here hx rfl (hb hby d10_6) rfl (l' := #[.val (.ref ba), .val (.ref fa), .val (.int (0 : Int32))]) rfl (XS.iloadN X110.here hx rfl (hb hby d10_7) rfl (XS.aloadN X110.here hx rfl (hb hby d10_8) rfl rfl (own_alen X110 hx hZ e110h A0 (n := 3) (z := (3 : Int32)) rfl rfl (hb hby d10_9) _ (XS.icmpNo X110.here hx rfl (hb hby d10_10) rfl (XT.ii_ge_f (by decide : (0 : Int32) < (3 : Int32))) (XS.aloadN X110.here hx rfl (hb hby d10_13) rfl rfl kc_)))))))) ?_
  show own_Ends p e below s _ _ _ (T110.setTop (mkF m 14 #[.val (.ref ba), .val (.ref fa), .val (.int (0 : Int32))] [(.ref ba)]))
  refine own_step (fun _ kc_ => XS.iloadN X110.here hx rfl (hb hby d10_14) rfl (XS.aloadN X110.here hx rfl (hb hby d10_15) rfl rfl (XS.iloadN X110.here hx rfl (hb hby d10_16) rfl kc_))) ?_
  show own_Ends p e below s _ _ _ (T110.setTop (mkF m 17 #[.val (.ref ba), .val (.ref fa), .val (.int (0 : Int32))] [(.int (0 : Int32)), (.ref fa), (.int (0 : Int32)), (.ref ba)]))
  have F111n : Jvm.LamKit.FnAt T110.heap fa cK := by rw [e110h]; exact F0
  obtain ⟨v111, st111, t111, T111, L111, X111, hL111, eh111, -, ⟨hv111, hh111⟩, sp111⟩ := Jvm.LamKit.callLamS X110 hx (own_lamMet l Z a0 hw (0 : Int32) h0 n0 Z0) (fun _ _ _ _ q => q) rfl rfl (fun w hwm a' U hU => by cases List.mem_singleton.mp hwm; exact mv (wtrans hZ hU) (hw _ (List.mem_of_getElem? (i := 83) rfl))) (List.mem_singleton.mpr rfl) hown (mvT hZ (hw _ (List.mem_of_getElem? (i := 79) rfl))) (mvT hZ (hw _ (List.mem_of_getElem? (i := 80) rfl))) (mvT hZ (hw _ (List.mem_of_getElem? (i := 81) rfl))) (mvT hZ (hw _ (List.mem_of_getElem? (i := 83) rfl))) (mvT hZ (hw _ (List.mem_of_getElem? (i := 82) rfl))) (mvT hZ (hw _ (List.mem_of_getElem? (i := 2) rfl))) (xi := (⟨"java/util/function/IntUnaryOperator", "applyAsInt", "(I)I"⟩ : MethodName)) ⟨rfl, rfl, by decide⟩ ⟨rfl, rfl, by decide⟩ (by decide) hEx F111n own_fok own_fc1 own_fc4 (g := (mkF m 17 #[.val (.ref ba), .val (.ref fa), .val (.int (0 : Int32))] [(.int (0 : Int32)), (.ref fa), (.int (0 : Int32)), (.ref ba)])) rfl (by rw [hml]; rfl) (argsL := [(.int (0 : Int32))]) (argsT := [(.int (0 : Int32))]) (rest := [(.int (0 : Int32)), (.ref ba)]) (L0 := #[.val (.ref fa), .val (.int (0 : Int32))]) (lenOf pd_3 rfl) (lenOf pd_3 rfl) rfl (hb hby d10_17) (fun _ => by first | rfl | (simp [entryFrame, argsToLocals, Value.category]; done)) rfl (fun U ck bl target hAt hck _ _ kk => XS.iloadN hAt hx rfl (hb hck own_fc0) rfl kk) (fun _ v _ q => Or.inl ⟨.int, (0 : Int32), rfl, Or.inl rfl, rfl, rfl, by cases q.1; rfl⟩) (by decide) (Nat.le_of_ble_eq_true rfl) (by decide : 0 + 0 ≤ _) (by decide : 0 + 0 ≤ _) (fun U hU hh => ⟨rfl, wtrans hZ hU, hh.trans e110h⟩)
  cases hv111
  have e111 : T111.heap = h0 := eh111.trans hh111
  have N111 := Fr.app N110 hL111
  refine own_step (fun _ kc_ => sp111 _ kc_) ?_
  show own_Ends p e below s _ _ _ (T111.setTop (mkF m 22 #[.val (.ref ba), .val (.ref fa), .val (.int (0 : Int32))] [(.int (0 : Int32)), (.int (0 : Int32)), (.ref ba)]))
  obtain ⟨T112, h112, X112, e112, W112, A112, st112⟩ := own_iastore X111 hx hZ e111 A0 (j := (0 : Int32)) (x := (0 : Int32)) (by decide) (i := 0) rfl (Nat.le_of_ble_eq_true rfl) (Ls := #[.val (.ref ba), .val (.ref fa), .val (.int (0 : Int32))]) (st := []) (hb hby d10_22)
  have A_ba_112 : own_Ar Z h112 ba .int [(.int (0 : Int32)), (.int (0 : Int32)), (.int (0 : Int32))] := A112
  have K112 := ((Keep.refl h0 [ba])).wr W112 (Or.inl (List.mem_of_getElem? (i := 0) rfl))
  have Zs112 := Nat.le_trans Z0 (Nat.le_of_eq W112.size.symm)
  have N112 := Fr.snoc X112 N111 g0
  refine own_step (fun _ kc_ => st112 _ kc_) ?_
  show own_Ends p e below s _ _ _ (T112.setTop (mkF m 23 #[.val (.ref ba), .val (.ref fa), .val (.int (0 : Int32))] []))
  have Fn112 := own_fn_wr F0 W112
  refine own_step (fun _ kc_ => XS.iinc X112.here hx rfl (hb hby d10_23) rfl (l' := #[.val (.ref ba), .val (.ref fa), .val (.int ((0 : Int32) + (1 : Int32)))]) rfl kc_) ?_
  show own_Ends p e below s _ _ _ (T112.setTop (mkF m 26 #[.val (.ref ba), .val (.ref fa), .val (.int ((0 : Int32) + (1 : Int32)))] []))
  rw [show ((0 : Int32) + (1 : Int32)) = (1 : Int32) from by decide]
  show own_Ends p e below s _ _ _ (T112.setTop (mkF m 26 #[.val (.ref ba), .val (.ref fa), .val (.int (1 : Int32))] []))
  refine own_step (fun _ kc_ => XS.goto X112.here hx rfl (pc0 := 26) (pc' := 7) rfl (hb hby d10_26) (by decide) (by decide) (XS.iloadN X112.here hx rfl (hb hby d10_7) rfl (XS.aloadN X112.here hx rfl (hb hby d10_8) rfl rfl (own_alen X112 hx hZ e112 A_ba_112 (n := 3) (z := (3 : Int32)) rfl rfl (hb hby d10_9) _ (XS.icmpNo X112.here hx rfl (hb hby d10_10) rfl (XT.ii_ge_f (by decide : (1 : Int32) < (3 : Int32))) (XS.aloadN X112.here hx rfl (hb hby d10_13) rfl rfl (XS.iloadN X112.here hx rfl (hb hby d10_14) rfl (XS.aloadN X112.here hx rfl (hb hby d10_15) rfl rfl kc_)))))))) ?_
  show own_Ends p e below s _ _ _ (T112.setTop (mkF m 16 #[.val (.ref ba), .val (.ref fa), .val (.int (1 : Int32))] [(.ref fa), (.int (1 : Int32)), (.ref ba)]))
  refine own_step (fun _ kc_ => XS.iloadN X112.here hx rfl (hb hby d10_16) rfl kc_) ?_
  show own_Ends p e below s _ _ _ (T112.setTop (mkF m 17 #[.val (.ref ba), .val (.ref fa), .val (.int (1 : Int32))] [(.int (1 : Int32)), (.ref fa), (.int (1 : Int32)), (.ref ba)]))
  have F113n : Jvm.LamKit.FnAt T112.heap fa cK := by rw [e112]; exact Fn112
  obtain ⟨v113, st113, t113, T113, L113, X113, hL113, eh113, -, ⟨hv113, hh113⟩, sp113⟩ := Jvm.LamKit.callLamS X112 hx (own_lamMet l Z a0 hw (1 : Int32) h112 n0 Zs112) (fun _ _ _ _ q => q) rfl rfl (fun w hwm a' U hU => by cases List.mem_singleton.mp hwm; exact mv (wtrans hZ hU) (hw _ (List.mem_of_getElem? (i := 83) rfl))) (List.mem_singleton.mpr rfl) hown (mvT hZ (hw _ (List.mem_of_getElem? (i := 79) rfl))) (mvT hZ (hw _ (List.mem_of_getElem? (i := 80) rfl))) (mvT hZ (hw _ (List.mem_of_getElem? (i := 81) rfl))) (mvT hZ (hw _ (List.mem_of_getElem? (i := 83) rfl))) (mvT hZ (hw _ (List.mem_of_getElem? (i := 82) rfl))) (mvT hZ (hw _ (List.mem_of_getElem? (i := 2) rfl))) (xi := (⟨"java/util/function/IntUnaryOperator", "applyAsInt", "(I)I"⟩ : MethodName)) ⟨rfl, rfl, by decide⟩ ⟨rfl, rfl, by decide⟩ (by decide) hEx F113n own_fok own_fc1 own_fc4 (g := (mkF m 17 #[.val (.ref ba), .val (.ref fa), .val (.int (1 : Int32))] [(.int (1 : Int32)), (.ref fa), (.int (1 : Int32)), (.ref ba)])) rfl (by rw [hml]; rfl) (argsL := [(.int (1 : Int32))]) (argsT := [(.int (1 : Int32))]) (rest := [(.int (1 : Int32)), (.ref ba)]) (L0 := #[.val (.ref fa), .val (.int (1 : Int32))]) (lenOf pd_3 rfl) (lenOf pd_3 rfl) rfl (hb hby d10_17) (fun _ => by first | rfl | (simp [entryFrame, argsToLocals, Value.category]; done)) rfl (fun U ck bl target hAt hck _ _ kk => XS.iloadN hAt hx rfl (hb hck own_fc0) rfl kk) (fun _ v _ q => Or.inl ⟨.int, (1 : Int32), rfl, Or.inl rfl, rfl, rfl, by cases q.1; rfl⟩) (by decide) (Nat.le_of_ble_eq_true rfl) (by decide : 0 + 0 ≤ _) (by decide : 0 + 0 ≤ _) (fun U hU hh => ⟨rfl, wtrans hZ hU, hh.trans e112⟩)
  cases hv113
  have e113 : T113.heap = h112 := eh113.trans hh113
  have N113 := Fr.app N112 hL113
  refine own_step (fun _ kc_ => sp113 _ kc_) ?_
  show own_Ends p e below s _ _ _ (T113.setTop (mkF m 22 #[.val (.ref ba), .val (.ref fa), .val (.int (1 : Int32))] [(.int (1 : Int32)), (.int (1 : Int32)), (.ref ba)]))
  obtain ⟨T114, h114, X114, e114, W114, A114, st114⟩ := own_iastore X113 hx hZ e113 A_ba_112 (j := (1 : Int32)) (x := (1 : Int32)) (by decide) (i := 1) rfl (Nat.le_of_ble_eq_true rfl) (Ls := #[.val (.ref ba), .val (.ref fa), .val (.int (1 : Int32))]) (st := []) (hb hby d10_22)
  have A_ba_114 : own_Ar Z h114 ba .int [(.int (0 : Int32)), (.int (1 : Int32)), (.int (0 : Int32))] := A114
  have K114 := (K112).wr W114 (Or.inl (List.mem_of_getElem? (i := 0) rfl))
  have Zs114 := Nat.le_trans Zs112 (Nat.le_of_eq W114.size.symm)
  have N114 := Fr.snoc X114 N113 g0
  refine own_step (fun _ kc_ => st114 _ kc_) ?_
  show own_Ends p e below s _ _ _ (T114.setTop (mkF m 23 #[.val (.ref ba), .val (.ref fa), .val (.int (1 : Int32))] []))
  have Fn114 := own_fn_wr Fn112 W114
  refine own_step (fun _ kc_ => XS.iinc X114.here hx rfl (hb hby d10_23) rfl (l' := #[.val (.ref ba), .val (.ref fa), .val (.int ((1 : Int32) + (1 : Int32)))]) rfl kc_) ?_
  show own_Ends p e below s _ _ _ (T114.setTop (mkF m 26 #[.val (.ref ba), .val (.ref fa), .val (.int ((1 : Int32) + (1 : Int32)))] []))
  rw [show ((1 : Int32) + (1 : Int32)) = (2 : Int32) from by decide]
  show own_Ends p e below s _ _ _ (T114.setTop (mkF m 26 #[.val (.ref ba), .val (.ref fa), .val (.int (2 : Int32))] []))
  refine own_step (fun _ kc_ => XS.goto X114.here hx rfl (pc0 := 26) (pc' := 7) rfl (hb hby d10_26) (by decide) (by decide) (XS.iloadN X114.here hx rfl (hb hby d10_7) rfl (XS.aloadN X114.here hx rfl (hb hby d10_8) rfl rfl (own_alen X114 hx hZ e114 A_ba_114 (n := 3) (z := (3 : Int32)) rfl rfl (hb hby d10_9) _ (XS.icmpNo X114.here hx rfl (hb hby d10_10) rfl (XT.ii_ge_f (by decide : (2 : Int32) < (3 : Int32))) (XS.aloadN X114.here hx rfl (hb hby d10_13) rfl rfl (XS.iloadN X114.here hx rfl (hb hby d10_14) rfl (XS.aloadN X114.here hx rfl (hb hby d10_15) rfl rfl kc_)))))))) ?_
  show own_Ends p e below s _ _ _ (T114.setTop (mkF m 16 #[.val (.ref ba), .val (.ref fa), .val (.int (2 : Int32))] [(.ref fa), (.int (2 : Int32)), (.ref ba)]))
  refine own_step (fun _ kc_ => XS.iloadN X114.here hx rfl (hb hby d10_16) rfl kc_) ?_
  show own_Ends p e below s _ _ _ (T114.setTop (mkF m 17 #[.val (.ref ba), .val (.ref fa), .val (.int (2 : Int32))] [(.int (2 : Int32)), (.ref fa), (.int (2 : Int32)), (.ref ba)]))
  have F115n : Jvm.LamKit.FnAt T114.heap fa cK := by rw [e114]; exact Fn114
  obtain ⟨v115, st115, t115, T115, L115, X115, hL115, eh115, -, ⟨hv115, hh115⟩, sp115⟩ := Jvm.LamKit.callLamS X114 hx (own_lamMet l Z a0 hw (2 : Int32) h114 n0 Zs114) (fun _ _ _ _ q => q) rfl rfl (fun w hwm a' U hU => by cases List.mem_singleton.mp hwm; exact mv (wtrans hZ hU) (hw _ (List.mem_of_getElem? (i := 83) rfl))) (List.mem_singleton.mpr rfl) hown (mvT hZ (hw _ (List.mem_of_getElem? (i := 79) rfl))) (mvT hZ (hw _ (List.mem_of_getElem? (i := 80) rfl))) (mvT hZ (hw _ (List.mem_of_getElem? (i := 81) rfl))) (mvT hZ (hw _ (List.mem_of_getElem? (i := 83) rfl))) (mvT hZ (hw _ (List.mem_of_getElem? (i := 82) rfl))) (mvT hZ (hw _ (List.mem_of_getElem? (i := 2) rfl))) (xi := (⟨"java/util/function/IntUnaryOperator", "applyAsInt", "(I)I"⟩ : MethodName)) ⟨rfl, rfl, by decide⟩ ⟨rfl, rfl, by decide⟩ (by decide) hEx F115n own_fok own_fc1 own_fc4 (g := (mkF m 17 #[.val (.ref ba), .val (.ref fa), .val (.int (2 : Int32))] [(.int (2 : Int32)), (.ref fa), (.int (2 : Int32)), (.ref ba)])) rfl (by rw [hml]; rfl) (argsL := [(.int (2 : Int32))]) (argsT := [(.int (2 : Int32))]) (rest := [(.int (2 : Int32)), (.ref ba)]) (L0 := #[.val (.ref fa), .val (.int (2 : Int32))]) (lenOf pd_3 rfl) (lenOf pd_3 rfl) rfl (hb hby d10_17) (fun _ => by first | rfl | (simp [entryFrame, argsToLocals, Value.category]; done)) rfl (fun U ck bl target hAt hck _ _ kk => XS.iloadN hAt hx rfl (hb hck own_fc0) rfl kk) (fun _ v _ q => Or.inl ⟨.int, (2 : Int32), rfl, Or.inl rfl, rfl, rfl, by cases q.1; rfl⟩) (by decide) (Nat.le_of_ble_eq_true rfl) (by decide : 0 + 0 ≤ _) (by decide : 0 + 0 ≤ _) (fun U hU hh => ⟨rfl, wtrans hZ hU, hh.trans e114⟩)
  cases hv115
  have e115 : T115.heap = h114 := eh115.trans hh115
  have N115 := Fr.app N114 hL115
  refine own_step (fun _ kc_ => sp115 _ kc_) ?_
  show own_Ends p e below s _ _ _ (T115.setTop (mkF m 22 #[.val (.ref ba), .val (.ref fa), .val (.int (2 : Int32))] [(.int (2 : Int32)), (.int (2 : Int32)), (.ref ba)]))
  obtain ⟨T116, h116, X116, e116, W116, A116, st116⟩ := own_iastore X115 hx hZ e115 A_ba_114 (j := (2 : Int32)) (x := (2 : Int32)) (by decide) (i := 2) rfl (Nat.le_of_ble_eq_true rfl) (Ls := #[.val (.ref ba), .val (.ref fa), .val (.int (2 : Int32))]) (st := []) (hb hby d10_22)
  have A_ba_116 : own_Ar Z h116 ba .int [(.int (0 : Int32)), (.int (1 : Int32)), (.int (2 : Int32))] := A116
  have K116 := (K114).wr W116 (Or.inl (List.mem_of_getElem? (i := 0) rfl))
  have Zs116 := Nat.le_trans Zs114 (Nat.le_of_eq W116.size.symm)
  have N116 := Fr.snoc X116 N115 g0
  refine own_step (fun _ kc_ => st116 _ kc_) ?_
  show own_Ends p e below s _ _ _ (T116.setTop (mkF m 23 #[.val (.ref ba), .val (.ref fa), .val (.int (2 : Int32))] []))
  have Fn116 := own_fn_wr Fn114 W116
  refine own_step (fun _ kc_ => XS.iinc X116.here hx rfl (hb hby d10_23) rfl (l' := #[.val (.ref ba), .val (.ref fa), .val (.int ((2 : Int32) + (1 : Int32)))]) rfl kc_) ?_
  show own_Ends p e below s _ _ _ (T116.setTop (mkF m 26 #[.val (.ref ba), .val (.ref fa), .val (.int ((2 : Int32) + (1 : Int32)))] []))
  rw [show ((2 : Int32) + (1 : Int32)) = (3 : Int32) from by decide]
  show own_Ends p e below s _ _ _ (T116.setTop (mkF m 26 #[.val (.ref ba), .val (.ref fa), .val (.int (3 : Int32))] []))
  refine own_step (fun _ kc_ => XS.goto X116.here hx rfl (pc0 := 26) (pc' := 7) rfl (hb hby d10_26) (by decide) (by decide) (XS.iloadN X116.here hx rfl (hb hby d10_7) rfl (XS.aloadN X116.here hx rfl (hb hby d10_8) rfl rfl (own_alen X116 hx hZ e116 A_ba_116 (n := 3) (z := (3 : Int32)) rfl rfl (hb hby d10_9) _ (XS.icmpYes X116.here hx rfl (pc0 := 10) (pc' := 29) rfl (hb hby d10_10) rfl (XT.ii_ge_t (by decide : ¬ ((3 : Int32) < (3 : Int32)))) (by decide) (by decide) kc_))))) ?_
  show own_Ends p e below s _ _ _ (T116.setTop (mkF m 29 #[.val (.ref ba), .val (.ref fa), .val (.int (3 : Int32))] []))
  exact own_retV X116 hx hret hlk (hb hby d10_29) (by decide) (by decide) (by rw [e116]; exact ⟨rfl, N116, K116, A_ba_116⟩)
theorem ef_rmB3 (m : MethodId) (oo : Addr) : entryFrame m #[(.ref oo), (.int (3 : Int32))] 9 = mkF m 0 #[.val (.ref oo), .val (.int (3 : Int32)), .unset, .unset, .unset, .unset, .unset, .unset, .unset] [] := by first | (simp [entryFrame, mkF, argsToLocals, Value.category]; done) | rfl
def QB3 (Z : State) (oo : Addr)  (h0 : Heap) (n0 : Nat) (v : Option Value) (h : Heap) (L : List Loc) : Prop := Fr n0 L ∧ Keep h0 h [] ∧ ∃ ba, v = some (.ref ba) ∧ own_Ar Z h ba .int [(.int (0 : Int32)), (.int (1 : Int32)), (.int (2 : Int32))]
set_option maxRecDepth 65536 in
set_option maxHeartbeats 40000000 in
theorem rmB3 (l : Launch) (Z : State) (a0 : Array Value) (hw : ∀ d ∈ tables_1, d.before a0 Z = true) (ws : List Jvm.Cond) (oo : Addr)  (h0 : Heap) (n0 : Nat) (Z0 : n0 ≤ h0.size) (f0 : Fld Z h0 oo "com/example/kinds_by_value/kindsbyvalue/NameSet" "everyName" "Z" (.int (1 : Int32))) :
    MetFree l (⟨"com/example/kinds_by_value/kindsbyvalue/NameSet", "below", "(I)[I"⟩ : MethodName) (head1 (Jvm.Cond.code (⟨"com/example/kinds_by_value/kindsbyvalue/NameSet", "below", "(I)[I"⟩ : MethodName) prog_9_method_6_code 9 (some (.array .int)) :: ws) ({ frames := 3, cells := 1, slots := 3, locals := 3100 } : Room)) (fun a U => a = #[(.ref oo), (.int (3 : Int32))] ∧ Z.Warmed39 U.vm ∧ U.heap = h0 ∧ own_Site U) (fun _ _ _ _ _ => True) (fun _ U o U' => ∃ v L, o = .returned v ∧ QB3 Z oo  h0 n0 v U'.heap L ∧ FrameEnd U o U' L ({ frames := 3, cells := 1, slots := 3, locals := 3100 } : Room).cells ({ frames := 3, cells := 1, slots := 3, locals := 3100 } : Room).slots) := by
  refine MetFree.of_bodySF (plainFor_of_name pn_2) hisR ?_
  intro p e s m args below meth c s₁ Bd hml0 hP hK
  obtain ⟨rfl, hZ, hh, hEx⟩ := hP
  have hx := Bd.exec
  have hby := Bd.bytes
  have hlk : meth.locks = false := BodyLoose.notSynchronized Bd
  have hret := Bd.returns
  have hml : c.maxLocals = 9 := hml0
  have hown : s.vm.findClass "com/example/kinds_by_value/kindsbyvalue/NameSet" = some m.cls := findClass_of_methodNamed Bd.named
  have hnm := (name_of_methodNamed Bd.named Bd.method).1
  have X0 : Stand p l e ({ frames := 3, cells := 1, slots := 3, locals := 3100 } : Room) s m #[(.ref oo), (.int (3 : Int32))] below meth c s₁ [] 0 0 := Stand.of_body Bd
  have e0 : s₁.heap = h0 := by rw [← hh, Bd.state]; rfl
  have N0 := Fr.nil n0
  show own_Ends p e below s 1 3 (QB3 Z oo  h0 n0) (s₁.setTop (entryFrame m #[(.ref oo), (.int (3 : Int32))] 9))
  refine own_step (fun t k => castTop (ef_rmB3 m oo) k) ?_
  show own_Ends p e below s _ _ _ (s₁.setTop (mkF m 0 #[.val (.ref oo), .val (.int (3 : Int32)), .unset, .unset, .unset, .unset, .unset, .unset, .unset] []))
  refine own_step (fun _ kc_ => XS.aloadN X0.here hx rfl (hb hby d9_0) rfl rfl kc_) ?_
  show own_Ends p e below s _ _ _ (s₁.setTop (mkF m 1 #[.val (.ref oo), .val (.int (3 : Int32)), .unset, .unset, .unset, .unset, .unset, .unset, .unset] [(.ref oo)]))
  obtain ⟨T117, X117, e117, st117⟩ := getF X0 hx hZ hown (host := "") (Or.inl (hw _ (List.mem_of_getElem? (i := 17) rfl))) Via.refl e0 f0 (g := (mkF m 1 #[.val (.ref oo), .val (.int (3 : Int32)), .unset, .unset, .unset, .unset, .unset, .unset, .unset] [(.ref oo)])) rfl rfl (hb hby d9_1)
  refine own_step (fun _ kc_ => st117 _ kc_) ?_
  show own_Ends p e below s _ _ _ (T117.setTop (mkF m 4 #[.val (.ref oo), .val (.int (3 : Int32)), .unset, .unset, .unset, .unset, .unset, .unset, .unset] [(.int (1 : Int32))]))
  refine own_step (fun _ kc_ => XS.ifNo X117.here hx rfl (hb hby d9_4) rfl (XT.i0_eq_f (by decide : ¬ ((1 : Int32) = 0))) (XS.iloadN X117.here hx rfl (hb hby d9_7) rfl kc_)) ?_
  show own_Ends p e below s _ _ _ (T117.setTop (mkF m 8 #[.val (.ref oo), .val (.int (3 : Int32)), .unset, .unset, .unset, .unset, .unset, .unset, .unset] [(.int (3 : Int32))]))
  obtain ⟨T118, h118, k118, X118, e118, E118, A118, st118⟩ := newP X117 hx hZ (hw _ (List.mem_of_getElem? (i := 59) rfl)) e117 (g := (mkF m 8 #[.val (.ref oo), .val (.int (3 : Int32)), .unset, .unset, .unset, .unset, .unset, .unset, .unset] [(.int (3 : Int32))])) rfl (hb hby d9_8) rfl (by decide) (cap := 3) (by decide) (by decide) (by decide : 0 + 1 ≤ _) (by decide : 0 + 3 ≤ _)
  obtain ⟨b118, g118⟩ : ∃ z, z = h0.size := ⟨_, rfl⟩
  rw [← g118] at A118 st118
  have ne_oo_b118 : oo ≠ b118 := Nat.ne_of_lt (Nat.lt_of_lt_of_le (f0).lt (Nat.le_of_eq g118.symm))
  have n0_b118 : n0 ≤ b118 := Nat.le_trans Z0 (Nat.le_of_eq g118.symm)
  have h0_b118 : h0.size ≤ b118 := Nat.le_trans ((Keep.refl h0 [])).1 (Nat.le_of_eq g118.symm)
  have F_oo_everyName_118 := (f0).ext E118
  have K118 := ((Keep.refl h0 [])).ext E118
  have Zs118 := Nat.le_trans Z0 E118.1
  have A_b118 : own_Ar Z h118 b118 .int [(.int (0 : Int32)), (.int (0 : Int32)), (.int (0 : Int32))] := own_Ar.new A118 (by decide)
  refine own_step (fun _ kc_ => st118 _ kc_) ?_
  show own_Ends p e below s _ _ _ (T118.setTop (mkF m 10 #[.val (.ref oo), .val (.int (3 : Int32)), .unset, .unset, .unset, .unset, .unset, .unset, .unset] [(.ref b118)]))
  refine own_step (fun _ kc_ => XS.astoreN X118.here hx rfl (hb hby d9_10) rfl rfl (l' := #[.val (.ref oo), .val (.int (3 : Int32)), .val (.ref b118), .unset, .unset, .unset, .unset, .unset, .unset]) rfl (XS.aloadN X118.here hx rfl (hb hby d9_11) rfl rfl kc_)) ?_
  show own_Ends p e below s _ _ _ (T118.setTop (mkF m 12 #[.val (.ref oo), .val (.int (3 : Int32)), .val (.ref b118), .unset, .unset, .unset, .unset, .unset, .unset] [(.ref b118)]))
  have hst : (Cond.lambdaSite own_bel 12 53 own_sg).before #[(.ref oo), (.int (3 : Int32))] s = true := own_siteC hEx
  obtain ⟨fa, cK, hMade, hFn, sp119⟩ := Jvm.LamKit.siteConst X118 hx (x := own_bel) Bd.named hst rfl (g := (mkF m 12 #[.val (.ref oo), .val (.int (3 : Int32)), .val (.ref b118), .unset, .unset, .unset, .unset, .unset, .unset] [(.ref b118)])) rfl rfl (by rw [hml]; rfl) (hb hby d9_12) (Nat.le_of_ble_eq_true rfl)
  have hFn2 : Jvm.LamKit.FnAt h118 fa cK := by rw [← e118]; exact hFn
  refine own_step (fun _ kc_ => sp119 _ kc_) ?_
  show own_Ends p e below s _ _ _ (T118.setTop (mkF m 17 #[.val (.ref oo), .val (.int (3 : Int32)), .val (.ref b118), .unset, .unset, .unset, .unset, .unset, .unset] [(.ref fa), (.ref b118)]))
  obtain ⟨_, _, ⟨T120, L120, k120, n120⟩, -, X120, ⟨Lc120, hQ120, l120, y120, z120⟩, st120⟩ := Jvm.LawKit.callS X118 hx (y := (⟨"java/util/Arrays", "setAll", "([ILjava/util/function/IntUnaryOperator;)V"⟩ : MethodName)) hown (mvT hZ (hw _ (List.mem_of_getElem? (i := 62) rfl))) (mvT hZ (hw _ (List.mem_of_getElem? (i := 63) rfl))) (mvT hZ (hw _ (List.mem_of_getElem? (i := 64) rfl))) (mvT hZ (hw _ (List.mem_of_getElem? (i := 65) rfl))) (by decide) (own_backX (W := 0) (rmS3 l Z a0 hw [] b118 fa cK h118 n0 Zs118 A_b118 hFn2 n0_b118) hZ (hw _ (List.mem_of_getElem? (i := 65) rfl)) (hw _ (List.mem_of_getElem? (i := 64) rfl)) (by decide) (by decide) (fun _ _ _ _ _ _ _ Y => own_made_at hMade Y)) (g := (mkF m 17 #[.val (.ref oo), .val (.int (3 : Int32)), .val (.ref b118), .unset, .unset, .unset, .unset, .unset, .unset] [(.ref fa), (.ref b118)])) rfl (by rw [hml]; rfl) (argsL := [(.ref b118), (.ref fa)]) (rest := []) (lenOf pd_6 rfl) rfl (by show 2 * 0 + _ ≤ _; exact Nat.le_of_eq rfl) (hb hby d9_17) (fun _ _ => ⟨rfl, e118, (by decide : 1 + 0 ≤ _), (by decide : 3 + 0 ≤ _)⟩)
  dsimp only [Pt.U, Pt.locs, Pt.cells, Pt.slots] at X120 l120 y120 z120 st120 hQ120
  subst y120 z120
  obtain ⟨rfl, N120q, K120k, A120k⟩ := hQ120
  have F_oo_everyName_120 := (F_oo_everyName_118).keep K120k (ninS ne_oo_b118 nin0)
  have K120 := (K118).trans K120k (allS (Or.inr h0_b118) all0)
  have Zs120 := Nat.le_trans Zs118 K120k.1
  have N120 : Fr n0 L120 := by rw [l120]; exact Fr.app N0 N120q
  refine own_step (fun _ kc_ => st120 _ kc_) ?_
  show own_Ends p e below s _ _ _ (T120.setTop (mkF m 20 #[.val (.ref oo), .val (.int (3 : Int32)), .val (.ref b118), .unset, .unset, .unset, .unset, .unset, .unset] []))
  refine own_step (fun _ kc_ => XS.goto X120.here hx rfl (pc0 := 20) (pc' := 95) rfl (hb hby d9_20) (by decide) (by decide) (XS.aloadN X120.here hx rfl (hb hby d9_95) rfl rfl kc_)) ?_
  show own_Ends p e below s _ _ _ (T120.setTop (mkF m 96 #[.val (.ref oo), .val (.int (3 : Int32)), .val (.ref b118), .unset, .unset, .unset, .unset, .unset, .unset] [(.ref b118)]))
  exact own_retR X120 hx hret rfl rfl rfl hlk (hb hby d9_96) (by decide) (by decide) (by exact ⟨N120, K120, b118, rfl, A120k⟩)
theorem ef_rmS4 (m : MethodId) (ba : Addr) (fa : Addr) : entryFrame m #[(.ref ba), (.ref fa)] 3 = mkF m 0 #[.val (.ref ba), .val (.ref fa), .unset] [] := by first | (simp [entryFrame, mkF, argsToLocals, Value.category]; done) | rfl
def QS4 (Z : State) (ba : Addr) (fa : Addr) (cK : ClassId) (h0 : Heap) (n0 : Nat) (v : Option Value) (h : Heap) (L : List Loc) : Prop := v = none ∧ Fr n0 L ∧ Keep h0 h [ba] ∧ own_Ar Z h ba .int [(.int (0 : Int32)), (.int (1 : Int32)), (.int (2 : Int32)), (.int (3 : Int32))]
set_option maxRecDepth 65536 in
set_option maxHeartbeats 40000000 in
theorem rmS4 (l : Launch) (Z : State) (a0 : Array Value) (hw : ∀ d ∈ tables_1, d.before a0 Z = true) (ws : List Jvm.Cond) (ba : Addr) (fa : Addr) (cK : ClassId) (h0 : Heap) (n0 : Nat) (Z0 : n0 ≤ h0.size) (A0 : own_Ar Z h0 ba .int [(.int (0 : Int32)), (.int (0 : Int32)), (.int (0 : Int32)), (.int (0 : Int32))]) (F0 : Jvm.LamKit.FnAt h0 fa cK) (g0 : n0 ≤ ba) :
    MetFree l (⟨"java/util/Arrays", "setAll", "([ILjava/util/function/IntUnaryOperator;)V"⟩ : MethodName) (head1 (Jvm.Cond.code (⟨"java/util/Arrays", "setAll", "([ILjava/util/function/IntUnaryOperator;)V"⟩ : MethodName) jdk_65_method_175_code 3 none :: ws) ({ frames := 2, cells := 0, slots := 0, locals := 27 } : Room)) (fun a U => a = #[(.ref ba), (.ref fa)] ∧ Z.Warmed39 U.vm ∧ U.heap = h0 ∧ (fun U => Jvm.LamKit.Made U "com/example/kinds_by_value/kindsbyvalue/NameSet" own_sg cK) U) (fun _ _ _ _ _ => True) (fun _ U o U' => ∃ v L, o = .returned v ∧ QS4 Z ba fa cK h0 n0 v U'.heap L ∧ FrameEnd U o U' L ({ frames := 2, cells := 0, slots := 0, locals := 27 } : Room).cells ({ frames := 2, cells := 0, slots := 0, locals := 27 } : Room).slots) := by
  refine MetFree.of_bodySF (plainFor_of_name pn_1) hisR ?_
  intro p e s m args below meth c s₁ Bd hml0 hP hK
  obtain ⟨rfl, hZ, hh, hEx⟩ := hP
  have hx := Bd.exec
  have hby := Bd.bytes
  have hlk : meth.locks = false := BodyLoose.notSynchronized Bd
  have hret := Bd.returns
  have hml : c.maxLocals = 3 := hml0
  have hown : s.vm.findClass "java/util/Arrays" = some m.cls := findClass_of_methodNamed Bd.named
  have hnm := (name_of_methodNamed Bd.named Bd.method).1
  have X0 : Stand p l e ({ frames := 2, cells := 0, slots := 0, locals := 27 } : Room) s m #[(.ref ba), (.ref fa)] below meth c s₁ [] 0 0 := Stand.of_body Bd
  have e0 : s₁.heap = h0 := by rw [← hh, Bd.state]; rfl
  have N0 := Fr.nil n0
  show own_Ends p e below s 0 0 (QS4 Z ba fa cK h0 n0) (s₁.setTop (entryFrame m #[(.ref ba), (.ref fa)] 3))
  refine own_step (fun t k => castTop (ef_rmS4 m ba fa) k) ?_
  show own_Ends p e below s _ _ _ (s₁.setTop (mkF m 0 #[.val (.ref ba), .val (.ref fa), .unset] []))
  refine own_step (fun _ kc_ => XS.aloadN X0.here hx rfl (hb hby d10_0) rfl rfl kc_) ?_
  show own_Ends p e below s _ _ _ (s₁.setTop (mkF m 1 #[.val (.ref ba), .val (.ref fa), .unset] [(.ref fa)]))
  obtain ⟨_, _, ⟨T121, L121, k121, n121⟩, -, X121, ⟨Lc121, hQ121, l121, y121, z121⟩, st121⟩ := Jvm.LawKit.callS X0 hx (y := (⟨"java/util/Objects", "requireNonNull", "(Ljava/lang/Object;)Ljava/lang/Object;"⟩ : MethodName)) hown (mvT hZ (hw _ (List.mem_of_getElem? (i := 66) rfl))) (mvT hZ (hw _ (List.mem_of_getElem? (i := 67) rfl))) (mvT hZ (hw _ (List.mem_of_getElem? (i := 68) rfl))) (mvT hZ (hw _ (List.mem_of_getElem? (i := 69) rfl))) (by decide) (backOf (W := 0) (rm11 l Z a0 hw [] fa  h0 n0 Z0 ) hZ (hw _ (List.mem_of_getElem? (i := 69) rfl)) (hw _ (List.mem_of_getElem? (i := 68) rfl)) (by decide) (by decide)) (g := (mkF m 1 #[.val (.ref ba), .val (.ref fa), .unset] [(.ref fa)])) rfl (by rw [hml]; rfl) (argsL := [(.ref fa)]) (rest := []) (lenOf pd_5 rfl) rfl (by show 2 * 0 + _ ≤ _; exact Nat.le_of_eq rfl) (hb hby d10_1) (fun _ _ => ⟨rfl, e0, (by decide : 0 + 0 ≤ _), (by decide : 0 + 0 ≤ _)⟩)
  dsimp only [Pt.U, Pt.locs, Pt.cells, Pt.slots] at X121 l121 y121 z121 st121 hQ121
  subst y121 z121
  obtain ⟨rfl, N121q, e121⟩ := hQ121
  have e121h : T121.heap = h0 := e121
  have N121 : Fr n0 L121 := by rw [l121]; exact Fr.app N0 N121q
  refine own_step (fun _ kc_ => st121 _ kc_) ?_
  show own_Ends p e below s _ _ _ (T121.setTop (mkF m 4 #[.val (.ref ba), .val (.ref fa), .unset] [(.ref fa)]))
  refine own_step (fun _ kc_ => XS.pop X121.here hx rfl (hb hby d10_4) rfl rfl (XS.iconst X121.here hx rfl (hb hby d10_5) (XS.istoreN X121.here hx rfl (hb hby d10_6) rfl (l' := #[.val (.ref ba), .val (.ref fa), .val (.int (0 : Int32))]) rfl (XS.iloadN X121.here hx rfl (hb hby d10_7) rfl (XS.aloadN X121.here hx rfl (hb hby d10_8) rfl rfl (own_alen X121 hx hZ e121h A0 (n := 4) (z := (4 : Int32)) rfl rfl (hb hby d10_9) _ (XS.icmpNo X121.here hx rfl (hb hby d10_10) rfl (XT.ii_ge_f (by decide : (0 : Int32) < (4 : Int32))) (XS.aloadN X121.here hx rfl (hb hby d10_13) rfl rfl kc_)))))))) ?_
  show own_Ends p e below s _ _ _ (T121.setTop (mkF m 14 #[.val (.ref ba), .val (.ref fa), .val (.int (0 : Int32))] [(.ref ba)]))
  refine own_step (fun _ kc_ => XS.iloadN X121.here hx rfl (hb hby d10_14) rfl (XS.aloadN X121.here hx rfl (hb hby d10_15) rfl rfl (XS.iloadN X121.here hx rfl (hb hby d10_16) rfl kc_))) ?_
  show own_Ends p e below s _ _ _ (T121.setTop (mkF m 17 #[.val (.ref ba), .val (.ref fa), .val (.int (0 : Int32))] [(.int (0 : Int32)), (.ref fa), (.int (0 : Int32)), (.ref ba)]))
  have F122n : Jvm.LamKit.FnAt T121.heap fa cK := by rw [e121h]; exact F0
  obtain ⟨v122, st122, t122, T122, L122, X122, hL122, eh122, -, ⟨hv122, hh122⟩, sp122⟩ := Jvm.LamKit.callLamS X121 hx (own_lamMet l Z a0 hw (0 : Int32) h0 n0 Z0) (fun _ _ _ _ q => q) rfl rfl (fun w hwm a' U hU => by cases List.mem_singleton.mp hwm; exact mv (wtrans hZ hU) (hw _ (List.mem_of_getElem? (i := 83) rfl))) (List.mem_singleton.mpr rfl) hown (mvT hZ (hw _ (List.mem_of_getElem? (i := 79) rfl))) (mvT hZ (hw _ (List.mem_of_getElem? (i := 80) rfl))) (mvT hZ (hw _ (List.mem_of_getElem? (i := 81) rfl))) (mvT hZ (hw _ (List.mem_of_getElem? (i := 83) rfl))) (mvT hZ (hw _ (List.mem_of_getElem? (i := 82) rfl))) (mvT hZ (hw _ (List.mem_of_getElem? (i := 2) rfl))) (xi := (⟨"java/util/function/IntUnaryOperator", "applyAsInt", "(I)I"⟩ : MethodName)) ⟨rfl, rfl, by decide⟩ ⟨rfl, rfl, by decide⟩ (by decide) hEx F122n own_fok own_fc1 own_fc4 (g := (mkF m 17 #[.val (.ref ba), .val (.ref fa), .val (.int (0 : Int32))] [(.int (0 : Int32)), (.ref fa), (.int (0 : Int32)), (.ref ba)])) rfl (by rw [hml]; rfl) (argsL := [(.int (0 : Int32))]) (argsT := [(.int (0 : Int32))]) (rest := [(.int (0 : Int32)), (.ref ba)]) (L0 := #[.val (.ref fa), .val (.int (0 : Int32))]) (lenOf pd_3 rfl) (lenOf pd_3 rfl) rfl (hb hby d10_17) (fun _ => by first | rfl | (simp [entryFrame, argsToLocals, Value.category]; done)) rfl (fun U ck bl target hAt hck _ _ kk => XS.iloadN hAt hx rfl (hb hck own_fc0) rfl kk) (fun _ v _ q => Or.inl ⟨.int, (0 : Int32), rfl, Or.inl rfl, rfl, rfl, by cases q.1; rfl⟩) (by decide) (Nat.le_of_ble_eq_true rfl) (by decide : 0 + 0 ≤ _) (by decide : 0 + 0 ≤ _) (fun U hU hh => ⟨rfl, wtrans hZ hU, hh.trans e121h⟩)
  cases hv122
  have e122 : T122.heap = h0 := eh122.trans hh122
  have N122 := Fr.app N121 hL122
  refine own_step (fun _ kc_ => sp122 _ kc_) ?_
  show own_Ends p e below s _ _ _ (T122.setTop (mkF m 22 #[.val (.ref ba), .val (.ref fa), .val (.int (0 : Int32))] [(.int (0 : Int32)), (.int (0 : Int32)), (.ref ba)]))
  obtain ⟨T123, h123, X123, e123, W123, A123, st123⟩ := own_iastore X122 hx hZ e122 A0 (j := (0 : Int32)) (x := (0 : Int32)) (by decide) (i := 0) rfl (Nat.le_of_ble_eq_true rfl) (Ls := #[.val (.ref ba), .val (.ref fa), .val (.int (0 : Int32))]) (st := []) (hb hby d10_22)
  have A_ba_123 : own_Ar Z h123 ba .int [(.int (0 : Int32)), (.int (0 : Int32)), (.int (0 : Int32)), (.int (0 : Int32))] := A123
  have K123 := ((Keep.refl h0 [ba])).wr W123 (Or.inl (List.mem_of_getElem? (i := 0) rfl))
  have Zs123 := Nat.le_trans Z0 (Nat.le_of_eq W123.size.symm)
  have N123 := Fr.snoc X123 N122 g0
  refine own_step (fun _ kc_ => st123 _ kc_) ?_
  show own_Ends p e below s _ _ _ (T123.setTop (mkF m 23 #[.val (.ref ba), .val (.ref fa), .val (.int (0 : Int32))] []))
  have Fn123 := own_fn_wr F0 W123
  refine own_step (fun _ kc_ => XS.iinc X123.here hx rfl (hb hby d10_23) rfl (l' := #[.val (.ref ba), .val (.ref fa), .val (.int ((0 : Int32) + (1 : Int32)))]) rfl kc_) ?_
  show own_Ends p e below s _ _ _ (T123.setTop (mkF m 26 #[.val (.ref ba), .val (.ref fa), .val (.int ((0 : Int32) + (1 : Int32)))] []))
  rw [show ((0 : Int32) + (1 : Int32)) = (1 : Int32) from by decide]
  show own_Ends p e below s _ _ _ (T123.setTop (mkF m 26 #[.val (.ref ba), .val (.ref fa), .val (.int (1 : Int32))] []))
  refine own_step (fun _ kc_ => XS.goto X123.here hx rfl (pc0 := 26) (pc' := 7) rfl (hb hby d10_26) (by decide) (by decide) (XS.iloadN X123.here hx rfl (hb hby d10_7) rfl (XS.aloadN X123.here hx rfl (hb hby d10_8) rfl rfl (own_alen X123 hx hZ e123 A_ba_123 (n := 4) (z := (4 : Int32)) rfl rfl (hb hby d10_9) _ (XS.icmpNo X123.here hx rfl (hb hby d10_10) rfl (XT.ii_ge_f (by decide : (1 : Int32) < (4 : Int32))) (XS.aloadN X123.here hx rfl (hb hby d10_13) rfl rfl (XS.iloadN X123.here hx rfl (hb hby d10_14) rfl (XS.aloadN X123.here hx rfl (hb hby d10_15) rfl rfl kc_)))))))) ?_
  show own_Ends p e below s _ _ _ (T123.setTop (mkF m 16 #[.val (.ref ba), .val (.ref fa), .val (.int (1 : Int32))] [(.ref fa), (.int (1 : Int32)), (.ref ba)]))
  refine own_step (fun _ kc_ => XS.iloadN X123.here hx rfl (hb hby d10_16) rfl kc_) ?_
  show own_Ends p e below s _ _ _ (T123.setTop (mkF m 17 #[.val (.ref ba), .val (.ref fa), .val (.int (1 : Int32))] [(.int (1 : Int32)), (.ref fa), (.int (1 : Int32)), (.ref ba)]))
  have F124n : Jvm.LamKit.FnAt T123.heap fa cK := by rw [e123]; exact Fn123
  obtain ⟨v124, st124, t124, T124, L124, X124, hL124, eh124, -, ⟨hv124, hh124⟩, sp124⟩ := Jvm.LamKit.callLamS X123 hx (own_lamMet l Z a0 hw (1 : Int32) h123 n0 Zs123) (fun _ _ _ _ q => q) rfl rfl (fun w hwm a' U hU => by cases List.mem_singleton.mp hwm; exact mv (wtrans hZ hU) (hw _ (List.mem_of_getElem? (i := 83) rfl))) (List.mem_singleton.mpr rfl) hown (mvT hZ (hw _ (List.mem_of_getElem? (i := 79) rfl))) (mvT hZ (hw _ (List.mem_of_getElem? (i := 80) rfl))) (mvT hZ (hw _ (List.mem_of_getElem? (i := 81) rfl))) (mvT hZ (hw _ (List.mem_of_getElem? (i := 83) rfl))) (mvT hZ (hw _ (List.mem_of_getElem? (i := 82) rfl))) (mvT hZ (hw _ (List.mem_of_getElem? (i := 2) rfl))) (xi := (⟨"java/util/function/IntUnaryOperator", "applyAsInt", "(I)I"⟩ : MethodName)) ⟨rfl, rfl, by decide⟩ ⟨rfl, rfl, by decide⟩ (by decide) hEx F124n own_fok own_fc1 own_fc4 (g := (mkF m 17 #[.val (.ref ba), .val (.ref fa), .val (.int (1 : Int32))] [(.int (1 : Int32)), (.ref fa), (.int (1 : Int32)), (.ref ba)])) rfl (by rw [hml]; rfl) (argsL := [(.int (1 : Int32))]) (argsT := [(.int (1 : Int32))]) (rest := [(.int (1 : Int32)), (.ref ba)]) (L0 := #[.val (.ref fa), .val (.int (1 : Int32))]) (lenOf pd_3 rfl) (lenOf pd_3 rfl) rfl (hb hby d10_17) (fun _ => by first | rfl | (simp [entryFrame, argsToLocals, Value.category]; done)) rfl (fun U ck bl target hAt hck _ _ kk => XS.iloadN hAt hx rfl (hb hck own_fc0) rfl kk) (fun _ v _ q => Or.inl ⟨.int, (1 : Int32), rfl, Or.inl rfl, rfl, rfl, by cases q.1; rfl⟩) (by decide) (Nat.le_of_ble_eq_true rfl) (by decide : 0 + 0 ≤ _) (by decide : 0 + 0 ≤ _) (fun U hU hh => ⟨rfl, wtrans hZ hU, hh.trans e123⟩)
  cases hv124
  have e124 : T124.heap = h123 := eh124.trans hh124
  have N124 := Fr.app N123 hL124
  refine own_step (fun _ kc_ => sp124 _ kc_) ?_
  show own_Ends p e below s _ _ _ (T124.setTop (mkF m 22 #[.val (.ref ba), .val (.ref fa), .val (.int (1 : Int32))] [(.int (1 : Int32)), (.int (1 : Int32)), (.ref ba)]))
  obtain ⟨T125, h125, X125, e125, W125, A125, st125⟩ := own_iastore X124 hx hZ e124 A_ba_123 (j := (1 : Int32)) (x := (1 : Int32)) (by decide) (i := 1) rfl (Nat.le_of_ble_eq_true rfl) (Ls := #[.val (.ref ba), .val (.ref fa), .val (.int (1 : Int32))]) (st := []) (hb hby d10_22)
  have A_ba_125 : own_Ar Z h125 ba .int [(.int (0 : Int32)), (.int (1 : Int32)), (.int (0 : Int32)), (.int (0 : Int32))] := A125
  have K125 := (K123).wr W125 (Or.inl (List.mem_of_getElem? (i := 0) rfl))
  have Zs125 := Nat.le_trans Zs123 (Nat.le_of_eq W125.size.symm)
  have N125 := Fr.snoc X125 N124 g0
  refine own_step (fun _ kc_ => st125 _ kc_) ?_
  show own_Ends p e below s _ _ _ (T125.setTop (mkF m 23 #[.val (.ref ba), .val (.ref fa), .val (.int (1 : Int32))] []))
  have Fn125 := own_fn_wr Fn123 W125
  refine own_step (fun _ kc_ => XS.iinc X125.here hx rfl (hb hby d10_23) rfl (l' := #[.val (.ref ba), .val (.ref fa), .val (.int ((1 : Int32) + (1 : Int32)))]) rfl kc_) ?_
  show own_Ends p e below s _ _ _ (T125.setTop (mkF m 26 #[.val (.ref ba), .val (.ref fa), .val (.int ((1 : Int32) + (1 : Int32)))] []))
  rw [show ((1 : Int32) + (1 : Int32)) = (2 : Int32) from by decide]
  show own_Ends p e below s _ _ _ (T125.setTop (mkF m 26 #[.val (.ref ba), .val (.ref fa), .val (.int (2 : Int32))] []))
  refine own_step (fun _ kc_ => XS.goto X125.here hx rfl (pc0 := 26) (pc' := 7) rfl (hb hby d10_26) (by decide) (by decide) (XS.iloadN X125.here hx rfl (hb hby d10_7) rfl (XS.aloadN X125.here hx rfl (hb hby d10_8) rfl rfl (own_alen X125 hx hZ e125 A_ba_125 (n := 4) (z := (4 : Int32)) rfl rfl (hb hby d10_9) _ (XS.icmpNo X125.here hx rfl (hb hby d10_10) rfl (XT.ii_ge_f (by decide : (2 : Int32) < (4 : Int32))) (XS.aloadN X125.here hx rfl (hb hby d10_13) rfl rfl (XS.iloadN X125.here hx rfl (hb hby d10_14) rfl (XS.aloadN X125.here hx rfl (hb hby d10_15) rfl rfl kc_)))))))) ?_
  show own_Ends p e below s _ _ _ (T125.setTop (mkF m 16 #[.val (.ref ba), .val (.ref fa), .val (.int (2 : Int32))] [(.ref fa), (.int (2 : Int32)), (.ref ba)]))
  refine own_step (fun _ kc_ => XS.iloadN X125.here hx rfl (hb hby d10_16) rfl kc_) ?_
  show own_Ends p e below s _ _ _ (T125.setTop (mkF m 17 #[.val (.ref ba), .val (.ref fa), .val (.int (2 : Int32))] [(.int (2 : Int32)), (.ref fa), (.int (2 : Int32)), (.ref ba)]))
  have F126n : Jvm.LamKit.FnAt T125.heap fa cK := by rw [e125]; exact Fn125
  obtain ⟨v126, st126, t126, T126, L126, X126, hL126, eh126, -, ⟨hv126, hh126⟩, sp126⟩ := Jvm.LamKit.callLamS X125 hx (own_lamMet l Z a0 hw (2 : Int32) h125 n0 Zs125) (fun _ _ _ _ q => q) rfl rfl (fun w hwm a' U hU => by cases List.mem_singleton.mp hwm; exact mv (wtrans hZ hU) (hw _ (List.mem_of_getElem? (i := 83) rfl))) (List.mem_singleton.mpr rfl) hown (mvT hZ (hw _ (List.mem_of_getElem? (i := 79) rfl))) (mvT hZ (hw _ (List.mem_of_getElem? (i := 80) rfl))) (mvT hZ (hw _ (List.mem_of_getElem? (i := 81) rfl))) (mvT hZ (hw _ (List.mem_of_getElem? (i := 83) rfl))) (mvT hZ (hw _ (List.mem_of_getElem? (i := 82) rfl))) (mvT hZ (hw _ (List.mem_of_getElem? (i := 2) rfl))) (xi := (⟨"java/util/function/IntUnaryOperator", "applyAsInt", "(I)I"⟩ : MethodName)) ⟨rfl, rfl, by decide⟩ ⟨rfl, rfl, by decide⟩ (by decide) hEx F126n own_fok own_fc1 own_fc4 (g := (mkF m 17 #[.val (.ref ba), .val (.ref fa), .val (.int (2 : Int32))] [(.int (2 : Int32)), (.ref fa), (.int (2 : Int32)), (.ref ba)])) rfl (by rw [hml]; rfl) (argsL := [(.int (2 : Int32))]) (argsT := [(.int (2 : Int32))]) (rest := [(.int (2 : Int32)), (.ref ba)]) (L0 := #[.val (.ref fa), .val (.int (2 : Int32))]) (lenOf pd_3 rfl) (lenOf pd_3 rfl) rfl (hb hby d10_17) (fun _ => by first | rfl | (simp [entryFrame, argsToLocals, Value.category]; done)) rfl (fun U ck bl target hAt hck _ _ kk => XS.iloadN hAt hx rfl (hb hck own_fc0) rfl kk) (fun _ v _ q => Or.inl ⟨.int, (2 : Int32), rfl, Or.inl rfl, rfl, rfl, by cases q.1; rfl⟩) (by decide) (Nat.le_of_ble_eq_true rfl) (by decide : 0 + 0 ≤ _) (by decide : 0 + 0 ≤ _) (fun U hU hh => ⟨rfl, wtrans hZ hU, hh.trans e125⟩)
  cases hv126
  have e126 : T126.heap = h125 := eh126.trans hh126
  have N126 := Fr.app N125 hL126
  refine own_step (fun _ kc_ => sp126 _ kc_) ?_
  show own_Ends p e below s _ _ _ (T126.setTop (mkF m 22 #[.val (.ref ba), .val (.ref fa), .val (.int (2 : Int32))] [(.int (2 : Int32)), (.int (2 : Int32)), (.ref ba)]))
  obtain ⟨T127, h127, X127, e127, W127, A127, st127⟩ := own_iastore X126 hx hZ e126 A_ba_125 (j := (2 : Int32)) (x := (2 : Int32)) (by decide) (i := 2) rfl (Nat.le_of_ble_eq_true rfl) (Ls := #[.val (.ref ba), .val (.ref fa), .val (.int (2 : Int32))]) (st := []) (hb hby d10_22)
  have A_ba_127 : own_Ar Z h127 ba .int [(.int (0 : Int32)), (.int (1 : Int32)), (.int (2 : Int32)), (.int (0 : Int32))] := A127
  have K127 := (K125).wr W127 (Or.inl (List.mem_of_getElem? (i := 0) rfl))
  have Zs127 := Nat.le_trans Zs125 (Nat.le_of_eq W127.size.symm)
  have N127 := Fr.snoc X127 N126 g0
  refine own_step (fun _ kc_ => st127 _ kc_) ?_
  show own_Ends p e below s _ _ _ (T127.setTop (mkF m 23 #[.val (.ref ba), .val (.ref fa), .val (.int (2 : Int32))] []))
  have Fn127 := own_fn_wr Fn125 W127
  refine own_step (fun _ kc_ => XS.iinc X127.here hx rfl (hb hby d10_23) rfl (l' := #[.val (.ref ba), .val (.ref fa), .val (.int ((2 : Int32) + (1 : Int32)))]) rfl kc_) ?_
  show own_Ends p e below s _ _ _ (T127.setTop (mkF m 26 #[.val (.ref ba), .val (.ref fa), .val (.int ((2 : Int32) + (1 : Int32)))] []))
  rw [show ((2 : Int32) + (1 : Int32)) = (3 : Int32) from by decide]
  show own_Ends p e below s _ _ _ (T127.setTop (mkF m 26 #[.val (.ref ba), .val (.ref fa), .val (.int (3 : Int32))] []))
  refine own_step (fun _ kc_ => XS.goto X127.here hx rfl (pc0 := 26) (pc' := 7) rfl (hb hby d10_26) (by decide) (by decide) (XS.iloadN X127.here hx rfl (hb hby d10_7) rfl (XS.aloadN X127.here hx rfl (hb hby d10_8) rfl rfl (own_alen X127 hx hZ e127 A_ba_127 (n := 4) (z := (4 : Int32)) rfl rfl (hb hby d10_9) _ (XS.icmpNo X127.here hx rfl (hb hby d10_10) rfl (XT.ii_ge_f (by decide : (3 : Int32) < (4 : Int32))) (XS.aloadN X127.here hx rfl (hb hby d10_13) rfl rfl (XS.iloadN X127.here hx rfl (hb hby d10_14) rfl (XS.aloadN X127.here hx rfl (hb hby d10_15) rfl rfl kc_)))))))) ?_
  show own_Ends p e below s _ _ _ (T127.setTop (mkF m 16 #[.val (.ref ba), .val (.ref fa), .val (.int (3 : Int32))] [(.ref fa), (.int (3 : Int32)), (.ref ba)]))
  refine own_step (fun _ kc_ => XS.iloadN X127.here hx rfl (hb hby d10_16) rfl kc_) ?_
  show own_Ends p e below s _ _ _ (T127.setTop (mkF m 17 #[.val (.ref ba), .val (.ref fa), .val (.int (3 : Int32))] [(.int (3 : Int32)), (.ref fa), (.int (3 : Int32)), (.ref ba)]))
  have F128n : Jvm.LamKit.FnAt T127.heap fa cK := by rw [e127]; exact Fn127
  obtain ⟨v128, st128, t128, T128, L128, X128, hL128, eh128, -, ⟨hv128, hh128⟩, sp128⟩ := Jvm.LamKit.callLamS X127 hx (own_lamMet l Z a0 hw (3 : Int32) h127 n0 Zs127) (fun _ _ _ _ q => q) rfl rfl (fun w hwm a' U hU => by cases List.mem_singleton.mp hwm; exact mv (wtrans hZ hU) (hw _ (List.mem_of_getElem? (i := 83) rfl))) (List.mem_singleton.mpr rfl) hown (mvT hZ (hw _ (List.mem_of_getElem? (i := 79) rfl))) (mvT hZ (hw _ (List.mem_of_getElem? (i := 80) rfl))) (mvT hZ (hw _ (List.mem_of_getElem? (i := 81) rfl))) (mvT hZ (hw _ (List.mem_of_getElem? (i := 83) rfl))) (mvT hZ (hw _ (List.mem_of_getElem? (i := 82) rfl))) (mvT hZ (hw _ (List.mem_of_getElem? (i := 2) rfl))) (xi := (⟨"java/util/function/IntUnaryOperator", "applyAsInt", "(I)I"⟩ : MethodName)) ⟨rfl, rfl, by decide⟩ ⟨rfl, rfl, by decide⟩ (by decide) hEx F128n own_fok own_fc1 own_fc4 (g := (mkF m 17 #[.val (.ref ba), .val (.ref fa), .val (.int (3 : Int32))] [(.int (3 : Int32)), (.ref fa), (.int (3 : Int32)), (.ref ba)])) rfl (by rw [hml]; rfl) (argsL := [(.int (3 : Int32))]) (argsT := [(.int (3 : Int32))]) (rest := [(.int (3 : Int32)), (.ref ba)]) (L0 := #[.val (.ref fa), .val (.int (3 : Int32))]) (lenOf pd_3 rfl) (lenOf pd_3 rfl) rfl (hb hby d10_17) (fun _ => by first | rfl | (simp [entryFrame, argsToLocals, Value.category]; done)) rfl (fun U ck bl target hAt hck _ _ kk => XS.iloadN hAt hx rfl (hb hck own_fc0) rfl kk) (fun _ v _ q => Or.inl ⟨.int, (3 : Int32), rfl, Or.inl rfl, rfl, rfl, by cases q.1; rfl⟩) (by decide) (Nat.le_of_ble_eq_true rfl) (by decide : 0 + 0 ≤ _) (by decide : 0 + 0 ≤ _) (fun U hU hh => ⟨rfl, wtrans hZ hU, hh.trans e127⟩)
  cases hv128
  have e128 : T128.heap = h127 := eh128.trans hh128
  have N128 := Fr.app N127 hL128
  refine own_step (fun _ kc_ => sp128 _ kc_) ?_
  show own_Ends p e below s _ _ _ (T128.setTop (mkF m 22 #[.val (.ref ba), .val (.ref fa), .val (.int (3 : Int32))] [(.int (3 : Int32)), (.int (3 : Int32)), (.ref ba)]))
  obtain ⟨T129, h129, X129, e129, W129, A129, st129⟩ := own_iastore X128 hx hZ e128 A_ba_127 (j := (3 : Int32)) (x := (3 : Int32)) (by decide) (i := 3) rfl (Nat.le_of_ble_eq_true rfl) (Ls := #[.val (.ref ba), .val (.ref fa), .val (.int (3 : Int32))]) (st := []) (hb hby d10_22)
  have A_ba_129 : own_Ar Z h129 ba .int [(.int (0 : Int32)), (.int (1 : Int32)), (.int (2 : Int32)), (.int (3 : Int32))] := A129
  have K129 := (K127).wr W129 (Or.inl (List.mem_of_getElem? (i := 0) rfl))
  have Zs129 := Nat.le_trans Zs127 (Nat.le_of_eq W129.size.symm)
  have N129 := Fr.snoc X129 N128 g0
  refine own_step (fun _ kc_ => st129 _ kc_) ?_
  show own_Ends p e below s _ _ _ (T129.setTop (mkF m 23 #[.val (.ref ba), .val (.ref fa), .val (.int (3 : Int32))] []))
  have Fn129 := own_fn_wr Fn127 W129
  refine own_step (fun _ kc_ => XS.iinc X129.here hx rfl (hb hby d10_23) rfl (l' := #[.val (.ref ba), .val (.ref fa), .val (.int ((3 : Int32) + (1 : Int32)))]) rfl kc_) ?_
  show own_Ends p e below s _ _ _ (T129.setTop (mkF m 26 #[.val (.ref ba), .val (.ref fa), .val (.int ((3 : Int32) + (1 : Int32)))] []))
  rw [show ((3 : Int32) + (1 : Int32)) = (4 : Int32) from by decide]
  show own_Ends p e below s _ _ _ (T129.setTop (mkF m 26 #[.val (.ref ba), .val (.ref fa), .val (.int (4 : Int32))] []))
  refine own_step (fun _ kc_ => XS.goto X129.here hx rfl (pc0 := 26) (pc' := 7) rfl (hb hby d10_26) (by decide) (by decide) (XS.iloadN X129.here hx rfl (hb hby d10_7) rfl (XS.aloadN X129.here hx rfl (hb hby d10_8) rfl rfl (own_alen X129 hx hZ e129 A_ba_129 (n := 4) (z := (4 : Int32)) rfl rfl (hb hby d10_9) _ (XS.icmpYes X129.here hx rfl (pc0 := 10) (pc' := 29) rfl (hb hby d10_10) rfl (XT.ii_ge_t (by decide : ¬ ((4 : Int32) < (4 : Int32)))) (by decide) (by decide) kc_))))) ?_
  show own_Ends p e below s _ _ _ (T129.setTop (mkF m 29 #[.val (.ref ba), .val (.ref fa), .val (.int (4 : Int32))] []))
  exact own_retV X129 hx hret hlk (hb hby d10_29) (by decide) (by decide) (by rw [e129]; exact ⟨rfl, N129, K129, A_ba_129⟩)
theorem ef_rmB4 (m : MethodId) (oo : Addr) : entryFrame m #[(.ref oo), (.int (4 : Int32))] 9 = mkF m 0 #[.val (.ref oo), .val (.int (4 : Int32)), .unset, .unset, .unset, .unset, .unset, .unset, .unset] [] := by first | (simp [entryFrame, mkF, argsToLocals, Value.category]; done) | rfl
def QB4 (Z : State) (oo : Addr)  (h0 : Heap) (n0 : Nat) (v : Option Value) (h : Heap) (L : List Loc) : Prop := Fr n0 L ∧ Keep h0 h [] ∧ ∃ ba, v = some (.ref ba) ∧ own_Ar Z h ba .int [(.int (0 : Int32)), (.int (1 : Int32)), (.int (2 : Int32)), (.int (3 : Int32))]
set_option maxRecDepth 65536 in
set_option maxHeartbeats 40000000 in
theorem rmB4 (l : Launch) (Z : State) (a0 : Array Value) (hw : ∀ d ∈ tables_1, d.before a0 Z = true) (ws : List Jvm.Cond) (oo : Addr)  (h0 : Heap) (n0 : Nat) (Z0 : n0 ≤ h0.size) (f0 : Fld Z h0 oo "com/example/kinds_by_value/kindsbyvalue/NameSet" "everyName" "Z" (.int (1 : Int32))) :
    MetFree l (⟨"com/example/kinds_by_value/kindsbyvalue/NameSet", "below", "(I)[I"⟩ : MethodName) (head1 (Jvm.Cond.code (⟨"com/example/kinds_by_value/kindsbyvalue/NameSet", "below", "(I)[I"⟩ : MethodName) prog_9_method_6_code 9 (some (.array .int)) :: ws) ({ frames := 3, cells := 1, slots := 4, locals := 3100 } : Room)) (fun a U => a = #[(.ref oo), (.int (4 : Int32))] ∧ Z.Warmed39 U.vm ∧ U.heap = h0 ∧ own_Site U) (fun _ _ _ _ _ => True) (fun _ U o U' => ∃ v L, o = .returned v ∧ QB4 Z oo  h0 n0 v U'.heap L ∧ FrameEnd U o U' L ({ frames := 3, cells := 1, slots := 4, locals := 3100 } : Room).cells ({ frames := 3, cells := 1, slots := 4, locals := 3100 } : Room).slots) := by
  refine MetFree.of_bodySF (plainFor_of_name pn_2) hisR ?_
  intro p e s m args below meth c s₁ Bd hml0 hP hK
  obtain ⟨rfl, hZ, hh, hEx⟩ := hP
  have hx := Bd.exec
  have hby := Bd.bytes
  have hlk : meth.locks = false := BodyLoose.notSynchronized Bd
  have hret := Bd.returns
  have hml : c.maxLocals = 9 := hml0
  have hown : s.vm.findClass "com/example/kinds_by_value/kindsbyvalue/NameSet" = some m.cls := findClass_of_methodNamed Bd.named
  have hnm := (name_of_methodNamed Bd.named Bd.method).1
  have X0 : Stand p l e ({ frames := 3, cells := 1, slots := 4, locals := 3100 } : Room) s m #[(.ref oo), (.int (4 : Int32))] below meth c s₁ [] 0 0 := Stand.of_body Bd
  have e0 : s₁.heap = h0 := by rw [← hh, Bd.state]; rfl
  have N0 := Fr.nil n0
  show own_Ends p e below s 1 4 (QB4 Z oo  h0 n0) (s₁.setTop (entryFrame m #[(.ref oo), (.int (4 : Int32))] 9))
  refine own_step (fun t k => castTop (ef_rmB4 m oo) k) ?_
  show own_Ends p e below s _ _ _ (s₁.setTop (mkF m 0 #[.val (.ref oo), .val (.int (4 : Int32)), .unset, .unset, .unset, .unset, .unset, .unset, .unset] []))
  refine own_step (fun _ kc_ => XS.aloadN X0.here hx rfl (hb hby d9_0) rfl rfl kc_) ?_
  show own_Ends p e below s _ _ _ (s₁.setTop (mkF m 1 #[.val (.ref oo), .val (.int (4 : Int32)), .unset, .unset, .unset, .unset, .unset, .unset, .unset] [(.ref oo)]))
  obtain ⟨T130, X130, e130, st130⟩ := getF X0 hx hZ hown (host := "") (Or.inl (hw _ (List.mem_of_getElem? (i := 17) rfl))) Via.refl e0 f0 (g := (mkF m 1 #[.val (.ref oo), .val (.int (4 : Int32)), .unset, .unset, .unset, .unset, .unset, .unset, .unset] [(.ref oo)])) rfl rfl (hb hby d9_1)
  refine own_step (fun _ kc_ => st130 _ kc_) ?_
  show own_Ends p e below s _ _ _ (T130.setTop (mkF m 4 #[.val (.ref oo), .val (.int (4 : Int32)), .unset, .unset, .unset, .unset, .unset, .unset, .unset] [(.int (1 : Int32))]))
  refine own_step (fun _ kc_ => XS.ifNo X130.here hx rfl (hb hby d9_4) rfl (XT.i0_eq_f (by decide : ¬ ((1 : Int32) = 0))) (XS.iloadN X130.here hx rfl (hb hby d9_7) rfl kc_)) ?_
  show own_Ends p e below s _ _ _ (T130.setTop (mkF m 8 #[.val (.ref oo), .val (.int (4 : Int32)), .unset, .unset, .unset, .unset, .unset, .unset, .unset] [(.int (4 : Int32))]))
  obtain ⟨T131, h131, k131, X131, e131, E131, A131, st131⟩ := newP X130 hx hZ (hw _ (List.mem_of_getElem? (i := 59) rfl)) e130 (g := (mkF m 8 #[.val (.ref oo), .val (.int (4 : Int32)), .unset, .unset, .unset, .unset, .unset, .unset, .unset] [(.int (4 : Int32))])) rfl (hb hby d9_8) rfl (by decide) (cap := 4) (by decide) (by decide) (by decide : 0 + 1 ≤ _) (by decide : 0 + 4 ≤ _)
  obtain ⟨b131, g131⟩ : ∃ z, z = h0.size := ⟨_, rfl⟩
  rw [← g131] at A131 st131
  have ne_oo_b131 : oo ≠ b131 := Nat.ne_of_lt (Nat.lt_of_lt_of_le (f0).lt (Nat.le_of_eq g131.symm))
  have n0_b131 : n0 ≤ b131 := Nat.le_trans Z0 (Nat.le_of_eq g131.symm)
  have h0_b131 : h0.size ≤ b131 := Nat.le_trans ((Keep.refl h0 [])).1 (Nat.le_of_eq g131.symm)
  have F_oo_everyName_131 := (f0).ext E131
  have K131 := ((Keep.refl h0 [])).ext E131
  have Zs131 := Nat.le_trans Z0 E131.1
  have A_b131 : own_Ar Z h131 b131 .int [(.int (0 : Int32)), (.int (0 : Int32)), (.int (0 : Int32)), (.int (0 : Int32))] := own_Ar.new A131 (by decide)
  refine own_step (fun _ kc_ => st131 _ kc_) ?_
  show own_Ends p e below s _ _ _ (T131.setTop (mkF m 10 #[.val (.ref oo), .val (.int (4 : Int32)), .unset, .unset, .unset, .unset, .unset, .unset, .unset] [(.ref b131)]))
  refine own_step (fun _ kc_ => XS.astoreN X131.here hx rfl (hb hby d9_10) rfl rfl (l' := #[.val (.ref oo), .val (.int (4 : Int32)), .val (.ref b131), .unset, .unset, .unset, .unset, .unset, .unset]) rfl (XS.aloadN X131.here hx rfl (hb hby d9_11) rfl rfl kc_)) ?_
  show own_Ends p e below s _ _ _ (T131.setTop (mkF m 12 #[.val (.ref oo), .val (.int (4 : Int32)), .val (.ref b131), .unset, .unset, .unset, .unset, .unset, .unset] [(.ref b131)]))
  have hst : (Cond.lambdaSite own_bel 12 53 own_sg).before #[(.ref oo), (.int (4 : Int32))] s = true := own_siteC hEx
  obtain ⟨fa, cK, hMade, hFn, sp132⟩ := Jvm.LamKit.siteConst X131 hx (x := own_bel) Bd.named hst rfl (g := (mkF m 12 #[.val (.ref oo), .val (.int (4 : Int32)), .val (.ref b131), .unset, .unset, .unset, .unset, .unset, .unset] [(.ref b131)])) rfl rfl (by rw [hml]; rfl) (hb hby d9_12) (Nat.le_of_ble_eq_true rfl)
  have hFn2 : Jvm.LamKit.FnAt h131 fa cK := by rw [← e131]; exact hFn
  refine own_step (fun _ kc_ => sp132 _ kc_) ?_
  show own_Ends p e below s _ _ _ (T131.setTop (mkF m 17 #[.val (.ref oo), .val (.int (4 : Int32)), .val (.ref b131), .unset, .unset, .unset, .unset, .unset, .unset] [(.ref fa), (.ref b131)]))
  obtain ⟨_, _, ⟨T133, L133, k133, n133⟩, -, X133, ⟨Lc133, hQ133, l133, y133, z133⟩, st133⟩ := Jvm.LawKit.callS X131 hx (y := (⟨"java/util/Arrays", "setAll", "([ILjava/util/function/IntUnaryOperator;)V"⟩ : MethodName)) hown (mvT hZ (hw _ (List.mem_of_getElem? (i := 62) rfl))) (mvT hZ (hw _ (List.mem_of_getElem? (i := 63) rfl))) (mvT hZ (hw _ (List.mem_of_getElem? (i := 64) rfl))) (mvT hZ (hw _ (List.mem_of_getElem? (i := 65) rfl))) (by decide) (own_backX (W := 0) (rmS4 l Z a0 hw [] b131 fa cK h131 n0 Zs131 A_b131 hFn2 n0_b131) hZ (hw _ (List.mem_of_getElem? (i := 65) rfl)) (hw _ (List.mem_of_getElem? (i := 64) rfl)) (by decide) (by decide) (fun _ _ _ _ _ _ _ Y => own_made_at hMade Y)) (g := (mkF m 17 #[.val (.ref oo), .val (.int (4 : Int32)), .val (.ref b131), .unset, .unset, .unset, .unset, .unset, .unset] [(.ref fa), (.ref b131)])) rfl (by rw [hml]; rfl) (argsL := [(.ref b131), (.ref fa)]) (rest := []) (lenOf pd_6 rfl) rfl (by show 2 * 0 + _ ≤ _; exact Nat.le_of_eq rfl) (hb hby d9_17) (fun _ _ => ⟨rfl, e131, (by decide : 1 + 0 ≤ _), (by decide : 4 + 0 ≤ _)⟩)
  dsimp only [Pt.U, Pt.locs, Pt.cells, Pt.slots] at X133 l133 y133 z133 st133 hQ133
  subst y133 z133
  obtain ⟨rfl, N133q, K133k, A133k⟩ := hQ133
  have F_oo_everyName_133 := (F_oo_everyName_131).keep K133k (ninS ne_oo_b131 nin0)
  have K133 := (K131).trans K133k (allS (Or.inr h0_b131) all0)
  have Zs133 := Nat.le_trans Zs131 K133k.1
  have N133 : Fr n0 L133 := by rw [l133]; exact Fr.app N0 N133q
  refine own_step (fun _ kc_ => st133 _ kc_) ?_
  show own_Ends p e below s _ _ _ (T133.setTop (mkF m 20 #[.val (.ref oo), .val (.int (4 : Int32)), .val (.ref b131), .unset, .unset, .unset, .unset, .unset, .unset] []))
  refine own_step (fun _ kc_ => XS.goto X133.here hx rfl (pc0 := 20) (pc' := 95) rfl (hb hby d9_20) (by decide) (by decide) (XS.aloadN X133.here hx rfl (hb hby d9_95) rfl rfl kc_)) ?_
  show own_Ends p e below s _ _ _ (T133.setTop (mkF m 96 #[.val (.ref oo), .val (.int (4 : Int32)), .val (.ref b131), .unset, .unset, .unset, .unset, .unset, .unset] [(.ref b131)]))
  exact own_retR X133 hx hret rfl rfl rfl hlk (hb hby d9_96) (by decide) (by decide) (by exact ⟨N133, K133, b131, rfl, A133k⟩)
theorem ef_rmS5 (m : MethodId) (ba : Addr) (fa : Addr) : entryFrame m #[(.ref ba), (.ref fa)] 3 = mkF m 0 #[.val (.ref ba), .val (.ref fa), .unset] [] := by first | (simp [entryFrame, mkF, argsToLocals, Value.category]; done) | rfl
def QS5 (Z : State) (ba : Addr) (fa : Addr) (cK : ClassId) (h0 : Heap) (n0 : Nat) (v : Option Value) (h : Heap) (L : List Loc) : Prop := v = none ∧ Fr n0 L ∧ Keep h0 h [ba] ∧ own_Ar Z h ba .int [(.int (0 : Int32)), (.int (1 : Int32)), (.int (2 : Int32)), (.int (3 : Int32)), (.int (4 : Int32))]
set_option maxRecDepth 65536 in
set_option maxHeartbeats 40000000 in
theorem rmS5 (l : Launch) (Z : State) (a0 : Array Value) (hw : ∀ d ∈ tables_1, d.before a0 Z = true) (ws : List Jvm.Cond) (ba : Addr) (fa : Addr) (cK : ClassId) (h0 : Heap) (n0 : Nat) (Z0 : n0 ≤ h0.size) (A0 : own_Ar Z h0 ba .int [(.int (0 : Int32)), (.int (0 : Int32)), (.int (0 : Int32)), (.int (0 : Int32)), (.int (0 : Int32))]) (F0 : Jvm.LamKit.FnAt h0 fa cK) (g0 : n0 ≤ ba) :
    MetFree l (⟨"java/util/Arrays", "setAll", "([ILjava/util/function/IntUnaryOperator;)V"⟩ : MethodName) (head1 (Jvm.Cond.code (⟨"java/util/Arrays", "setAll", "([ILjava/util/function/IntUnaryOperator;)V"⟩ : MethodName) jdk_65_method_175_code 3 none :: ws) ({ frames := 2, cells := 0, slots := 0, locals := 27 } : Room)) (fun a U => a = #[(.ref ba), (.ref fa)] ∧ Z.Warmed39 U.vm ∧ U.heap = h0 ∧ (fun U => Jvm.LamKit.Made U "com/example/kinds_by_value/kindsbyvalue/NameSet" own_sg cK) U) (fun _ _ _ _ _ => True) (fun _ U o U' => ∃ v L, o = .returned v ∧ QS5 Z ba fa cK h0 n0 v U'.heap L ∧ FrameEnd U o U' L ({ frames := 2, cells := 0, slots := 0, locals := 27 } : Room).cells ({ frames := 2, cells := 0, slots := 0, locals := 27 } : Room).slots) := by
  refine MetFree.of_bodySF (plainFor_of_name pn_1) hisR ?_
  intro p e s m args below meth c s₁ Bd hml0 hP hK
  obtain ⟨rfl, hZ, hh, hEx⟩ := hP
  have hx := Bd.exec
  have hby := Bd.bytes
  have hlk : meth.locks = false := BodyLoose.notSynchronized Bd
  have hret := Bd.returns
  have hml : c.maxLocals = 3 := hml0
  have hown : s.vm.findClass "java/util/Arrays" = some m.cls := findClass_of_methodNamed Bd.named
  have hnm := (name_of_methodNamed Bd.named Bd.method).1
  have X0 : Stand p l e ({ frames := 2, cells := 0, slots := 0, locals := 27 } : Room) s m #[(.ref ba), (.ref fa)] below meth c s₁ [] 0 0 := Stand.of_body Bd
  have e0 : s₁.heap = h0 := by rw [← hh, Bd.state]; rfl
  have N0 := Fr.nil n0
  show own_Ends p e below s 0 0 (QS5 Z ba fa cK h0 n0) (s₁.setTop (entryFrame m #[(.ref ba), (.ref fa)] 3))
  refine own_step (fun t k => castTop (ef_rmS5 m ba fa) k) ?_
  show own_Ends p e below s _ _ _ (s₁.setTop (mkF m 0 #[.val (.ref ba), .val (.ref fa), .unset] []))
  refine own_step (fun _ kc_ => XS.aloadN X0.here hx rfl (hb hby d10_0) rfl rfl kc_) ?_
  show own_Ends p e below s _ _ _ (s₁.setTop (mkF m 1 #[.val (.ref ba), .val (.ref fa), .unset] [(.ref fa)]))
  obtain ⟨_, _, ⟨T134, L134, k134, n134⟩, -, X134, ⟨Lc134, hQ134, l134, y134, z134⟩, st134⟩ := Jvm.LawKit.callS X0 hx (y := (⟨"java/util/Objects", "requireNonNull", "(Ljava/lang/Object;)Ljava/lang/Object;"⟩ : MethodName)) hown (mvT hZ (hw _ (List.mem_of_getElem? (i := 66) rfl))) (mvT hZ (hw _ (List.mem_of_getElem? (i := 67) rfl))) (mvT hZ (hw _ (List.mem_of_getElem? (i := 68) rfl))) (mvT hZ (hw _ (List.mem_of_getElem? (i := 69) rfl))) (by decide) (backOf (W := 0) (rm11 l Z a0 hw [] fa  h0 n0 Z0 ) hZ (hw _ (List.mem_of_getElem? (i := 69) rfl)) (hw _ (List.mem_of_getElem? (i := 68) rfl)) (by decide) (by decide)) (g := (mkF m 1 #[.val (.ref ba), .val (.ref fa), .unset] [(.ref fa)])) rfl (by rw [hml]; rfl) (argsL := [(.ref fa)]) (rest := []) (lenOf pd_5 rfl) rfl (by show 2 * 0 + _ ≤ _; exact Nat.le_of_eq rfl) (hb hby d10_1) (fun _ _ => ⟨rfl, e0, (by decide : 0 + 0 ≤ _), (by decide : 0 + 0 ≤ _)⟩)
  dsimp only [Pt.U, Pt.locs, Pt.cells, Pt.slots] at X134 l134 y134 z134 st134 hQ134
  subst y134 z134
  obtain ⟨rfl, N134q, e134⟩ := hQ134
  have e134h : T134.heap = h0 := e134
  have N134 : Fr n0 L134 := by rw [l134]; exact Fr.app N0 N134q
  refine own_step (fun _ kc_ => st134 _ kc_) ?_
  show own_Ends p e below s _ _ _ (T134.setTop (mkF m 4 #[.val (.ref ba), .val (.ref fa), .unset] [(.ref fa)]))
  refine own_step (fun _ kc_ => XS.pop X134.here hx rfl (hb hby d10_4) rfl rfl (XS.iconst X134.here hx rfl (hb hby d10_5) (XS.istoreN X134.here hx rfl (hb hby d10_6) rfl (l' := #[.val (.ref ba), .val (.ref fa), .val (.int (0 : Int32))]) rfl (XS.iloadN X134.here hx rfl (hb hby d10_7) rfl (XS.aloadN X134.here hx rfl (hb hby d10_8) rfl rfl (own_alen X134 hx hZ e134h A0 (n := 5) (z := (5 : Int32)) rfl rfl (hb hby d10_9) _ (XS.icmpNo X134.here hx rfl (hb hby d10_10) rfl (XT.ii_ge_f (by decide : (0 : Int32) < (5 : Int32))) (XS.aloadN X134.here hx rfl (hb hby d10_13) rfl rfl kc_)))))))) ?_
  show own_Ends p e below s _ _ _ (T134.setTop (mkF m 14 #[.val (.ref ba), .val (.ref fa), .val (.int (0 : Int32))] [(.ref ba)]))
  refine own_step (fun _ kc_ => XS.iloadN X134.here hx rfl (hb hby d10_14) rfl (XS.aloadN X134.here hx rfl (hb hby d10_15) rfl rfl (XS.iloadN X134.here hx rfl (hb hby d10_16) rfl kc_))) ?_
  show own_Ends p e below s _ _ _ (T134.setTop (mkF m 17 #[.val (.ref ba), .val (.ref fa), .val (.int (0 : Int32))] [(.int (0 : Int32)), (.ref fa), (.int (0 : Int32)), (.ref ba)]))
  have F135n : Jvm.LamKit.FnAt T134.heap fa cK := by rw [e134h]; exact F0
  obtain ⟨v135, st135, t135, T135, L135, X135, hL135, eh135, -, ⟨hv135, hh135⟩, sp135⟩ := Jvm.LamKit.callLamS X134 hx (own_lamMet l Z a0 hw (0 : Int32) h0 n0 Z0) (fun _ _ _ _ q => q) rfl rfl (fun w hwm a' U hU => by cases List.mem_singleton.mp hwm; exact mv (wtrans hZ hU) (hw _ (List.mem_of_getElem? (i := 83) rfl))) (List.mem_singleton.mpr rfl) hown (mvT hZ (hw _ (List.mem_of_getElem? (i := 79) rfl))) (mvT hZ (hw _ (List.mem_of_getElem? (i := 80) rfl))) (mvT hZ (hw _ (List.mem_of_getElem? (i := 81) rfl))) (mvT hZ (hw _ (List.mem_of_getElem? (i := 83) rfl))) (mvT hZ (hw _ (List.mem_of_getElem? (i := 82) rfl))) (mvT hZ (hw _ (List.mem_of_getElem? (i := 2) rfl))) (xi := (⟨"java/util/function/IntUnaryOperator", "applyAsInt", "(I)I"⟩ : MethodName)) ⟨rfl, rfl, by decide⟩ ⟨rfl, rfl, by decide⟩ (by decide) hEx F135n own_fok own_fc1 own_fc4 (g := (mkF m 17 #[.val (.ref ba), .val (.ref fa), .val (.int (0 : Int32))] [(.int (0 : Int32)), (.ref fa), (.int (0 : Int32)), (.ref ba)])) rfl (by rw [hml]; rfl) (argsL := [(.int (0 : Int32))]) (argsT := [(.int (0 : Int32))]) (rest := [(.int (0 : Int32)), (.ref ba)]) (L0 := #[.val (.ref fa), .val (.int (0 : Int32))]) (lenOf pd_3 rfl) (lenOf pd_3 rfl) rfl (hb hby d10_17) (fun _ => by first | rfl | (simp [entryFrame, argsToLocals, Value.category]; done)) rfl (fun U ck bl target hAt hck _ _ kk => XS.iloadN hAt hx rfl (hb hck own_fc0) rfl kk) (fun _ v _ q => Or.inl ⟨.int, (0 : Int32), rfl, Or.inl rfl, rfl, rfl, by cases q.1; rfl⟩) (by decide) (Nat.le_of_ble_eq_true rfl) (by decide : 0 + 0 ≤ _) (by decide : 0 + 0 ≤ _) (fun U hU hh => ⟨rfl, wtrans hZ hU, hh.trans e134h⟩)
  cases hv135
  have e135 : T135.heap = h0 := eh135.trans hh135
  have N135 := Fr.app N134 hL135
  refine own_step (fun _ kc_ => sp135 _ kc_) ?_
  show own_Ends p e below s _ _ _ (T135.setTop (mkF m 22 #[.val (.ref ba), .val (.ref fa), .val (.int (0 : Int32))] [(.int (0 : Int32)), (.int (0 : Int32)), (.ref ba)]))
  obtain ⟨T136, h136, X136, e136, W136, A136, st136⟩ := own_iastore X135 hx hZ e135 A0 (j := (0 : Int32)) (x := (0 : Int32)) (by decide) (i := 0) rfl (Nat.le_of_ble_eq_true rfl) (Ls := #[.val (.ref ba), .val (.ref fa), .val (.int (0 : Int32))]) (st := []) (hb hby d10_22)
  have A_ba_136 : own_Ar Z h136 ba .int [(.int (0 : Int32)), (.int (0 : Int32)), (.int (0 : Int32)), (.int (0 : Int32)), (.int (0 : Int32))] := A136
  have K136 := ((Keep.refl h0 [ba])).wr W136 (Or.inl (List.mem_of_getElem? (i := 0) rfl))
  have Zs136 := Nat.le_trans Z0 (Nat.le_of_eq W136.size.symm)
  have N136 := Fr.snoc X136 N135 g0
  refine own_step (fun _ kc_ => st136 _ kc_) ?_
  show own_Ends p e below s _ _ _ (T136.setTop (mkF m 23 #[.val (.ref ba), .val (.ref fa), .val (.int (0 : Int32))] []))
  have Fn136 := own_fn_wr F0 W136
  refine own_step (fun _ kc_ => XS.iinc X136.here hx rfl (hb hby d10_23) rfl (l' := #[.val (.ref ba), .val (.ref fa), .val (.int ((0 : Int32) + (1 : Int32)))]) rfl kc_) ?_
  show own_Ends p e below s _ _ _ (T136.setTop (mkF m 26 #[.val (.ref ba), .val (.ref fa), .val (.int ((0 : Int32) + (1 : Int32)))] []))
  rw [show ((0 : Int32) + (1 : Int32)) = (1 : Int32) from by decide]
  show own_Ends p e below s _ _ _ (T136.setTop (mkF m 26 #[.val (.ref ba), .val (.ref fa), .val (.int (1 : Int32))] []))
  refine own_step (fun _ kc_ => XS.goto X136.here hx rfl (pc0 := 26) (pc' := 7) rfl (hb hby d10_26) (by decide) (by decide) (XS.iloadN X136.here hx rfl (hb hby d10_7) rfl (XS.aloadN X136.here hx rfl (hb hby d10_8) rfl rfl (own_alen X136 hx hZ e136 A_ba_136 (n := 5) (z := (5 : Int32)) rfl rfl (hb hby d10_9) _ (XS.icmpNo X136.here hx rfl (hb hby d10_10) rfl (XT.ii_ge_f (by decide : (1 : Int32) < (5 : Int32))) (XS.aloadN X136.here hx rfl (hb hby d10_13) rfl rfl (XS.iloadN X136.here hx rfl (hb hby d10_14) rfl (XS.aloadN X136.here hx rfl (hb hby d10_15) rfl rfl kc_)))))))) ?_
  show own_Ends p e below s _ _ _ (T136.setTop (mkF m 16 #[.val (.ref ba), .val (.ref fa), .val (.int (1 : Int32))] [(.ref fa), (.int (1 : Int32)), (.ref ba)]))
  refine own_step (fun _ kc_ => XS.iloadN X136.here hx rfl (hb hby d10_16) rfl kc_) ?_
  show own_Ends p e below s _ _ _ (T136.setTop (mkF m 17 #[.val (.ref ba), .val (.ref fa), .val (.int (1 : Int32))] [(.int (1 : Int32)), (.ref fa), (.int (1 : Int32)), (.ref ba)]))
  have F137n : Jvm.LamKit.FnAt T136.heap fa cK := by rw [e136]; exact Fn136
  obtain ⟨v137, st137, t137, T137, L137, X137, hL137, eh137, -, ⟨hv137, hh137⟩, sp137⟩ := Jvm.LamKit.callLamS X136 hx (own_lamMet l Z a0 hw (1 : Int32) h136 n0 Zs136) (fun _ _ _ _ q => q) rfl rfl (fun w hwm a' U hU => by cases List.mem_singleton.mp hwm; exact mv (wtrans hZ hU) (hw _ (List.mem_of_getElem? (i := 83) rfl))) (List.mem_singleton.mpr rfl) hown (mvT hZ (hw _ (List.mem_of_getElem? (i := 79) rfl))) (mvT hZ (hw _ (List.mem_of_getElem? (i := 80) rfl))) (mvT hZ (hw _ (List.mem_of_getElem? (i := 81) rfl))) (mvT hZ (hw _ (List.mem_of_getElem? (i := 83) rfl))) (mvT hZ (hw _ (List.mem_of_getElem? (i := 82) rfl))) (mvT hZ (hw _ (List.mem_of_getElem? (i := 2) rfl))) (xi := (⟨"java/util/function/IntUnaryOperator", "applyAsInt", "(I)I"⟩ : MethodName)) ⟨rfl, rfl, by decide⟩ ⟨rfl, rfl, by decide⟩ (by decide) hEx F137n own_fok own_fc1 own_fc4 (g := (mkF m 17 #[.val (.ref ba), .val (.ref fa), .val (.int (1 : Int32))] [(.int (1 : Int32)), (.ref fa), (.int (1 : Int32)), (.ref ba)])) rfl (by rw [hml]; rfl) (argsL := [(.int (1 : Int32))]) (argsT := [(.int (1 : Int32))]) (rest := [(.int (1 : Int32)), (.ref ba)]) (L0 := #[.val (.ref fa), .val (.int (1 : Int32))]) (lenOf pd_3 rfl) (lenOf pd_3 rfl) rfl (hb hby d10_17) (fun _ => by first | rfl | (simp [entryFrame, argsToLocals, Value.category]; done)) rfl (fun U ck bl target hAt hck _ _ kk => XS.iloadN hAt hx rfl (hb hck own_fc0) rfl kk) (fun _ v _ q => Or.inl ⟨.int, (1 : Int32), rfl, Or.inl rfl, rfl, rfl, by cases q.1; rfl⟩) (by decide) (Nat.le_of_ble_eq_true rfl) (by decide : 0 + 0 ≤ _) (by decide : 0 + 0 ≤ _) (fun U hU hh => ⟨rfl, wtrans hZ hU, hh.trans e136⟩)
  cases hv137
  have e137 : T137.heap = h136 := eh137.trans hh137
  have N137 := Fr.app N136 hL137
  refine own_step (fun _ kc_ => sp137 _ kc_) ?_
  show own_Ends p e below s _ _ _ (T137.setTop (mkF m 22 #[.val (.ref ba), .val (.ref fa), .val (.int (1 : Int32))] [(.int (1 : Int32)), (.int (1 : Int32)), (.ref ba)]))
  obtain ⟨T138, h138, X138, e138, W138, A138, st138⟩ := own_iastore X137 hx hZ e137 A_ba_136 (j := (1 : Int32)) (x := (1 : Int32)) (by decide) (i := 1) rfl (Nat.le_of_ble_eq_true rfl) (Ls := #[.val (.ref ba), .val (.ref fa), .val (.int (1 : Int32))]) (st := []) (hb hby d10_22)
  have A_ba_138 : own_Ar Z h138 ba .int [(.int (0 : Int32)), (.int (1 : Int32)), (.int (0 : Int32)), (.int (0 : Int32)), (.int (0 : Int32))] := A138
  have K138 := (K136).wr W138 (Or.inl (List.mem_of_getElem? (i := 0) rfl))
  have Zs138 := Nat.le_trans Zs136 (Nat.le_of_eq W138.size.symm)
  have N138 := Fr.snoc X138 N137 g0
  refine own_step (fun _ kc_ => st138 _ kc_) ?_
  show own_Ends p e below s _ _ _ (T138.setTop (mkF m 23 #[.val (.ref ba), .val (.ref fa), .val (.int (1 : Int32))] []))
  have Fn138 := own_fn_wr Fn136 W138
  refine own_step (fun _ kc_ => XS.iinc X138.here hx rfl (hb hby d10_23) rfl (l' := #[.val (.ref ba), .val (.ref fa), .val (.int ((1 : Int32) + (1 : Int32)))]) rfl kc_) ?_
  show own_Ends p e below s _ _ _ (T138.setTop (mkF m 26 #[.val (.ref ba), .val (.ref fa), .val (.int ((1 : Int32) + (1 : Int32)))] []))
  rw [show ((1 : Int32) + (1 : Int32)) = (2 : Int32) from by decide]
  show own_Ends p e below s _ _ _ (T138.setTop (mkF m 26 #[.val (.ref ba), .val (.ref fa), .val (.int (2 : Int32))] []))
  refine own_step (fun _ kc_ => XS.goto X138.here hx rfl (pc0 := 26) (pc' := 7) rfl (hb hby d10_26) (by decide) (by decide) (XS.iloadN X138.here hx rfl (hb hby d10_7) rfl (XS.aloadN X138.here hx rfl (hb hby d10_8) rfl rfl (own_alen X138 hx hZ e138 A_ba_138 (n := 5) (z := (5 : Int32)) rfl rfl (hb hby d10_9) _ (XS.icmpNo X138.here hx rfl (hb hby d10_10) rfl (XT.ii_ge_f (by decide : (2 : Int32) < (5 : Int32))) (XS.aloadN X138.here hx rfl (hb hby d10_13) rfl rfl (XS.iloadN X138.here hx rfl (hb hby d10_14) rfl (XS.aloadN X138.here hx rfl (hb hby d10_15) rfl rfl kc_)))))))) ?_
  show own_Ends p e below s _ _ _ (T138.setTop (mkF m 16 #[.val (.ref ba), .val (.ref fa), .val (.int (2 : Int32))] [(.ref fa), (.int (2 : Int32)), (.ref ba)]))
  refine own_step (fun _ kc_ => XS.iloadN X138.here hx rfl (hb hby d10_16) rfl kc_) ?_
  show own_Ends p e below s _ _ _ (T138.setTop (mkF m 17 #[.val (.ref ba), .val (.ref fa), .val (.int (2 : Int32))] [(.int (2 : Int32)), (.ref fa), (.int (2 : Int32)), (.ref ba)]))
  have F139n : Jvm.LamKit.FnAt T138.heap fa cK := by rw [e138]; exact Fn138
  obtain ⟨v139, st139, t139, T139, L139, X139, hL139, eh139, -, ⟨hv139, hh139⟩, sp139⟩ := Jvm.LamKit.callLamS X138 hx (own_lamMet l Z a0 hw (2 : Int32) h138 n0 Zs138) (fun _ _ _ _ q => q) rfl rfl (fun w hwm a' U hU => by cases List.mem_singleton.mp hwm; exact mv (wtrans hZ hU) (hw _ (List.mem_of_getElem? (i := 83) rfl))) (List.mem_singleton.mpr rfl) hown (mvT hZ (hw _ (List.mem_of_getElem? (i := 79) rfl))) (mvT hZ (hw _ (List.mem_of_getElem? (i := 80) rfl))) (mvT hZ (hw _ (List.mem_of_getElem? (i := 81) rfl))) (mvT hZ (hw _ (List.mem_of_getElem? (i := 83) rfl))) (mvT hZ (hw _ (List.mem_of_getElem? (i := 82) rfl))) (mvT hZ (hw _ (List.mem_of_getElem? (i := 2) rfl))) (xi := (⟨"java/util/function/IntUnaryOperator", "applyAsInt", "(I)I"⟩ : MethodName)) ⟨rfl, rfl, by decide⟩ ⟨rfl, rfl, by decide⟩ (by decide) hEx F139n own_fok own_fc1 own_fc4 (g := (mkF m 17 #[.val (.ref ba), .val (.ref fa), .val (.int (2 : Int32))] [(.int (2 : Int32)), (.ref fa), (.int (2 : Int32)), (.ref ba)])) rfl (by rw [hml]; rfl) (argsL := [(.int (2 : Int32))]) (argsT := [(.int (2 : Int32))]) (rest := [(.int (2 : Int32)), (.ref ba)]) (L0 := #[.val (.ref fa), .val (.int (2 : Int32))]) (lenOf pd_3 rfl) (lenOf pd_3 rfl) rfl (hb hby d10_17) (fun _ => by first | rfl | (simp [entryFrame, argsToLocals, Value.category]; done)) rfl (fun U ck bl target hAt hck _ _ kk => XS.iloadN hAt hx rfl (hb hck own_fc0) rfl kk) (fun _ v _ q => Or.inl ⟨.int, (2 : Int32), rfl, Or.inl rfl, rfl, rfl, by cases q.1; rfl⟩) (by decide) (Nat.le_of_ble_eq_true rfl) (by decide : 0 + 0 ≤ _) (by decide : 0 + 0 ≤ _) (fun U hU hh => ⟨rfl, wtrans hZ hU, hh.trans e138⟩)
  cases hv139
  have e139 : T139.heap = h138 := eh139.trans hh139
  have N139 := Fr.app N138 hL139
  refine own_step (fun _ kc_ => sp139 _ kc_) ?_
  show own_Ends p e below s _ _ _ (T139.setTop (mkF m 22 #[.val (.ref ba), .val (.ref fa), .val (.int (2 : Int32))] [(.int (2 : Int32)), (.int (2 : Int32)), (.ref ba)]))
  obtain ⟨T140, h140, X140, e140, W140, A140, st140⟩ := own_iastore X139 hx hZ e139 A_ba_138 (j := (2 : Int32)) (x := (2 : Int32)) (by decide) (i := 2) rfl (Nat.le_of_ble_eq_true rfl) (Ls := #[.val (.ref ba), .val (.ref fa), .val (.int (2 : Int32))]) (st := []) (hb hby d10_22)
  have A_ba_140 : own_Ar Z h140 ba .int [(.int (0 : Int32)), (.int (1 : Int32)), (.int (2 : Int32)), (.int (0 : Int32)), (.int (0 : Int32))] := A140
  have K140 := (K138).wr W140 (Or.inl (List.mem_of_getElem? (i := 0) rfl))
  have Zs140 := Nat.le_trans Zs138 (Nat.le_of_eq W140.size.symm)
  have N140 := Fr.snoc X140 N139 g0
  refine own_step (fun _ kc_ => st140 _ kc_) ?_
  show own_Ends p e below s _ _ _ (T140.setTop (mkF m 23 #[.val (.ref ba), .val (.ref fa), .val (.int (2 : Int32))] []))
  have Fn140 := own_fn_wr Fn138 W140
  refine own_step (fun _ kc_ => XS.iinc X140.here hx rfl (hb hby d10_23) rfl (l' := #[.val (.ref ba), .val (.ref fa), .val (.int ((2 : Int32) + (1 : Int32)))]) rfl kc_) ?_
  show own_Ends p e below s _ _ _ (T140.setTop (mkF m 26 #[.val (.ref ba), .val (.ref fa), .val (.int ((2 : Int32) + (1 : Int32)))] []))
  rw [show ((2 : Int32) + (1 : Int32)) = (3 : Int32) from by decide]
  show own_Ends p e below s _ _ _ (T140.setTop (mkF m 26 #[.val (.ref ba), .val (.ref fa), .val (.int (3 : Int32))] []))
  refine own_step (fun _ kc_ => XS.goto X140.here hx rfl (pc0 := 26) (pc' := 7) rfl (hb hby d10_26) (by decide) (by decide) (XS.iloadN X140.here hx rfl (hb hby d10_7) rfl (XS.aloadN X140.here hx rfl (hb hby d10_8) rfl rfl (own_alen X140 hx hZ e140 A_ba_140 (n := 5) (z := (5 : Int32)) rfl rfl (hb hby d10_9) _ (XS.icmpNo X140.here hx rfl (hb hby d10_10) rfl (XT.ii_ge_f (by decide : (3 : Int32) < (5 : Int32))) (XS.aloadN X140.here hx rfl (hb hby d10_13) rfl rfl (XS.iloadN X140.here hx rfl (hb hby d10_14) rfl (XS.aloadN X140.here hx rfl (hb hby d10_15) rfl rfl kc_)))))))) ?_
  show own_Ends p e below s _ _ _ (T140.setTop (mkF m 16 #[.val (.ref ba), .val (.ref fa), .val (.int (3 : Int32))] [(.ref fa), (.int (3 : Int32)), (.ref ba)]))
  refine own_step (fun _ kc_ => XS.iloadN X140.here hx rfl (hb hby d10_16) rfl kc_) ?_
  show own_Ends p e below s _ _ _ (T140.setTop (mkF m 17 #[.val (.ref ba), .val (.ref fa), .val (.int (3 : Int32))] [(.int (3 : Int32)), (.ref fa), (.int (3 : Int32)), (.ref ba)]))
  have F141n : Jvm.LamKit.FnAt T140.heap fa cK := by rw [e140]; exact Fn140
  obtain ⟨v141, st141, t141, T141, L141, X141, hL141, eh141, -, ⟨hv141, hh141⟩, sp141⟩ := Jvm.LamKit.callLamS X140 hx (own_lamMet l Z a0 hw (3 : Int32) h140 n0 Zs140) (fun _ _ _ _ q => q) rfl rfl (fun w hwm a' U hU => by cases List.mem_singleton.mp hwm; exact mv (wtrans hZ hU) (hw _ (List.mem_of_getElem? (i := 83) rfl))) (List.mem_singleton.mpr rfl) hown (mvT hZ (hw _ (List.mem_of_getElem? (i := 79) rfl))) (mvT hZ (hw _ (List.mem_of_getElem? (i := 80) rfl))) (mvT hZ (hw _ (List.mem_of_getElem? (i := 81) rfl))) (mvT hZ (hw _ (List.mem_of_getElem? (i := 83) rfl))) (mvT hZ (hw _ (List.mem_of_getElem? (i := 82) rfl))) (mvT hZ (hw _ (List.mem_of_getElem? (i := 2) rfl))) (xi := (⟨"java/util/function/IntUnaryOperator", "applyAsInt", "(I)I"⟩ : MethodName)) ⟨rfl, rfl, by decide⟩ ⟨rfl, rfl, by decide⟩ (by decide) hEx F141n own_fok own_fc1 own_fc4 (g := (mkF m 17 #[.val (.ref ba), .val (.ref fa), .val (.int (3 : Int32))] [(.int (3 : Int32)), (.ref fa), (.int (3 : Int32)), (.ref ba)])) rfl (by rw [hml]; rfl) (argsL := [(.int (3 : Int32))]) (argsT := [(.int (3 : Int32))]) (rest := [(.int (3 : Int32)), (.ref ba)]) (L0 := #[.val (.ref fa), .val (.int (3 : Int32))]) (lenOf pd_3 rfl) (lenOf pd_3 rfl) rfl (hb hby d10_17) (fun _ => by first | rfl | (simp [entryFrame, argsToLocals, Value.category]; done)) rfl (fun U ck bl target hAt hck _ _ kk => XS.iloadN hAt hx rfl (hb hck own_fc0) rfl kk) (fun _ v _ q => Or.inl ⟨.int, (3 : Int32), rfl, Or.inl rfl, rfl, rfl, by cases q.1; rfl⟩) (by decide) (Nat.le_of_ble_eq_true rfl) (by decide : 0 + 0 ≤ _) (by decide : 0 + 0 ≤ _) (fun U hU hh => ⟨rfl, wtrans hZ hU, hh.trans e140⟩)
  cases hv141
  have e141 : T141.heap = h140 := eh141.trans hh141
  have N141 := Fr.app N140 hL141
  refine own_step (fun _ kc_ => sp141 _ kc_) ?_
  show own_Ends p e below s _ _ _ (T141.setTop (mkF m 22 #[.val (.ref ba), .val (.ref fa), .val (.int (3 : Int32))] [(.int (3 : Int32)), (.int (3 : Int32)), (.ref ba)]))
  obtain ⟨T142, h142, X142, e142, W142, A142, st142⟩ := own_iastore X141 hx hZ e141 A_ba_140 (j := (3 : Int32)) (x := (3 : Int32)) (by decide) (i := 3) rfl (Nat.le_of_ble_eq_true rfl) (Ls := #[.val (.ref ba), .val (.ref fa), .val (.int (3 : Int32))]) (st := []) (hb hby d10_22)
  have A_ba_142 : own_Ar Z h142 ba .int [(.int (0 : Int32)), (.int (1 : Int32)), (.int (2 : Int32)), (.int (3 : Int32)), (.int (0 : Int32))] := A142
  have K142 := (K140).wr W142 (Or.inl (List.mem_of_getElem? (i := 0) rfl))
  have Zs142 := Nat.le_trans Zs140 (Nat.le_of_eq W142.size.symm)
  have N142 := Fr.snoc X142 N141 g0
  refine own_step (fun _ kc_ => st142 _ kc_) ?_
  show own_Ends p e below s _ _ _ (T142.setTop (mkF m 23 #[.val (.ref ba), .val (.ref fa), .val (.int (3 : Int32))] []))
  have Fn142 := own_fn_wr Fn140 W142
  refine own_step (fun _ kc_ => XS.iinc X142.here hx rfl (hb hby d10_23) rfl (l' := #[.val (.ref ba), .val (.ref fa), .val (.int ((3 : Int32) + (1 : Int32)))]) rfl kc_) ?_
  show own_Ends p e below s _ _ _ (T142.setTop (mkF m 26 #[.val (.ref ba), .val (.ref fa), .val (.int ((3 : Int32) + (1 : Int32)))] []))
  rw [show ((3 : Int32) + (1 : Int32)) = (4 : Int32) from by decide]
  show own_Ends p e below s _ _ _ (T142.setTop (mkF m 26 #[.val (.ref ba), .val (.ref fa), .val (.int (4 : Int32))] []))
  refine own_step (fun _ kc_ => XS.goto X142.here hx rfl (pc0 := 26) (pc' := 7) rfl (hb hby d10_26) (by decide) (by decide) (XS.iloadN X142.here hx rfl (hb hby d10_7) rfl (XS.aloadN X142.here hx rfl (hb hby d10_8) rfl rfl (own_alen X142 hx hZ e142 A_ba_142 (n := 5) (z := (5 : Int32)) rfl rfl (hb hby d10_9) _ (XS.icmpNo X142.here hx rfl (hb hby d10_10) rfl (XT.ii_ge_f (by decide : (4 : Int32) < (5 : Int32))) (XS.aloadN X142.here hx rfl (hb hby d10_13) rfl rfl (XS.iloadN X142.here hx rfl (hb hby d10_14) rfl (XS.aloadN X142.here hx rfl (hb hby d10_15) rfl rfl kc_)))))))) ?_
  show own_Ends p e below s _ _ _ (T142.setTop (mkF m 16 #[.val (.ref ba), .val (.ref fa), .val (.int (4 : Int32))] [(.ref fa), (.int (4 : Int32)), (.ref ba)]))
  refine own_step (fun _ kc_ => XS.iloadN X142.here hx rfl (hb hby d10_16) rfl kc_) ?_
  show own_Ends p e below s _ _ _ (T142.setTop (mkF m 17 #[.val (.ref ba), .val (.ref fa), .val (.int (4 : Int32))] [(.int (4 : Int32)), (.ref fa), (.int (4 : Int32)), (.ref ba)]))
  have F143n : Jvm.LamKit.FnAt T142.heap fa cK := by rw [e142]; exact Fn142
  obtain ⟨v143, st143, t143, T143, L143, X143, hL143, eh143, -, ⟨hv143, hh143⟩, sp143⟩ := Jvm.LamKit.callLamS X142 hx (own_lamMet l Z a0 hw (4 : Int32) h142 n0 Zs142) (fun _ _ _ _ q => q) rfl rfl (fun w hwm a' U hU => by cases List.mem_singleton.mp hwm; exact mv (wtrans hZ hU) (hw _ (List.mem_of_getElem? (i := 83) rfl))) (List.mem_singleton.mpr rfl) hown (mvT hZ (hw _ (List.mem_of_getElem? (i := 79) rfl))) (mvT hZ (hw _ (List.mem_of_getElem? (i := 80) rfl))) (mvT hZ (hw _ (List.mem_of_getElem? (i := 81) rfl))) (mvT hZ (hw _ (List.mem_of_getElem? (i := 83) rfl))) (mvT hZ (hw _ (List.mem_of_getElem? (i := 82) rfl))) (mvT hZ (hw _ (List.mem_of_getElem? (i := 2) rfl))) (xi := (⟨"java/util/function/IntUnaryOperator", "applyAsInt", "(I)I"⟩ : MethodName)) ⟨rfl, rfl, by decide⟩ ⟨rfl, rfl, by decide⟩ (by decide) hEx F143n own_fok own_fc1 own_fc4 (g := (mkF m 17 #[.val (.ref ba), .val (.ref fa), .val (.int (4 : Int32))] [(.int (4 : Int32)), (.ref fa), (.int (4 : Int32)), (.ref ba)])) rfl (by rw [hml]; rfl) (argsL := [(.int (4 : Int32))]) (argsT := [(.int (4 : Int32))]) (rest := [(.int (4 : Int32)), (.ref ba)]) (L0 := #[.val (.ref fa), .val (.int (4 : Int32))]) (lenOf pd_3 rfl) (lenOf pd_3 rfl) rfl (hb hby d10_17) (fun _ => by first | rfl | (simp [entryFrame, argsToLocals, Value.category]; done)) rfl (fun U ck bl target hAt hck _ _ kk => XS.iloadN hAt hx rfl (hb hck own_fc0) rfl kk) (fun _ v _ q => Or.inl ⟨.int, (4 : Int32), rfl, Or.inl rfl, rfl, rfl, by cases q.1; rfl⟩) (by decide) (Nat.le_of_ble_eq_true rfl) (by decide : 0 + 0 ≤ _) (by decide : 0 + 0 ≤ _) (fun U hU hh => ⟨rfl, wtrans hZ hU, hh.trans e142⟩)
  cases hv143
  have e143 : T143.heap = h142 := eh143.trans hh143
  have N143 := Fr.app N142 hL143
  refine own_step (fun _ kc_ => sp143 _ kc_) ?_
  show own_Ends p e below s _ _ _ (T143.setTop (mkF m 22 #[.val (.ref ba), .val (.ref fa), .val (.int (4 : Int32))] [(.int (4 : Int32)), (.int (4 : Int32)), (.ref ba)]))
  obtain ⟨T144, h144, X144, e144, W144, A144, st144⟩ := own_iastore X143 hx hZ e143 A_ba_142 (j := (4 : Int32)) (x := (4 : Int32)) (by decide) (i := 4) rfl (Nat.le_of_ble_eq_true rfl) (Ls := #[.val (.ref ba), .val (.ref fa), .val (.int (4 : Int32))]) (st := []) (hb hby d10_22)
  have A_ba_144 : own_Ar Z h144 ba .int [(.int (0 : Int32)), (.int (1 : Int32)), (.int (2 : Int32)), (.int (3 : Int32)), (.int (4 : Int32))] := A144
  have K144 := (K142).wr W144 (Or.inl (List.mem_of_getElem? (i := 0) rfl))
  have Zs144 := Nat.le_trans Zs142 (Nat.le_of_eq W144.size.symm)
  have N144 := Fr.snoc X144 N143 g0
  refine own_step (fun _ kc_ => st144 _ kc_) ?_
  show own_Ends p e below s _ _ _ (T144.setTop (mkF m 23 #[.val (.ref ba), .val (.ref fa), .val (.int (4 : Int32))] []))
  have Fn144 := own_fn_wr Fn142 W144
  refine own_step (fun _ kc_ => XS.iinc X144.here hx rfl (hb hby d10_23) rfl (l' := #[.val (.ref ba), .val (.ref fa), .val (.int ((4 : Int32) + (1 : Int32)))]) rfl kc_) ?_
  show own_Ends p e below s _ _ _ (T144.setTop (mkF m 26 #[.val (.ref ba), .val (.ref fa), .val (.int ((4 : Int32) + (1 : Int32)))] []))
  rw [show ((4 : Int32) + (1 : Int32)) = (5 : Int32) from by decide]
  show own_Ends p e below s _ _ _ (T144.setTop (mkF m 26 #[.val (.ref ba), .val (.ref fa), .val (.int (5 : Int32))] []))
  refine own_step (fun _ kc_ => XS.goto X144.here hx rfl (pc0 := 26) (pc' := 7) rfl (hb hby d10_26) (by decide) (by decide) (XS.iloadN X144.here hx rfl (hb hby d10_7) rfl (XS.aloadN X144.here hx rfl (hb hby d10_8) rfl rfl (own_alen X144 hx hZ e144 A_ba_144 (n := 5) (z := (5 : Int32)) rfl rfl (hb hby d10_9) _ (XS.icmpYes X144.here hx rfl (pc0 := 10) (pc' := 29) rfl (hb hby d10_10) rfl (XT.ii_ge_t (by decide : ¬ ((5 : Int32) < (5 : Int32)))) (by decide) (by decide) kc_))))) ?_
  show own_Ends p e below s _ _ _ (T144.setTop (mkF m 29 #[.val (.ref ba), .val (.ref fa), .val (.int (5 : Int32))] []))
  exact own_retV X144 hx hret hlk (hb hby d10_29) (by decide) (by decide) (by rw [e144]; exact ⟨rfl, N144, K144, A_ba_144⟩)
theorem ef_rmB5 (m : MethodId) (oo : Addr) : entryFrame m #[(.ref oo), (.int (5 : Int32))] 9 = mkF m 0 #[.val (.ref oo), .val (.int (5 : Int32)), .unset, .unset, .unset, .unset, .unset, .unset, .unset] [] := by first | (simp [entryFrame, mkF, argsToLocals, Value.category]; done) | rfl
def QB5 (Z : State) (oo : Addr)  (h0 : Heap) (n0 : Nat) (v : Option Value) (h : Heap) (L : List Loc) : Prop := Fr n0 L ∧ Keep h0 h [] ∧ ∃ ba, v = some (.ref ba) ∧ own_Ar Z h ba .int [(.int (0 : Int32)), (.int (1 : Int32)), (.int (2 : Int32)), (.int (3 : Int32)), (.int (4 : Int32))]
set_option maxRecDepth 65536 in
set_option maxHeartbeats 40000000 in
theorem rmB5 (l : Launch) (Z : State) (a0 : Array Value) (hw : ∀ d ∈ tables_1, d.before a0 Z = true) (ws : List Jvm.Cond) (oo : Addr)  (h0 : Heap) (n0 : Nat) (Z0 : n0 ≤ h0.size) (f0 : Fld Z h0 oo "com/example/kinds_by_value/kindsbyvalue/NameSet" "everyName" "Z" (.int (1 : Int32))) :
    MetFree l (⟨"com/example/kinds_by_value/kindsbyvalue/NameSet", "below", "(I)[I"⟩ : MethodName) (head1 (Jvm.Cond.code (⟨"com/example/kinds_by_value/kindsbyvalue/NameSet", "below", "(I)[I"⟩ : MethodName) prog_9_method_6_code 9 (some (.array .int)) :: ws) ({ frames := 3, cells := 1, slots := 5, locals := 3100 } : Room)) (fun a U => a = #[(.ref oo), (.int (5 : Int32))] ∧ Z.Warmed39 U.vm ∧ U.heap = h0 ∧ own_Site U) (fun _ _ _ _ _ => True) (fun _ U o U' => ∃ v L, o = .returned v ∧ QB5 Z oo  h0 n0 v U'.heap L ∧ FrameEnd U o U' L ({ frames := 3, cells := 1, slots := 5, locals := 3100 } : Room).cells ({ frames := 3, cells := 1, slots := 5, locals := 3100 } : Room).slots) := by
  refine MetFree.of_bodySF (plainFor_of_name pn_2) hisR ?_
  intro p e s m args below meth c s₁ Bd hml0 hP hK
  obtain ⟨rfl, hZ, hh, hEx⟩ := hP
  have hx := Bd.exec
  have hby := Bd.bytes
  have hlk : meth.locks = false := BodyLoose.notSynchronized Bd
  have hret := Bd.returns
  have hml : c.maxLocals = 9 := hml0
  have hown : s.vm.findClass "com/example/kinds_by_value/kindsbyvalue/NameSet" = some m.cls := findClass_of_methodNamed Bd.named
  have hnm := (name_of_methodNamed Bd.named Bd.method).1
  have X0 : Stand p l e ({ frames := 3, cells := 1, slots := 5, locals := 3100 } : Room) s m #[(.ref oo), (.int (5 : Int32))] below meth c s₁ [] 0 0 := Stand.of_body Bd
  have e0 : s₁.heap = h0 := by rw [← hh, Bd.state]; rfl
  have N0 := Fr.nil n0
  show own_Ends p e below s 1 5 (QB5 Z oo  h0 n0) (s₁.setTop (entryFrame m #[(.ref oo), (.int (5 : Int32))] 9))
  refine own_step (fun t k => castTop (ef_rmB5 m oo) k) ?_
  show own_Ends p e below s _ _ _ (s₁.setTop (mkF m 0 #[.val (.ref oo), .val (.int (5 : Int32)), .unset, .unset, .unset, .unset, .unset, .unset, .unset] []))
  refine own_step (fun _ kc_ => XS.aloadN X0.here hx rfl (hb hby d9_0) rfl rfl kc_) ?_
  show own_Ends p e below s _ _ _ (s₁.setTop (mkF m 1 #[.val (.ref oo), .val (.int (5 : Int32)), .unset, .unset, .unset, .unset, .unset, .unset, .unset] [(.ref oo)]))
  obtain ⟨T145, X145, e145, st145⟩ := getF X0 hx hZ hown (host := "") (Or.inl (hw _ (List.mem_of_getElem? (i := 17) rfl))) Via.refl e0 f0 (g := (mkF m 1 #[.val (.ref oo), .val (.int (5 : Int32)), .unset, .unset, .unset, .unset, .unset, .unset, .unset] [(.ref oo)])) rfl rfl (hb hby d9_1)
  refine own_step (fun _ kc_ => st145 _ kc_) ?_
  show own_Ends p e below s _ _ _ (T145.setTop (mkF m 4 #[.val (.ref oo), .val (.int (5 : Int32)), .unset, .unset, .unset, .unset, .unset, .unset, .unset] [(.int (1 : Int32))]))
  refine own_step (fun _ kc_ => XS.ifNo X145.here hx rfl (hb hby d9_4) rfl (XT.i0_eq_f (by decide : ¬ ((1 : Int32) = 0))) (XS.iloadN X145.here hx rfl (hb hby d9_7) rfl kc_)) ?_
  show own_Ends p e below s _ _ _ (T145.setTop (mkF m 8 #[.val (.ref oo), .val (.int (5 : Int32)), .unset, .unset, .unset, .unset, .unset, .unset, .unset] [(.int (5 : Int32))]))
  obtain ⟨T146, h146, k146, X146, e146, E146, A146, st146⟩ := newP X145 hx hZ (hw _ (List.mem_of_getElem? (i := 59) rfl)) e145 (g := (mkF m 8 #[.val (.ref oo), .val (.int (5 : Int32)), .unset, .unset, .unset, .unset, .unset, .unset, .unset] [(.int (5 : Int32))])) rfl (hb hby d9_8) rfl (by decide) (cap := 5) (by decide) (by decide) (by decide : 0 + 1 ≤ _) (by decide : 0 + 5 ≤ _)
  obtain ⟨b146, g146⟩ : ∃ z, z = h0.size := ⟨_, rfl⟩
  rw [← g146] at A146 st146
  have ne_oo_b146 : oo ≠ b146 := Nat.ne_of_lt (Nat.lt_of_lt_of_le (f0).lt (Nat.le_of_eq g146.symm))
  have n0_b146 : n0 ≤ b146 := Nat.le_trans Z0 (Nat.le_of_eq g146.symm)
  have h0_b146 : h0.size ≤ b146 := Nat.le_trans ((Keep.refl h0 [])).1 (Nat.le_of_eq g146.symm)
  have F_oo_everyName_146 := (f0).ext E146
  have K146 := ((Keep.refl h0 [])).ext E146
  have Zs146 := Nat.le_trans Z0 E146.1
  have A_b146 : own_Ar Z h146 b146 .int [(.int (0 : Int32)), (.int (0 : Int32)), (.int (0 : Int32)), (.int (0 : Int32)), (.int (0 : Int32))] := own_Ar.new A146 (by decide)
  refine own_step (fun _ kc_ => st146 _ kc_) ?_
  show own_Ends p e below s _ _ _ (T146.setTop (mkF m 10 #[.val (.ref oo), .val (.int (5 : Int32)), .unset, .unset, .unset, .unset, .unset, .unset, .unset] [(.ref b146)]))
  refine own_step (fun _ kc_ => XS.astoreN X146.here hx rfl (hb hby d9_10) rfl rfl (l' := #[.val (.ref oo), .val (.int (5 : Int32)), .val (.ref b146), .unset, .unset, .unset, .unset, .unset, .unset]) rfl (XS.aloadN X146.here hx rfl (hb hby d9_11) rfl rfl kc_)) ?_
  show own_Ends p e below s _ _ _ (T146.setTop (mkF m 12 #[.val (.ref oo), .val (.int (5 : Int32)), .val (.ref b146), .unset, .unset, .unset, .unset, .unset, .unset] [(.ref b146)]))
  have hst : (Cond.lambdaSite own_bel 12 53 own_sg).before #[(.ref oo), (.int (5 : Int32))] s = true := own_siteC hEx
  obtain ⟨fa, cK, hMade, hFn, sp147⟩ := Jvm.LamKit.siteConst X146 hx (x := own_bel) Bd.named hst rfl (g := (mkF m 12 #[.val (.ref oo), .val (.int (5 : Int32)), .val (.ref b146), .unset, .unset, .unset, .unset, .unset, .unset] [(.ref b146)])) rfl rfl (by rw [hml]; rfl) (hb hby d9_12) (Nat.le_of_ble_eq_true rfl)
  have hFn2 : Jvm.LamKit.FnAt h146 fa cK := by rw [← e146]; exact hFn
  refine own_step (fun _ kc_ => sp147 _ kc_) ?_
  show own_Ends p e below s _ _ _ (T146.setTop (mkF m 17 #[.val (.ref oo), .val (.int (5 : Int32)), .val (.ref b146), .unset, .unset, .unset, .unset, .unset, .unset] [(.ref fa), (.ref b146)]))
  obtain ⟨_, _, ⟨T148, L148, k148, n148⟩, -, X148, ⟨Lc148, hQ148, l148, y148, z148⟩, st148⟩ := Jvm.LawKit.callS X146 hx (y := (⟨"java/util/Arrays", "setAll", "([ILjava/util/function/IntUnaryOperator;)V"⟩ : MethodName)) hown (mvT hZ (hw _ (List.mem_of_getElem? (i := 62) rfl))) (mvT hZ (hw _ (List.mem_of_getElem? (i := 63) rfl))) (mvT hZ (hw _ (List.mem_of_getElem? (i := 64) rfl))) (mvT hZ (hw _ (List.mem_of_getElem? (i := 65) rfl))) (by decide) (own_backX (W := 0) (rmS5 l Z a0 hw [] b146 fa cK h146 n0 Zs146 A_b146 hFn2 n0_b146) hZ (hw _ (List.mem_of_getElem? (i := 65) rfl)) (hw _ (List.mem_of_getElem? (i := 64) rfl)) (by decide) (by decide) (fun _ _ _ _ _ _ _ Y => own_made_at hMade Y)) (g := (mkF m 17 #[.val (.ref oo), .val (.int (5 : Int32)), .val (.ref b146), .unset, .unset, .unset, .unset, .unset, .unset] [(.ref fa), (.ref b146)])) rfl (by rw [hml]; rfl) (argsL := [(.ref b146), (.ref fa)]) (rest := []) (lenOf pd_6 rfl) rfl (by show 2 * 0 + _ ≤ _; exact Nat.le_of_eq rfl) (hb hby d9_17) (fun _ _ => ⟨rfl, e146, (by decide : 1 + 0 ≤ _), (by decide : 5 + 0 ≤ _)⟩)
  dsimp only [Pt.U, Pt.locs, Pt.cells, Pt.slots] at X148 l148 y148 z148 st148 hQ148
  subst y148 z148
  obtain ⟨rfl, N148q, K148k, A148k⟩ := hQ148
  have F_oo_everyName_148 := (F_oo_everyName_146).keep K148k (ninS ne_oo_b146 nin0)
  have K148 := (K146).trans K148k (allS (Or.inr h0_b146) all0)
  have Zs148 := Nat.le_trans Zs146 K148k.1
  have N148 : Fr n0 L148 := by rw [l148]; exact Fr.app N0 N148q
  refine own_step (fun _ kc_ => st148 _ kc_) ?_
  show own_Ends p e below s _ _ _ (T148.setTop (mkF m 20 #[.val (.ref oo), .val (.int (5 : Int32)), .val (.ref b146), .unset, .unset, .unset, .unset, .unset, .unset] []))
  refine own_step (fun _ kc_ => XS.goto X148.here hx rfl (pc0 := 20) (pc' := 95) rfl (hb hby d9_20) (by decide) (by decide) (XS.aloadN X148.here hx rfl (hb hby d9_95) rfl rfl kc_)) ?_
  show own_Ends p e below s _ _ _ (T148.setTop (mkF m 96 #[.val (.ref oo), .val (.int (5 : Int32)), .val (.ref b146), .unset, .unset, .unset, .unset, .unset, .unset] [(.ref b146)]))
  exact own_retR X148 hx hret rfl rfl rfl hlk (hb hby d9_96) (by decide) (by decide) (by exact ⟨N148, K148, b146, rfl, A148k⟩)
theorem ef_rmS6 (m : MethodId) (ba : Addr) (fa : Addr) : entryFrame m #[(.ref ba), (.ref fa)] 3 = mkF m 0 #[.val (.ref ba), .val (.ref fa), .unset] [] := by first | (simp [entryFrame, mkF, argsToLocals, Value.category]; done) | rfl
def QS6 (Z : State) (ba : Addr) (fa : Addr) (cK : ClassId) (h0 : Heap) (n0 : Nat) (v : Option Value) (h : Heap) (L : List Loc) : Prop := v = none ∧ Fr n0 L ∧ Keep h0 h [ba] ∧ own_Ar Z h ba .int [(.int (0 : Int32)), (.int (1 : Int32)), (.int (2 : Int32)), (.int (3 : Int32)), (.int (4 : Int32)), (.int (5 : Int32))]
set_option maxRecDepth 65536 in
set_option maxHeartbeats 40000000 in
theorem rmS6 (l : Launch) (Z : State) (a0 : Array Value) (hw : ∀ d ∈ tables_1, d.before a0 Z = true) (ws : List Jvm.Cond) (ba : Addr) (fa : Addr) (cK : ClassId) (h0 : Heap) (n0 : Nat) (Z0 : n0 ≤ h0.size) (A0 : own_Ar Z h0 ba .int [(.int (0 : Int32)), (.int (0 : Int32)), (.int (0 : Int32)), (.int (0 : Int32)), (.int (0 : Int32)), (.int (0 : Int32))]) (F0 : Jvm.LamKit.FnAt h0 fa cK) (g0 : n0 ≤ ba) :
    MetFree l (⟨"java/util/Arrays", "setAll", "([ILjava/util/function/IntUnaryOperator;)V"⟩ : MethodName) (head1 (Jvm.Cond.code (⟨"java/util/Arrays", "setAll", "([ILjava/util/function/IntUnaryOperator;)V"⟩ : MethodName) jdk_65_method_175_code 3 none :: ws) ({ frames := 2, cells := 0, slots := 0, locals := 27 } : Room)) (fun a U => a = #[(.ref ba), (.ref fa)] ∧ Z.Warmed39 U.vm ∧ U.heap = h0 ∧ (fun U => Jvm.LamKit.Made U "com/example/kinds_by_value/kindsbyvalue/NameSet" own_sg cK) U) (fun _ _ _ _ _ => True) (fun _ U o U' => ∃ v L, o = .returned v ∧ QS6 Z ba fa cK h0 n0 v U'.heap L ∧ FrameEnd U o U' L ({ frames := 2, cells := 0, slots := 0, locals := 27 } : Room).cells ({ frames := 2, cells := 0, slots := 0, locals := 27 } : Room).slots) := by
  refine MetFree.of_bodySF (plainFor_of_name pn_1) hisR ?_
  intro p e s m args below meth c s₁ Bd hml0 hP hK
  obtain ⟨rfl, hZ, hh, hEx⟩ := hP
  have hx := Bd.exec
  have hby := Bd.bytes
  have hlk : meth.locks = false := BodyLoose.notSynchronized Bd
  have hret := Bd.returns
  have hml : c.maxLocals = 3 := hml0
  have hown : s.vm.findClass "java/util/Arrays" = some m.cls := findClass_of_methodNamed Bd.named
  have hnm := (name_of_methodNamed Bd.named Bd.method).1
  have X0 : Stand p l e ({ frames := 2, cells := 0, slots := 0, locals := 27 } : Room) s m #[(.ref ba), (.ref fa)] below meth c s₁ [] 0 0 := Stand.of_body Bd
  have e0 : s₁.heap = h0 := by rw [← hh, Bd.state]; rfl
  have N0 := Fr.nil n0
  show own_Ends p e below s 0 0 (QS6 Z ba fa cK h0 n0) (s₁.setTop (entryFrame m #[(.ref ba), (.ref fa)] 3))
  refine own_step (fun t k => castTop (ef_rmS6 m ba fa) k) ?_
  show own_Ends p e below s _ _ _ (s₁.setTop (mkF m 0 #[.val (.ref ba), .val (.ref fa), .unset] []))
  refine own_step (fun _ kc_ => XS.aloadN X0.here hx rfl (hb hby d10_0) rfl rfl kc_) ?_
  show own_Ends p e below s _ _ _ (s₁.setTop (mkF m 1 #[.val (.ref ba), .val (.ref fa), .unset] [(.ref fa)]))
  obtain ⟨_, _, ⟨T149, L149, k149, n149⟩, -, X149, ⟨Lc149, hQ149, l149, y149, z149⟩, st149⟩ := Jvm.LawKit.callS X0 hx (y := (⟨"java/util/Objects", "requireNonNull", "(Ljava/lang/Object;)Ljava/lang/Object;"⟩ : MethodName)) hown (mvT hZ (hw _ (List.mem_of_getElem? (i := 66) rfl))) (mvT hZ (hw _ (List.mem_of_getElem? (i := 67) rfl))) (mvT hZ (hw _ (List.mem_of_getElem? (i := 68) rfl))) (mvT hZ (hw _ (List.mem_of_getElem? (i := 69) rfl))) (by decide) (backOf (W := 0) (rm11 l Z a0 hw [] fa  h0 n0 Z0 ) hZ (hw _ (List.mem_of_getElem? (i := 69) rfl)) (hw _ (List.mem_of_getElem? (i := 68) rfl)) (by decide) (by decide)) (g := (mkF m 1 #[.val (.ref ba), .val (.ref fa), .unset] [(.ref fa)])) rfl (by rw [hml]; rfl) (argsL := [(.ref fa)]) (rest := []) (lenOf pd_5 rfl) rfl (by show 2 * 0 + _ ≤ _; exact Nat.le_of_eq rfl) (hb hby d10_1) (fun _ _ => ⟨rfl, e0, (by decide : 0 + 0 ≤ _), (by decide : 0 + 0 ≤ _)⟩)
  dsimp only [Pt.U, Pt.locs, Pt.cells, Pt.slots] at X149 l149 y149 z149 st149 hQ149
  subst y149 z149
  obtain ⟨rfl, N149q, e149⟩ := hQ149
  have e149h : T149.heap = h0 := e149
  have N149 : Fr n0 L149 := by rw [l149]; exact Fr.app N0 N149q
  refine own_step (fun _ kc_ => st149 _ kc_) ?_
  show own_Ends p e below s _ _ _ (T149.setTop (mkF m 4 #[.val (.ref ba), .val (.ref fa), .unset] [(.ref fa)]))
  refine own_step (fun _ kc_ => XS.pop X149.here hx rfl (hb hby d10_4) rfl rfl (XS.iconst X149.here hx rfl (hb hby d10_5) (XS.istoreN X149.here hx rfl (hb hby d10_6) rfl (l' := #[.val (.ref ba), .val (.ref fa), .val (.int (0 : Int32))]) rfl (XS.iloadN X149.here hx rfl (hb hby d10_7) rfl (XS.aloadN X149.here hx rfl (hb hby d10_8) rfl rfl (own_alen X149 hx hZ e149h A0 (n := 6) (z := (6 : Int32)) rfl rfl (hb hby d10_9) _ (XS.icmpNo X149.here hx rfl (hb hby d10_10) rfl (XT.ii_ge_f (by decide : (0 : Int32) < (6 : Int32))) (XS.aloadN X149.here hx rfl (hb hby d10_13) rfl rfl kc_)))))))) ?_
  show own_Ends p e below s _ _ _ (T149.setTop (mkF m 14 #[.val (.ref ba), .val (.ref fa), .val (.int (0 : Int32))] [(.ref ba)]))
  refine own_step (fun _ kc_ => XS.iloadN X149.here hx rfl (hb hby d10_14) rfl (XS.aloadN X149.here hx rfl (hb hby d10_15) rfl rfl (XS.iloadN X149.here hx rfl (hb hby d10_16) rfl kc_))) ?_
  show own_Ends p e below s _ _ _ (T149.setTop (mkF m 17 #[.val (.ref ba), .val (.ref fa), .val (.int (0 : Int32))] [(.int (0 : Int32)), (.ref fa), (.int (0 : Int32)), (.ref ba)]))
  have F150n : Jvm.LamKit.FnAt T149.heap fa cK := by rw [e149h]; exact F0
  obtain ⟨v150, st150, t150, T150, L150, X150, hL150, eh150, -, ⟨hv150, hh150⟩, sp150⟩ := Jvm.LamKit.callLamS X149 hx (own_lamMet l Z a0 hw (0 : Int32) h0 n0 Z0) (fun _ _ _ _ q => q) rfl rfl (fun w hwm a' U hU => by cases List.mem_singleton.mp hwm; exact mv (wtrans hZ hU) (hw _ (List.mem_of_getElem? (i := 83) rfl))) (List.mem_singleton.mpr rfl) hown (mvT hZ (hw _ (List.mem_of_getElem? (i := 79) rfl))) (mvT hZ (hw _ (List.mem_of_getElem? (i := 80) rfl))) (mvT hZ (hw _ (List.mem_of_getElem? (i := 81) rfl))) (mvT hZ (hw _ (List.mem_of_getElem? (i := 83) rfl))) (mvT hZ (hw _ (List.mem_of_getElem? (i := 82) rfl))) (mvT hZ (hw _ (List.mem_of_getElem? (i := 2) rfl))) (xi := (⟨"java/util/function/IntUnaryOperator", "applyAsInt", "(I)I"⟩ : MethodName)) ⟨rfl, rfl, by decide⟩ ⟨rfl, rfl, by decide⟩ (by decide) hEx F150n own_fok own_fc1 own_fc4 (g := (mkF m 17 #[.val (.ref ba), .val (.ref fa), .val (.int (0 : Int32))] [(.int (0 : Int32)), (.ref fa), (.int (0 : Int32)), (.ref ba)])) rfl (by rw [hml]; rfl) (argsL := [(.int (0 : Int32))]) (argsT := [(.int (0 : Int32))]) (rest := [(.int (0 : Int32)), (.ref ba)]) (L0 := #[.val (.ref fa), .val (.int (0 : Int32))]) (lenOf pd_3 rfl) (lenOf pd_3 rfl) rfl (hb hby d10_17) (fun _ => by first | rfl | (simp [entryFrame, argsToLocals, Value.category]; done)) rfl (fun U ck bl target hAt hck _ _ kk => XS.iloadN hAt hx rfl (hb hck own_fc0) rfl kk) (fun _ v _ q => Or.inl ⟨.int, (0 : Int32), rfl, Or.inl rfl, rfl, rfl, by cases q.1; rfl⟩) (by decide) (Nat.le_of_ble_eq_true rfl) (by decide : 0 + 0 ≤ _) (by decide : 0 + 0 ≤ _) (fun U hU hh => ⟨rfl, wtrans hZ hU, hh.trans e149h⟩)
  cases hv150
  have e150 : T150.heap = h0 := eh150.trans hh150
  have N150 := Fr.app N149 hL150
  refine own_step (fun _ kc_ => sp150 _ kc_) ?_
  show own_Ends p e below s _ _ _ (T150.setTop (mkF m 22 #[.val (.ref ba), .val (.ref fa), .val (.int (0 : Int32))] [(.int (0 : Int32)), (.int (0 : Int32)), (.ref ba)]))
  obtain ⟨T151, h151, X151, e151, W151, A151, st151⟩ := own_iastore X150 hx hZ e150 A0 (j := (0 : Int32)) (x := (0 : Int32)) (by decide) (i := 0) rfl (Nat.le_of_ble_eq_true rfl) (Ls := #[.val (.ref ba), .val (.ref fa), .val (.int (0 : Int32))]) (st := []) (hb hby d10_22)
  have A_ba_151 : own_Ar Z h151 ba .int [(.int (0 : Int32)), (.int (0 : Int32)), (.int (0 : Int32)), (.int (0 : Int32)), (.int (0 : Int32)), (.int (0 : Int32))] := A151
  have K151 := ((Keep.refl h0 [ba])).wr W151 (Or.inl (List.mem_of_getElem? (i := 0) rfl))
  have Zs151 := Nat.le_trans Z0 (Nat.le_of_eq W151.size.symm)
  have N151 := Fr.snoc X151 N150 g0
  refine own_step (fun _ kc_ => st151 _ kc_) ?_
  show own_Ends p e below s _ _ _ (T151.setTop (mkF m 23 #[.val (.ref ba), .val (.ref fa), .val (.int (0 : Int32))] []))
  have Fn151 := own_fn_wr F0 W151
  refine own_step (fun _ kc_ => XS.iinc X151.here hx rfl (hb hby d10_23) rfl (l' := #[.val (.ref ba), .val (.ref fa), .val (.int ((0 : Int32) + (1 : Int32)))]) rfl kc_) ?_
  show own_Ends p e below s _ _ _ (T151.setTop (mkF m 26 #[.val (.ref ba), .val (.ref fa), .val (.int ((0 : Int32) + (1 : Int32)))] []))
  rw [show ((0 : Int32) + (1 : Int32)) = (1 : Int32) from by decide]
  show own_Ends p e below s _ _ _ (T151.setTop (mkF m 26 #[.val (.ref ba), .val (.ref fa), .val (.int (1 : Int32))] []))
  refine own_step (fun _ kc_ => XS.goto X151.here hx rfl (pc0 := 26) (pc' := 7) rfl (hb hby d10_26) (by decide) (by decide) (XS.iloadN X151.here hx rfl (hb hby d10_7) rfl (XS.aloadN X151.here hx rfl (hb hby d10_8) rfl rfl (own_alen X151 hx hZ e151 A_ba_151 (n := 6) (z := (6 : Int32)) rfl rfl (hb hby d10_9) _ (XS.icmpNo X151.here hx rfl (hb hby d10_10) rfl (XT.ii_ge_f (by decide : (1 : Int32) < (6 : Int32))) (XS.aloadN X151.here hx rfl (hb hby d10_13) rfl rfl (XS.iloadN X151.here hx rfl (hb hby d10_14) rfl (XS.aloadN X151.here hx rfl (hb hby d10_15) rfl rfl kc_)))))))) ?_
  show own_Ends p e below s _ _ _ (T151.setTop (mkF m 16 #[.val (.ref ba), .val (.ref fa), .val (.int (1 : Int32))] [(.ref fa), (.int (1 : Int32)), (.ref ba)]))
  refine own_step (fun _ kc_ => XS.iloadN X151.here hx rfl (hb hby d10_16) rfl kc_) ?_
  show own_Ends p e below s _ _ _ (T151.setTop (mkF m 17 #[.val (.ref ba), .val (.ref fa), .val (.int (1 : Int32))] [(.int (1 : Int32)), (.ref fa), (.int (1 : Int32)), (.ref ba)]))
  have F152n : Jvm.LamKit.FnAt T151.heap fa cK := by rw [e151]; exact Fn151
  obtain ⟨v152, st152, t152, T152, L152, X152, hL152, eh152, -, ⟨hv152, hh152⟩, sp152⟩ := Jvm.LamKit.callLamS X151 hx (own_lamMet l Z a0 hw (1 : Int32) h151 n0 Zs151) (fun _ _ _ _ q => q) rfl rfl (fun w hwm a' U hU => by cases List.mem_singleton.mp hwm; exact mv (wtrans hZ hU) (hw _ (List.mem_of_getElem? (i := 83) rfl))) (List.mem_singleton.mpr rfl) hown (mvT hZ (hw _ (List.mem_of_getElem? (i := 79) rfl))) (mvT hZ (hw _ (List.mem_of_getElem? (i := 80) rfl))) (mvT hZ (hw _ (List.mem_of_getElem? (i := 81) rfl))) (mvT hZ (hw _ (List.mem_of_getElem? (i := 83) rfl))) (mvT hZ (hw _ (List.mem_of_getElem? (i := 82) rfl))) (mvT hZ (hw _ (List.mem_of_getElem? (i := 2) rfl))) (xi := (⟨"java/util/function/IntUnaryOperator", "applyAsInt", "(I)I"⟩ : MethodName)) ⟨rfl, rfl, by decide⟩ ⟨rfl, rfl, by decide⟩ (by decide) hEx F152n own_fok own_fc1 own_fc4 (g := (mkF m 17 #[.val (.ref ba), .val (.ref fa), .val (.int (1 : Int32))] [(.int (1 : Int32)), (.ref fa), (.int (1 : Int32)), (.ref ba)])) rfl (by rw [hml]; rfl) (argsL := [(.int (1 : Int32))]) (argsT := [(.int (1 : Int32))]) (rest := [(.int (1 : Int32)), (.ref ba)]) (L0 := #[.val (.ref fa), .val (.int (1 : Int32))]) (lenOf pd_3 rfl) (lenOf pd_3 rfl) rfl (hb hby d10_17) (fun _ => by first | rfl | (simp [entryFrame, argsToLocals, Value.category]; done)) rfl (fun U ck bl target hAt hck _ _ kk => XS.iloadN hAt hx rfl (hb hck own_fc0) rfl kk) (fun _ v _ q => Or.inl ⟨.int, (1 : Int32), rfl, Or.inl rfl, rfl, rfl, by cases q.1; rfl⟩) (by decide) (Nat.le_of_ble_eq_true rfl) (by decide : 0 + 0 ≤ _) (by decide : 0 + 0 ≤ _) (fun U hU hh => ⟨rfl, wtrans hZ hU, hh.trans e151⟩)
  cases hv152
  have e152 : T152.heap = h151 := eh152.trans hh152
  have N152 := Fr.app N151 hL152
  refine own_step (fun _ kc_ => sp152 _ kc_) ?_
  show own_Ends p e below s _ _ _ (T152.setTop (mkF m 22 #[.val (.ref ba), .val (.ref fa), .val (.int (1 : Int32))] [(.int (1 : Int32)), (.int (1 : Int32)), (.ref ba)]))
  obtain ⟨T153, h153, X153, e153, W153, A153, st153⟩ := own_iastore X152 hx hZ e152 A_ba_151 (j := (1 : Int32)) (x := (1 : Int32)) (by decide) (i := 1) rfl (Nat.le_of_ble_eq_true rfl) (Ls := #[.val (.ref ba), .val (.ref fa), .val (.int (1 : Int32))]) (st := []) (hb hby d10_22)
  have A_ba_153 : own_Ar Z h153 ba .int [(.int (0 : Int32)), (.int (1 : Int32)), (.int (0 : Int32)), (.int (0 : Int32)), (.int (0 : Int32)), (.int (0 : Int32))] := A153
  have K153 := (K151).wr W153 (Or.inl (List.mem_of_getElem? (i := 0) rfl))
  have Zs153 := Nat.le_trans Zs151 (Nat.le_of_eq W153.size.symm)
  have N153 := Fr.snoc X153 N152 g0
  refine own_step (fun _ kc_ => st153 _ kc_) ?_
  show own_Ends p e below s _ _ _ (T153.setTop (mkF m 23 #[.val (.ref ba), .val (.ref fa), .val (.int (1 : Int32))] []))
  have Fn153 := own_fn_wr Fn151 W153
  refine own_step (fun _ kc_ => XS.iinc X153.here hx rfl (hb hby d10_23) rfl (l' := #[.val (.ref ba), .val (.ref fa), .val (.int ((1 : Int32) + (1 : Int32)))]) rfl kc_) ?_
  show own_Ends p e below s _ _ _ (T153.setTop (mkF m 26 #[.val (.ref ba), .val (.ref fa), .val (.int ((1 : Int32) + (1 : Int32)))] []))
  rw [show ((1 : Int32) + (1 : Int32)) = (2 : Int32) from by decide]
  show own_Ends p e below s _ _ _ (T153.setTop (mkF m 26 #[.val (.ref ba), .val (.ref fa), .val (.int (2 : Int32))] []))
  refine own_step (fun _ kc_ => XS.goto X153.here hx rfl (pc0 := 26) (pc' := 7) rfl (hb hby d10_26) (by decide) (by decide) (XS.iloadN X153.here hx rfl (hb hby d10_7) rfl (XS.aloadN X153.here hx rfl (hb hby d10_8) rfl rfl (own_alen X153 hx hZ e153 A_ba_153 (n := 6) (z := (6 : Int32)) rfl rfl (hb hby d10_9) _ (XS.icmpNo X153.here hx rfl (hb hby d10_10) rfl (XT.ii_ge_f (by decide : (2 : Int32) < (6 : Int32))) (XS.aloadN X153.here hx rfl (hb hby d10_13) rfl rfl (XS.iloadN X153.here hx rfl (hb hby d10_14) rfl (XS.aloadN X153.here hx rfl (hb hby d10_15) rfl rfl kc_)))))))) ?_
  show own_Ends p e below s _ _ _ (T153.setTop (mkF m 16 #[.val (.ref ba), .val (.ref fa), .val (.int (2 : Int32))] [(.ref fa), (.int (2 : Int32)), (.ref ba)]))
  refine own_step (fun _ kc_ => XS.iloadN X153.here hx rfl (hb hby d10_16) rfl kc_) ?_
  show own_Ends p e below s _ _ _ (T153.setTop (mkF m 17 #[.val (.ref ba), .val (.ref fa), .val (.int (2 : Int32))] [(.int (2 : Int32)), (.ref fa), (.int (2 : Int32)), (.ref ba)]))
  have F154n : Jvm.LamKit.FnAt T153.heap fa cK := by rw [e153]; exact Fn153
  obtain ⟨v154, st154, t154, T154, L154, X154, hL154, eh154, -, ⟨hv154, hh154⟩, sp154⟩ := Jvm.LamKit.callLamS X153 hx (own_lamMet l Z a0 hw (2 : Int32) h153 n0 Zs153) (fun _ _ _ _ q => q) rfl rfl (fun w hwm a' U hU => by cases List.mem_singleton.mp hwm; exact mv (wtrans hZ hU) (hw _ (List.mem_of_getElem? (i := 83) rfl))) (List.mem_singleton.mpr rfl) hown (mvT hZ (hw _ (List.mem_of_getElem? (i := 79) rfl))) (mvT hZ (hw _ (List.mem_of_getElem? (i := 80) rfl))) (mvT hZ (hw _ (List.mem_of_getElem? (i := 81) rfl))) (mvT hZ (hw _ (List.mem_of_getElem? (i := 83) rfl))) (mvT hZ (hw _ (List.mem_of_getElem? (i := 82) rfl))) (mvT hZ (hw _ (List.mem_of_getElem? (i := 2) rfl))) (xi := (⟨"java/util/function/IntUnaryOperator", "applyAsInt", "(I)I"⟩ : MethodName)) ⟨rfl, rfl, by decide⟩ ⟨rfl, rfl, by decide⟩ (by decide) hEx F154n own_fok own_fc1 own_fc4 (g := (mkF m 17 #[.val (.ref ba), .val (.ref fa), .val (.int (2 : Int32))] [(.int (2 : Int32)), (.ref fa), (.int (2 : Int32)), (.ref ba)])) rfl (by rw [hml]; rfl) (argsL := [(.int (2 : Int32))]) (argsT := [(.int (2 : Int32))]) (rest := [(.int (2 : Int32)), (.ref ba)]) (L0 := #[.val (.ref fa), .val (.int (2 : Int32))]) (lenOf pd_3 rfl) (lenOf pd_3 rfl) rfl (hb hby d10_17) (fun _ => by first | rfl | (simp [entryFrame, argsToLocals, Value.category]; done)) rfl (fun U ck bl target hAt hck _ _ kk => XS.iloadN hAt hx rfl (hb hck own_fc0) rfl kk) (fun _ v _ q => Or.inl ⟨.int, (2 : Int32), rfl, Or.inl rfl, rfl, rfl, by cases q.1; rfl⟩) (by decide) (Nat.le_of_ble_eq_true rfl) (by decide : 0 + 0 ≤ _) (by decide : 0 + 0 ≤ _) (fun U hU hh => ⟨rfl, wtrans hZ hU, hh.trans e153⟩)
  cases hv154
  have e154 : T154.heap = h153 := eh154.trans hh154
  have N154 := Fr.app N153 hL154
  refine own_step (fun _ kc_ => sp154 _ kc_) ?_
  show own_Ends p e below s _ _ _ (T154.setTop (mkF m 22 #[.val (.ref ba), .val (.ref fa), .val (.int (2 : Int32))] [(.int (2 : Int32)), (.int (2 : Int32)), (.ref ba)]))
  obtain ⟨T155, h155, X155, e155, W155, A155, st155⟩ := own_iastore X154 hx hZ e154 A_ba_153 (j := (2 : Int32)) (x := (2 : Int32)) (by decide) (i := 2) rfl (Nat.le_of_ble_eq_true rfl) (Ls := #[.val (.ref ba), .val (.ref fa), .val (.int (2 : Int32))]) (st := []) (hb hby d10_22)
  have A_ba_155 : own_Ar Z h155 ba .int [(.int (0 : Int32)), (.int (1 : Int32)), (.int (2 : Int32)), (.int (0 : Int32)), (.int (0 : Int32)), (.int (0 : Int32))] := A155
  have K155 := (K153).wr W155 (Or.inl (List.mem_of_getElem? (i := 0) rfl))
  have Zs155 := Nat.le_trans Zs153 (Nat.le_of_eq W155.size.symm)
  have N155 := Fr.snoc X155 N154 g0
  refine own_step (fun _ kc_ => st155 _ kc_) ?_
  show own_Ends p e below s _ _ _ (T155.setTop (mkF m 23 #[.val (.ref ba), .val (.ref fa), .val (.int (2 : Int32))] []))
  have Fn155 := own_fn_wr Fn153 W155
  refine own_step (fun _ kc_ => XS.iinc X155.here hx rfl (hb hby d10_23) rfl (l' := #[.val (.ref ba), .val (.ref fa), .val (.int ((2 : Int32) + (1 : Int32)))]) rfl kc_) ?_
  show own_Ends p e below s _ _ _ (T155.setTop (mkF m 26 #[.val (.ref ba), .val (.ref fa), .val (.int ((2 : Int32) + (1 : Int32)))] []))
  rw [show ((2 : Int32) + (1 : Int32)) = (3 : Int32) from by decide]
  show own_Ends p e below s _ _ _ (T155.setTop (mkF m 26 #[.val (.ref ba), .val (.ref fa), .val (.int (3 : Int32))] []))
  refine own_step (fun _ kc_ => XS.goto X155.here hx rfl (pc0 := 26) (pc' := 7) rfl (hb hby d10_26) (by decide) (by decide) (XS.iloadN X155.here hx rfl (hb hby d10_7) rfl (XS.aloadN X155.here hx rfl (hb hby d10_8) rfl rfl (own_alen X155 hx hZ e155 A_ba_155 (n := 6) (z := (6 : Int32)) rfl rfl (hb hby d10_9) _ (XS.icmpNo X155.here hx rfl (hb hby d10_10) rfl (XT.ii_ge_f (by decide : (3 : Int32) < (6 : Int32))) (XS.aloadN X155.here hx rfl (hb hby d10_13) rfl rfl (XS.iloadN X155.here hx rfl (hb hby d10_14) rfl (XS.aloadN X155.here hx rfl (hb hby d10_15) rfl rfl kc_)))))))) ?_
  show own_Ends p e below s _ _ _ (T155.setTop (mkF m 16 #[.val (.ref ba), .val (.ref fa), .val (.int (3 : Int32))] [(.ref fa), (.int (3 : Int32)), (.ref ba)]))
  refine own_step (fun _ kc_ => XS.iloadN X155.here hx rfl (hb hby d10_16) rfl kc_) ?_
  show own_Ends p e below s _ _ _ (T155.setTop (mkF m 17 #[.val (.ref ba), .val (.ref fa), .val (.int (3 : Int32))] [(.int (3 : Int32)), (.ref fa), (.int (3 : Int32)), (.ref ba)]))
  have F156n : Jvm.LamKit.FnAt T155.heap fa cK := by rw [e155]; exact Fn155
  obtain ⟨v156, st156, t156, T156, L156, X156, hL156, eh156, -, ⟨hv156, hh156⟩, sp156⟩ := Jvm.LamKit.callLamS X155 hx (own_lamMet l Z a0 hw (3 : Int32) h155 n0 Zs155) (fun _ _ _ _ q => q) rfl rfl (fun w hwm a' U hU => by cases List.mem_singleton.mp hwm; exact mv (wtrans hZ hU) (hw _ (List.mem_of_getElem? (i := 83) rfl))) (List.mem_singleton.mpr rfl) hown (mvT hZ (hw _ (List.mem_of_getElem? (i := 79) rfl))) (mvT hZ (hw _ (List.mem_of_getElem? (i := 80) rfl))) (mvT hZ (hw _ (List.mem_of_getElem? (i := 81) rfl))) (mvT hZ (hw _ (List.mem_of_getElem? (i := 83) rfl))) (mvT hZ (hw _ (List.mem_of_getElem? (i := 82) rfl))) (mvT hZ (hw _ (List.mem_of_getElem? (i := 2) rfl))) (xi := (⟨"java/util/function/IntUnaryOperator", "applyAsInt", "(I)I"⟩ : MethodName)) ⟨rfl, rfl, by decide⟩ ⟨rfl, rfl, by decide⟩ (by decide) hEx F156n own_fok own_fc1 own_fc4 (g := (mkF m 17 #[.val (.ref ba), .val (.ref fa), .val (.int (3 : Int32))] [(.int (3 : Int32)), (.ref fa), (.int (3 : Int32)), (.ref ba)])) rfl (by rw [hml]; rfl) (argsL := [(.int (3 : Int32))]) (argsT := [(.int (3 : Int32))]) (rest := [(.int (3 : Int32)), (.ref ba)]) (L0 := #[.val (.ref fa), .val (.int (3 : Int32))]) (lenOf pd_3 rfl) (lenOf pd_3 rfl) rfl (hb hby d10_17) (fun _ => by first | rfl | (simp [entryFrame, argsToLocals, Value.category]; done)) rfl (fun U ck bl target hAt hck _ _ kk => XS.iloadN hAt hx rfl (hb hck own_fc0) rfl kk) (fun _ v _ q => Or.inl ⟨.int, (3 : Int32), rfl, Or.inl rfl, rfl, rfl, by cases q.1; rfl⟩) (by decide) (Nat.le_of_ble_eq_true rfl) (by decide : 0 + 0 ≤ _) (by decide : 0 + 0 ≤ _) (fun U hU hh => ⟨rfl, wtrans hZ hU, hh.trans e155⟩)
  cases hv156
  have e156 : T156.heap = h155 := eh156.trans hh156
  have N156 := Fr.app N155 hL156
  refine own_step (fun _ kc_ => sp156 _ kc_) ?_
  show own_Ends p e below s _ _ _ (T156.setTop (mkF m 22 #[.val (.ref ba), .val (.ref fa), .val (.int (3 : Int32))] [(.int (3 : Int32)), (.int (3 : Int32)), (.ref ba)]))
  obtain ⟨T157, h157, X157, e157, W157, A157, st157⟩ := own_iastore X156 hx hZ e156 A_ba_155 (j := (3 : Int32)) (x := (3 : Int32)) (by decide) (i := 3) rfl (Nat.le_of_ble_eq_true rfl) (Ls := #[.val (.ref ba), .val (.ref fa), .val (.int (3 : Int32))]) (st := []) (hb hby d10_22)
  have A_ba_157 : own_Ar Z h157 ba .int [(.int (0 : Int32)), (.int (1 : Int32)), (.int (2 : Int32)), (.int (3 : Int32)), (.int (0 : Int32)), (.int (0 : Int32))] := A157
  have K157 := (K155).wr W157 (Or.inl (List.mem_of_getElem? (i := 0) rfl))
  have Zs157 := Nat.le_trans Zs155 (Nat.le_of_eq W157.size.symm)
  have N157 := Fr.snoc X157 N156 g0
  refine own_step (fun _ kc_ => st157 _ kc_) ?_
  show own_Ends p e below s _ _ _ (T157.setTop (mkF m 23 #[.val (.ref ba), .val (.ref fa), .val (.int (3 : Int32))] []))
  have Fn157 := own_fn_wr Fn155 W157
  refine own_step (fun _ kc_ => XS.iinc X157.here hx rfl (hb hby d10_23) rfl (l' := #[.val (.ref ba), .val (.ref fa), .val (.int ((3 : Int32) + (1 : Int32)))]) rfl kc_) ?_
  show own_Ends p e below s _ _ _ (T157.setTop (mkF m 26 #[.val (.ref ba), .val (.ref fa), .val (.int ((3 : Int32) + (1 : Int32)))] []))
  rw [show ((3 : Int32) + (1 : Int32)) = (4 : Int32) from by decide]
  show own_Ends p e below s _ _ _ (T157.setTop (mkF m 26 #[.val (.ref ba), .val (.ref fa), .val (.int (4 : Int32))] []))
  refine own_step (fun _ kc_ => XS.goto X157.here hx rfl (pc0 := 26) (pc' := 7) rfl (hb hby d10_26) (by decide) (by decide) (XS.iloadN X157.here hx rfl (hb hby d10_7) rfl (XS.aloadN X157.here hx rfl (hb hby d10_8) rfl rfl (own_alen X157 hx hZ e157 A_ba_157 (n := 6) (z := (6 : Int32)) rfl rfl (hb hby d10_9) _ (XS.icmpNo X157.here hx rfl (hb hby d10_10) rfl (XT.ii_ge_f (by decide : (4 : Int32) < (6 : Int32))) (XS.aloadN X157.here hx rfl (hb hby d10_13) rfl rfl (XS.iloadN X157.here hx rfl (hb hby d10_14) rfl (XS.aloadN X157.here hx rfl (hb hby d10_15) rfl rfl kc_)))))))) ?_
  show own_Ends p e below s _ _ _ (T157.setTop (mkF m 16 #[.val (.ref ba), .val (.ref fa), .val (.int (4 : Int32))] [(.ref fa), (.int (4 : Int32)), (.ref ba)]))
  refine own_step (fun _ kc_ => XS.iloadN X157.here hx rfl (hb hby d10_16) rfl kc_) ?_
  show own_Ends p e below s _ _ _ (T157.setTop (mkF m 17 #[.val (.ref ba), .val (.ref fa), .val (.int (4 : Int32))] [(.int (4 : Int32)), (.ref fa), (.int (4 : Int32)), (.ref ba)]))
  have F158n : Jvm.LamKit.FnAt T157.heap fa cK := by rw [e157]; exact Fn157
  obtain ⟨v158, st158, t158, T158, L158, X158, hL158, eh158, -, ⟨hv158, hh158⟩, sp158⟩ := Jvm.LamKit.callLamS X157 hx (own_lamMet l Z a0 hw (4 : Int32) h157 n0 Zs157) (fun _ _ _ _ q => q) rfl rfl (fun w hwm a' U hU => by cases List.mem_singleton.mp hwm; exact mv (wtrans hZ hU) (hw _ (List.mem_of_getElem? (i := 83) rfl))) (List.mem_singleton.mpr rfl) hown (mvT hZ (hw _ (List.mem_of_getElem? (i := 79) rfl))) (mvT hZ (hw _ (List.mem_of_getElem? (i := 80) rfl))) (mvT hZ (hw _ (List.mem_of_getElem? (i := 81) rfl))) (mvT hZ (hw _ (List.mem_of_getElem? (i := 83) rfl))) (mvT hZ (hw _ (List.mem_of_getElem? (i := 82) rfl))) (mvT hZ (hw _ (List.mem_of_getElem? (i := 2) rfl))) (xi := (⟨"java/util/function/IntUnaryOperator", "applyAsInt", "(I)I"⟩ : MethodName)) ⟨rfl, rfl, by decide⟩ ⟨rfl, rfl, by decide⟩ (by decide) hEx F158n own_fok own_fc1 own_fc4 (g := (mkF m 17 #[.val (.ref ba), .val (.ref fa), .val (.int (4 : Int32))] [(.int (4 : Int32)), (.ref fa), (.int (4 : Int32)), (.ref ba)])) rfl (by rw [hml]; rfl) (argsL := [(.int (4 : Int32))]) (argsT := [(.int (4 : Int32))]) (rest := [(.int (4 : Int32)), (.ref ba)]) (L0 := #[.val (.ref fa), .val (.int (4 : Int32))]) (lenOf pd_3 rfl) (lenOf pd_3 rfl) rfl (hb hby d10_17) (fun _ => by first | rfl | (simp [entryFrame, argsToLocals, Value.category]; done)) rfl (fun U ck bl target hAt hck _ _ kk => XS.iloadN hAt hx rfl (hb hck own_fc0) rfl kk) (fun _ v _ q => Or.inl ⟨.int, (4 : Int32), rfl, Or.inl rfl, rfl, rfl, by cases q.1; rfl⟩) (by decide) (Nat.le_of_ble_eq_true rfl) (by decide : 0 + 0 ≤ _) (by decide : 0 + 0 ≤ _) (fun U hU hh => ⟨rfl, wtrans hZ hU, hh.trans e157⟩)
  cases hv158
  have e158 : T158.heap = h157 := eh158.trans hh158
  have N158 := Fr.app N157 hL158
  refine own_step (fun _ kc_ => sp158 _ kc_) ?_
  show own_Ends p e below s _ _ _ (T158.setTop (mkF m 22 #[.val (.ref ba), .val (.ref fa), .val (.int (4 : Int32))] [(.int (4 : Int32)), (.int (4 : Int32)), (.ref ba)]))
  obtain ⟨T159, h159, X159, e159, W159, A159, st159⟩ := own_iastore X158 hx hZ e158 A_ba_157 (j := (4 : Int32)) (x := (4 : Int32)) (by decide) (i := 4) rfl (Nat.le_of_ble_eq_true rfl) (Ls := #[.val (.ref ba), .val (.ref fa), .val (.int (4 : Int32))]) (st := []) (hb hby d10_22)
  have A_ba_159 : own_Ar Z h159 ba .int [(.int (0 : Int32)), (.int (1 : Int32)), (.int (2 : Int32)), (.int (3 : Int32)), (.int (4 : Int32)), (.int (0 : Int32))] := A159
  have K159 := (K157).wr W159 (Or.inl (List.mem_of_getElem? (i := 0) rfl))
  have Zs159 := Nat.le_trans Zs157 (Nat.le_of_eq W159.size.symm)
  have N159 := Fr.snoc X159 N158 g0
  refine own_step (fun _ kc_ => st159 _ kc_) ?_
  show own_Ends p e below s _ _ _ (T159.setTop (mkF m 23 #[.val (.ref ba), .val (.ref fa), .val (.int (4 : Int32))] []))
  have Fn159 := own_fn_wr Fn157 W159
  refine own_step (fun _ kc_ => XS.iinc X159.here hx rfl (hb hby d10_23) rfl (l' := #[.val (.ref ba), .val (.ref fa), .val (.int ((4 : Int32) + (1 : Int32)))]) rfl kc_) ?_
  show own_Ends p e below s _ _ _ (T159.setTop (mkF m 26 #[.val (.ref ba), .val (.ref fa), .val (.int ((4 : Int32) + (1 : Int32)))] []))
  rw [show ((4 : Int32) + (1 : Int32)) = (5 : Int32) from by decide]
  show own_Ends p e below s _ _ _ (T159.setTop (mkF m 26 #[.val (.ref ba), .val (.ref fa), .val (.int (5 : Int32))] []))
  refine own_step (fun _ kc_ => XS.goto X159.here hx rfl (pc0 := 26) (pc' := 7) rfl (hb hby d10_26) (by decide) (by decide) (XS.iloadN X159.here hx rfl (hb hby d10_7) rfl (XS.aloadN X159.here hx rfl (hb hby d10_8) rfl rfl (own_alen X159 hx hZ e159 A_ba_159 (n := 6) (z := (6 : Int32)) rfl rfl (hb hby d10_9) _ (XS.icmpNo X159.here hx rfl (hb hby d10_10) rfl (XT.ii_ge_f (by decide : (5 : Int32) < (6 : Int32))) (XS.aloadN X159.here hx rfl (hb hby d10_13) rfl rfl (XS.iloadN X159.here hx rfl (hb hby d10_14) rfl (XS.aloadN X159.here hx rfl (hb hby d10_15) rfl rfl kc_)))))))) ?_
  show own_Ends p e below s _ _ _ (T159.setTop (mkF m 16 #[.val (.ref ba), .val (.ref fa), .val (.int (5 : Int32))] [(.ref fa), (.int (5 : Int32)), (.ref ba)]))
  refine own_step (fun _ kc_ => XS.iloadN X159.here hx rfl (hb hby d10_16) rfl kc_) ?_
  show own_Ends p e below s _ _ _ (T159.setTop (mkF m 17 #[.val (.ref ba), .val (.ref fa), .val (.int (5 : Int32))] [(.int (5 : Int32)), (.ref fa), (.int (5 : Int32)), (.ref ba)]))
  have F160n : Jvm.LamKit.FnAt T159.heap fa cK := by rw [e159]; exact Fn159
  obtain ⟨v160, st160, t160, T160, L160, X160, hL160, eh160, -, ⟨hv160, hh160⟩, sp160⟩ := Jvm.LamKit.callLamS X159 hx (own_lamMet l Z a0 hw (5 : Int32) h159 n0 Zs159) (fun _ _ _ _ q => q) rfl rfl (fun w hwm a' U hU => by cases List.mem_singleton.mp hwm; exact mv (wtrans hZ hU) (hw _ (List.mem_of_getElem? (i := 83) rfl))) (List.mem_singleton.mpr rfl) hown (mvT hZ (hw _ (List.mem_of_getElem? (i := 79) rfl))) (mvT hZ (hw _ (List.mem_of_getElem? (i := 80) rfl))) (mvT hZ (hw _ (List.mem_of_getElem? (i := 81) rfl))) (mvT hZ (hw _ (List.mem_of_getElem? (i := 83) rfl))) (mvT hZ (hw _ (List.mem_of_getElem? (i := 82) rfl))) (mvT hZ (hw _ (List.mem_of_getElem? (i := 2) rfl))) (xi := (⟨"java/util/function/IntUnaryOperator", "applyAsInt", "(I)I"⟩ : MethodName)) ⟨rfl, rfl, by decide⟩ ⟨rfl, rfl, by decide⟩ (by decide) hEx F160n own_fok own_fc1 own_fc4 (g := (mkF m 17 #[.val (.ref ba), .val (.ref fa), .val (.int (5 : Int32))] [(.int (5 : Int32)), (.ref fa), (.int (5 : Int32)), (.ref ba)])) rfl (by rw [hml]; rfl) (argsL := [(.int (5 : Int32))]) (argsT := [(.int (5 : Int32))]) (rest := [(.int (5 : Int32)), (.ref ba)]) (L0 := #[.val (.ref fa), .val (.int (5 : Int32))]) (lenOf pd_3 rfl) (lenOf pd_3 rfl) rfl (hb hby d10_17) (fun _ => by first | rfl | (simp [entryFrame, argsToLocals, Value.category]; done)) rfl (fun U ck bl target hAt hck _ _ kk => XS.iloadN hAt hx rfl (hb hck own_fc0) rfl kk) (fun _ v _ q => Or.inl ⟨.int, (5 : Int32), rfl, Or.inl rfl, rfl, rfl, by cases q.1; rfl⟩) (by decide) (Nat.le_of_ble_eq_true rfl) (by decide : 0 + 0 ≤ _) (by decide : 0 + 0 ≤ _) (fun U hU hh => ⟨rfl, wtrans hZ hU, hh.trans e159⟩)
  cases hv160
  have e160 : T160.heap = h159 := eh160.trans hh160
  have N160 := Fr.app N159 hL160
  refine own_step (fun _ kc_ => sp160 _ kc_) ?_
  show own_Ends p e below s _ _ _ (T160.setTop (mkF m 22 #[.val (.ref ba), .val (.ref fa), .val (.int (5 : Int32))] [(.int (5 : Int32)), (.int (5 : Int32)), (.ref ba)]))
  obtain ⟨T161, h161, X161, e161, W161, A161, st161⟩ := own_iastore X160 hx hZ e160 A_ba_159 (j := (5 : Int32)) (x := (5 : Int32)) (by decide) (i := 5) rfl (Nat.le_of_ble_eq_true rfl) (Ls := #[.val (.ref ba), .val (.ref fa), .val (.int (5 : Int32))]) (st := []) (hb hby d10_22)
  have A_ba_161 : own_Ar Z h161 ba .int [(.int (0 : Int32)), (.int (1 : Int32)), (.int (2 : Int32)), (.int (3 : Int32)), (.int (4 : Int32)), (.int (5 : Int32))] := A161
  have K161 := (K159).wr W161 (Or.inl (List.mem_of_getElem? (i := 0) rfl))
  have Zs161 := Nat.le_trans Zs159 (Nat.le_of_eq W161.size.symm)
  have N161 := Fr.snoc X161 N160 g0
  refine own_step (fun _ kc_ => st161 _ kc_) ?_
  show own_Ends p e below s _ _ _ (T161.setTop (mkF m 23 #[.val (.ref ba), .val (.ref fa), .val (.int (5 : Int32))] []))
  have Fn161 := own_fn_wr Fn159 W161
  refine own_step (fun _ kc_ => XS.iinc X161.here hx rfl (hb hby d10_23) rfl (l' := #[.val (.ref ba), .val (.ref fa), .val (.int ((5 : Int32) + (1 : Int32)))]) rfl kc_) ?_
  show own_Ends p e below s _ _ _ (T161.setTop (mkF m 26 #[.val (.ref ba), .val (.ref fa), .val (.int ((5 : Int32) + (1 : Int32)))] []))
  rw [show ((5 : Int32) + (1 : Int32)) = (6 : Int32) from by decide]
  show own_Ends p e below s _ _ _ (T161.setTop (mkF m 26 #[.val (.ref ba), .val (.ref fa), .val (.int (6 : Int32))] []))
  refine own_step (fun _ kc_ => XS.goto X161.here hx rfl (pc0 := 26) (pc' := 7) rfl (hb hby d10_26) (by decide) (by decide) (XS.iloadN X161.here hx rfl (hb hby d10_7) rfl (XS.aloadN X161.here hx rfl (hb hby d10_8) rfl rfl (own_alen X161 hx hZ e161 A_ba_161 (n := 6) (z := (6 : Int32)) rfl rfl (hb hby d10_9) _ (XS.icmpYes X161.here hx rfl (pc0 := 10) (pc' := 29) rfl (hb hby d10_10) rfl (XT.ii_ge_t (by decide : ¬ ((6 : Int32) < (6 : Int32)))) (by decide) (by decide) kc_))))) ?_
  show own_Ends p e below s _ _ _ (T161.setTop (mkF m 29 #[.val (.ref ba), .val (.ref fa), .val (.int (6 : Int32))] []))
  exact own_retV X161 hx hret hlk (hb hby d10_29) (by decide) (by decide) (by rw [e161]; exact ⟨rfl, N161, K161, A_ba_161⟩)
theorem ef_rmB6 (m : MethodId) (oo : Addr) : entryFrame m #[(.ref oo), (.int (6 : Int32))] 9 = mkF m 0 #[.val (.ref oo), .val (.int (6 : Int32)), .unset, .unset, .unset, .unset, .unset, .unset, .unset] [] := by first | (simp [entryFrame, mkF, argsToLocals, Value.category]; done) | rfl
def QB6 (Z : State) (oo : Addr)  (h0 : Heap) (n0 : Nat) (v : Option Value) (h : Heap) (L : List Loc) : Prop := Fr n0 L ∧ Keep h0 h [] ∧ ∃ ba, v = some (.ref ba) ∧ own_Ar Z h ba .int [(.int (0 : Int32)), (.int (1 : Int32)), (.int (2 : Int32)), (.int (3 : Int32)), (.int (4 : Int32)), (.int (5 : Int32))]
set_option maxRecDepth 65536 in
set_option maxHeartbeats 40000000 in
theorem rmB6 (l : Launch) (Z : State) (a0 : Array Value) (hw : ∀ d ∈ tables_1, d.before a0 Z = true) (ws : List Jvm.Cond) (oo : Addr)  (h0 : Heap) (n0 : Nat) (Z0 : n0 ≤ h0.size) (f0 : Fld Z h0 oo "com/example/kinds_by_value/kindsbyvalue/NameSet" "everyName" "Z" (.int (1 : Int32))) :
    MetFree l (⟨"com/example/kinds_by_value/kindsbyvalue/NameSet", "below", "(I)[I"⟩ : MethodName) (head1 (Jvm.Cond.code (⟨"com/example/kinds_by_value/kindsbyvalue/NameSet", "below", "(I)[I"⟩ : MethodName) prog_9_method_6_code 9 (some (.array .int)) :: ws) ({ frames := 3, cells := 1, slots := 6, locals := 3100 } : Room)) (fun a U => a = #[(.ref oo), (.int (6 : Int32))] ∧ Z.Warmed39 U.vm ∧ U.heap = h0 ∧ own_Site U) (fun _ _ _ _ _ => True) (fun _ U o U' => ∃ v L, o = .returned v ∧ QB6 Z oo  h0 n0 v U'.heap L ∧ FrameEnd U o U' L ({ frames := 3, cells := 1, slots := 6, locals := 3100 } : Room).cells ({ frames := 3, cells := 1, slots := 6, locals := 3100 } : Room).slots) := by
  refine MetFree.of_bodySF (plainFor_of_name pn_2) hisR ?_
  intro p e s m args below meth c s₁ Bd hml0 hP hK
  obtain ⟨rfl, hZ, hh, hEx⟩ := hP
  have hx := Bd.exec
  have hby := Bd.bytes
  have hlk : meth.locks = false := BodyLoose.notSynchronized Bd
  have hret := Bd.returns
  have hml : c.maxLocals = 9 := hml0
  have hown : s.vm.findClass "com/example/kinds_by_value/kindsbyvalue/NameSet" = some m.cls := findClass_of_methodNamed Bd.named
  have hnm := (name_of_methodNamed Bd.named Bd.method).1
  have X0 : Stand p l e ({ frames := 3, cells := 1, slots := 6, locals := 3100 } : Room) s m #[(.ref oo), (.int (6 : Int32))] below meth c s₁ [] 0 0 := Stand.of_body Bd
  have e0 : s₁.heap = h0 := by rw [← hh, Bd.state]; rfl
  have N0 := Fr.nil n0
  show own_Ends p e below s 1 6 (QB6 Z oo  h0 n0) (s₁.setTop (entryFrame m #[(.ref oo), (.int (6 : Int32))] 9))
  refine own_step (fun t k => castTop (ef_rmB6 m oo) k) ?_
  show own_Ends p e below s _ _ _ (s₁.setTop (mkF m 0 #[.val (.ref oo), .val (.int (6 : Int32)), .unset, .unset, .unset, .unset, .unset, .unset, .unset] []))
  refine own_step (fun _ kc_ => XS.aloadN X0.here hx rfl (hb hby d9_0) rfl rfl kc_) ?_
  show own_Ends p e below s _ _ _ (s₁.setTop (mkF m 1 #[.val (.ref oo), .val (.int (6 : Int32)), .unset, .unset, .unset, .unset, .unset, .unset, .unset] [(.ref oo)]))
  obtain ⟨T162, X162, e162, st162⟩ := getF X0 hx hZ hown (host := "") (Or.inl (hw _ (List.mem_of_getElem? (i := 17) rfl))) Via.refl e0 f0 (g := (mkF m 1 #[.val (.ref oo), .val (.int (6 : Int32)), .unset, .unset, .unset, .unset, .unset, .unset, .unset] [(.ref oo)])) rfl rfl (hb hby d9_1)
  refine own_step (fun _ kc_ => st162 _ kc_) ?_
  show own_Ends p e below s _ _ _ (T162.setTop (mkF m 4 #[.val (.ref oo), .val (.int (6 : Int32)), .unset, .unset, .unset, .unset, .unset, .unset, .unset] [(.int (1 : Int32))]))
  refine own_step (fun _ kc_ => XS.ifNo X162.here hx rfl (hb hby d9_4) rfl (XT.i0_eq_f (by decide : ¬ ((1 : Int32) = 0))) (XS.iloadN X162.here hx rfl (hb hby d9_7) rfl kc_)) ?_
  show own_Ends p e below s _ _ _ (T162.setTop (mkF m 8 #[.val (.ref oo), .val (.int (6 : Int32)), .unset, .unset, .unset, .unset, .unset, .unset, .unset] [(.int (6 : Int32))]))
  obtain ⟨T163, h163, k163, X163, e163, E163, A163, st163⟩ := newP X162 hx hZ (hw _ (List.mem_of_getElem? (i := 59) rfl)) e162 (g := (mkF m 8 #[.val (.ref oo), .val (.int (6 : Int32)), .unset, .unset, .unset, .unset, .unset, .unset, .unset] [(.int (6 : Int32))])) rfl (hb hby d9_8) rfl (by decide) (cap := 6) (by decide) (by decide) (by decide : 0 + 1 ≤ _) (by decide : 0 + 6 ≤ _)
  obtain ⟨b163, g163⟩ : ∃ z, z = h0.size := ⟨_, rfl⟩
  rw [← g163] at A163 st163
  have ne_oo_b163 : oo ≠ b163 := Nat.ne_of_lt (Nat.lt_of_lt_of_le (f0).lt (Nat.le_of_eq g163.symm))
  have n0_b163 : n0 ≤ b163 := Nat.le_trans Z0 (Nat.le_of_eq g163.symm)
  have h0_b163 : h0.size ≤ b163 := Nat.le_trans ((Keep.refl h0 [])).1 (Nat.le_of_eq g163.symm)
  have F_oo_everyName_163 := (f0).ext E163
  have K163 := ((Keep.refl h0 [])).ext E163
  have Zs163 := Nat.le_trans Z0 E163.1
  have A_b163 : own_Ar Z h163 b163 .int [(.int (0 : Int32)), (.int (0 : Int32)), (.int (0 : Int32)), (.int (0 : Int32)), (.int (0 : Int32)), (.int (0 : Int32))] := own_Ar.new A163 (by decide)
  refine own_step (fun _ kc_ => st163 _ kc_) ?_
  show own_Ends p e below s _ _ _ (T163.setTop (mkF m 10 #[.val (.ref oo), .val (.int (6 : Int32)), .unset, .unset, .unset, .unset, .unset, .unset, .unset] [(.ref b163)]))
  refine own_step (fun _ kc_ => XS.astoreN X163.here hx rfl (hb hby d9_10) rfl rfl (l' := #[.val (.ref oo), .val (.int (6 : Int32)), .val (.ref b163), .unset, .unset, .unset, .unset, .unset, .unset]) rfl (XS.aloadN X163.here hx rfl (hb hby d9_11) rfl rfl kc_)) ?_
  show own_Ends p e below s _ _ _ (T163.setTop (mkF m 12 #[.val (.ref oo), .val (.int (6 : Int32)), .val (.ref b163), .unset, .unset, .unset, .unset, .unset, .unset] [(.ref b163)]))
  have hst : (Cond.lambdaSite own_bel 12 53 own_sg).before #[(.ref oo), (.int (6 : Int32))] s = true := own_siteC hEx
  obtain ⟨fa, cK, hMade, hFn, sp164⟩ := Jvm.LamKit.siteConst X163 hx (x := own_bel) Bd.named hst rfl (g := (mkF m 12 #[.val (.ref oo), .val (.int (6 : Int32)), .val (.ref b163), .unset, .unset, .unset, .unset, .unset, .unset] [(.ref b163)])) rfl rfl (by rw [hml]; rfl) (hb hby d9_12) (Nat.le_of_ble_eq_true rfl)
  have hFn2 : Jvm.LamKit.FnAt h163 fa cK := by rw [← e163]; exact hFn
  refine own_step (fun _ kc_ => sp164 _ kc_) ?_
  show own_Ends p e below s _ _ _ (T163.setTop (mkF m 17 #[.val (.ref oo), .val (.int (6 : Int32)), .val (.ref b163), .unset, .unset, .unset, .unset, .unset, .unset] [(.ref fa), (.ref b163)]))
  obtain ⟨_, _, ⟨T165, L165, k165, n165⟩, -, X165, ⟨Lc165, hQ165, l165, y165, z165⟩, st165⟩ := Jvm.LawKit.callS X163 hx (y := (⟨"java/util/Arrays", "setAll", "([ILjava/util/function/IntUnaryOperator;)V"⟩ : MethodName)) hown (mvT hZ (hw _ (List.mem_of_getElem? (i := 62) rfl))) (mvT hZ (hw _ (List.mem_of_getElem? (i := 63) rfl))) (mvT hZ (hw _ (List.mem_of_getElem? (i := 64) rfl))) (mvT hZ (hw _ (List.mem_of_getElem? (i := 65) rfl))) (by decide) (own_backX (W := 0) (rmS6 l Z a0 hw [] b163 fa cK h163 n0 Zs163 A_b163 hFn2 n0_b163) hZ (hw _ (List.mem_of_getElem? (i := 65) rfl)) (hw _ (List.mem_of_getElem? (i := 64) rfl)) (by decide) (by decide) (fun _ _ _ _ _ _ _ Y => own_made_at hMade Y)) (g := (mkF m 17 #[.val (.ref oo), .val (.int (6 : Int32)), .val (.ref b163), .unset, .unset, .unset, .unset, .unset, .unset] [(.ref fa), (.ref b163)])) rfl (by rw [hml]; rfl) (argsL := [(.ref b163), (.ref fa)]) (rest := []) (lenOf pd_6 rfl) rfl (by show 2 * 0 + _ ≤ _; exact Nat.le_of_eq rfl) (hb hby d9_17) (fun _ _ => ⟨rfl, e163, (by decide : 1 + 0 ≤ _), (by decide : 6 + 0 ≤ _)⟩)
  dsimp only [Pt.U, Pt.locs, Pt.cells, Pt.slots] at X165 l165 y165 z165 st165 hQ165
  subst y165 z165
  obtain ⟨rfl, N165q, K165k, A165k⟩ := hQ165
  have F_oo_everyName_165 := (F_oo_everyName_163).keep K165k (ninS ne_oo_b163 nin0)
  have K165 := (K163).trans K165k (allS (Or.inr h0_b163) all0)
  have Zs165 := Nat.le_trans Zs163 K165k.1
  have N165 : Fr n0 L165 := by rw [l165]; exact Fr.app N0 N165q
  refine own_step (fun _ kc_ => st165 _ kc_) ?_
  show own_Ends p e below s _ _ _ (T165.setTop (mkF m 20 #[.val (.ref oo), .val (.int (6 : Int32)), .val (.ref b163), .unset, .unset, .unset, .unset, .unset, .unset] []))
  refine own_step (fun _ kc_ => XS.goto X165.here hx rfl (pc0 := 20) (pc' := 95) rfl (hb hby d9_20) (by decide) (by decide) (XS.aloadN X165.here hx rfl (hb hby d9_95) rfl rfl kc_)) ?_
  show own_Ends p e below s _ _ _ (T165.setTop (mkF m 96 #[.val (.ref oo), .val (.int (6 : Int32)), .val (.ref b163), .unset, .unset, .unset, .unset, .unset, .unset] [(.ref b163)]))
  exact own_retR X165 hx hret rfl rfl rfl hlk (hb hby d9_96) (by decide) (by decide) (by exact ⟨N165, K165, b163, rfl, A165k⟩)
theorem ef_rmS7 (m : MethodId) (ba : Addr) (fa : Addr) : entryFrame m #[(.ref ba), (.ref fa)] 3 = mkF m 0 #[.val (.ref ba), .val (.ref fa), .unset] [] := by first | (simp [entryFrame, mkF, argsToLocals, Value.category]; done) | rfl
def QS7 (Z : State) (ba : Addr) (fa : Addr) (cK : ClassId) (h0 : Heap) (n0 : Nat) (v : Option Value) (h : Heap) (L : List Loc) : Prop := v = none ∧ Fr n0 L ∧ Keep h0 h [ba] ∧ own_Ar Z h ba .int [(.int (0 : Int32)), (.int (1 : Int32)), (.int (2 : Int32)), (.int (3 : Int32)), (.int (4 : Int32)), (.int (5 : Int32)), (.int (6 : Int32))]
set_option maxRecDepth 65536 in
set_option maxHeartbeats 40000000 in
theorem rmS7 (l : Launch) (Z : State) (a0 : Array Value) (hw : ∀ d ∈ tables_1, d.before a0 Z = true) (ws : List Jvm.Cond) (ba : Addr) (fa : Addr) (cK : ClassId) (h0 : Heap) (n0 : Nat) (Z0 : n0 ≤ h0.size) (A0 : own_Ar Z h0 ba .int [(.int (0 : Int32)), (.int (0 : Int32)), (.int (0 : Int32)), (.int (0 : Int32)), (.int (0 : Int32)), (.int (0 : Int32)), (.int (0 : Int32))]) (F0 : Jvm.LamKit.FnAt h0 fa cK) (g0 : n0 ≤ ba) :
    MetFree l (⟨"java/util/Arrays", "setAll", "([ILjava/util/function/IntUnaryOperator;)V"⟩ : MethodName) (head1 (Jvm.Cond.code (⟨"java/util/Arrays", "setAll", "([ILjava/util/function/IntUnaryOperator;)V"⟩ : MethodName) jdk_65_method_175_code 3 none :: ws) ({ frames := 2, cells := 0, slots := 0, locals := 27 } : Room)) (fun a U => a = #[(.ref ba), (.ref fa)] ∧ Z.Warmed39 U.vm ∧ U.heap = h0 ∧ (fun U => Jvm.LamKit.Made U "com/example/kinds_by_value/kindsbyvalue/NameSet" own_sg cK) U) (fun _ _ _ _ _ => True) (fun _ U o U' => ∃ v L, o = .returned v ∧ QS7 Z ba fa cK h0 n0 v U'.heap L ∧ FrameEnd U o U' L ({ frames := 2, cells := 0, slots := 0, locals := 27 } : Room).cells ({ frames := 2, cells := 0, slots := 0, locals := 27 } : Room).slots) := by
  refine MetFree.of_bodySF (plainFor_of_name pn_1) hisR ?_
  intro p e s m args below meth c s₁ Bd hml0 hP hK
  obtain ⟨rfl, hZ, hh, hEx⟩ := hP
  have hx := Bd.exec
  have hby := Bd.bytes
  have hlk : meth.locks = false := BodyLoose.notSynchronized Bd
  have hret := Bd.returns
  have hml : c.maxLocals = 3 := hml0
  have hown : s.vm.findClass "java/util/Arrays" = some m.cls := findClass_of_methodNamed Bd.named
  have hnm := (name_of_methodNamed Bd.named Bd.method).1
  have X0 : Stand p l e ({ frames := 2, cells := 0, slots := 0, locals := 27 } : Room) s m #[(.ref ba), (.ref fa)] below meth c s₁ [] 0 0 := Stand.of_body Bd
  have e0 : s₁.heap = h0 := by rw [← hh, Bd.state]; rfl
  have N0 := Fr.nil n0
  show own_Ends p e below s 0 0 (QS7 Z ba fa cK h0 n0) (s₁.setTop (entryFrame m #[(.ref ba), (.ref fa)] 3))
  refine own_step (fun t k => castTop (ef_rmS7 m ba fa) k) ?_
  show own_Ends p e below s _ _ _ (s₁.setTop (mkF m 0 #[.val (.ref ba), .val (.ref fa), .unset] []))
  refine own_step (fun _ kc_ => XS.aloadN X0.here hx rfl (hb hby d10_0) rfl rfl kc_) ?_
  show own_Ends p e below s _ _ _ (s₁.setTop (mkF m 1 #[.val (.ref ba), .val (.ref fa), .unset] [(.ref fa)]))
  obtain ⟨_, _, ⟨T166, L166, k166, n166⟩, -, X166, ⟨Lc166, hQ166, l166, y166, z166⟩, st166⟩ := Jvm.LawKit.callS X0 hx (y := (⟨"java/util/Objects", "requireNonNull", "(Ljava/lang/Object;)Ljava/lang/Object;"⟩ : MethodName)) hown (mvT hZ (hw _ (List.mem_of_getElem? (i := 66) rfl))) (mvT hZ (hw _ (List.mem_of_getElem? (i := 67) rfl))) (mvT hZ (hw _ (List.mem_of_getElem? (i := 68) rfl))) (mvT hZ (hw _ (List.mem_of_getElem? (i := 69) rfl))) (by decide) (backOf (W := 0) (rm11 l Z a0 hw [] fa  h0 n0 Z0 ) hZ (hw _ (List.mem_of_getElem? (i := 69) rfl)) (hw _ (List.mem_of_getElem? (i := 68) rfl)) (by decide) (by decide)) (g := (mkF m 1 #[.val (.ref ba), .val (.ref fa), .unset] [(.ref fa)])) rfl (by rw [hml]; rfl) (argsL := [(.ref fa)]) (rest := []) (lenOf pd_5 rfl) rfl (by show 2 * 0 + _ ≤ _; exact Nat.le_of_eq rfl) (hb hby d10_1) (fun _ _ => ⟨rfl, e0, (by decide : 0 + 0 ≤ _), (by decide : 0 + 0 ≤ _)⟩)
  dsimp only [Pt.U, Pt.locs, Pt.cells, Pt.slots] at X166 l166 y166 z166 st166 hQ166
  subst y166 z166
  obtain ⟨rfl, N166q, e166⟩ := hQ166
  have e166h : T166.heap = h0 := e166
  have N166 : Fr n0 L166 := by rw [l166]; exact Fr.app N0 N166q
  refine own_step (fun _ kc_ => st166 _ kc_) ?_
  show own_Ends p e below s _ _ _ (T166.setTop (mkF m 4 #[.val (.ref ba), .val (.ref fa), .unset] [(.ref fa)]))
  refine own_step (fun _ kc_ => XS.pop X166.here hx rfl (hb hby d10_4) rfl rfl (XS.iconst X166.here hx rfl (hb hby d10_5) (XS.istoreN X166.here hx rfl (hb hby d10_6) rfl (l' := #[.val (.ref ba), .val (.ref fa), .val (.int (0 : Int32))]) rfl (XS.iloadN X166.here hx rfl (hb hby d10_7) rfl (XS.aloadN X166.here hx rfl (hb hby d10_8) rfl rfl (own_alen X166 hx hZ e166h A0 (n := 7) (z := (7 : Int32)) rfl rfl (hb hby d10_9) _ (XS.icmpNo X166.here hx rfl (hb hby d10_10) rfl (XT.ii_ge_f (by decide : (0 : Int32) < (7 : Int32))) (XS.aloadN X166.here hx rfl (hb hby d10_13) rfl rfl kc_)))))))) ?_
  show own_Ends p e below s _ _ _ (T166.setTop (mkF m 14 #[.val (.ref ba), .val (.ref fa), .val (.int (0 : Int32))] [(.ref ba)]))
  refine own_step (fun _ kc_ => XS.iloadN X166.here hx rfl (hb hby d10_14) rfl (XS.aloadN X166.here hx rfl (hb hby d10_15) rfl rfl (XS.iloadN X166.here hx rfl (hb hby d10_16) rfl kc_))) ?_
  show own_Ends p e below s _ _ _ (T166.setTop (mkF m 17 #[.val (.ref ba), .val (.ref fa), .val (.int (0 : Int32))] [(.int (0 : Int32)), (.ref fa), (.int (0 : Int32)), (.ref ba)]))
  have F167n : Jvm.LamKit.FnAt T166.heap fa cK := by rw [e166h]; exact F0
  obtain ⟨v167, st167, t167, T167, L167, X167, hL167, eh167, -, ⟨hv167, hh167⟩, sp167⟩ := Jvm.LamKit.callLamS X166 hx (own_lamMet l Z a0 hw (0 : Int32) h0 n0 Z0) (fun _ _ _ _ q => q) rfl rfl (fun w hwm a' U hU => by cases List.mem_singleton.mp hwm; exact mv (wtrans hZ hU) (hw _ (List.mem_of_getElem? (i := 83) rfl))) (List.mem_singleton.mpr rfl) hown (mvT hZ (hw _ (List.mem_of_getElem? (i := 79) rfl))) (mvT hZ (hw _ (List.mem_of_getElem? (i := 80) rfl))) (mvT hZ (hw _ (List.mem_of_getElem? (i := 81) rfl))) (mvT hZ (hw _ (List.mem_of_getElem? (i := 83) rfl))) (mvT hZ (hw _ (List.mem_of_getElem? (i := 82) rfl))) (mvT hZ (hw _ (List.mem_of_getElem? (i := 2) rfl))) (xi := (⟨"java/util/function/IntUnaryOperator", "applyAsInt", "(I)I"⟩ : MethodName)) ⟨rfl, rfl, by decide⟩ ⟨rfl, rfl, by decide⟩ (by decide) hEx F167n own_fok own_fc1 own_fc4 (g := (mkF m 17 #[.val (.ref ba), .val (.ref fa), .val (.int (0 : Int32))] [(.int (0 : Int32)), (.ref fa), (.int (0 : Int32)), (.ref ba)])) rfl (by rw [hml]; rfl) (argsL := [(.int (0 : Int32))]) (argsT := [(.int (0 : Int32))]) (rest := [(.int (0 : Int32)), (.ref ba)]) (L0 := #[.val (.ref fa), .val (.int (0 : Int32))]) (lenOf pd_3 rfl) (lenOf pd_3 rfl) rfl (hb hby d10_17) (fun _ => by first | rfl | (simp [entryFrame, argsToLocals, Value.category]; done)) rfl (fun U ck bl target hAt hck _ _ kk => XS.iloadN hAt hx rfl (hb hck own_fc0) rfl kk) (fun _ v _ q => Or.inl ⟨.int, (0 : Int32), rfl, Or.inl rfl, rfl, rfl, by cases q.1; rfl⟩) (by decide) (Nat.le_of_ble_eq_true rfl) (by decide : 0 + 0 ≤ _) (by decide : 0 + 0 ≤ _) (fun U hU hh => ⟨rfl, wtrans hZ hU, hh.trans e166h⟩)
  cases hv167
  have e167 : T167.heap = h0 := eh167.trans hh167
  have N167 := Fr.app N166 hL167
  refine own_step (fun _ kc_ => sp167 _ kc_) ?_
  show own_Ends p e below s _ _ _ (T167.setTop (mkF m 22 #[.val (.ref ba), .val (.ref fa), .val (.int (0 : Int32))] [(.int (0 : Int32)), (.int (0 : Int32)), (.ref ba)]))
  obtain ⟨T168, h168, X168, e168, W168, A168, st168⟩ := own_iastore X167 hx hZ e167 A0 (j := (0 : Int32)) (x := (0 : Int32)) (by decide) (i := 0) rfl (Nat.le_of_ble_eq_true rfl) (Ls := #[.val (.ref ba), .val (.ref fa), .val (.int (0 : Int32))]) (st := []) (hb hby d10_22)
  have A_ba_168 : own_Ar Z h168 ba .int [(.int (0 : Int32)), (.int (0 : Int32)), (.int (0 : Int32)), (.int (0 : Int32)), (.int (0 : Int32)), (.int (0 : Int32)), (.int (0 : Int32))] := A168
  have K168 := ((Keep.refl h0 [ba])).wr W168 (Or.inl (List.mem_of_getElem? (i := 0) rfl))
  have Zs168 := Nat.le_trans Z0 (Nat.le_of_eq W168.size.symm)
  have N168 := Fr.snoc X168 N167 g0
  refine own_step (fun _ kc_ => st168 _ kc_) ?_
  show own_Ends p e below s _ _ _ (T168.setTop (mkF m 23 #[.val (.ref ba), .val (.ref fa), .val (.int (0 : Int32))] []))
  have Fn168 := own_fn_wr F0 W168
  refine own_step (fun _ kc_ => XS.iinc X168.here hx rfl (hb hby d10_23) rfl (l' := #[.val (.ref ba), .val (.ref fa), .val (.int ((0 : Int32) + (1 : Int32)))]) rfl kc_) ?_
  show own_Ends p e below s _ _ _ (T168.setTop (mkF m 26 #[.val (.ref ba), .val (.ref fa), .val (.int ((0 : Int32) + (1 : Int32)))] []))
  rw [show ((0 : Int32) + (1 : Int32)) = (1 : Int32) from by decide]
  show own_Ends p e below s _ _ _ (T168.setTop (mkF m 26 #[.val (.ref ba), .val (.ref fa), .val (.int (1 : Int32))] []))
  refine own_step (fun _ kc_ => XS.goto X168.here hx rfl (pc0 := 26) (pc' := 7) rfl (hb hby d10_26) (by decide) (by decide) (XS.iloadN X168.here hx rfl (hb hby d10_7) rfl (XS.aloadN X168.here hx rfl (hb hby d10_8) rfl rfl (own_alen X168 hx hZ e168 A_ba_168 (n := 7) (z := (7 : Int32)) rfl rfl (hb hby d10_9) _ (XS.icmpNo X168.here hx rfl (hb hby d10_10) rfl (XT.ii_ge_f (by decide : (1 : Int32) < (7 : Int32))) (XS.aloadN X168.here hx rfl (hb hby d10_13) rfl rfl (XS.iloadN X168.here hx rfl (hb hby d10_14) rfl (XS.aloadN X168.here hx rfl (hb hby d10_15) rfl rfl kc_)))))))) ?_
  show own_Ends p e below s _ _ _ (T168.setTop (mkF m 16 #[.val (.ref ba), .val (.ref fa), .val (.int (1 : Int32))] [(.ref fa), (.int (1 : Int32)), (.ref ba)]))
  refine own_step (fun _ kc_ => XS.iloadN X168.here hx rfl (hb hby d10_16) rfl kc_) ?_
  show own_Ends p e below s _ _ _ (T168.setTop (mkF m 17 #[.val (.ref ba), .val (.ref fa), .val (.int (1 : Int32))] [(.int (1 : Int32)), (.ref fa), (.int (1 : Int32)), (.ref ba)]))
  have F169n : Jvm.LamKit.FnAt T168.heap fa cK := by rw [e168]; exact Fn168
  obtain ⟨v169, st169, t169, T169, L169, X169, hL169, eh169, -, ⟨hv169, hh169⟩, sp169⟩ := Jvm.LamKit.callLamS X168 hx (own_lamMet l Z a0 hw (1 : Int32) h168 n0 Zs168) (fun _ _ _ _ q => q) rfl rfl (fun w hwm a' U hU => by cases List.mem_singleton.mp hwm; exact mv (wtrans hZ hU) (hw _ (List.mem_of_getElem? (i := 83) rfl))) (List.mem_singleton.mpr rfl) hown (mvT hZ (hw _ (List.mem_of_getElem? (i := 79) rfl))) (mvT hZ (hw _ (List.mem_of_getElem? (i := 80) rfl))) (mvT hZ (hw _ (List.mem_of_getElem? (i := 81) rfl))) (mvT hZ (hw _ (List.mem_of_getElem? (i := 83) rfl))) (mvT hZ (hw _ (List.mem_of_getElem? (i := 82) rfl))) (mvT hZ (hw _ (List.mem_of_getElem? (i := 2) rfl))) (xi := (⟨"java/util/function/IntUnaryOperator", "applyAsInt", "(I)I"⟩ : MethodName)) ⟨rfl, rfl, by decide⟩ ⟨rfl, rfl, by decide⟩ (by decide) hEx F169n own_fok own_fc1 own_fc4 (g := (mkF m 17 #[.val (.ref ba), .val (.ref fa), .val (.int (1 : Int32))] [(.int (1 : Int32)), (.ref fa), (.int (1 : Int32)), (.ref ba)])) rfl (by rw [hml]; rfl) (argsL := [(.int (1 : Int32))]) (argsT := [(.int (1 : Int32))]) (rest := [(.int (1 : Int32)), (.ref ba)]) (L0 := #[.val (.ref fa), .val (.int (1 : Int32))]) (lenOf pd_3 rfl) (lenOf pd_3 rfl) rfl (hb hby d10_17) (fun _ => by first | rfl | (simp [entryFrame, argsToLocals, Value.category]; done)) rfl (fun U ck bl target hAt hck _ _ kk => XS.iloadN hAt hx rfl (hb hck own_fc0) rfl kk) (fun _ v _ q => Or.inl ⟨.int, (1 : Int32), rfl, Or.inl rfl, rfl, rfl, by cases q.1; rfl⟩) (by decide) (Nat.le_of_ble_eq_true rfl) (by decide : 0 + 0 ≤ _) (by decide : 0 + 0 ≤ _) (fun U hU hh => ⟨rfl, wtrans hZ hU, hh.trans e168⟩)
  cases hv169
  have e169 : T169.heap = h168 := eh169.trans hh169
  have N169 := Fr.app N168 hL169
  refine own_step (fun _ kc_ => sp169 _ kc_) ?_
  show own_Ends p e below s _ _ _ (T169.setTop (mkF m 22 #[.val (.ref ba), .val (.ref fa), .val (.int (1 : Int32))] [(.int (1 : Int32)), (.int (1 : Int32)), (.ref ba)]))
  obtain ⟨T170, h170, X170, e170, W170, A170, st170⟩ := own_iastore X169 hx hZ e169 A_ba_168 (j := (1 : Int32)) (x := (1 : Int32)) (by decide) (i := 1) rfl (Nat.le_of_ble_eq_true rfl) (Ls := #[.val (.ref ba), .val (.ref fa), .val (.int (1 : Int32))]) (st := []) (hb hby d10_22)
  have A_ba_170 : own_Ar Z h170 ba .int [(.int (0 : Int32)), (.int (1 : Int32)), (.int (0 : Int32)), (.int (0 : Int32)), (.int (0 : Int32)), (.int (0 : Int32)), (.int (0 : Int32))] := A170
  have K170 := (K168).wr W170 (Or.inl (List.mem_of_getElem? (i := 0) rfl))
  have Zs170 := Nat.le_trans Zs168 (Nat.le_of_eq W170.size.symm)
  have N170 := Fr.snoc X170 N169 g0
  refine own_step (fun _ kc_ => st170 _ kc_) ?_
  show own_Ends p e below s _ _ _ (T170.setTop (mkF m 23 #[.val (.ref ba), .val (.ref fa), .val (.int (1 : Int32))] []))
  have Fn170 := own_fn_wr Fn168 W170
  refine own_step (fun _ kc_ => XS.iinc X170.here hx rfl (hb hby d10_23) rfl (l' := #[.val (.ref ba), .val (.ref fa), .val (.int ((1 : Int32) + (1 : Int32)))]) rfl kc_) ?_
  show own_Ends p e below s _ _ _ (T170.setTop (mkF m 26 #[.val (.ref ba), .val (.ref fa), .val (.int ((1 : Int32) + (1 : Int32)))] []))
  rw [show ((1 : Int32) + (1 : Int32)) = (2 : Int32) from by decide]
  show own_Ends p e below s _ _ _ (T170.setTop (mkF m 26 #[.val (.ref ba), .val (.ref fa), .val (.int (2 : Int32))] []))
  refine own_step (fun _ kc_ => XS.goto X170.here hx rfl (pc0 := 26) (pc' := 7) rfl (hb hby d10_26) (by decide) (by decide) (XS.iloadN X170.here hx rfl (hb hby d10_7) rfl (XS.aloadN X170.here hx rfl (hb hby d10_8) rfl rfl (own_alen X170 hx hZ e170 A_ba_170 (n := 7) (z := (7 : Int32)) rfl rfl (hb hby d10_9) _ (XS.icmpNo X170.here hx rfl (hb hby d10_10) rfl (XT.ii_ge_f (by decide : (2 : Int32) < (7 : Int32))) (XS.aloadN X170.here hx rfl (hb hby d10_13) rfl rfl (XS.iloadN X170.here hx rfl (hb hby d10_14) rfl (XS.aloadN X170.here hx rfl (hb hby d10_15) rfl rfl kc_)))))))) ?_
  show own_Ends p e below s _ _ _ (T170.setTop (mkF m 16 #[.val (.ref ba), .val (.ref fa), .val (.int (2 : Int32))] [(.ref fa), (.int (2 : Int32)), (.ref ba)]))
  refine own_step (fun _ kc_ => XS.iloadN X170.here hx rfl (hb hby d10_16) rfl kc_) ?_
  show own_Ends p e below s _ _ _ (T170.setTop (mkF m 17 #[.val (.ref ba), .val (.ref fa), .val (.int (2 : Int32))] [(.int (2 : Int32)), (.ref fa), (.int (2 : Int32)), (.ref ba)]))
  have F171n : Jvm.LamKit.FnAt T170.heap fa cK := by rw [e170]; exact Fn170
  obtain ⟨v171, st171, t171, T171, L171, X171, hL171, eh171, -, ⟨hv171, hh171⟩, sp171⟩ := Jvm.LamKit.callLamS X170 hx (own_lamMet l Z a0 hw (2 : Int32) h170 n0 Zs170) (fun _ _ _ _ q => q) rfl rfl (fun w hwm a' U hU => by cases List.mem_singleton.mp hwm; exact mv (wtrans hZ hU) (hw _ (List.mem_of_getElem? (i := 83) rfl))) (List.mem_singleton.mpr rfl) hown (mvT hZ (hw _ (List.mem_of_getElem? (i := 79) rfl))) (mvT hZ (hw _ (List.mem_of_getElem? (i := 80) rfl))) (mvT hZ (hw _ (List.mem_of_getElem? (i := 81) rfl))) (mvT hZ (hw _ (List.mem_of_getElem? (i := 83) rfl))) (mvT hZ (hw _ (List.mem_of_getElem? (i := 82) rfl))) (mvT hZ (hw _ (List.mem_of_getElem? (i := 2) rfl))) (xi := (⟨"java/util/function/IntUnaryOperator", "applyAsInt", "(I)I"⟩ : MethodName)) ⟨rfl, rfl, by decide⟩ ⟨rfl, rfl, by decide⟩ (by decide) hEx F171n own_fok own_fc1 own_fc4 (g := (mkF m 17 #[.val (.ref ba), .val (.ref fa), .val (.int (2 : Int32))] [(.int (2 : Int32)), (.ref fa), (.int (2 : Int32)), (.ref ba)])) rfl (by rw [hml]; rfl) (argsL := [(.int (2 : Int32))]) (argsT := [(.int (2 : Int32))]) (rest := [(.int (2 : Int32)), (.ref ba)]) (L0 := #[.val (.ref fa), .val (.int (2 : Int32))]) (lenOf pd_3 rfl) (lenOf pd_3 rfl) rfl (hb hby d10_17) (fun _ => by first | rfl | (simp [entryFrame, argsToLocals, Value.category]; done)) rfl (fun U ck bl target hAt hck _ _ kk => XS.iloadN hAt hx rfl (hb hck own_fc0) rfl kk) (fun _ v _ q => Or.inl ⟨.int, (2 : Int32), rfl, Or.inl rfl, rfl, rfl, by cases q.1; rfl⟩) (by decide) (Nat.le_of_ble_eq_true rfl) (by decide : 0 + 0 ≤ _) (by decide : 0 + 0 ≤ _) (fun U hU hh => ⟨rfl, wtrans hZ hU, hh.trans e170⟩)
  cases hv171
  have e171 : T171.heap = h170 := eh171.trans hh171
  have N171 := Fr.app N170 hL171
  refine own_step (fun _ kc_ => sp171 _ kc_) ?_
  show own_Ends p e below s _ _ _ (T171.setTop (mkF m 22 #[.val (.ref ba), .val (.ref fa), .val (.int (2 : Int32))] [(.int (2 : Int32)), (.int (2 : Int32)), (.ref ba)]))
  obtain ⟨T172, h172, X172, e172, W172, A172, st172⟩ := own_iastore X171 hx hZ e171 A_ba_170 (j := (2 : Int32)) (x := (2 : Int32)) (by decide) (i := 2) rfl (Nat.le_of_ble_eq_true rfl) (Ls := #[.val (.ref ba), .val (.ref fa), .val (.int (2 : Int32))]) (st := []) (hb hby d10_22)
  have A_ba_172 : own_Ar Z h172 ba .int [(.int (0 : Int32)), (.int (1 : Int32)), (.int (2 : Int32)), (.int (0 : Int32)), (.int (0 : Int32)), (.int (0 : Int32)), (.int (0 : Int32))] := A172
  have K172 := (K170).wr W172 (Or.inl (List.mem_of_getElem? (i := 0) rfl))
  have Zs172 := Nat.le_trans Zs170 (Nat.le_of_eq W172.size.symm)
  have N172 := Fr.snoc X172 N171 g0
  refine own_step (fun _ kc_ => st172 _ kc_) ?_
  show own_Ends p e below s _ _ _ (T172.setTop (mkF m 23 #[.val (.ref ba), .val (.ref fa), .val (.int (2 : Int32))] []))
  have Fn172 := own_fn_wr Fn170 W172
  refine own_step (fun _ kc_ => XS.iinc X172.here hx rfl (hb hby d10_23) rfl (l' := #[.val (.ref ba), .val (.ref fa), .val (.int ((2 : Int32) + (1 : Int32)))]) rfl kc_) ?_
  show own_Ends p e below s _ _ _ (T172.setTop (mkF m 26 #[.val (.ref ba), .val (.ref fa), .val (.int ((2 : Int32) + (1 : Int32)))] []))
  rw [show ((2 : Int32) + (1 : Int32)) = (3 : Int32) from by decide]
  show own_Ends p e below s _ _ _ (T172.setTop (mkF m 26 #[.val (.ref ba), .val (.ref fa), .val (.int (3 : Int32))] []))
  refine own_step (fun _ kc_ => XS.goto X172.here hx rfl (pc0 := 26) (pc' := 7) rfl (hb hby d10_26) (by decide) (by decide) (XS.iloadN X172.here hx rfl (hb hby d10_7) rfl (XS.aloadN X172.here hx rfl (hb hby d10_8) rfl rfl (own_alen X172 hx hZ e172 A_ba_172 (n := 7) (z := (7 : Int32)) rfl rfl (hb hby d10_9) _ (XS.icmpNo X172.here hx rfl (hb hby d10_10) rfl (XT.ii_ge_f (by decide : (3 : Int32) < (7 : Int32))) (XS.aloadN X172.here hx rfl (hb hby d10_13) rfl rfl (XS.iloadN X172.here hx rfl (hb hby d10_14) rfl (XS.aloadN X172.here hx rfl (hb hby d10_15) rfl rfl kc_)))))))) ?_
  show own_Ends p e below s _ _ _ (T172.setTop (mkF m 16 #[.val (.ref ba), .val (.ref fa), .val (.int (3 : Int32))] [(.ref fa), (.int (3 : Int32)), (.ref ba)]))
  refine own_step (fun _ kc_ => XS.iloadN X172.here hx rfl (hb hby d10_16) rfl kc_) ?_
  show own_Ends p e below s _ _ _ (T172.setTop (mkF m 17 #[.val (.ref ba), .val (.ref fa), .val (.int (3 : Int32))] [(.int (3 : Int32)), (.ref fa), (.int (3 : Int32)), (.ref ba)]))
  have F173n : Jvm.LamKit.FnAt T172.heap fa cK := by rw [e172]; exact Fn172
  obtain ⟨v173, st173, t173, T173, L173, X173, hL173, eh173, -, ⟨hv173, hh173⟩, sp173⟩ := Jvm.LamKit.callLamS X172 hx (own_lamMet l Z a0 hw (3 : Int32) h172 n0 Zs172) (fun _ _ _ _ q => q) rfl rfl (fun w hwm a' U hU => by cases List.mem_singleton.mp hwm; exact mv (wtrans hZ hU) (hw _ (List.mem_of_getElem? (i := 83) rfl))) (List.mem_singleton.mpr rfl) hown (mvT hZ (hw _ (List.mem_of_getElem? (i := 79) rfl))) (mvT hZ (hw _ (List.mem_of_getElem? (i := 80) rfl))) (mvT hZ (hw _ (List.mem_of_getElem? (i := 81) rfl))) (mvT hZ (hw _ (List.mem_of_getElem? (i := 83) rfl))) (mvT hZ (hw _ (List.mem_of_getElem? (i := 82) rfl))) (mvT hZ (hw _ (List.mem_of_getElem? (i := 2) rfl))) (xi := (⟨"java/util/function/IntUnaryOperator", "applyAsInt", "(I)I"⟩ : MethodName)) ⟨rfl, rfl, by decide⟩ ⟨rfl, rfl, by decide⟩ (by decide) hEx F173n own_fok own_fc1 own_fc4 (g := (mkF m 17 #[.val (.ref ba), .val (.ref fa), .val (.int (3 : Int32))] [(.int (3 : Int32)), (.ref fa), (.int (3 : Int32)), (.ref ba)])) rfl (by rw [hml]; rfl) (argsL := [(.int (3 : Int32))]) (argsT := [(.int (3 : Int32))]) (rest := [(.int (3 : Int32)), (.ref ba)]) (L0 := #[.val (.ref fa), .val (.int (3 : Int32))]) (lenOf pd_3 rfl) (lenOf pd_3 rfl) rfl (hb hby d10_17) (fun _ => by first | rfl | (simp [entryFrame, argsToLocals, Value.category]; done)) rfl (fun U ck bl target hAt hck _ _ kk => XS.iloadN hAt hx rfl (hb hck own_fc0) rfl kk) (fun _ v _ q => Or.inl ⟨.int, (3 : Int32), rfl, Or.inl rfl, rfl, rfl, by cases q.1; rfl⟩) (by decide) (Nat.le_of_ble_eq_true rfl) (by decide : 0 + 0 ≤ _) (by decide : 0 + 0 ≤ _) (fun U hU hh => ⟨rfl, wtrans hZ hU, hh.trans e172⟩)
  cases hv173
  have e173 : T173.heap = h172 := eh173.trans hh173
  have N173 := Fr.app N172 hL173
  refine own_step (fun _ kc_ => sp173 _ kc_) ?_
  show own_Ends p e below s _ _ _ (T173.setTop (mkF m 22 #[.val (.ref ba), .val (.ref fa), .val (.int (3 : Int32))] [(.int (3 : Int32)), (.int (3 : Int32)), (.ref ba)]))
  obtain ⟨T174, h174, X174, e174, W174, A174, st174⟩ := own_iastore X173 hx hZ e173 A_ba_172 (j := (3 : Int32)) (x := (3 : Int32)) (by decide) (i := 3) rfl (Nat.le_of_ble_eq_true rfl) (Ls := #[.val (.ref ba), .val (.ref fa), .val (.int (3 : Int32))]) (st := []) (hb hby d10_22)
  have A_ba_174 : own_Ar Z h174 ba .int [(.int (0 : Int32)), (.int (1 : Int32)), (.int (2 : Int32)), (.int (3 : Int32)), (.int (0 : Int32)), (.int (0 : Int32)), (.int (0 : Int32))] := A174
  have K174 := (K172).wr W174 (Or.inl (List.mem_of_getElem? (i := 0) rfl))
  have Zs174 := Nat.le_trans Zs172 (Nat.le_of_eq W174.size.symm)
  have N174 := Fr.snoc X174 N173 g0
  refine own_step (fun _ kc_ => st174 _ kc_) ?_
  show own_Ends p e below s _ _ _ (T174.setTop (mkF m 23 #[.val (.ref ba), .val (.ref fa), .val (.int (3 : Int32))] []))
  have Fn174 := own_fn_wr Fn172 W174
  refine own_step (fun _ kc_ => XS.iinc X174.here hx rfl (hb hby d10_23) rfl (l' := #[.val (.ref ba), .val (.ref fa), .val (.int ((3 : Int32) + (1 : Int32)))]) rfl kc_) ?_
  show own_Ends p e below s _ _ _ (T174.setTop (mkF m 26 #[.val (.ref ba), .val (.ref fa), .val (.int ((3 : Int32) + (1 : Int32)))] []))
  rw [show ((3 : Int32) + (1 : Int32)) = (4 : Int32) from by decide]
  show own_Ends p e below s _ _ _ (T174.setTop (mkF m 26 #[.val (.ref ba), .val (.ref fa), .val (.int (4 : Int32))] []))
  refine own_step (fun _ kc_ => XS.goto X174.here hx rfl (pc0 := 26) (pc' := 7) rfl (hb hby d10_26) (by decide) (by decide) (XS.iloadN X174.here hx rfl (hb hby d10_7) rfl (XS.aloadN X174.here hx rfl (hb hby d10_8) rfl rfl (own_alen X174 hx hZ e174 A_ba_174 (n := 7) (z := (7 : Int32)) rfl rfl (hb hby d10_9) _ (XS.icmpNo X174.here hx rfl (hb hby d10_10) rfl (XT.ii_ge_f (by decide : (4 : Int32) < (7 : Int32))) (XS.aloadN X174.here hx rfl (hb hby d10_13) rfl rfl (XS.iloadN X174.here hx rfl (hb hby d10_14) rfl (XS.aloadN X174.here hx rfl (hb hby d10_15) rfl rfl kc_)))))))) ?_
  show own_Ends p e below s _ _ _ (T174.setTop (mkF m 16 #[.val (.ref ba), .val (.ref fa), .val (.int (4 : Int32))] [(.ref fa), (.int (4 : Int32)), (.ref ba)]))
  refine own_step (fun _ kc_ => XS.iloadN X174.here hx rfl (hb hby d10_16) rfl kc_) ?_
  show own_Ends p e below s _ _ _ (T174.setTop (mkF m 17 #[.val (.ref ba), .val (.ref fa), .val (.int (4 : Int32))] [(.int (4 : Int32)), (.ref fa), (.int (4 : Int32)), (.ref ba)]))
  have F175n : Jvm.LamKit.FnAt T174.heap fa cK := by rw [e174]; exact Fn174
  obtain ⟨v175, st175, t175, T175, L175, X175, hL175, eh175, -, ⟨hv175, hh175⟩, sp175⟩ := Jvm.LamKit.callLamS X174 hx (own_lamMet l Z a0 hw (4 : Int32) h174 n0 Zs174) (fun _ _ _ _ q => q) rfl rfl (fun w hwm a' U hU => by cases List.mem_singleton.mp hwm; exact mv (wtrans hZ hU) (hw _ (List.mem_of_getElem? (i := 83) rfl))) (List.mem_singleton.mpr rfl) hown (mvT hZ (hw _ (List.mem_of_getElem? (i := 79) rfl))) (mvT hZ (hw _ (List.mem_of_getElem? (i := 80) rfl))) (mvT hZ (hw _ (List.mem_of_getElem? (i := 81) rfl))) (mvT hZ (hw _ (List.mem_of_getElem? (i := 83) rfl))) (mvT hZ (hw _ (List.mem_of_getElem? (i := 82) rfl))) (mvT hZ (hw _ (List.mem_of_getElem? (i := 2) rfl))) (xi := (⟨"java/util/function/IntUnaryOperator", "applyAsInt", "(I)I"⟩ : MethodName)) ⟨rfl, rfl, by decide⟩ ⟨rfl, rfl, by decide⟩ (by decide) hEx F175n own_fok own_fc1 own_fc4 (g := (mkF m 17 #[.val (.ref ba), .val (.ref fa), .val (.int (4 : Int32))] [(.int (4 : Int32)), (.ref fa), (.int (4 : Int32)), (.ref ba)])) rfl (by rw [hml]; rfl) (argsL := [(.int (4 : Int32))]) (argsT := [(.int (4 : Int32))]) (rest := [(.int (4 : Int32)), (.ref ba)]) (L0 := #[.val (.ref fa), .val (.int (4 : Int32))]) (lenOf pd_3 rfl) (lenOf pd_3 rfl) rfl (hb hby d10_17) (fun _ => by first | rfl | (simp [entryFrame, argsToLocals, Value.category]; done)) rfl (fun U ck bl target hAt hck _ _ kk => XS.iloadN hAt hx rfl (hb hck own_fc0) rfl kk) (fun _ v _ q => Or.inl ⟨.int, (4 : Int32), rfl, Or.inl rfl, rfl, rfl, by cases q.1; rfl⟩) (by decide) (Nat.le_of_ble_eq_true rfl) (by decide : 0 + 0 ≤ _) (by decide : 0 + 0 ≤ _) (fun U hU hh => ⟨rfl, wtrans hZ hU, hh.trans e174⟩)
  cases hv175
  have e175 : T175.heap = h174 := eh175.trans hh175
  have N175 := Fr.app N174 hL175
  refine own_step (fun _ kc_ => sp175 _ kc_) ?_
  show own_Ends p e below s _ _ _ (T175.setTop (mkF m 22 #[.val (.ref ba), .val (.ref fa), .val (.int (4 : Int32))] [(.int (4 : Int32)), (.int (4 : Int32)), (.ref ba)]))
  obtain ⟨T176, h176, X176, e176, W176, A176, st176⟩ := own_iastore X175 hx hZ e175 A_ba_174 (j := (4 : Int32)) (x := (4 : Int32)) (by decide) (i := 4) rfl (Nat.le_of_ble_eq_true rfl) (Ls := #[.val (.ref ba), .val (.ref fa), .val (.int (4 : Int32))]) (st := []) (hb hby d10_22)
  have A_ba_176 : own_Ar Z h176 ba .int [(.int (0 : Int32)), (.int (1 : Int32)), (.int (2 : Int32)), (.int (3 : Int32)), (.int (4 : Int32)), (.int (0 : Int32)), (.int (0 : Int32))] := A176
  have K176 := (K174).wr W176 (Or.inl (List.mem_of_getElem? (i := 0) rfl))
  have Zs176 := Nat.le_trans Zs174 (Nat.le_of_eq W176.size.symm)
  have N176 := Fr.snoc X176 N175 g0
  refine own_step (fun _ kc_ => st176 _ kc_) ?_
  show own_Ends p e below s _ _ _ (T176.setTop (mkF m 23 #[.val (.ref ba), .val (.ref fa), .val (.int (4 : Int32))] []))
  have Fn176 := own_fn_wr Fn174 W176
  refine own_step (fun _ kc_ => XS.iinc X176.here hx rfl (hb hby d10_23) rfl (l' := #[.val (.ref ba), .val (.ref fa), .val (.int ((4 : Int32) + (1 : Int32)))]) rfl kc_) ?_
  show own_Ends p e below s _ _ _ (T176.setTop (mkF m 26 #[.val (.ref ba), .val (.ref fa), .val (.int ((4 : Int32) + (1 : Int32)))] []))
  rw [show ((4 : Int32) + (1 : Int32)) = (5 : Int32) from by decide]
  show own_Ends p e below s _ _ _ (T176.setTop (mkF m 26 #[.val (.ref ba), .val (.ref fa), .val (.int (5 : Int32))] []))
  refine own_step (fun _ kc_ => XS.goto X176.here hx rfl (pc0 := 26) (pc' := 7) rfl (hb hby d10_26) (by decide) (by decide) (XS.iloadN X176.here hx rfl (hb hby d10_7) rfl (XS.aloadN X176.here hx rfl (hb hby d10_8) rfl rfl (own_alen X176 hx hZ e176 A_ba_176 (n := 7) (z := (7 : Int32)) rfl rfl (hb hby d10_9) _ (XS.icmpNo X176.here hx rfl (hb hby d10_10) rfl (XT.ii_ge_f (by decide : (5 : Int32) < (7 : Int32))) (XS.aloadN X176.here hx rfl (hb hby d10_13) rfl rfl (XS.iloadN X176.here hx rfl (hb hby d10_14) rfl (XS.aloadN X176.here hx rfl (hb hby d10_15) rfl rfl kc_)))))))) ?_
  show own_Ends p e below s _ _ _ (T176.setTop (mkF m 16 #[.val (.ref ba), .val (.ref fa), .val (.int (5 : Int32))] [(.ref fa), (.int (5 : Int32)), (.ref ba)]))
  refine own_step (fun _ kc_ => XS.iloadN X176.here hx rfl (hb hby d10_16) rfl kc_) ?_
  show own_Ends p e below s _ _ _ (T176.setTop (mkF m 17 #[.val (.ref ba), .val (.ref fa), .val (.int (5 : Int32))] [(.int (5 : Int32)), (.ref fa), (.int (5 : Int32)), (.ref ba)]))
  have F177n : Jvm.LamKit.FnAt T176.heap fa cK := by rw [e176]; exact Fn176
  obtain ⟨v177, st177, t177, T177, L177, X177, hL177, eh177, -, ⟨hv177, hh177⟩, sp177⟩ := Jvm.LamKit.callLamS X176 hx (own_lamMet l Z a0 hw (5 : Int32) h176 n0 Zs176) (fun _ _ _ _ q => q) rfl rfl (fun w hwm a' U hU => by cases List.mem_singleton.mp hwm; exact mv (wtrans hZ hU) (hw _ (List.mem_of_getElem? (i := 83) rfl))) (List.mem_singleton.mpr rfl) hown (mvT hZ (hw _ (List.mem_of_getElem? (i := 79) rfl))) (mvT hZ (hw _ (List.mem_of_getElem? (i := 80) rfl))) (mvT hZ (hw _ (List.mem_of_getElem? (i := 81) rfl))) (mvT hZ (hw _ (List.mem_of_getElem? (i := 83) rfl))) (mvT hZ (hw _ (List.mem_of_getElem? (i := 82) rfl))) (mvT hZ (hw _ (List.mem_of_getElem? (i := 2) rfl))) (xi := (⟨"java/util/function/IntUnaryOperator", "applyAsInt", "(I)I"⟩ : MethodName)) ⟨rfl, rfl, by decide⟩ ⟨rfl, rfl, by decide⟩ (by decide) hEx F177n own_fok own_fc1 own_fc4 (g := (mkF m 17 #[.val (.ref ba), .val (.ref fa), .val (.int (5 : Int32))] [(.int (5 : Int32)), (.ref fa), (.int (5 : Int32)), (.ref ba)])) rfl (by rw [hml]; rfl) (argsL := [(.int (5 : Int32))]) (argsT := [(.int (5 : Int32))]) (rest := [(.int (5 : Int32)), (.ref ba)]) (L0 := #[.val (.ref fa), .val (.int (5 : Int32))]) (lenOf pd_3 rfl) (lenOf pd_3 rfl) rfl (hb hby d10_17) (fun _ => by first | rfl | (simp [entryFrame, argsToLocals, Value.category]; done)) rfl (fun U ck bl target hAt hck _ _ kk => XS.iloadN hAt hx rfl (hb hck own_fc0) rfl kk) (fun _ v _ q => Or.inl ⟨.int, (5 : Int32), rfl, Or.inl rfl, rfl, rfl, by cases q.1; rfl⟩) (by decide) (Nat.le_of_ble_eq_true rfl) (by decide : 0 + 0 ≤ _) (by decide : 0 + 0 ≤ _) (fun U hU hh => ⟨rfl, wtrans hZ hU, hh.trans e176⟩)
  cases hv177
  have e177 : T177.heap = h176 := eh177.trans hh177
  have N177 := Fr.app N176 hL177
  refine own_step (fun _ kc_ => sp177 _ kc_) ?_
  show own_Ends p e below s _ _ _ (T177.setTop (mkF m 22 #[.val (.ref ba), .val (.ref fa), .val (.int (5 : Int32))] [(.int (5 : Int32)), (.int (5 : Int32)), (.ref ba)]))
  obtain ⟨T178, h178, X178, e178, W178, A178, st178⟩ := own_iastore X177 hx hZ e177 A_ba_176 (j := (5 : Int32)) (x := (5 : Int32)) (by decide) (i := 5) rfl (Nat.le_of_ble_eq_true rfl) (Ls := #[.val (.ref ba), .val (.ref fa), .val (.int (5 : Int32))]) (st := []) (hb hby d10_22)
  have A_ba_178 : own_Ar Z h178 ba .int [(.int (0 : Int32)), (.int (1 : Int32)), (.int (2 : Int32)), (.int (3 : Int32)), (.int (4 : Int32)), (.int (5 : Int32)), (.int (0 : Int32))] := A178
  have K178 := (K176).wr W178 (Or.inl (List.mem_of_getElem? (i := 0) rfl))
  have Zs178 := Nat.le_trans Zs176 (Nat.le_of_eq W178.size.symm)
  have N178 := Fr.snoc X178 N177 g0
  refine own_step (fun _ kc_ => st178 _ kc_) ?_
  show own_Ends p e below s _ _ _ (T178.setTop (mkF m 23 #[.val (.ref ba), .val (.ref fa), .val (.int (5 : Int32))] []))
  have Fn178 := own_fn_wr Fn176 W178
  refine own_step (fun _ kc_ => XS.iinc X178.here hx rfl (hb hby d10_23) rfl (l' := #[.val (.ref ba), .val (.ref fa), .val (.int ((5 : Int32) + (1 : Int32)))]) rfl kc_) ?_
  show own_Ends p e below s _ _ _ (T178.setTop (mkF m 26 #[.val (.ref ba), .val (.ref fa), .val (.int ((5 : Int32) + (1 : Int32)))] []))
  rw [show ((5 : Int32) + (1 : Int32)) = (6 : Int32) from by decide]
  show own_Ends p e below s _ _ _ (T178.setTop (mkF m 26 #[.val (.ref ba), .val (.ref fa), .val (.int (6 : Int32))] []))
  refine own_step (fun _ kc_ => XS.goto X178.here hx rfl (pc0 := 26) (pc' := 7) rfl (hb hby d10_26) (by decide) (by decide) (XS.iloadN X178.here hx rfl (hb hby d10_7) rfl (XS.aloadN X178.here hx rfl (hb hby d10_8) rfl rfl (own_alen X178 hx hZ e178 A_ba_178 (n := 7) (z := (7 : Int32)) rfl rfl (hb hby d10_9) _ (XS.icmpNo X178.here hx rfl (hb hby d10_10) rfl (XT.ii_ge_f (by decide : (6 : Int32) < (7 : Int32))) (XS.aloadN X178.here hx rfl (hb hby d10_13) rfl rfl (XS.iloadN X178.here hx rfl (hb hby d10_14) rfl (XS.aloadN X178.here hx rfl (hb hby d10_15) rfl rfl kc_)))))))) ?_
  show own_Ends p e below s _ _ _ (T178.setTop (mkF m 16 #[.val (.ref ba), .val (.ref fa), .val (.int (6 : Int32))] [(.ref fa), (.int (6 : Int32)), (.ref ba)]))
  refine own_step (fun _ kc_ => XS.iloadN X178.here hx rfl (hb hby d10_16) rfl kc_) ?_
  show own_Ends p e below s _ _ _ (T178.setTop (mkF m 17 #[.val (.ref ba), .val (.ref fa), .val (.int (6 : Int32))] [(.int (6 : Int32)), (.ref fa), (.int (6 : Int32)), (.ref ba)]))
  have F179n : Jvm.LamKit.FnAt T178.heap fa cK := by rw [e178]; exact Fn178
  obtain ⟨v179, st179, t179, T179, L179, X179, hL179, eh179, -, ⟨hv179, hh179⟩, sp179⟩ := Jvm.LamKit.callLamS X178 hx (own_lamMet l Z a0 hw (6 : Int32) h178 n0 Zs178) (fun _ _ _ _ q => q) rfl rfl (fun w hwm a' U hU => by cases List.mem_singleton.mp hwm; exact mv (wtrans hZ hU) (hw _ (List.mem_of_getElem? (i := 83) rfl))) (List.mem_singleton.mpr rfl) hown (mvT hZ (hw _ (List.mem_of_getElem? (i := 79) rfl))) (mvT hZ (hw _ (List.mem_of_getElem? (i := 80) rfl))) (mvT hZ (hw _ (List.mem_of_getElem? (i := 81) rfl))) (mvT hZ (hw _ (List.mem_of_getElem? (i := 83) rfl))) (mvT hZ (hw _ (List.mem_of_getElem? (i := 82) rfl))) (mvT hZ (hw _ (List.mem_of_getElem? (i := 2) rfl))) (xi := (⟨"java/util/function/IntUnaryOperator", "applyAsInt", "(I)I"⟩ : MethodName)) ⟨rfl, rfl, by decide⟩ ⟨rfl, rfl, by decide⟩ (by decide) hEx F179n own_fok own_fc1 own_fc4 (g := (mkF m 17 #[.val (.ref ba), .val (.ref fa), .val (.int (6 : Int32))] [(.int (6 : Int32)), (.ref fa), (.int (6 : Int32)), (.ref ba)])) rfl (by rw [hml]; rfl) (argsL := [(.int (6 : Int32))]) (argsT := [(.int (6 : Int32))]) (rest := [(.int (6 : Int32)), (.ref ba)]) (L0 := #[.val (.ref fa), .val (.int (6 : Int32))]) (lenOf pd_3 rfl) (lenOf pd_3 rfl) rfl (hb hby d10_17) (fun _ => by first | rfl | (simp [entryFrame, argsToLocals, Value.category]; done)) rfl (fun U ck bl target hAt hck _ _ kk => XS.iloadN hAt hx rfl (hb hck own_fc0) rfl kk) (fun _ v _ q => Or.inl ⟨.int, (6 : Int32), rfl, Or.inl rfl, rfl, rfl, by cases q.1; rfl⟩) (by decide) (Nat.le_of_ble_eq_true rfl) (by decide : 0 + 0 ≤ _) (by decide : 0 + 0 ≤ _) (fun U hU hh => ⟨rfl, wtrans hZ hU, hh.trans e178⟩)
  cases hv179
  have e179 : T179.heap = h178 := eh179.trans hh179
  have N179 := Fr.app N178 hL179
  refine own_step (fun _ kc_ => sp179 _ kc_) ?_
  show own_Ends p e below s _ _ _ (T179.setTop (mkF m 22 #[.val (.ref ba), .val (.ref fa), .val (.int (6 : Int32))] [(.int (6 : Int32)), (.int (6 : Int32)), (.ref ba)]))
  obtain ⟨T180, h180, X180, e180, W180, A180, st180⟩ := own_iastore X179 hx hZ e179 A_ba_178 (j := (6 : Int32)) (x := (6 : Int32)) (by decide) (i := 6) rfl (Nat.le_of_ble_eq_true rfl) (Ls := #[.val (.ref ba), .val (.ref fa), .val (.int (6 : Int32))]) (st := []) (hb hby d10_22)
  have A_ba_180 : own_Ar Z h180 ba .int [(.int (0 : Int32)), (.int (1 : Int32)), (.int (2 : Int32)), (.int (3 : Int32)), (.int (4 : Int32)), (.int (5 : Int32)), (.int (6 : Int32))] := A180
  have K180 := (K178).wr W180 (Or.inl (List.mem_of_getElem? (i := 0) rfl))
  have Zs180 := Nat.le_trans Zs178 (Nat.le_of_eq W180.size.symm)
  have N180 := Fr.snoc X180 N179 g0
  refine own_step (fun _ kc_ => st180 _ kc_) ?_
  show own_Ends p e below s _ _ _ (T180.setTop (mkF m 23 #[.val (.ref ba), .val (.ref fa), .val (.int (6 : Int32))] []))
  have Fn180 := own_fn_wr Fn178 W180
  refine own_step (fun _ kc_ => XS.iinc X180.here hx rfl (hb hby d10_23) rfl (l' := #[.val (.ref ba), .val (.ref fa), .val (.int ((6 : Int32) + (1 : Int32)))]) rfl kc_) ?_
  show own_Ends p e below s _ _ _ (T180.setTop (mkF m 26 #[.val (.ref ba), .val (.ref fa), .val (.int ((6 : Int32) + (1 : Int32)))] []))
  rw [show ((6 : Int32) + (1 : Int32)) = (7 : Int32) from by decide]
  show own_Ends p e below s _ _ _ (T180.setTop (mkF m 26 #[.val (.ref ba), .val (.ref fa), .val (.int (7 : Int32))] []))
  refine own_step (fun _ kc_ => XS.goto X180.here hx rfl (pc0 := 26) (pc' := 7) rfl (hb hby d10_26) (by decide) (by decide) (XS.iloadN X180.here hx rfl (hb hby d10_7) rfl (XS.aloadN X180.here hx rfl (hb hby d10_8) rfl rfl (own_alen X180 hx hZ e180 A_ba_180 (n := 7) (z := (7 : Int32)) rfl rfl (hb hby d10_9) _ (XS.icmpYes X180.here hx rfl (pc0 := 10) (pc' := 29) rfl (hb hby d10_10) rfl (XT.ii_ge_t (by decide : ¬ ((7 : Int32) < (7 : Int32)))) (by decide) (by decide) kc_))))) ?_
  show own_Ends p e below s _ _ _ (T180.setTop (mkF m 29 #[.val (.ref ba), .val (.ref fa), .val (.int (7 : Int32))] []))
  exact own_retV X180 hx hret hlk (hb hby d10_29) (by decide) (by decide) (by rw [e180]; exact ⟨rfl, N180, K180, A_ba_180⟩)
theorem ef_rmB7 (m : MethodId) (oo : Addr) : entryFrame m #[(.ref oo), (.int (7 : Int32))] 9 = mkF m 0 #[.val (.ref oo), .val (.int (7 : Int32)), .unset, .unset, .unset, .unset, .unset, .unset, .unset] [] := by first | (simp [entryFrame, mkF, argsToLocals, Value.category]; done) | rfl
def QB7 (Z : State) (oo : Addr)  (h0 : Heap) (n0 : Nat) (v : Option Value) (h : Heap) (L : List Loc) : Prop := Fr n0 L ∧ Keep h0 h [] ∧ ∃ ba, v = some (.ref ba) ∧ own_Ar Z h ba .int [(.int (0 : Int32)), (.int (1 : Int32)), (.int (2 : Int32)), (.int (3 : Int32)), (.int (4 : Int32)), (.int (5 : Int32)), (.int (6 : Int32))]
set_option maxRecDepth 65536 in
set_option maxHeartbeats 40000000 in
theorem rmB7 (l : Launch) (Z : State) (a0 : Array Value) (hw : ∀ d ∈ tables_1, d.before a0 Z = true) (ws : List Jvm.Cond) (oo : Addr)  (h0 : Heap) (n0 : Nat) (Z0 : n0 ≤ h0.size) (f0 : Fld Z h0 oo "com/example/kinds_by_value/kindsbyvalue/NameSet" "everyName" "Z" (.int (1 : Int32))) :
    MetFree l (⟨"com/example/kinds_by_value/kindsbyvalue/NameSet", "below", "(I)[I"⟩ : MethodName) (head1 (Jvm.Cond.code (⟨"com/example/kinds_by_value/kindsbyvalue/NameSet", "below", "(I)[I"⟩ : MethodName) prog_9_method_6_code 9 (some (.array .int)) :: ws) ({ frames := 3, cells := 1, slots := 7, locals := 3100 } : Room)) (fun a U => a = #[(.ref oo), (.int (7 : Int32))] ∧ Z.Warmed39 U.vm ∧ U.heap = h0 ∧ own_Site U) (fun _ _ _ _ _ => True) (fun _ U o U' => ∃ v L, o = .returned v ∧ QB7 Z oo  h0 n0 v U'.heap L ∧ FrameEnd U o U' L ({ frames := 3, cells := 1, slots := 7, locals := 3100 } : Room).cells ({ frames := 3, cells := 1, slots := 7, locals := 3100 } : Room).slots) := by
  refine MetFree.of_bodySF (plainFor_of_name pn_2) hisR ?_
  intro p e s m args below meth c s₁ Bd hml0 hP hK
  obtain ⟨rfl, hZ, hh, hEx⟩ := hP
  have hx := Bd.exec
  have hby := Bd.bytes
  have hlk : meth.locks = false := BodyLoose.notSynchronized Bd
  have hret := Bd.returns
  have hml : c.maxLocals = 9 := hml0
  have hown : s.vm.findClass "com/example/kinds_by_value/kindsbyvalue/NameSet" = some m.cls := findClass_of_methodNamed Bd.named
  have hnm := (name_of_methodNamed Bd.named Bd.method).1
  have X0 : Stand p l e ({ frames := 3, cells := 1, slots := 7, locals := 3100 } : Room) s m #[(.ref oo), (.int (7 : Int32))] below meth c s₁ [] 0 0 := Stand.of_body Bd
  have e0 : s₁.heap = h0 := by rw [← hh, Bd.state]; rfl
  have N0 := Fr.nil n0
  show own_Ends p e below s 1 7 (QB7 Z oo  h0 n0) (s₁.setTop (entryFrame m #[(.ref oo), (.int (7 : Int32))] 9))
  refine own_step (fun t k => castTop (ef_rmB7 m oo) k) ?_
  show own_Ends p e below s _ _ _ (s₁.setTop (mkF m 0 #[.val (.ref oo), .val (.int (7 : Int32)), .unset, .unset, .unset, .unset, .unset, .unset, .unset] []))
  refine own_step (fun _ kc_ => XS.aloadN X0.here hx rfl (hb hby d9_0) rfl rfl kc_) ?_
  show own_Ends p e below s _ _ _ (s₁.setTop (mkF m 1 #[.val (.ref oo), .val (.int (7 : Int32)), .unset, .unset, .unset, .unset, .unset, .unset, .unset] [(.ref oo)]))
  obtain ⟨T181, X181, e181, st181⟩ := getF X0 hx hZ hown (host := "") (Or.inl (hw _ (List.mem_of_getElem? (i := 17) rfl))) Via.refl e0 f0 (g := (mkF m 1 #[.val (.ref oo), .val (.int (7 : Int32)), .unset, .unset, .unset, .unset, .unset, .unset, .unset] [(.ref oo)])) rfl rfl (hb hby d9_1)
  refine own_step (fun _ kc_ => st181 _ kc_) ?_
  show own_Ends p e below s _ _ _ (T181.setTop (mkF m 4 #[.val (.ref oo), .val (.int (7 : Int32)), .unset, .unset, .unset, .unset, .unset, .unset, .unset] [(.int (1 : Int32))]))
  refine own_step (fun _ kc_ => XS.ifNo X181.here hx rfl (hb hby d9_4) rfl (XT.i0_eq_f (by decide : ¬ ((1 : Int32) = 0))) (XS.iloadN X181.here hx rfl (hb hby d9_7) rfl kc_)) ?_
  show own_Ends p e below s _ _ _ (T181.setTop (mkF m 8 #[.val (.ref oo), .val (.int (7 : Int32)), .unset, .unset, .unset, .unset, .unset, .unset, .unset] [(.int (7 : Int32))]))
  obtain ⟨T182, h182, k182, X182, e182, E182, A182, st182⟩ := newP X181 hx hZ (hw _ (List.mem_of_getElem? (i := 59) rfl)) e181 (g := (mkF m 8 #[.val (.ref oo), .val (.int (7 : Int32)), .unset, .unset, .unset, .unset, .unset, .unset, .unset] [(.int (7 : Int32))])) rfl (hb hby d9_8) rfl (by decide) (cap := 7) (by decide) (by decide) (by decide : 0 + 1 ≤ _) (by decide : 0 + 7 ≤ _)
  obtain ⟨b182, g182⟩ : ∃ z, z = h0.size := ⟨_, rfl⟩
  rw [← g182] at A182 st182
  have ne_oo_b182 : oo ≠ b182 := Nat.ne_of_lt (Nat.lt_of_lt_of_le (f0).lt (Nat.le_of_eq g182.symm))
  have n0_b182 : n0 ≤ b182 := Nat.le_trans Z0 (Nat.le_of_eq g182.symm)
  have h0_b182 : h0.size ≤ b182 := Nat.le_trans ((Keep.refl h0 [])).1 (Nat.le_of_eq g182.symm)
  have F_oo_everyName_182 := (f0).ext E182
  have K182 := ((Keep.refl h0 [])).ext E182
  have Zs182 := Nat.le_trans Z0 E182.1
  have A_b182 : own_Ar Z h182 b182 .int [(.int (0 : Int32)), (.int (0 : Int32)), (.int (0 : Int32)), (.int (0 : Int32)), (.int (0 : Int32)), (.int (0 : Int32)), (.int (0 : Int32))] := own_Ar.new A182 (by decide)
  refine own_step (fun _ kc_ => st182 _ kc_) ?_
  show own_Ends p e below s _ _ _ (T182.setTop (mkF m 10 #[.val (.ref oo), .val (.int (7 : Int32)), .unset, .unset, .unset, .unset, .unset, .unset, .unset] [(.ref b182)]))
  refine own_step (fun _ kc_ => XS.astoreN X182.here hx rfl (hb hby d9_10) rfl rfl (l' := #[.val (.ref oo), .val (.int (7 : Int32)), .val (.ref b182), .unset, .unset, .unset, .unset, .unset, .unset]) rfl (XS.aloadN X182.here hx rfl (hb hby d9_11) rfl rfl kc_)) ?_
  show own_Ends p e below s _ _ _ (T182.setTop (mkF m 12 #[.val (.ref oo), .val (.int (7 : Int32)), .val (.ref b182), .unset, .unset, .unset, .unset, .unset, .unset] [(.ref b182)]))
  have hst : (Cond.lambdaSite own_bel 12 53 own_sg).before #[(.ref oo), (.int (7 : Int32))] s = true := own_siteC hEx
  obtain ⟨fa, cK, hMade, hFn, sp183⟩ := Jvm.LamKit.siteConst X182 hx (x := own_bel) Bd.named hst rfl (g := (mkF m 12 #[.val (.ref oo), .val (.int (7 : Int32)), .val (.ref b182), .unset, .unset, .unset, .unset, .unset, .unset] [(.ref b182)])) rfl rfl (by rw [hml]; rfl) (hb hby d9_12) (Nat.le_of_ble_eq_true rfl)
  have hFn2 : Jvm.LamKit.FnAt h182 fa cK := by rw [← e182]; exact hFn
  refine own_step (fun _ kc_ => sp183 _ kc_) ?_
  show own_Ends p e below s _ _ _ (T182.setTop (mkF m 17 #[.val (.ref oo), .val (.int (7 : Int32)), .val (.ref b182), .unset, .unset, .unset, .unset, .unset, .unset] [(.ref fa), (.ref b182)]))
  obtain ⟨_, _, ⟨T184, L184, k184, n184⟩, -, X184, ⟨Lc184, hQ184, l184, y184, z184⟩, st184⟩ := Jvm.LawKit.callS X182 hx (y := (⟨"java/util/Arrays", "setAll", "([ILjava/util/function/IntUnaryOperator;)V"⟩ : MethodName)) hown (mvT hZ (hw _ (List.mem_of_getElem? (i := 62) rfl))) (mvT hZ (hw _ (List.mem_of_getElem? (i := 63) rfl))) (mvT hZ (hw _ (List.mem_of_getElem? (i := 64) rfl))) (mvT hZ (hw _ (List.mem_of_getElem? (i := 65) rfl))) (by decide) (own_backX (W := 0) (rmS7 l Z a0 hw [] b182 fa cK h182 n0 Zs182 A_b182 hFn2 n0_b182) hZ (hw _ (List.mem_of_getElem? (i := 65) rfl)) (hw _ (List.mem_of_getElem? (i := 64) rfl)) (by decide) (by decide) (fun _ _ _ _ _ _ _ Y => own_made_at hMade Y)) (g := (mkF m 17 #[.val (.ref oo), .val (.int (7 : Int32)), .val (.ref b182), .unset, .unset, .unset, .unset, .unset, .unset] [(.ref fa), (.ref b182)])) rfl (by rw [hml]; rfl) (argsL := [(.ref b182), (.ref fa)]) (rest := []) (lenOf pd_6 rfl) rfl (by show 2 * 0 + _ ≤ _; exact Nat.le_of_eq rfl) (hb hby d9_17) (fun _ _ => ⟨rfl, e182, (by decide : 1 + 0 ≤ _), (by decide : 7 + 0 ≤ _)⟩)
  dsimp only [Pt.U, Pt.locs, Pt.cells, Pt.slots] at X184 l184 y184 z184 st184 hQ184
  subst y184 z184
  obtain ⟨rfl, N184q, K184k, A184k⟩ := hQ184
  have F_oo_everyName_184 := (F_oo_everyName_182).keep K184k (ninS ne_oo_b182 nin0)
  have K184 := (K182).trans K184k (allS (Or.inr h0_b182) all0)
  have Zs184 := Nat.le_trans Zs182 K184k.1
  have N184 : Fr n0 L184 := by rw [l184]; exact Fr.app N0 N184q
  refine own_step (fun _ kc_ => st184 _ kc_) ?_
  show own_Ends p e below s _ _ _ (T184.setTop (mkF m 20 #[.val (.ref oo), .val (.int (7 : Int32)), .val (.ref b182), .unset, .unset, .unset, .unset, .unset, .unset] []))
  refine own_step (fun _ kc_ => XS.goto X184.here hx rfl (pc0 := 20) (pc' := 95) rfl (hb hby d9_20) (by decide) (by decide) (XS.aloadN X184.here hx rfl (hb hby d9_95) rfl rfl kc_)) ?_
  show own_Ends p e below s _ _ _ (T184.setTop (mkF m 96 #[.val (.ref oo), .val (.int (7 : Int32)), .val (.ref b182), .unset, .unset, .unset, .unset, .unset, .unset] [(.ref b182)]))
  exact own_retR X184 hx hret rfl rfl rfl hlk (hb hby d9_96) (by decide) (by decide) (by exact ⟨N184, K184, b182, rfl, A184k⟩)
theorem pd_7 : parseMethodDescriptor "(I)V" = some ⟨[.int], none⟩ := by decide +kernel
theorem pd_8 : parseMethodDescriptor "()Z" = some ⟨[], some .boolean⟩ := by decide +kernel
theorem pd_9 : parseMethodDescriptor "()I" = some ⟨[], some .int⟩ := by decide +kernel
theorem pd_10 : parseMethodDescriptor "(Ljava/lang/Object;)Z" = some ⟨[(.object "java/lang/Object")], some .boolean⟩ := by decide +kernel
theorem pd_11 : parseMethodDescriptor "([II)Z" = some ⟨[(.array .int), .int], some .boolean⟩ := by decide +kernel
def Q0 (Z : State) (p1 : Int32) (p2 : Int32) (p3 : Int32) (p4 : Int32) (p5 : Int32)  (h0 : Heap) (n0 : Nat) (v : Option Value) (h : Heap) (L : List Loc) : Prop := v = some (.int (1 : Int32)) ∧ Fr n0 L
set_option maxRecDepth 65536 in
set_option maxHeartbeats 40000000 in
theorem seg_67 {p : Program} {l : Launch} {e : Env} {s : State} {m : MethodId} {below : List Frame} {meth : Method} {c : Code} {Z : State} {a0 : Array Value} (hw : ∀ d ∈ tables_1, d.before a0 Z = true) (hZ : Z.Warmed39 s.vm) (hx : p.tables.exec = Jvm.exec) (hby : c.code = code) (hlk : meth.locks = false) (hret : meth.sig.returnType = some .boolean) (hml : c.maxLocals = 17) (hown : s.vm.findClass "com/example/kinds_by_value/kindsbyvalue/NameSetAddEveryNamePinLaw" = some m.cls) (p1 : Int32) (p2 : Int32) (p3 : Int32) (p4 : Int32) (p5 : Int32)  {h0 : Heap} {n0 : Nat} {nc : Int32} {so to : Addr} (hS : own_Site s) {h : Heap}  :
    ∀ {T : State} {locs : List Loc} {cells slots : Nat} (X : Stand p l e room_1 s m #[(.int p1), (.int p2), (.int p3), (.int p4), (.int p5)] below meth c T locs cells slots) (e0 : T.heap = h) (N0 : Fr n0 locs) (Z0 : n0 ≤ h.size) (hcs : cells ≤ 6) (hsl : slots ≤ 100) (Es : Exa Z h so "com/example/kinds_by_value/kindsbyvalue/NameSet") (Et : Exa Z h to "com/example/kinds_by_value/kindsbyvalue/NameSet") (so0 : Fld Z h so "com/example/kinds_by_value/kindsbyvalue/NameSet" "everyName" "Z" (.int (1 : Int32))) (so1 : Fld Z h so "com/example/kinds_by_value/kindsbyvalue/NameSet" "bits" "[J" .null) (so2 : Fld Z h so "com/example/kinds_by_value/kindsbyvalue/NameSet" "table" "[I" .null) (so3 : Fld Z h so "com/example/kinds_by_value/kindsbyvalue/NameSet" "size" "I" (.int (0 : Int32))) (so4 : Fld Z h so "com/example/kinds_by_value/kindsbyvalue/NameSet" "hash" "I" (.int (0 : Int32))) (to0 : Fld Z h to "com/example/kinds_by_value/kindsbyvalue/NameSet" "everyName" "Z" (.int (1 : Int32))) (to1 : Fld Z h to "com/example/kinds_by_value/kindsbyvalue/NameSet" "bits" "[J" .null) (to2 : Fld Z h to "com/example/kinds_by_value/kindsbyvalue/NameSet" "table" "[I" .null) (to3 : Fld Z h to "com/example/kinds_by_value/kindsbyvalue/NameSet" "size" "I" (.int (0 : Int32))) (to4 : Fld Z h to "com/example/kinds_by_value/kindsbyvalue/NameSet" "hash" "I" (.int (0 : Int32))), own_Ends p e below s 24 192 (Q0 Z p1 p2 p3 p4 p5  h0 n0) (T.setTop (mkF m 67 #[.val (.int p1), .val (.int p2), .val (.int p3), .val (.int p4), .val (.int p5), .val (.int nc), .val (.ref so), .val (.ref to), .unset, .unset, .unset, .unset, .unset, .unset, .unset, .unset, .unset] [])) := by
  intro T locs cells slots X e0 N0 Z0 hcs hsl Es Et so0 so1 so2 so3 so4 to0 to1 to2 to3 to4
  show own_Ends p e below s _ _ _ (T.setTop (mkF m 67 #[.val (.int p1), .val (.int p2), .val (.int p3), .val (.int p4), .val (.int p5), .val (.int nc), .val (.ref so), .val (.ref to), .unset, .unset, .unset, .unset, .unset, .unset, .unset, .unset, .unset] []))
  have J86 : ∀ (qq : Int32), own_Ends p e below s 24 192 (Q0 Z p1 p2 p3 p4 p5  h0 n0) (T.setTop (mkF m 86 #[.val (.int p1), .val (.int p2), .val (.int p3), .val (.int p4), .val (.int p5), .val (.int nc), .val (.ref so), .val (.ref to), .unset, .unset, .unset, .unset, .unset, .unset, .unset, .unset, .unset] [(.int qq)])) := by
    intro qq
    show own_Ends p e below s _ _ _ (T.setTop (mkF m 86 #[.val (.int p1), .val (.int p2), .val (.int p3), .val (.int p4), .val (.int p5), .val (.int nc), .val (.ref so), .val (.ref to), .unset, .unset, .unset, .unset, .unset, .unset, .unset, .unset, .unset] [(.int qq)]))
    refine own_step (fun _ kc_ => XS.istore X.here hx rfl (hb hby at_86) rfl (l' := #[.val (.int p1), .val (.int p2), .val (.int p3), .val (.int p4), .val (.int p5), .val (.int nc), .val (.ref so), .val (.ref to), .val (.int qq), .unset, .unset, .unset, .unset, .unset, .unset, .unset, .unset]) rfl (XS.iloadN X.here hx rfl (hb hby at_88) rfl (XS.bipush X.here hx rfl (hb hby at_89) (XS.iushr X.here hx rfl (hb hby at_91) rfl (XS.bipush X.here hx rfl (hb hby at_92) (XS.iand X.here hx rfl (hb hby at_94) rfl (XS.istore X.here hx rfl (hb hby at_95) rfl (l' := #[.val (.int p1), .val (.int p2), .val (.int p3), .val (.int p4), .val (.int p5), .val (.int nc), .val (.ref so), .val (.ref to), .val (.int qq), .val (.int (((p4.toUInt32 >>> ((10 : Int32) &&& 31).toUInt32).toInt32) &&& (7 : Int32))), .unset, .unset, .unset, .unset, .unset, .unset, .unset]) rfl kc_))))))) ?_
    show own_Ends p e below s _ _ _ (T.setTop (mkF m 97 #[.val (.int p1), .val (.int p2), .val (.int p3), .val (.int p4), .val (.int p5), .val (.int nc), .val (.ref so), .val (.ref to), .val (.int qq), .val (.int (((p4.toUInt32 >>> ((10 : Int32) &&& 31).toUInt32).toInt32) &&& (7 : Int32))), .unset, .unset, .unset, .unset, .unset, .unset, .unset] []))
    generalize hlim : (((p4.toUInt32 >>> ((10 : Int32) &&& 31).toUInt32).toInt32) &&& (7 : Int32)) = lim
    show own_Ends p e below s _ _ _ (T.setTop (mkF m 97 #[.val (.int p1), .val (.int p2), .val (.int p3), .val (.int p4), .val (.int p5), .val (.int nc), .val (.ref so), .val (.ref to), .val (.int qq), .val (.int lim), .unset, .unset, .unset, .unset, .unset, .unset, .unset] []))
    refine own_step (fun _ kc_ => XS.aload X.here hx rfl (hb hby at_97) rfl rfl kc_) ?_
    show own_Ends p e below s _ _ _ (T.setTop (mkF m 99 #[.val (.int p1), .val (.int p2), .val (.int p3), .val (.int p4), .val (.int p5), .val (.int nc), .val (.ref so), .val (.ref to), .val (.int qq), .val (.int lim), .unset, .unset, .unset, .unset, .unset, .unset, .unset] [(.ref so)]))
    obtain ⟨cq185, kq185, q185a, q185b, q185c⟩ := isOf hZ e0 Es
    obtain ⟨_, _, ⟨T185, L185, k185, n185⟩, -, X185, ⟨Lc185, hQ185, l185, y185, z185⟩, st185⟩ := X.virtualBack hx (y := (⟨"com/example/kinds_by_value/kindsbyvalue/NameSet", "holdsEveryName", "()Z"⟩ : MethodName)) (z := (⟨"com/example/kinds_by_value/kindsbyvalue/NameSet", "holdsEveryName", "()Z"⟩ : MethodName)) hown (mvT hZ (hw _ (List.mem_of_getElem? (i := 26) rfl))) (mvT hZ (hw _ (List.mem_of_getElem? (i := 27) rfl))) (notFace_of_selects (args := #[]) (mvT hZ (hw _ (List.mem_of_getElem? (i := 29) rfl)))) (mvT hZ (hw _ (List.mem_of_getElem? (i := 29) rfl))) (mvT hZ (hw _ (List.mem_of_getElem? (i := 28) rfl))) (by decide) (backOf (W := 0) (rm4 l Z a0 hw [] so  h n0 Z0 so0) hZ (hw _ (List.mem_of_getElem? (i := 30) rfl)) (hw _ (List.mem_of_getElem? (i := 2) rfl)) (by decide) (by decide)) q185a q185c (g := (mkF m 99 #[.val (.int p1), .val (.int p2), .val (.int p3), .val (.int p4), .val (.int p5), .val (.int nc), .val (.ref so), .val (.ref to), .val (.int qq), .val (.int lim), .unset, .unset, .unset, .unset, .unset, .unset, .unset] [(.ref so)])) rfl (by rw [hml]; rfl) (Steps.refl _) (argsL := []) (rest := []) (lenOf pd_8 rfl) rfl (by show 2 * 0 + _ ≤ _; exact Nat.le_of_eq rfl) (hb hby at_99) (fun _ _ => ⟨rfl, e0, (by show cells + 0 ≤ 24; omega), (by show slots + 0 ≤ 192; omega)⟩)
    dsimp only [Pt.U, Pt.locs, Pt.cells, Pt.slots] at X185 l185 y185 z185 st185 hQ185
    have y185_ : k185 = cells + 0 := y185
    have z185_ : n185 = slots + 0 := z185
    obtain ⟨rfl, N185q, e185⟩ := hQ185
    have e185h : T185.heap = h := e185
    have N185 : Fr n0 L185 := by rw [l185]; exact Fr.app N0 N185q
    refine own_step (fun _ kc_ => st185.trans kc_) ?_
    show own_Ends p e below s _ _ _ (T185.setTop (mkF m 102 #[.val (.int p1), .val (.int p2), .val (.int p3), .val (.int p4), .val (.int p5), .val (.int nc), .val (.ref so), .val (.ref to), .val (.int qq), .val (.int lim), .unset, .unset, .unset, .unset, .unset, .unset, .unset] [(.int (1 : Int32))]))
    refine own_step (fun _ kc_ => XS.istore X185.here hx rfl (hb hby at_102) rfl (l' := #[.val (.int p1), .val (.int p2), .val (.int p3), .val (.int p4), .val (.int p5), .val (.int nc), .val (.ref so), .val (.ref to), .val (.int qq), .val (.int lim), .val (.int (1 : Int32)), .unset, .unset, .unset, .unset, .unset, .unset]) rfl (XS.aload X185.here hx rfl (hb hby at_104) rfl rfl (XS.iload X185.here hx rfl (hb hby at_106) rfl kc_))) ?_
    show own_Ends p e below s _ _ _ (T185.setTop (mkF m 108 #[.val (.int p1), .val (.int p2), .val (.int p3), .val (.int p4), .val (.int p5), .val (.int nc), .val (.ref so), .val (.ref to), .val (.int qq), .val (.int lim), .val (.int (1 : Int32)), .unset, .unset, .unset, .unset, .unset, .unset] [(.int qq), (.ref so)]))
    obtain ⟨cq186, kq186, q186a, q186b, q186c⟩ := isOf hZ e185h Es
    obtain ⟨_, _, ⟨T186, L186, k186, n186⟩, -, X186, ⟨Lc186, hQ186, l186, y186, z186⟩, st186⟩ := X185.virtualBack hx (y := (⟨"com/example/kinds_by_value/kindsbyvalue/NameSet", "contains", "(I)Z"⟩ : MethodName)) (z := (⟨"com/example/kinds_by_value/kindsbyvalue/NameSet", "contains", "(I)Z"⟩ : MethodName)) hown (mvT hZ (hw _ (List.mem_of_getElem? (i := 31) rfl))) (mvT hZ (hw _ (List.mem_of_getElem? (i := 32) rfl))) (notFace_of_selects (args := #[]) (mvT hZ (hw _ (List.mem_of_getElem? (i := 34) rfl)))) (mvT hZ (hw _ (List.mem_of_getElem? (i := 34) rfl))) (mvT hZ (hw _ (List.mem_of_getElem? (i := 33) rfl))) (by decide) (backOf (W := 0) (rmCE l Z a0 hw [] so qq  h n0 Z0 so0) hZ (hw _ (List.mem_of_getElem? (i := 35) rfl)) (hw _ (List.mem_of_getElem? (i := 2) rfl)) (by decide) (by decide)) q186a q186c (g := (mkF m 108 #[.val (.int p1), .val (.int p2), .val (.int p3), .val (.int p4), .val (.int p5), .val (.int nc), .val (.ref so), .val (.ref to), .val (.int qq), .val (.int lim), .val (.int (1 : Int32)), .unset, .unset, .unset, .unset, .unset, .unset] [(.int qq), (.ref so)])) rfl (by rw [hml]; rfl) (Steps.refl _) (argsL := [(.int qq)]) (rest := []) (lenOf pd_4 rfl) rfl (by show 2 * 0 + _ ≤ _; exact Nat.le_of_eq rfl) (hb hby at_108) (fun _ _ => ⟨rfl, e185h, (by show k185 + 0 ≤ 24; omega), (by show n185 + 0 ≤ 192; omega)⟩)
    dsimp only [Pt.U, Pt.locs, Pt.cells, Pt.slots] at X186 l186 y186 z186 st186 hQ186
    have y186_ : k186 = k185 + 0 := y186
    have z186_ : n186 = n185 + 0 := z186
    obtain ⟨rfl, N186q, e186⟩ := hQ186
    have e186h : T186.heap = h := e186
    have N186 : Fr n0 L186 := by rw [l186]; exact Fr.app N185 N186q
    refine own_step (fun _ kc_ => st186.trans kc_) ?_
    show own_Ends p e below s _ _ _ (T186.setTop (mkF m 111 #[.val (.int p1), .val (.int p2), .val (.int p3), .val (.int p4), .val (.int p5), .val (.int nc), .val (.ref so), .val (.ref to), .val (.int qq), .val (.int lim), .val (.int (1 : Int32)), .unset, .unset, .unset, .unset, .unset, .unset] [(.int (1 : Int32))]))
    refine own_step (fun _ kc_ => XS.istore X186.here hx rfl (hb hby at_111) rfl (l' := #[.val (.int p1), .val (.int p2), .val (.int p3), .val (.int p4), .val (.int p5), .val (.int nc), .val (.ref so), .val (.ref to), .val (.int qq), .val (.int lim), .val (.int (1 : Int32)), .val (.int (1 : Int32)), .unset, .unset, .unset, .unset, .unset]) rfl (XS.aload X186.here hx rfl (hb hby at_113) rfl rfl (XS.iload X186.here hx rfl (hb hby at_115) rfl kc_))) ?_
    show own_Ends p e below s _ _ _ (T186.setTop (mkF m 117 #[.val (.int p1), .val (.int p2), .val (.int p3), .val (.int p4), .val (.int p5), .val (.int nc), .val (.ref so), .val (.ref to), .val (.int qq), .val (.int lim), .val (.int (1 : Int32)), .val (.int (1 : Int32)), .unset, .unset, .unset, .unset, .unset] [(.int qq), (.ref so)]))
    obtain ⟨cq187, kq187, q187a, q187b, q187c⟩ := isOf hZ e186h Es
    obtain ⟨_, _, ⟨T187, L187, k187, n187⟩, -, X187, ⟨Lc187, hQ187, l187, y187, z187⟩, st187⟩ := X186.virtualBack hx (y := (⟨"com/example/kinds_by_value/kindsbyvalue/NameSet", "add", "(I)Z"⟩ : MethodName)) (z := (⟨"com/example/kinds_by_value/kindsbyvalue/NameSet", "add", "(I)Z"⟩ : MethodName)) hown (mvT hZ (hw _ (List.mem_of_getElem? (i := 36) rfl))) (mvT hZ (hw _ (List.mem_of_getElem? (i := 37) rfl))) (notFace_of_selects (args := #[]) (mvT hZ (hw _ (List.mem_of_getElem? (i := 39) rfl)))) (mvT hZ (hw _ (List.mem_of_getElem? (i := 39) rfl))) (mvT hZ (hw _ (List.mem_of_getElem? (i := 38) rfl))) (by decide) (backOf (W := 0) (rmAE l Z a0 hw [] so qq  h n0 Z0 Es so0) hZ (hw _ (List.mem_of_getElem? (i := 40) rfl)) (hw _ (List.mem_of_getElem? (i := 2) rfl)) (by decide) (by decide)) q187a q187c (g := (mkF m 117 #[.val (.int p1), .val (.int p2), .val (.int p3), .val (.int p4), .val (.int p5), .val (.int nc), .val (.ref so), .val (.ref to), .val (.int qq), .val (.int lim), .val (.int (1 : Int32)), .val (.int (1 : Int32)), .unset, .unset, .unset, .unset, .unset] [(.int qq), (.ref so)])) rfl (by rw [hml]; rfl) (Steps.refl _) (argsL := [(.int qq)]) (rest := []) (lenOf pd_4 rfl) rfl (by show 2 * 0 + _ ≤ _; exact Nat.le_of_eq rfl) (hb hby at_117) (fun _ _ => ⟨rfl, e186h, (by show k186 + 0 ≤ 24; omega), (by show n186 + 0 ≤ 192; omega)⟩)
    dsimp only [Pt.U, Pt.locs, Pt.cells, Pt.slots] at X187 l187 y187 z187 st187 hQ187
    have y187_ : k187 = k186 + 0 := y187
    have z187_ : n187 = n186 + 0 := z187
    obtain ⟨rfl, N187q, e187⟩ := hQ187
    have e187h : T187.heap = h := e187
    have N187 : Fr n0 L187 := by rw [l187]; exact Fr.app N186 N187q
    refine own_step (fun _ kc_ => st187.trans kc_) ?_
    show own_Ends p e below s _ _ _ (T187.setTop (mkF m 120 #[.val (.int p1), .val (.int p2), .val (.int p3), .val (.int p4), .val (.int p5), .val (.int nc), .val (.ref so), .val (.ref to), .val (.int qq), .val (.int lim), .val (.int (1 : Int32)), .val (.int (1 : Int32)), .unset, .unset, .unset, .unset, .unset] [(.int (0 : Int32))]))
    refine own_step (fun _ kc_ => XS.istore X187.here hx rfl (hb hby at_120) rfl (l' := #[.val (.int p1), .val (.int p2), .val (.int p3), .val (.int p4), .val (.int p5), .val (.int nc), .val (.ref so), .val (.ref to), .val (.int qq), .val (.int lim), .val (.int (1 : Int32)), .val (.int (1 : Int32)), .val (.int (0 : Int32)), .unset, .unset, .unset, .unset]) rfl (XS.aload X187.here hx rfl (hb hby at_122) rfl rfl kc_)) ?_
    show own_Ends p e below s _ _ _ (T187.setTop (mkF m 124 #[.val (.int p1), .val (.int p2), .val (.int p3), .val (.int p4), .val (.int p5), .val (.int nc), .val (.ref so), .val (.ref to), .val (.int qq), .val (.int lim), .val (.int (1 : Int32)), .val (.int (1 : Int32)), .val (.int (0 : Int32)), .unset, .unset, .unset, .unset] [(.ref so)]))
    obtain ⟨cq188, kq188, q188a, q188b, q188c⟩ := isOf hZ e187h Es
    obtain ⟨_, _, ⟨T188, L188, k188, n188⟩, -, X188, ⟨Lc188, hQ188, l188, y188, z188⟩, st188⟩ := X187.virtualBack hx (y := (⟨"com/example/kinds_by_value/kindsbyvalue/NameSet", "hashCode", "()I"⟩ : MethodName)) (z := (⟨"com/example/kinds_by_value/kindsbyvalue/NameSet", "hashCode", "()I"⟩ : MethodName)) hown (mvT hZ (hw _ (List.mem_of_getElem? (i := 42) rfl))) (mvT hZ (hw _ (List.mem_of_getElem? (i := 43) rfl))) (notFace_of_selects (args := #[]) (mvT hZ (hw _ (List.mem_of_getElem? (i := 45) rfl)))) (mvT hZ (hw _ (List.mem_of_getElem? (i := 45) rfl))) (mvT hZ (hw _ (List.mem_of_getElem? (i := 44) rfl))) (by decide) (backOf (W := 0) (rmH1 l Z a0 hw [] so  h n0 Z0 so0) hZ (hw _ (List.mem_of_getElem? (i := 46) rfl)) (hw _ (List.mem_of_getElem? (i := 2) rfl)) (by decide) (by decide)) q188a q188c (g := (mkF m 124 #[.val (.int p1), .val (.int p2), .val (.int p3), .val (.int p4), .val (.int p5), .val (.int nc), .val (.ref so), .val (.ref to), .val (.int qq), .val (.int lim), .val (.int (1 : Int32)), .val (.int (1 : Int32)), .val (.int (0 : Int32)), .unset, .unset, .unset, .unset] [(.ref so)])) rfl (by rw [hml]; rfl) (Steps.refl _) (argsL := []) (rest := []) (lenOf pd_9 rfl) rfl (by show 2 * 0 + _ ≤ _; exact Nat.le_of_eq rfl) (hb hby at_124) (fun _ _ => ⟨rfl, e187h, (by show k187 + 0 ≤ 24; omega), (by show n187 + 0 ≤ 192; omega)⟩)
    dsimp only [Pt.U, Pt.locs, Pt.cells, Pt.slots] at X188 l188 y188 z188 st188 hQ188
    have y188_ : k188 = k187 + 0 := y188
    have z188_ : n188 = n187 + 0 := z188
    obtain ⟨rfl, N188q, e188⟩ := hQ188
    have e188h : T188.heap = h := e188
    have N188 : Fr n0 L188 := by rw [l188]; exact Fr.app N187 N188q
    refine own_step (fun _ kc_ => st188.trans kc_) ?_
    show own_Ends p e below s _ _ _ (T188.setTop (mkF m 127 #[.val (.int p1), .val (.int p2), .val (.int p3), .val (.int p4), .val (.int p5), .val (.int nc), .val (.ref so), .val (.ref to), .val (.int qq), .val (.int lim), .val (.int (1 : Int32)), .val (.int (1 : Int32)), .val (.int (0 : Int32)), .unset, .unset, .unset, .unset] [(.int (-1 : Int32))]))
    refine own_step (fun _ kc_ => XS.istore X188.here hx rfl (hb hby at_127) rfl (l' := #[.val (.int p1), .val (.int p2), .val (.int p3), .val (.int p4), .val (.int p5), .val (.int nc), .val (.ref so), .val (.ref to), .val (.int qq), .val (.int lim), .val (.int (1 : Int32)), .val (.int (1 : Int32)), .val (.int (0 : Int32)), .val (.int (-1 : Int32)), .unset, .unset, .unset]) rfl (XS.aload X188.here hx rfl (hb hby at_129) rfl rfl (XS.aload X188.here hx rfl (hb hby at_131) rfl rfl kc_))) ?_
    show own_Ends p e below s _ _ _ (T188.setTop (mkF m 133 #[.val (.int p1), .val (.int p2), .val (.int p3), .val (.int p4), .val (.int p5), .val (.int nc), .val (.ref so), .val (.ref to), .val (.int qq), .val (.int lim), .val (.int (1 : Int32)), .val (.int (1 : Int32)), .val (.int (0 : Int32)), .val (.int (-1 : Int32)), .unset, .unset, .unset] [(.ref to), (.ref so)]))
    obtain ⟨cq189, kq189, q189a, q189b, q189c⟩ := isOf hZ e188h Es
    obtain ⟨_, _, ⟨T189, L189, k189, n189⟩, -, X189, ⟨Lc189, hQ189, l189, y189, z189⟩, st189⟩ := X188.virtualBack hx (y := (⟨"com/example/kinds_by_value/kindsbyvalue/NameSet", "equals", "(Ljava/lang/Object;)Z"⟩ : MethodName)) (z := (⟨"com/example/kinds_by_value/kindsbyvalue/NameSet", "equals", "(Ljava/lang/Object;)Z"⟩ : MethodName)) hown (mvT hZ (hw _ (List.mem_of_getElem? (i := 47) rfl))) (mvT hZ (hw _ (List.mem_of_getElem? (i := 48) rfl))) (notFace_of_selects (args := #[]) (mvT hZ (hw _ (List.mem_of_getElem? (i := 50) rfl)))) (mvT hZ (hw _ (List.mem_of_getElem? (i := 50) rfl))) (mvT hZ (hw _ (List.mem_of_getElem? (i := 49) rfl))) (by decide) (backOf (W := 0) (rm8 l Z a0 hw [] so to  h n0 Z0 Et so0 so1 so3 so4 to0 to3 to4) hZ (hw _ (List.mem_of_getElem? (i := 51) rfl)) (hw _ (List.mem_of_getElem? (i := 2) rfl)) (by decide) (by decide)) q189a q189c (g := (mkF m 133 #[.val (.int p1), .val (.int p2), .val (.int p3), .val (.int p4), .val (.int p5), .val (.int nc), .val (.ref so), .val (.ref to), .val (.int qq), .val (.int lim), .val (.int (1 : Int32)), .val (.int (1 : Int32)), .val (.int (0 : Int32)), .val (.int (-1 : Int32)), .unset, .unset, .unset] [(.ref to), (.ref so)])) rfl (by rw [hml]; rfl) (Steps.refl _) (argsL := [(.ref to)]) (rest := []) (lenOf pd_10 rfl) rfl (by show 2 * 0 + _ ≤ _; exact Nat.le_of_eq rfl) (hb hby at_133) (fun _ _ => ⟨rfl, e188h, (by show k188 + 0 ≤ 24; omega), (by show n188 + 0 ≤ 192; omega)⟩)
    dsimp only [Pt.U, Pt.locs, Pt.cells, Pt.slots] at X189 l189 y189 z189 st189 hQ189
    have y189_ : k189 = k188 + 0 := y189
    have z189_ : n189 = n188 + 0 := z189
    obtain ⟨rfl, N189q, e189⟩ := hQ189
    have e189h : T189.heap = h := e189
    have N189 : Fr n0 L189 := by rw [l189]; exact Fr.app N188 N189q
    refine own_step (fun _ kc_ => st189.trans kc_) ?_
    show own_Ends p e below s _ _ _ (T189.setTop (mkF m 136 #[.val (.int p1), .val (.int p2), .val (.int p3), .val (.int p4), .val (.int p5), .val (.int nc), .val (.ref so), .val (.ref to), .val (.int qq), .val (.int lim), .val (.int (1 : Int32)), .val (.int (1 : Int32)), .val (.int (0 : Int32)), .val (.int (-1 : Int32)), .unset, .unset, .unset] [(.int (1 : Int32))]))
    refine own_step (fun _ kc_ => XS.istore X189.here hx rfl (hb hby at_136) rfl (l' := #[.val (.int p1), .val (.int p2), .val (.int p3), .val (.int p4), .val (.int p5), .val (.int nc), .val (.ref so), .val (.ref to), .val (.int qq), .val (.int lim), .val (.int (1 : Int32)), .val (.int (1 : Int32)), .val (.int (0 : Int32)), .val (.int (-1 : Int32)), .val (.int (1 : Int32)), .unset, .unset]) rfl kc_) ?_
    show own_Ends p e below s _ _ _ (T189.setTop (mkF m 138 #[.val (.int p1), .val (.int p2), .val (.int p3), .val (.int p4), .val (.int p5), .val (.int nc), .val (.ref so), .val (.ref to), .val (.int qq), .val (.int lim), .val (.int (1 : Int32)), .val (.int (1 : Int32)), .val (.int (0 : Int32)), .val (.int (-1 : Int32)), .val (.int (1 : Int32)), .unset, .unset] []))
    rcases own_lim p4 hlim with hK | hK | hK | hK | hK | hK | hK | hK <;> rw [hK]
    · show own_Ends p e below s _ _ _ (T189.setTop (mkF m 138 #[.val (.int p1), .val (.int p2), .val (.int p3), .val (.int p4), .val (.int p5), .val (.int nc), .val (.ref so), .val (.ref to), .val (.int qq), .val (.int (0 : Int32)), .val (.int (1 : Int32)), .val (.int (1 : Int32)), .val (.int (0 : Int32)), .val (.int (-1 : Int32)), .val (.int (1 : Int32)), .unset, .unset] []))
      refine own_step (fun _ kc_ => XS.aload X189.here hx rfl (hb hby at_138) rfl rfl (XS.iload X189.here hx rfl (hb hby at_140) rfl kc_)) ?_
      show own_Ends p e below s _ _ _ (T189.setTop (mkF m 142 #[.val (.int p1), .val (.int p2), .val (.int p3), .val (.int p4), .val (.int p5), .val (.int nc), .val (.ref so), .val (.ref to), .val (.int qq), .val (.int (0 : Int32)), .val (.int (1 : Int32)), .val (.int (1 : Int32)), .val (.int (0 : Int32)), .val (.int (-1 : Int32)), .val (.int (1 : Int32)), .unset, .unset] [(.int (0 : Int32)), (.ref so)]))
      obtain ⟨cq190, kq190, q190a, q190b, q190c⟩ := isOf hZ e189h Es
      obtain ⟨_, _, ⟨T190, L190, k190, n190⟩, -, X190, ⟨Lc190, hQ190, l190, y190, z190⟩, st190⟩ := X189.virtualBack hx (y := (⟨"com/example/kinds_by_value/kindsbyvalue/NameSet", "below", "(I)[I"⟩ : MethodName)) (z := (⟨"com/example/kinds_by_value/kindsbyvalue/NameSet", "below", "(I)[I"⟩ : MethodName)) hown (mvT hZ (hw _ (List.mem_of_getElem? (i := 54) rfl))) (mvT hZ (hw _ (List.mem_of_getElem? (i := 55) rfl))) (notFace_of_selects (args := #[]) (mvT hZ (hw _ (List.mem_of_getElem? (i := 57) rfl)))) (mvT hZ (hw _ (List.mem_of_getElem? (i := 57) rfl))) (mvT hZ (hw _ (List.mem_of_getElem? (i := 56) rfl))) (by decide) (own_backX (W := 0) (rmB0 l Z a0 hw [] so  h n0 Z0 so0) hZ (hw _ (List.mem_of_getElem? (i := 58) rfl)) (hw _ (List.mem_of_getElem? (i := 2) rfl)) (by decide) (by decide) (fun _ _ _ _ _ _ _ Y => own_site_at hS Y)) q190a q190c (g := (mkF m 142 #[.val (.int p1), .val (.int p2), .val (.int p3), .val (.int p4), .val (.int p5), .val (.int nc), .val (.ref so), .val (.ref to), .val (.int qq), .val (.int (0 : Int32)), .val (.int (1 : Int32)), .val (.int (1 : Int32)), .val (.int (0 : Int32)), .val (.int (-1 : Int32)), .val (.int (1 : Int32)), .unset, .unset] [(.int (0 : Int32)), (.ref so)])) rfl (by rw [hml]; rfl) (Steps.refl _) (argsL := [(.int (0 : Int32))]) (rest := []) (lenOf pd_2 rfl) rfl (by show 2 * 0 + _ ≤ _; exact Nat.le_of_eq rfl) (hb hby at_142) (fun _ _ => ⟨rfl, e189h, (by show k189 + 1 ≤ 24; omega), (by show n189 + 0 ≤ 192; omega)⟩)
      dsimp only [Pt.U, Pt.locs, Pt.cells, Pt.slots] at X190 l190 y190 z190 st190 hQ190
      have y190_ : k190 = k189 + 1 := y190
      have z190_ : n190 = n189 + 0 := z190
      obtain ⟨N190q, K190k, ba, rfl, A190k⟩ := hQ190
      have Zs190 := Nat.le_trans Z0 K190k.1
      have N190 : Fr n0 L190 := by rw [l190]; exact Fr.app N189 N190q
      refine own_step (fun _ kc_ => st190.trans kc_) ?_
      show own_Ends p e below s _ _ _ (T190.setTop (mkF m 145 #[.val (.int p1), .val (.int p2), .val (.int p3), .val (.int p4), .val (.int p5), .val (.int nc), .val (.ref so), .val (.ref to), .val (.int qq), .val (.int (0 : Int32)), .val (.int (1 : Int32)), .val (.int (1 : Int32)), .val (.int (0 : Int32)), .val (.int (-1 : Int32)), .val (.int (1 : Int32)), .unset, .unset] [(.ref ba)]))
      refine own_step (fun _ kc_ => XS.astore X190.here hx rfl (hb hby at_145) rfl rfl (l' := #[.val (.int p1), .val (.int p2), .val (.int p3), .val (.int p4), .val (.int p5), .val (.int nc), .val (.ref so), .val (.ref to), .val (.int qq), .val (.int (0 : Int32)), .val (.int (1 : Int32)), .val (.int (1 : Int32)), .val (.int (0 : Int32)), .val (.int (-1 : Int32)), .val (.int (1 : Int32)), .val (.ref ba), .unset]) rfl (XS.aload X190.here hx rfl (hb hby at_147) rfl rfl (own_alen X190 hx hZ rfl A190k (n := 0) (z := (0 : Int32)) rfl rfl (hb hby at_149) _ (XS.iload X190.here hx rfl (hb hby at_150) rfl (XS.icmpNo X190.here hx rfl (hb hby at_152) rfl (XT.ii_ne_f (by decide : (0 : Int32) = (0 : Int32))) (XS.aload X190.here hx rfl (hb hby at_155) rfl rfl (XS.iconst X190.here hx rfl (hb hby at_157) kc_))))))) ?_
      show own_Ends p e below s _ _ _ (T190.setTop (mkF m 158 #[.val (.int p1), .val (.int p2), .val (.int p3), .val (.int p4), .val (.int p5), .val (.int nc), .val (.ref so), .val (.ref to), .val (.int qq), .val (.int (0 : Int32)), .val (.int (1 : Int32)), .val (.int (1 : Int32)), .val (.int (0 : Int32)), .val (.int (-1 : Int32)), .val (.int (1 : Int32)), .val (.ref ba), .unset] [(.int (0 : Int32)), (.ref ba)]))
      obtain ⟨_, _, ⟨T191, L191, k191, n191⟩, -, X191, ⟨Lc191, hQ191, l191, y191, z191⟩, st191⟩ := Jvm.LawKit.callS X190 hx (y := (⟨"com/example/kinds_by_value/kindsbyvalue/NameSetAddEveryNamePinLaw", "at", "([II)Z"⟩ : MethodName)) hown (mvT hZ (hw _ (List.mem_of_getElem? (i := 70) rfl))) (mvT hZ (hw _ (List.mem_of_getElem? (i := 71) rfl))) (mvT hZ (hw _ (List.mem_of_getElem? (i := 72) rfl))) (mvT hZ (hw _ (List.mem_of_getElem? (i := 73) rfl))) (by decide) (backOf (W := 0) (rmT0 l Z a0 hw [] ba (0 : Int32) [] 0 T190.heap n0 Zs190 A190k rfl (by decide)) hZ (hw _ (List.mem_of_getElem? (i := 73) rfl)) (hw _ (List.mem_of_getElem? (i := 72) rfl)) (by decide) (by decide)) (g := (mkF m 158 #[.val (.int p1), .val (.int p2), .val (.int p3), .val (.int p4), .val (.int p5), .val (.int nc), .val (.ref so), .val (.ref to), .val (.int qq), .val (.int (0 : Int32)), .val (.int (1 : Int32)), .val (.int (1 : Int32)), .val (.int (0 : Int32)), .val (.int (-1 : Int32)), .val (.int (1 : Int32)), .val (.ref ba), .unset] [(.int (0 : Int32)), (.ref ba)])) rfl (by rw [hml]; rfl) (argsL := [(.ref ba), (.int (0 : Int32))]) (rest := []) (lenOf pd_11 rfl) rfl (by show 2 * 0 + _ ≤ _; exact Nat.le_of_eq rfl) (hb hby at_158) (fun _ _ => ⟨rfl, rfl, (by show k190 + 0 ≤ 24; omega), (by show n190 + 0 ≤ 192; omega)⟩)
      dsimp only [Pt.U, Pt.locs, Pt.cells, Pt.slots] at X191 l191 y191 z191 st191 hQ191
      have y191_ : k191 = k190 + 0 := y191
      have z191_ : n191 = n190 + 0 := z191
      obtain ⟨rfl, N191q, e191⟩ := hQ191
      have e191h : T191.heap = T190.heap := e191
      have N191 : Fr n0 L191 := by rw [l191]; exact Fr.app N190 N191q
      refine own_step (fun _ kc_ => st191 _ kc_) ?_
      show own_Ends p e below s _ _ _ (T191.setTop (mkF m 161 #[.val (.int p1), .val (.int p2), .val (.int p3), .val (.int p4), .val (.int p5), .val (.int nc), .val (.ref so), .val (.ref to), .val (.int qq), .val (.int (0 : Int32)), .val (.int (1 : Int32)), .val (.int (1 : Int32)), .val (.int (0 : Int32)), .val (.int (-1 : Int32)), .val (.int (1 : Int32)), .val (.ref ba), .unset] [(.int (1 : Int32))]))
      refine own_step (fun _ kc_ => XS.ifNo X191.here hx rfl (hb hby at_161) rfl (XT.i0_eq_f (by decide : ¬ ((1 : Int32) = 0))) (XS.aload X191.here hx rfl (hb hby at_164) rfl rfl (XS.iconst X191.here hx rfl (hb hby at_166) kc_))) ?_
      show own_Ends p e below s _ _ _ (T191.setTop (mkF m 167 #[.val (.int p1), .val (.int p2), .val (.int p3), .val (.int p4), .val (.int p5), .val (.int nc), .val (.ref so), .val (.ref to), .val (.int qq), .val (.int (0 : Int32)), .val (.int (1 : Int32)), .val (.int (1 : Int32)), .val (.int (0 : Int32)), .val (.int (-1 : Int32)), .val (.int (1 : Int32)), .val (.ref ba), .unset] [(.int (1 : Int32)), (.ref ba)]))
      obtain ⟨_, _, ⟨T192, L192, k192, n192⟩, -, X192, ⟨Lc192, hQ192, l192, y192, z192⟩, st192⟩ := Jvm.LawKit.callS X191 hx (y := (⟨"com/example/kinds_by_value/kindsbyvalue/NameSetAddEveryNamePinLaw", "at", "([II)Z"⟩ : MethodName)) hown (mvT hZ (hw _ (List.mem_of_getElem? (i := 70) rfl))) (mvT hZ (hw _ (List.mem_of_getElem? (i := 71) rfl))) (mvT hZ (hw _ (List.mem_of_getElem? (i := 72) rfl))) (mvT hZ (hw _ (List.mem_of_getElem? (i := 73) rfl))) (by decide) (backOf (W := 0) (rmT0 l Z a0 hw [] ba (1 : Int32) [] 0 T190.heap n0 Zs190 A190k rfl (by decide)) hZ (hw _ (List.mem_of_getElem? (i := 73) rfl)) (hw _ (List.mem_of_getElem? (i := 72) rfl)) (by decide) (by decide)) (g := (mkF m 167 #[.val (.int p1), .val (.int p2), .val (.int p3), .val (.int p4), .val (.int p5), .val (.int nc), .val (.ref so), .val (.ref to), .val (.int qq), .val (.int (0 : Int32)), .val (.int (1 : Int32)), .val (.int (1 : Int32)), .val (.int (0 : Int32)), .val (.int (-1 : Int32)), .val (.int (1 : Int32)), .val (.ref ba), .unset] [(.int (1 : Int32)), (.ref ba)])) rfl (by rw [hml]; rfl) (argsL := [(.ref ba), (.int (1 : Int32))]) (rest := []) (lenOf pd_11 rfl) rfl (by show 2 * 0 + _ ≤ _; exact Nat.le_of_eq rfl) (hb hby at_167) (fun _ _ => ⟨rfl, e191h, (by show k191 + 0 ≤ 24; omega), (by show n191 + 0 ≤ 192; omega)⟩)
      dsimp only [Pt.U, Pt.locs, Pt.cells, Pt.slots] at X192 l192 y192 z192 st192 hQ192
      have y192_ : k192 = k191 + 0 := y192
      have z192_ : n192 = n191 + 0 := z192
      obtain ⟨rfl, N192q, e192⟩ := hQ192
      have e192h : T192.heap = T190.heap := e192
      have N192 : Fr n0 L192 := by rw [l192]; exact Fr.app N191 N192q
      refine own_step (fun _ kc_ => st192 _ kc_) ?_
      show own_Ends p e below s _ _ _ (T192.setTop (mkF m 170 #[.val (.int p1), .val (.int p2), .val (.int p3), .val (.int p4), .val (.int p5), .val (.int nc), .val (.ref so), .val (.ref to), .val (.int qq), .val (.int (0 : Int32)), .val (.int (1 : Int32)), .val (.int (1 : Int32)), .val (.int (0 : Int32)), .val (.int (-1 : Int32)), .val (.int (1 : Int32)), .val (.ref ba), .unset] [(.int (1 : Int32))]))
      refine own_step (fun _ kc_ => XS.ifNo X192.here hx rfl (hb hby at_170) rfl (XT.i0_eq_f (by decide : ¬ ((1 : Int32) = 0))) (XS.aload X192.here hx rfl (hb hby at_173) rfl rfl (XS.iconst X192.here hx rfl (hb hby at_175) kc_))) ?_
      show own_Ends p e below s _ _ _ (T192.setTop (mkF m 176 #[.val (.int p1), .val (.int p2), .val (.int p3), .val (.int p4), .val (.int p5), .val (.int nc), .val (.ref so), .val (.ref to), .val (.int qq), .val (.int (0 : Int32)), .val (.int (1 : Int32)), .val (.int (1 : Int32)), .val (.int (0 : Int32)), .val (.int (-1 : Int32)), .val (.int (1 : Int32)), .val (.ref ba), .unset] [(.int (2 : Int32)), (.ref ba)]))
      obtain ⟨_, _, ⟨T193, L193, k193, n193⟩, -, X193, ⟨Lc193, hQ193, l193, y193, z193⟩, st193⟩ := Jvm.LawKit.callS X192 hx (y := (⟨"com/example/kinds_by_value/kindsbyvalue/NameSetAddEveryNamePinLaw", "at", "([II)Z"⟩ : MethodName)) hown (mvT hZ (hw _ (List.mem_of_getElem? (i := 70) rfl))) (mvT hZ (hw _ (List.mem_of_getElem? (i := 71) rfl))) (mvT hZ (hw _ (List.mem_of_getElem? (i := 72) rfl))) (mvT hZ (hw _ (List.mem_of_getElem? (i := 73) rfl))) (by decide) (backOf (W := 0) (rmT0 l Z a0 hw [] ba (2 : Int32) [] 0 T190.heap n0 Zs190 A190k rfl (by decide)) hZ (hw _ (List.mem_of_getElem? (i := 73) rfl)) (hw _ (List.mem_of_getElem? (i := 72) rfl)) (by decide) (by decide)) (g := (mkF m 176 #[.val (.int p1), .val (.int p2), .val (.int p3), .val (.int p4), .val (.int p5), .val (.int nc), .val (.ref so), .val (.ref to), .val (.int qq), .val (.int (0 : Int32)), .val (.int (1 : Int32)), .val (.int (1 : Int32)), .val (.int (0 : Int32)), .val (.int (-1 : Int32)), .val (.int (1 : Int32)), .val (.ref ba), .unset] [(.int (2 : Int32)), (.ref ba)])) rfl (by rw [hml]; rfl) (argsL := [(.ref ba), (.int (2 : Int32))]) (rest := []) (lenOf pd_11 rfl) rfl (by show 2 * 0 + _ ≤ _; exact Nat.le_of_eq rfl) (hb hby at_176) (fun _ _ => ⟨rfl, e192h, (by show k192 + 0 ≤ 24; omega), (by show n192 + 0 ≤ 192; omega)⟩)
      dsimp only [Pt.U, Pt.locs, Pt.cells, Pt.slots] at X193 l193 y193 z193 st193 hQ193
      have y193_ : k193 = k192 + 0 := y193
      have z193_ : n193 = n192 + 0 := z193
      obtain ⟨rfl, N193q, e193⟩ := hQ193
      have e193h : T193.heap = T190.heap := e193
      have N193 : Fr n0 L193 := by rw [l193]; exact Fr.app N192 N193q
      refine own_step (fun _ kc_ => st193 _ kc_) ?_
      show own_Ends p e below s _ _ _ (T193.setTop (mkF m 179 #[.val (.int p1), .val (.int p2), .val (.int p3), .val (.int p4), .val (.int p5), .val (.int nc), .val (.ref so), .val (.ref to), .val (.int qq), .val (.int (0 : Int32)), .val (.int (1 : Int32)), .val (.int (1 : Int32)), .val (.int (0 : Int32)), .val (.int (-1 : Int32)), .val (.int (1 : Int32)), .val (.ref ba), .unset] [(.int (1 : Int32))]))
      refine own_step (fun _ kc_ => XS.ifNo X193.here hx rfl (hb hby at_179) rfl (XT.i0_eq_f (by decide : ¬ ((1 : Int32) = 0))) (XS.aload X193.here hx rfl (hb hby at_182) rfl rfl (XS.iconst X193.here hx rfl (hb hby at_184) kc_))) ?_
      show own_Ends p e below s _ _ _ (T193.setTop (mkF m 185 #[.val (.int p1), .val (.int p2), .val (.int p3), .val (.int p4), .val (.int p5), .val (.int nc), .val (.ref so), .val (.ref to), .val (.int qq), .val (.int (0 : Int32)), .val (.int (1 : Int32)), .val (.int (1 : Int32)), .val (.int (0 : Int32)), .val (.int (-1 : Int32)), .val (.int (1 : Int32)), .val (.ref ba), .unset] [(.int (3 : Int32)), (.ref ba)]))
      obtain ⟨_, _, ⟨T194, L194, k194, n194⟩, -, X194, ⟨Lc194, hQ194, l194, y194, z194⟩, st194⟩ := Jvm.LawKit.callS X193 hx (y := (⟨"com/example/kinds_by_value/kindsbyvalue/NameSetAddEveryNamePinLaw", "at", "([II)Z"⟩ : MethodName)) hown (mvT hZ (hw _ (List.mem_of_getElem? (i := 70) rfl))) (mvT hZ (hw _ (List.mem_of_getElem? (i := 71) rfl))) (mvT hZ (hw _ (List.mem_of_getElem? (i := 72) rfl))) (mvT hZ (hw _ (List.mem_of_getElem? (i := 73) rfl))) (by decide) (backOf (W := 0) (rmT0 l Z a0 hw [] ba (3 : Int32) [] 0 T190.heap n0 Zs190 A190k rfl (by decide)) hZ (hw _ (List.mem_of_getElem? (i := 73) rfl)) (hw _ (List.mem_of_getElem? (i := 72) rfl)) (by decide) (by decide)) (g := (mkF m 185 #[.val (.int p1), .val (.int p2), .val (.int p3), .val (.int p4), .val (.int p5), .val (.int nc), .val (.ref so), .val (.ref to), .val (.int qq), .val (.int (0 : Int32)), .val (.int (1 : Int32)), .val (.int (1 : Int32)), .val (.int (0 : Int32)), .val (.int (-1 : Int32)), .val (.int (1 : Int32)), .val (.ref ba), .unset] [(.int (3 : Int32)), (.ref ba)])) rfl (by rw [hml]; rfl) (argsL := [(.ref ba), (.int (3 : Int32))]) (rest := []) (lenOf pd_11 rfl) rfl (by show 2 * 0 + _ ≤ _; exact Nat.le_of_eq rfl) (hb hby at_185) (fun _ _ => ⟨rfl, e193h, (by show k193 + 0 ≤ 24; omega), (by show n193 + 0 ≤ 192; omega)⟩)
      dsimp only [Pt.U, Pt.locs, Pt.cells, Pt.slots] at X194 l194 y194 z194 st194 hQ194
      have y194_ : k194 = k193 + 0 := y194
      have z194_ : n194 = n193 + 0 := z194
      obtain ⟨rfl, N194q, e194⟩ := hQ194
      have e194h : T194.heap = T190.heap := e194
      have N194 : Fr n0 L194 := by rw [l194]; exact Fr.app N193 N194q
      refine own_step (fun _ kc_ => st194 _ kc_) ?_
      show own_Ends p e below s _ _ _ (T194.setTop (mkF m 188 #[.val (.int p1), .val (.int p2), .val (.int p3), .val (.int p4), .val (.int p5), .val (.int nc), .val (.ref so), .val (.ref to), .val (.int qq), .val (.int (0 : Int32)), .val (.int (1 : Int32)), .val (.int (1 : Int32)), .val (.int (0 : Int32)), .val (.int (-1 : Int32)), .val (.int (1 : Int32)), .val (.ref ba), .unset] [(.int (1 : Int32))]))
      refine own_step (fun _ kc_ => XS.ifNo X194.here hx rfl (hb hby at_188) rfl (XT.i0_eq_f (by decide : ¬ ((1 : Int32) = 0))) (XS.aload X194.here hx rfl (hb hby at_191) rfl rfl (XS.iconst X194.here hx rfl (hb hby at_193) kc_))) ?_
      show own_Ends p e below s _ _ _ (T194.setTop (mkF m 194 #[.val (.int p1), .val (.int p2), .val (.int p3), .val (.int p4), .val (.int p5), .val (.int nc), .val (.ref so), .val (.ref to), .val (.int qq), .val (.int (0 : Int32)), .val (.int (1 : Int32)), .val (.int (1 : Int32)), .val (.int (0 : Int32)), .val (.int (-1 : Int32)), .val (.int (1 : Int32)), .val (.ref ba), .unset] [(.int (4 : Int32)), (.ref ba)]))
      obtain ⟨_, _, ⟨T195, L195, k195, n195⟩, -, X195, ⟨Lc195, hQ195, l195, y195, z195⟩, st195⟩ := Jvm.LawKit.callS X194 hx (y := (⟨"com/example/kinds_by_value/kindsbyvalue/NameSetAddEveryNamePinLaw", "at", "([II)Z"⟩ : MethodName)) hown (mvT hZ (hw _ (List.mem_of_getElem? (i := 70) rfl))) (mvT hZ (hw _ (List.mem_of_getElem? (i := 71) rfl))) (mvT hZ (hw _ (List.mem_of_getElem? (i := 72) rfl))) (mvT hZ (hw _ (List.mem_of_getElem? (i := 73) rfl))) (by decide) (backOf (W := 0) (rmT0 l Z a0 hw [] ba (4 : Int32) [] 0 T190.heap n0 Zs190 A190k rfl (by decide)) hZ (hw _ (List.mem_of_getElem? (i := 73) rfl)) (hw _ (List.mem_of_getElem? (i := 72) rfl)) (by decide) (by decide)) (g := (mkF m 194 #[.val (.int p1), .val (.int p2), .val (.int p3), .val (.int p4), .val (.int p5), .val (.int nc), .val (.ref so), .val (.ref to), .val (.int qq), .val (.int (0 : Int32)), .val (.int (1 : Int32)), .val (.int (1 : Int32)), .val (.int (0 : Int32)), .val (.int (-1 : Int32)), .val (.int (1 : Int32)), .val (.ref ba), .unset] [(.int (4 : Int32)), (.ref ba)])) rfl (by rw [hml]; rfl) (argsL := [(.ref ba), (.int (4 : Int32))]) (rest := []) (lenOf pd_11 rfl) rfl (by show 2 * 0 + _ ≤ _; exact Nat.le_of_eq rfl) (hb hby at_194) (fun _ _ => ⟨rfl, e194h, (by show k194 + 0 ≤ 24; omega), (by show n194 + 0 ≤ 192; omega)⟩)
      dsimp only [Pt.U, Pt.locs, Pt.cells, Pt.slots] at X195 l195 y195 z195 st195 hQ195
      have y195_ : k195 = k194 + 0 := y195
      have z195_ : n195 = n194 + 0 := z195
      obtain ⟨rfl, N195q, e195⟩ := hQ195
      have e195h : T195.heap = T190.heap := e195
      have N195 : Fr n0 L195 := by rw [l195]; exact Fr.app N194 N195q
      refine own_step (fun _ kc_ => st195 _ kc_) ?_
      show own_Ends p e below s _ _ _ (T195.setTop (mkF m 197 #[.val (.int p1), .val (.int p2), .val (.int p3), .val (.int p4), .val (.int p5), .val (.int nc), .val (.ref so), .val (.ref to), .val (.int qq), .val (.int (0 : Int32)), .val (.int (1 : Int32)), .val (.int (1 : Int32)), .val (.int (0 : Int32)), .val (.int (-1 : Int32)), .val (.int (1 : Int32)), .val (.ref ba), .unset] [(.int (1 : Int32))]))
      refine own_step (fun _ kc_ => XS.ifNo X195.here hx rfl (hb hby at_197) rfl (XT.i0_eq_f (by decide : ¬ ((1 : Int32) = 0))) (XS.aload X195.here hx rfl (hb hby at_200) rfl rfl (XS.iconst X195.here hx rfl (hb hby at_202) kc_))) ?_
      show own_Ends p e below s _ _ _ (T195.setTop (mkF m 203 #[.val (.int p1), .val (.int p2), .val (.int p3), .val (.int p4), .val (.int p5), .val (.int nc), .val (.ref so), .val (.ref to), .val (.int qq), .val (.int (0 : Int32)), .val (.int (1 : Int32)), .val (.int (1 : Int32)), .val (.int (0 : Int32)), .val (.int (-1 : Int32)), .val (.int (1 : Int32)), .val (.ref ba), .unset] [(.int (5 : Int32)), (.ref ba)]))
      obtain ⟨_, _, ⟨T196, L196, k196, n196⟩, -, X196, ⟨Lc196, hQ196, l196, y196, z196⟩, st196⟩ := Jvm.LawKit.callS X195 hx (y := (⟨"com/example/kinds_by_value/kindsbyvalue/NameSetAddEveryNamePinLaw", "at", "([II)Z"⟩ : MethodName)) hown (mvT hZ (hw _ (List.mem_of_getElem? (i := 70) rfl))) (mvT hZ (hw _ (List.mem_of_getElem? (i := 71) rfl))) (mvT hZ (hw _ (List.mem_of_getElem? (i := 72) rfl))) (mvT hZ (hw _ (List.mem_of_getElem? (i := 73) rfl))) (by decide) (backOf (W := 0) (rmT0 l Z a0 hw [] ba (5 : Int32) [] 0 T190.heap n0 Zs190 A190k rfl (by decide)) hZ (hw _ (List.mem_of_getElem? (i := 73) rfl)) (hw _ (List.mem_of_getElem? (i := 72) rfl)) (by decide) (by decide)) (g := (mkF m 203 #[.val (.int p1), .val (.int p2), .val (.int p3), .val (.int p4), .val (.int p5), .val (.int nc), .val (.ref so), .val (.ref to), .val (.int qq), .val (.int (0 : Int32)), .val (.int (1 : Int32)), .val (.int (1 : Int32)), .val (.int (0 : Int32)), .val (.int (-1 : Int32)), .val (.int (1 : Int32)), .val (.ref ba), .unset] [(.int (5 : Int32)), (.ref ba)])) rfl (by rw [hml]; rfl) (argsL := [(.ref ba), (.int (5 : Int32))]) (rest := []) (lenOf pd_11 rfl) rfl (by show 2 * 0 + _ ≤ _; exact Nat.le_of_eq rfl) (hb hby at_203) (fun _ _ => ⟨rfl, e195h, (by show k195 + 0 ≤ 24; omega), (by show n195 + 0 ≤ 192; omega)⟩)
      dsimp only [Pt.U, Pt.locs, Pt.cells, Pt.slots] at X196 l196 y196 z196 st196 hQ196
      have y196_ : k196 = k195 + 0 := y196
      have z196_ : n196 = n195 + 0 := z196
      obtain ⟨rfl, N196q, e196⟩ := hQ196
      have e196h : T196.heap = T190.heap := e196
      have N196 : Fr n0 L196 := by rw [l196]; exact Fr.app N195 N196q
      refine own_step (fun _ kc_ => st196 _ kc_) ?_
      show own_Ends p e below s _ _ _ (T196.setTop (mkF m 206 #[.val (.int p1), .val (.int p2), .val (.int p3), .val (.int p4), .val (.int p5), .val (.int nc), .val (.ref so), .val (.ref to), .val (.int qq), .val (.int (0 : Int32)), .val (.int (1 : Int32)), .val (.int (1 : Int32)), .val (.int (0 : Int32)), .val (.int (-1 : Int32)), .val (.int (1 : Int32)), .val (.ref ba), .unset] [(.int (1 : Int32))]))
      refine own_step (fun _ kc_ => XS.ifNo X196.here hx rfl (hb hby at_206) rfl (XT.i0_eq_f (by decide : ¬ ((1 : Int32) = 0))) (XS.aload X196.here hx rfl (hb hby at_209) rfl rfl (XS.bipush X196.here hx rfl (hb hby at_211) kc_))) ?_
      show own_Ends p e below s _ _ _ (T196.setTop (mkF m 213 #[.val (.int p1), .val (.int p2), .val (.int p3), .val (.int p4), .val (.int p5), .val (.int nc), .val (.ref so), .val (.ref to), .val (.int qq), .val (.int (0 : Int32)), .val (.int (1 : Int32)), .val (.int (1 : Int32)), .val (.int (0 : Int32)), .val (.int (-1 : Int32)), .val (.int (1 : Int32)), .val (.ref ba), .unset] [(.int (6 : Int32)), (.ref ba)]))
      obtain ⟨_, _, ⟨T197, L197, k197, n197⟩, -, X197, ⟨Lc197, hQ197, l197, y197, z197⟩, st197⟩ := Jvm.LawKit.callS X196 hx (y := (⟨"com/example/kinds_by_value/kindsbyvalue/NameSetAddEveryNamePinLaw", "at", "([II)Z"⟩ : MethodName)) hown (mvT hZ (hw _ (List.mem_of_getElem? (i := 70) rfl))) (mvT hZ (hw _ (List.mem_of_getElem? (i := 71) rfl))) (mvT hZ (hw _ (List.mem_of_getElem? (i := 72) rfl))) (mvT hZ (hw _ (List.mem_of_getElem? (i := 73) rfl))) (by decide) (backOf (W := 0) (rmT0 l Z a0 hw [] ba (6 : Int32) [] 0 T190.heap n0 Zs190 A190k rfl (by decide)) hZ (hw _ (List.mem_of_getElem? (i := 73) rfl)) (hw _ (List.mem_of_getElem? (i := 72) rfl)) (by decide) (by decide)) (g := (mkF m 213 #[.val (.int p1), .val (.int p2), .val (.int p3), .val (.int p4), .val (.int p5), .val (.int nc), .val (.ref so), .val (.ref to), .val (.int qq), .val (.int (0 : Int32)), .val (.int (1 : Int32)), .val (.int (1 : Int32)), .val (.int (0 : Int32)), .val (.int (-1 : Int32)), .val (.int (1 : Int32)), .val (.ref ba), .unset] [(.int (6 : Int32)), (.ref ba)])) rfl (by rw [hml]; rfl) (argsL := [(.ref ba), (.int (6 : Int32))]) (rest := []) (lenOf pd_11 rfl) rfl (by show 2 * 0 + _ ≤ _; exact Nat.le_of_eq rfl) (hb hby at_213) (fun _ _ => ⟨rfl, e196h, (by show k196 + 0 ≤ 24; omega), (by show n196 + 0 ≤ 192; omega)⟩)
      dsimp only [Pt.U, Pt.locs, Pt.cells, Pt.slots] at X197 l197 y197 z197 st197 hQ197
      have y197_ : k197 = k196 + 0 := y197
      have z197_ : n197 = n196 + 0 := z197
      obtain ⟨rfl, N197q, e197⟩ := hQ197
      have e197h : T197.heap = T190.heap := e197
      have N197 : Fr n0 L197 := by rw [l197]; exact Fr.app N196 N197q
      refine own_step (fun _ kc_ => st197 _ kc_) ?_
      show own_Ends p e below s _ _ _ (T197.setTop (mkF m 216 #[.val (.int p1), .val (.int p2), .val (.int p3), .val (.int p4), .val (.int p5), .val (.int nc), .val (.ref so), .val (.ref to), .val (.int qq), .val (.int (0 : Int32)), .val (.int (1 : Int32)), .val (.int (1 : Int32)), .val (.int (0 : Int32)), .val (.int (-1 : Int32)), .val (.int (1 : Int32)), .val (.ref ba), .unset] [(.int (1 : Int32))]))
      refine own_step (fun _ kc_ => XS.ifNo X197.here hx rfl (hb hby at_216) rfl (XT.i0_eq_f (by decide : ¬ ((1 : Int32) = 0))) (XS.iconst X197.here hx rfl (hb hby at_219) (XS.goto X197.here hx rfl (pc0 := 220) (pc' := 224) rfl (hb hby at_220) (by decide) (by decide) (XS.istore X197.here hx rfl (hb hby at_224) rfl (l' := #[.val (.int p1), .val (.int p2), .val (.int p3), .val (.int p4), .val (.int p5), .val (.int nc), .val (.ref so), .val (.ref to), .val (.int qq), .val (.int (0 : Int32)), .val (.int (1 : Int32)), .val (.int (1 : Int32)), .val (.int (0 : Int32)), .val (.int (-1 : Int32)), .val (.int (1 : Int32)), .val (.ref ba), .val (.int (1 : Int32))]) rfl (XS.iload X197.here hx rfl (hb hby at_226) rfl (XS.ifNo X197.here hx rfl (hb hby at_228) rfl (XT.i0_eq_f (by decide : ¬ ((1 : Int32) = 0))) (XS.iload X197.here hx rfl (hb hby at_231) rfl (XS.ifNo X197.here hx rfl (hb hby at_233) rfl (XT.i0_eq_f (by decide : ¬ ((1 : Int32) = 0))) kc_)))))))) ?_
      show own_Ends p e below s _ _ _ (T197.setTop (mkF m 236 #[.val (.int p1), .val (.int p2), .val (.int p3), .val (.int p4), .val (.int p5), .val (.int nc), .val (.ref so), .val (.ref to), .val (.int qq), .val (.int (0 : Int32)), .val (.int (1 : Int32)), .val (.int (1 : Int32)), .val (.int (0 : Int32)), .val (.int (-1 : Int32)), .val (.int (1 : Int32)), .val (.ref ba), .val (.int (1 : Int32))] []))
      refine own_step (fun _ kc_ => XS.iload X197.here hx rfl (hb hby at_236) rfl (XS.ifNo X197.here hx rfl (hb hby at_238) rfl (XT.i0_ne_f (by decide : (0 : Int32) = 0)) (XS.iload X197.here hx rfl (hb hby at_241) rfl (XS.iconst X197.here hx rfl (hb hby at_243) (XS.icmpNo X197.here hx rfl (hb hby at_244) rfl (XT.ii_ne_f (by decide : (-1 : Int32) = (-1 : Int32))) (XS.iload X197.here hx rfl (hb hby at_247) rfl (XS.ifNo X197.here hx rfl (hb hby at_249) rfl (XT.i0_eq_f (by decide : ¬ ((1 : Int32) = 0))) (XS.iload X197.here hx rfl (hb hby at_252) rfl kc_)))))))) ?_
      show own_Ends p e below s _ _ _ (T197.setTop (mkF m 254 #[.val (.int p1), .val (.int p2), .val (.int p3), .val (.int p4), .val (.int p5), .val (.int nc), .val (.ref so), .val (.ref to), .val (.int qq), .val (.int (0 : Int32)), .val (.int (1 : Int32)), .val (.int (1 : Int32)), .val (.int (0 : Int32)), .val (.int (-1 : Int32)), .val (.int (1 : Int32)), .val (.ref ba), .val (.int (1 : Int32))] [(.int (1 : Int32))]))
      refine own_step (fun _ kc_ => XS.ifNo X197.here hx rfl (hb hby at_254) rfl (XT.i0_eq_f (by decide : ¬ ((1 : Int32) = 0))) (XS.iconst X197.here hx rfl (hb hby at_257) (XS.goto X197.here hx rfl (pc0 := 258) (pc' := 262) rfl (hb hby at_258) (by decide) (by decide) kc_))) ?_
      show own_Ends p e below s _ _ _ (T197.setTop (mkF m 262 #[.val (.int p1), .val (.int p2), .val (.int p3), .val (.int p4), .val (.int p5), .val (.int nc), .val (.ref so), .val (.ref to), .val (.int qq), .val (.int (0 : Int32)), .val (.int (1 : Int32)), .val (.int (1 : Int32)), .val (.int (0 : Int32)), .val (.int (-1 : Int32)), .val (.int (1 : Int32)), .val (.ref ba), .val (.int (1 : Int32))] [(.int (1 : Int32))]))
      exact own_retN X197 hx (t := .boolean) hret (by simp) hlk (hb hby at_262) (by omega) (by omega) rfl ⟨rfl, N197⟩
    · show own_Ends p e below s _ _ _ (T189.setTop (mkF m 138 #[.val (.int p1), .val (.int p2), .val (.int p3), .val (.int p4), .val (.int p5), .val (.int nc), .val (.ref so), .val (.ref to), .val (.int qq), .val (.int (1 : Int32)), .val (.int (1 : Int32)), .val (.int (1 : Int32)), .val (.int (0 : Int32)), .val (.int (-1 : Int32)), .val (.int (1 : Int32)), .unset, .unset] []))
      refine own_step (fun _ kc_ => XS.aload X189.here hx rfl (hb hby at_138) rfl rfl (XS.iload X189.here hx rfl (hb hby at_140) rfl kc_)) ?_
      show own_Ends p e below s _ _ _ (T189.setTop (mkF m 142 #[.val (.int p1), .val (.int p2), .val (.int p3), .val (.int p4), .val (.int p5), .val (.int nc), .val (.ref so), .val (.ref to), .val (.int qq), .val (.int (1 : Int32)), .val (.int (1 : Int32)), .val (.int (1 : Int32)), .val (.int (0 : Int32)), .val (.int (-1 : Int32)), .val (.int (1 : Int32)), .unset, .unset] [(.int (1 : Int32)), (.ref so)]))
      obtain ⟨cq198, kq198, q198a, q198b, q198c⟩ := isOf hZ e189h Es
      obtain ⟨_, _, ⟨T198, L198, k198, n198⟩, -, X198, ⟨Lc198, hQ198, l198, y198, z198⟩, st198⟩ := X189.virtualBack hx (y := (⟨"com/example/kinds_by_value/kindsbyvalue/NameSet", "below", "(I)[I"⟩ : MethodName)) (z := (⟨"com/example/kinds_by_value/kindsbyvalue/NameSet", "below", "(I)[I"⟩ : MethodName)) hown (mvT hZ (hw _ (List.mem_of_getElem? (i := 54) rfl))) (mvT hZ (hw _ (List.mem_of_getElem? (i := 55) rfl))) (notFace_of_selects (args := #[]) (mvT hZ (hw _ (List.mem_of_getElem? (i := 57) rfl)))) (mvT hZ (hw _ (List.mem_of_getElem? (i := 57) rfl))) (mvT hZ (hw _ (List.mem_of_getElem? (i := 56) rfl))) (by decide) (own_backX (W := 0) (rmB1 l Z a0 hw [] so  h n0 Z0 so0) hZ (hw _ (List.mem_of_getElem? (i := 58) rfl)) (hw _ (List.mem_of_getElem? (i := 2) rfl)) (by decide) (by decide) (fun _ _ _ _ _ _ _ Y => own_site_at hS Y)) q198a q198c (g := (mkF m 142 #[.val (.int p1), .val (.int p2), .val (.int p3), .val (.int p4), .val (.int p5), .val (.int nc), .val (.ref so), .val (.ref to), .val (.int qq), .val (.int (1 : Int32)), .val (.int (1 : Int32)), .val (.int (1 : Int32)), .val (.int (0 : Int32)), .val (.int (-1 : Int32)), .val (.int (1 : Int32)), .unset, .unset] [(.int (1 : Int32)), (.ref so)])) rfl (by rw [hml]; rfl) (Steps.refl _) (argsL := [(.int (1 : Int32))]) (rest := []) (lenOf pd_2 rfl) rfl (by show 2 * 0 + _ ≤ _; exact Nat.le_of_eq rfl) (hb hby at_142) (fun _ _ => ⟨rfl, e189h, (by show k189 + 1 ≤ 24; omega), (by show n189 + 1 ≤ 192; omega)⟩)
      dsimp only [Pt.U, Pt.locs, Pt.cells, Pt.slots] at X198 l198 y198 z198 st198 hQ198
      have y198_ : k198 = k189 + 1 := y198
      have z198_ : n198 = n189 + 1 := z198
      obtain ⟨N198q, K198k, ba, rfl, A198k⟩ := hQ198
      have Zs198 := Nat.le_trans Z0 K198k.1
      have N198 : Fr n0 L198 := by rw [l198]; exact Fr.app N189 N198q
      refine own_step (fun _ kc_ => st198.trans kc_) ?_
      show own_Ends p e below s _ _ _ (T198.setTop (mkF m 145 #[.val (.int p1), .val (.int p2), .val (.int p3), .val (.int p4), .val (.int p5), .val (.int nc), .val (.ref so), .val (.ref to), .val (.int qq), .val (.int (1 : Int32)), .val (.int (1 : Int32)), .val (.int (1 : Int32)), .val (.int (0 : Int32)), .val (.int (-1 : Int32)), .val (.int (1 : Int32)), .unset, .unset] [(.ref ba)]))
      refine own_step (fun _ kc_ => XS.astore X198.here hx rfl (hb hby at_145) rfl rfl (l' := #[.val (.int p1), .val (.int p2), .val (.int p3), .val (.int p4), .val (.int p5), .val (.int nc), .val (.ref so), .val (.ref to), .val (.int qq), .val (.int (1 : Int32)), .val (.int (1 : Int32)), .val (.int (1 : Int32)), .val (.int (0 : Int32)), .val (.int (-1 : Int32)), .val (.int (1 : Int32)), .val (.ref ba), .unset]) rfl (XS.aload X198.here hx rfl (hb hby at_147) rfl rfl (own_alen X198 hx hZ rfl A198k (n := 1) (z := (1 : Int32)) rfl rfl (hb hby at_149) _ (XS.iload X198.here hx rfl (hb hby at_150) rfl (XS.icmpNo X198.here hx rfl (hb hby at_152) rfl (XT.ii_ne_f (by decide : (1 : Int32) = (1 : Int32))) (XS.aload X198.here hx rfl (hb hby at_155) rfl rfl (XS.iconst X198.here hx rfl (hb hby at_157) kc_))))))) ?_
      show own_Ends p e below s _ _ _ (T198.setTop (mkF m 158 #[.val (.int p1), .val (.int p2), .val (.int p3), .val (.int p4), .val (.int p5), .val (.int nc), .val (.ref so), .val (.ref to), .val (.int qq), .val (.int (1 : Int32)), .val (.int (1 : Int32)), .val (.int (1 : Int32)), .val (.int (0 : Int32)), .val (.int (-1 : Int32)), .val (.int (1 : Int32)), .val (.ref ba), .unset] [(.int (0 : Int32)), (.ref ba)]))
      obtain ⟨_, _, ⟨T199, L199, k199, n199⟩, -, X199, ⟨Lc199, hQ199, l199, y199, z199⟩, st199⟩ := Jvm.LawKit.callS X198 hx (y := (⟨"com/example/kinds_by_value/kindsbyvalue/NameSetAddEveryNamePinLaw", "at", "([II)Z"⟩ : MethodName)) hown (mvT hZ (hw _ (List.mem_of_getElem? (i := 70) rfl))) (mvT hZ (hw _ (List.mem_of_getElem? (i := 71) rfl))) (mvT hZ (hw _ (List.mem_of_getElem? (i := 72) rfl))) (mvT hZ (hw _ (List.mem_of_getElem? (i := 73) rfl))) (by decide) (backOf (W := 0) (rmT1 l Z a0 hw [] ba (0 : Int32) [(.int (0 : Int32))] 1 0 T198.heap n0 Zs198 A198k rfl (by decide) (by decide) rfl rfl) hZ (hw _ (List.mem_of_getElem? (i := 73) rfl)) (hw _ (List.mem_of_getElem? (i := 72) rfl)) (by decide) (by decide)) (g := (mkF m 158 #[.val (.int p1), .val (.int p2), .val (.int p3), .val (.int p4), .val (.int p5), .val (.int nc), .val (.ref so), .val (.ref to), .val (.int qq), .val (.int (1 : Int32)), .val (.int (1 : Int32)), .val (.int (1 : Int32)), .val (.int (0 : Int32)), .val (.int (-1 : Int32)), .val (.int (1 : Int32)), .val (.ref ba), .unset] [(.int (0 : Int32)), (.ref ba)])) rfl (by rw [hml]; rfl) (argsL := [(.ref ba), (.int (0 : Int32))]) (rest := []) (lenOf pd_11 rfl) rfl (by show 2 * 0 + _ ≤ _; exact Nat.le_of_eq rfl) (hb hby at_158) (fun _ _ => ⟨rfl, rfl, (by show k198 + 0 ≤ 24; omega), (by show n198 + 0 ≤ 192; omega)⟩)
      dsimp only [Pt.U, Pt.locs, Pt.cells, Pt.slots] at X199 l199 y199 z199 st199 hQ199
      have y199_ : k199 = k198 + 0 := y199
      have z199_ : n199 = n198 + 0 := z199
      obtain ⟨rfl, N199q, e199⟩ := hQ199
      have e199h : T199.heap = T198.heap := e199
      have N199 : Fr n0 L199 := by rw [l199]; exact Fr.app N198 N199q
      refine own_step (fun _ kc_ => st199 _ kc_) ?_
      show own_Ends p e below s _ _ _ (T199.setTop (mkF m 161 #[.val (.int p1), .val (.int p2), .val (.int p3), .val (.int p4), .val (.int p5), .val (.int nc), .val (.ref so), .val (.ref to), .val (.int qq), .val (.int (1 : Int32)), .val (.int (1 : Int32)), .val (.int (1 : Int32)), .val (.int (0 : Int32)), .val (.int (-1 : Int32)), .val (.int (1 : Int32)), .val (.ref ba), .unset] [(.int (1 : Int32))]))
      refine own_step (fun _ kc_ => XS.ifNo X199.here hx rfl (hb hby at_161) rfl (XT.i0_eq_f (by decide : ¬ ((1 : Int32) = 0))) (XS.aload X199.here hx rfl (hb hby at_164) rfl rfl (XS.iconst X199.here hx rfl (hb hby at_166) kc_))) ?_
      show own_Ends p e below s _ _ _ (T199.setTop (mkF m 167 #[.val (.int p1), .val (.int p2), .val (.int p3), .val (.int p4), .val (.int p5), .val (.int nc), .val (.ref so), .val (.ref to), .val (.int qq), .val (.int (1 : Int32)), .val (.int (1 : Int32)), .val (.int (1 : Int32)), .val (.int (0 : Int32)), .val (.int (-1 : Int32)), .val (.int (1 : Int32)), .val (.ref ba), .unset] [(.int (1 : Int32)), (.ref ba)]))
      obtain ⟨_, _, ⟨T200, L200, k200, n200⟩, -, X200, ⟨Lc200, hQ200, l200, y200, z200⟩, st200⟩ := Jvm.LawKit.callS X199 hx (y := (⟨"com/example/kinds_by_value/kindsbyvalue/NameSetAddEveryNamePinLaw", "at", "([II)Z"⟩ : MethodName)) hown (mvT hZ (hw _ (List.mem_of_getElem? (i := 70) rfl))) (mvT hZ (hw _ (List.mem_of_getElem? (i := 71) rfl))) (mvT hZ (hw _ (List.mem_of_getElem? (i := 72) rfl))) (mvT hZ (hw _ (List.mem_of_getElem? (i := 73) rfl))) (by decide) (backOf (W := 0) (rmT0 l Z a0 hw [] ba (1 : Int32) [(.int (0 : Int32))] 1 T198.heap n0 Zs198 A198k rfl (by decide)) hZ (hw _ (List.mem_of_getElem? (i := 73) rfl)) (hw _ (List.mem_of_getElem? (i := 72) rfl)) (by decide) (by decide)) (g := (mkF m 167 #[.val (.int p1), .val (.int p2), .val (.int p3), .val (.int p4), .val (.int p5), .val (.int nc), .val (.ref so), .val (.ref to), .val (.int qq), .val (.int (1 : Int32)), .val (.int (1 : Int32)), .val (.int (1 : Int32)), .val (.int (0 : Int32)), .val (.int (-1 : Int32)), .val (.int (1 : Int32)), .val (.ref ba), .unset] [(.int (1 : Int32)), (.ref ba)])) rfl (by rw [hml]; rfl) (argsL := [(.ref ba), (.int (1 : Int32))]) (rest := []) (lenOf pd_11 rfl) rfl (by show 2 * 0 + _ ≤ _; exact Nat.le_of_eq rfl) (hb hby at_167) (fun _ _ => ⟨rfl, e199h, (by show k199 + 0 ≤ 24; omega), (by show n199 + 0 ≤ 192; omega)⟩)
      dsimp only [Pt.U, Pt.locs, Pt.cells, Pt.slots] at X200 l200 y200 z200 st200 hQ200
      have y200_ : k200 = k199 + 0 := y200
      have z200_ : n200 = n199 + 0 := z200
      obtain ⟨rfl, N200q, e200⟩ := hQ200
      have e200h : T200.heap = T198.heap := e200
      have N200 : Fr n0 L200 := by rw [l200]; exact Fr.app N199 N200q
      refine own_step (fun _ kc_ => st200 _ kc_) ?_
      show own_Ends p e below s _ _ _ (T200.setTop (mkF m 170 #[.val (.int p1), .val (.int p2), .val (.int p3), .val (.int p4), .val (.int p5), .val (.int nc), .val (.ref so), .val (.ref to), .val (.int qq), .val (.int (1 : Int32)), .val (.int (1 : Int32)), .val (.int (1 : Int32)), .val (.int (0 : Int32)), .val (.int (-1 : Int32)), .val (.int (1 : Int32)), .val (.ref ba), .unset] [(.int (1 : Int32))]))
      refine own_step (fun _ kc_ => XS.ifNo X200.here hx rfl (hb hby at_170) rfl (XT.i0_eq_f (by decide : ¬ ((1 : Int32) = 0))) (XS.aload X200.here hx rfl (hb hby at_173) rfl rfl (XS.iconst X200.here hx rfl (hb hby at_175) kc_))) ?_
      show own_Ends p e below s _ _ _ (T200.setTop (mkF m 176 #[.val (.int p1), .val (.int p2), .val (.int p3), .val (.int p4), .val (.int p5), .val (.int nc), .val (.ref so), .val (.ref to), .val (.int qq), .val (.int (1 : Int32)), .val (.int (1 : Int32)), .val (.int (1 : Int32)), .val (.int (0 : Int32)), .val (.int (-1 : Int32)), .val (.int (1 : Int32)), .val (.ref ba), .unset] [(.int (2 : Int32)), (.ref ba)]))
      obtain ⟨_, _, ⟨T201, L201, k201, n201⟩, -, X201, ⟨Lc201, hQ201, l201, y201, z201⟩, st201⟩ := Jvm.LawKit.callS X200 hx (y := (⟨"com/example/kinds_by_value/kindsbyvalue/NameSetAddEveryNamePinLaw", "at", "([II)Z"⟩ : MethodName)) hown (mvT hZ (hw _ (List.mem_of_getElem? (i := 70) rfl))) (mvT hZ (hw _ (List.mem_of_getElem? (i := 71) rfl))) (mvT hZ (hw _ (List.mem_of_getElem? (i := 72) rfl))) (mvT hZ (hw _ (List.mem_of_getElem? (i := 73) rfl))) (by decide) (backOf (W := 0) (rmT0 l Z a0 hw [] ba (2 : Int32) [(.int (0 : Int32))] 1 T198.heap n0 Zs198 A198k rfl (by decide)) hZ (hw _ (List.mem_of_getElem? (i := 73) rfl)) (hw _ (List.mem_of_getElem? (i := 72) rfl)) (by decide) (by decide)) (g := (mkF m 176 #[.val (.int p1), .val (.int p2), .val (.int p3), .val (.int p4), .val (.int p5), .val (.int nc), .val (.ref so), .val (.ref to), .val (.int qq), .val (.int (1 : Int32)), .val (.int (1 : Int32)), .val (.int (1 : Int32)), .val (.int (0 : Int32)), .val (.int (-1 : Int32)), .val (.int (1 : Int32)), .val (.ref ba), .unset] [(.int (2 : Int32)), (.ref ba)])) rfl (by rw [hml]; rfl) (argsL := [(.ref ba), (.int (2 : Int32))]) (rest := []) (lenOf pd_11 rfl) rfl (by show 2 * 0 + _ ≤ _; exact Nat.le_of_eq rfl) (hb hby at_176) (fun _ _ => ⟨rfl, e200h, (by show k200 + 0 ≤ 24; omega), (by show n200 + 0 ≤ 192; omega)⟩)
      dsimp only [Pt.U, Pt.locs, Pt.cells, Pt.slots] at X201 l201 y201 z201 st201 hQ201
      have y201_ : k201 = k200 + 0 := y201
      have z201_ : n201 = n200 + 0 := z201
      obtain ⟨rfl, N201q, e201⟩ := hQ201
      have e201h : T201.heap = T198.heap := e201
      have N201 : Fr n0 L201 := by rw [l201]; exact Fr.app N200 N201q
      refine own_step (fun _ kc_ => st201 _ kc_) ?_
      show own_Ends p e below s _ _ _ (T201.setTop (mkF m 179 #[.val (.int p1), .val (.int p2), .val (.int p3), .val (.int p4), .val (.int p5), .val (.int nc), .val (.ref so), .val (.ref to), .val (.int qq), .val (.int (1 : Int32)), .val (.int (1 : Int32)), .val (.int (1 : Int32)), .val (.int (0 : Int32)), .val (.int (-1 : Int32)), .val (.int (1 : Int32)), .val (.ref ba), .unset] [(.int (1 : Int32))]))
      refine own_step (fun _ kc_ => XS.ifNo X201.here hx rfl (hb hby at_179) rfl (XT.i0_eq_f (by decide : ¬ ((1 : Int32) = 0))) (XS.aload X201.here hx rfl (hb hby at_182) rfl rfl (XS.iconst X201.here hx rfl (hb hby at_184) kc_))) ?_
      show own_Ends p e below s _ _ _ (T201.setTop (mkF m 185 #[.val (.int p1), .val (.int p2), .val (.int p3), .val (.int p4), .val (.int p5), .val (.int nc), .val (.ref so), .val (.ref to), .val (.int qq), .val (.int (1 : Int32)), .val (.int (1 : Int32)), .val (.int (1 : Int32)), .val (.int (0 : Int32)), .val (.int (-1 : Int32)), .val (.int (1 : Int32)), .val (.ref ba), .unset] [(.int (3 : Int32)), (.ref ba)]))
      obtain ⟨_, _, ⟨T202, L202, k202, n202⟩, -, X202, ⟨Lc202, hQ202, l202, y202, z202⟩, st202⟩ := Jvm.LawKit.callS X201 hx (y := (⟨"com/example/kinds_by_value/kindsbyvalue/NameSetAddEveryNamePinLaw", "at", "([II)Z"⟩ : MethodName)) hown (mvT hZ (hw _ (List.mem_of_getElem? (i := 70) rfl))) (mvT hZ (hw _ (List.mem_of_getElem? (i := 71) rfl))) (mvT hZ (hw _ (List.mem_of_getElem? (i := 72) rfl))) (mvT hZ (hw _ (List.mem_of_getElem? (i := 73) rfl))) (by decide) (backOf (W := 0) (rmT0 l Z a0 hw [] ba (3 : Int32) [(.int (0 : Int32))] 1 T198.heap n0 Zs198 A198k rfl (by decide)) hZ (hw _ (List.mem_of_getElem? (i := 73) rfl)) (hw _ (List.mem_of_getElem? (i := 72) rfl)) (by decide) (by decide)) (g := (mkF m 185 #[.val (.int p1), .val (.int p2), .val (.int p3), .val (.int p4), .val (.int p5), .val (.int nc), .val (.ref so), .val (.ref to), .val (.int qq), .val (.int (1 : Int32)), .val (.int (1 : Int32)), .val (.int (1 : Int32)), .val (.int (0 : Int32)), .val (.int (-1 : Int32)), .val (.int (1 : Int32)), .val (.ref ba), .unset] [(.int (3 : Int32)), (.ref ba)])) rfl (by rw [hml]; rfl) (argsL := [(.ref ba), (.int (3 : Int32))]) (rest := []) (lenOf pd_11 rfl) rfl (by show 2 * 0 + _ ≤ _; exact Nat.le_of_eq rfl) (hb hby at_185) (fun _ _ => ⟨rfl, e201h, (by show k201 + 0 ≤ 24; omega), (by show n201 + 0 ≤ 192; omega)⟩)
      dsimp only [Pt.U, Pt.locs, Pt.cells, Pt.slots] at X202 l202 y202 z202 st202 hQ202
      have y202_ : k202 = k201 + 0 := y202
      have z202_ : n202 = n201 + 0 := z202
      obtain ⟨rfl, N202q, e202⟩ := hQ202
      have e202h : T202.heap = T198.heap := e202
      have N202 : Fr n0 L202 := by rw [l202]; exact Fr.app N201 N202q
      refine own_step (fun _ kc_ => st202 _ kc_) ?_
      show own_Ends p e below s _ _ _ (T202.setTop (mkF m 188 #[.val (.int p1), .val (.int p2), .val (.int p3), .val (.int p4), .val (.int p5), .val (.int nc), .val (.ref so), .val (.ref to), .val (.int qq), .val (.int (1 : Int32)), .val (.int (1 : Int32)), .val (.int (1 : Int32)), .val (.int (0 : Int32)), .val (.int (-1 : Int32)), .val (.int (1 : Int32)), .val (.ref ba), .unset] [(.int (1 : Int32))]))
      refine own_step (fun _ kc_ => XS.ifNo X202.here hx rfl (hb hby at_188) rfl (XT.i0_eq_f (by decide : ¬ ((1 : Int32) = 0))) (XS.aload X202.here hx rfl (hb hby at_191) rfl rfl (XS.iconst X202.here hx rfl (hb hby at_193) kc_))) ?_
      show own_Ends p e below s _ _ _ (T202.setTop (mkF m 194 #[.val (.int p1), .val (.int p2), .val (.int p3), .val (.int p4), .val (.int p5), .val (.int nc), .val (.ref so), .val (.ref to), .val (.int qq), .val (.int (1 : Int32)), .val (.int (1 : Int32)), .val (.int (1 : Int32)), .val (.int (0 : Int32)), .val (.int (-1 : Int32)), .val (.int (1 : Int32)), .val (.ref ba), .unset] [(.int (4 : Int32)), (.ref ba)]))
      obtain ⟨_, _, ⟨T203, L203, k203, n203⟩, -, X203, ⟨Lc203, hQ203, l203, y203, z203⟩, st203⟩ := Jvm.LawKit.callS X202 hx (y := (⟨"com/example/kinds_by_value/kindsbyvalue/NameSetAddEveryNamePinLaw", "at", "([II)Z"⟩ : MethodName)) hown (mvT hZ (hw _ (List.mem_of_getElem? (i := 70) rfl))) (mvT hZ (hw _ (List.mem_of_getElem? (i := 71) rfl))) (mvT hZ (hw _ (List.mem_of_getElem? (i := 72) rfl))) (mvT hZ (hw _ (List.mem_of_getElem? (i := 73) rfl))) (by decide) (backOf (W := 0) (rmT0 l Z a0 hw [] ba (4 : Int32) [(.int (0 : Int32))] 1 T198.heap n0 Zs198 A198k rfl (by decide)) hZ (hw _ (List.mem_of_getElem? (i := 73) rfl)) (hw _ (List.mem_of_getElem? (i := 72) rfl)) (by decide) (by decide)) (g := (mkF m 194 #[.val (.int p1), .val (.int p2), .val (.int p3), .val (.int p4), .val (.int p5), .val (.int nc), .val (.ref so), .val (.ref to), .val (.int qq), .val (.int (1 : Int32)), .val (.int (1 : Int32)), .val (.int (1 : Int32)), .val (.int (0 : Int32)), .val (.int (-1 : Int32)), .val (.int (1 : Int32)), .val (.ref ba), .unset] [(.int (4 : Int32)), (.ref ba)])) rfl (by rw [hml]; rfl) (argsL := [(.ref ba), (.int (4 : Int32))]) (rest := []) (lenOf pd_11 rfl) rfl (by show 2 * 0 + _ ≤ _; exact Nat.le_of_eq rfl) (hb hby at_194) (fun _ _ => ⟨rfl, e202h, (by show k202 + 0 ≤ 24; omega), (by show n202 + 0 ≤ 192; omega)⟩)
      dsimp only [Pt.U, Pt.locs, Pt.cells, Pt.slots] at X203 l203 y203 z203 st203 hQ203
      have y203_ : k203 = k202 + 0 := y203
      have z203_ : n203 = n202 + 0 := z203
      obtain ⟨rfl, N203q, e203⟩ := hQ203
      have e203h : T203.heap = T198.heap := e203
      have N203 : Fr n0 L203 := by rw [l203]; exact Fr.app N202 N203q
      refine own_step (fun _ kc_ => st203 _ kc_) ?_
      show own_Ends p e below s _ _ _ (T203.setTop (mkF m 197 #[.val (.int p1), .val (.int p2), .val (.int p3), .val (.int p4), .val (.int p5), .val (.int nc), .val (.ref so), .val (.ref to), .val (.int qq), .val (.int (1 : Int32)), .val (.int (1 : Int32)), .val (.int (1 : Int32)), .val (.int (0 : Int32)), .val (.int (-1 : Int32)), .val (.int (1 : Int32)), .val (.ref ba), .unset] [(.int (1 : Int32))]))
      refine own_step (fun _ kc_ => XS.ifNo X203.here hx rfl (hb hby at_197) rfl (XT.i0_eq_f (by decide : ¬ ((1 : Int32) = 0))) (XS.aload X203.here hx rfl (hb hby at_200) rfl rfl (XS.iconst X203.here hx rfl (hb hby at_202) kc_))) ?_
      show own_Ends p e below s _ _ _ (T203.setTop (mkF m 203 #[.val (.int p1), .val (.int p2), .val (.int p3), .val (.int p4), .val (.int p5), .val (.int nc), .val (.ref so), .val (.ref to), .val (.int qq), .val (.int (1 : Int32)), .val (.int (1 : Int32)), .val (.int (1 : Int32)), .val (.int (0 : Int32)), .val (.int (-1 : Int32)), .val (.int (1 : Int32)), .val (.ref ba), .unset] [(.int (5 : Int32)), (.ref ba)]))
      obtain ⟨_, _, ⟨T204, L204, k204, n204⟩, -, X204, ⟨Lc204, hQ204, l204, y204, z204⟩, st204⟩ := Jvm.LawKit.callS X203 hx (y := (⟨"com/example/kinds_by_value/kindsbyvalue/NameSetAddEveryNamePinLaw", "at", "([II)Z"⟩ : MethodName)) hown (mvT hZ (hw _ (List.mem_of_getElem? (i := 70) rfl))) (mvT hZ (hw _ (List.mem_of_getElem? (i := 71) rfl))) (mvT hZ (hw _ (List.mem_of_getElem? (i := 72) rfl))) (mvT hZ (hw _ (List.mem_of_getElem? (i := 73) rfl))) (by decide) (backOf (W := 0) (rmT0 l Z a0 hw [] ba (5 : Int32) [(.int (0 : Int32))] 1 T198.heap n0 Zs198 A198k rfl (by decide)) hZ (hw _ (List.mem_of_getElem? (i := 73) rfl)) (hw _ (List.mem_of_getElem? (i := 72) rfl)) (by decide) (by decide)) (g := (mkF m 203 #[.val (.int p1), .val (.int p2), .val (.int p3), .val (.int p4), .val (.int p5), .val (.int nc), .val (.ref so), .val (.ref to), .val (.int qq), .val (.int (1 : Int32)), .val (.int (1 : Int32)), .val (.int (1 : Int32)), .val (.int (0 : Int32)), .val (.int (-1 : Int32)), .val (.int (1 : Int32)), .val (.ref ba), .unset] [(.int (5 : Int32)), (.ref ba)])) rfl (by rw [hml]; rfl) (argsL := [(.ref ba), (.int (5 : Int32))]) (rest := []) (lenOf pd_11 rfl) rfl (by show 2 * 0 + _ ≤ _; exact Nat.le_of_eq rfl) (hb hby at_203) (fun _ _ => ⟨rfl, e203h, (by show k203 + 0 ≤ 24; omega), (by show n203 + 0 ≤ 192; omega)⟩)
      dsimp only [Pt.U, Pt.locs, Pt.cells, Pt.slots] at X204 l204 y204 z204 st204 hQ204
      have y204_ : k204 = k203 + 0 := y204
      have z204_ : n204 = n203 + 0 := z204
      obtain ⟨rfl, N204q, e204⟩ := hQ204
      have e204h : T204.heap = T198.heap := e204
      have N204 : Fr n0 L204 := by rw [l204]; exact Fr.app N203 N204q
      refine own_step (fun _ kc_ => st204 _ kc_) ?_
      show own_Ends p e below s _ _ _ (T204.setTop (mkF m 206 #[.val (.int p1), .val (.int p2), .val (.int p3), .val (.int p4), .val (.int p5), .val (.int nc), .val (.ref so), .val (.ref to), .val (.int qq), .val (.int (1 : Int32)), .val (.int (1 : Int32)), .val (.int (1 : Int32)), .val (.int (0 : Int32)), .val (.int (-1 : Int32)), .val (.int (1 : Int32)), .val (.ref ba), .unset] [(.int (1 : Int32))]))
      refine own_step (fun _ kc_ => XS.ifNo X204.here hx rfl (hb hby at_206) rfl (XT.i0_eq_f (by decide : ¬ ((1 : Int32) = 0))) (XS.aload X204.here hx rfl (hb hby at_209) rfl rfl (XS.bipush X204.here hx rfl (hb hby at_211) kc_))) ?_
      show own_Ends p e below s _ _ _ (T204.setTop (mkF m 213 #[.val (.int p1), .val (.int p2), .val (.int p3), .val (.int p4), .val (.int p5), .val (.int nc), .val (.ref so), .val (.ref to), .val (.int qq), .val (.int (1 : Int32)), .val (.int (1 : Int32)), .val (.int (1 : Int32)), .val (.int (0 : Int32)), .val (.int (-1 : Int32)), .val (.int (1 : Int32)), .val (.ref ba), .unset] [(.int (6 : Int32)), (.ref ba)]))
      obtain ⟨_, _, ⟨T205, L205, k205, n205⟩, -, X205, ⟨Lc205, hQ205, l205, y205, z205⟩, st205⟩ := Jvm.LawKit.callS X204 hx (y := (⟨"com/example/kinds_by_value/kindsbyvalue/NameSetAddEveryNamePinLaw", "at", "([II)Z"⟩ : MethodName)) hown (mvT hZ (hw _ (List.mem_of_getElem? (i := 70) rfl))) (mvT hZ (hw _ (List.mem_of_getElem? (i := 71) rfl))) (mvT hZ (hw _ (List.mem_of_getElem? (i := 72) rfl))) (mvT hZ (hw _ (List.mem_of_getElem? (i := 73) rfl))) (by decide) (backOf (W := 0) (rmT0 l Z a0 hw [] ba (6 : Int32) [(.int (0 : Int32))] 1 T198.heap n0 Zs198 A198k rfl (by decide)) hZ (hw _ (List.mem_of_getElem? (i := 73) rfl)) (hw _ (List.mem_of_getElem? (i := 72) rfl)) (by decide) (by decide)) (g := (mkF m 213 #[.val (.int p1), .val (.int p2), .val (.int p3), .val (.int p4), .val (.int p5), .val (.int nc), .val (.ref so), .val (.ref to), .val (.int qq), .val (.int (1 : Int32)), .val (.int (1 : Int32)), .val (.int (1 : Int32)), .val (.int (0 : Int32)), .val (.int (-1 : Int32)), .val (.int (1 : Int32)), .val (.ref ba), .unset] [(.int (6 : Int32)), (.ref ba)])) rfl (by rw [hml]; rfl) (argsL := [(.ref ba), (.int (6 : Int32))]) (rest := []) (lenOf pd_11 rfl) rfl (by show 2 * 0 + _ ≤ _; exact Nat.le_of_eq rfl) (hb hby at_213) (fun _ _ => ⟨rfl, e204h, (by show k204 + 0 ≤ 24; omega), (by show n204 + 0 ≤ 192; omega)⟩)
      dsimp only [Pt.U, Pt.locs, Pt.cells, Pt.slots] at X205 l205 y205 z205 st205 hQ205
      have y205_ : k205 = k204 + 0 := y205
      have z205_ : n205 = n204 + 0 := z205
      obtain ⟨rfl, N205q, e205⟩ := hQ205
      have e205h : T205.heap = T198.heap := e205
      have N205 : Fr n0 L205 := by rw [l205]; exact Fr.app N204 N205q
      refine own_step (fun _ kc_ => st205 _ kc_) ?_
      show own_Ends p e below s _ _ _ (T205.setTop (mkF m 216 #[.val (.int p1), .val (.int p2), .val (.int p3), .val (.int p4), .val (.int p5), .val (.int nc), .val (.ref so), .val (.ref to), .val (.int qq), .val (.int (1 : Int32)), .val (.int (1 : Int32)), .val (.int (1 : Int32)), .val (.int (0 : Int32)), .val (.int (-1 : Int32)), .val (.int (1 : Int32)), .val (.ref ba), .unset] [(.int (1 : Int32))]))
      refine own_step (fun _ kc_ => XS.ifNo X205.here hx rfl (hb hby at_216) rfl (XT.i0_eq_f (by decide : ¬ ((1 : Int32) = 0))) (XS.iconst X205.here hx rfl (hb hby at_219) (XS.goto X205.here hx rfl (pc0 := 220) (pc' := 224) rfl (hb hby at_220) (by decide) (by decide) (XS.istore X205.here hx rfl (hb hby at_224) rfl (l' := #[.val (.int p1), .val (.int p2), .val (.int p3), .val (.int p4), .val (.int p5), .val (.int nc), .val (.ref so), .val (.ref to), .val (.int qq), .val (.int (1 : Int32)), .val (.int (1 : Int32)), .val (.int (1 : Int32)), .val (.int (0 : Int32)), .val (.int (-1 : Int32)), .val (.int (1 : Int32)), .val (.ref ba), .val (.int (1 : Int32))]) rfl (XS.iload X205.here hx rfl (hb hby at_226) rfl (XS.ifNo X205.here hx rfl (hb hby at_228) rfl (XT.i0_eq_f (by decide : ¬ ((1 : Int32) = 0))) (XS.iload X205.here hx rfl (hb hby at_231) rfl (XS.ifNo X205.here hx rfl (hb hby at_233) rfl (XT.i0_eq_f (by decide : ¬ ((1 : Int32) = 0))) kc_)))))))) ?_
      show own_Ends p e below s _ _ _ (T205.setTop (mkF m 236 #[.val (.int p1), .val (.int p2), .val (.int p3), .val (.int p4), .val (.int p5), .val (.int nc), .val (.ref so), .val (.ref to), .val (.int qq), .val (.int (1 : Int32)), .val (.int (1 : Int32)), .val (.int (1 : Int32)), .val (.int (0 : Int32)), .val (.int (-1 : Int32)), .val (.int (1 : Int32)), .val (.ref ba), .val (.int (1 : Int32))] []))
      refine own_step (fun _ kc_ => XS.iload X205.here hx rfl (hb hby at_236) rfl (XS.ifNo X205.here hx rfl (hb hby at_238) rfl (XT.i0_ne_f (by decide : (0 : Int32) = 0)) (XS.iload X205.here hx rfl (hb hby at_241) rfl (XS.iconst X205.here hx rfl (hb hby at_243) (XS.icmpNo X205.here hx rfl (hb hby at_244) rfl (XT.ii_ne_f (by decide : (-1 : Int32) = (-1 : Int32))) (XS.iload X205.here hx rfl (hb hby at_247) rfl (XS.ifNo X205.here hx rfl (hb hby at_249) rfl (XT.i0_eq_f (by decide : ¬ ((1 : Int32) = 0))) (XS.iload X205.here hx rfl (hb hby at_252) rfl kc_)))))))) ?_
      show own_Ends p e below s _ _ _ (T205.setTop (mkF m 254 #[.val (.int p1), .val (.int p2), .val (.int p3), .val (.int p4), .val (.int p5), .val (.int nc), .val (.ref so), .val (.ref to), .val (.int qq), .val (.int (1 : Int32)), .val (.int (1 : Int32)), .val (.int (1 : Int32)), .val (.int (0 : Int32)), .val (.int (-1 : Int32)), .val (.int (1 : Int32)), .val (.ref ba), .val (.int (1 : Int32))] [(.int (1 : Int32))]))
      refine own_step (fun _ kc_ => XS.ifNo X205.here hx rfl (hb hby at_254) rfl (XT.i0_eq_f (by decide : ¬ ((1 : Int32) = 0))) (XS.iconst X205.here hx rfl (hb hby at_257) (XS.goto X205.here hx rfl (pc0 := 258) (pc' := 262) rfl (hb hby at_258) (by decide) (by decide) kc_))) ?_
      show own_Ends p e below s _ _ _ (T205.setTop (mkF m 262 #[.val (.int p1), .val (.int p2), .val (.int p3), .val (.int p4), .val (.int p5), .val (.int nc), .val (.ref so), .val (.ref to), .val (.int qq), .val (.int (1 : Int32)), .val (.int (1 : Int32)), .val (.int (1 : Int32)), .val (.int (0 : Int32)), .val (.int (-1 : Int32)), .val (.int (1 : Int32)), .val (.ref ba), .val (.int (1 : Int32))] [(.int (1 : Int32))]))
      exact own_retN X205 hx (t := .boolean) hret (by simp) hlk (hb hby at_262) (by omega) (by omega) rfl ⟨rfl, N205⟩
    · show own_Ends p e below s _ _ _ (T189.setTop (mkF m 138 #[.val (.int p1), .val (.int p2), .val (.int p3), .val (.int p4), .val (.int p5), .val (.int nc), .val (.ref so), .val (.ref to), .val (.int qq), .val (.int (2 : Int32)), .val (.int (1 : Int32)), .val (.int (1 : Int32)), .val (.int (0 : Int32)), .val (.int (-1 : Int32)), .val (.int (1 : Int32)), .unset, .unset] []))
      refine own_step (fun _ kc_ => XS.aload X189.here hx rfl (hb hby at_138) rfl rfl (XS.iload X189.here hx rfl (hb hby at_140) rfl kc_)) ?_
      show own_Ends p e below s _ _ _ (T189.setTop (mkF m 142 #[.val (.int p1), .val (.int p2), .val (.int p3), .val (.int p4), .val (.int p5), .val (.int nc), .val (.ref so), .val (.ref to), .val (.int qq), .val (.int (2 : Int32)), .val (.int (1 : Int32)), .val (.int (1 : Int32)), .val (.int (0 : Int32)), .val (.int (-1 : Int32)), .val (.int (1 : Int32)), .unset, .unset] [(.int (2 : Int32)), (.ref so)]))
      obtain ⟨cq206, kq206, q206a, q206b, q206c⟩ := isOf hZ e189h Es
      obtain ⟨_, _, ⟨T206, L206, k206, n206⟩, -, X206, ⟨Lc206, hQ206, l206, y206, z206⟩, st206⟩ := X189.virtualBack hx (y := (⟨"com/example/kinds_by_value/kindsbyvalue/NameSet", "below", "(I)[I"⟩ : MethodName)) (z := (⟨"com/example/kinds_by_value/kindsbyvalue/NameSet", "below", "(I)[I"⟩ : MethodName)) hown (mvT hZ (hw _ (List.mem_of_getElem? (i := 54) rfl))) (mvT hZ (hw _ (List.mem_of_getElem? (i := 55) rfl))) (notFace_of_selects (args := #[]) (mvT hZ (hw _ (List.mem_of_getElem? (i := 57) rfl)))) (mvT hZ (hw _ (List.mem_of_getElem? (i := 57) rfl))) (mvT hZ (hw _ (List.mem_of_getElem? (i := 56) rfl))) (by decide) (own_backX (W := 0) (rmB2 l Z a0 hw [] so  h n0 Z0 so0) hZ (hw _ (List.mem_of_getElem? (i := 58) rfl)) (hw _ (List.mem_of_getElem? (i := 2) rfl)) (by decide) (by decide) (fun _ _ _ _ _ _ _ Y => own_site_at hS Y)) q206a q206c (g := (mkF m 142 #[.val (.int p1), .val (.int p2), .val (.int p3), .val (.int p4), .val (.int p5), .val (.int nc), .val (.ref so), .val (.ref to), .val (.int qq), .val (.int (2 : Int32)), .val (.int (1 : Int32)), .val (.int (1 : Int32)), .val (.int (0 : Int32)), .val (.int (-1 : Int32)), .val (.int (1 : Int32)), .unset, .unset] [(.int (2 : Int32)), (.ref so)])) rfl (by rw [hml]; rfl) (Steps.refl _) (argsL := [(.int (2 : Int32))]) (rest := []) (lenOf pd_2 rfl) rfl (by show 2 * 0 + _ ≤ _; exact Nat.le_of_eq rfl) (hb hby at_142) (fun _ _ => ⟨rfl, e189h, (by show k189 + 1 ≤ 24; omega), (by show n189 + 2 ≤ 192; omega)⟩)
      dsimp only [Pt.U, Pt.locs, Pt.cells, Pt.slots] at X206 l206 y206 z206 st206 hQ206
      have y206_ : k206 = k189 + 1 := y206
      have z206_ : n206 = n189 + 2 := z206
      obtain ⟨N206q, K206k, ba, rfl, A206k⟩ := hQ206
      have Zs206 := Nat.le_trans Z0 K206k.1
      have N206 : Fr n0 L206 := by rw [l206]; exact Fr.app N189 N206q
      refine own_step (fun _ kc_ => st206.trans kc_) ?_
      show own_Ends p e below s _ _ _ (T206.setTop (mkF m 145 #[.val (.int p1), .val (.int p2), .val (.int p3), .val (.int p4), .val (.int p5), .val (.int nc), .val (.ref so), .val (.ref to), .val (.int qq), .val (.int (2 : Int32)), .val (.int (1 : Int32)), .val (.int (1 : Int32)), .val (.int (0 : Int32)), .val (.int (-1 : Int32)), .val (.int (1 : Int32)), .unset, .unset] [(.ref ba)]))
      refine own_step (fun _ kc_ => XS.astore X206.here hx rfl (hb hby at_145) rfl rfl (l' := #[.val (.int p1), .val (.int p2), .val (.int p3), .val (.int p4), .val (.int p5), .val (.int nc), .val (.ref so), .val (.ref to), .val (.int qq), .val (.int (2 : Int32)), .val (.int (1 : Int32)), .val (.int (1 : Int32)), .val (.int (0 : Int32)), .val (.int (-1 : Int32)), .val (.int (1 : Int32)), .val (.ref ba), .unset]) rfl (XS.aload X206.here hx rfl (hb hby at_147) rfl rfl (own_alen X206 hx hZ rfl A206k (n := 2) (z := (2 : Int32)) rfl rfl (hb hby at_149) _ (XS.iload X206.here hx rfl (hb hby at_150) rfl (XS.icmpNo X206.here hx rfl (hb hby at_152) rfl (XT.ii_ne_f (by decide : (2 : Int32) = (2 : Int32))) (XS.aload X206.here hx rfl (hb hby at_155) rfl rfl (XS.iconst X206.here hx rfl (hb hby at_157) kc_))))))) ?_
      show own_Ends p e below s _ _ _ (T206.setTop (mkF m 158 #[.val (.int p1), .val (.int p2), .val (.int p3), .val (.int p4), .val (.int p5), .val (.int nc), .val (.ref so), .val (.ref to), .val (.int qq), .val (.int (2 : Int32)), .val (.int (1 : Int32)), .val (.int (1 : Int32)), .val (.int (0 : Int32)), .val (.int (-1 : Int32)), .val (.int (1 : Int32)), .val (.ref ba), .unset] [(.int (0 : Int32)), (.ref ba)]))
      obtain ⟨_, _, ⟨T207, L207, k207, n207⟩, -, X207, ⟨Lc207, hQ207, l207, y207, z207⟩, st207⟩ := Jvm.LawKit.callS X206 hx (y := (⟨"com/example/kinds_by_value/kindsbyvalue/NameSetAddEveryNamePinLaw", "at", "([II)Z"⟩ : MethodName)) hown (mvT hZ (hw _ (List.mem_of_getElem? (i := 70) rfl))) (mvT hZ (hw _ (List.mem_of_getElem? (i := 71) rfl))) (mvT hZ (hw _ (List.mem_of_getElem? (i := 72) rfl))) (mvT hZ (hw _ (List.mem_of_getElem? (i := 73) rfl))) (by decide) (backOf (W := 0) (rmT1 l Z a0 hw [] ba (0 : Int32) [(.int (0 : Int32)), (.int (1 : Int32))] 2 0 T206.heap n0 Zs206 A206k rfl (by decide) (by decide) rfl rfl) hZ (hw _ (List.mem_of_getElem? (i := 73) rfl)) (hw _ (List.mem_of_getElem? (i := 72) rfl)) (by decide) (by decide)) (g := (mkF m 158 #[.val (.int p1), .val (.int p2), .val (.int p3), .val (.int p4), .val (.int p5), .val (.int nc), .val (.ref so), .val (.ref to), .val (.int qq), .val (.int (2 : Int32)), .val (.int (1 : Int32)), .val (.int (1 : Int32)), .val (.int (0 : Int32)), .val (.int (-1 : Int32)), .val (.int (1 : Int32)), .val (.ref ba), .unset] [(.int (0 : Int32)), (.ref ba)])) rfl (by rw [hml]; rfl) (argsL := [(.ref ba), (.int (0 : Int32))]) (rest := []) (lenOf pd_11 rfl) rfl (by show 2 * 0 + _ ≤ _; exact Nat.le_of_eq rfl) (hb hby at_158) (fun _ _ => ⟨rfl, rfl, (by show k206 + 0 ≤ 24; omega), (by show n206 + 0 ≤ 192; omega)⟩)
      dsimp only [Pt.U, Pt.locs, Pt.cells, Pt.slots] at X207 l207 y207 z207 st207 hQ207
      have y207_ : k207 = k206 + 0 := y207
      have z207_ : n207 = n206 + 0 := z207
      obtain ⟨rfl, N207q, e207⟩ := hQ207
      have e207h : T207.heap = T206.heap := e207
      have N207 : Fr n0 L207 := by rw [l207]; exact Fr.app N206 N207q
      refine own_step (fun _ kc_ => st207 _ kc_) ?_
      show own_Ends p e below s _ _ _ (T207.setTop (mkF m 161 #[.val (.int p1), .val (.int p2), .val (.int p3), .val (.int p4), .val (.int p5), .val (.int nc), .val (.ref so), .val (.ref to), .val (.int qq), .val (.int (2 : Int32)), .val (.int (1 : Int32)), .val (.int (1 : Int32)), .val (.int (0 : Int32)), .val (.int (-1 : Int32)), .val (.int (1 : Int32)), .val (.ref ba), .unset] [(.int (1 : Int32))]))
      refine own_step (fun _ kc_ => XS.ifNo X207.here hx rfl (hb hby at_161) rfl (XT.i0_eq_f (by decide : ¬ ((1 : Int32) = 0))) (XS.aload X207.here hx rfl (hb hby at_164) rfl rfl (XS.iconst X207.here hx rfl (hb hby at_166) kc_))) ?_
      show own_Ends p e below s _ _ _ (T207.setTop (mkF m 167 #[.val (.int p1), .val (.int p2), .val (.int p3), .val (.int p4), .val (.int p5), .val (.int nc), .val (.ref so), .val (.ref to), .val (.int qq), .val (.int (2 : Int32)), .val (.int (1 : Int32)), .val (.int (1 : Int32)), .val (.int (0 : Int32)), .val (.int (-1 : Int32)), .val (.int (1 : Int32)), .val (.ref ba), .unset] [(.int (1 : Int32)), (.ref ba)]))
      obtain ⟨_, _, ⟨T208, L208, k208, n208⟩, -, X208, ⟨Lc208, hQ208, l208, y208, z208⟩, st208⟩ := Jvm.LawKit.callS X207 hx (y := (⟨"com/example/kinds_by_value/kindsbyvalue/NameSetAddEveryNamePinLaw", "at", "([II)Z"⟩ : MethodName)) hown (mvT hZ (hw _ (List.mem_of_getElem? (i := 70) rfl))) (mvT hZ (hw _ (List.mem_of_getElem? (i := 71) rfl))) (mvT hZ (hw _ (List.mem_of_getElem? (i := 72) rfl))) (mvT hZ (hw _ (List.mem_of_getElem? (i := 73) rfl))) (by decide) (backOf (W := 0) (rmT1 l Z a0 hw [] ba (1 : Int32) [(.int (0 : Int32)), (.int (1 : Int32))] 2 1 T206.heap n0 Zs206 A206k rfl (by decide) (by decide) rfl rfl) hZ (hw _ (List.mem_of_getElem? (i := 73) rfl)) (hw _ (List.mem_of_getElem? (i := 72) rfl)) (by decide) (by decide)) (g := (mkF m 167 #[.val (.int p1), .val (.int p2), .val (.int p3), .val (.int p4), .val (.int p5), .val (.int nc), .val (.ref so), .val (.ref to), .val (.int qq), .val (.int (2 : Int32)), .val (.int (1 : Int32)), .val (.int (1 : Int32)), .val (.int (0 : Int32)), .val (.int (-1 : Int32)), .val (.int (1 : Int32)), .val (.ref ba), .unset] [(.int (1 : Int32)), (.ref ba)])) rfl (by rw [hml]; rfl) (argsL := [(.ref ba), (.int (1 : Int32))]) (rest := []) (lenOf pd_11 rfl) rfl (by show 2 * 0 + _ ≤ _; exact Nat.le_of_eq rfl) (hb hby at_167) (fun _ _ => ⟨rfl, e207h, (by show k207 + 0 ≤ 24; omega), (by show n207 + 0 ≤ 192; omega)⟩)
      dsimp only [Pt.U, Pt.locs, Pt.cells, Pt.slots] at X208 l208 y208 z208 st208 hQ208
      have y208_ : k208 = k207 + 0 := y208
      have z208_ : n208 = n207 + 0 := z208
      obtain ⟨rfl, N208q, e208⟩ := hQ208
      have e208h : T208.heap = T206.heap := e208
      have N208 : Fr n0 L208 := by rw [l208]; exact Fr.app N207 N208q
      refine own_step (fun _ kc_ => st208 _ kc_) ?_
      show own_Ends p e below s _ _ _ (T208.setTop (mkF m 170 #[.val (.int p1), .val (.int p2), .val (.int p3), .val (.int p4), .val (.int p5), .val (.int nc), .val (.ref so), .val (.ref to), .val (.int qq), .val (.int (2 : Int32)), .val (.int (1 : Int32)), .val (.int (1 : Int32)), .val (.int (0 : Int32)), .val (.int (-1 : Int32)), .val (.int (1 : Int32)), .val (.ref ba), .unset] [(.int (1 : Int32))]))
      refine own_step (fun _ kc_ => XS.ifNo X208.here hx rfl (hb hby at_170) rfl (XT.i0_eq_f (by decide : ¬ ((1 : Int32) = 0))) (XS.aload X208.here hx rfl (hb hby at_173) rfl rfl (XS.iconst X208.here hx rfl (hb hby at_175) kc_))) ?_
      show own_Ends p e below s _ _ _ (T208.setTop (mkF m 176 #[.val (.int p1), .val (.int p2), .val (.int p3), .val (.int p4), .val (.int p5), .val (.int nc), .val (.ref so), .val (.ref to), .val (.int qq), .val (.int (2 : Int32)), .val (.int (1 : Int32)), .val (.int (1 : Int32)), .val (.int (0 : Int32)), .val (.int (-1 : Int32)), .val (.int (1 : Int32)), .val (.ref ba), .unset] [(.int (2 : Int32)), (.ref ba)]))
      obtain ⟨_, _, ⟨T209, L209, k209, n209⟩, -, X209, ⟨Lc209, hQ209, l209, y209, z209⟩, st209⟩ := Jvm.LawKit.callS X208 hx (y := (⟨"com/example/kinds_by_value/kindsbyvalue/NameSetAddEveryNamePinLaw", "at", "([II)Z"⟩ : MethodName)) hown (mvT hZ (hw _ (List.mem_of_getElem? (i := 70) rfl))) (mvT hZ (hw _ (List.mem_of_getElem? (i := 71) rfl))) (mvT hZ (hw _ (List.mem_of_getElem? (i := 72) rfl))) (mvT hZ (hw _ (List.mem_of_getElem? (i := 73) rfl))) (by decide) (backOf (W := 0) (rmT0 l Z a0 hw [] ba (2 : Int32) [(.int (0 : Int32)), (.int (1 : Int32))] 2 T206.heap n0 Zs206 A206k rfl (by decide)) hZ (hw _ (List.mem_of_getElem? (i := 73) rfl)) (hw _ (List.mem_of_getElem? (i := 72) rfl)) (by decide) (by decide)) (g := (mkF m 176 #[.val (.int p1), .val (.int p2), .val (.int p3), .val (.int p4), .val (.int p5), .val (.int nc), .val (.ref so), .val (.ref to), .val (.int qq), .val (.int (2 : Int32)), .val (.int (1 : Int32)), .val (.int (1 : Int32)), .val (.int (0 : Int32)), .val (.int (-1 : Int32)), .val (.int (1 : Int32)), .val (.ref ba), .unset] [(.int (2 : Int32)), (.ref ba)])) rfl (by rw [hml]; rfl) (argsL := [(.ref ba), (.int (2 : Int32))]) (rest := []) (lenOf pd_11 rfl) rfl (by show 2 * 0 + _ ≤ _; exact Nat.le_of_eq rfl) (hb hby at_176) (fun _ _ => ⟨rfl, e208h, (by show k208 + 0 ≤ 24; omega), (by show n208 + 0 ≤ 192; omega)⟩)
      dsimp only [Pt.U, Pt.locs, Pt.cells, Pt.slots] at X209 l209 y209 z209 st209 hQ209
      have y209_ : k209 = k208 + 0 := y209
      have z209_ : n209 = n208 + 0 := z209
      obtain ⟨rfl, N209q, e209⟩ := hQ209
      have e209h : T209.heap = T206.heap := e209
      have N209 : Fr n0 L209 := by rw [l209]; exact Fr.app N208 N209q
      refine own_step (fun _ kc_ => st209 _ kc_) ?_
      show own_Ends p e below s _ _ _ (T209.setTop (mkF m 179 #[.val (.int p1), .val (.int p2), .val (.int p3), .val (.int p4), .val (.int p5), .val (.int nc), .val (.ref so), .val (.ref to), .val (.int qq), .val (.int (2 : Int32)), .val (.int (1 : Int32)), .val (.int (1 : Int32)), .val (.int (0 : Int32)), .val (.int (-1 : Int32)), .val (.int (1 : Int32)), .val (.ref ba), .unset] [(.int (1 : Int32))]))
      refine own_step (fun _ kc_ => XS.ifNo X209.here hx rfl (hb hby at_179) rfl (XT.i0_eq_f (by decide : ¬ ((1 : Int32) = 0))) (XS.aload X209.here hx rfl (hb hby at_182) rfl rfl (XS.iconst X209.here hx rfl (hb hby at_184) kc_))) ?_
      show own_Ends p e below s _ _ _ (T209.setTop (mkF m 185 #[.val (.int p1), .val (.int p2), .val (.int p3), .val (.int p4), .val (.int p5), .val (.int nc), .val (.ref so), .val (.ref to), .val (.int qq), .val (.int (2 : Int32)), .val (.int (1 : Int32)), .val (.int (1 : Int32)), .val (.int (0 : Int32)), .val (.int (-1 : Int32)), .val (.int (1 : Int32)), .val (.ref ba), .unset] [(.int (3 : Int32)), (.ref ba)]))
      obtain ⟨_, _, ⟨T210, L210, k210, n210⟩, -, X210, ⟨Lc210, hQ210, l210, y210, z210⟩, st210⟩ := Jvm.LawKit.callS X209 hx (y := (⟨"com/example/kinds_by_value/kindsbyvalue/NameSetAddEveryNamePinLaw", "at", "([II)Z"⟩ : MethodName)) hown (mvT hZ (hw _ (List.mem_of_getElem? (i := 70) rfl))) (mvT hZ (hw _ (List.mem_of_getElem? (i := 71) rfl))) (mvT hZ (hw _ (List.mem_of_getElem? (i := 72) rfl))) (mvT hZ (hw _ (List.mem_of_getElem? (i := 73) rfl))) (by decide) (backOf (W := 0) (rmT0 l Z a0 hw [] ba (3 : Int32) [(.int (0 : Int32)), (.int (1 : Int32))] 2 T206.heap n0 Zs206 A206k rfl (by decide)) hZ (hw _ (List.mem_of_getElem? (i := 73) rfl)) (hw _ (List.mem_of_getElem? (i := 72) rfl)) (by decide) (by decide)) (g := (mkF m 185 #[.val (.int p1), .val (.int p2), .val (.int p3), .val (.int p4), .val (.int p5), .val (.int nc), .val (.ref so), .val (.ref to), .val (.int qq), .val (.int (2 : Int32)), .val (.int (1 : Int32)), .val (.int (1 : Int32)), .val (.int (0 : Int32)), .val (.int (-1 : Int32)), .val (.int (1 : Int32)), .val (.ref ba), .unset] [(.int (3 : Int32)), (.ref ba)])) rfl (by rw [hml]; rfl) (argsL := [(.ref ba), (.int (3 : Int32))]) (rest := []) (lenOf pd_11 rfl) rfl (by show 2 * 0 + _ ≤ _; exact Nat.le_of_eq rfl) (hb hby at_185) (fun _ _ => ⟨rfl, e209h, (by show k209 + 0 ≤ 24; omega), (by show n209 + 0 ≤ 192; omega)⟩)
      dsimp only [Pt.U, Pt.locs, Pt.cells, Pt.slots] at X210 l210 y210 z210 st210 hQ210
      have y210_ : k210 = k209 + 0 := y210
      have z210_ : n210 = n209 + 0 := z210
      obtain ⟨rfl, N210q, e210⟩ := hQ210
      have e210h : T210.heap = T206.heap := e210
      have N210 : Fr n0 L210 := by rw [l210]; exact Fr.app N209 N210q
      refine own_step (fun _ kc_ => st210 _ kc_) ?_
      show own_Ends p e below s _ _ _ (T210.setTop (mkF m 188 #[.val (.int p1), .val (.int p2), .val (.int p3), .val (.int p4), .val (.int p5), .val (.int nc), .val (.ref so), .val (.ref to), .val (.int qq), .val (.int (2 : Int32)), .val (.int (1 : Int32)), .val (.int (1 : Int32)), .val (.int (0 : Int32)), .val (.int (-1 : Int32)), .val (.int (1 : Int32)), .val (.ref ba), .unset] [(.int (1 : Int32))]))
      refine own_step (fun _ kc_ => XS.ifNo X210.here hx rfl (hb hby at_188) rfl (XT.i0_eq_f (by decide : ¬ ((1 : Int32) = 0))) (XS.aload X210.here hx rfl (hb hby at_191) rfl rfl (XS.iconst X210.here hx rfl (hb hby at_193) kc_))) ?_
      show own_Ends p e below s _ _ _ (T210.setTop (mkF m 194 #[.val (.int p1), .val (.int p2), .val (.int p3), .val (.int p4), .val (.int p5), .val (.int nc), .val (.ref so), .val (.ref to), .val (.int qq), .val (.int (2 : Int32)), .val (.int (1 : Int32)), .val (.int (1 : Int32)), .val (.int (0 : Int32)), .val (.int (-1 : Int32)), .val (.int (1 : Int32)), .val (.ref ba), .unset] [(.int (4 : Int32)), (.ref ba)]))
      obtain ⟨_, _, ⟨T211, L211, k211, n211⟩, -, X211, ⟨Lc211, hQ211, l211, y211, z211⟩, st211⟩ := Jvm.LawKit.callS X210 hx (y := (⟨"com/example/kinds_by_value/kindsbyvalue/NameSetAddEveryNamePinLaw", "at", "([II)Z"⟩ : MethodName)) hown (mvT hZ (hw _ (List.mem_of_getElem? (i := 70) rfl))) (mvT hZ (hw _ (List.mem_of_getElem? (i := 71) rfl))) (mvT hZ (hw _ (List.mem_of_getElem? (i := 72) rfl))) (mvT hZ (hw _ (List.mem_of_getElem? (i := 73) rfl))) (by decide) (backOf (W := 0) (rmT0 l Z a0 hw [] ba (4 : Int32) [(.int (0 : Int32)), (.int (1 : Int32))] 2 T206.heap n0 Zs206 A206k rfl (by decide)) hZ (hw _ (List.mem_of_getElem? (i := 73) rfl)) (hw _ (List.mem_of_getElem? (i := 72) rfl)) (by decide) (by decide)) (g := (mkF m 194 #[.val (.int p1), .val (.int p2), .val (.int p3), .val (.int p4), .val (.int p5), .val (.int nc), .val (.ref so), .val (.ref to), .val (.int qq), .val (.int (2 : Int32)), .val (.int (1 : Int32)), .val (.int (1 : Int32)), .val (.int (0 : Int32)), .val (.int (-1 : Int32)), .val (.int (1 : Int32)), .val (.ref ba), .unset] [(.int (4 : Int32)), (.ref ba)])) rfl (by rw [hml]; rfl) (argsL := [(.ref ba), (.int (4 : Int32))]) (rest := []) (lenOf pd_11 rfl) rfl (by show 2 * 0 + _ ≤ _; exact Nat.le_of_eq rfl) (hb hby at_194) (fun _ _ => ⟨rfl, e210h, (by show k210 + 0 ≤ 24; omega), (by show n210 + 0 ≤ 192; omega)⟩)
      dsimp only [Pt.U, Pt.locs, Pt.cells, Pt.slots] at X211 l211 y211 z211 st211 hQ211
      have y211_ : k211 = k210 + 0 := y211
      have z211_ : n211 = n210 + 0 := z211
      obtain ⟨rfl, N211q, e211⟩ := hQ211
      have e211h : T211.heap = T206.heap := e211
      have N211 : Fr n0 L211 := by rw [l211]; exact Fr.app N210 N211q
      refine own_step (fun _ kc_ => st211 _ kc_) ?_
      show own_Ends p e below s _ _ _ (T211.setTop (mkF m 197 #[.val (.int p1), .val (.int p2), .val (.int p3), .val (.int p4), .val (.int p5), .val (.int nc), .val (.ref so), .val (.ref to), .val (.int qq), .val (.int (2 : Int32)), .val (.int (1 : Int32)), .val (.int (1 : Int32)), .val (.int (0 : Int32)), .val (.int (-1 : Int32)), .val (.int (1 : Int32)), .val (.ref ba), .unset] [(.int (1 : Int32))]))
      refine own_step (fun _ kc_ => XS.ifNo X211.here hx rfl (hb hby at_197) rfl (XT.i0_eq_f (by decide : ¬ ((1 : Int32) = 0))) (XS.aload X211.here hx rfl (hb hby at_200) rfl rfl (XS.iconst X211.here hx rfl (hb hby at_202) kc_))) ?_
      show own_Ends p e below s _ _ _ (T211.setTop (mkF m 203 #[.val (.int p1), .val (.int p2), .val (.int p3), .val (.int p4), .val (.int p5), .val (.int nc), .val (.ref so), .val (.ref to), .val (.int qq), .val (.int (2 : Int32)), .val (.int (1 : Int32)), .val (.int (1 : Int32)), .val (.int (0 : Int32)), .val (.int (-1 : Int32)), .val (.int (1 : Int32)), .val (.ref ba), .unset] [(.int (5 : Int32)), (.ref ba)]))
      obtain ⟨_, _, ⟨T212, L212, k212, n212⟩, -, X212, ⟨Lc212, hQ212, l212, y212, z212⟩, st212⟩ := Jvm.LawKit.callS X211 hx (y := (⟨"com/example/kinds_by_value/kindsbyvalue/NameSetAddEveryNamePinLaw", "at", "([II)Z"⟩ : MethodName)) hown (mvT hZ (hw _ (List.mem_of_getElem? (i := 70) rfl))) (mvT hZ (hw _ (List.mem_of_getElem? (i := 71) rfl))) (mvT hZ (hw _ (List.mem_of_getElem? (i := 72) rfl))) (mvT hZ (hw _ (List.mem_of_getElem? (i := 73) rfl))) (by decide) (backOf (W := 0) (rmT0 l Z a0 hw [] ba (5 : Int32) [(.int (0 : Int32)), (.int (1 : Int32))] 2 T206.heap n0 Zs206 A206k rfl (by decide)) hZ (hw _ (List.mem_of_getElem? (i := 73) rfl)) (hw _ (List.mem_of_getElem? (i := 72) rfl)) (by decide) (by decide)) (g := (mkF m 203 #[.val (.int p1), .val (.int p2), .val (.int p3), .val (.int p4), .val (.int p5), .val (.int nc), .val (.ref so), .val (.ref to), .val (.int qq), .val (.int (2 : Int32)), .val (.int (1 : Int32)), .val (.int (1 : Int32)), .val (.int (0 : Int32)), .val (.int (-1 : Int32)), .val (.int (1 : Int32)), .val (.ref ba), .unset] [(.int (5 : Int32)), (.ref ba)])) rfl (by rw [hml]; rfl) (argsL := [(.ref ba), (.int (5 : Int32))]) (rest := []) (lenOf pd_11 rfl) rfl (by show 2 * 0 + _ ≤ _; exact Nat.le_of_eq rfl) (hb hby at_203) (fun _ _ => ⟨rfl, e211h, (by show k211 + 0 ≤ 24; omega), (by show n211 + 0 ≤ 192; omega)⟩)
      dsimp only [Pt.U, Pt.locs, Pt.cells, Pt.slots] at X212 l212 y212 z212 st212 hQ212
      have y212_ : k212 = k211 + 0 := y212
      have z212_ : n212 = n211 + 0 := z212
      obtain ⟨rfl, N212q, e212⟩ := hQ212
      have e212h : T212.heap = T206.heap := e212
      have N212 : Fr n0 L212 := by rw [l212]; exact Fr.app N211 N212q
      refine own_step (fun _ kc_ => st212 _ kc_) ?_
      show own_Ends p e below s _ _ _ (T212.setTop (mkF m 206 #[.val (.int p1), .val (.int p2), .val (.int p3), .val (.int p4), .val (.int p5), .val (.int nc), .val (.ref so), .val (.ref to), .val (.int qq), .val (.int (2 : Int32)), .val (.int (1 : Int32)), .val (.int (1 : Int32)), .val (.int (0 : Int32)), .val (.int (-1 : Int32)), .val (.int (1 : Int32)), .val (.ref ba), .unset] [(.int (1 : Int32))]))
      refine own_step (fun _ kc_ => XS.ifNo X212.here hx rfl (hb hby at_206) rfl (XT.i0_eq_f (by decide : ¬ ((1 : Int32) = 0))) (XS.aload X212.here hx rfl (hb hby at_209) rfl rfl (XS.bipush X212.here hx rfl (hb hby at_211) kc_))) ?_
      show own_Ends p e below s _ _ _ (T212.setTop (mkF m 213 #[.val (.int p1), .val (.int p2), .val (.int p3), .val (.int p4), .val (.int p5), .val (.int nc), .val (.ref so), .val (.ref to), .val (.int qq), .val (.int (2 : Int32)), .val (.int (1 : Int32)), .val (.int (1 : Int32)), .val (.int (0 : Int32)), .val (.int (-1 : Int32)), .val (.int (1 : Int32)), .val (.ref ba), .unset] [(.int (6 : Int32)), (.ref ba)]))
      obtain ⟨_, _, ⟨T213, L213, k213, n213⟩, -, X213, ⟨Lc213, hQ213, l213, y213, z213⟩, st213⟩ := Jvm.LawKit.callS X212 hx (y := (⟨"com/example/kinds_by_value/kindsbyvalue/NameSetAddEveryNamePinLaw", "at", "([II)Z"⟩ : MethodName)) hown (mvT hZ (hw _ (List.mem_of_getElem? (i := 70) rfl))) (mvT hZ (hw _ (List.mem_of_getElem? (i := 71) rfl))) (mvT hZ (hw _ (List.mem_of_getElem? (i := 72) rfl))) (mvT hZ (hw _ (List.mem_of_getElem? (i := 73) rfl))) (by decide) (backOf (W := 0) (rmT0 l Z a0 hw [] ba (6 : Int32) [(.int (0 : Int32)), (.int (1 : Int32))] 2 T206.heap n0 Zs206 A206k rfl (by decide)) hZ (hw _ (List.mem_of_getElem? (i := 73) rfl)) (hw _ (List.mem_of_getElem? (i := 72) rfl)) (by decide) (by decide)) (g := (mkF m 213 #[.val (.int p1), .val (.int p2), .val (.int p3), .val (.int p4), .val (.int p5), .val (.int nc), .val (.ref so), .val (.ref to), .val (.int qq), .val (.int (2 : Int32)), .val (.int (1 : Int32)), .val (.int (1 : Int32)), .val (.int (0 : Int32)), .val (.int (-1 : Int32)), .val (.int (1 : Int32)), .val (.ref ba), .unset] [(.int (6 : Int32)), (.ref ba)])) rfl (by rw [hml]; rfl) (argsL := [(.ref ba), (.int (6 : Int32))]) (rest := []) (lenOf pd_11 rfl) rfl (by show 2 * 0 + _ ≤ _; exact Nat.le_of_eq rfl) (hb hby at_213) (fun _ _ => ⟨rfl, e212h, (by show k212 + 0 ≤ 24; omega), (by show n212 + 0 ≤ 192; omega)⟩)
      dsimp only [Pt.U, Pt.locs, Pt.cells, Pt.slots] at X213 l213 y213 z213 st213 hQ213
      have y213_ : k213 = k212 + 0 := y213
      have z213_ : n213 = n212 + 0 := z213
      obtain ⟨rfl, N213q, e213⟩ := hQ213
      have e213h : T213.heap = T206.heap := e213
      have N213 : Fr n0 L213 := by rw [l213]; exact Fr.app N212 N213q
      refine own_step (fun _ kc_ => st213 _ kc_) ?_
      show own_Ends p e below s _ _ _ (T213.setTop (mkF m 216 #[.val (.int p1), .val (.int p2), .val (.int p3), .val (.int p4), .val (.int p5), .val (.int nc), .val (.ref so), .val (.ref to), .val (.int qq), .val (.int (2 : Int32)), .val (.int (1 : Int32)), .val (.int (1 : Int32)), .val (.int (0 : Int32)), .val (.int (-1 : Int32)), .val (.int (1 : Int32)), .val (.ref ba), .unset] [(.int (1 : Int32))]))
      refine own_step (fun _ kc_ => XS.ifNo X213.here hx rfl (hb hby at_216) rfl (XT.i0_eq_f (by decide : ¬ ((1 : Int32) = 0))) (XS.iconst X213.here hx rfl (hb hby at_219) (XS.goto X213.here hx rfl (pc0 := 220) (pc' := 224) rfl (hb hby at_220) (by decide) (by decide) (XS.istore X213.here hx rfl (hb hby at_224) rfl (l' := #[.val (.int p1), .val (.int p2), .val (.int p3), .val (.int p4), .val (.int p5), .val (.int nc), .val (.ref so), .val (.ref to), .val (.int qq), .val (.int (2 : Int32)), .val (.int (1 : Int32)), .val (.int (1 : Int32)), .val (.int (0 : Int32)), .val (.int (-1 : Int32)), .val (.int (1 : Int32)), .val (.ref ba), .val (.int (1 : Int32))]) rfl (XS.iload X213.here hx rfl (hb hby at_226) rfl (XS.ifNo X213.here hx rfl (hb hby at_228) rfl (XT.i0_eq_f (by decide : ¬ ((1 : Int32) = 0))) (XS.iload X213.here hx rfl (hb hby at_231) rfl (XS.ifNo X213.here hx rfl (hb hby at_233) rfl (XT.i0_eq_f (by decide : ¬ ((1 : Int32) = 0))) kc_)))))))) ?_
      show own_Ends p e below s _ _ _ (T213.setTop (mkF m 236 #[.val (.int p1), .val (.int p2), .val (.int p3), .val (.int p4), .val (.int p5), .val (.int nc), .val (.ref so), .val (.ref to), .val (.int qq), .val (.int (2 : Int32)), .val (.int (1 : Int32)), .val (.int (1 : Int32)), .val (.int (0 : Int32)), .val (.int (-1 : Int32)), .val (.int (1 : Int32)), .val (.ref ba), .val (.int (1 : Int32))] []))
      refine own_step (fun _ kc_ => XS.iload X213.here hx rfl (hb hby at_236) rfl (XS.ifNo X213.here hx rfl (hb hby at_238) rfl (XT.i0_ne_f (by decide : (0 : Int32) = 0)) (XS.iload X213.here hx rfl (hb hby at_241) rfl (XS.iconst X213.here hx rfl (hb hby at_243) (XS.icmpNo X213.here hx rfl (hb hby at_244) rfl (XT.ii_ne_f (by decide : (-1 : Int32) = (-1 : Int32))) (XS.iload X213.here hx rfl (hb hby at_247) rfl (XS.ifNo X213.here hx rfl (hb hby at_249) rfl (XT.i0_eq_f (by decide : ¬ ((1 : Int32) = 0))) (XS.iload X213.here hx rfl (hb hby at_252) rfl kc_)))))))) ?_
      show own_Ends p e below s _ _ _ (T213.setTop (mkF m 254 #[.val (.int p1), .val (.int p2), .val (.int p3), .val (.int p4), .val (.int p5), .val (.int nc), .val (.ref so), .val (.ref to), .val (.int qq), .val (.int (2 : Int32)), .val (.int (1 : Int32)), .val (.int (1 : Int32)), .val (.int (0 : Int32)), .val (.int (-1 : Int32)), .val (.int (1 : Int32)), .val (.ref ba), .val (.int (1 : Int32))] [(.int (1 : Int32))]))
      refine own_step (fun _ kc_ => XS.ifNo X213.here hx rfl (hb hby at_254) rfl (XT.i0_eq_f (by decide : ¬ ((1 : Int32) = 0))) (XS.iconst X213.here hx rfl (hb hby at_257) (XS.goto X213.here hx rfl (pc0 := 258) (pc' := 262) rfl (hb hby at_258) (by decide) (by decide) kc_))) ?_
      show own_Ends p e below s _ _ _ (T213.setTop (mkF m 262 #[.val (.int p1), .val (.int p2), .val (.int p3), .val (.int p4), .val (.int p5), .val (.int nc), .val (.ref so), .val (.ref to), .val (.int qq), .val (.int (2 : Int32)), .val (.int (1 : Int32)), .val (.int (1 : Int32)), .val (.int (0 : Int32)), .val (.int (-1 : Int32)), .val (.int (1 : Int32)), .val (.ref ba), .val (.int (1 : Int32))] [(.int (1 : Int32))]))
      exact own_retN X213 hx (t := .boolean) hret (by simp) hlk (hb hby at_262) (by omega) (by omega) rfl ⟨rfl, N213⟩
    · show own_Ends p e below s _ _ _ (T189.setTop (mkF m 138 #[.val (.int p1), .val (.int p2), .val (.int p3), .val (.int p4), .val (.int p5), .val (.int nc), .val (.ref so), .val (.ref to), .val (.int qq), .val (.int (3 : Int32)), .val (.int (1 : Int32)), .val (.int (1 : Int32)), .val (.int (0 : Int32)), .val (.int (-1 : Int32)), .val (.int (1 : Int32)), .unset, .unset] []))
      refine own_step (fun _ kc_ => XS.aload X189.here hx rfl (hb hby at_138) rfl rfl (XS.iload X189.here hx rfl (hb hby at_140) rfl kc_)) ?_
      show own_Ends p e below s _ _ _ (T189.setTop (mkF m 142 #[.val (.int p1), .val (.int p2), .val (.int p3), .val (.int p4), .val (.int p5), .val (.int nc), .val (.ref so), .val (.ref to), .val (.int qq), .val (.int (3 : Int32)), .val (.int (1 : Int32)), .val (.int (1 : Int32)), .val (.int (0 : Int32)), .val (.int (-1 : Int32)), .val (.int (1 : Int32)), .unset, .unset] [(.int (3 : Int32)), (.ref so)]))
      obtain ⟨cq214, kq214, q214a, q214b, q214c⟩ := isOf hZ e189h Es
      obtain ⟨_, _, ⟨T214, L214, k214, n214⟩, -, X214, ⟨Lc214, hQ214, l214, y214, z214⟩, st214⟩ := X189.virtualBack hx (y := (⟨"com/example/kinds_by_value/kindsbyvalue/NameSet", "below", "(I)[I"⟩ : MethodName)) (z := (⟨"com/example/kinds_by_value/kindsbyvalue/NameSet", "below", "(I)[I"⟩ : MethodName)) hown (mvT hZ (hw _ (List.mem_of_getElem? (i := 54) rfl))) (mvT hZ (hw _ (List.mem_of_getElem? (i := 55) rfl))) (notFace_of_selects (args := #[]) (mvT hZ (hw _ (List.mem_of_getElem? (i := 57) rfl)))) (mvT hZ (hw _ (List.mem_of_getElem? (i := 57) rfl))) (mvT hZ (hw _ (List.mem_of_getElem? (i := 56) rfl))) (by decide) (own_backX (W := 0) (rmB3 l Z a0 hw [] so  h n0 Z0 so0) hZ (hw _ (List.mem_of_getElem? (i := 58) rfl)) (hw _ (List.mem_of_getElem? (i := 2) rfl)) (by decide) (by decide) (fun _ _ _ _ _ _ _ Y => own_site_at hS Y)) q214a q214c (g := (mkF m 142 #[.val (.int p1), .val (.int p2), .val (.int p3), .val (.int p4), .val (.int p5), .val (.int nc), .val (.ref so), .val (.ref to), .val (.int qq), .val (.int (3 : Int32)), .val (.int (1 : Int32)), .val (.int (1 : Int32)), .val (.int (0 : Int32)), .val (.int (-1 : Int32)), .val (.int (1 : Int32)), .unset, .unset] [(.int (3 : Int32)), (.ref so)])) rfl (by rw [hml]; rfl) (Steps.refl _) (argsL := [(.int (3 : Int32))]) (rest := []) (lenOf pd_2 rfl) rfl (by show 2 * 0 + _ ≤ _; exact Nat.le_of_eq rfl) (hb hby at_142) (fun _ _ => ⟨rfl, e189h, (by show k189 + 1 ≤ 24; omega), (by show n189 + 3 ≤ 192; omega)⟩)
      dsimp only [Pt.U, Pt.locs, Pt.cells, Pt.slots] at X214 l214 y214 z214 st214 hQ214
      have y214_ : k214 = k189 + 1 := y214
      have z214_ : n214 = n189 + 3 := z214
      obtain ⟨N214q, K214k, ba, rfl, A214k⟩ := hQ214
      have Zs214 := Nat.le_trans Z0 K214k.1
      have N214 : Fr n0 L214 := by rw [l214]; exact Fr.app N189 N214q
      refine own_step (fun _ kc_ => st214.trans kc_) ?_
      show own_Ends p e below s _ _ _ (T214.setTop (mkF m 145 #[.val (.int p1), .val (.int p2), .val (.int p3), .val (.int p4), .val (.int p5), .val (.int nc), .val (.ref so), .val (.ref to), .val (.int qq), .val (.int (3 : Int32)), .val (.int (1 : Int32)), .val (.int (1 : Int32)), .val (.int (0 : Int32)), .val (.int (-1 : Int32)), .val (.int (1 : Int32)), .unset, .unset] [(.ref ba)]))
      refine own_step (fun _ kc_ => XS.astore X214.here hx rfl (hb hby at_145) rfl rfl (l' := #[.val (.int p1), .val (.int p2), .val (.int p3), .val (.int p4), .val (.int p5), .val (.int nc), .val (.ref so), .val (.ref to), .val (.int qq), .val (.int (3 : Int32)), .val (.int (1 : Int32)), .val (.int (1 : Int32)), .val (.int (0 : Int32)), .val (.int (-1 : Int32)), .val (.int (1 : Int32)), .val (.ref ba), .unset]) rfl (XS.aload X214.here hx rfl (hb hby at_147) rfl rfl (own_alen X214 hx hZ rfl A214k (n := 3) (z := (3 : Int32)) rfl rfl (hb hby at_149) _ (XS.iload X214.here hx rfl (hb hby at_150) rfl (XS.icmpNo X214.here hx rfl (hb hby at_152) rfl (XT.ii_ne_f (by decide : (3 : Int32) = (3 : Int32))) (XS.aload X214.here hx rfl (hb hby at_155) rfl rfl (XS.iconst X214.here hx rfl (hb hby at_157) kc_))))))) ?_
      show own_Ends p e below s _ _ _ (T214.setTop (mkF m 158 #[.val (.int p1), .val (.int p2), .val (.int p3), .val (.int p4), .val (.int p5), .val (.int nc), .val (.ref so), .val (.ref to), .val (.int qq), .val (.int (3 : Int32)), .val (.int (1 : Int32)), .val (.int (1 : Int32)), .val (.int (0 : Int32)), .val (.int (-1 : Int32)), .val (.int (1 : Int32)), .val (.ref ba), .unset] [(.int (0 : Int32)), (.ref ba)]))
      obtain ⟨_, _, ⟨T215, L215, k215, n215⟩, -, X215, ⟨Lc215, hQ215, l215, y215, z215⟩, st215⟩ := Jvm.LawKit.callS X214 hx (y := (⟨"com/example/kinds_by_value/kindsbyvalue/NameSetAddEveryNamePinLaw", "at", "([II)Z"⟩ : MethodName)) hown (mvT hZ (hw _ (List.mem_of_getElem? (i := 70) rfl))) (mvT hZ (hw _ (List.mem_of_getElem? (i := 71) rfl))) (mvT hZ (hw _ (List.mem_of_getElem? (i := 72) rfl))) (mvT hZ (hw _ (List.mem_of_getElem? (i := 73) rfl))) (by decide) (backOf (W := 0) (rmT1 l Z a0 hw [] ba (0 : Int32) [(.int (0 : Int32)), (.int (1 : Int32)), (.int (2 : Int32))] 3 0 T214.heap n0 Zs214 A214k rfl (by decide) (by decide) rfl rfl) hZ (hw _ (List.mem_of_getElem? (i := 73) rfl)) (hw _ (List.mem_of_getElem? (i := 72) rfl)) (by decide) (by decide)) (g := (mkF m 158 #[.val (.int p1), .val (.int p2), .val (.int p3), .val (.int p4), .val (.int p5), .val (.int nc), .val (.ref so), .val (.ref to), .val (.int qq), .val (.int (3 : Int32)), .val (.int (1 : Int32)), .val (.int (1 : Int32)), .val (.int (0 : Int32)), .val (.int (-1 : Int32)), .val (.int (1 : Int32)), .val (.ref ba), .unset] [(.int (0 : Int32)), (.ref ba)])) rfl (by rw [hml]; rfl) (argsL := [(.ref ba), (.int (0 : Int32))]) (rest := []) (lenOf pd_11 rfl) rfl (by show 2 * 0 + _ ≤ _; exact Nat.le_of_eq rfl) (hb hby at_158) (fun _ _ => ⟨rfl, rfl, (by show k214 + 0 ≤ 24; omega), (by show n214 + 0 ≤ 192; omega)⟩)
      dsimp only [Pt.U, Pt.locs, Pt.cells, Pt.slots] at X215 l215 y215 z215 st215 hQ215
      have y215_ : k215 = k214 + 0 := y215
      have z215_ : n215 = n214 + 0 := z215
      obtain ⟨rfl, N215q, e215⟩ := hQ215
      have e215h : T215.heap = T214.heap := e215
      have N215 : Fr n0 L215 := by rw [l215]; exact Fr.app N214 N215q
      refine own_step (fun _ kc_ => st215 _ kc_) ?_
      show own_Ends p e below s _ _ _ (T215.setTop (mkF m 161 #[.val (.int p1), .val (.int p2), .val (.int p3), .val (.int p4), .val (.int p5), .val (.int nc), .val (.ref so), .val (.ref to), .val (.int qq), .val (.int (3 : Int32)), .val (.int (1 : Int32)), .val (.int (1 : Int32)), .val (.int (0 : Int32)), .val (.int (-1 : Int32)), .val (.int (1 : Int32)), .val (.ref ba), .unset] [(.int (1 : Int32))]))
      refine own_step (fun _ kc_ => XS.ifNo X215.here hx rfl (hb hby at_161) rfl (XT.i0_eq_f (by decide : ¬ ((1 : Int32) = 0))) (XS.aload X215.here hx rfl (hb hby at_164) rfl rfl (XS.iconst X215.here hx rfl (hb hby at_166) kc_))) ?_
      show own_Ends p e below s _ _ _ (T215.setTop (mkF m 167 #[.val (.int p1), .val (.int p2), .val (.int p3), .val (.int p4), .val (.int p5), .val (.int nc), .val (.ref so), .val (.ref to), .val (.int qq), .val (.int (3 : Int32)), .val (.int (1 : Int32)), .val (.int (1 : Int32)), .val (.int (0 : Int32)), .val (.int (-1 : Int32)), .val (.int (1 : Int32)), .val (.ref ba), .unset] [(.int (1 : Int32)), (.ref ba)]))
      obtain ⟨_, _, ⟨T216, L216, k216, n216⟩, -, X216, ⟨Lc216, hQ216, l216, y216, z216⟩, st216⟩ := Jvm.LawKit.callS X215 hx (y := (⟨"com/example/kinds_by_value/kindsbyvalue/NameSetAddEveryNamePinLaw", "at", "([II)Z"⟩ : MethodName)) hown (mvT hZ (hw _ (List.mem_of_getElem? (i := 70) rfl))) (mvT hZ (hw _ (List.mem_of_getElem? (i := 71) rfl))) (mvT hZ (hw _ (List.mem_of_getElem? (i := 72) rfl))) (mvT hZ (hw _ (List.mem_of_getElem? (i := 73) rfl))) (by decide) (backOf (W := 0) (rmT1 l Z a0 hw [] ba (1 : Int32) [(.int (0 : Int32)), (.int (1 : Int32)), (.int (2 : Int32))] 3 1 T214.heap n0 Zs214 A214k rfl (by decide) (by decide) rfl rfl) hZ (hw _ (List.mem_of_getElem? (i := 73) rfl)) (hw _ (List.mem_of_getElem? (i := 72) rfl)) (by decide) (by decide)) (g := (mkF m 167 #[.val (.int p1), .val (.int p2), .val (.int p3), .val (.int p4), .val (.int p5), .val (.int nc), .val (.ref so), .val (.ref to), .val (.int qq), .val (.int (3 : Int32)), .val (.int (1 : Int32)), .val (.int (1 : Int32)), .val (.int (0 : Int32)), .val (.int (-1 : Int32)), .val (.int (1 : Int32)), .val (.ref ba), .unset] [(.int (1 : Int32)), (.ref ba)])) rfl (by rw [hml]; rfl) (argsL := [(.ref ba), (.int (1 : Int32))]) (rest := []) (lenOf pd_11 rfl) rfl (by show 2 * 0 + _ ≤ _; exact Nat.le_of_eq rfl) (hb hby at_167) (fun _ _ => ⟨rfl, e215h, (by show k215 + 0 ≤ 24; omega), (by show n215 + 0 ≤ 192; omega)⟩)
      dsimp only [Pt.U, Pt.locs, Pt.cells, Pt.slots] at X216 l216 y216 z216 st216 hQ216
      have y216_ : k216 = k215 + 0 := y216
      have z216_ : n216 = n215 + 0 := z216
      obtain ⟨rfl, N216q, e216⟩ := hQ216
      have e216h : T216.heap = T214.heap := e216
      have N216 : Fr n0 L216 := by rw [l216]; exact Fr.app N215 N216q
      refine own_step (fun _ kc_ => st216 _ kc_) ?_
      show own_Ends p e below s _ _ _ (T216.setTop (mkF m 170 #[.val (.int p1), .val (.int p2), .val (.int p3), .val (.int p4), .val (.int p5), .val (.int nc), .val (.ref so), .val (.ref to), .val (.int qq), .val (.int (3 : Int32)), .val (.int (1 : Int32)), .val (.int (1 : Int32)), .val (.int (0 : Int32)), .val (.int (-1 : Int32)), .val (.int (1 : Int32)), .val (.ref ba), .unset] [(.int (1 : Int32))]))
      refine own_step (fun _ kc_ => XS.ifNo X216.here hx rfl (hb hby at_170) rfl (XT.i0_eq_f (by decide : ¬ ((1 : Int32) = 0))) (XS.aload X216.here hx rfl (hb hby at_173) rfl rfl (XS.iconst X216.here hx rfl (hb hby at_175) kc_))) ?_
      show own_Ends p e below s _ _ _ (T216.setTop (mkF m 176 #[.val (.int p1), .val (.int p2), .val (.int p3), .val (.int p4), .val (.int p5), .val (.int nc), .val (.ref so), .val (.ref to), .val (.int qq), .val (.int (3 : Int32)), .val (.int (1 : Int32)), .val (.int (1 : Int32)), .val (.int (0 : Int32)), .val (.int (-1 : Int32)), .val (.int (1 : Int32)), .val (.ref ba), .unset] [(.int (2 : Int32)), (.ref ba)]))
      obtain ⟨_, _, ⟨T217, L217, k217, n217⟩, -, X217, ⟨Lc217, hQ217, l217, y217, z217⟩, st217⟩ := Jvm.LawKit.callS X216 hx (y := (⟨"com/example/kinds_by_value/kindsbyvalue/NameSetAddEveryNamePinLaw", "at", "([II)Z"⟩ : MethodName)) hown (mvT hZ (hw _ (List.mem_of_getElem? (i := 70) rfl))) (mvT hZ (hw _ (List.mem_of_getElem? (i := 71) rfl))) (mvT hZ (hw _ (List.mem_of_getElem? (i := 72) rfl))) (mvT hZ (hw _ (List.mem_of_getElem? (i := 73) rfl))) (by decide) (backOf (W := 0) (rmT1 l Z a0 hw [] ba (2 : Int32) [(.int (0 : Int32)), (.int (1 : Int32)), (.int (2 : Int32))] 3 2 T214.heap n0 Zs214 A214k rfl (by decide) (by decide) rfl rfl) hZ (hw _ (List.mem_of_getElem? (i := 73) rfl)) (hw _ (List.mem_of_getElem? (i := 72) rfl)) (by decide) (by decide)) (g := (mkF m 176 #[.val (.int p1), .val (.int p2), .val (.int p3), .val (.int p4), .val (.int p5), .val (.int nc), .val (.ref so), .val (.ref to), .val (.int qq), .val (.int (3 : Int32)), .val (.int (1 : Int32)), .val (.int (1 : Int32)), .val (.int (0 : Int32)), .val (.int (-1 : Int32)), .val (.int (1 : Int32)), .val (.ref ba), .unset] [(.int (2 : Int32)), (.ref ba)])) rfl (by rw [hml]; rfl) (argsL := [(.ref ba), (.int (2 : Int32))]) (rest := []) (lenOf pd_11 rfl) rfl (by show 2 * 0 + _ ≤ _; exact Nat.le_of_eq rfl) (hb hby at_176) (fun _ _ => ⟨rfl, e216h, (by show k216 + 0 ≤ 24; omega), (by show n216 + 0 ≤ 192; omega)⟩)
      dsimp only [Pt.U, Pt.locs, Pt.cells, Pt.slots] at X217 l217 y217 z217 st217 hQ217
      have y217_ : k217 = k216 + 0 := y217
      have z217_ : n217 = n216 + 0 := z217
      obtain ⟨rfl, N217q, e217⟩ := hQ217
      have e217h : T217.heap = T214.heap := e217
      have N217 : Fr n0 L217 := by rw [l217]; exact Fr.app N216 N217q
      refine own_step (fun _ kc_ => st217 _ kc_) ?_
      show own_Ends p e below s _ _ _ (T217.setTop (mkF m 179 #[.val (.int p1), .val (.int p2), .val (.int p3), .val (.int p4), .val (.int p5), .val (.int nc), .val (.ref so), .val (.ref to), .val (.int qq), .val (.int (3 : Int32)), .val (.int (1 : Int32)), .val (.int (1 : Int32)), .val (.int (0 : Int32)), .val (.int (-1 : Int32)), .val (.int (1 : Int32)), .val (.ref ba), .unset] [(.int (1 : Int32))]))
      refine own_step (fun _ kc_ => XS.ifNo X217.here hx rfl (hb hby at_179) rfl (XT.i0_eq_f (by decide : ¬ ((1 : Int32) = 0))) (XS.aload X217.here hx rfl (hb hby at_182) rfl rfl (XS.iconst X217.here hx rfl (hb hby at_184) kc_))) ?_
      show own_Ends p e below s _ _ _ (T217.setTop (mkF m 185 #[.val (.int p1), .val (.int p2), .val (.int p3), .val (.int p4), .val (.int p5), .val (.int nc), .val (.ref so), .val (.ref to), .val (.int qq), .val (.int (3 : Int32)), .val (.int (1 : Int32)), .val (.int (1 : Int32)), .val (.int (0 : Int32)), .val (.int (-1 : Int32)), .val (.int (1 : Int32)), .val (.ref ba), .unset] [(.int (3 : Int32)), (.ref ba)]))
      obtain ⟨_, _, ⟨T218, L218, k218, n218⟩, -, X218, ⟨Lc218, hQ218, l218, y218, z218⟩, st218⟩ := Jvm.LawKit.callS X217 hx (y := (⟨"com/example/kinds_by_value/kindsbyvalue/NameSetAddEveryNamePinLaw", "at", "([II)Z"⟩ : MethodName)) hown (mvT hZ (hw _ (List.mem_of_getElem? (i := 70) rfl))) (mvT hZ (hw _ (List.mem_of_getElem? (i := 71) rfl))) (mvT hZ (hw _ (List.mem_of_getElem? (i := 72) rfl))) (mvT hZ (hw _ (List.mem_of_getElem? (i := 73) rfl))) (by decide) (backOf (W := 0) (rmT0 l Z a0 hw [] ba (3 : Int32) [(.int (0 : Int32)), (.int (1 : Int32)), (.int (2 : Int32))] 3 T214.heap n0 Zs214 A214k rfl (by decide)) hZ (hw _ (List.mem_of_getElem? (i := 73) rfl)) (hw _ (List.mem_of_getElem? (i := 72) rfl)) (by decide) (by decide)) (g := (mkF m 185 #[.val (.int p1), .val (.int p2), .val (.int p3), .val (.int p4), .val (.int p5), .val (.int nc), .val (.ref so), .val (.ref to), .val (.int qq), .val (.int (3 : Int32)), .val (.int (1 : Int32)), .val (.int (1 : Int32)), .val (.int (0 : Int32)), .val (.int (-1 : Int32)), .val (.int (1 : Int32)), .val (.ref ba), .unset] [(.int (3 : Int32)), (.ref ba)])) rfl (by rw [hml]; rfl) (argsL := [(.ref ba), (.int (3 : Int32))]) (rest := []) (lenOf pd_11 rfl) rfl (by show 2 * 0 + _ ≤ _; exact Nat.le_of_eq rfl) (hb hby at_185) (fun _ _ => ⟨rfl, e217h, (by show k217 + 0 ≤ 24; omega), (by show n217 + 0 ≤ 192; omega)⟩)
      dsimp only [Pt.U, Pt.locs, Pt.cells, Pt.slots] at X218 l218 y218 z218 st218 hQ218
      have y218_ : k218 = k217 + 0 := y218
      have z218_ : n218 = n217 + 0 := z218
      obtain ⟨rfl, N218q, e218⟩ := hQ218
      have e218h : T218.heap = T214.heap := e218
      have N218 : Fr n0 L218 := by rw [l218]; exact Fr.app N217 N218q
      refine own_step (fun _ kc_ => st218 _ kc_) ?_
      show own_Ends p e below s _ _ _ (T218.setTop (mkF m 188 #[.val (.int p1), .val (.int p2), .val (.int p3), .val (.int p4), .val (.int p5), .val (.int nc), .val (.ref so), .val (.ref to), .val (.int qq), .val (.int (3 : Int32)), .val (.int (1 : Int32)), .val (.int (1 : Int32)), .val (.int (0 : Int32)), .val (.int (-1 : Int32)), .val (.int (1 : Int32)), .val (.ref ba), .unset] [(.int (1 : Int32))]))
      refine own_step (fun _ kc_ => XS.ifNo X218.here hx rfl (hb hby at_188) rfl (XT.i0_eq_f (by decide : ¬ ((1 : Int32) = 0))) (XS.aload X218.here hx rfl (hb hby at_191) rfl rfl (XS.iconst X218.here hx rfl (hb hby at_193) kc_))) ?_
      show own_Ends p e below s _ _ _ (T218.setTop (mkF m 194 #[.val (.int p1), .val (.int p2), .val (.int p3), .val (.int p4), .val (.int p5), .val (.int nc), .val (.ref so), .val (.ref to), .val (.int qq), .val (.int (3 : Int32)), .val (.int (1 : Int32)), .val (.int (1 : Int32)), .val (.int (0 : Int32)), .val (.int (-1 : Int32)), .val (.int (1 : Int32)), .val (.ref ba), .unset] [(.int (4 : Int32)), (.ref ba)]))
      obtain ⟨_, _, ⟨T219, L219, k219, n219⟩, -, X219, ⟨Lc219, hQ219, l219, y219, z219⟩, st219⟩ := Jvm.LawKit.callS X218 hx (y := (⟨"com/example/kinds_by_value/kindsbyvalue/NameSetAddEveryNamePinLaw", "at", "([II)Z"⟩ : MethodName)) hown (mvT hZ (hw _ (List.mem_of_getElem? (i := 70) rfl))) (mvT hZ (hw _ (List.mem_of_getElem? (i := 71) rfl))) (mvT hZ (hw _ (List.mem_of_getElem? (i := 72) rfl))) (mvT hZ (hw _ (List.mem_of_getElem? (i := 73) rfl))) (by decide) (backOf (W := 0) (rmT0 l Z a0 hw [] ba (4 : Int32) [(.int (0 : Int32)), (.int (1 : Int32)), (.int (2 : Int32))] 3 T214.heap n0 Zs214 A214k rfl (by decide)) hZ (hw _ (List.mem_of_getElem? (i := 73) rfl)) (hw _ (List.mem_of_getElem? (i := 72) rfl)) (by decide) (by decide)) (g := (mkF m 194 #[.val (.int p1), .val (.int p2), .val (.int p3), .val (.int p4), .val (.int p5), .val (.int nc), .val (.ref so), .val (.ref to), .val (.int qq), .val (.int (3 : Int32)), .val (.int (1 : Int32)), .val (.int (1 : Int32)), .val (.int (0 : Int32)), .val (.int (-1 : Int32)), .val (.int (1 : Int32)), .val (.ref ba), .unset] [(.int (4 : Int32)), (.ref ba)])) rfl (by rw [hml]; rfl) (argsL := [(.ref ba), (.int (4 : Int32))]) (rest := []) (lenOf pd_11 rfl) rfl (by show 2 * 0 + _ ≤ _; exact Nat.le_of_eq rfl) (hb hby at_194) (fun _ _ => ⟨rfl, e218h, (by show k218 + 0 ≤ 24; omega), (by show n218 + 0 ≤ 192; omega)⟩)
      dsimp only [Pt.U, Pt.locs, Pt.cells, Pt.slots] at X219 l219 y219 z219 st219 hQ219
      have y219_ : k219 = k218 + 0 := y219
      have z219_ : n219 = n218 + 0 := z219
      obtain ⟨rfl, N219q, e219⟩ := hQ219
      have e219h : T219.heap = T214.heap := e219
      have N219 : Fr n0 L219 := by rw [l219]; exact Fr.app N218 N219q
      refine own_step (fun _ kc_ => st219 _ kc_) ?_
      show own_Ends p e below s _ _ _ (T219.setTop (mkF m 197 #[.val (.int p1), .val (.int p2), .val (.int p3), .val (.int p4), .val (.int p5), .val (.int nc), .val (.ref so), .val (.ref to), .val (.int qq), .val (.int (3 : Int32)), .val (.int (1 : Int32)), .val (.int (1 : Int32)), .val (.int (0 : Int32)), .val (.int (-1 : Int32)), .val (.int (1 : Int32)), .val (.ref ba), .unset] [(.int (1 : Int32))]))
      refine own_step (fun _ kc_ => XS.ifNo X219.here hx rfl (hb hby at_197) rfl (XT.i0_eq_f (by decide : ¬ ((1 : Int32) = 0))) (XS.aload X219.here hx rfl (hb hby at_200) rfl rfl (XS.iconst X219.here hx rfl (hb hby at_202) kc_))) ?_
      show own_Ends p e below s _ _ _ (T219.setTop (mkF m 203 #[.val (.int p1), .val (.int p2), .val (.int p3), .val (.int p4), .val (.int p5), .val (.int nc), .val (.ref so), .val (.ref to), .val (.int qq), .val (.int (3 : Int32)), .val (.int (1 : Int32)), .val (.int (1 : Int32)), .val (.int (0 : Int32)), .val (.int (-1 : Int32)), .val (.int (1 : Int32)), .val (.ref ba), .unset] [(.int (5 : Int32)), (.ref ba)]))
      obtain ⟨_, _, ⟨T220, L220, k220, n220⟩, -, X220, ⟨Lc220, hQ220, l220, y220, z220⟩, st220⟩ := Jvm.LawKit.callS X219 hx (y := (⟨"com/example/kinds_by_value/kindsbyvalue/NameSetAddEveryNamePinLaw", "at", "([II)Z"⟩ : MethodName)) hown (mvT hZ (hw _ (List.mem_of_getElem? (i := 70) rfl))) (mvT hZ (hw _ (List.mem_of_getElem? (i := 71) rfl))) (mvT hZ (hw _ (List.mem_of_getElem? (i := 72) rfl))) (mvT hZ (hw _ (List.mem_of_getElem? (i := 73) rfl))) (by decide) (backOf (W := 0) (rmT0 l Z a0 hw [] ba (5 : Int32) [(.int (0 : Int32)), (.int (1 : Int32)), (.int (2 : Int32))] 3 T214.heap n0 Zs214 A214k rfl (by decide)) hZ (hw _ (List.mem_of_getElem? (i := 73) rfl)) (hw _ (List.mem_of_getElem? (i := 72) rfl)) (by decide) (by decide)) (g := (mkF m 203 #[.val (.int p1), .val (.int p2), .val (.int p3), .val (.int p4), .val (.int p5), .val (.int nc), .val (.ref so), .val (.ref to), .val (.int qq), .val (.int (3 : Int32)), .val (.int (1 : Int32)), .val (.int (1 : Int32)), .val (.int (0 : Int32)), .val (.int (-1 : Int32)), .val (.int (1 : Int32)), .val (.ref ba), .unset] [(.int (5 : Int32)), (.ref ba)])) rfl (by rw [hml]; rfl) (argsL := [(.ref ba), (.int (5 : Int32))]) (rest := []) (lenOf pd_11 rfl) rfl (by show 2 * 0 + _ ≤ _; exact Nat.le_of_eq rfl) (hb hby at_203) (fun _ _ => ⟨rfl, e219h, (by show k219 + 0 ≤ 24; omega), (by show n219 + 0 ≤ 192; omega)⟩)
      dsimp only [Pt.U, Pt.locs, Pt.cells, Pt.slots] at X220 l220 y220 z220 st220 hQ220
      have y220_ : k220 = k219 + 0 := y220
      have z220_ : n220 = n219 + 0 := z220
      obtain ⟨rfl, N220q, e220⟩ := hQ220
      have e220h : T220.heap = T214.heap := e220
      have N220 : Fr n0 L220 := by rw [l220]; exact Fr.app N219 N220q
      refine own_step (fun _ kc_ => st220 _ kc_) ?_
      show own_Ends p e below s _ _ _ (T220.setTop (mkF m 206 #[.val (.int p1), .val (.int p2), .val (.int p3), .val (.int p4), .val (.int p5), .val (.int nc), .val (.ref so), .val (.ref to), .val (.int qq), .val (.int (3 : Int32)), .val (.int (1 : Int32)), .val (.int (1 : Int32)), .val (.int (0 : Int32)), .val (.int (-1 : Int32)), .val (.int (1 : Int32)), .val (.ref ba), .unset] [(.int (1 : Int32))]))
      refine own_step (fun _ kc_ => XS.ifNo X220.here hx rfl (hb hby at_206) rfl (XT.i0_eq_f (by decide : ¬ ((1 : Int32) = 0))) (XS.aload X220.here hx rfl (hb hby at_209) rfl rfl (XS.bipush X220.here hx rfl (hb hby at_211) kc_))) ?_
      show own_Ends p e below s _ _ _ (T220.setTop (mkF m 213 #[.val (.int p1), .val (.int p2), .val (.int p3), .val (.int p4), .val (.int p5), .val (.int nc), .val (.ref so), .val (.ref to), .val (.int qq), .val (.int (3 : Int32)), .val (.int (1 : Int32)), .val (.int (1 : Int32)), .val (.int (0 : Int32)), .val (.int (-1 : Int32)), .val (.int (1 : Int32)), .val (.ref ba), .unset] [(.int (6 : Int32)), (.ref ba)]))
      obtain ⟨_, _, ⟨T221, L221, k221, n221⟩, -, X221, ⟨Lc221, hQ221, l221, y221, z221⟩, st221⟩ := Jvm.LawKit.callS X220 hx (y := (⟨"com/example/kinds_by_value/kindsbyvalue/NameSetAddEveryNamePinLaw", "at", "([II)Z"⟩ : MethodName)) hown (mvT hZ (hw _ (List.mem_of_getElem? (i := 70) rfl))) (mvT hZ (hw _ (List.mem_of_getElem? (i := 71) rfl))) (mvT hZ (hw _ (List.mem_of_getElem? (i := 72) rfl))) (mvT hZ (hw _ (List.mem_of_getElem? (i := 73) rfl))) (by decide) (backOf (W := 0) (rmT0 l Z a0 hw [] ba (6 : Int32) [(.int (0 : Int32)), (.int (1 : Int32)), (.int (2 : Int32))] 3 T214.heap n0 Zs214 A214k rfl (by decide)) hZ (hw _ (List.mem_of_getElem? (i := 73) rfl)) (hw _ (List.mem_of_getElem? (i := 72) rfl)) (by decide) (by decide)) (g := (mkF m 213 #[.val (.int p1), .val (.int p2), .val (.int p3), .val (.int p4), .val (.int p5), .val (.int nc), .val (.ref so), .val (.ref to), .val (.int qq), .val (.int (3 : Int32)), .val (.int (1 : Int32)), .val (.int (1 : Int32)), .val (.int (0 : Int32)), .val (.int (-1 : Int32)), .val (.int (1 : Int32)), .val (.ref ba), .unset] [(.int (6 : Int32)), (.ref ba)])) rfl (by rw [hml]; rfl) (argsL := [(.ref ba), (.int (6 : Int32))]) (rest := []) (lenOf pd_11 rfl) rfl (by show 2 * 0 + _ ≤ _; exact Nat.le_of_eq rfl) (hb hby at_213) (fun _ _ => ⟨rfl, e220h, (by show k220 + 0 ≤ 24; omega), (by show n220 + 0 ≤ 192; omega)⟩)
      dsimp only [Pt.U, Pt.locs, Pt.cells, Pt.slots] at X221 l221 y221 z221 st221 hQ221
      have y221_ : k221 = k220 + 0 := y221
      have z221_ : n221 = n220 + 0 := z221
      obtain ⟨rfl, N221q, e221⟩ := hQ221
      have e221h : T221.heap = T214.heap := e221
      have N221 : Fr n0 L221 := by rw [l221]; exact Fr.app N220 N221q
      refine own_step (fun _ kc_ => st221 _ kc_) ?_
      show own_Ends p e below s _ _ _ (T221.setTop (mkF m 216 #[.val (.int p1), .val (.int p2), .val (.int p3), .val (.int p4), .val (.int p5), .val (.int nc), .val (.ref so), .val (.ref to), .val (.int qq), .val (.int (3 : Int32)), .val (.int (1 : Int32)), .val (.int (1 : Int32)), .val (.int (0 : Int32)), .val (.int (-1 : Int32)), .val (.int (1 : Int32)), .val (.ref ba), .unset] [(.int (1 : Int32))]))
      refine own_step (fun _ kc_ => XS.ifNo X221.here hx rfl (hb hby at_216) rfl (XT.i0_eq_f (by decide : ¬ ((1 : Int32) = 0))) (XS.iconst X221.here hx rfl (hb hby at_219) (XS.goto X221.here hx rfl (pc0 := 220) (pc' := 224) rfl (hb hby at_220) (by decide) (by decide) (XS.istore X221.here hx rfl (hb hby at_224) rfl (l' := #[.val (.int p1), .val (.int p2), .val (.int p3), .val (.int p4), .val (.int p5), .val (.int nc), .val (.ref so), .val (.ref to), .val (.int qq), .val (.int (3 : Int32)), .val (.int (1 : Int32)), .val (.int (1 : Int32)), .val (.int (0 : Int32)), .val (.int (-1 : Int32)), .val (.int (1 : Int32)), .val (.ref ba), .val (.int (1 : Int32))]) rfl (XS.iload X221.here hx rfl (hb hby at_226) rfl (XS.ifNo X221.here hx rfl (hb hby at_228) rfl (XT.i0_eq_f (by decide : ¬ ((1 : Int32) = 0))) (XS.iload X221.here hx rfl (hb hby at_231) rfl (XS.ifNo X221.here hx rfl (hb hby at_233) rfl (XT.i0_eq_f (by decide : ¬ ((1 : Int32) = 0))) kc_)))))))) ?_
      show own_Ends p e below s _ _ _ (T221.setTop (mkF m 236 #[.val (.int p1), .val (.int p2), .val (.int p3), .val (.int p4), .val (.int p5), .val (.int nc), .val (.ref so), .val (.ref to), .val (.int qq), .val (.int (3 : Int32)), .val (.int (1 : Int32)), .val (.int (1 : Int32)), .val (.int (0 : Int32)), .val (.int (-1 : Int32)), .val (.int (1 : Int32)), .val (.ref ba), .val (.int (1 : Int32))] []))
      refine own_step (fun _ kc_ => XS.iload X221.here hx rfl (hb hby at_236) rfl (XS.ifNo X221.here hx rfl (hb hby at_238) rfl (XT.i0_ne_f (by decide : (0 : Int32) = 0)) (XS.iload X221.here hx rfl (hb hby at_241) rfl (XS.iconst X221.here hx rfl (hb hby at_243) (XS.icmpNo X221.here hx rfl (hb hby at_244) rfl (XT.ii_ne_f (by decide : (-1 : Int32) = (-1 : Int32))) (XS.iload X221.here hx rfl (hb hby at_247) rfl (XS.ifNo X221.here hx rfl (hb hby at_249) rfl (XT.i0_eq_f (by decide : ¬ ((1 : Int32) = 0))) (XS.iload X221.here hx rfl (hb hby at_252) rfl kc_)))))))) ?_
      show own_Ends p e below s _ _ _ (T221.setTop (mkF m 254 #[.val (.int p1), .val (.int p2), .val (.int p3), .val (.int p4), .val (.int p5), .val (.int nc), .val (.ref so), .val (.ref to), .val (.int qq), .val (.int (3 : Int32)), .val (.int (1 : Int32)), .val (.int (1 : Int32)), .val (.int (0 : Int32)), .val (.int (-1 : Int32)), .val (.int (1 : Int32)), .val (.ref ba), .val (.int (1 : Int32))] [(.int (1 : Int32))]))
      refine own_step (fun _ kc_ => XS.ifNo X221.here hx rfl (hb hby at_254) rfl (XT.i0_eq_f (by decide : ¬ ((1 : Int32) = 0))) (XS.iconst X221.here hx rfl (hb hby at_257) (XS.goto X221.here hx rfl (pc0 := 258) (pc' := 262) rfl (hb hby at_258) (by decide) (by decide) kc_))) ?_
      show own_Ends p e below s _ _ _ (T221.setTop (mkF m 262 #[.val (.int p1), .val (.int p2), .val (.int p3), .val (.int p4), .val (.int p5), .val (.int nc), .val (.ref so), .val (.ref to), .val (.int qq), .val (.int (3 : Int32)), .val (.int (1 : Int32)), .val (.int (1 : Int32)), .val (.int (0 : Int32)), .val (.int (-1 : Int32)), .val (.int (1 : Int32)), .val (.ref ba), .val (.int (1 : Int32))] [(.int (1 : Int32))]))
      exact own_retN X221 hx (t := .boolean) hret (by simp) hlk (hb hby at_262) (by omega) (by omega) rfl ⟨rfl, N221⟩
    · show own_Ends p e below s _ _ _ (T189.setTop (mkF m 138 #[.val (.int p1), .val (.int p2), .val (.int p3), .val (.int p4), .val (.int p5), .val (.int nc), .val (.ref so), .val (.ref to), .val (.int qq), .val (.int (4 : Int32)), .val (.int (1 : Int32)), .val (.int (1 : Int32)), .val (.int (0 : Int32)), .val (.int (-1 : Int32)), .val (.int (1 : Int32)), .unset, .unset] []))
      refine own_step (fun _ kc_ => XS.aload X189.here hx rfl (hb hby at_138) rfl rfl (XS.iload X189.here hx rfl (hb hby at_140) rfl kc_)) ?_
      show own_Ends p e below s _ _ _ (T189.setTop (mkF m 142 #[.val (.int p1), .val (.int p2), .val (.int p3), .val (.int p4), .val (.int p5), .val (.int nc), .val (.ref so), .val (.ref to), .val (.int qq), .val (.int (4 : Int32)), .val (.int (1 : Int32)), .val (.int (1 : Int32)), .val (.int (0 : Int32)), .val (.int (-1 : Int32)), .val (.int (1 : Int32)), .unset, .unset] [(.int (4 : Int32)), (.ref so)]))
      obtain ⟨cq222, kq222, q222a, q222b, q222c⟩ := isOf hZ e189h Es
      obtain ⟨_, _, ⟨T222, L222, k222, n222⟩, -, X222, ⟨Lc222, hQ222, l222, y222, z222⟩, st222⟩ := X189.virtualBack hx (y := (⟨"com/example/kinds_by_value/kindsbyvalue/NameSet", "below", "(I)[I"⟩ : MethodName)) (z := (⟨"com/example/kinds_by_value/kindsbyvalue/NameSet", "below", "(I)[I"⟩ : MethodName)) hown (mvT hZ (hw _ (List.mem_of_getElem? (i := 54) rfl))) (mvT hZ (hw _ (List.mem_of_getElem? (i := 55) rfl))) (notFace_of_selects (args := #[]) (mvT hZ (hw _ (List.mem_of_getElem? (i := 57) rfl)))) (mvT hZ (hw _ (List.mem_of_getElem? (i := 57) rfl))) (mvT hZ (hw _ (List.mem_of_getElem? (i := 56) rfl))) (by decide) (own_backX (W := 0) (rmB4 l Z a0 hw [] so  h n0 Z0 so0) hZ (hw _ (List.mem_of_getElem? (i := 58) rfl)) (hw _ (List.mem_of_getElem? (i := 2) rfl)) (by decide) (by decide) (fun _ _ _ _ _ _ _ Y => own_site_at hS Y)) q222a q222c (g := (mkF m 142 #[.val (.int p1), .val (.int p2), .val (.int p3), .val (.int p4), .val (.int p5), .val (.int nc), .val (.ref so), .val (.ref to), .val (.int qq), .val (.int (4 : Int32)), .val (.int (1 : Int32)), .val (.int (1 : Int32)), .val (.int (0 : Int32)), .val (.int (-1 : Int32)), .val (.int (1 : Int32)), .unset, .unset] [(.int (4 : Int32)), (.ref so)])) rfl (by rw [hml]; rfl) (Steps.refl _) (argsL := [(.int (4 : Int32))]) (rest := []) (lenOf pd_2 rfl) rfl (by show 2 * 0 + _ ≤ _; exact Nat.le_of_eq rfl) (hb hby at_142) (fun _ _ => ⟨rfl, e189h, (by show k189 + 1 ≤ 24; omega), (by show n189 + 4 ≤ 192; omega)⟩)
      dsimp only [Pt.U, Pt.locs, Pt.cells, Pt.slots] at X222 l222 y222 z222 st222 hQ222
      have y222_ : k222 = k189 + 1 := y222
      have z222_ : n222 = n189 + 4 := z222
      obtain ⟨N222q, K222k, ba, rfl, A222k⟩ := hQ222
      have Zs222 := Nat.le_trans Z0 K222k.1
      have N222 : Fr n0 L222 := by rw [l222]; exact Fr.app N189 N222q
      refine own_step (fun _ kc_ => st222.trans kc_) ?_
      show own_Ends p e below s _ _ _ (T222.setTop (mkF m 145 #[.val (.int p1), .val (.int p2), .val (.int p3), .val (.int p4), .val (.int p5), .val (.int nc), .val (.ref so), .val (.ref to), .val (.int qq), .val (.int (4 : Int32)), .val (.int (1 : Int32)), .val (.int (1 : Int32)), .val (.int (0 : Int32)), .val (.int (-1 : Int32)), .val (.int (1 : Int32)), .unset, .unset] [(.ref ba)]))
      refine own_step (fun _ kc_ => XS.astore X222.here hx rfl (hb hby at_145) rfl rfl (l' := #[.val (.int p1), .val (.int p2), .val (.int p3), .val (.int p4), .val (.int p5), .val (.int nc), .val (.ref so), .val (.ref to), .val (.int qq), .val (.int (4 : Int32)), .val (.int (1 : Int32)), .val (.int (1 : Int32)), .val (.int (0 : Int32)), .val (.int (-1 : Int32)), .val (.int (1 : Int32)), .val (.ref ba), .unset]) rfl (XS.aload X222.here hx rfl (hb hby at_147) rfl rfl (own_alen X222 hx hZ rfl A222k (n := 4) (z := (4 : Int32)) rfl rfl (hb hby at_149) _ (XS.iload X222.here hx rfl (hb hby at_150) rfl (XS.icmpNo X222.here hx rfl (hb hby at_152) rfl (XT.ii_ne_f (by decide : (4 : Int32) = (4 : Int32))) (XS.aload X222.here hx rfl (hb hby at_155) rfl rfl (XS.iconst X222.here hx rfl (hb hby at_157) kc_))))))) ?_
      show own_Ends p e below s _ _ _ (T222.setTop (mkF m 158 #[.val (.int p1), .val (.int p2), .val (.int p3), .val (.int p4), .val (.int p5), .val (.int nc), .val (.ref so), .val (.ref to), .val (.int qq), .val (.int (4 : Int32)), .val (.int (1 : Int32)), .val (.int (1 : Int32)), .val (.int (0 : Int32)), .val (.int (-1 : Int32)), .val (.int (1 : Int32)), .val (.ref ba), .unset] [(.int (0 : Int32)), (.ref ba)]))
      obtain ⟨_, _, ⟨T223, L223, k223, n223⟩, -, X223, ⟨Lc223, hQ223, l223, y223, z223⟩, st223⟩ := Jvm.LawKit.callS X222 hx (y := (⟨"com/example/kinds_by_value/kindsbyvalue/NameSetAddEveryNamePinLaw", "at", "([II)Z"⟩ : MethodName)) hown (mvT hZ (hw _ (List.mem_of_getElem? (i := 70) rfl))) (mvT hZ (hw _ (List.mem_of_getElem? (i := 71) rfl))) (mvT hZ (hw _ (List.mem_of_getElem? (i := 72) rfl))) (mvT hZ (hw _ (List.mem_of_getElem? (i := 73) rfl))) (by decide) (backOf (W := 0) (rmT1 l Z a0 hw [] ba (0 : Int32) [(.int (0 : Int32)), (.int (1 : Int32)), (.int (2 : Int32)), (.int (3 : Int32))] 4 0 T222.heap n0 Zs222 A222k rfl (by decide) (by decide) rfl rfl) hZ (hw _ (List.mem_of_getElem? (i := 73) rfl)) (hw _ (List.mem_of_getElem? (i := 72) rfl)) (by decide) (by decide)) (g := (mkF m 158 #[.val (.int p1), .val (.int p2), .val (.int p3), .val (.int p4), .val (.int p5), .val (.int nc), .val (.ref so), .val (.ref to), .val (.int qq), .val (.int (4 : Int32)), .val (.int (1 : Int32)), .val (.int (1 : Int32)), .val (.int (0 : Int32)), .val (.int (-1 : Int32)), .val (.int (1 : Int32)), .val (.ref ba), .unset] [(.int (0 : Int32)), (.ref ba)])) rfl (by rw [hml]; rfl) (argsL := [(.ref ba), (.int (0 : Int32))]) (rest := []) (lenOf pd_11 rfl) rfl (by show 2 * 0 + _ ≤ _; exact Nat.le_of_eq rfl) (hb hby at_158) (fun _ _ => ⟨rfl, rfl, (by show k222 + 0 ≤ 24; omega), (by show n222 + 0 ≤ 192; omega)⟩)
      dsimp only [Pt.U, Pt.locs, Pt.cells, Pt.slots] at X223 l223 y223 z223 st223 hQ223
      have y223_ : k223 = k222 + 0 := y223
      have z223_ : n223 = n222 + 0 := z223
      obtain ⟨rfl, N223q, e223⟩ := hQ223
      have e223h : T223.heap = T222.heap := e223
      have N223 : Fr n0 L223 := by rw [l223]; exact Fr.app N222 N223q
      refine own_step (fun _ kc_ => st223 _ kc_) ?_
      show own_Ends p e below s _ _ _ (T223.setTop (mkF m 161 #[.val (.int p1), .val (.int p2), .val (.int p3), .val (.int p4), .val (.int p5), .val (.int nc), .val (.ref so), .val (.ref to), .val (.int qq), .val (.int (4 : Int32)), .val (.int (1 : Int32)), .val (.int (1 : Int32)), .val (.int (0 : Int32)), .val (.int (-1 : Int32)), .val (.int (1 : Int32)), .val (.ref ba), .unset] [(.int (1 : Int32))]))
      refine own_step (fun _ kc_ => XS.ifNo X223.here hx rfl (hb hby at_161) rfl (XT.i0_eq_f (by decide : ¬ ((1 : Int32) = 0))) (XS.aload X223.here hx rfl (hb hby at_164) rfl rfl (XS.iconst X223.here hx rfl (hb hby at_166) kc_))) ?_
      show own_Ends p e below s _ _ _ (T223.setTop (mkF m 167 #[.val (.int p1), .val (.int p2), .val (.int p3), .val (.int p4), .val (.int p5), .val (.int nc), .val (.ref so), .val (.ref to), .val (.int qq), .val (.int (4 : Int32)), .val (.int (1 : Int32)), .val (.int (1 : Int32)), .val (.int (0 : Int32)), .val (.int (-1 : Int32)), .val (.int (1 : Int32)), .val (.ref ba), .unset] [(.int (1 : Int32)), (.ref ba)]))
      obtain ⟨_, _, ⟨T224, L224, k224, n224⟩, -, X224, ⟨Lc224, hQ224, l224, y224, z224⟩, st224⟩ := Jvm.LawKit.callS X223 hx (y := (⟨"com/example/kinds_by_value/kindsbyvalue/NameSetAddEveryNamePinLaw", "at", "([II)Z"⟩ : MethodName)) hown (mvT hZ (hw _ (List.mem_of_getElem? (i := 70) rfl))) (mvT hZ (hw _ (List.mem_of_getElem? (i := 71) rfl))) (mvT hZ (hw _ (List.mem_of_getElem? (i := 72) rfl))) (mvT hZ (hw _ (List.mem_of_getElem? (i := 73) rfl))) (by decide) (backOf (W := 0) (rmT1 l Z a0 hw [] ba (1 : Int32) [(.int (0 : Int32)), (.int (1 : Int32)), (.int (2 : Int32)), (.int (3 : Int32))] 4 1 T222.heap n0 Zs222 A222k rfl (by decide) (by decide) rfl rfl) hZ (hw _ (List.mem_of_getElem? (i := 73) rfl)) (hw _ (List.mem_of_getElem? (i := 72) rfl)) (by decide) (by decide)) (g := (mkF m 167 #[.val (.int p1), .val (.int p2), .val (.int p3), .val (.int p4), .val (.int p5), .val (.int nc), .val (.ref so), .val (.ref to), .val (.int qq), .val (.int (4 : Int32)), .val (.int (1 : Int32)), .val (.int (1 : Int32)), .val (.int (0 : Int32)), .val (.int (-1 : Int32)), .val (.int (1 : Int32)), .val (.ref ba), .unset] [(.int (1 : Int32)), (.ref ba)])) rfl (by rw [hml]; rfl) (argsL := [(.ref ba), (.int (1 : Int32))]) (rest := []) (lenOf pd_11 rfl) rfl (by show 2 * 0 + _ ≤ _; exact Nat.le_of_eq rfl) (hb hby at_167) (fun _ _ => ⟨rfl, e223h, (by show k223 + 0 ≤ 24; omega), (by show n223 + 0 ≤ 192; omega)⟩)
      dsimp only [Pt.U, Pt.locs, Pt.cells, Pt.slots] at X224 l224 y224 z224 st224 hQ224
      have y224_ : k224 = k223 + 0 := y224
      have z224_ : n224 = n223 + 0 := z224
      obtain ⟨rfl, N224q, e224⟩ := hQ224
      have e224h : T224.heap = T222.heap := e224
      have N224 : Fr n0 L224 := by rw [l224]; exact Fr.app N223 N224q
      refine own_step (fun _ kc_ => st224 _ kc_) ?_
      show own_Ends p e below s _ _ _ (T224.setTop (mkF m 170 #[.val (.int p1), .val (.int p2), .val (.int p3), .val (.int p4), .val (.int p5), .val (.int nc), .val (.ref so), .val (.ref to), .val (.int qq), .val (.int (4 : Int32)), .val (.int (1 : Int32)), .val (.int (1 : Int32)), .val (.int (0 : Int32)), .val (.int (-1 : Int32)), .val (.int (1 : Int32)), .val (.ref ba), .unset] [(.int (1 : Int32))]))
      refine own_step (fun _ kc_ => XS.ifNo X224.here hx rfl (hb hby at_170) rfl (XT.i0_eq_f (by decide : ¬ ((1 : Int32) = 0))) (XS.aload X224.here hx rfl (hb hby at_173) rfl rfl (XS.iconst X224.here hx rfl (hb hby at_175) kc_))) ?_
      show own_Ends p e below s _ _ _ (T224.setTop (mkF m 176 #[.val (.int p1), .val (.int p2), .val (.int p3), .val (.int p4), .val (.int p5), .val (.int nc), .val (.ref so), .val (.ref to), .val (.int qq), .val (.int (4 : Int32)), .val (.int (1 : Int32)), .val (.int (1 : Int32)), .val (.int (0 : Int32)), .val (.int (-1 : Int32)), .val (.int (1 : Int32)), .val (.ref ba), .unset] [(.int (2 : Int32)), (.ref ba)]))
      obtain ⟨_, _, ⟨T225, L225, k225, n225⟩, -, X225, ⟨Lc225, hQ225, l225, y225, z225⟩, st225⟩ := Jvm.LawKit.callS X224 hx (y := (⟨"com/example/kinds_by_value/kindsbyvalue/NameSetAddEveryNamePinLaw", "at", "([II)Z"⟩ : MethodName)) hown (mvT hZ (hw _ (List.mem_of_getElem? (i := 70) rfl))) (mvT hZ (hw _ (List.mem_of_getElem? (i := 71) rfl))) (mvT hZ (hw _ (List.mem_of_getElem? (i := 72) rfl))) (mvT hZ (hw _ (List.mem_of_getElem? (i := 73) rfl))) (by decide) (backOf (W := 0) (rmT1 l Z a0 hw [] ba (2 : Int32) [(.int (0 : Int32)), (.int (1 : Int32)), (.int (2 : Int32)), (.int (3 : Int32))] 4 2 T222.heap n0 Zs222 A222k rfl (by decide) (by decide) rfl rfl) hZ (hw _ (List.mem_of_getElem? (i := 73) rfl)) (hw _ (List.mem_of_getElem? (i := 72) rfl)) (by decide) (by decide)) (g := (mkF m 176 #[.val (.int p1), .val (.int p2), .val (.int p3), .val (.int p4), .val (.int p5), .val (.int nc), .val (.ref so), .val (.ref to), .val (.int qq), .val (.int (4 : Int32)), .val (.int (1 : Int32)), .val (.int (1 : Int32)), .val (.int (0 : Int32)), .val (.int (-1 : Int32)), .val (.int (1 : Int32)), .val (.ref ba), .unset] [(.int (2 : Int32)), (.ref ba)])) rfl (by rw [hml]; rfl) (argsL := [(.ref ba), (.int (2 : Int32))]) (rest := []) (lenOf pd_11 rfl) rfl (by show 2 * 0 + _ ≤ _; exact Nat.le_of_eq rfl) (hb hby at_176) (fun _ _ => ⟨rfl, e224h, (by show k224 + 0 ≤ 24; omega), (by show n224 + 0 ≤ 192; omega)⟩)
      dsimp only [Pt.U, Pt.locs, Pt.cells, Pt.slots] at X225 l225 y225 z225 st225 hQ225
      have y225_ : k225 = k224 + 0 := y225
      have z225_ : n225 = n224 + 0 := z225
      obtain ⟨rfl, N225q, e225⟩ := hQ225
      have e225h : T225.heap = T222.heap := e225
      have N225 : Fr n0 L225 := by rw [l225]; exact Fr.app N224 N225q
      refine own_step (fun _ kc_ => st225 _ kc_) ?_
      show own_Ends p e below s _ _ _ (T225.setTop (mkF m 179 #[.val (.int p1), .val (.int p2), .val (.int p3), .val (.int p4), .val (.int p5), .val (.int nc), .val (.ref so), .val (.ref to), .val (.int qq), .val (.int (4 : Int32)), .val (.int (1 : Int32)), .val (.int (1 : Int32)), .val (.int (0 : Int32)), .val (.int (-1 : Int32)), .val (.int (1 : Int32)), .val (.ref ba), .unset] [(.int (1 : Int32))]))
      refine own_step (fun _ kc_ => XS.ifNo X225.here hx rfl (hb hby at_179) rfl (XT.i0_eq_f (by decide : ¬ ((1 : Int32) = 0))) (XS.aload X225.here hx rfl (hb hby at_182) rfl rfl (XS.iconst X225.here hx rfl (hb hby at_184) kc_))) ?_
      show own_Ends p e below s _ _ _ (T225.setTop (mkF m 185 #[.val (.int p1), .val (.int p2), .val (.int p3), .val (.int p4), .val (.int p5), .val (.int nc), .val (.ref so), .val (.ref to), .val (.int qq), .val (.int (4 : Int32)), .val (.int (1 : Int32)), .val (.int (1 : Int32)), .val (.int (0 : Int32)), .val (.int (-1 : Int32)), .val (.int (1 : Int32)), .val (.ref ba), .unset] [(.int (3 : Int32)), (.ref ba)]))
      obtain ⟨_, _, ⟨T226, L226, k226, n226⟩, -, X226, ⟨Lc226, hQ226, l226, y226, z226⟩, st226⟩ := Jvm.LawKit.callS X225 hx (y := (⟨"com/example/kinds_by_value/kindsbyvalue/NameSetAddEveryNamePinLaw", "at", "([II)Z"⟩ : MethodName)) hown (mvT hZ (hw _ (List.mem_of_getElem? (i := 70) rfl))) (mvT hZ (hw _ (List.mem_of_getElem? (i := 71) rfl))) (mvT hZ (hw _ (List.mem_of_getElem? (i := 72) rfl))) (mvT hZ (hw _ (List.mem_of_getElem? (i := 73) rfl))) (by decide) (backOf (W := 0) (rmT1 l Z a0 hw [] ba (3 : Int32) [(.int (0 : Int32)), (.int (1 : Int32)), (.int (2 : Int32)), (.int (3 : Int32))] 4 3 T222.heap n0 Zs222 A222k rfl (by decide) (by decide) rfl rfl) hZ (hw _ (List.mem_of_getElem? (i := 73) rfl)) (hw _ (List.mem_of_getElem? (i := 72) rfl)) (by decide) (by decide)) (g := (mkF m 185 #[.val (.int p1), .val (.int p2), .val (.int p3), .val (.int p4), .val (.int p5), .val (.int nc), .val (.ref so), .val (.ref to), .val (.int qq), .val (.int (4 : Int32)), .val (.int (1 : Int32)), .val (.int (1 : Int32)), .val (.int (0 : Int32)), .val (.int (-1 : Int32)), .val (.int (1 : Int32)), .val (.ref ba), .unset] [(.int (3 : Int32)), (.ref ba)])) rfl (by rw [hml]; rfl) (argsL := [(.ref ba), (.int (3 : Int32))]) (rest := []) (lenOf pd_11 rfl) rfl (by show 2 * 0 + _ ≤ _; exact Nat.le_of_eq rfl) (hb hby at_185) (fun _ _ => ⟨rfl, e225h, (by show k225 + 0 ≤ 24; omega), (by show n225 + 0 ≤ 192; omega)⟩)
      dsimp only [Pt.U, Pt.locs, Pt.cells, Pt.slots] at X226 l226 y226 z226 st226 hQ226
      have y226_ : k226 = k225 + 0 := y226
      have z226_ : n226 = n225 + 0 := z226
      obtain ⟨rfl, N226q, e226⟩ := hQ226
      have e226h : T226.heap = T222.heap := e226
      have N226 : Fr n0 L226 := by rw [l226]; exact Fr.app N225 N226q
      refine own_step (fun _ kc_ => st226 _ kc_) ?_
      show own_Ends p e below s _ _ _ (T226.setTop (mkF m 188 #[.val (.int p1), .val (.int p2), .val (.int p3), .val (.int p4), .val (.int p5), .val (.int nc), .val (.ref so), .val (.ref to), .val (.int qq), .val (.int (4 : Int32)), .val (.int (1 : Int32)), .val (.int (1 : Int32)), .val (.int (0 : Int32)), .val (.int (-1 : Int32)), .val (.int (1 : Int32)), .val (.ref ba), .unset] [(.int (1 : Int32))]))
      refine own_step (fun _ kc_ => XS.ifNo X226.here hx rfl (hb hby at_188) rfl (XT.i0_eq_f (by decide : ¬ ((1 : Int32) = 0))) (XS.aload X226.here hx rfl (hb hby at_191) rfl rfl (XS.iconst X226.here hx rfl (hb hby at_193) kc_))) ?_
      show own_Ends p e below s _ _ _ (T226.setTop (mkF m 194 #[.val (.int p1), .val (.int p2), .val (.int p3), .val (.int p4), .val (.int p5), .val (.int nc), .val (.ref so), .val (.ref to), .val (.int qq), .val (.int (4 : Int32)), .val (.int (1 : Int32)), .val (.int (1 : Int32)), .val (.int (0 : Int32)), .val (.int (-1 : Int32)), .val (.int (1 : Int32)), .val (.ref ba), .unset] [(.int (4 : Int32)), (.ref ba)]))
      obtain ⟨_, _, ⟨T227, L227, k227, n227⟩, -, X227, ⟨Lc227, hQ227, l227, y227, z227⟩, st227⟩ := Jvm.LawKit.callS X226 hx (y := (⟨"com/example/kinds_by_value/kindsbyvalue/NameSetAddEveryNamePinLaw", "at", "([II)Z"⟩ : MethodName)) hown (mvT hZ (hw _ (List.mem_of_getElem? (i := 70) rfl))) (mvT hZ (hw _ (List.mem_of_getElem? (i := 71) rfl))) (mvT hZ (hw _ (List.mem_of_getElem? (i := 72) rfl))) (mvT hZ (hw _ (List.mem_of_getElem? (i := 73) rfl))) (by decide) (backOf (W := 0) (rmT0 l Z a0 hw [] ba (4 : Int32) [(.int (0 : Int32)), (.int (1 : Int32)), (.int (2 : Int32)), (.int (3 : Int32))] 4 T222.heap n0 Zs222 A222k rfl (by decide)) hZ (hw _ (List.mem_of_getElem? (i := 73) rfl)) (hw _ (List.mem_of_getElem? (i := 72) rfl)) (by decide) (by decide)) (g := (mkF m 194 #[.val (.int p1), .val (.int p2), .val (.int p3), .val (.int p4), .val (.int p5), .val (.int nc), .val (.ref so), .val (.ref to), .val (.int qq), .val (.int (4 : Int32)), .val (.int (1 : Int32)), .val (.int (1 : Int32)), .val (.int (0 : Int32)), .val (.int (-1 : Int32)), .val (.int (1 : Int32)), .val (.ref ba), .unset] [(.int (4 : Int32)), (.ref ba)])) rfl (by rw [hml]; rfl) (argsL := [(.ref ba), (.int (4 : Int32))]) (rest := []) (lenOf pd_11 rfl) rfl (by show 2 * 0 + _ ≤ _; exact Nat.le_of_eq rfl) (hb hby at_194) (fun _ _ => ⟨rfl, e226h, (by show k226 + 0 ≤ 24; omega), (by show n226 + 0 ≤ 192; omega)⟩)
      dsimp only [Pt.U, Pt.locs, Pt.cells, Pt.slots] at X227 l227 y227 z227 st227 hQ227
      have y227_ : k227 = k226 + 0 := y227
      have z227_ : n227 = n226 + 0 := z227
      obtain ⟨rfl, N227q, e227⟩ := hQ227
      have e227h : T227.heap = T222.heap := e227
      have N227 : Fr n0 L227 := by rw [l227]; exact Fr.app N226 N227q
      refine own_step (fun _ kc_ => st227 _ kc_) ?_
      show own_Ends p e below s _ _ _ (T227.setTop (mkF m 197 #[.val (.int p1), .val (.int p2), .val (.int p3), .val (.int p4), .val (.int p5), .val (.int nc), .val (.ref so), .val (.ref to), .val (.int qq), .val (.int (4 : Int32)), .val (.int (1 : Int32)), .val (.int (1 : Int32)), .val (.int (0 : Int32)), .val (.int (-1 : Int32)), .val (.int (1 : Int32)), .val (.ref ba), .unset] [(.int (1 : Int32))]))
      refine own_step (fun _ kc_ => XS.ifNo X227.here hx rfl (hb hby at_197) rfl (XT.i0_eq_f (by decide : ¬ ((1 : Int32) = 0))) (XS.aload X227.here hx rfl (hb hby at_200) rfl rfl (XS.iconst X227.here hx rfl (hb hby at_202) kc_))) ?_
      show own_Ends p e below s _ _ _ (T227.setTop (mkF m 203 #[.val (.int p1), .val (.int p2), .val (.int p3), .val (.int p4), .val (.int p5), .val (.int nc), .val (.ref so), .val (.ref to), .val (.int qq), .val (.int (4 : Int32)), .val (.int (1 : Int32)), .val (.int (1 : Int32)), .val (.int (0 : Int32)), .val (.int (-1 : Int32)), .val (.int (1 : Int32)), .val (.ref ba), .unset] [(.int (5 : Int32)), (.ref ba)]))
      obtain ⟨_, _, ⟨T228, L228, k228, n228⟩, -, X228, ⟨Lc228, hQ228, l228, y228, z228⟩, st228⟩ := Jvm.LawKit.callS X227 hx (y := (⟨"com/example/kinds_by_value/kindsbyvalue/NameSetAddEveryNamePinLaw", "at", "([II)Z"⟩ : MethodName)) hown (mvT hZ (hw _ (List.mem_of_getElem? (i := 70) rfl))) (mvT hZ (hw _ (List.mem_of_getElem? (i := 71) rfl))) (mvT hZ (hw _ (List.mem_of_getElem? (i := 72) rfl))) (mvT hZ (hw _ (List.mem_of_getElem? (i := 73) rfl))) (by decide) (backOf (W := 0) (rmT0 l Z a0 hw [] ba (5 : Int32) [(.int (0 : Int32)), (.int (1 : Int32)), (.int (2 : Int32)), (.int (3 : Int32))] 4 T222.heap n0 Zs222 A222k rfl (by decide)) hZ (hw _ (List.mem_of_getElem? (i := 73) rfl)) (hw _ (List.mem_of_getElem? (i := 72) rfl)) (by decide) (by decide)) (g := (mkF m 203 #[.val (.int p1), .val (.int p2), .val (.int p3), .val (.int p4), .val (.int p5), .val (.int nc), .val (.ref so), .val (.ref to), .val (.int qq), .val (.int (4 : Int32)), .val (.int (1 : Int32)), .val (.int (1 : Int32)), .val (.int (0 : Int32)), .val (.int (-1 : Int32)), .val (.int (1 : Int32)), .val (.ref ba), .unset] [(.int (5 : Int32)), (.ref ba)])) rfl (by rw [hml]; rfl) (argsL := [(.ref ba), (.int (5 : Int32))]) (rest := []) (lenOf pd_11 rfl) rfl (by show 2 * 0 + _ ≤ _; exact Nat.le_of_eq rfl) (hb hby at_203) (fun _ _ => ⟨rfl, e227h, (by show k227 + 0 ≤ 24; omega), (by show n227 + 0 ≤ 192; omega)⟩)
      dsimp only [Pt.U, Pt.locs, Pt.cells, Pt.slots] at X228 l228 y228 z228 st228 hQ228
      have y228_ : k228 = k227 + 0 := y228
      have z228_ : n228 = n227 + 0 := z228
      obtain ⟨rfl, N228q, e228⟩ := hQ228
      have e228h : T228.heap = T222.heap := e228
      have N228 : Fr n0 L228 := by rw [l228]; exact Fr.app N227 N228q
      refine own_step (fun _ kc_ => st228 _ kc_) ?_
      show own_Ends p e below s _ _ _ (T228.setTop (mkF m 206 #[.val (.int p1), .val (.int p2), .val (.int p3), .val (.int p4), .val (.int p5), .val (.int nc), .val (.ref so), .val (.ref to), .val (.int qq), .val (.int (4 : Int32)), .val (.int (1 : Int32)), .val (.int (1 : Int32)), .val (.int (0 : Int32)), .val (.int (-1 : Int32)), .val (.int (1 : Int32)), .val (.ref ba), .unset] [(.int (1 : Int32))]))
      refine own_step (fun _ kc_ => XS.ifNo X228.here hx rfl (hb hby at_206) rfl (XT.i0_eq_f (by decide : ¬ ((1 : Int32) = 0))) (XS.aload X228.here hx rfl (hb hby at_209) rfl rfl (XS.bipush X228.here hx rfl (hb hby at_211) kc_))) ?_
      show own_Ends p e below s _ _ _ (T228.setTop (mkF m 213 #[.val (.int p1), .val (.int p2), .val (.int p3), .val (.int p4), .val (.int p5), .val (.int nc), .val (.ref so), .val (.ref to), .val (.int qq), .val (.int (4 : Int32)), .val (.int (1 : Int32)), .val (.int (1 : Int32)), .val (.int (0 : Int32)), .val (.int (-1 : Int32)), .val (.int (1 : Int32)), .val (.ref ba), .unset] [(.int (6 : Int32)), (.ref ba)]))
      obtain ⟨_, _, ⟨T229, L229, k229, n229⟩, -, X229, ⟨Lc229, hQ229, l229, y229, z229⟩, st229⟩ := Jvm.LawKit.callS X228 hx (y := (⟨"com/example/kinds_by_value/kindsbyvalue/NameSetAddEveryNamePinLaw", "at", "([II)Z"⟩ : MethodName)) hown (mvT hZ (hw _ (List.mem_of_getElem? (i := 70) rfl))) (mvT hZ (hw _ (List.mem_of_getElem? (i := 71) rfl))) (mvT hZ (hw _ (List.mem_of_getElem? (i := 72) rfl))) (mvT hZ (hw _ (List.mem_of_getElem? (i := 73) rfl))) (by decide) (backOf (W := 0) (rmT0 l Z a0 hw [] ba (6 : Int32) [(.int (0 : Int32)), (.int (1 : Int32)), (.int (2 : Int32)), (.int (3 : Int32))] 4 T222.heap n0 Zs222 A222k rfl (by decide)) hZ (hw _ (List.mem_of_getElem? (i := 73) rfl)) (hw _ (List.mem_of_getElem? (i := 72) rfl)) (by decide) (by decide)) (g := (mkF m 213 #[.val (.int p1), .val (.int p2), .val (.int p3), .val (.int p4), .val (.int p5), .val (.int nc), .val (.ref so), .val (.ref to), .val (.int qq), .val (.int (4 : Int32)), .val (.int (1 : Int32)), .val (.int (1 : Int32)), .val (.int (0 : Int32)), .val (.int (-1 : Int32)), .val (.int (1 : Int32)), .val (.ref ba), .unset] [(.int (6 : Int32)), (.ref ba)])) rfl (by rw [hml]; rfl) (argsL := [(.ref ba), (.int (6 : Int32))]) (rest := []) (lenOf pd_11 rfl) rfl (by show 2 * 0 + _ ≤ _; exact Nat.le_of_eq rfl) (hb hby at_213) (fun _ _ => ⟨rfl, e228h, (by show k228 + 0 ≤ 24; omega), (by show n228 + 0 ≤ 192; omega)⟩)
      dsimp only [Pt.U, Pt.locs, Pt.cells, Pt.slots] at X229 l229 y229 z229 st229 hQ229
      have y229_ : k229 = k228 + 0 := y229
      have z229_ : n229 = n228 + 0 := z229
      obtain ⟨rfl, N229q, e229⟩ := hQ229
      have e229h : T229.heap = T222.heap := e229
      have N229 : Fr n0 L229 := by rw [l229]; exact Fr.app N228 N229q
      refine own_step (fun _ kc_ => st229 _ kc_) ?_
      show own_Ends p e below s _ _ _ (T229.setTop (mkF m 216 #[.val (.int p1), .val (.int p2), .val (.int p3), .val (.int p4), .val (.int p5), .val (.int nc), .val (.ref so), .val (.ref to), .val (.int qq), .val (.int (4 : Int32)), .val (.int (1 : Int32)), .val (.int (1 : Int32)), .val (.int (0 : Int32)), .val (.int (-1 : Int32)), .val (.int (1 : Int32)), .val (.ref ba), .unset] [(.int (1 : Int32))]))
      refine own_step (fun _ kc_ => XS.ifNo X229.here hx rfl (hb hby at_216) rfl (XT.i0_eq_f (by decide : ¬ ((1 : Int32) = 0))) (XS.iconst X229.here hx rfl (hb hby at_219) (XS.goto X229.here hx rfl (pc0 := 220) (pc' := 224) rfl (hb hby at_220) (by decide) (by decide) (XS.istore X229.here hx rfl (hb hby at_224) rfl (l' := #[.val (.int p1), .val (.int p2), .val (.int p3), .val (.int p4), .val (.int p5), .val (.int nc), .val (.ref so), .val (.ref to), .val (.int qq), .val (.int (4 : Int32)), .val (.int (1 : Int32)), .val (.int (1 : Int32)), .val (.int (0 : Int32)), .val (.int (-1 : Int32)), .val (.int (1 : Int32)), .val (.ref ba), .val (.int (1 : Int32))]) rfl (XS.iload X229.here hx rfl (hb hby at_226) rfl (XS.ifNo X229.here hx rfl (hb hby at_228) rfl (XT.i0_eq_f (by decide : ¬ ((1 : Int32) = 0))) (XS.iload X229.here hx rfl (hb hby at_231) rfl (XS.ifNo X229.here hx rfl (hb hby at_233) rfl (XT.i0_eq_f (by decide : ¬ ((1 : Int32) = 0))) kc_)))))))) ?_
      show own_Ends p e below s _ _ _ (T229.setTop (mkF m 236 #[.val (.int p1), .val (.int p2), .val (.int p3), .val (.int p4), .val (.int p5), .val (.int nc), .val (.ref so), .val (.ref to), .val (.int qq), .val (.int (4 : Int32)), .val (.int (1 : Int32)), .val (.int (1 : Int32)), .val (.int (0 : Int32)), .val (.int (-1 : Int32)), .val (.int (1 : Int32)), .val (.ref ba), .val (.int (1 : Int32))] []))
      refine own_step (fun _ kc_ => XS.iload X229.here hx rfl (hb hby at_236) rfl (XS.ifNo X229.here hx rfl (hb hby at_238) rfl (XT.i0_ne_f (by decide : (0 : Int32) = 0)) (XS.iload X229.here hx rfl (hb hby at_241) rfl (XS.iconst X229.here hx rfl (hb hby at_243) (XS.icmpNo X229.here hx rfl (hb hby at_244) rfl (XT.ii_ne_f (by decide : (-1 : Int32) = (-1 : Int32))) (XS.iload X229.here hx rfl (hb hby at_247) rfl (XS.ifNo X229.here hx rfl (hb hby at_249) rfl (XT.i0_eq_f (by decide : ¬ ((1 : Int32) = 0))) (XS.iload X229.here hx rfl (hb hby at_252) rfl kc_)))))))) ?_
      show own_Ends p e below s _ _ _ (T229.setTop (mkF m 254 #[.val (.int p1), .val (.int p2), .val (.int p3), .val (.int p4), .val (.int p5), .val (.int nc), .val (.ref so), .val (.ref to), .val (.int qq), .val (.int (4 : Int32)), .val (.int (1 : Int32)), .val (.int (1 : Int32)), .val (.int (0 : Int32)), .val (.int (-1 : Int32)), .val (.int (1 : Int32)), .val (.ref ba), .val (.int (1 : Int32))] [(.int (1 : Int32))]))
      refine own_step (fun _ kc_ => XS.ifNo X229.here hx rfl (hb hby at_254) rfl (XT.i0_eq_f (by decide : ¬ ((1 : Int32) = 0))) (XS.iconst X229.here hx rfl (hb hby at_257) (XS.goto X229.here hx rfl (pc0 := 258) (pc' := 262) rfl (hb hby at_258) (by decide) (by decide) kc_))) ?_
      show own_Ends p e below s _ _ _ (T229.setTop (mkF m 262 #[.val (.int p1), .val (.int p2), .val (.int p3), .val (.int p4), .val (.int p5), .val (.int nc), .val (.ref so), .val (.ref to), .val (.int qq), .val (.int (4 : Int32)), .val (.int (1 : Int32)), .val (.int (1 : Int32)), .val (.int (0 : Int32)), .val (.int (-1 : Int32)), .val (.int (1 : Int32)), .val (.ref ba), .val (.int (1 : Int32))] [(.int (1 : Int32))]))
      exact own_retN X229 hx (t := .boolean) hret (by simp) hlk (hb hby at_262) (by omega) (by omega) rfl ⟨rfl, N229⟩
    · show own_Ends p e below s _ _ _ (T189.setTop (mkF m 138 #[.val (.int p1), .val (.int p2), .val (.int p3), .val (.int p4), .val (.int p5), .val (.int nc), .val (.ref so), .val (.ref to), .val (.int qq), .val (.int (5 : Int32)), .val (.int (1 : Int32)), .val (.int (1 : Int32)), .val (.int (0 : Int32)), .val (.int (-1 : Int32)), .val (.int (1 : Int32)), .unset, .unset] []))
      refine own_step (fun _ kc_ => XS.aload X189.here hx rfl (hb hby at_138) rfl rfl (XS.iload X189.here hx rfl (hb hby at_140) rfl kc_)) ?_
      show own_Ends p e below s _ _ _ (T189.setTop (mkF m 142 #[.val (.int p1), .val (.int p2), .val (.int p3), .val (.int p4), .val (.int p5), .val (.int nc), .val (.ref so), .val (.ref to), .val (.int qq), .val (.int (5 : Int32)), .val (.int (1 : Int32)), .val (.int (1 : Int32)), .val (.int (0 : Int32)), .val (.int (-1 : Int32)), .val (.int (1 : Int32)), .unset, .unset] [(.int (5 : Int32)), (.ref so)]))
      obtain ⟨cq230, kq230, q230a, q230b, q230c⟩ := isOf hZ e189h Es
      obtain ⟨_, _, ⟨T230, L230, k230, n230⟩, -, X230, ⟨Lc230, hQ230, l230, y230, z230⟩, st230⟩ := X189.virtualBack hx (y := (⟨"com/example/kinds_by_value/kindsbyvalue/NameSet", "below", "(I)[I"⟩ : MethodName)) (z := (⟨"com/example/kinds_by_value/kindsbyvalue/NameSet", "below", "(I)[I"⟩ : MethodName)) hown (mvT hZ (hw _ (List.mem_of_getElem? (i := 54) rfl))) (mvT hZ (hw _ (List.mem_of_getElem? (i := 55) rfl))) (notFace_of_selects (args := #[]) (mvT hZ (hw _ (List.mem_of_getElem? (i := 57) rfl)))) (mvT hZ (hw _ (List.mem_of_getElem? (i := 57) rfl))) (mvT hZ (hw _ (List.mem_of_getElem? (i := 56) rfl))) (by decide) (own_backX (W := 0) (rmB5 l Z a0 hw [] so  h n0 Z0 so0) hZ (hw _ (List.mem_of_getElem? (i := 58) rfl)) (hw _ (List.mem_of_getElem? (i := 2) rfl)) (by decide) (by decide) (fun _ _ _ _ _ _ _ Y => own_site_at hS Y)) q230a q230c (g := (mkF m 142 #[.val (.int p1), .val (.int p2), .val (.int p3), .val (.int p4), .val (.int p5), .val (.int nc), .val (.ref so), .val (.ref to), .val (.int qq), .val (.int (5 : Int32)), .val (.int (1 : Int32)), .val (.int (1 : Int32)), .val (.int (0 : Int32)), .val (.int (-1 : Int32)), .val (.int (1 : Int32)), .unset, .unset] [(.int (5 : Int32)), (.ref so)])) rfl (by rw [hml]; rfl) (Steps.refl _) (argsL := [(.int (5 : Int32))]) (rest := []) (lenOf pd_2 rfl) rfl (by show 2 * 0 + _ ≤ _; exact Nat.le_of_eq rfl) (hb hby at_142) (fun _ _ => ⟨rfl, e189h, (by show k189 + 1 ≤ 24; omega), (by show n189 + 5 ≤ 192; omega)⟩)
      dsimp only [Pt.U, Pt.locs, Pt.cells, Pt.slots] at X230 l230 y230 z230 st230 hQ230
      have y230_ : k230 = k189 + 1 := y230
      have z230_ : n230 = n189 + 5 := z230
      obtain ⟨N230q, K230k, ba, rfl, A230k⟩ := hQ230
      have Zs230 := Nat.le_trans Z0 K230k.1
      have N230 : Fr n0 L230 := by rw [l230]; exact Fr.app N189 N230q
      refine own_step (fun _ kc_ => st230.trans kc_) ?_
      show own_Ends p e below s _ _ _ (T230.setTop (mkF m 145 #[.val (.int p1), .val (.int p2), .val (.int p3), .val (.int p4), .val (.int p5), .val (.int nc), .val (.ref so), .val (.ref to), .val (.int qq), .val (.int (5 : Int32)), .val (.int (1 : Int32)), .val (.int (1 : Int32)), .val (.int (0 : Int32)), .val (.int (-1 : Int32)), .val (.int (1 : Int32)), .unset, .unset] [(.ref ba)]))
      refine own_step (fun _ kc_ => XS.astore X230.here hx rfl (hb hby at_145) rfl rfl (l' := #[.val (.int p1), .val (.int p2), .val (.int p3), .val (.int p4), .val (.int p5), .val (.int nc), .val (.ref so), .val (.ref to), .val (.int qq), .val (.int (5 : Int32)), .val (.int (1 : Int32)), .val (.int (1 : Int32)), .val (.int (0 : Int32)), .val (.int (-1 : Int32)), .val (.int (1 : Int32)), .val (.ref ba), .unset]) rfl (XS.aload X230.here hx rfl (hb hby at_147) rfl rfl (own_alen X230 hx hZ rfl A230k (n := 5) (z := (5 : Int32)) rfl rfl (hb hby at_149) _ (XS.iload X230.here hx rfl (hb hby at_150) rfl (XS.icmpNo X230.here hx rfl (hb hby at_152) rfl (XT.ii_ne_f (by decide : (5 : Int32) = (5 : Int32))) (XS.aload X230.here hx rfl (hb hby at_155) rfl rfl (XS.iconst X230.here hx rfl (hb hby at_157) kc_))))))) ?_
      show own_Ends p e below s _ _ _ (T230.setTop (mkF m 158 #[.val (.int p1), .val (.int p2), .val (.int p3), .val (.int p4), .val (.int p5), .val (.int nc), .val (.ref so), .val (.ref to), .val (.int qq), .val (.int (5 : Int32)), .val (.int (1 : Int32)), .val (.int (1 : Int32)), .val (.int (0 : Int32)), .val (.int (-1 : Int32)), .val (.int (1 : Int32)), .val (.ref ba), .unset] [(.int (0 : Int32)), (.ref ba)]))
      obtain ⟨_, _, ⟨T231, L231, k231, n231⟩, -, X231, ⟨Lc231, hQ231, l231, y231, z231⟩, st231⟩ := Jvm.LawKit.callS X230 hx (y := (⟨"com/example/kinds_by_value/kindsbyvalue/NameSetAddEveryNamePinLaw", "at", "([II)Z"⟩ : MethodName)) hown (mvT hZ (hw _ (List.mem_of_getElem? (i := 70) rfl))) (mvT hZ (hw _ (List.mem_of_getElem? (i := 71) rfl))) (mvT hZ (hw _ (List.mem_of_getElem? (i := 72) rfl))) (mvT hZ (hw _ (List.mem_of_getElem? (i := 73) rfl))) (by decide) (backOf (W := 0) (rmT1 l Z a0 hw [] ba (0 : Int32) [(.int (0 : Int32)), (.int (1 : Int32)), (.int (2 : Int32)), (.int (3 : Int32)), (.int (4 : Int32))] 5 0 T230.heap n0 Zs230 A230k rfl (by decide) (by decide) rfl rfl) hZ (hw _ (List.mem_of_getElem? (i := 73) rfl)) (hw _ (List.mem_of_getElem? (i := 72) rfl)) (by decide) (by decide)) (g := (mkF m 158 #[.val (.int p1), .val (.int p2), .val (.int p3), .val (.int p4), .val (.int p5), .val (.int nc), .val (.ref so), .val (.ref to), .val (.int qq), .val (.int (5 : Int32)), .val (.int (1 : Int32)), .val (.int (1 : Int32)), .val (.int (0 : Int32)), .val (.int (-1 : Int32)), .val (.int (1 : Int32)), .val (.ref ba), .unset] [(.int (0 : Int32)), (.ref ba)])) rfl (by rw [hml]; rfl) (argsL := [(.ref ba), (.int (0 : Int32))]) (rest := []) (lenOf pd_11 rfl) rfl (by show 2 * 0 + _ ≤ _; exact Nat.le_of_eq rfl) (hb hby at_158) (fun _ _ => ⟨rfl, rfl, (by show k230 + 0 ≤ 24; omega), (by show n230 + 0 ≤ 192; omega)⟩)
      dsimp only [Pt.U, Pt.locs, Pt.cells, Pt.slots] at X231 l231 y231 z231 st231 hQ231
      have y231_ : k231 = k230 + 0 := y231
      have z231_ : n231 = n230 + 0 := z231
      obtain ⟨rfl, N231q, e231⟩ := hQ231
      have e231h : T231.heap = T230.heap := e231
      have N231 : Fr n0 L231 := by rw [l231]; exact Fr.app N230 N231q
      refine own_step (fun _ kc_ => st231 _ kc_) ?_
      show own_Ends p e below s _ _ _ (T231.setTop (mkF m 161 #[.val (.int p1), .val (.int p2), .val (.int p3), .val (.int p4), .val (.int p5), .val (.int nc), .val (.ref so), .val (.ref to), .val (.int qq), .val (.int (5 : Int32)), .val (.int (1 : Int32)), .val (.int (1 : Int32)), .val (.int (0 : Int32)), .val (.int (-1 : Int32)), .val (.int (1 : Int32)), .val (.ref ba), .unset] [(.int (1 : Int32))]))
      refine own_step (fun _ kc_ => XS.ifNo X231.here hx rfl (hb hby at_161) rfl (XT.i0_eq_f (by decide : ¬ ((1 : Int32) = 0))) (XS.aload X231.here hx rfl (hb hby at_164) rfl rfl (XS.iconst X231.here hx rfl (hb hby at_166) kc_))) ?_
      show own_Ends p e below s _ _ _ (T231.setTop (mkF m 167 #[.val (.int p1), .val (.int p2), .val (.int p3), .val (.int p4), .val (.int p5), .val (.int nc), .val (.ref so), .val (.ref to), .val (.int qq), .val (.int (5 : Int32)), .val (.int (1 : Int32)), .val (.int (1 : Int32)), .val (.int (0 : Int32)), .val (.int (-1 : Int32)), .val (.int (1 : Int32)), .val (.ref ba), .unset] [(.int (1 : Int32)), (.ref ba)]))
      obtain ⟨_, _, ⟨T232, L232, k232, n232⟩, -, X232, ⟨Lc232, hQ232, l232, y232, z232⟩, st232⟩ := Jvm.LawKit.callS X231 hx (y := (⟨"com/example/kinds_by_value/kindsbyvalue/NameSetAddEveryNamePinLaw", "at", "([II)Z"⟩ : MethodName)) hown (mvT hZ (hw _ (List.mem_of_getElem? (i := 70) rfl))) (mvT hZ (hw _ (List.mem_of_getElem? (i := 71) rfl))) (mvT hZ (hw _ (List.mem_of_getElem? (i := 72) rfl))) (mvT hZ (hw _ (List.mem_of_getElem? (i := 73) rfl))) (by decide) (backOf (W := 0) (rmT1 l Z a0 hw [] ba (1 : Int32) [(.int (0 : Int32)), (.int (1 : Int32)), (.int (2 : Int32)), (.int (3 : Int32)), (.int (4 : Int32))] 5 1 T230.heap n0 Zs230 A230k rfl (by decide) (by decide) rfl rfl) hZ (hw _ (List.mem_of_getElem? (i := 73) rfl)) (hw _ (List.mem_of_getElem? (i := 72) rfl)) (by decide) (by decide)) (g := (mkF m 167 #[.val (.int p1), .val (.int p2), .val (.int p3), .val (.int p4), .val (.int p5), .val (.int nc), .val (.ref so), .val (.ref to), .val (.int qq), .val (.int (5 : Int32)), .val (.int (1 : Int32)), .val (.int (1 : Int32)), .val (.int (0 : Int32)), .val (.int (-1 : Int32)), .val (.int (1 : Int32)), .val (.ref ba), .unset] [(.int (1 : Int32)), (.ref ba)])) rfl (by rw [hml]; rfl) (argsL := [(.ref ba), (.int (1 : Int32))]) (rest := []) (lenOf pd_11 rfl) rfl (by show 2 * 0 + _ ≤ _; exact Nat.le_of_eq rfl) (hb hby at_167) (fun _ _ => ⟨rfl, e231h, (by show k231 + 0 ≤ 24; omega), (by show n231 + 0 ≤ 192; omega)⟩)
      dsimp only [Pt.U, Pt.locs, Pt.cells, Pt.slots] at X232 l232 y232 z232 st232 hQ232
      have y232_ : k232 = k231 + 0 := y232
      have z232_ : n232 = n231 + 0 := z232
      obtain ⟨rfl, N232q, e232⟩ := hQ232
      have e232h : T232.heap = T230.heap := e232
      have N232 : Fr n0 L232 := by rw [l232]; exact Fr.app N231 N232q
      refine own_step (fun _ kc_ => st232 _ kc_) ?_
      show own_Ends p e below s _ _ _ (T232.setTop (mkF m 170 #[.val (.int p1), .val (.int p2), .val (.int p3), .val (.int p4), .val (.int p5), .val (.int nc), .val (.ref so), .val (.ref to), .val (.int qq), .val (.int (5 : Int32)), .val (.int (1 : Int32)), .val (.int (1 : Int32)), .val (.int (0 : Int32)), .val (.int (-1 : Int32)), .val (.int (1 : Int32)), .val (.ref ba), .unset] [(.int (1 : Int32))]))
      refine own_step (fun _ kc_ => XS.ifNo X232.here hx rfl (hb hby at_170) rfl (XT.i0_eq_f (by decide : ¬ ((1 : Int32) = 0))) (XS.aload X232.here hx rfl (hb hby at_173) rfl rfl (XS.iconst X232.here hx rfl (hb hby at_175) kc_))) ?_
      show own_Ends p e below s _ _ _ (T232.setTop (mkF m 176 #[.val (.int p1), .val (.int p2), .val (.int p3), .val (.int p4), .val (.int p5), .val (.int nc), .val (.ref so), .val (.ref to), .val (.int qq), .val (.int (5 : Int32)), .val (.int (1 : Int32)), .val (.int (1 : Int32)), .val (.int (0 : Int32)), .val (.int (-1 : Int32)), .val (.int (1 : Int32)), .val (.ref ba), .unset] [(.int (2 : Int32)), (.ref ba)]))
      obtain ⟨_, _, ⟨T233, L233, k233, n233⟩, -, X233, ⟨Lc233, hQ233, l233, y233, z233⟩, st233⟩ := Jvm.LawKit.callS X232 hx (y := (⟨"com/example/kinds_by_value/kindsbyvalue/NameSetAddEveryNamePinLaw", "at", "([II)Z"⟩ : MethodName)) hown (mvT hZ (hw _ (List.mem_of_getElem? (i := 70) rfl))) (mvT hZ (hw _ (List.mem_of_getElem? (i := 71) rfl))) (mvT hZ (hw _ (List.mem_of_getElem? (i := 72) rfl))) (mvT hZ (hw _ (List.mem_of_getElem? (i := 73) rfl))) (by decide) (backOf (W := 0) (rmT1 l Z a0 hw [] ba (2 : Int32) [(.int (0 : Int32)), (.int (1 : Int32)), (.int (2 : Int32)), (.int (3 : Int32)), (.int (4 : Int32))] 5 2 T230.heap n0 Zs230 A230k rfl (by decide) (by decide) rfl rfl) hZ (hw _ (List.mem_of_getElem? (i := 73) rfl)) (hw _ (List.mem_of_getElem? (i := 72) rfl)) (by decide) (by decide)) (g := (mkF m 176 #[.val (.int p1), .val (.int p2), .val (.int p3), .val (.int p4), .val (.int p5), .val (.int nc), .val (.ref so), .val (.ref to), .val (.int qq), .val (.int (5 : Int32)), .val (.int (1 : Int32)), .val (.int (1 : Int32)), .val (.int (0 : Int32)), .val (.int (-1 : Int32)), .val (.int (1 : Int32)), .val (.ref ba), .unset] [(.int (2 : Int32)), (.ref ba)])) rfl (by rw [hml]; rfl) (argsL := [(.ref ba), (.int (2 : Int32))]) (rest := []) (lenOf pd_11 rfl) rfl (by show 2 * 0 + _ ≤ _; exact Nat.le_of_eq rfl) (hb hby at_176) (fun _ _ => ⟨rfl, e232h, (by show k232 + 0 ≤ 24; omega), (by show n232 + 0 ≤ 192; omega)⟩)
      dsimp only [Pt.U, Pt.locs, Pt.cells, Pt.slots] at X233 l233 y233 z233 st233 hQ233
      have y233_ : k233 = k232 + 0 := y233
      have z233_ : n233 = n232 + 0 := z233
      obtain ⟨rfl, N233q, e233⟩ := hQ233
      have e233h : T233.heap = T230.heap := e233
      have N233 : Fr n0 L233 := by rw [l233]; exact Fr.app N232 N233q
      refine own_step (fun _ kc_ => st233 _ kc_) ?_
      show own_Ends p e below s _ _ _ (T233.setTop (mkF m 179 #[.val (.int p1), .val (.int p2), .val (.int p3), .val (.int p4), .val (.int p5), .val (.int nc), .val (.ref so), .val (.ref to), .val (.int qq), .val (.int (5 : Int32)), .val (.int (1 : Int32)), .val (.int (1 : Int32)), .val (.int (0 : Int32)), .val (.int (-1 : Int32)), .val (.int (1 : Int32)), .val (.ref ba), .unset] [(.int (1 : Int32))]))
      refine own_step (fun _ kc_ => XS.ifNo X233.here hx rfl (hb hby at_179) rfl (XT.i0_eq_f (by decide : ¬ ((1 : Int32) = 0))) (XS.aload X233.here hx rfl (hb hby at_182) rfl rfl (XS.iconst X233.here hx rfl (hb hby at_184) kc_))) ?_
      show own_Ends p e below s _ _ _ (T233.setTop (mkF m 185 #[.val (.int p1), .val (.int p2), .val (.int p3), .val (.int p4), .val (.int p5), .val (.int nc), .val (.ref so), .val (.ref to), .val (.int qq), .val (.int (5 : Int32)), .val (.int (1 : Int32)), .val (.int (1 : Int32)), .val (.int (0 : Int32)), .val (.int (-1 : Int32)), .val (.int (1 : Int32)), .val (.ref ba), .unset] [(.int (3 : Int32)), (.ref ba)]))
      obtain ⟨_, _, ⟨T234, L234, k234, n234⟩, -, X234, ⟨Lc234, hQ234, l234, y234, z234⟩, st234⟩ := Jvm.LawKit.callS X233 hx (y := (⟨"com/example/kinds_by_value/kindsbyvalue/NameSetAddEveryNamePinLaw", "at", "([II)Z"⟩ : MethodName)) hown (mvT hZ (hw _ (List.mem_of_getElem? (i := 70) rfl))) (mvT hZ (hw _ (List.mem_of_getElem? (i := 71) rfl))) (mvT hZ (hw _ (List.mem_of_getElem? (i := 72) rfl))) (mvT hZ (hw _ (List.mem_of_getElem? (i := 73) rfl))) (by decide) (backOf (W := 0) (rmT1 l Z a0 hw [] ba (3 : Int32) [(.int (0 : Int32)), (.int (1 : Int32)), (.int (2 : Int32)), (.int (3 : Int32)), (.int (4 : Int32))] 5 3 T230.heap n0 Zs230 A230k rfl (by decide) (by decide) rfl rfl) hZ (hw _ (List.mem_of_getElem? (i := 73) rfl)) (hw _ (List.mem_of_getElem? (i := 72) rfl)) (by decide) (by decide)) (g := (mkF m 185 #[.val (.int p1), .val (.int p2), .val (.int p3), .val (.int p4), .val (.int p5), .val (.int nc), .val (.ref so), .val (.ref to), .val (.int qq), .val (.int (5 : Int32)), .val (.int (1 : Int32)), .val (.int (1 : Int32)), .val (.int (0 : Int32)), .val (.int (-1 : Int32)), .val (.int (1 : Int32)), .val (.ref ba), .unset] [(.int (3 : Int32)), (.ref ba)])) rfl (by rw [hml]; rfl) (argsL := [(.ref ba), (.int (3 : Int32))]) (rest := []) (lenOf pd_11 rfl) rfl (by show 2 * 0 + _ ≤ _; exact Nat.le_of_eq rfl) (hb hby at_185) (fun _ _ => ⟨rfl, e233h, (by show k233 + 0 ≤ 24; omega), (by show n233 + 0 ≤ 192; omega)⟩)
      dsimp only [Pt.U, Pt.locs, Pt.cells, Pt.slots] at X234 l234 y234 z234 st234 hQ234
      have y234_ : k234 = k233 + 0 := y234
      have z234_ : n234 = n233 + 0 := z234
      obtain ⟨rfl, N234q, e234⟩ := hQ234
      have e234h : T234.heap = T230.heap := e234
      have N234 : Fr n0 L234 := by rw [l234]; exact Fr.app N233 N234q
      refine own_step (fun _ kc_ => st234 _ kc_) ?_
      show own_Ends p e below s _ _ _ (T234.setTop (mkF m 188 #[.val (.int p1), .val (.int p2), .val (.int p3), .val (.int p4), .val (.int p5), .val (.int nc), .val (.ref so), .val (.ref to), .val (.int qq), .val (.int (5 : Int32)), .val (.int (1 : Int32)), .val (.int (1 : Int32)), .val (.int (0 : Int32)), .val (.int (-1 : Int32)), .val (.int (1 : Int32)), .val (.ref ba), .unset] [(.int (1 : Int32))]))
      refine own_step (fun _ kc_ => XS.ifNo X234.here hx rfl (hb hby at_188) rfl (XT.i0_eq_f (by decide : ¬ ((1 : Int32) = 0))) (XS.aload X234.here hx rfl (hb hby at_191) rfl rfl (XS.iconst X234.here hx rfl (hb hby at_193) kc_))) ?_
      show own_Ends p e below s _ _ _ (T234.setTop (mkF m 194 #[.val (.int p1), .val (.int p2), .val (.int p3), .val (.int p4), .val (.int p5), .val (.int nc), .val (.ref so), .val (.ref to), .val (.int qq), .val (.int (5 : Int32)), .val (.int (1 : Int32)), .val (.int (1 : Int32)), .val (.int (0 : Int32)), .val (.int (-1 : Int32)), .val (.int (1 : Int32)), .val (.ref ba), .unset] [(.int (4 : Int32)), (.ref ba)]))
      obtain ⟨_, _, ⟨T235, L235, k235, n235⟩, -, X235, ⟨Lc235, hQ235, l235, y235, z235⟩, st235⟩ := Jvm.LawKit.callS X234 hx (y := (⟨"com/example/kinds_by_value/kindsbyvalue/NameSetAddEveryNamePinLaw", "at", "([II)Z"⟩ : MethodName)) hown (mvT hZ (hw _ (List.mem_of_getElem? (i := 70) rfl))) (mvT hZ (hw _ (List.mem_of_getElem? (i := 71) rfl))) (mvT hZ (hw _ (List.mem_of_getElem? (i := 72) rfl))) (mvT hZ (hw _ (List.mem_of_getElem? (i := 73) rfl))) (by decide) (backOf (W := 0) (rmT1 l Z a0 hw [] ba (4 : Int32) [(.int (0 : Int32)), (.int (1 : Int32)), (.int (2 : Int32)), (.int (3 : Int32)), (.int (4 : Int32))] 5 4 T230.heap n0 Zs230 A230k rfl (by decide) (by decide) rfl rfl) hZ (hw _ (List.mem_of_getElem? (i := 73) rfl)) (hw _ (List.mem_of_getElem? (i := 72) rfl)) (by decide) (by decide)) (g := (mkF m 194 #[.val (.int p1), .val (.int p2), .val (.int p3), .val (.int p4), .val (.int p5), .val (.int nc), .val (.ref so), .val (.ref to), .val (.int qq), .val (.int (5 : Int32)), .val (.int (1 : Int32)), .val (.int (1 : Int32)), .val (.int (0 : Int32)), .val (.int (-1 : Int32)), .val (.int (1 : Int32)), .val (.ref ba), .unset] [(.int (4 : Int32)), (.ref ba)])) rfl (by rw [hml]; rfl) (argsL := [(.ref ba), (.int (4 : Int32))]) (rest := []) (lenOf pd_11 rfl) rfl (by show 2 * 0 + _ ≤ _; exact Nat.le_of_eq rfl) (hb hby at_194) (fun _ _ => ⟨rfl, e234h, (by show k234 + 0 ≤ 24; omega), (by show n234 + 0 ≤ 192; omega)⟩)
      dsimp only [Pt.U, Pt.locs, Pt.cells, Pt.slots] at X235 l235 y235 z235 st235 hQ235
      have y235_ : k235 = k234 + 0 := y235
      have z235_ : n235 = n234 + 0 := z235
      obtain ⟨rfl, N235q, e235⟩ := hQ235
      have e235h : T235.heap = T230.heap := e235
      have N235 : Fr n0 L235 := by rw [l235]; exact Fr.app N234 N235q
      refine own_step (fun _ kc_ => st235 _ kc_) ?_
      show own_Ends p e below s _ _ _ (T235.setTop (mkF m 197 #[.val (.int p1), .val (.int p2), .val (.int p3), .val (.int p4), .val (.int p5), .val (.int nc), .val (.ref so), .val (.ref to), .val (.int qq), .val (.int (5 : Int32)), .val (.int (1 : Int32)), .val (.int (1 : Int32)), .val (.int (0 : Int32)), .val (.int (-1 : Int32)), .val (.int (1 : Int32)), .val (.ref ba), .unset] [(.int (1 : Int32))]))
      refine own_step (fun _ kc_ => XS.ifNo X235.here hx rfl (hb hby at_197) rfl (XT.i0_eq_f (by decide : ¬ ((1 : Int32) = 0))) (XS.aload X235.here hx rfl (hb hby at_200) rfl rfl (XS.iconst X235.here hx rfl (hb hby at_202) kc_))) ?_
      show own_Ends p e below s _ _ _ (T235.setTop (mkF m 203 #[.val (.int p1), .val (.int p2), .val (.int p3), .val (.int p4), .val (.int p5), .val (.int nc), .val (.ref so), .val (.ref to), .val (.int qq), .val (.int (5 : Int32)), .val (.int (1 : Int32)), .val (.int (1 : Int32)), .val (.int (0 : Int32)), .val (.int (-1 : Int32)), .val (.int (1 : Int32)), .val (.ref ba), .unset] [(.int (5 : Int32)), (.ref ba)]))
      obtain ⟨_, _, ⟨T236, L236, k236, n236⟩, -, X236, ⟨Lc236, hQ236, l236, y236, z236⟩, st236⟩ := Jvm.LawKit.callS X235 hx (y := (⟨"com/example/kinds_by_value/kindsbyvalue/NameSetAddEveryNamePinLaw", "at", "([II)Z"⟩ : MethodName)) hown (mvT hZ (hw _ (List.mem_of_getElem? (i := 70) rfl))) (mvT hZ (hw _ (List.mem_of_getElem? (i := 71) rfl))) (mvT hZ (hw _ (List.mem_of_getElem? (i := 72) rfl))) (mvT hZ (hw _ (List.mem_of_getElem? (i := 73) rfl))) (by decide) (backOf (W := 0) (rmT0 l Z a0 hw [] ba (5 : Int32) [(.int (0 : Int32)), (.int (1 : Int32)), (.int (2 : Int32)), (.int (3 : Int32)), (.int (4 : Int32))] 5 T230.heap n0 Zs230 A230k rfl (by decide)) hZ (hw _ (List.mem_of_getElem? (i := 73) rfl)) (hw _ (List.mem_of_getElem? (i := 72) rfl)) (by decide) (by decide)) (g := (mkF m 203 #[.val (.int p1), .val (.int p2), .val (.int p3), .val (.int p4), .val (.int p5), .val (.int nc), .val (.ref so), .val (.ref to), .val (.int qq), .val (.int (5 : Int32)), .val (.int (1 : Int32)), .val (.int (1 : Int32)), .val (.int (0 : Int32)), .val (.int (-1 : Int32)), .val (.int (1 : Int32)), .val (.ref ba), .unset] [(.int (5 : Int32)), (.ref ba)])) rfl (by rw [hml]; rfl) (argsL := [(.ref ba), (.int (5 : Int32))]) (rest := []) (lenOf pd_11 rfl) rfl (by show 2 * 0 + _ ≤ _; exact Nat.le_of_eq rfl) (hb hby at_203) (fun _ _ => ⟨rfl, e235h, (by show k235 + 0 ≤ 24; omega), (by show n235 + 0 ≤ 192; omega)⟩)
      dsimp only [Pt.U, Pt.locs, Pt.cells, Pt.slots] at X236 l236 y236 z236 st236 hQ236
      have y236_ : k236 = k235 + 0 := y236
      have z236_ : n236 = n235 + 0 := z236
      obtain ⟨rfl, N236q, e236⟩ := hQ236
      have e236h : T236.heap = T230.heap := e236
      have N236 : Fr n0 L236 := by rw [l236]; exact Fr.app N235 N236q
      refine own_step (fun _ kc_ => st236 _ kc_) ?_
      show own_Ends p e below s _ _ _ (T236.setTop (mkF m 206 #[.val (.int p1), .val (.int p2), .val (.int p3), .val (.int p4), .val (.int p5), .val (.int nc), .val (.ref so), .val (.ref to), .val (.int qq), .val (.int (5 : Int32)), .val (.int (1 : Int32)), .val (.int (1 : Int32)), .val (.int (0 : Int32)), .val (.int (-1 : Int32)), .val (.int (1 : Int32)), .val (.ref ba), .unset] [(.int (1 : Int32))]))
      refine own_step (fun _ kc_ => XS.ifNo X236.here hx rfl (hb hby at_206) rfl (XT.i0_eq_f (by decide : ¬ ((1 : Int32) = 0))) (XS.aload X236.here hx rfl (hb hby at_209) rfl rfl (XS.bipush X236.here hx rfl (hb hby at_211) kc_))) ?_
      show own_Ends p e below s _ _ _ (T236.setTop (mkF m 213 #[.val (.int p1), .val (.int p2), .val (.int p3), .val (.int p4), .val (.int p5), .val (.int nc), .val (.ref so), .val (.ref to), .val (.int qq), .val (.int (5 : Int32)), .val (.int (1 : Int32)), .val (.int (1 : Int32)), .val (.int (0 : Int32)), .val (.int (-1 : Int32)), .val (.int (1 : Int32)), .val (.ref ba), .unset] [(.int (6 : Int32)), (.ref ba)]))
      obtain ⟨_, _, ⟨T237, L237, k237, n237⟩, -, X237, ⟨Lc237, hQ237, l237, y237, z237⟩, st237⟩ := Jvm.LawKit.callS X236 hx (y := (⟨"com/example/kinds_by_value/kindsbyvalue/NameSetAddEveryNamePinLaw", "at", "([II)Z"⟩ : MethodName)) hown (mvT hZ (hw _ (List.mem_of_getElem? (i := 70) rfl))) (mvT hZ (hw _ (List.mem_of_getElem? (i := 71) rfl))) (mvT hZ (hw _ (List.mem_of_getElem? (i := 72) rfl))) (mvT hZ (hw _ (List.mem_of_getElem? (i := 73) rfl))) (by decide) (backOf (W := 0) (rmT0 l Z a0 hw [] ba (6 : Int32) [(.int (0 : Int32)), (.int (1 : Int32)), (.int (2 : Int32)), (.int (3 : Int32)), (.int (4 : Int32))] 5 T230.heap n0 Zs230 A230k rfl (by decide)) hZ (hw _ (List.mem_of_getElem? (i := 73) rfl)) (hw _ (List.mem_of_getElem? (i := 72) rfl)) (by decide) (by decide)) (g := (mkF m 213 #[.val (.int p1), .val (.int p2), .val (.int p3), .val (.int p4), .val (.int p5), .val (.int nc), .val (.ref so), .val (.ref to), .val (.int qq), .val (.int (5 : Int32)), .val (.int (1 : Int32)), .val (.int (1 : Int32)), .val (.int (0 : Int32)), .val (.int (-1 : Int32)), .val (.int (1 : Int32)), .val (.ref ba), .unset] [(.int (6 : Int32)), (.ref ba)])) rfl (by rw [hml]; rfl) (argsL := [(.ref ba), (.int (6 : Int32))]) (rest := []) (lenOf pd_11 rfl) rfl (by show 2 * 0 + _ ≤ _; exact Nat.le_of_eq rfl) (hb hby at_213) (fun _ _ => ⟨rfl, e236h, (by show k236 + 0 ≤ 24; omega), (by show n236 + 0 ≤ 192; omega)⟩)
      dsimp only [Pt.U, Pt.locs, Pt.cells, Pt.slots] at X237 l237 y237 z237 st237 hQ237
      have y237_ : k237 = k236 + 0 := y237
      have z237_ : n237 = n236 + 0 := z237
      obtain ⟨rfl, N237q, e237⟩ := hQ237
      have e237h : T237.heap = T230.heap := e237
      have N237 : Fr n0 L237 := by rw [l237]; exact Fr.app N236 N237q
      refine own_step (fun _ kc_ => st237 _ kc_) ?_
      show own_Ends p e below s _ _ _ (T237.setTop (mkF m 216 #[.val (.int p1), .val (.int p2), .val (.int p3), .val (.int p4), .val (.int p5), .val (.int nc), .val (.ref so), .val (.ref to), .val (.int qq), .val (.int (5 : Int32)), .val (.int (1 : Int32)), .val (.int (1 : Int32)), .val (.int (0 : Int32)), .val (.int (-1 : Int32)), .val (.int (1 : Int32)), .val (.ref ba), .unset] [(.int (1 : Int32))]))
      refine own_step (fun _ kc_ => XS.ifNo X237.here hx rfl (hb hby at_216) rfl (XT.i0_eq_f (by decide : ¬ ((1 : Int32) = 0))) (XS.iconst X237.here hx rfl (hb hby at_219) (XS.goto X237.here hx rfl (pc0 := 220) (pc' := 224) rfl (hb hby at_220) (by decide) (by decide) (XS.istore X237.here hx rfl (hb hby at_224) rfl (l' := #[.val (.int p1), .val (.int p2), .val (.int p3), .val (.int p4), .val (.int p5), .val (.int nc), .val (.ref so), .val (.ref to), .val (.int qq), .val (.int (5 : Int32)), .val (.int (1 : Int32)), .val (.int (1 : Int32)), .val (.int (0 : Int32)), .val (.int (-1 : Int32)), .val (.int (1 : Int32)), .val (.ref ba), .val (.int (1 : Int32))]) rfl (XS.iload X237.here hx rfl (hb hby at_226) rfl (XS.ifNo X237.here hx rfl (hb hby at_228) rfl (XT.i0_eq_f (by decide : ¬ ((1 : Int32) = 0))) (XS.iload X237.here hx rfl (hb hby at_231) rfl (XS.ifNo X237.here hx rfl (hb hby at_233) rfl (XT.i0_eq_f (by decide : ¬ ((1 : Int32) = 0))) kc_)))))))) ?_
      show own_Ends p e below s _ _ _ (T237.setTop (mkF m 236 #[.val (.int p1), .val (.int p2), .val (.int p3), .val (.int p4), .val (.int p5), .val (.int nc), .val (.ref so), .val (.ref to), .val (.int qq), .val (.int (5 : Int32)), .val (.int (1 : Int32)), .val (.int (1 : Int32)), .val (.int (0 : Int32)), .val (.int (-1 : Int32)), .val (.int (1 : Int32)), .val (.ref ba), .val (.int (1 : Int32))] []))
      refine own_step (fun _ kc_ => XS.iload X237.here hx rfl (hb hby at_236) rfl (XS.ifNo X237.here hx rfl (hb hby at_238) rfl (XT.i0_ne_f (by decide : (0 : Int32) = 0)) (XS.iload X237.here hx rfl (hb hby at_241) rfl (XS.iconst X237.here hx rfl (hb hby at_243) (XS.icmpNo X237.here hx rfl (hb hby at_244) rfl (XT.ii_ne_f (by decide : (-1 : Int32) = (-1 : Int32))) (XS.iload X237.here hx rfl (hb hby at_247) rfl (XS.ifNo X237.here hx rfl (hb hby at_249) rfl (XT.i0_eq_f (by decide : ¬ ((1 : Int32) = 0))) (XS.iload X237.here hx rfl (hb hby at_252) rfl kc_)))))))) ?_
      show own_Ends p e below s _ _ _ (T237.setTop (mkF m 254 #[.val (.int p1), .val (.int p2), .val (.int p3), .val (.int p4), .val (.int p5), .val (.int nc), .val (.ref so), .val (.ref to), .val (.int qq), .val (.int (5 : Int32)), .val (.int (1 : Int32)), .val (.int (1 : Int32)), .val (.int (0 : Int32)), .val (.int (-1 : Int32)), .val (.int (1 : Int32)), .val (.ref ba), .val (.int (1 : Int32))] [(.int (1 : Int32))]))
      refine own_step (fun _ kc_ => XS.ifNo X237.here hx rfl (hb hby at_254) rfl (XT.i0_eq_f (by decide : ¬ ((1 : Int32) = 0))) (XS.iconst X237.here hx rfl (hb hby at_257) (XS.goto X237.here hx rfl (pc0 := 258) (pc' := 262) rfl (hb hby at_258) (by decide) (by decide) kc_))) ?_
      show own_Ends p e below s _ _ _ (T237.setTop (mkF m 262 #[.val (.int p1), .val (.int p2), .val (.int p3), .val (.int p4), .val (.int p5), .val (.int nc), .val (.ref so), .val (.ref to), .val (.int qq), .val (.int (5 : Int32)), .val (.int (1 : Int32)), .val (.int (1 : Int32)), .val (.int (0 : Int32)), .val (.int (-1 : Int32)), .val (.int (1 : Int32)), .val (.ref ba), .val (.int (1 : Int32))] [(.int (1 : Int32))]))
      exact own_retN X237 hx (t := .boolean) hret (by simp) hlk (hb hby at_262) (by omega) (by omega) rfl ⟨rfl, N237⟩
    · show own_Ends p e below s _ _ _ (T189.setTop (mkF m 138 #[.val (.int p1), .val (.int p2), .val (.int p3), .val (.int p4), .val (.int p5), .val (.int nc), .val (.ref so), .val (.ref to), .val (.int qq), .val (.int (6 : Int32)), .val (.int (1 : Int32)), .val (.int (1 : Int32)), .val (.int (0 : Int32)), .val (.int (-1 : Int32)), .val (.int (1 : Int32)), .unset, .unset] []))
      refine own_step (fun _ kc_ => XS.aload X189.here hx rfl (hb hby at_138) rfl rfl (XS.iload X189.here hx rfl (hb hby at_140) rfl kc_)) ?_
      show own_Ends p e below s _ _ _ (T189.setTop (mkF m 142 #[.val (.int p1), .val (.int p2), .val (.int p3), .val (.int p4), .val (.int p5), .val (.int nc), .val (.ref so), .val (.ref to), .val (.int qq), .val (.int (6 : Int32)), .val (.int (1 : Int32)), .val (.int (1 : Int32)), .val (.int (0 : Int32)), .val (.int (-1 : Int32)), .val (.int (1 : Int32)), .unset, .unset] [(.int (6 : Int32)), (.ref so)]))
      obtain ⟨cq238, kq238, q238a, q238b, q238c⟩ := isOf hZ e189h Es
      obtain ⟨_, _, ⟨T238, L238, k238, n238⟩, -, X238, ⟨Lc238, hQ238, l238, y238, z238⟩, st238⟩ := X189.virtualBack hx (y := (⟨"com/example/kinds_by_value/kindsbyvalue/NameSet", "below", "(I)[I"⟩ : MethodName)) (z := (⟨"com/example/kinds_by_value/kindsbyvalue/NameSet", "below", "(I)[I"⟩ : MethodName)) hown (mvT hZ (hw _ (List.mem_of_getElem? (i := 54) rfl))) (mvT hZ (hw _ (List.mem_of_getElem? (i := 55) rfl))) (notFace_of_selects (args := #[]) (mvT hZ (hw _ (List.mem_of_getElem? (i := 57) rfl)))) (mvT hZ (hw _ (List.mem_of_getElem? (i := 57) rfl))) (mvT hZ (hw _ (List.mem_of_getElem? (i := 56) rfl))) (by decide) (own_backX (W := 0) (rmB6 l Z a0 hw [] so  h n0 Z0 so0) hZ (hw _ (List.mem_of_getElem? (i := 58) rfl)) (hw _ (List.mem_of_getElem? (i := 2) rfl)) (by decide) (by decide) (fun _ _ _ _ _ _ _ Y => own_site_at hS Y)) q238a q238c (g := (mkF m 142 #[.val (.int p1), .val (.int p2), .val (.int p3), .val (.int p4), .val (.int p5), .val (.int nc), .val (.ref so), .val (.ref to), .val (.int qq), .val (.int (6 : Int32)), .val (.int (1 : Int32)), .val (.int (1 : Int32)), .val (.int (0 : Int32)), .val (.int (-1 : Int32)), .val (.int (1 : Int32)), .unset, .unset] [(.int (6 : Int32)), (.ref so)])) rfl (by rw [hml]; rfl) (Steps.refl _) (argsL := [(.int (6 : Int32))]) (rest := []) (lenOf pd_2 rfl) rfl (by show 2 * 0 + _ ≤ _; exact Nat.le_of_eq rfl) (hb hby at_142) (fun _ _ => ⟨rfl, e189h, (by show k189 + 1 ≤ 24; omega), (by show n189 + 6 ≤ 192; omega)⟩)
      dsimp only [Pt.U, Pt.locs, Pt.cells, Pt.slots] at X238 l238 y238 z238 st238 hQ238
      have y238_ : k238 = k189 + 1 := y238
      have z238_ : n238 = n189 + 6 := z238
      obtain ⟨N238q, K238k, ba, rfl, A238k⟩ := hQ238
      have Zs238 := Nat.le_trans Z0 K238k.1
      have N238 : Fr n0 L238 := by rw [l238]; exact Fr.app N189 N238q
      refine own_step (fun _ kc_ => st238.trans kc_) ?_
      show own_Ends p e below s _ _ _ (T238.setTop (mkF m 145 #[.val (.int p1), .val (.int p2), .val (.int p3), .val (.int p4), .val (.int p5), .val (.int nc), .val (.ref so), .val (.ref to), .val (.int qq), .val (.int (6 : Int32)), .val (.int (1 : Int32)), .val (.int (1 : Int32)), .val (.int (0 : Int32)), .val (.int (-1 : Int32)), .val (.int (1 : Int32)), .unset, .unset] [(.ref ba)]))
      refine own_step (fun _ kc_ => XS.astore X238.here hx rfl (hb hby at_145) rfl rfl (l' := #[.val (.int p1), .val (.int p2), .val (.int p3), .val (.int p4), .val (.int p5), .val (.int nc), .val (.ref so), .val (.ref to), .val (.int qq), .val (.int (6 : Int32)), .val (.int (1 : Int32)), .val (.int (1 : Int32)), .val (.int (0 : Int32)), .val (.int (-1 : Int32)), .val (.int (1 : Int32)), .val (.ref ba), .unset]) rfl (XS.aload X238.here hx rfl (hb hby at_147) rfl rfl (own_alen X238 hx hZ rfl A238k (n := 6) (z := (6 : Int32)) rfl rfl (hb hby at_149) _ (XS.iload X238.here hx rfl (hb hby at_150) rfl (XS.icmpNo X238.here hx rfl (hb hby at_152) rfl (XT.ii_ne_f (by decide : (6 : Int32) = (6 : Int32))) (XS.aload X238.here hx rfl (hb hby at_155) rfl rfl (XS.iconst X238.here hx rfl (hb hby at_157) kc_))))))) ?_
      show own_Ends p e below s _ _ _ (T238.setTop (mkF m 158 #[.val (.int p1), .val (.int p2), .val (.int p3), .val (.int p4), .val (.int p5), .val (.int nc), .val (.ref so), .val (.ref to), .val (.int qq), .val (.int (6 : Int32)), .val (.int (1 : Int32)), .val (.int (1 : Int32)), .val (.int (0 : Int32)), .val (.int (-1 : Int32)), .val (.int (1 : Int32)), .val (.ref ba), .unset] [(.int (0 : Int32)), (.ref ba)]))
      obtain ⟨_, _, ⟨T239, L239, k239, n239⟩, -, X239, ⟨Lc239, hQ239, l239, y239, z239⟩, st239⟩ := Jvm.LawKit.callS X238 hx (y := (⟨"com/example/kinds_by_value/kindsbyvalue/NameSetAddEveryNamePinLaw", "at", "([II)Z"⟩ : MethodName)) hown (mvT hZ (hw _ (List.mem_of_getElem? (i := 70) rfl))) (mvT hZ (hw _ (List.mem_of_getElem? (i := 71) rfl))) (mvT hZ (hw _ (List.mem_of_getElem? (i := 72) rfl))) (mvT hZ (hw _ (List.mem_of_getElem? (i := 73) rfl))) (by decide) (backOf (W := 0) (rmT1 l Z a0 hw [] ba (0 : Int32) [(.int (0 : Int32)), (.int (1 : Int32)), (.int (2 : Int32)), (.int (3 : Int32)), (.int (4 : Int32)), (.int (5 : Int32))] 6 0 T238.heap n0 Zs238 A238k rfl (by decide) (by decide) rfl rfl) hZ (hw _ (List.mem_of_getElem? (i := 73) rfl)) (hw _ (List.mem_of_getElem? (i := 72) rfl)) (by decide) (by decide)) (g := (mkF m 158 #[.val (.int p1), .val (.int p2), .val (.int p3), .val (.int p4), .val (.int p5), .val (.int nc), .val (.ref so), .val (.ref to), .val (.int qq), .val (.int (6 : Int32)), .val (.int (1 : Int32)), .val (.int (1 : Int32)), .val (.int (0 : Int32)), .val (.int (-1 : Int32)), .val (.int (1 : Int32)), .val (.ref ba), .unset] [(.int (0 : Int32)), (.ref ba)])) rfl (by rw [hml]; rfl) (argsL := [(.ref ba), (.int (0 : Int32))]) (rest := []) (lenOf pd_11 rfl) rfl (by show 2 * 0 + _ ≤ _; exact Nat.le_of_eq rfl) (hb hby at_158) (fun _ _ => ⟨rfl, rfl, (by show k238 + 0 ≤ 24; omega), (by show n238 + 0 ≤ 192; omega)⟩)
      dsimp only [Pt.U, Pt.locs, Pt.cells, Pt.slots] at X239 l239 y239 z239 st239 hQ239
      have y239_ : k239 = k238 + 0 := y239
      have z239_ : n239 = n238 + 0 := z239
      obtain ⟨rfl, N239q, e239⟩ := hQ239
      have e239h : T239.heap = T238.heap := e239
      have N239 : Fr n0 L239 := by rw [l239]; exact Fr.app N238 N239q
      refine own_step (fun _ kc_ => st239 _ kc_) ?_
      show own_Ends p e below s _ _ _ (T239.setTop (mkF m 161 #[.val (.int p1), .val (.int p2), .val (.int p3), .val (.int p4), .val (.int p5), .val (.int nc), .val (.ref so), .val (.ref to), .val (.int qq), .val (.int (6 : Int32)), .val (.int (1 : Int32)), .val (.int (1 : Int32)), .val (.int (0 : Int32)), .val (.int (-1 : Int32)), .val (.int (1 : Int32)), .val (.ref ba), .unset] [(.int (1 : Int32))]))
      refine own_step (fun _ kc_ => XS.ifNo X239.here hx rfl (hb hby at_161) rfl (XT.i0_eq_f (by decide : ¬ ((1 : Int32) = 0))) (XS.aload X239.here hx rfl (hb hby at_164) rfl rfl (XS.iconst X239.here hx rfl (hb hby at_166) kc_))) ?_
      show own_Ends p e below s _ _ _ (T239.setTop (mkF m 167 #[.val (.int p1), .val (.int p2), .val (.int p3), .val (.int p4), .val (.int p5), .val (.int nc), .val (.ref so), .val (.ref to), .val (.int qq), .val (.int (6 : Int32)), .val (.int (1 : Int32)), .val (.int (1 : Int32)), .val (.int (0 : Int32)), .val (.int (-1 : Int32)), .val (.int (1 : Int32)), .val (.ref ba), .unset] [(.int (1 : Int32)), (.ref ba)]))
      obtain ⟨_, _, ⟨T240, L240, k240, n240⟩, -, X240, ⟨Lc240, hQ240, l240, y240, z240⟩, st240⟩ := Jvm.LawKit.callS X239 hx (y := (⟨"com/example/kinds_by_value/kindsbyvalue/NameSetAddEveryNamePinLaw", "at", "([II)Z"⟩ : MethodName)) hown (mvT hZ (hw _ (List.mem_of_getElem? (i := 70) rfl))) (mvT hZ (hw _ (List.mem_of_getElem? (i := 71) rfl))) (mvT hZ (hw _ (List.mem_of_getElem? (i := 72) rfl))) (mvT hZ (hw _ (List.mem_of_getElem? (i := 73) rfl))) (by decide) (backOf (W := 0) (rmT1 l Z a0 hw [] ba (1 : Int32) [(.int (0 : Int32)), (.int (1 : Int32)), (.int (2 : Int32)), (.int (3 : Int32)), (.int (4 : Int32)), (.int (5 : Int32))] 6 1 T238.heap n0 Zs238 A238k rfl (by decide) (by decide) rfl rfl) hZ (hw _ (List.mem_of_getElem? (i := 73) rfl)) (hw _ (List.mem_of_getElem? (i := 72) rfl)) (by decide) (by decide)) (g := (mkF m 167 #[.val (.int p1), .val (.int p2), .val (.int p3), .val (.int p4), .val (.int p5), .val (.int nc), .val (.ref so), .val (.ref to), .val (.int qq), .val (.int (6 : Int32)), .val (.int (1 : Int32)), .val (.int (1 : Int32)), .val (.int (0 : Int32)), .val (.int (-1 : Int32)), .val (.int (1 : Int32)), .val (.ref ba), .unset] [(.int (1 : Int32)), (.ref ba)])) rfl (by rw [hml]; rfl) (argsL := [(.ref ba), (.int (1 : Int32))]) (rest := []) (lenOf pd_11 rfl) rfl (by show 2 * 0 + _ ≤ _; exact Nat.le_of_eq rfl) (hb hby at_167) (fun _ _ => ⟨rfl, e239h, (by show k239 + 0 ≤ 24; omega), (by show n239 + 0 ≤ 192; omega)⟩)
      dsimp only [Pt.U, Pt.locs, Pt.cells, Pt.slots] at X240 l240 y240 z240 st240 hQ240
      have y240_ : k240 = k239 + 0 := y240
      have z240_ : n240 = n239 + 0 := z240
      obtain ⟨rfl, N240q, e240⟩ := hQ240
      have e240h : T240.heap = T238.heap := e240
      have N240 : Fr n0 L240 := by rw [l240]; exact Fr.app N239 N240q
      refine own_step (fun _ kc_ => st240 _ kc_) ?_
      show own_Ends p e below s _ _ _ (T240.setTop (mkF m 170 #[.val (.int p1), .val (.int p2), .val (.int p3), .val (.int p4), .val (.int p5), .val (.int nc), .val (.ref so), .val (.ref to), .val (.int qq), .val (.int (6 : Int32)), .val (.int (1 : Int32)), .val (.int (1 : Int32)), .val (.int (0 : Int32)), .val (.int (-1 : Int32)), .val (.int (1 : Int32)), .val (.ref ba), .unset] [(.int (1 : Int32))]))
      refine own_step (fun _ kc_ => XS.ifNo X240.here hx rfl (hb hby at_170) rfl (XT.i0_eq_f (by decide : ¬ ((1 : Int32) = 0))) (XS.aload X240.here hx rfl (hb hby at_173) rfl rfl (XS.iconst X240.here hx rfl (hb hby at_175) kc_))) ?_
      show own_Ends p e below s _ _ _ (T240.setTop (mkF m 176 #[.val (.int p1), .val (.int p2), .val (.int p3), .val (.int p4), .val (.int p5), .val (.int nc), .val (.ref so), .val (.ref to), .val (.int qq), .val (.int (6 : Int32)), .val (.int (1 : Int32)), .val (.int (1 : Int32)), .val (.int (0 : Int32)), .val (.int (-1 : Int32)), .val (.int (1 : Int32)), .val (.ref ba), .unset] [(.int (2 : Int32)), (.ref ba)]))
      obtain ⟨_, _, ⟨T241, L241, k241, n241⟩, -, X241, ⟨Lc241, hQ241, l241, y241, z241⟩, st241⟩ := Jvm.LawKit.callS X240 hx (y := (⟨"com/example/kinds_by_value/kindsbyvalue/NameSetAddEveryNamePinLaw", "at", "([II)Z"⟩ : MethodName)) hown (mvT hZ (hw _ (List.mem_of_getElem? (i := 70) rfl))) (mvT hZ (hw _ (List.mem_of_getElem? (i := 71) rfl))) (mvT hZ (hw _ (List.mem_of_getElem? (i := 72) rfl))) (mvT hZ (hw _ (List.mem_of_getElem? (i := 73) rfl))) (by decide) (backOf (W := 0) (rmT1 l Z a0 hw [] ba (2 : Int32) [(.int (0 : Int32)), (.int (1 : Int32)), (.int (2 : Int32)), (.int (3 : Int32)), (.int (4 : Int32)), (.int (5 : Int32))] 6 2 T238.heap n0 Zs238 A238k rfl (by decide) (by decide) rfl rfl) hZ (hw _ (List.mem_of_getElem? (i := 73) rfl)) (hw _ (List.mem_of_getElem? (i := 72) rfl)) (by decide) (by decide)) (g := (mkF m 176 #[.val (.int p1), .val (.int p2), .val (.int p3), .val (.int p4), .val (.int p5), .val (.int nc), .val (.ref so), .val (.ref to), .val (.int qq), .val (.int (6 : Int32)), .val (.int (1 : Int32)), .val (.int (1 : Int32)), .val (.int (0 : Int32)), .val (.int (-1 : Int32)), .val (.int (1 : Int32)), .val (.ref ba), .unset] [(.int (2 : Int32)), (.ref ba)])) rfl (by rw [hml]; rfl) (argsL := [(.ref ba), (.int (2 : Int32))]) (rest := []) (lenOf pd_11 rfl) rfl (by show 2 * 0 + _ ≤ _; exact Nat.le_of_eq rfl) (hb hby at_176) (fun _ _ => ⟨rfl, e240h, (by show k240 + 0 ≤ 24; omega), (by show n240 + 0 ≤ 192; omega)⟩)
      dsimp only [Pt.U, Pt.locs, Pt.cells, Pt.slots] at X241 l241 y241 z241 st241 hQ241
      have y241_ : k241 = k240 + 0 := y241
      have z241_ : n241 = n240 + 0 := z241
      obtain ⟨rfl, N241q, e241⟩ := hQ241
      have e241h : T241.heap = T238.heap := e241
      have N241 : Fr n0 L241 := by rw [l241]; exact Fr.app N240 N241q
      refine own_step (fun _ kc_ => st241 _ kc_) ?_
      show own_Ends p e below s _ _ _ (T241.setTop (mkF m 179 #[.val (.int p1), .val (.int p2), .val (.int p3), .val (.int p4), .val (.int p5), .val (.int nc), .val (.ref so), .val (.ref to), .val (.int qq), .val (.int (6 : Int32)), .val (.int (1 : Int32)), .val (.int (1 : Int32)), .val (.int (0 : Int32)), .val (.int (-1 : Int32)), .val (.int (1 : Int32)), .val (.ref ba), .unset] [(.int (1 : Int32))]))
      refine own_step (fun _ kc_ => XS.ifNo X241.here hx rfl (hb hby at_179) rfl (XT.i0_eq_f (by decide : ¬ ((1 : Int32) = 0))) (XS.aload X241.here hx rfl (hb hby at_182) rfl rfl (XS.iconst X241.here hx rfl (hb hby at_184) kc_))) ?_
      show own_Ends p e below s _ _ _ (T241.setTop (mkF m 185 #[.val (.int p1), .val (.int p2), .val (.int p3), .val (.int p4), .val (.int p5), .val (.int nc), .val (.ref so), .val (.ref to), .val (.int qq), .val (.int (6 : Int32)), .val (.int (1 : Int32)), .val (.int (1 : Int32)), .val (.int (0 : Int32)), .val (.int (-1 : Int32)), .val (.int (1 : Int32)), .val (.ref ba), .unset] [(.int (3 : Int32)), (.ref ba)]))
      obtain ⟨_, _, ⟨T242, L242, k242, n242⟩, -, X242, ⟨Lc242, hQ242, l242, y242, z242⟩, st242⟩ := Jvm.LawKit.callS X241 hx (y := (⟨"com/example/kinds_by_value/kindsbyvalue/NameSetAddEveryNamePinLaw", "at", "([II)Z"⟩ : MethodName)) hown (mvT hZ (hw _ (List.mem_of_getElem? (i := 70) rfl))) (mvT hZ (hw _ (List.mem_of_getElem? (i := 71) rfl))) (mvT hZ (hw _ (List.mem_of_getElem? (i := 72) rfl))) (mvT hZ (hw _ (List.mem_of_getElem? (i := 73) rfl))) (by decide) (backOf (W := 0) (rmT1 l Z a0 hw [] ba (3 : Int32) [(.int (0 : Int32)), (.int (1 : Int32)), (.int (2 : Int32)), (.int (3 : Int32)), (.int (4 : Int32)), (.int (5 : Int32))] 6 3 T238.heap n0 Zs238 A238k rfl (by decide) (by decide) rfl rfl) hZ (hw _ (List.mem_of_getElem? (i := 73) rfl)) (hw _ (List.mem_of_getElem? (i := 72) rfl)) (by decide) (by decide)) (g := (mkF m 185 #[.val (.int p1), .val (.int p2), .val (.int p3), .val (.int p4), .val (.int p5), .val (.int nc), .val (.ref so), .val (.ref to), .val (.int qq), .val (.int (6 : Int32)), .val (.int (1 : Int32)), .val (.int (1 : Int32)), .val (.int (0 : Int32)), .val (.int (-1 : Int32)), .val (.int (1 : Int32)), .val (.ref ba), .unset] [(.int (3 : Int32)), (.ref ba)])) rfl (by rw [hml]; rfl) (argsL := [(.ref ba), (.int (3 : Int32))]) (rest := []) (lenOf pd_11 rfl) rfl (by show 2 * 0 + _ ≤ _; exact Nat.le_of_eq rfl) (hb hby at_185) (fun _ _ => ⟨rfl, e241h, (by show k241 + 0 ≤ 24; omega), (by show n241 + 0 ≤ 192; omega)⟩)
      dsimp only [Pt.U, Pt.locs, Pt.cells, Pt.slots] at X242 l242 y242 z242 st242 hQ242
      have y242_ : k242 = k241 + 0 := y242
      have z242_ : n242 = n241 + 0 := z242
      obtain ⟨rfl, N242q, e242⟩ := hQ242
      have e242h : T242.heap = T238.heap := e242
      have N242 : Fr n0 L242 := by rw [l242]; exact Fr.app N241 N242q
      refine own_step (fun _ kc_ => st242 _ kc_) ?_
      show own_Ends p e below s _ _ _ (T242.setTop (mkF m 188 #[.val (.int p1), .val (.int p2), .val (.int p3), .val (.int p4), .val (.int p5), .val (.int nc), .val (.ref so), .val (.ref to), .val (.int qq), .val (.int (6 : Int32)), .val (.int (1 : Int32)), .val (.int (1 : Int32)), .val (.int (0 : Int32)), .val (.int (-1 : Int32)), .val (.int (1 : Int32)), .val (.ref ba), .unset] [(.int (1 : Int32))]))
      refine own_step (fun _ kc_ => XS.ifNo X242.here hx rfl (hb hby at_188) rfl (XT.i0_eq_f (by decide : ¬ ((1 : Int32) = 0))) (XS.aload X242.here hx rfl (hb hby at_191) rfl rfl (XS.iconst X242.here hx rfl (hb hby at_193) kc_))) ?_
      show own_Ends p e below s _ _ _ (T242.setTop (mkF m 194 #[.val (.int p1), .val (.int p2), .val (.int p3), .val (.int p4), .val (.int p5), .val (.int nc), .val (.ref so), .val (.ref to), .val (.int qq), .val (.int (6 : Int32)), .val (.int (1 : Int32)), .val (.int (1 : Int32)), .val (.int (0 : Int32)), .val (.int (-1 : Int32)), .val (.int (1 : Int32)), .val (.ref ba), .unset] [(.int (4 : Int32)), (.ref ba)]))
      obtain ⟨_, _, ⟨T243, L243, k243, n243⟩, -, X243, ⟨Lc243, hQ243, l243, y243, z243⟩, st243⟩ := Jvm.LawKit.callS X242 hx (y := (⟨"com/example/kinds_by_value/kindsbyvalue/NameSetAddEveryNamePinLaw", "at", "([II)Z"⟩ : MethodName)) hown (mvT hZ (hw _ (List.mem_of_getElem? (i := 70) rfl))) (mvT hZ (hw _ (List.mem_of_getElem? (i := 71) rfl))) (mvT hZ (hw _ (List.mem_of_getElem? (i := 72) rfl))) (mvT hZ (hw _ (List.mem_of_getElem? (i := 73) rfl))) (by decide) (backOf (W := 0) (rmT1 l Z a0 hw [] ba (4 : Int32) [(.int (0 : Int32)), (.int (1 : Int32)), (.int (2 : Int32)), (.int (3 : Int32)), (.int (4 : Int32)), (.int (5 : Int32))] 6 4 T238.heap n0 Zs238 A238k rfl (by decide) (by decide) rfl rfl) hZ (hw _ (List.mem_of_getElem? (i := 73) rfl)) (hw _ (List.mem_of_getElem? (i := 72) rfl)) (by decide) (by decide)) (g := (mkF m 194 #[.val (.int p1), .val (.int p2), .val (.int p3), .val (.int p4), .val (.int p5), .val (.int nc), .val (.ref so), .val (.ref to), .val (.int qq), .val (.int (6 : Int32)), .val (.int (1 : Int32)), .val (.int (1 : Int32)), .val (.int (0 : Int32)), .val (.int (-1 : Int32)), .val (.int (1 : Int32)), .val (.ref ba), .unset] [(.int (4 : Int32)), (.ref ba)])) rfl (by rw [hml]; rfl) (argsL := [(.ref ba), (.int (4 : Int32))]) (rest := []) (lenOf pd_11 rfl) rfl (by show 2 * 0 + _ ≤ _; exact Nat.le_of_eq rfl) (hb hby at_194) (fun _ _ => ⟨rfl, e242h, (by show k242 + 0 ≤ 24; omega), (by show n242 + 0 ≤ 192; omega)⟩)
      dsimp only [Pt.U, Pt.locs, Pt.cells, Pt.slots] at X243 l243 y243 z243 st243 hQ243
      have y243_ : k243 = k242 + 0 := y243
      have z243_ : n243 = n242 + 0 := z243
      obtain ⟨rfl, N243q, e243⟩ := hQ243
      have e243h : T243.heap = T238.heap := e243
      have N243 : Fr n0 L243 := by rw [l243]; exact Fr.app N242 N243q
      refine own_step (fun _ kc_ => st243 _ kc_) ?_
      show own_Ends p e below s _ _ _ (T243.setTop (mkF m 197 #[.val (.int p1), .val (.int p2), .val (.int p3), .val (.int p4), .val (.int p5), .val (.int nc), .val (.ref so), .val (.ref to), .val (.int qq), .val (.int (6 : Int32)), .val (.int (1 : Int32)), .val (.int (1 : Int32)), .val (.int (0 : Int32)), .val (.int (-1 : Int32)), .val (.int (1 : Int32)), .val (.ref ba), .unset] [(.int (1 : Int32))]))
      refine own_step (fun _ kc_ => XS.ifNo X243.here hx rfl (hb hby at_197) rfl (XT.i0_eq_f (by decide : ¬ ((1 : Int32) = 0))) (XS.aload X243.here hx rfl (hb hby at_200) rfl rfl (XS.iconst X243.here hx rfl (hb hby at_202) kc_))) ?_
      show own_Ends p e below s _ _ _ (T243.setTop (mkF m 203 #[.val (.int p1), .val (.int p2), .val (.int p3), .val (.int p4), .val (.int p5), .val (.int nc), .val (.ref so), .val (.ref to), .val (.int qq), .val (.int (6 : Int32)), .val (.int (1 : Int32)), .val (.int (1 : Int32)), .val (.int (0 : Int32)), .val (.int (-1 : Int32)), .val (.int (1 : Int32)), .val (.ref ba), .unset] [(.int (5 : Int32)), (.ref ba)]))
      obtain ⟨_, _, ⟨T244, L244, k244, n244⟩, -, X244, ⟨Lc244, hQ244, l244, y244, z244⟩, st244⟩ := Jvm.LawKit.callS X243 hx (y := (⟨"com/example/kinds_by_value/kindsbyvalue/NameSetAddEveryNamePinLaw", "at", "([II)Z"⟩ : MethodName)) hown (mvT hZ (hw _ (List.mem_of_getElem? (i := 70) rfl))) (mvT hZ (hw _ (List.mem_of_getElem? (i := 71) rfl))) (mvT hZ (hw _ (List.mem_of_getElem? (i := 72) rfl))) (mvT hZ (hw _ (List.mem_of_getElem? (i := 73) rfl))) (by decide) (backOf (W := 0) (rmT1 l Z a0 hw [] ba (5 : Int32) [(.int (0 : Int32)), (.int (1 : Int32)), (.int (2 : Int32)), (.int (3 : Int32)), (.int (4 : Int32)), (.int (5 : Int32))] 6 5 T238.heap n0 Zs238 A238k rfl (by decide) (by decide) rfl rfl) hZ (hw _ (List.mem_of_getElem? (i := 73) rfl)) (hw _ (List.mem_of_getElem? (i := 72) rfl)) (by decide) (by decide)) (g := (mkF m 203 #[.val (.int p1), .val (.int p2), .val (.int p3), .val (.int p4), .val (.int p5), .val (.int nc), .val (.ref so), .val (.ref to), .val (.int qq), .val (.int (6 : Int32)), .val (.int (1 : Int32)), .val (.int (1 : Int32)), .val (.int (0 : Int32)), .val (.int (-1 : Int32)), .val (.int (1 : Int32)), .val (.ref ba), .unset] [(.int (5 : Int32)), (.ref ba)])) rfl (by rw [hml]; rfl) (argsL := [(.ref ba), (.int (5 : Int32))]) (rest := []) (lenOf pd_11 rfl) rfl (by show 2 * 0 + _ ≤ _; exact Nat.le_of_eq rfl) (hb hby at_203) (fun _ _ => ⟨rfl, e243h, (by show k243 + 0 ≤ 24; omega), (by show n243 + 0 ≤ 192; omega)⟩)
      dsimp only [Pt.U, Pt.locs, Pt.cells, Pt.slots] at X244 l244 y244 z244 st244 hQ244
      have y244_ : k244 = k243 + 0 := y244
      have z244_ : n244 = n243 + 0 := z244
      obtain ⟨rfl, N244q, e244⟩ := hQ244
      have e244h : T244.heap = T238.heap := e244
      have N244 : Fr n0 L244 := by rw [l244]; exact Fr.app N243 N244q
      refine own_step (fun _ kc_ => st244 _ kc_) ?_
      show own_Ends p e below s _ _ _ (T244.setTop (mkF m 206 #[.val (.int p1), .val (.int p2), .val (.int p3), .val (.int p4), .val (.int p5), .val (.int nc), .val (.ref so), .val (.ref to), .val (.int qq), .val (.int (6 : Int32)), .val (.int (1 : Int32)), .val (.int (1 : Int32)), .val (.int (0 : Int32)), .val (.int (-1 : Int32)), .val (.int (1 : Int32)), .val (.ref ba), .unset] [(.int (1 : Int32))]))
      refine own_step (fun _ kc_ => XS.ifNo X244.here hx rfl (hb hby at_206) rfl (XT.i0_eq_f (by decide : ¬ ((1 : Int32) = 0))) (XS.aload X244.here hx rfl (hb hby at_209) rfl rfl (XS.bipush X244.here hx rfl (hb hby at_211) kc_))) ?_
      show own_Ends p e below s _ _ _ (T244.setTop (mkF m 213 #[.val (.int p1), .val (.int p2), .val (.int p3), .val (.int p4), .val (.int p5), .val (.int nc), .val (.ref so), .val (.ref to), .val (.int qq), .val (.int (6 : Int32)), .val (.int (1 : Int32)), .val (.int (1 : Int32)), .val (.int (0 : Int32)), .val (.int (-1 : Int32)), .val (.int (1 : Int32)), .val (.ref ba), .unset] [(.int (6 : Int32)), (.ref ba)]))
      obtain ⟨_, _, ⟨T245, L245, k245, n245⟩, -, X245, ⟨Lc245, hQ245, l245, y245, z245⟩, st245⟩ := Jvm.LawKit.callS X244 hx (y := (⟨"com/example/kinds_by_value/kindsbyvalue/NameSetAddEveryNamePinLaw", "at", "([II)Z"⟩ : MethodName)) hown (mvT hZ (hw _ (List.mem_of_getElem? (i := 70) rfl))) (mvT hZ (hw _ (List.mem_of_getElem? (i := 71) rfl))) (mvT hZ (hw _ (List.mem_of_getElem? (i := 72) rfl))) (mvT hZ (hw _ (List.mem_of_getElem? (i := 73) rfl))) (by decide) (backOf (W := 0) (rmT0 l Z a0 hw [] ba (6 : Int32) [(.int (0 : Int32)), (.int (1 : Int32)), (.int (2 : Int32)), (.int (3 : Int32)), (.int (4 : Int32)), (.int (5 : Int32))] 6 T238.heap n0 Zs238 A238k rfl (by decide)) hZ (hw _ (List.mem_of_getElem? (i := 73) rfl)) (hw _ (List.mem_of_getElem? (i := 72) rfl)) (by decide) (by decide)) (g := (mkF m 213 #[.val (.int p1), .val (.int p2), .val (.int p3), .val (.int p4), .val (.int p5), .val (.int nc), .val (.ref so), .val (.ref to), .val (.int qq), .val (.int (6 : Int32)), .val (.int (1 : Int32)), .val (.int (1 : Int32)), .val (.int (0 : Int32)), .val (.int (-1 : Int32)), .val (.int (1 : Int32)), .val (.ref ba), .unset] [(.int (6 : Int32)), (.ref ba)])) rfl (by rw [hml]; rfl) (argsL := [(.ref ba), (.int (6 : Int32))]) (rest := []) (lenOf pd_11 rfl) rfl (by show 2 * 0 + _ ≤ _; exact Nat.le_of_eq rfl) (hb hby at_213) (fun _ _ => ⟨rfl, e244h, (by show k244 + 0 ≤ 24; omega), (by show n244 + 0 ≤ 192; omega)⟩)
      dsimp only [Pt.U, Pt.locs, Pt.cells, Pt.slots] at X245 l245 y245 z245 st245 hQ245
      have y245_ : k245 = k244 + 0 := y245
      have z245_ : n245 = n244 + 0 := z245
      obtain ⟨rfl, N245q, e245⟩ := hQ245
      have e245h : T245.heap = T238.heap := e245
      have N245 : Fr n0 L245 := by rw [l245]; exact Fr.app N244 N245q
      refine own_step (fun _ kc_ => st245 _ kc_) ?_
      show own_Ends p e below s _ _ _ (T245.setTop (mkF m 216 #[.val (.int p1), .val (.int p2), .val (.int p3), .val (.int p4), .val (.int p5), .val (.int nc), .val (.ref so), .val (.ref to), .val (.int qq), .val (.int (6 : Int32)), .val (.int (1 : Int32)), .val (.int (1 : Int32)), .val (.int (0 : Int32)), .val (.int (-1 : Int32)), .val (.int (1 : Int32)), .val (.ref ba), .unset] [(.int (1 : Int32))]))
      refine own_step (fun _ kc_ => XS.ifNo X245.here hx rfl (hb hby at_216) rfl (XT.i0_eq_f (by decide : ¬ ((1 : Int32) = 0))) (XS.iconst X245.here hx rfl (hb hby at_219) (XS.goto X245.here hx rfl (pc0 := 220) (pc' := 224) rfl (hb hby at_220) (by decide) (by decide) (XS.istore X245.here hx rfl (hb hby at_224) rfl (l' := #[.val (.int p1), .val (.int p2), .val (.int p3), .val (.int p4), .val (.int p5), .val (.int nc), .val (.ref so), .val (.ref to), .val (.int qq), .val (.int (6 : Int32)), .val (.int (1 : Int32)), .val (.int (1 : Int32)), .val (.int (0 : Int32)), .val (.int (-1 : Int32)), .val (.int (1 : Int32)), .val (.ref ba), .val (.int (1 : Int32))]) rfl (XS.iload X245.here hx rfl (hb hby at_226) rfl (XS.ifNo X245.here hx rfl (hb hby at_228) rfl (XT.i0_eq_f (by decide : ¬ ((1 : Int32) = 0))) (XS.iload X245.here hx rfl (hb hby at_231) rfl (XS.ifNo X245.here hx rfl (hb hby at_233) rfl (XT.i0_eq_f (by decide : ¬ ((1 : Int32) = 0))) kc_)))))))) ?_
      show own_Ends p e below s _ _ _ (T245.setTop (mkF m 236 #[.val (.int p1), .val (.int p2), .val (.int p3), .val (.int p4), .val (.int p5), .val (.int nc), .val (.ref so), .val (.ref to), .val (.int qq), .val (.int (6 : Int32)), .val (.int (1 : Int32)), .val (.int (1 : Int32)), .val (.int (0 : Int32)), .val (.int (-1 : Int32)), .val (.int (1 : Int32)), .val (.ref ba), .val (.int (1 : Int32))] []))
      refine own_step (fun _ kc_ => XS.iload X245.here hx rfl (hb hby at_236) rfl (XS.ifNo X245.here hx rfl (hb hby at_238) rfl (XT.i0_ne_f (by decide : (0 : Int32) = 0)) (XS.iload X245.here hx rfl (hb hby at_241) rfl (XS.iconst X245.here hx rfl (hb hby at_243) (XS.icmpNo X245.here hx rfl (hb hby at_244) rfl (XT.ii_ne_f (by decide : (-1 : Int32) = (-1 : Int32))) (XS.iload X245.here hx rfl (hb hby at_247) rfl (XS.ifNo X245.here hx rfl (hb hby at_249) rfl (XT.i0_eq_f (by decide : ¬ ((1 : Int32) = 0))) (XS.iload X245.here hx rfl (hb hby at_252) rfl kc_)))))))) ?_
      show own_Ends p e below s _ _ _ (T245.setTop (mkF m 254 #[.val (.int p1), .val (.int p2), .val (.int p3), .val (.int p4), .val (.int p5), .val (.int nc), .val (.ref so), .val (.ref to), .val (.int qq), .val (.int (6 : Int32)), .val (.int (1 : Int32)), .val (.int (1 : Int32)), .val (.int (0 : Int32)), .val (.int (-1 : Int32)), .val (.int (1 : Int32)), .val (.ref ba), .val (.int (1 : Int32))] [(.int (1 : Int32))]))
      refine own_step (fun _ kc_ => XS.ifNo X245.here hx rfl (hb hby at_254) rfl (XT.i0_eq_f (by decide : ¬ ((1 : Int32) = 0))) (XS.iconst X245.here hx rfl (hb hby at_257) (XS.goto X245.here hx rfl (pc0 := 258) (pc' := 262) rfl (hb hby at_258) (by decide) (by decide) kc_))) ?_
      show own_Ends p e below s _ _ _ (T245.setTop (mkF m 262 #[.val (.int p1), .val (.int p2), .val (.int p3), .val (.int p4), .val (.int p5), .val (.int nc), .val (.ref so), .val (.ref to), .val (.int qq), .val (.int (6 : Int32)), .val (.int (1 : Int32)), .val (.int (1 : Int32)), .val (.int (0 : Int32)), .val (.int (-1 : Int32)), .val (.int (1 : Int32)), .val (.ref ba), .val (.int (1 : Int32))] [(.int (1 : Int32))]))
      exact own_retN X245 hx (t := .boolean) hret (by simp) hlk (hb hby at_262) (by omega) (by omega) rfl ⟨rfl, N245⟩
    · show own_Ends p e below s _ _ _ (T189.setTop (mkF m 138 #[.val (.int p1), .val (.int p2), .val (.int p3), .val (.int p4), .val (.int p5), .val (.int nc), .val (.ref so), .val (.ref to), .val (.int qq), .val (.int (7 : Int32)), .val (.int (1 : Int32)), .val (.int (1 : Int32)), .val (.int (0 : Int32)), .val (.int (-1 : Int32)), .val (.int (1 : Int32)), .unset, .unset] []))
      refine own_step (fun _ kc_ => XS.aload X189.here hx rfl (hb hby at_138) rfl rfl (XS.iload X189.here hx rfl (hb hby at_140) rfl kc_)) ?_
      show own_Ends p e below s _ _ _ (T189.setTop (mkF m 142 #[.val (.int p1), .val (.int p2), .val (.int p3), .val (.int p4), .val (.int p5), .val (.int nc), .val (.ref so), .val (.ref to), .val (.int qq), .val (.int (7 : Int32)), .val (.int (1 : Int32)), .val (.int (1 : Int32)), .val (.int (0 : Int32)), .val (.int (-1 : Int32)), .val (.int (1 : Int32)), .unset, .unset] [(.int (7 : Int32)), (.ref so)]))
      obtain ⟨cq246, kq246, q246a, q246b, q246c⟩ := isOf hZ e189h Es
      obtain ⟨_, _, ⟨T246, L246, k246, n246⟩, -, X246, ⟨Lc246, hQ246, l246, y246, z246⟩, st246⟩ := X189.virtualBack hx (y := (⟨"com/example/kinds_by_value/kindsbyvalue/NameSet", "below", "(I)[I"⟩ : MethodName)) (z := (⟨"com/example/kinds_by_value/kindsbyvalue/NameSet", "below", "(I)[I"⟩ : MethodName)) hown (mvT hZ (hw _ (List.mem_of_getElem? (i := 54) rfl))) (mvT hZ (hw _ (List.mem_of_getElem? (i := 55) rfl))) (notFace_of_selects (args := #[]) (mvT hZ (hw _ (List.mem_of_getElem? (i := 57) rfl)))) (mvT hZ (hw _ (List.mem_of_getElem? (i := 57) rfl))) (mvT hZ (hw _ (List.mem_of_getElem? (i := 56) rfl))) (by decide) (own_backX (W := 0) (rmB7 l Z a0 hw [] so  h n0 Z0 so0) hZ (hw _ (List.mem_of_getElem? (i := 58) rfl)) (hw _ (List.mem_of_getElem? (i := 2) rfl)) (by decide) (by decide) (fun _ _ _ _ _ _ _ Y => own_site_at hS Y)) q246a q246c (g := (mkF m 142 #[.val (.int p1), .val (.int p2), .val (.int p3), .val (.int p4), .val (.int p5), .val (.int nc), .val (.ref so), .val (.ref to), .val (.int qq), .val (.int (7 : Int32)), .val (.int (1 : Int32)), .val (.int (1 : Int32)), .val (.int (0 : Int32)), .val (.int (-1 : Int32)), .val (.int (1 : Int32)), .unset, .unset] [(.int (7 : Int32)), (.ref so)])) rfl (by rw [hml]; rfl) (Steps.refl _) (argsL := [(.int (7 : Int32))]) (rest := []) (lenOf pd_2 rfl) rfl (by show 2 * 0 + _ ≤ _; exact Nat.le_of_eq rfl) (hb hby at_142) (fun _ _ => ⟨rfl, e189h, (by show k189 + 1 ≤ 24; omega), (by show n189 + 7 ≤ 192; omega)⟩)
      dsimp only [Pt.U, Pt.locs, Pt.cells, Pt.slots] at X246 l246 y246 z246 st246 hQ246
      have y246_ : k246 = k189 + 1 := y246
      have z246_ : n246 = n189 + 7 := z246
      obtain ⟨N246q, K246k, ba, rfl, A246k⟩ := hQ246
      have Zs246 := Nat.le_trans Z0 K246k.1
      have N246 : Fr n0 L246 := by rw [l246]; exact Fr.app N189 N246q
      refine own_step (fun _ kc_ => st246.trans kc_) ?_
      show own_Ends p e below s _ _ _ (T246.setTop (mkF m 145 #[.val (.int p1), .val (.int p2), .val (.int p3), .val (.int p4), .val (.int p5), .val (.int nc), .val (.ref so), .val (.ref to), .val (.int qq), .val (.int (7 : Int32)), .val (.int (1 : Int32)), .val (.int (1 : Int32)), .val (.int (0 : Int32)), .val (.int (-1 : Int32)), .val (.int (1 : Int32)), .unset, .unset] [(.ref ba)]))
      refine own_step (fun _ kc_ => XS.astore X246.here hx rfl (hb hby at_145) rfl rfl (l' := #[.val (.int p1), .val (.int p2), .val (.int p3), .val (.int p4), .val (.int p5), .val (.int nc), .val (.ref so), .val (.ref to), .val (.int qq), .val (.int (7 : Int32)), .val (.int (1 : Int32)), .val (.int (1 : Int32)), .val (.int (0 : Int32)), .val (.int (-1 : Int32)), .val (.int (1 : Int32)), .val (.ref ba), .unset]) rfl (XS.aload X246.here hx rfl (hb hby at_147) rfl rfl (own_alen X246 hx hZ rfl A246k (n := 7) (z := (7 : Int32)) rfl rfl (hb hby at_149) _ (XS.iload X246.here hx rfl (hb hby at_150) rfl (XS.icmpNo X246.here hx rfl (hb hby at_152) rfl (XT.ii_ne_f (by decide : (7 : Int32) = (7 : Int32))) (XS.aload X246.here hx rfl (hb hby at_155) rfl rfl (XS.iconst X246.here hx rfl (hb hby at_157) kc_))))))) ?_
      show own_Ends p e below s _ _ _ (T246.setTop (mkF m 158 #[.val (.int p1), .val (.int p2), .val (.int p3), .val (.int p4), .val (.int p5), .val (.int nc), .val (.ref so), .val (.ref to), .val (.int qq), .val (.int (7 : Int32)), .val (.int (1 : Int32)), .val (.int (1 : Int32)), .val (.int (0 : Int32)), .val (.int (-1 : Int32)), .val (.int (1 : Int32)), .val (.ref ba), .unset] [(.int (0 : Int32)), (.ref ba)]))
      obtain ⟨_, _, ⟨T247, L247, k247, n247⟩, -, X247, ⟨Lc247, hQ247, l247, y247, z247⟩, st247⟩ := Jvm.LawKit.callS X246 hx (y := (⟨"com/example/kinds_by_value/kindsbyvalue/NameSetAddEveryNamePinLaw", "at", "([II)Z"⟩ : MethodName)) hown (mvT hZ (hw _ (List.mem_of_getElem? (i := 70) rfl))) (mvT hZ (hw _ (List.mem_of_getElem? (i := 71) rfl))) (mvT hZ (hw _ (List.mem_of_getElem? (i := 72) rfl))) (mvT hZ (hw _ (List.mem_of_getElem? (i := 73) rfl))) (by decide) (backOf (W := 0) (rmT1 l Z a0 hw [] ba (0 : Int32) [(.int (0 : Int32)), (.int (1 : Int32)), (.int (2 : Int32)), (.int (3 : Int32)), (.int (4 : Int32)), (.int (5 : Int32)), (.int (6 : Int32))] 7 0 T246.heap n0 Zs246 A246k rfl (by decide) (by decide) rfl rfl) hZ (hw _ (List.mem_of_getElem? (i := 73) rfl)) (hw _ (List.mem_of_getElem? (i := 72) rfl)) (by decide) (by decide)) (g := (mkF m 158 #[.val (.int p1), .val (.int p2), .val (.int p3), .val (.int p4), .val (.int p5), .val (.int nc), .val (.ref so), .val (.ref to), .val (.int qq), .val (.int (7 : Int32)), .val (.int (1 : Int32)), .val (.int (1 : Int32)), .val (.int (0 : Int32)), .val (.int (-1 : Int32)), .val (.int (1 : Int32)), .val (.ref ba), .unset] [(.int (0 : Int32)), (.ref ba)])) rfl (by rw [hml]; rfl) (argsL := [(.ref ba), (.int (0 : Int32))]) (rest := []) (lenOf pd_11 rfl) rfl (by show 2 * 0 + _ ≤ _; exact Nat.le_of_eq rfl) (hb hby at_158) (fun _ _ => ⟨rfl, rfl, (by show k246 + 0 ≤ 24; omega), (by show n246 + 0 ≤ 192; omega)⟩)
      dsimp only [Pt.U, Pt.locs, Pt.cells, Pt.slots] at X247 l247 y247 z247 st247 hQ247
      have y247_ : k247 = k246 + 0 := y247
      have z247_ : n247 = n246 + 0 := z247
      obtain ⟨rfl, N247q, e247⟩ := hQ247
      have e247h : T247.heap = T246.heap := e247
      have N247 : Fr n0 L247 := by rw [l247]; exact Fr.app N246 N247q
      refine own_step (fun _ kc_ => st247 _ kc_) ?_
      show own_Ends p e below s _ _ _ (T247.setTop (mkF m 161 #[.val (.int p1), .val (.int p2), .val (.int p3), .val (.int p4), .val (.int p5), .val (.int nc), .val (.ref so), .val (.ref to), .val (.int qq), .val (.int (7 : Int32)), .val (.int (1 : Int32)), .val (.int (1 : Int32)), .val (.int (0 : Int32)), .val (.int (-1 : Int32)), .val (.int (1 : Int32)), .val (.ref ba), .unset] [(.int (1 : Int32))]))
      refine own_step (fun _ kc_ => XS.ifNo X247.here hx rfl (hb hby at_161) rfl (XT.i0_eq_f (by decide : ¬ ((1 : Int32) = 0))) (XS.aload X247.here hx rfl (hb hby at_164) rfl rfl (XS.iconst X247.here hx rfl (hb hby at_166) kc_))) ?_
      show own_Ends p e below s _ _ _ (T247.setTop (mkF m 167 #[.val (.int p1), .val (.int p2), .val (.int p3), .val (.int p4), .val (.int p5), .val (.int nc), .val (.ref so), .val (.ref to), .val (.int qq), .val (.int (7 : Int32)), .val (.int (1 : Int32)), .val (.int (1 : Int32)), .val (.int (0 : Int32)), .val (.int (-1 : Int32)), .val (.int (1 : Int32)), .val (.ref ba), .unset] [(.int (1 : Int32)), (.ref ba)]))
      obtain ⟨_, _, ⟨T248, L248, k248, n248⟩, -, X248, ⟨Lc248, hQ248, l248, y248, z248⟩, st248⟩ := Jvm.LawKit.callS X247 hx (y := (⟨"com/example/kinds_by_value/kindsbyvalue/NameSetAddEveryNamePinLaw", "at", "([II)Z"⟩ : MethodName)) hown (mvT hZ (hw _ (List.mem_of_getElem? (i := 70) rfl))) (mvT hZ (hw _ (List.mem_of_getElem? (i := 71) rfl))) (mvT hZ (hw _ (List.mem_of_getElem? (i := 72) rfl))) (mvT hZ (hw _ (List.mem_of_getElem? (i := 73) rfl))) (by decide) (backOf (W := 0) (rmT1 l Z a0 hw [] ba (1 : Int32) [(.int (0 : Int32)), (.int (1 : Int32)), (.int (2 : Int32)), (.int (3 : Int32)), (.int (4 : Int32)), (.int (5 : Int32)), (.int (6 : Int32))] 7 1 T246.heap n0 Zs246 A246k rfl (by decide) (by decide) rfl rfl) hZ (hw _ (List.mem_of_getElem? (i := 73) rfl)) (hw _ (List.mem_of_getElem? (i := 72) rfl)) (by decide) (by decide)) (g := (mkF m 167 #[.val (.int p1), .val (.int p2), .val (.int p3), .val (.int p4), .val (.int p5), .val (.int nc), .val (.ref so), .val (.ref to), .val (.int qq), .val (.int (7 : Int32)), .val (.int (1 : Int32)), .val (.int (1 : Int32)), .val (.int (0 : Int32)), .val (.int (-1 : Int32)), .val (.int (1 : Int32)), .val (.ref ba), .unset] [(.int (1 : Int32)), (.ref ba)])) rfl (by rw [hml]; rfl) (argsL := [(.ref ba), (.int (1 : Int32))]) (rest := []) (lenOf pd_11 rfl) rfl (by show 2 * 0 + _ ≤ _; exact Nat.le_of_eq rfl) (hb hby at_167) (fun _ _ => ⟨rfl, e247h, (by show k247 + 0 ≤ 24; omega), (by show n247 + 0 ≤ 192; omega)⟩)
      dsimp only [Pt.U, Pt.locs, Pt.cells, Pt.slots] at X248 l248 y248 z248 st248 hQ248
      have y248_ : k248 = k247 + 0 := y248
      have z248_ : n248 = n247 + 0 := z248
      obtain ⟨rfl, N248q, e248⟩ := hQ248
      have e248h : T248.heap = T246.heap := e248
      have N248 : Fr n0 L248 := by rw [l248]; exact Fr.app N247 N248q
      refine own_step (fun _ kc_ => st248 _ kc_) ?_
      show own_Ends p e below s _ _ _ (T248.setTop (mkF m 170 #[.val (.int p1), .val (.int p2), .val (.int p3), .val (.int p4), .val (.int p5), .val (.int nc), .val (.ref so), .val (.ref to), .val (.int qq), .val (.int (7 : Int32)), .val (.int (1 : Int32)), .val (.int (1 : Int32)), .val (.int (0 : Int32)), .val (.int (-1 : Int32)), .val (.int (1 : Int32)), .val (.ref ba), .unset] [(.int (1 : Int32))]))
      refine own_step (fun _ kc_ => XS.ifNo X248.here hx rfl (hb hby at_170) rfl (XT.i0_eq_f (by decide : ¬ ((1 : Int32) = 0))) (XS.aload X248.here hx rfl (hb hby at_173) rfl rfl (XS.iconst X248.here hx rfl (hb hby at_175) kc_))) ?_
      show own_Ends p e below s _ _ _ (T248.setTop (mkF m 176 #[.val (.int p1), .val (.int p2), .val (.int p3), .val (.int p4), .val (.int p5), .val (.int nc), .val (.ref so), .val (.ref to), .val (.int qq), .val (.int (7 : Int32)), .val (.int (1 : Int32)), .val (.int (1 : Int32)), .val (.int (0 : Int32)), .val (.int (-1 : Int32)), .val (.int (1 : Int32)), .val (.ref ba), .unset] [(.int (2 : Int32)), (.ref ba)]))
      obtain ⟨_, _, ⟨T249, L249, k249, n249⟩, -, X249, ⟨Lc249, hQ249, l249, y249, z249⟩, st249⟩ := Jvm.LawKit.callS X248 hx (y := (⟨"com/example/kinds_by_value/kindsbyvalue/NameSetAddEveryNamePinLaw", "at", "([II)Z"⟩ : MethodName)) hown (mvT hZ (hw _ (List.mem_of_getElem? (i := 70) rfl))) (mvT hZ (hw _ (List.mem_of_getElem? (i := 71) rfl))) (mvT hZ (hw _ (List.mem_of_getElem? (i := 72) rfl))) (mvT hZ (hw _ (List.mem_of_getElem? (i := 73) rfl))) (by decide) (backOf (W := 0) (rmT1 l Z a0 hw [] ba (2 : Int32) [(.int (0 : Int32)), (.int (1 : Int32)), (.int (2 : Int32)), (.int (3 : Int32)), (.int (4 : Int32)), (.int (5 : Int32)), (.int (6 : Int32))] 7 2 T246.heap n0 Zs246 A246k rfl (by decide) (by decide) rfl rfl) hZ (hw _ (List.mem_of_getElem? (i := 73) rfl)) (hw _ (List.mem_of_getElem? (i := 72) rfl)) (by decide) (by decide)) (g := (mkF m 176 #[.val (.int p1), .val (.int p2), .val (.int p3), .val (.int p4), .val (.int p5), .val (.int nc), .val (.ref so), .val (.ref to), .val (.int qq), .val (.int (7 : Int32)), .val (.int (1 : Int32)), .val (.int (1 : Int32)), .val (.int (0 : Int32)), .val (.int (-1 : Int32)), .val (.int (1 : Int32)), .val (.ref ba), .unset] [(.int (2 : Int32)), (.ref ba)])) rfl (by rw [hml]; rfl) (argsL := [(.ref ba), (.int (2 : Int32))]) (rest := []) (lenOf pd_11 rfl) rfl (by show 2 * 0 + _ ≤ _; exact Nat.le_of_eq rfl) (hb hby at_176) (fun _ _ => ⟨rfl, e248h, (by show k248 + 0 ≤ 24; omega), (by show n248 + 0 ≤ 192; omega)⟩)
      dsimp only [Pt.U, Pt.locs, Pt.cells, Pt.slots] at X249 l249 y249 z249 st249 hQ249
      have y249_ : k249 = k248 + 0 := y249
      have z249_ : n249 = n248 + 0 := z249
      obtain ⟨rfl, N249q, e249⟩ := hQ249
      have e249h : T249.heap = T246.heap := e249
      have N249 : Fr n0 L249 := by rw [l249]; exact Fr.app N248 N249q
      refine own_step (fun _ kc_ => st249 _ kc_) ?_
      show own_Ends p e below s _ _ _ (T249.setTop (mkF m 179 #[.val (.int p1), .val (.int p2), .val (.int p3), .val (.int p4), .val (.int p5), .val (.int nc), .val (.ref so), .val (.ref to), .val (.int qq), .val (.int (7 : Int32)), .val (.int (1 : Int32)), .val (.int (1 : Int32)), .val (.int (0 : Int32)), .val (.int (-1 : Int32)), .val (.int (1 : Int32)), .val (.ref ba), .unset] [(.int (1 : Int32))]))
      refine own_step (fun _ kc_ => XS.ifNo X249.here hx rfl (hb hby at_179) rfl (XT.i0_eq_f (by decide : ¬ ((1 : Int32) = 0))) (XS.aload X249.here hx rfl (hb hby at_182) rfl rfl (XS.iconst X249.here hx rfl (hb hby at_184) kc_))) ?_
      show own_Ends p e below s _ _ _ (T249.setTop (mkF m 185 #[.val (.int p1), .val (.int p2), .val (.int p3), .val (.int p4), .val (.int p5), .val (.int nc), .val (.ref so), .val (.ref to), .val (.int qq), .val (.int (7 : Int32)), .val (.int (1 : Int32)), .val (.int (1 : Int32)), .val (.int (0 : Int32)), .val (.int (-1 : Int32)), .val (.int (1 : Int32)), .val (.ref ba), .unset] [(.int (3 : Int32)), (.ref ba)]))
      obtain ⟨_, _, ⟨T250, L250, k250, n250⟩, -, X250, ⟨Lc250, hQ250, l250, y250, z250⟩, st250⟩ := Jvm.LawKit.callS X249 hx (y := (⟨"com/example/kinds_by_value/kindsbyvalue/NameSetAddEveryNamePinLaw", "at", "([II)Z"⟩ : MethodName)) hown (mvT hZ (hw _ (List.mem_of_getElem? (i := 70) rfl))) (mvT hZ (hw _ (List.mem_of_getElem? (i := 71) rfl))) (mvT hZ (hw _ (List.mem_of_getElem? (i := 72) rfl))) (mvT hZ (hw _ (List.mem_of_getElem? (i := 73) rfl))) (by decide) (backOf (W := 0) (rmT1 l Z a0 hw [] ba (3 : Int32) [(.int (0 : Int32)), (.int (1 : Int32)), (.int (2 : Int32)), (.int (3 : Int32)), (.int (4 : Int32)), (.int (5 : Int32)), (.int (6 : Int32))] 7 3 T246.heap n0 Zs246 A246k rfl (by decide) (by decide) rfl rfl) hZ (hw _ (List.mem_of_getElem? (i := 73) rfl)) (hw _ (List.mem_of_getElem? (i := 72) rfl)) (by decide) (by decide)) (g := (mkF m 185 #[.val (.int p1), .val (.int p2), .val (.int p3), .val (.int p4), .val (.int p5), .val (.int nc), .val (.ref so), .val (.ref to), .val (.int qq), .val (.int (7 : Int32)), .val (.int (1 : Int32)), .val (.int (1 : Int32)), .val (.int (0 : Int32)), .val (.int (-1 : Int32)), .val (.int (1 : Int32)), .val (.ref ba), .unset] [(.int (3 : Int32)), (.ref ba)])) rfl (by rw [hml]; rfl) (argsL := [(.ref ba), (.int (3 : Int32))]) (rest := []) (lenOf pd_11 rfl) rfl (by show 2 * 0 + _ ≤ _; exact Nat.le_of_eq rfl) (hb hby at_185) (fun _ _ => ⟨rfl, e249h, (by show k249 + 0 ≤ 24; omega), (by show n249 + 0 ≤ 192; omega)⟩)
      dsimp only [Pt.U, Pt.locs, Pt.cells, Pt.slots] at X250 l250 y250 z250 st250 hQ250
      have y250_ : k250 = k249 + 0 := y250
      have z250_ : n250 = n249 + 0 := z250
      obtain ⟨rfl, N250q, e250⟩ := hQ250
      have e250h : T250.heap = T246.heap := e250
      have N250 : Fr n0 L250 := by rw [l250]; exact Fr.app N249 N250q
      refine own_step (fun _ kc_ => st250 _ kc_) ?_
      show own_Ends p e below s _ _ _ (T250.setTop (mkF m 188 #[.val (.int p1), .val (.int p2), .val (.int p3), .val (.int p4), .val (.int p5), .val (.int nc), .val (.ref so), .val (.ref to), .val (.int qq), .val (.int (7 : Int32)), .val (.int (1 : Int32)), .val (.int (1 : Int32)), .val (.int (0 : Int32)), .val (.int (-1 : Int32)), .val (.int (1 : Int32)), .val (.ref ba), .unset] [(.int (1 : Int32))]))
      refine own_step (fun _ kc_ => XS.ifNo X250.here hx rfl (hb hby at_188) rfl (XT.i0_eq_f (by decide : ¬ ((1 : Int32) = 0))) (XS.aload X250.here hx rfl (hb hby at_191) rfl rfl (XS.iconst X250.here hx rfl (hb hby at_193) kc_))) ?_
      show own_Ends p e below s _ _ _ (T250.setTop (mkF m 194 #[.val (.int p1), .val (.int p2), .val (.int p3), .val (.int p4), .val (.int p5), .val (.int nc), .val (.ref so), .val (.ref to), .val (.int qq), .val (.int (7 : Int32)), .val (.int (1 : Int32)), .val (.int (1 : Int32)), .val (.int (0 : Int32)), .val (.int (-1 : Int32)), .val (.int (1 : Int32)), .val (.ref ba), .unset] [(.int (4 : Int32)), (.ref ba)]))
      obtain ⟨_, _, ⟨T251, L251, k251, n251⟩, -, X251, ⟨Lc251, hQ251, l251, y251, z251⟩, st251⟩ := Jvm.LawKit.callS X250 hx (y := (⟨"com/example/kinds_by_value/kindsbyvalue/NameSetAddEveryNamePinLaw", "at", "([II)Z"⟩ : MethodName)) hown (mvT hZ (hw _ (List.mem_of_getElem? (i := 70) rfl))) (mvT hZ (hw _ (List.mem_of_getElem? (i := 71) rfl))) (mvT hZ (hw _ (List.mem_of_getElem? (i := 72) rfl))) (mvT hZ (hw _ (List.mem_of_getElem? (i := 73) rfl))) (by decide) (backOf (W := 0) (rmT1 l Z a0 hw [] ba (4 : Int32) [(.int (0 : Int32)), (.int (1 : Int32)), (.int (2 : Int32)), (.int (3 : Int32)), (.int (4 : Int32)), (.int (5 : Int32)), (.int (6 : Int32))] 7 4 T246.heap n0 Zs246 A246k rfl (by decide) (by decide) rfl rfl) hZ (hw _ (List.mem_of_getElem? (i := 73) rfl)) (hw _ (List.mem_of_getElem? (i := 72) rfl)) (by decide) (by decide)) (g := (mkF m 194 #[.val (.int p1), .val (.int p2), .val (.int p3), .val (.int p4), .val (.int p5), .val (.int nc), .val (.ref so), .val (.ref to), .val (.int qq), .val (.int (7 : Int32)), .val (.int (1 : Int32)), .val (.int (1 : Int32)), .val (.int (0 : Int32)), .val (.int (-1 : Int32)), .val (.int (1 : Int32)), .val (.ref ba), .unset] [(.int (4 : Int32)), (.ref ba)])) rfl (by rw [hml]; rfl) (argsL := [(.ref ba), (.int (4 : Int32))]) (rest := []) (lenOf pd_11 rfl) rfl (by show 2 * 0 + _ ≤ _; exact Nat.le_of_eq rfl) (hb hby at_194) (fun _ _ => ⟨rfl, e250h, (by show k250 + 0 ≤ 24; omega), (by show n250 + 0 ≤ 192; omega)⟩)
      dsimp only [Pt.U, Pt.locs, Pt.cells, Pt.slots] at X251 l251 y251 z251 st251 hQ251
      have y251_ : k251 = k250 + 0 := y251
      have z251_ : n251 = n250 + 0 := z251
      obtain ⟨rfl, N251q, e251⟩ := hQ251
      have e251h : T251.heap = T246.heap := e251
      have N251 : Fr n0 L251 := by rw [l251]; exact Fr.app N250 N251q
      refine own_step (fun _ kc_ => st251 _ kc_) ?_
      show own_Ends p e below s _ _ _ (T251.setTop (mkF m 197 #[.val (.int p1), .val (.int p2), .val (.int p3), .val (.int p4), .val (.int p5), .val (.int nc), .val (.ref so), .val (.ref to), .val (.int qq), .val (.int (7 : Int32)), .val (.int (1 : Int32)), .val (.int (1 : Int32)), .val (.int (0 : Int32)), .val (.int (-1 : Int32)), .val (.int (1 : Int32)), .val (.ref ba), .unset] [(.int (1 : Int32))]))
      refine own_step (fun _ kc_ => XS.ifNo X251.here hx rfl (hb hby at_197) rfl (XT.i0_eq_f (by decide : ¬ ((1 : Int32) = 0))) (XS.aload X251.here hx rfl (hb hby at_200) rfl rfl (XS.iconst X251.here hx rfl (hb hby at_202) kc_))) ?_
      show own_Ends p e below s _ _ _ (T251.setTop (mkF m 203 #[.val (.int p1), .val (.int p2), .val (.int p3), .val (.int p4), .val (.int p5), .val (.int nc), .val (.ref so), .val (.ref to), .val (.int qq), .val (.int (7 : Int32)), .val (.int (1 : Int32)), .val (.int (1 : Int32)), .val (.int (0 : Int32)), .val (.int (-1 : Int32)), .val (.int (1 : Int32)), .val (.ref ba), .unset] [(.int (5 : Int32)), (.ref ba)]))
      obtain ⟨_, _, ⟨T252, L252, k252, n252⟩, -, X252, ⟨Lc252, hQ252, l252, y252, z252⟩, st252⟩ := Jvm.LawKit.callS X251 hx (y := (⟨"com/example/kinds_by_value/kindsbyvalue/NameSetAddEveryNamePinLaw", "at", "([II)Z"⟩ : MethodName)) hown (mvT hZ (hw _ (List.mem_of_getElem? (i := 70) rfl))) (mvT hZ (hw _ (List.mem_of_getElem? (i := 71) rfl))) (mvT hZ (hw _ (List.mem_of_getElem? (i := 72) rfl))) (mvT hZ (hw _ (List.mem_of_getElem? (i := 73) rfl))) (by decide) (backOf (W := 0) (rmT1 l Z a0 hw [] ba (5 : Int32) [(.int (0 : Int32)), (.int (1 : Int32)), (.int (2 : Int32)), (.int (3 : Int32)), (.int (4 : Int32)), (.int (5 : Int32)), (.int (6 : Int32))] 7 5 T246.heap n0 Zs246 A246k rfl (by decide) (by decide) rfl rfl) hZ (hw _ (List.mem_of_getElem? (i := 73) rfl)) (hw _ (List.mem_of_getElem? (i := 72) rfl)) (by decide) (by decide)) (g := (mkF m 203 #[.val (.int p1), .val (.int p2), .val (.int p3), .val (.int p4), .val (.int p5), .val (.int nc), .val (.ref so), .val (.ref to), .val (.int qq), .val (.int (7 : Int32)), .val (.int (1 : Int32)), .val (.int (1 : Int32)), .val (.int (0 : Int32)), .val (.int (-1 : Int32)), .val (.int (1 : Int32)), .val (.ref ba), .unset] [(.int (5 : Int32)), (.ref ba)])) rfl (by rw [hml]; rfl) (argsL := [(.ref ba), (.int (5 : Int32))]) (rest := []) (lenOf pd_11 rfl) rfl (by show 2 * 0 + _ ≤ _; exact Nat.le_of_eq rfl) (hb hby at_203) (fun _ _ => ⟨rfl, e251h, (by show k251 + 0 ≤ 24; omega), (by show n251 + 0 ≤ 192; omega)⟩)
      dsimp only [Pt.U, Pt.locs, Pt.cells, Pt.slots] at X252 l252 y252 z252 st252 hQ252
      have y252_ : k252 = k251 + 0 := y252
      have z252_ : n252 = n251 + 0 := z252
      obtain ⟨rfl, N252q, e252⟩ := hQ252
      have e252h : T252.heap = T246.heap := e252
      have N252 : Fr n0 L252 := by rw [l252]; exact Fr.app N251 N252q
      refine own_step (fun _ kc_ => st252 _ kc_) ?_
      show own_Ends p e below s _ _ _ (T252.setTop (mkF m 206 #[.val (.int p1), .val (.int p2), .val (.int p3), .val (.int p4), .val (.int p5), .val (.int nc), .val (.ref so), .val (.ref to), .val (.int qq), .val (.int (7 : Int32)), .val (.int (1 : Int32)), .val (.int (1 : Int32)), .val (.int (0 : Int32)), .val (.int (-1 : Int32)), .val (.int (1 : Int32)), .val (.ref ba), .unset] [(.int (1 : Int32))]))
      refine own_step (fun _ kc_ => XS.ifNo X252.here hx rfl (hb hby at_206) rfl (XT.i0_eq_f (by decide : ¬ ((1 : Int32) = 0))) (XS.aload X252.here hx rfl (hb hby at_209) rfl rfl (XS.bipush X252.here hx rfl (hb hby at_211) kc_))) ?_
      show own_Ends p e below s _ _ _ (T252.setTop (mkF m 213 #[.val (.int p1), .val (.int p2), .val (.int p3), .val (.int p4), .val (.int p5), .val (.int nc), .val (.ref so), .val (.ref to), .val (.int qq), .val (.int (7 : Int32)), .val (.int (1 : Int32)), .val (.int (1 : Int32)), .val (.int (0 : Int32)), .val (.int (-1 : Int32)), .val (.int (1 : Int32)), .val (.ref ba), .unset] [(.int (6 : Int32)), (.ref ba)]))
      obtain ⟨_, _, ⟨T253, L253, k253, n253⟩, -, X253, ⟨Lc253, hQ253, l253, y253, z253⟩, st253⟩ := Jvm.LawKit.callS X252 hx (y := (⟨"com/example/kinds_by_value/kindsbyvalue/NameSetAddEveryNamePinLaw", "at", "([II)Z"⟩ : MethodName)) hown (mvT hZ (hw _ (List.mem_of_getElem? (i := 70) rfl))) (mvT hZ (hw _ (List.mem_of_getElem? (i := 71) rfl))) (mvT hZ (hw _ (List.mem_of_getElem? (i := 72) rfl))) (mvT hZ (hw _ (List.mem_of_getElem? (i := 73) rfl))) (by decide) (backOf (W := 0) (rmT1 l Z a0 hw [] ba (6 : Int32) [(.int (0 : Int32)), (.int (1 : Int32)), (.int (2 : Int32)), (.int (3 : Int32)), (.int (4 : Int32)), (.int (5 : Int32)), (.int (6 : Int32))] 7 6 T246.heap n0 Zs246 A246k rfl (by decide) (by decide) rfl rfl) hZ (hw _ (List.mem_of_getElem? (i := 73) rfl)) (hw _ (List.mem_of_getElem? (i := 72) rfl)) (by decide) (by decide)) (g := (mkF m 213 #[.val (.int p1), .val (.int p2), .val (.int p3), .val (.int p4), .val (.int p5), .val (.int nc), .val (.ref so), .val (.ref to), .val (.int qq), .val (.int (7 : Int32)), .val (.int (1 : Int32)), .val (.int (1 : Int32)), .val (.int (0 : Int32)), .val (.int (-1 : Int32)), .val (.int (1 : Int32)), .val (.ref ba), .unset] [(.int (6 : Int32)), (.ref ba)])) rfl (by rw [hml]; rfl) (argsL := [(.ref ba), (.int (6 : Int32))]) (rest := []) (lenOf pd_11 rfl) rfl (by show 2 * 0 + _ ≤ _; exact Nat.le_of_eq rfl) (hb hby at_213) (fun _ _ => ⟨rfl, e252h, (by show k252 + 0 ≤ 24; omega), (by show n252 + 0 ≤ 192; omega)⟩)
      dsimp only [Pt.U, Pt.locs, Pt.cells, Pt.slots] at X253 l253 y253 z253 st253 hQ253
      have y253_ : k253 = k252 + 0 := y253
      have z253_ : n253 = n252 + 0 := z253
      obtain ⟨rfl, N253q, e253⟩ := hQ253
      have e253h : T253.heap = T246.heap := e253
      have N253 : Fr n0 L253 := by rw [l253]; exact Fr.app N252 N253q
      refine own_step (fun _ kc_ => st253 _ kc_) ?_
      show own_Ends p e below s _ _ _ (T253.setTop (mkF m 216 #[.val (.int p1), .val (.int p2), .val (.int p3), .val (.int p4), .val (.int p5), .val (.int nc), .val (.ref so), .val (.ref to), .val (.int qq), .val (.int (7 : Int32)), .val (.int (1 : Int32)), .val (.int (1 : Int32)), .val (.int (0 : Int32)), .val (.int (-1 : Int32)), .val (.int (1 : Int32)), .val (.ref ba), .unset] [(.int (1 : Int32))]))
      refine own_step (fun _ kc_ => XS.ifNo X253.here hx rfl (hb hby at_216) rfl (XT.i0_eq_f (by decide : ¬ ((1 : Int32) = 0))) (XS.iconst X253.here hx rfl (hb hby at_219) (XS.goto X253.here hx rfl (pc0 := 220) (pc' := 224) rfl (hb hby at_220) (by decide) (by decide) (XS.istore X253.here hx rfl (hb hby at_224) rfl (l' := #[.val (.int p1), .val (.int p2), .val (.int p3), .val (.int p4), .val (.int p5), .val (.int nc), .val (.ref so), .val (.ref to), .val (.int qq), .val (.int (7 : Int32)), .val (.int (1 : Int32)), .val (.int (1 : Int32)), .val (.int (0 : Int32)), .val (.int (-1 : Int32)), .val (.int (1 : Int32)), .val (.ref ba), .val (.int (1 : Int32))]) rfl (XS.iload X253.here hx rfl (hb hby at_226) rfl (XS.ifNo X253.here hx rfl (hb hby at_228) rfl (XT.i0_eq_f (by decide : ¬ ((1 : Int32) = 0))) (XS.iload X253.here hx rfl (hb hby at_231) rfl (XS.ifNo X253.here hx rfl (hb hby at_233) rfl (XT.i0_eq_f (by decide : ¬ ((1 : Int32) = 0))) kc_)))))))) ?_
      show own_Ends p e below s _ _ _ (T253.setTop (mkF m 236 #[.val (.int p1), .val (.int p2), .val (.int p3), .val (.int p4), .val (.int p5), .val (.int nc), .val (.ref so), .val (.ref to), .val (.int qq), .val (.int (7 : Int32)), .val (.int (1 : Int32)), .val (.int (1 : Int32)), .val (.int (0 : Int32)), .val (.int (-1 : Int32)), .val (.int (1 : Int32)), .val (.ref ba), .val (.int (1 : Int32))] []))
      refine own_step (fun _ kc_ => XS.iload X253.here hx rfl (hb hby at_236) rfl (XS.ifNo X253.here hx rfl (hb hby at_238) rfl (XT.i0_ne_f (by decide : (0 : Int32) = 0)) (XS.iload X253.here hx rfl (hb hby at_241) rfl (XS.iconst X253.here hx rfl (hb hby at_243) (XS.icmpNo X253.here hx rfl (hb hby at_244) rfl (XT.ii_ne_f (by decide : (-1 : Int32) = (-1 : Int32))) (XS.iload X253.here hx rfl (hb hby at_247) rfl (XS.ifNo X253.here hx rfl (hb hby at_249) rfl (XT.i0_eq_f (by decide : ¬ ((1 : Int32) = 0))) (XS.iload X253.here hx rfl (hb hby at_252) rfl kc_)))))))) ?_
      show own_Ends p e below s _ _ _ (T253.setTop (mkF m 254 #[.val (.int p1), .val (.int p2), .val (.int p3), .val (.int p4), .val (.int p5), .val (.int nc), .val (.ref so), .val (.ref to), .val (.int qq), .val (.int (7 : Int32)), .val (.int (1 : Int32)), .val (.int (1 : Int32)), .val (.int (0 : Int32)), .val (.int (-1 : Int32)), .val (.int (1 : Int32)), .val (.ref ba), .val (.int (1 : Int32))] [(.int (1 : Int32))]))
      refine own_step (fun _ kc_ => XS.ifNo X253.here hx rfl (hb hby at_254) rfl (XT.i0_eq_f (by decide : ¬ ((1 : Int32) = 0))) (XS.iconst X253.here hx rfl (hb hby at_257) (XS.goto X253.here hx rfl (pc0 := 258) (pc' := 262) rfl (hb hby at_258) (by decide) (by decide) kc_))) ?_
      show own_Ends p e below s _ _ _ (T253.setTop (mkF m 262 #[.val (.int p1), .val (.int p2), .val (.int p3), .val (.int p4), .val (.int p5), .val (.int nc), .val (.ref so), .val (.ref to), .val (.int qq), .val (.int (7 : Int32)), .val (.int (1 : Int32)), .val (.int (1 : Int32)), .val (.int (0 : Int32)), .val (.int (-1 : Int32)), .val (.int (1 : Int32)), .val (.ref ba), .val (.int (1 : Int32))] [(.int (1 : Int32))]))
      exact own_retN X253 hx (t := .boolean) hret (by simp) hlk (hb hby at_262) (by omega) (by omega) rfl ⟨rfl, N253⟩
  refine own_step (fun _ kc_ => XS.iload X.here hx rfl (hb hby at_67) rfl kc_) ?_
  show own_Ends p e below s _ _ _ (T.setTop (mkF m 69 #[.val (.int p1), .val (.int p2), .val (.int p3), .val (.int p4), .val (.int p5), .val (.int nc), .val (.ref so), .val (.ref to), .unset, .unset, .unset, .unset, .unset, .unset, .unset, .unset, .unset] [(.int nc)]))
  by_cases hc69 : 0 < nc
  · refine own_step (fun _ kc_ => XS.ifNo X.here hx rfl (hb hby at_69) rfl (XT.i0_le_f hc69) (XS.iloadN X.here hx rfl (hb hby at_72) rfl (X.ldcI hx hown (mvT hZ (hw _ (List.mem_of_getElem? (i := 25) rfl))) rfl (hb hby at_73) (XS.iand X.here hx rfl (hb hby at_75) rfl (XS.iload X.here hx rfl (hb hby at_76) rfl (Jvm.RoadKit.iremM X hx rfl (hb hby at_78) rfl (own_nzlt hc69) (XS.goto X.here hx rfl (pc0 := 79) (pc' := 86) rfl (hb hby at_79) (by decide) (by decide) kc_))))))) ?_
    show own_Ends p e below s _ _ _ (T.setTop (mkF m 86 #[.val (.int p1), .val (.int p2), .val (.int p3), .val (.int p4), .val (.int p5), .val (.int nc), .val (.ref so), .val (.ref to), .unset, .unset, .unset, .unset, .unset, .unset, .unset, .unset, .unset] [(.int ((p3 &&& (2147483647 : Int32)) % nc))]))
    exact J86 _
  · refine own_step (fun _ kc_ => XS.ifYes X.here hx rfl (pc0 := 69) (pc' := 82) rfl (hb hby at_69) rfl (XT.i0_le_t hc69) (by decide) (by decide) (XS.iloadN X.here hx rfl (hb hby at_82) rfl (X.ldcI hx hown (mvT hZ (hw _ (List.mem_of_getElem? (i := 25) rfl))) rfl (hb hby at_83) (XS.iand X.here hx rfl (hb hby at_85) rfl kc_)))) ?_
    show own_Ends p e below s _ _ _ (T.setTop (mkF m 86 #[.val (.int p1), .val (.int p2), .val (.int p3), .val (.int p4), .val (.int p5), .val (.int nc), .val (.ref so), .val (.ref to), .unset, .unset, .unset, .unset, .unset, .unset, .unset, .unset, .unset] [(.int (p3 &&& (2147483647 : Int32)))]))
    exact J86 _
set_option maxRecDepth 65536 in
set_option maxHeartbeats 40000000 in
theorem seg_43 {p : Program} {l : Launch} {e : Env} {s : State} {m : MethodId} {below : List Frame} {meth : Method} {c : Code} {Z : State} {a0 : Array Value} (hw : ∀ d ∈ tables_1, d.before a0 Z = true) (hZ : Z.Warmed39 s.vm) (hx : p.tables.exec = Jvm.exec) (hby : c.code = code) (hlk : meth.locks = false) (hret : meth.sig.returnType = some .boolean) (hml : c.maxLocals = 17) (hown : s.vm.findClass "com/example/kinds_by_value/kindsbyvalue/NameSetAddEveryNamePinLaw" = some m.cls) (p1 : Int32) (p2 : Int32) (p3 : Int32) (p4 : Int32) (p5 : Int32)  {h0 : Heap} {n0 : Nat} {nc : Int32} {so : Addr} (hS : own_Site s) (v0 v1 v2 v3 v4 : Value) {h : Heap}  :
    ∀ {T : State} {locs : List Loc} {cells slots : Nat} (X : Stand p l e room_1 s m #[(.int p1), (.int p2), (.int p3), (.int p4), (.int p5)] below meth c T locs cells slots) (e0 : T.heap = h) (N0 : Fr n0 locs) (Z0 : n0 ≤ h.size) (hcs : cells ≤ 2) (hsl : slots ≤ 40) (Es : Exa Z h so "com/example/kinds_by_value/kindsbyvalue/NameSet") (so0 : Fld Z h so "com/example/kinds_by_value/kindsbyvalue/NameSet" "everyName" "Z" v0) (so1 : Fld Z h so "com/example/kinds_by_value/kindsbyvalue/NameSet" "bits" "[J" v1) (so2 : Fld Z h so "com/example/kinds_by_value/kindsbyvalue/NameSet" "table" "[I" v2) (so3 : Fld Z h so "com/example/kinds_by_value/kindsbyvalue/NameSet" "size" "I" v3) (so4 : Fld Z h so "com/example/kinds_by_value/kindsbyvalue/NameSet" "hash" "I" v4) (gs : n0 ≤ so), own_Ends p e below s 24 192 (Q0 Z p1 p2 p3 p4 p5  h0 n0) (T.setTop (mkF m 43 #[.val (.int p1), .val (.int p2), .val (.int p3), .val (.int p4), .val (.int p5), .val (.int nc), .val (.ref so), .unset, .unset, .unset, .unset, .unset, .unset, .unset, .unset, .unset, .unset] [])) := by
  intro T locs cells slots X e0 N0 Z0 hcs hsl Es so0 so1 so2 so3 so4 gs
  show own_Ends p e below s _ _ _ (T.setTop (mkF m 43 #[.val (.int p1), .val (.int p2), .val (.int p3), .val (.int p4), .val (.int p5), .val (.int nc), .val (.ref so), .unset, .unset, .unset, .unset, .unset, .unset, .unset, .unset, .unset, .unset] []))
  refine own_step (fun _ kc_ => XS.aload X.here hx rfl (hb hby at_43) rfl rfl kc_) ?_
  show own_Ends p e below s _ _ _ (T.setTop (mkF m 45 #[.val (.int p1), .val (.int p2), .val (.int p3), .val (.int p4), .val (.int p5), .val (.int nc), .val (.ref so), .unset, .unset, .unset, .unset, .unset, .unset, .unset, .unset, .unset, .unset] [(.ref so)]))
  obtain ⟨cq254, kq254, q254a, q254b, q254c⟩ := isOf hZ e0 Es
  obtain ⟨_, _, ⟨T254, L254, k254, n254⟩, -, X254, ⟨Lc254, hQ254, l254, y254, z254⟩, st254⟩ := X.virtualBack hx (y := (⟨"com/example/kinds_by_value/kindsbyvalue/NameSet", "addEveryName", "()V"⟩ : MethodName)) (z := (⟨"com/example/kinds_by_value/kindsbyvalue/NameSet", "addEveryName", "()V"⟩ : MethodName)) hown (mvT hZ (hw _ (List.mem_of_getElem? (i := 12) rfl))) (mvT hZ (hw _ (List.mem_of_getElem? (i := 13) rfl))) (notFace_of_selects (args := #[]) (mvT hZ (hw _ (List.mem_of_getElem? (i := 15) rfl)))) (mvT hZ (hw _ (List.mem_of_getElem? (i := 15) rfl))) (mvT hZ (hw _ (List.mem_of_getElem? (i := 14) rfl))) (by decide) (backOf (W := 0) (rm3 l Z a0 hw [] so v0 v1 v2 v3 v4 h n0 Z0 Es so0 so1 so2 so3 so4 gs) hZ (hw _ (List.mem_of_getElem? (i := 16) rfl)) (hw _ (List.mem_of_getElem? (i := 2) rfl)) (by decide) (by decide)) q254a q254c (g := (mkF m 45 #[.val (.int p1), .val (.int p2), .val (.int p3), .val (.int p4), .val (.int p5), .val (.int nc), .val (.ref so), .unset, .unset, .unset, .unset, .unset, .unset, .unset, .unset, .unset, .unset] [(.ref so)])) rfl (by rw [hml]; rfl) (Steps.refl _) (argsL := []) (rest := []) (lenOf pd_1 rfl) rfl (by show 2 * 0 + _ ≤ _; exact Nat.le_of_eq rfl) (hb hby at_45) (fun _ _ => ⟨rfl, e0, (by show cells + 0 ≤ 24; omega), (by show slots + 0 ≤ 192; omega)⟩)
  dsimp only [Pt.U, Pt.locs, Pt.cells, Pt.slots] at X254 l254 y254 z254 st254 hQ254
  have y254_ : k254 = cells + 0 := y254
  have z254_ : n254 = slots + 0 := z254
  obtain ⟨rfl, N254q, K254k, fE254, fB254, fT254, fS254, fH254⟩ := hQ254
  have E_so_254 := (Es).keep K254k
  have Zs254 := Nat.le_trans Z0 K254k.1
  have N254 : Fr n0 L254 := by rw [l254]; exact Fr.app N0 N254q
  refine own_step (fun _ kc_ => st254.trans kc_) ?_
  show own_Ends p e below s _ _ _ (T254.setTop (mkF m 48 #[.val (.int p1), .val (.int p2), .val (.int p3), .val (.int p4), .val (.int p5), .val (.int nc), .val (.ref so), .unset, .unset, .unset, .unset, .unset, .unset, .unset, .unset, .unset, .unset] []))
  obtain ⟨T255, h255, X255, e255, E255, A255, D255, -, st255⟩ := newO X254 hx hZ hown (hw _ (List.mem_of_getElem? (i := 0) rfl)) (hw _ (List.mem_of_getElem? (i := 1) rfl)) (hw _ (List.mem_of_getElem? (i := 2) rfl)) rfl (g := (mkF m 48 #[.val (.int p1), .val (.int p2), .val (.int p3), .val (.int p4), .val (.int p5), .val (.int nc), .val (.ref so), .unset, .unset, .unset, .unset, .unset, .unset, .unset, .unset, .unset, .unset] [])) rfl (hb hby at_48) (by show k254 + 1 ≤ 24; omega) (by show n254 + 5 ≤ 192; omega)
  obtain ⟨b255, g255⟩ : ∃ z, z = T254.heap.size := ⟨_, rfl⟩
  rw [← g255] at A255 D255 st255
  have ne_so_b255 : so ≠ b255 := Nat.ne_of_lt (Nat.lt_of_lt_of_le (E_so_254).lt (Nat.le_of_eq g255.symm))
  have n0_b255 : n0 ≤ b255 := Nat.le_trans Zs254 (Nat.le_of_eq g255.symm)
  have E_so_255 := (E_so_254).ext E255
  have F_so_everyName_255 := (fE254).ext E255
  have F_so_bits_255 := (fB254).ext E255
  have F_so_table_255 := (fT254).ext E255
  have F_so_size_255 := (fS254).ext E255
  have F_so_hash_255 := (fH254).ext E255
  have Zs255 := Nat.le_trans Zs254 E255.1
  have F_bits_b255 : Fld Z h255 b255 "com/example/kinds_by_value/kindsbyvalue/NameSet" "bits" "[J" .null := D255 (Or.inl (hw _ (List.mem_of_getElem? (i := 11) rfl))) (ty := (.array .long)) (by decide)
  have F_everyName_b255 : Fld Z h255 b255 "com/example/kinds_by_value/kindsbyvalue/NameSet" "everyName" "Z" (.int (0 : Int32)) := D255 (Or.inl (hw _ (List.mem_of_getElem? (i := 18) rfl))) (ty := .boolean) (by decide)
  have F_table_b255 : Fld Z h255 b255 "com/example/kinds_by_value/kindsbyvalue/NameSet" "table" "[I" .null := D255 (Or.inl (hw _ (List.mem_of_getElem? (i := 20) rfl))) (ty := (.array .int)) (by decide)
  have F_size_b255 : Fld Z h255 b255 "com/example/kinds_by_value/kindsbyvalue/NameSet" "size" "I" (.int (0 : Int32)) := D255 (Or.inl (hw _ (List.mem_of_getElem? (i := 22) rfl))) (ty := .int) (by decide)
  have F_hash_b255 : Fld Z h255 b255 "com/example/kinds_by_value/kindsbyvalue/NameSet" "hash" "I" (.int (0 : Int32)) := D255 (Or.inl (hw _ (List.mem_of_getElem? (i := 24) rfl))) (ty := .int) (by decide)
  refine own_step (fun _ kc_ => st255 _ kc_) ?_
  show own_Ends p e below s _ _ _ (T255.setTop (mkF m 51 #[.val (.int p1), .val (.int p2), .val (.int p3), .val (.int p4), .val (.int p5), .val (.int nc), .val (.ref so), .unset, .unset, .unset, .unset, .unset, .unset, .unset, .unset, .unset, .unset] [(.ref b255)]))
  refine own_step (fun _ kc_ => XS.dup X255.here hx rfl (hb hby at_51) rfl rfl (XS.iloadN X255.here hx rfl (hb hby at_52) rfl (XS.sipush X255.here hx rfl (hb hby at_53) (XS.iand X255.here hx rfl (hb hby at_56) rfl kc_)))) ?_
  show own_Ends p e below s _ _ _ (T255.setTop (mkF m 57 #[.val (.int p1), .val (.int p2), .val (.int p3), .val (.int p4), .val (.int p5), .val (.int nc), .val (.ref so), .unset, .unset, .unset, .unset, .unset, .unset, .unset, .unset, .unset, .unset] [(.int (p4 &&& (1023 : Int32))), (.ref b255), (.ref b255)]))
  generalize hn2 : (p4 &&& (1023 : Int32)) = nd
  have hn3 := own_nc1023 p4 hn2
  show own_Ends p e below s _ _ _ (T255.setTop (mkF m 57 #[.val (.int p1), .val (.int p2), .val (.int p3), .val (.int p4), .val (.int p5), .val (.int nc), .val (.ref so), .unset, .unset, .unset, .unset, .unset, .unset, .unset, .unset, .unset, .unset] [(.int nd), (.ref b255), (.ref b255)]))
  by_cases hT : (512 : Int32) < nd
  · show own_Ends p e below s _ _ _ (T255.setTop (mkF m 57 #[.val (.int p1), .val (.int p2), .val (.int p3), .val (.int p4), .val (.int p5), .val (.int nc), .val (.ref so), .unset, .unset, .unset, .unset, .unset, .unset, .unset, .unset, .unset, .unset] [(.int nd), (.ref b255), (.ref b255)]))
    obtain ⟨_, _, ⟨T256, L256, k256, n256⟩, -, X256, ⟨Lc256, hQ256, l256, y256, z256⟩, st256⟩ := X255.specialBack hx (y := (⟨"com/example/kinds_by_value/kindsbyvalue/NameSet", "<init>", "(I)V"⟩ : MethodName)) rfl hown (mvT hZ (hw _ (List.mem_of_getElem? (i := 3) rfl))) (mvT hZ (hw _ (List.mem_of_getElem? (i := 4) rfl))) (mvT hZ (hw _ (List.mem_of_getElem? (i := 5) rfl))) (by decide) (backOf (W := 1) (rmIT l Z a0 hw [] b255 nd  h255 n0 Zs255 A255 F_everyName_b255 F_bits_b255 F_table_b255 F_size_b255 F_hash_b255 n0_b255 hT) hZ (hw _ (List.mem_of_getElem? (i := 5) rfl)) (hw _ (List.mem_of_getElem? (i := 2) rfl)) (by decide) (by decide)) (g := (mkF m 57 #[.val (.int p1), .val (.int p2), .val (.int p3), .val (.int p4), .val (.int p5), .val (.int nc), .val (.ref so), .unset, .unset, .unset, .unset, .unset, .unset, .unset, .unset, .unset, .unset] [(.int nd), (.ref b255), (.ref b255)])) rfl (by rw [hml]; rfl) (Steps.refl _) (a := b255) (argsL := [(.int nd)]) (rest := [(.ref b255)]) (lenOf pd_7 rfl) rfl (by show 2 * 0 + _ ≤ _; exact Nat.le_of_eq rfl) (hb hby at_57) (fun _ _ => ⟨rfl, e255, (by show (k254 + 1) + 1 ≤ 24; omega), (by show (n254 + 5) + 16 ≤ 192; omega)⟩)
    dsimp only [Pt.U, Pt.locs, Pt.cells, Pt.slots] at X256 l256 y256 z256 st256 hQ256
    have y256_ : k256 = (k254 + 1) + 1 := y256
    have z256_ : n256 = (n254 + 5) + 16 := z256
    obtain ⟨rfl, N256q, K256k, fE256, fS256, fH256, ar256, har256, noar256, fB256, fT256, fA256⟩ := hQ256
    have n0ar256 : n0 ≤ ar256 := Nat.le_trans Zs255 har256
    have E_so_256 := (E_so_255).keep K256k
    have F_so_everyName_256 := (F_so_everyName_255).keep K256k (ninS ne_so_b255 nin0)
    have F_so_bits_256 := (F_so_bits_255).keep K256k (ninS ne_so_b255 nin0)
    have F_so_table_256 := (F_so_table_255).keep K256k (ninS ne_so_b255 nin0)
    have F_so_size_256 := (F_so_size_255).keep K256k (ninS ne_so_b255 nin0)
    have F_so_hash_256 := (F_so_hash_255).keep K256k (ninS ne_so_b255 nin0)
    have E_b255_256 := (A255).keep K256k
    have Zs256 := Nat.le_trans Zs255 K256k.1
    have N256 : Fr n0 L256 := by rw [l256]; exact Fr.app N254 N256q
    refine own_step (fun _ kc_ => st256.trans kc_) ?_
    show own_Ends p e below s _ _ _ (T256.setTop (mkF m 60 #[.val (.int p1), .val (.int p2), .val (.int p3), .val (.int p4), .val (.int p5), .val (.int nc), .val (.ref so), .unset, .unset, .unset, .unset, .unset, .unset, .unset, .unset, .unset, .unset] [(.ref b255)]))
    refine own_step (fun _ kc_ => XS.astore X256.here hx rfl (hb hby at_60) rfl rfl (l' := #[.val (.int p1), .val (.int p2), .val (.int p3), .val (.int p4), .val (.int p5), .val (.int nc), .val (.ref so), .val (.ref b255), .unset, .unset, .unset, .unset, .unset, .unset, .unset, .unset, .unset]) rfl (XS.aload X256.here hx rfl (hb hby at_62) rfl rfl kc_)) ?_
    show own_Ends p e below s _ _ _ (T256.setTop (mkF m 64 #[.val (.int p1), .val (.int p2), .val (.int p3), .val (.int p4), .val (.int p5), .val (.int nc), .val (.ref so), .val (.ref b255), .unset, .unset, .unset, .unset, .unset, .unset, .unset, .unset, .unset] [(.ref b255)]))
    obtain ⟨cq257, kq257, q257a, q257b, q257c⟩ := isOf hZ rfl E_b255_256
    obtain ⟨_, _, ⟨T257, L257, k257, n257⟩, -, X257, ⟨Lc257, hQ257, l257, y257, z257⟩, st257⟩ := X256.virtualBack hx (y := (⟨"com/example/kinds_by_value/kindsbyvalue/NameSet", "addEveryName", "()V"⟩ : MethodName)) (z := (⟨"com/example/kinds_by_value/kindsbyvalue/NameSet", "addEveryName", "()V"⟩ : MethodName)) hown (mvT hZ (hw _ (List.mem_of_getElem? (i := 12) rfl))) (mvT hZ (hw _ (List.mem_of_getElem? (i := 13) rfl))) (notFace_of_selects (args := #[]) (mvT hZ (hw _ (List.mem_of_getElem? (i := 15) rfl)))) (mvT hZ (hw _ (List.mem_of_getElem? (i := 15) rfl))) (mvT hZ (hw _ (List.mem_of_getElem? (i := 14) rfl))) (by decide) (backOf (W := 0) (rm3 l Z a0 hw [] b255 (.int (0 : Int32)) .null (.ref ar256) (.int (0 : Int32)) (.int (0 : Int32)) T256.heap n0 Zs256 E_b255_256 fE256 fB256 fT256 fS256 fH256 n0_b255) hZ (hw _ (List.mem_of_getElem? (i := 16) rfl)) (hw _ (List.mem_of_getElem? (i := 2) rfl)) (by decide) (by decide)) q257a q257c (g := (mkF m 64 #[.val (.int p1), .val (.int p2), .val (.int p3), .val (.int p4), .val (.int p5), .val (.int nc), .val (.ref so), .val (.ref b255), .unset, .unset, .unset, .unset, .unset, .unset, .unset, .unset, .unset] [(.ref b255)])) rfl (by rw [hml]; rfl) (Steps.refl _) (argsL := []) (rest := []) (lenOf pd_1 rfl) rfl (by show 2 * 0 + _ ≤ _; exact Nat.le_of_eq rfl) (hb hby at_64) (fun _ _ => ⟨rfl, rfl, (by show k256 + 0 ≤ 24; omega), (by show n256 + 0 ≤ 192; omega)⟩)
    dsimp only [Pt.U, Pt.locs, Pt.cells, Pt.slots] at X257 l257 y257 z257 st257 hQ257
    have y257_ : k257 = k256 + 0 := y257
    have z257_ : n257 = n256 + 0 := z257
    obtain ⟨rfl, N257q, K257k, fE257, fB257, fT257, fS257, fH257⟩ := hQ257
    have E_so_257 := (E_so_256).keep K257k
    have F_so_everyName_257 := (F_so_everyName_256).keep K257k (ninS ne_so_b255 nin0)
    have F_so_bits_257 := (F_so_bits_256).keep K257k (ninS ne_so_b255 nin0)
    have F_so_table_257 := (F_so_table_256).keep K257k (ninS ne_so_b255 nin0)
    have F_so_size_257 := (F_so_size_256).keep K257k (ninS ne_so_b255 nin0)
    have F_so_hash_257 := (F_so_hash_256).keep K257k (ninS ne_so_b255 nin0)
    have E_b255_257 := (E_b255_256).keep K257k
    have A_ar256_257 := (fA256).keep K257k (ninS (Ne.symm noar256) nin0)
    have Zs257 := Nat.le_trans Zs256 K257k.1
    have N257 : Fr n0 L257 := by rw [l257]; exact Fr.app N256 N257q
    refine own_step (fun _ kc_ => st257.trans kc_) ?_
    show own_Ends p e below s _ _ _ (T257.setTop (mkF m 67 #[.val (.int p1), .val (.int p2), .val (.int p3), .val (.int p4), .val (.int p5), .val (.int nc), .val (.ref so), .val (.ref b255), .unset, .unset, .unset, .unset, .unset, .unset, .unset, .unset, .unset] []))
    exact seg_67 hw hZ hx hby hlk hret hml hown p1 p2 p3 p4 p5 hS X257 rfl N257 Zs257 (by omega) (by omega) E_so_257 E_b255_257 F_so_everyName_257 F_so_bits_257 F_so_table_257 F_so_size_257 F_so_hash_257 fE257 fB257 fT257 fS257 fH257
  · have hB : ¬ (512 : Int) < nd.toInt := fun q => hT (Int32.lt_iff_toInt_lt.mpr q)
    show own_Ends p e below s _ _ _ (T255.setTop (mkF m 57 #[.val (.int p1), .val (.int p2), .val (.int p3), .val (.int p4), .val (.int p5), .val (.int nc), .val (.ref so), .unset, .unset, .unset, .unset, .unset, .unset, .unset, .unset, .unset, .unset] [(.int nd), (.ref b255), (.ref b255)]))
    obtain ⟨_, _, ⟨T258, L258, k258, n258⟩, -, X258, ⟨Lc258, hQ258, l258, y258, z258⟩, st258⟩ := X255.specialBack hx (y := (⟨"com/example/kinds_by_value/kindsbyvalue/NameSet", "<init>", "(I)V"⟩ : MethodName)) rfl hown (mvT hZ (hw _ (List.mem_of_getElem? (i := 3) rfl))) (mvT hZ (hw _ (List.mem_of_getElem? (i := 4) rfl))) (mvT hZ (hw _ (List.mem_of_getElem? (i := 5) rfl))) (by decide) (backOf (W := 1) (rmIB l Z a0 hw [] b255 nd nd.toInt.toNat h255 n0 Zs255 A255 F_everyName_b255 F_bits_b255 F_table_b255 F_size_b255 F_hash_b255 n0_b255 (by omega) (by omega)) hZ (hw _ (List.mem_of_getElem? (i := 5) rfl)) (hw _ (List.mem_of_getElem? (i := 2) rfl)) (by decide) (by decide)) (g := (mkF m 57 #[.val (.int p1), .val (.int p2), .val (.int p3), .val (.int p4), .val (.int p5), .val (.int nc), .val (.ref so), .unset, .unset, .unset, .unset, .unset, .unset, .unset, .unset, .unset, .unset] [(.int nd), (.ref b255), (.ref b255)])) rfl (by rw [hml]; rfl) (Steps.refl _) (a := b255) (argsL := [(.int nd)]) (rest := [(.ref b255)]) (lenOf pd_7 rfl) rfl (by show 2 * 0 + _ ≤ _; exact Nat.le_of_eq rfl) (hb hby at_57) (fun _ _ => ⟨rfl, e255, (by show (k254 + 1) + 1 ≤ 24; omega), (by show (n254 + 5) + 8 ≤ 192; omega)⟩)
    dsimp only [Pt.U, Pt.locs, Pt.cells, Pt.slots] at X258 l258 y258 z258 st258 hQ258
    have y258_ : k258 = (k254 + 1) + 1 := y258
    have z258_ : n258 = (n254 + 5) + 8 := z258
    obtain ⟨rfl, N258q, K258k, fE258, fS258, fH258, ar258, har258, noar258, fB258, fT258, fA258⟩ := hQ258
    have n0ar258 : n0 ≤ ar258 := Nat.le_trans Zs255 har258
    have E_so_258 := (E_so_255).keep K258k
    have F_so_everyName_258 := (F_so_everyName_255).keep K258k (ninS ne_so_b255 nin0)
    have F_so_bits_258 := (F_so_bits_255).keep K258k (ninS ne_so_b255 nin0)
    have F_so_table_258 := (F_so_table_255).keep K258k (ninS ne_so_b255 nin0)
    have F_so_size_258 := (F_so_size_255).keep K258k (ninS ne_so_b255 nin0)
    have F_so_hash_258 := (F_so_hash_255).keep K258k (ninS ne_so_b255 nin0)
    have E_b255_258 := (A255).keep K258k
    have Zs258 := Nat.le_trans Zs255 K258k.1
    have N258 : Fr n0 L258 := by rw [l258]; exact Fr.app N254 N258q
    refine own_step (fun _ kc_ => st258.trans kc_) ?_
    show own_Ends p e below s _ _ _ (T258.setTop (mkF m 60 #[.val (.int p1), .val (.int p2), .val (.int p3), .val (.int p4), .val (.int p5), .val (.int nc), .val (.ref so), .unset, .unset, .unset, .unset, .unset, .unset, .unset, .unset, .unset, .unset] [(.ref b255)]))
    refine own_step (fun _ kc_ => XS.astore X258.here hx rfl (hb hby at_60) rfl rfl (l' := #[.val (.int p1), .val (.int p2), .val (.int p3), .val (.int p4), .val (.int p5), .val (.int nc), .val (.ref so), .val (.ref b255), .unset, .unset, .unset, .unset, .unset, .unset, .unset, .unset, .unset]) rfl (XS.aload X258.here hx rfl (hb hby at_62) rfl rfl kc_)) ?_
    show own_Ends p e below s _ _ _ (T258.setTop (mkF m 64 #[.val (.int p1), .val (.int p2), .val (.int p3), .val (.int p4), .val (.int p5), .val (.int nc), .val (.ref so), .val (.ref b255), .unset, .unset, .unset, .unset, .unset, .unset, .unset, .unset, .unset] [(.ref b255)]))
    obtain ⟨cq259, kq259, q259a, q259b, q259c⟩ := isOf hZ rfl E_b255_258
    obtain ⟨_, _, ⟨T259, L259, k259, n259⟩, -, X259, ⟨Lc259, hQ259, l259, y259, z259⟩, st259⟩ := X258.virtualBack hx (y := (⟨"com/example/kinds_by_value/kindsbyvalue/NameSet", "addEveryName", "()V"⟩ : MethodName)) (z := (⟨"com/example/kinds_by_value/kindsbyvalue/NameSet", "addEveryName", "()V"⟩ : MethodName)) hown (mvT hZ (hw _ (List.mem_of_getElem? (i := 12) rfl))) (mvT hZ (hw _ (List.mem_of_getElem? (i := 13) rfl))) (notFace_of_selects (args := #[]) (mvT hZ (hw _ (List.mem_of_getElem? (i := 15) rfl)))) (mvT hZ (hw _ (List.mem_of_getElem? (i := 15) rfl))) (mvT hZ (hw _ (List.mem_of_getElem? (i := 14) rfl))) (by decide) (backOf (W := 0) (rm3 l Z a0 hw [] b255 (.int (0 : Int32)) (.ref ar258) .null (.int (0 : Int32)) (.int (0 : Int32)) T258.heap n0 Zs258 E_b255_258 fE258 fB258 fT258 fS258 fH258 n0_b255) hZ (hw _ (List.mem_of_getElem? (i := 16) rfl)) (hw _ (List.mem_of_getElem? (i := 2) rfl)) (by decide) (by decide)) q259a q259c (g := (mkF m 64 #[.val (.int p1), .val (.int p2), .val (.int p3), .val (.int p4), .val (.int p5), .val (.int nc), .val (.ref so), .val (.ref b255), .unset, .unset, .unset, .unset, .unset, .unset, .unset, .unset, .unset] [(.ref b255)])) rfl (by rw [hml]; rfl) (Steps.refl _) (argsL := []) (rest := []) (lenOf pd_1 rfl) rfl (by show 2 * 0 + _ ≤ _; exact Nat.le_of_eq rfl) (hb hby at_64) (fun _ _ => ⟨rfl, rfl, (by show k258 + 0 ≤ 24; omega), (by show n258 + 0 ≤ 192; omega)⟩)
    dsimp only [Pt.U, Pt.locs, Pt.cells, Pt.slots] at X259 l259 y259 z259 st259 hQ259
    have y259_ : k259 = k258 + 0 := y259
    have z259_ : n259 = n258 + 0 := z259
    obtain ⟨rfl, N259q, K259k, fE259, fB259, fT259, fS259, fH259⟩ := hQ259
    have E_so_259 := (E_so_258).keep K259k
    have F_so_everyName_259 := (F_so_everyName_258).keep K259k (ninS ne_so_b255 nin0)
    have F_so_bits_259 := (F_so_bits_258).keep K259k (ninS ne_so_b255 nin0)
    have F_so_table_259 := (F_so_table_258).keep K259k (ninS ne_so_b255 nin0)
    have F_so_size_259 := (F_so_size_258).keep K259k (ninS ne_so_b255 nin0)
    have F_so_hash_259 := (F_so_hash_258).keep K259k (ninS ne_so_b255 nin0)
    have E_b255_259 := (E_b255_258).keep K259k
    have A_ar258_259 := (fA258).keep K259k (ninS (Ne.symm noar258) nin0)
    have Zs259 := Nat.le_trans Zs258 K259k.1
    have N259 : Fr n0 L259 := by rw [l259]; exact Fr.app N258 N259q
    refine own_step (fun _ kc_ => st259.trans kc_) ?_
    show own_Ends p e below s _ _ _ (T259.setTop (mkF m 67 #[.val (.int p1), .val (.int p2), .val (.int p3), .val (.int p4), .val (.int p5), .val (.int nc), .val (.ref so), .val (.ref b255), .unset, .unset, .unset, .unset, .unset, .unset, .unset, .unset, .unset] []))
    exact seg_67 hw hZ hx hby hlk hret hml hown p1 p2 p3 p4 p5 hS X259 rfl N259 Zs259 (by omega) (by omega) E_so_259 E_b255_259 F_so_everyName_259 F_so_bits_259 F_so_table_259 F_so_size_259 F_so_hash_259 fE259 fB259 fT259 fS259 fH259
theorem ef_rm0 (m : MethodId) (p1 : Int32) (p2 : Int32) (p3 : Int32) (p4 : Int32) (p5 : Int32) : entryFrame m #[(.int p1), (.int p2), (.int p3), (.int p4), (.int p5)] maxLocals = mkF m 0 #[.val (.int p1), .val (.int p2), .val (.int p3), .val (.int p4), .val (.int p5), .unset, .unset, .unset, .unset, .unset, .unset, .unset, .unset, .unset, .unset, .unset, .unset] [] := by first | (simp [entryFrame, mkF, argsToLocals, Value.category, maxLocals]; done) | rfl
set_option maxRecDepth 65536 in
set_option maxHeartbeats 40000000 in
theorem rm0 (l : Launch) (Z : State) (a0 : Array Value) (hw : ∀ d ∈ tables_1, d.before a0 Z = true) (ws : List Jvm.Cond) (p1 : Int32) (p2 : Int32) (p3 : Int32) (p4 : Int32) (p5 : Int32)  (h0 : Heap) (n0 : Nat) (Z0 : n0 ≤ h0.size)  :
    MetFree l x (head1 (Jvm.Cond.code x code maxLocals ret :: ws) room_1) (fun a U => a = #[(.int p1), (.int p2), (.int p3), (.int p4), (.int p5)] ∧ Z.Warmed39 U.vm ∧ U.heap = h0 ∧ own_Site U) (fun _ _ _ _ _ => True) (fun _ U o U' => ∃ v L, o = .returned v ∧ Q0 Z p1 p2 p3 p4 p5  h0 n0 v U'.heap L ∧ FrameEnd U o U' L room_1.cells room_1.slots) := by
  refine MetFree.of_bodySF (plainFor_of_name pn_4) hisR ?_
  intro p e s m args below meth c s₁ Bd hml0 hP hK
  obtain ⟨rfl, hZ, hh, hEx⟩ := hP
  have hx := Bd.exec
  have hby := Bd.bytes
  have hlk : meth.locks = false := BodyLoose.notSynchronized Bd
  have hret := Bd.returns
  have hml : c.maxLocals = 17 := hml0
  have hown : s.vm.findClass "com/example/kinds_by_value/kindsbyvalue/NameSetAddEveryNamePinLaw" = some m.cls := findClass_of_methodNamed Bd.named
  have hnm := (name_of_methodNamed Bd.named Bd.method).1
  have X0 : Stand p l e room_1 s m #[(.int p1), (.int p2), (.int p3), (.int p4), (.int p5)] below meth c s₁ [] 0 0 := Stand.of_body Bd
  have e0 : s₁.heap = h0 := by rw [← hh, Bd.state]; rfl
  have N0 := Fr.nil n0
  show own_Ends p e below s 24 192 (Q0 Z p1 p2 p3 p4 p5  h0 n0) (s₁.setTop (entryFrame m #[(.int p1), (.int p2), (.int p3), (.int p4), (.int p5)] maxLocals))
  refine own_step (fun t k => castTop (ef_rm0 m p1 p2 p3 p4 p5) k) ?_
  show own_Ends p e below s _ _ _ (s₁.setTop (mkF m 0 #[.val (.int p1), .val (.int p2), .val (.int p3), .val (.int p4), .val (.int p5), .unset, .unset, .unset, .unset, .unset, .unset, .unset, .unset, .unset, .unset, .unset, .unset] []))
  refine own_step (fun _ kc_ => XS.iloadN X0.here hx rfl (hb hby at_0) rfl (XS.sipush X0.here hx rfl (hb hby at_1) (XS.iand X0.here hx rfl (hb hby at_4) rfl (XS.istore X0.here hx rfl (hb hby at_5) rfl (l' := #[.val (.int p1), .val (.int p2), .val (.int p3), .val (.int p4), .val (.int p5), .val (.int (p1 &&& (1023 : Int32))), .unset, .unset, .unset, .unset, .unset, .unset, .unset, .unset, .unset, .unset, .unset]) rfl kc_)))) ?_
  show own_Ends p e below s _ _ _ (s₁.setTop (mkF m 7 #[.val (.int p1), .val (.int p2), .val (.int p3), .val (.int p4), .val (.int p5), .val (.int (p1 &&& (1023 : Int32))), .unset, .unset, .unset, .unset, .unset, .unset, .unset, .unset, .unset, .unset, .unset] []))
  generalize hnc : (p1 &&& (1023 : Int32)) = nc
  show own_Ends p e below s _ _ _ (s₁.setTop (mkF m 7 #[.val (.int p1), .val (.int p2), .val (.int p3), .val (.int p4), .val (.int p5), .val (.int nc), .unset, .unset, .unset, .unset, .unset, .unset, .unset, .unset, .unset, .unset, .unset] []))
  have hn0 := own_nc1023 p1 hnc
  obtain ⟨T260, h260, X260, e260, E260, A260, D260, -, st260⟩ := newO X0 hx hZ hown (hw _ (List.mem_of_getElem? (i := 0) rfl)) (hw _ (List.mem_of_getElem? (i := 1) rfl)) (hw _ (List.mem_of_getElem? (i := 2) rfl)) e0 (g := (mkF m 7 #[.val (.int p1), .val (.int p2), .val (.int p3), .val (.int p4), .val (.int p5), .val (.int nc), .unset, .unset, .unset, .unset, .unset, .unset, .unset, .unset, .unset, .unset, .unset] [])) rfl (hb hby at_7) (by decide : 0 + 1 ≤ _) (by decide : 0 + 5 ≤ _)
  obtain ⟨b260, g260⟩ : ∃ z, z = h0.size := ⟨_, rfl⟩
  rw [← g260] at A260 D260 st260
  have n0_b260 : n0 ≤ b260 := Nat.le_trans Z0 (Nat.le_of_eq g260.symm)
  have Zs260 := Nat.le_trans Z0 E260.1
  have F_bits_b260 : Fld Z h260 b260 "com/example/kinds_by_value/kindsbyvalue/NameSet" "bits" "[J" .null := D260 (Or.inl (hw _ (List.mem_of_getElem? (i := 11) rfl))) (ty := (.array .long)) (by decide)
  have F_everyName_b260 : Fld Z h260 b260 "com/example/kinds_by_value/kindsbyvalue/NameSet" "everyName" "Z" (.int (0 : Int32)) := D260 (Or.inl (hw _ (List.mem_of_getElem? (i := 18) rfl))) (ty := .boolean) (by decide)
  have F_table_b260 : Fld Z h260 b260 "com/example/kinds_by_value/kindsbyvalue/NameSet" "table" "[I" .null := D260 (Or.inl (hw _ (List.mem_of_getElem? (i := 20) rfl))) (ty := (.array .int)) (by decide)
  have F_size_b260 : Fld Z h260 b260 "com/example/kinds_by_value/kindsbyvalue/NameSet" "size" "I" (.int (0 : Int32)) := D260 (Or.inl (hw _ (List.mem_of_getElem? (i := 22) rfl))) (ty := .int) (by decide)
  have F_hash_b260 : Fld Z h260 b260 "com/example/kinds_by_value/kindsbyvalue/NameSet" "hash" "I" (.int (0 : Int32)) := D260 (Or.inl (hw _ (List.mem_of_getElem? (i := 24) rfl))) (ty := .int) (by decide)
  refine own_step (fun _ kc_ => st260 _ kc_) ?_
  show own_Ends p e below s _ _ _ (T260.setTop (mkF m 10 #[.val (.int p1), .val (.int p2), .val (.int p3), .val (.int p4), .val (.int p5), .val (.int nc), .unset, .unset, .unset, .unset, .unset, .unset, .unset, .unset, .unset, .unset, .unset] [(.ref b260)]))
  refine own_step (fun _ kc_ => XS.dup X260.here hx rfl (hb hby at_10) rfl rfl (XS.iload X260.here hx rfl (hb hby at_11) rfl kc_)) ?_
  show own_Ends p e below s _ _ _ (T260.setTop (mkF m 13 #[.val (.int p1), .val (.int p2), .val (.int p3), .val (.int p4), .val (.int p5), .val (.int nc), .unset, .unset, .unset, .unset, .unset, .unset, .unset, .unset, .unset, .unset, .unset] [(.int nc), (.ref b260), (.ref b260)]))
  by_cases hT : (512 : Int32) < nc
  · show own_Ends p e below s _ _ _ (T260.setTop (mkF m 13 #[.val (.int p1), .val (.int p2), .val (.int p3), .val (.int p4), .val (.int p5), .val (.int nc), .unset, .unset, .unset, .unset, .unset, .unset, .unset, .unset, .unset, .unset, .unset] [(.int nc), (.ref b260), (.ref b260)]))
    obtain ⟨_, _, ⟨T261, L261, k261, n261⟩, -, X261, ⟨Lc261, hQ261, l261, y261, z261⟩, st261⟩ := X260.specialBack hx (y := (⟨"com/example/kinds_by_value/kindsbyvalue/NameSet", "<init>", "(I)V"⟩ : MethodName)) rfl hown (mvT hZ (hw _ (List.mem_of_getElem? (i := 3) rfl))) (mvT hZ (hw _ (List.mem_of_getElem? (i := 4) rfl))) (mvT hZ (hw _ (List.mem_of_getElem? (i := 5) rfl))) (by decide) (backOf (W := 1) (rmIT l Z a0 hw [] b260 nc  h260 n0 Zs260 A260 F_everyName_b260 F_bits_b260 F_table_b260 F_size_b260 F_hash_b260 n0_b260 hT) hZ (hw _ (List.mem_of_getElem? (i := 5) rfl)) (hw _ (List.mem_of_getElem? (i := 2) rfl)) (by decide) (by decide)) (g := (mkF m 13 #[.val (.int p1), .val (.int p2), .val (.int p3), .val (.int p4), .val (.int p5), .val (.int nc), .unset, .unset, .unset, .unset, .unset, .unset, .unset, .unset, .unset, .unset, .unset] [(.int nc), (.ref b260), (.ref b260)])) rfl (by rw [hml]; rfl) (Steps.refl _) (a := b260) (argsL := [(.int nc)]) (rest := [(.ref b260)]) (lenOf pd_7 rfl) rfl (by show 2 * 0 + _ ≤ _; exact Nat.le_of_eq rfl) (hb hby at_13) (fun _ _ => ⟨rfl, e260, (by decide : 1 + 1 ≤ _), (by decide : 5 + 16 ≤ _)⟩)
    dsimp only [Pt.U, Pt.locs, Pt.cells, Pt.slots] at X261 l261 y261 z261 st261 hQ261
    subst y261 z261
    obtain ⟨rfl, N261q, K261k, fE261, fS261, fH261, ar261, har261, noar261, fB261, fT261, fA261⟩ := hQ261
    have n0ar261 : n0 ≤ ar261 := Nat.le_trans Zs260 har261
    have E_b260_261 := (A260).keep K261k
    have Zs261 := Nat.le_trans Zs260 K261k.1
    have N261 : Fr n0 L261 := by rw [l261]; exact Fr.app N0 N261q
    refine own_step (fun _ kc_ => st261.trans kc_) ?_
    show own_Ends p e below s _ _ _ (T261.setTop (mkF m 16 #[.val (.int p1), .val (.int p2), .val (.int p3), .val (.int p4), .val (.int p5), .val (.int nc), .unset, .unset, .unset, .unset, .unset, .unset, .unset, .unset, .unset, .unset, .unset] [(.ref b260)]))
    refine own_step (fun _ kc_ => XS.astore X261.here hx rfl (hb hby at_16) rfl rfl (l' := #[.val (.int p1), .val (.int p2), .val (.int p3), .val (.int p4), .val (.int p5), .val (.int nc), .val (.ref b260), .unset, .unset, .unset, .unset, .unset, .unset, .unset, .unset, .unset, .unset]) rfl (XS.iload X261.here hx rfl (hb hby at_18) rfl kc_)) ?_
    show own_Ends p e below s _ _ _ (T261.setTop (mkF m 20 #[.val (.int p1), .val (.int p2), .val (.int p3), .val (.int p4), .val (.int p5), .val (.int nc), .val (.ref b260), .unset, .unset, .unset, .unset, .unset, .unset, .unset, .unset, .unset, .unset] [(.int nc)]))
    by_cases hc20 : 0 < nc
    · refine own_step (fun _ kc_ => XS.ifNo X261.here hx rfl (hb hby at_20) rfl (XT.i0_le_f hc20) (XS.iload X261.here hx rfl (hb hby at_23) rfl (XS.iconst X261.here hx rfl (hb hby at_25) (XS.iand X261.here hx rfl (hb hby at_26) rfl kc_)))) ?_
      show own_Ends p e below s _ _ _ (T261.setTop (mkF m 27 #[.val (.int p1), .val (.int p2), .val (.int p3), .val (.int p4), .val (.int p5), .val (.int nc), .val (.ref b260), .unset, .unset, .unset, .unset, .unset, .unset, .unset, .unset, .unset, .unset] [(.int (p5 &&& (1 : Int32)))]))
      by_cases hc27 : (p5 &&& (1 : Int32)) = 0
      · refine own_step (fun _ kc_ => XS.ifYes X261.here hx rfl (pc0 := 27) (pc' := 43) rfl (hb hby at_27) rfl (XT.i0_eq_t hc27) (by decide) (by decide) kc_) ?_
        show own_Ends p e below s _ _ _ (T261.setTop (mkF m 43 #[.val (.int p1), .val (.int p2), .val (.int p3), .val (.int p4), .val (.int p5), .val (.int nc), .val (.ref b260), .unset, .unset, .unset, .unset, .unset, .unset, .unset, .unset, .unset, .unset] []))
        exact seg_43 hw hZ hx hby hlk hret hml hown p1 p2 p3 p4 p5 hEx (.int (0 : Int32)) .null (.ref ar261) (.int (0 : Int32)) (.int (0 : Int32)) X261 rfl N261 Zs261 (by decide) (by decide) E_b260_261 fE261 fB261 fT261 fS261 fH261 n0_b260
      · refine own_step (fun _ kc_ => XS.ifNo X261.here hx rfl (hb hby at_27) rfl (XT.i0_eq_f hc27) (XS.aload X261.here hx rfl (hb hby at_30) rfl rfl (XS.iloadN X261.here hx rfl (hb hby at_32) rfl (X261.ldcI hx hown (mvT hZ (hw _ (List.mem_of_getElem? (i := 25) rfl))) rfl (hb hby at_33) (XS.iand X261.here hx rfl (hb hby at_35) rfl (XS.iload X261.here hx rfl (hb hby at_36) rfl (Jvm.RoadKit.iremM X261 hx rfl (hb hby at_38) rfl (own_nzlt hc20) kc_))))))) ?_
        show own_Ends p e below s _ _ _ (T261.setTop (mkF m 39 #[.val (.int p1), .val (.int p2), .val (.int p3), .val (.int p4), .val (.int p5), .val (.int nc), .val (.ref b260), .unset, .unset, .unset, .unset, .unset, .unset, .unset, .unset, .unset, .unset] [(.int ((p2 &&& (2147483647 : Int32)) % nc)), (.ref b260)]))
        generalize hva : ((p2 &&& (2147483647 : Int32)) % nc) = va
        show own_Ends p e below s _ _ _ (T261.setTop (mkF m 39 #[.val (.int p1), .val (.int p2), .val (.int p3), .val (.int p4), .val (.int p5), .val (.int nc), .val (.ref b260), .unset, .unset, .unset, .unset, .unset, .unset, .unset, .unset, .unset, .unset] [(.int va), (.ref b260)]))
        have oa : own_ok nc va := own_okm (by have q := Int32.lt_iff_toInt_lt.mp hc20; rw [show (0 : Int32).toInt = 0 from rfl] at q; omega) hva
        have hin : va ∉ ([] : List Int32) := by simp
        obtain ⟨k1, hkk1, hfk1, hmk1⟩ := own_miss own_good0 (Nat.le_of_ble_eq_true rfl) hin (own_ne1 oa.1)
        have hrk1 : ¬ own_pr (List.replicate 16 (-1 : Int32)) va k1 = va := fun q => own_ne1 oa.1 (q.symm.trans hmk1)
        obtain ⟨cq262, kq262, q262a, q262b, q262c⟩ := isOf hZ rfl E_b260_261
        obtain ⟨_, _, ⟨T262, L262, k262, n262⟩, -, X262, ⟨Lc262, hQ262, l262, y262, z262⟩, st262⟩ := X261.virtualBack hx (y := (⟨"com/example/kinds_by_value/kindsbyvalue/NameSet", "add", "(I)Z"⟩ : MethodName)) (z := (⟨"com/example/kinds_by_value/kindsbyvalue/NameSet", "add", "(I)Z"⟩ : MethodName)) hown (mvT hZ (hw _ (List.mem_of_getElem? (i := 36) rfl))) (mvT hZ (hw _ (List.mem_of_getElem? (i := 37) rfl))) (notFace_of_selects (args := #[]) (mvT hZ (hw _ (List.mem_of_getElem? (i := 39) rfl)))) (mvT hZ (hw _ (List.mem_of_getElem? (i := 39) rfl))) (mvT hZ (hw _ (List.mem_of_getElem? (i := 38) rfl))) (by decide) (backOf (W := 0) (rmAT0 l Z a0 hw [] b260 va ar261 (List.replicate 16 (-1 : Int32)) k1 (0 : Int32) (0 : Int32) T261.heap n0 Zs261 E_b260_261 fE261 fB261 fT261 fA261 own_good0.1 hfk1 hrk1 (by decide) fS261 fH261 n0_b260 n0ar261 noar261) hZ (hw _ (List.mem_of_getElem? (i := 40) rfl)) (hw _ (List.mem_of_getElem? (i := 2) rfl)) (by decide) (by decide)) q262a q262c (g := (mkF m 39 #[.val (.int p1), .val (.int p2), .val (.int p3), .val (.int p4), .val (.int p5), .val (.int nc), .val (.ref b260), .unset, .unset, .unset, .unset, .unset, .unset, .unset, .unset, .unset, .unset] [(.int va), (.ref b260)])) rfl (by rw [hml]; rfl) (Steps.refl _) (argsL := [(.int va)]) (rest := []) (lenOf pd_4 rfl) rfl (by show 2 * 0 + _ ≤ _; exact Nat.le_of_eq rfl) (hb hby at_39) (fun _ _ => ⟨rfl, rfl, (by decide : 2 + 0 ≤ _), (by decide : 21 + 0 ≤ _)⟩)
        dsimp only [Pt.U, Pt.locs, Pt.cells, Pt.slots] at X262 l262 y262 z262 st262 hQ262
        subst y262 z262
        obtain ⟨rfl, N262q, K262k, fE262, fS262, fH262, fB262, fT262, fA262⟩ := hQ262
        have E_b260_262 := (E_b260_261).keep K262k
        have Zs262 := Nat.le_trans Zs261 K262k.1
        have N262 : Fr n0 L262 := by rw [l262]; exact Fr.app N261 N262q
        refine own_step (fun _ kc_ => st262.trans kc_) ?_
        show own_Ends p e below s _ _ _ (T262.setTop (mkF m 42 #[.val (.int p1), .val (.int p2), .val (.int p3), .val (.int p4), .val (.int p5), .val (.int nc), .val (.ref b260), .unset, .unset, .unset, .unset, .unset, .unset, .unset, .unset, .unset, .unset] [(.int (1 : Int32))]))
        refine own_step (fun _ kc_ => XS.pop X262.here hx rfl (hb hby at_42) rfl rfl kc_) ?_
        show own_Ends p e below s _ _ _ (T262.setTop (mkF m 43 #[.val (.int p1), .val (.int p2), .val (.int p3), .val (.int p4), .val (.int p5), .val (.int nc), .val (.ref b260), .unset, .unset, .unset, .unset, .unset, .unset, .unset, .unset, .unset, .unset] []))
        exact seg_43 hw hZ hx hby hlk hret hml hown p1 p2 p3 p4 p5 hEx (.int (0 : Int32)) .null (.ref ar261) (.int ((0 : Int32) + (1 : Int32))) (.int ((0 : Int32) + own_sp va)) X262 rfl N262 Zs262 (by decide) (by decide) E_b260_262 fE262 fB262 fT262 fS262 fH262 n0_b260
    · refine own_step (fun _ kc_ => XS.ifYes X261.here hx rfl (pc0 := 20) (pc' := 43) rfl (hb hby at_20) rfl (XT.i0_le_t hc20) (by decide) (by decide) kc_) ?_
      show own_Ends p e below s _ _ _ (T261.setTop (mkF m 43 #[.val (.int p1), .val (.int p2), .val (.int p3), .val (.int p4), .val (.int p5), .val (.int nc), .val (.ref b260), .unset, .unset, .unset, .unset, .unset, .unset, .unset, .unset, .unset, .unset] []))
      exact seg_43 hw hZ hx hby hlk hret hml hown p1 p2 p3 p4 p5 hEx (.int (0 : Int32)) .null (.ref ar261) (.int (0 : Int32)) (.int (0 : Int32)) X261 rfl N261 Zs261 (by decide) (by decide) E_b260_261 fE261 fB261 fT261 fS261 fH261 n0_b260
  · have hB : ¬ (512 : Int) < nc.toInt := fun q => hT (Int32.lt_iff_toInt_lt.mpr q)
    show own_Ends p e below s _ _ _ (T260.setTop (mkF m 13 #[.val (.int p1), .val (.int p2), .val (.int p3), .val (.int p4), .val (.int p5), .val (.int nc), .unset, .unset, .unset, .unset, .unset, .unset, .unset, .unset, .unset, .unset, .unset] [(.int nc), (.ref b260), (.ref b260)]))
    obtain ⟨_, _, ⟨T263, L263, k263, n263⟩, -, X263, ⟨Lc263, hQ263, l263, y263, z263⟩, st263⟩ := X260.specialBack hx (y := (⟨"com/example/kinds_by_value/kindsbyvalue/NameSet", "<init>", "(I)V"⟩ : MethodName)) rfl hown (mvT hZ (hw _ (List.mem_of_getElem? (i := 3) rfl))) (mvT hZ (hw _ (List.mem_of_getElem? (i := 4) rfl))) (mvT hZ (hw _ (List.mem_of_getElem? (i := 5) rfl))) (by decide) (backOf (W := 1) (rmIB l Z a0 hw [] b260 nc nc.toInt.toNat h260 n0 Zs260 A260 F_everyName_b260 F_bits_b260 F_table_b260 F_size_b260 F_hash_b260 n0_b260 (by omega) (by omega)) hZ (hw _ (List.mem_of_getElem? (i := 5) rfl)) (hw _ (List.mem_of_getElem? (i := 2) rfl)) (by decide) (by decide)) (g := (mkF m 13 #[.val (.int p1), .val (.int p2), .val (.int p3), .val (.int p4), .val (.int p5), .val (.int nc), .unset, .unset, .unset, .unset, .unset, .unset, .unset, .unset, .unset, .unset, .unset] [(.int nc), (.ref b260), (.ref b260)])) rfl (by rw [hml]; rfl) (Steps.refl _) (a := b260) (argsL := [(.int nc)]) (rest := [(.ref b260)]) (lenOf pd_7 rfl) rfl (by show 2 * 0 + _ ≤ _; exact Nat.le_of_eq rfl) (hb hby at_13) (fun _ _ => ⟨rfl, e260, (by decide : 1 + 1 ≤ _), (by decide : 5 + 8 ≤ _)⟩)
    dsimp only [Pt.U, Pt.locs, Pt.cells, Pt.slots] at X263 l263 y263 z263 st263 hQ263
    subst y263 z263
    obtain ⟨rfl, N263q, K263k, fE263, fS263, fH263, ar263, har263, noar263, fB263, fT263, fA263⟩ := hQ263
    have n0ar263 : n0 ≤ ar263 := Nat.le_trans Zs260 har263
    have E_b260_263 := (A260).keep K263k
    have Zs263 := Nat.le_trans Zs260 K263k.1
    have N263 : Fr n0 L263 := by rw [l263]; exact Fr.app N0 N263q
    refine own_step (fun _ kc_ => st263.trans kc_) ?_
    show own_Ends p e below s _ _ _ (T263.setTop (mkF m 16 #[.val (.int p1), .val (.int p2), .val (.int p3), .val (.int p4), .val (.int p5), .val (.int nc), .unset, .unset, .unset, .unset, .unset, .unset, .unset, .unset, .unset, .unset, .unset] [(.ref b260)]))
    refine own_step (fun _ kc_ => XS.astore X263.here hx rfl (hb hby at_16) rfl rfl (l' := #[.val (.int p1), .val (.int p2), .val (.int p3), .val (.int p4), .val (.int p5), .val (.int nc), .val (.ref b260), .unset, .unset, .unset, .unset, .unset, .unset, .unset, .unset, .unset, .unset]) rfl (XS.iload X263.here hx rfl (hb hby at_18) rfl kc_)) ?_
    show own_Ends p e below s _ _ _ (T263.setTop (mkF m 20 #[.val (.int p1), .val (.int p2), .val (.int p3), .val (.int p4), .val (.int p5), .val (.int nc), .val (.ref b260), .unset, .unset, .unset, .unset, .unset, .unset, .unset, .unset, .unset, .unset] [(.int nc)]))
    by_cases hc20 : 0 < nc
    · refine own_step (fun _ kc_ => XS.ifNo X263.here hx rfl (hb hby at_20) rfl (XT.i0_le_f hc20) (XS.iload X263.here hx rfl (hb hby at_23) rfl (XS.iconst X263.here hx rfl (hb hby at_25) (XS.iand X263.here hx rfl (hb hby at_26) rfl kc_)))) ?_
      show own_Ends p e below s _ _ _ (T263.setTop (mkF m 27 #[.val (.int p1), .val (.int p2), .val (.int p3), .val (.int p4), .val (.int p5), .val (.int nc), .val (.ref b260), .unset, .unset, .unset, .unset, .unset, .unset, .unset, .unset, .unset, .unset] [(.int (p5 &&& (1 : Int32)))]))
      by_cases hc27 : (p5 &&& (1 : Int32)) = 0
      · refine own_step (fun _ kc_ => XS.ifYes X263.here hx rfl (pc0 := 27) (pc' := 43) rfl (hb hby at_27) rfl (XT.i0_eq_t hc27) (by decide) (by decide) kc_) ?_
        show own_Ends p e below s _ _ _ (T263.setTop (mkF m 43 #[.val (.int p1), .val (.int p2), .val (.int p3), .val (.int p4), .val (.int p5), .val (.int nc), .val (.ref b260), .unset, .unset, .unset, .unset, .unset, .unset, .unset, .unset, .unset, .unset] []))
        exact seg_43 hw hZ hx hby hlk hret hml hown p1 p2 p3 p4 p5 hEx (.int (0 : Int32)) (.ref ar263) .null (.int (0 : Int32)) (.int (0 : Int32)) X263 rfl N263 Zs263 (by decide) (by decide) E_b260_263 fE263 fB263 fT263 fS263 fH263 n0_b260
      · refine own_step (fun _ kc_ => XS.ifNo X263.here hx rfl (hb hby at_27) rfl (XT.i0_eq_f hc27) (XS.aload X263.here hx rfl (hb hby at_30) rfl rfl (XS.iloadN X263.here hx rfl (hb hby at_32) rfl (X263.ldcI hx hown (mvT hZ (hw _ (List.mem_of_getElem? (i := 25) rfl))) rfl (hb hby at_33) (XS.iand X263.here hx rfl (hb hby at_35) rfl (XS.iload X263.here hx rfl (hb hby at_36) rfl (Jvm.RoadKit.iremM X263 hx rfl (hb hby at_38) rfl (own_nzlt hc20) kc_))))))) ?_
        show own_Ends p e below s _ _ _ (T263.setTop (mkF m 39 #[.val (.int p1), .val (.int p2), .val (.int p3), .val (.int p4), .val (.int p5), .val (.int nc), .val (.ref b260), .unset, .unset, .unset, .unset, .unset, .unset, .unset, .unset, .unset, .unset] [(.int ((p2 &&& (2147483647 : Int32)) % nc)), (.ref b260)]))
        generalize hva : ((p2 &&& (2147483647 : Int32)) % nc) = va
        show own_Ends p e below s _ _ _ (T263.setTop (mkF m 39 #[.val (.int p1), .val (.int p2), .val (.int p3), .val (.int p4), .val (.int p5), .val (.int nc), .val (.ref b260), .unset, .unset, .unset, .unset, .unset, .unset, .unset, .unset, .unset, .unset] [(.int va), (.ref b260)]))
        have oa : own_ok nc va := own_okm (by have q := Int32.lt_iff_toInt_lt.mp hc20; rw [show (0 : Int32).toInt = 0 from rfl] at q; omega) hva
        have hin : va ∉ ([] : List Int32) := by simp
        have hrk1 := own_bout (own_bgood0 nc.toInt.toNat) oa hin
        obtain ⟨cq264, kq264, q264a, q264b, q264c⟩ := isOf hZ rfl E_b260_263
        obtain ⟨_, _, ⟨T264, L264, k264, n264⟩, -, X264, ⟨Lc264, hQ264, l264, y264, z264⟩, st264⟩ := X263.virtualBack hx (y := (⟨"com/example/kinds_by_value/kindsbyvalue/NameSet", "add", "(I)Z"⟩ : MethodName)) (z := (⟨"com/example/kinds_by_value/kindsbyvalue/NameSet", "add", "(I)Z"⟩ : MethodName)) hown (mvT hZ (hw _ (List.mem_of_getElem? (i := 36) rfl))) (mvT hZ (hw _ (List.mem_of_getElem? (i := 37) rfl))) (notFace_of_selects (args := #[]) (mvT hZ (hw _ (List.mem_of_getElem? (i := 39) rfl)))) (mvT hZ (hw _ (List.mem_of_getElem? (i := 39) rfl))) (mvT hZ (hw _ (List.mem_of_getElem? (i := 38) rfl))) (by decide) (backOf (W := 0) (rmAB0 l Z a0 hw [] b260 va ar263 (List.replicate ((nc.toInt.toNat + 63) / 64) (0 : Int64)) (0 : Int32) (0 : Int32) T263.heap n0 Zs263 E_b260_263 fE263 fB263 fA263 oa.1 (own_ql (own_bgood0 nc.toInt.toNat) oa) hrk1 fT263 fS263 fH263 n0_b260 n0ar263 noar263) hZ (hw _ (List.mem_of_getElem? (i := 40) rfl)) (hw _ (List.mem_of_getElem? (i := 2) rfl)) (by decide) (by decide)) q264a q264c (g := (mkF m 39 #[.val (.int p1), .val (.int p2), .val (.int p3), .val (.int p4), .val (.int p5), .val (.int nc), .val (.ref b260), .unset, .unset, .unset, .unset, .unset, .unset, .unset, .unset, .unset, .unset] [(.int va), (.ref b260)])) rfl (by rw [hml]; rfl) (Steps.refl _) (argsL := [(.int va)]) (rest := []) (lenOf pd_4 rfl) rfl (by show 2 * 0 + _ ≤ _; exact Nat.le_of_eq rfl) (hb hby at_39) (fun _ _ => ⟨rfl, rfl, (by decide : 2 + 0 ≤ _), (by decide : 13 + 0 ≤ _)⟩)
        dsimp only [Pt.U, Pt.locs, Pt.cells, Pt.slots] at X264 l264 y264 z264 st264 hQ264
        subst y264 z264
        obtain ⟨rfl, N264q, K264k, fE264, fS264, fH264, fB264, fT264, fA264⟩ := hQ264
        have E_b260_264 := (E_b260_263).keep K264k
        have Zs264 := Nat.le_trans Zs263 K264k.1
        have N264 : Fr n0 L264 := by rw [l264]; exact Fr.app N263 N264q
        refine own_step (fun _ kc_ => st264.trans kc_) ?_
        show own_Ends p e below s _ _ _ (T264.setTop (mkF m 42 #[.val (.int p1), .val (.int p2), .val (.int p3), .val (.int p4), .val (.int p5), .val (.int nc), .val (.ref b260), .unset, .unset, .unset, .unset, .unset, .unset, .unset, .unset, .unset, .unset] [(.int (1 : Int32))]))
        refine own_step (fun _ kc_ => XS.pop X264.here hx rfl (hb hby at_42) rfl rfl kc_) ?_
        show own_Ends p e below s _ _ _ (T264.setTop (mkF m 43 #[.val (.int p1), .val (.int p2), .val (.int p3), .val (.int p4), .val (.int p5), .val (.int nc), .val (.ref b260), .unset, .unset, .unset, .unset, .unset, .unset, .unset, .unset, .unset, .unset] []))
        exact seg_43 hw hZ hx hby hlk hret hml hown p1 p2 p3 p4 p5 hEx (.int (0 : Int32)) (.ref ar263) .null (.int ((0 : Int32) + (1 : Int32))) (.int ((0 : Int32) + own_sp va)) X264 rfl N264 Zs264 (by decide) (by decide) E_b260_264 fE264 fB264 fT264 fS264 fH264 n0_b260
    · refine own_step (fun _ kc_ => XS.ifYes X263.here hx rfl (pc0 := 20) (pc' := 43) rfl (hb hby at_20) rfl (XT.i0_le_t hc20) (by decide) (by decide) kc_) ?_
      show own_Ends p e below s _ _ _ (T263.setTop (mkF m 43 #[.val (.int p1), .val (.int p2), .val (.int p3), .val (.int p4), .val (.int p5), .val (.int nc), .val (.ref b260), .unset, .unset, .unset, .unset, .unset, .unset, .unset, .unset, .unset, .unset] []))
      exact seg_43 hw hZ hx hby hlk hret hml hown p1 p2 p3 p4 p5 hEx (.int (0 : Int32)) (.ref ar263) .null (.int (0 : Int32)) (.int (0 : Int32)) X263 rfl N263 Zs263 (by decide) (by decide) E_b260_263 fE263 fB263 fT263 fS263 fH263 n0_b260
set_option maxRecDepth 65536 in
set_option maxHeartbeats 40000000 in
theorem comes_1 {Post : Tables → Env → Array Value → State → Outcome → State → Prop} (hpost : ∀ tb e args s v u, (limb_1_1.after args s (.returned v) u = true ∧ limb_1_2.after args s (.returned v) u = true ∧ True) → FrameEnd s (.returned v) u (Jvm.fieldLocs frame_1_writes args s ++ Jvm.arrayLocs frame_1_arrays args s ++ Jvm.staticLocs frame_1_statics s) 24 192 → Post tb e args s (.returned v) u) :
    ArmFor flags0 classFile x code maxLocals ret World_1 tables_1 room_1 Calls_1 rest_1 Pre_1 Post := by
  intro l hfl _ _ p e ha hc hk s m args below hf hA hF happ hP
  obtain ⟨hcalls, hrest, hpre⟩ := hP
  obtain ⟨-, -, -, hnamed, -, -, -, hat⟩ := (Spec.applies_iff hf).mp happ
  obtain ⟨hg, hn⟩ := and_e (Cond.before_iff.mp (show (Jvm.Cond.and given_1 narrow_1).before args s = true from hpre))
  obtain ⟨g_c, g_0⟩ := and_e hg
  obtain ⟨w0, w1, w2, w3, w4, rfl⟩ : ∃ w0 w1 w2 w3 w4 : Value, args = #[w0, w1, w2, w3, w4] := by
    have hs : args.size = 5 := by simpa [Cond.value, given_1] using g_c
    obtain ⟨L⟩ := args
    match L, hs with
    | [w0, w1, w2, w3, w4], _ => exact ⟨w0, w1, w2, w3, w4, rfl⟩
  have hw := fun d (hd : d ∈ tables_1) => atoms_spec (ws := Jvm.Cond.code x code maxLocals ret :: tables_1) hat d (List.mem_cons_of_mem _ hd)
  obtain ⟨g_v0, g_1⟩ := and_e g_0
  obtain ⟨i0, ei0⟩ := is_v g_v0
  obtain rfl : w0 = (.int i0) := Option.some.inj ei0
  obtain ⟨g_v1, g_2⟩ := and_e g_1
  obtain ⟨i1, ei1⟩ := is_v g_v1
  obtain rfl : w1 = (.int i1) := Option.some.inj ei1
  obtain ⟨g_v2, g_3⟩ := and_e g_2
  obtain ⟨i2, ei2⟩ := is_v g_v2
  obtain rfl : w2 = (.int i2) := Option.some.inj ei2
  obtain ⟨g_v3, g_4⟩ := and_e g_3
  obtain ⟨i3, ei3⟩ := is_v g_v3
  obtain rfl : w3 = (.int i3) := Option.some.inj ei3
  obtain ⟨i4, ei4⟩ := is_v g_4
  obtain rfl : w4 = (.int i4) := Option.some.inj ei4
  have hS : own_Site s := Cond.lambdaSite_spec (hw _ (List.mem_of_getElem? (i := 60) rfl))
  obtain ⟨n, o, h1, h2, h3, _, L, rfl, ⟨rfl, N⟩, hq⟩ := rm0 l s _ hw tables_1 i0 i1 i2 i3 i4  s.heap s.heap.size (Nat.le_refl _) p e ha hc hk s m _ below hf ((Spec.applies_iff_loose hf).mp happ).1 ⟨rfl, State.Warmed39.refl s, rfl, hS⟩ trivial
  refine ⟨n, _, h1, h2, h3, hpost _ _ _ _ _ _ ⟨Cond.after_iff.mpr rfl, Cond.after_iff.mpr (eq_i res_at (Term.int_eval (1)) rfl), trivial⟩ ⟨hq.1, hq.2.1, (hq.2.2.sift fun y hy => Or.inr (N y hy)).mono (by decide) (by decide)⟩⟩
theorem main_1_1 : Claimed_1_1 := comes_1 fun _ _ _ _ _ _ h hF => ⟨h.1, wide hF⟩
theorem main_1_2 : Claimed_1_2 := comes_1 fun _ _ _ _ _ _ h hF => ⟨h.2.1, wide hF⟩
end Jvm.Pilot.@@N@@
namespace Jvm.Pilot.@@N@@
open Jvm Jvm.ClassFile Sem Op Lib Jvm.Free Jvm.Stand Jvm.Pilot.@@N@@.Jvm.D
/-! MADE BY PROGRAM (witnessworld.py) out of the Statement's table words and the real class files: 16 classes; the members and pool entries that the words name. The judged class is class 1, her method 1. -/
namespace start1
open Jvm.ClassFile
def u (s : String) : CpInfo := .utf8 (stringToUtf16 s)
/-- a pool by its gaps: so many unusable entries, then the entry; so many at the end -/
def gap : Nat → List CpInfo → List CpInfo
  | 0, r => r
  | n + 1, r => .unusable :: gap n r
def poolList (es : List (Nat × CpInfo)) (last : Nat) : List CpInfo := es.foldr (fun e r => gap e.1 (e.2 :: r)) (gap last [])
def pool (es : List (Nat × CpInfo)) (last : Nat) : Array CpInfo := ⟨poolList es last⟩
def fileOf (pool : Array CpInfo) (this : Nat) (attrs : Array Attribute := #[]) (ms : Array MethodInfo := #[]) (fl : Nat := 33) (sup : Nat := 0) (ifs : Array Nat := #[]) (fds : Array FieldInfo := #[]) : ClassFile where
  minorVersion := 0
  majorVersion := 65
  constantPool := pool
  accessFlags := fl
  thisClass := this
  superClass := sup
  interfaces := ifs
  fields := fds
  methods := ms
  attributes := attrs
def plain (name : String) (sup : Option ClassId) : Class where
  name := name
  kind := .ordinary
  loader := none
  accessFlags := 33
  super := sup
  interfaces := #[]
  cf := none
  fields := #[]
  methods := #[]
  instanceTypes := #[]
  staticTypes := #[]
  resolved := #[]
  callSites := []
  init := .initialized
  statics := none
  mirror := none

def pool0 : Array CpInfo := pool [(5, u "<init>"), (0, u "()V"), (1, .class_ 10), (1, u "java/lang/Object")] 113

def k0c0 : Code := { maxStack := 0, maxLocals := 1, code := object_method_1_code, exceptionTable := #[], attributes := #[] }
def k0m0 : Method := { name := "<init>", desc := "()V", sig := { parameters := [], returnType := none }, accessFlags := 1, code := some k0c0 }
/-- java/lang/Object -/
def k0 : Class := { plain "java/lang/Object" none with
  accessFlags := 33
  interfaces := #[]
  cf := some (fileOf pool0 8 #[] #[{ accessFlags := 1, nameIndex := 5, descriptorIndex := 6, attributes := #[] }] 33 0 #[] #[])
  fields := #[]
  methods := #[k0m0]
  instanceTypes := #[]
  staticTypes := #[]
  resolved := Array.replicate 124 none
  statics := none }

def pool1 : Array CpInfo := pool [(2, .class_ 4), (1, u "java/lang/Object"), (0, u "<init>"), (0, u "()V"), (0, .class_ 8), (0, u "com/example/kinds_by_value/kindsbyvalue/NameSet"), (0, .methodref 7 10), (0, .nameAndType 5 11), (0, u "(I)V"), (0, .integer 2147483647), (0, .methodref 7 14), (0, .nameAndType 15 16), (0, u "add"), (0, u "(I)Z"), (0, .methodref 7 18), (0, .nameAndType 19 6), (0, u "addEveryName"), (0, .methodref 7 21), (0, .nameAndType 22 23), (0, u "holdsEveryName"), (0, u "()Z"), (0, .methodref 7 25), (0, .nameAndType 26 16), (0, u "contains"), (0, .methodref 7 28), (0, .nameAndType 29 30), (0, u "hashCode"), (0, u "()I"), (0, .methodref 7 32), (0, .nameAndType 33 34), (0, u "equals"), (0, u "(Ljava/lang/Object;)Z"), (0, .methodref 7 36), (0, .nameAndType 37 38), (0, u "below"), (0, u "(I)[I"), (0, .methodref 40 41), (0, .class_ 42), (0, .nameAndType 43 44), (0, u "com/example/kinds_by_value/kindsbyvalue/NameSetAddEveryNamePinLaw"), (0, u "at"), (0, u "([II)Z"), (2, u "law"), (0, u "(IIIII)Z")] 5

def k1m0 : Method := { name := "<init>", desc := "()V", sig := { parameters := [], returnType := none }, accessFlags := 1, code := none }
def k1c1 : Code := { maxStack := 4, maxLocals := 17, code := code, exceptionTable := #[], attributes := #[] }
def k1m1 : Method := { name := "law", desc := "(IIIII)Z", sig := { parameters := [.int, .int, .int, .int, .int], returnType := some .boolean }, accessFlags := 9, code := some k1c1 }
def k1c2 : Code := { maxStack := 2, maxLocals := 2, code := method_3_code, exceptionTable := #[], attributes := #[] }
def k1m2 : Method := { name := "at", desc := "([II)Z", sig := { parameters := [(.array .int), .int], returnType := some .boolean }, accessFlags := 10, code := some k1c2 }
/-- com/example/kinds_by_value/kindsbyvalue/NameSetAddEveryNamePinLaw -/
def k1 : Class := { plain "com/example/kinds_by_value/kindsbyvalue/NameSetAddEveryNamePinLaw" (some 0) with
  accessFlags := 49
  interfaces := #[]
  cf := some (fileOf pool1 40 #[] #[{ accessFlags := 1, nameIndex := 5, descriptorIndex := 6, attributes := #[] }, { accessFlags := 9, nameIndex := 47, descriptorIndex := 48, attributes := #[] }, { accessFlags := 10, nameIndex := 43, descriptorIndex := 44, attributes := #[] }] 49 2 #[] #[])
  fields := #[]
  methods := #[k1m0, k1m1, k1m2]
  instanceTypes := #[]
  staticTypes := #[]
  resolved := Array.replicate 54 none
  statics := none }

def pool2 : Array CpInfo := pool [(1, .class_ 2), (0, u "com/example/kinds_by_value/kindsbyvalue/NameSet"), (2, .methodref 6 7), (0, .class_ 8), (0, .nameAndType 9 10), (0, u "java/lang/Object"), (0, u "<init>"), (0, u "()V"), (2, .fieldref 1 14), (0, .nameAndType 15 16), (0, u "bits"), (0, u "[J"), (0, .methodref 1 18), (0, .nameAndType 19 20), (0, u "newTable"), (0, u "(I)[I"), (0, .fieldref 1 22), (0, .nameAndType 23 24), (0, u "table"), (0, u "[I"), (0, .fieldref 1 26), (0, .nameAndType 27 28), (0, u "everyName"), (0, u "Z"), (0, .methodref 1 30), (0, .nameAndType 31 32), (0, u "placeOf"), (0, u "(I)I"), (0, .methodref 1 34), (0, .nameAndType 35 36), (0, u "contains"), (0, u "(I)Z"), (0, .fieldref 1 38), (0, .nameAndType 39 40), (0, u "size"), (0, u "I"), (4, .fieldref 1 46), (0, .nameAndType 47 40), (0, u "hash"), (0, .methodref 49 50), (0, .class_ 51), (0, .nameAndType 52 32), (0, u "com/example/kinds_by_value/kindsbyvalue/Hashes"), (0, u "spread"), (0, .invokeDynamic 0 54), (0, .nameAndType 55 56), (0, u "applyAsInt"), (0, u "()Ljava/util/function/IntUnaryOperator;"), (0, .methodref 58 59), (0, .class_ 60), (0, .nameAndType 61 62), (0, u "java/util/Arrays"), (0, u "setAll"), (0, u "([ILjava/util/function/IntUnaryOperator;)V"), (10, u "equals"), (5, .methodref 80 81), (0, .class_ 82), (0, .nameAndType 83 84), (0, u "java/util/Objects"), (0, u "requireNonNull"), (0, u "(Ljava/lang/Object;)Ljava/lang/Object;"), (14, .methodref 58 100), (0, .nameAndType 101 102), (0, u "fill"), (0, u "([II)V"), (0, u "FREE"), (2, u "FIRST_TABLE_LENGTH"), (1, u "MOST_NAMES_AS_BITS"), (1, u "(I)V"), (3, u "add"), (1, u "addEveryName"), (0, u "holdsEveryName"), (0, u "()Z"), (0, u "below"), (0, u "(Ljava/lang/Object;)Z"), (0, u "hashCode"), (0, u "()I"), (0, u "lambda$below$0"), (3, .methodType 32), (0, .methodHandle 6 129), (0, .methodref 1 130), (0, .nameAndType 123 32), (2, .methodHandle 6 134), (0, .methodref 135 136), (0, .class_ 137), (0, .nameAndType 138 139), (0, u "java/lang/invoke/LambdaMetafactory"), (0, u "metafactory"), (0, u "(Ljava/lang/invoke/MethodHandles$Lookup;Ljava/lang/String;Ljava/lang/invoke/MethodType;Ljava/lang/invoke/MethodType;Ljava/lang/invoke/MethodHandle;Ljava/lang/invoke/MethodType;)Ljava/lang/invoke/CallSite;")] 6

def k2c0 : Code := { maxStack := 3, maxLocals := 2, code := prog_9_method_1_code, exceptionTable := #[], attributes := #[] }
def k2m0 : Method := { name := "<init>", desc := "(I)V", sig := { parameters := [.int], returnType := none }, accessFlags := 0, code := some k2c0 }
def k2c1 : Code := { maxStack := 5, maxLocals := 3, code := prog_9_method_2_code, exceptionTable := #[], attributes := #[] }
def k2m1 : Method := { name := "contains", desc := "(I)Z", sig := { parameters := [.int], returnType := some .boolean }, accessFlags := 0, code := some k2c1 }
def k2c2 : Code := { maxStack := 7, maxLocals := 7, code := prog_9_method_3_code, exceptionTable := #[], attributes := #[] }
def k2m2 : Method := { name := "add", desc := "(I)Z", sig := { parameters := [.int], returnType := some .boolean }, accessFlags := 0, code := some k2c2 }
def k2c3 : Code := { maxStack := 2, maxLocals := 1, code := prog_9_method_4_code, exceptionTable := #[], attributes := #[] }
def k2m3 : Method := { name := "addEveryName", desc := "()V", sig := { parameters := [], returnType := none }, accessFlags := 0, code := some k2c3 }
def k2c4 : Code := { maxStack := 1, maxLocals := 1, code := prog_9_method_5_code, exceptionTable := #[], attributes := #[] }
def k2m4 : Method := { name := "holdsEveryName", desc := "()Z", sig := { parameters := [], returnType := some .boolean }, accessFlags := 0, code := some k2c4 }
def k2c5 : Code := { maxStack := 3, maxLocals := 9, code := prog_9_method_6_code, exceptionTable := #[], attributes := #[] }
def k2m5 : Method := { name := "below", desc := "(I)[I", sig := { parameters := [.int], returnType := some (.array .int) }, accessFlags := 0, code := some k2c5 }
def k2c6 : Code := { maxStack := 3, maxLocals := 4, code := prog_9_method_7_code, exceptionTable := #[], attributes := #[] }
def k2m6 : Method := { name := "equals", desc := "(Ljava/lang/Object;)Z", sig := { parameters := [(.object "java/lang/Object")], returnType := some .boolean }, accessFlags := 1, code := some k2c6 }
def k2c7 : Code := { maxStack := 1, maxLocals := 1, code := prog_9_method_8_code, exceptionTable := #[], attributes := #[] }
def k2m7 : Method := { name := "hashCode", desc := "()I", sig := { parameters := [], returnType := some .int }, accessFlags := 1, code := some k2c7 }
def k2c8 : Code := { maxStack := 2, maxLocals := 4, code := prog_9_method_10_code, exceptionTable := #[], attributes := #[] }
def k2m8 : Method := { name := "placeOf", desc := "(I)I", sig := { parameters := [.int], returnType := some .int }, accessFlags := 2, code := some k2c8 }
def k2c9 : Code := { maxStack := 2, maxLocals := 2, code := prog_9_method_11_code, exceptionTable := #[], attributes := #[] }
def k2m9 : Method := { name := "newTable", desc := "(I)[I", sig := { parameters := [.int], returnType := some (.array .int) }, accessFlags := 10, code := some k2c9 }
def k2c10 : Code := { maxStack := 1, maxLocals := 1, code := prog_9_method_12_code, exceptionTable := #[], attributes := #[] }
def k2m10 : Method := { name := "lambda$below$0", desc := "(I)I", sig := { parameters := [.int], returnType := some .int }, accessFlags := 4106, code := some k2c10 }
/-- com/example/kinds_by_value/kindsbyvalue/NameSet -/
def k2 : Class := { plain "com/example/kinds_by_value/kindsbyvalue/NameSet" (some 0) with
  accessFlags := 32
  interfaces := #[]
  cf := some (fileOf pool2 1 #[.bootstrapMethods #[⟨133, #[127, 128, 127]⟩, ⟨0, #[]⟩]] #[{ accessFlags := 0, nameIndex := 9, descriptorIndex := 110, attributes := #[] }, { accessFlags := 0, nameIndex := 35, descriptorIndex := 36, attributes := #[] }, { accessFlags := 0, nameIndex := 114, descriptorIndex := 36, attributes := #[] }, { accessFlags := 0, nameIndex := 116, descriptorIndex := 10, attributes := #[] }, { accessFlags := 0, nameIndex := 117, descriptorIndex := 118, attributes := #[] }, { accessFlags := 0, nameIndex := 119, descriptorIndex := 20, attributes := #[] }, { accessFlags := 1, nameIndex := 73, descriptorIndex := 120, attributes := #[] }, { accessFlags := 1, nameIndex := 121, descriptorIndex := 122, attributes := #[] }, { accessFlags := 2, nameIndex := 31, descriptorIndex := 32, attributes := #[] }, { accessFlags := 10, nameIndex := 19, descriptorIndex := 20, attributes := #[] }, { accessFlags := 4106, nameIndex := 123, descriptorIndex := 32, attributes := #[] }] 32 6 #[] #[{ accessFlags := 26, nameIndex := 103, descriptorIndex := 40, attributes := #[] }, { accessFlags := 26, nameIndex := 106, descriptorIndex := 40, attributes := #[] }, { accessFlags := 26, nameIndex := 108, descriptorIndex := 40, attributes := #[] }, { accessFlags := 2, nameIndex := 15, descriptorIndex := 16, attributes := #[] }, { accessFlags := 2, nameIndex := 23, descriptorIndex := 24, attributes := #[] }, { accessFlags := 2, nameIndex := 39, descriptorIndex := 40, attributes := #[] }, { accessFlags := 2, nameIndex := 47, descriptorIndex := 40, attributes := #[] }, { accessFlags := 2, nameIndex := 27, descriptorIndex := 28, attributes := #[] }])
  fields := #[{ name := "FREE", type := .int, accessFlags := 26, slot := 0, constantValue := 0 }, { name := "FIRST_TABLE_LENGTH", type := .int, accessFlags := 26, slot := 1, constantValue := 0 }, { name := "MOST_NAMES_AS_BITS", type := .int, accessFlags := 26, slot := 2, constantValue := 0 }, { name := "bits", type := (.array .long), accessFlags := 2, slot := 0, constantValue := 0 }, { name := "table", type := (.array .int), accessFlags := 2, slot := 1, constantValue := 0 }, { name := "size", type := .int, accessFlags := 2, slot := 2, constantValue := 0 }, { name := "hash", type := .int, accessFlags := 2, slot := 3, constantValue := 0 }, { name := "everyName", type := .boolean, accessFlags := 2, slot := 4, constantValue := 0 }]
  methods := #[k2m0, k2m1, k2m2, k2m3, k2m4, k2m5, k2m6, k2m7, k2m8, k2m9, k2m10]
  instanceTypes := #[(.array .long), (.array .int), .int, .int, .boolean]
  staticTypes := #[.int, .int, .int]
  resolved := Array.replicate 146 none
  callSites := [(5, 12, .constant 0)]
  statics := none }

def pool3 : Array CpInfo := pool [(9, u "applyAsInt"), (6, .class_ 18), (1, u "java/util/function/IntUnaryOperator"), (0, u "(I)I"), (0, .class_ 21), (0, u "java/lang/Object")] 46

def k3m0 : Method := { name := "applyAsInt", desc := "(I)I", sig := { parameters := [.int], returnType := some .int }, accessFlags := 1025, code := none }
/-- java/util/function/IntUnaryOperator -/
def k3 : Class := { plain "java/util/function/IntUnaryOperator" (some 0) with
  accessFlags := 1537
  interfaces := #[]
  cf := some (fileOf pool3 16 #[] #[{ accessFlags := 1025, nameIndex := 9, descriptorIndex := 19, attributes := #[] }] 1537 20 #[] #[])
  fields := #[]
  methods := #[k3m0]
  instanceTypes := #[]
  staticTypes := #[]
  resolved := Array.replicate 68 none
  statics := none }

def pool4 : Array CpInfo := pool [(2, .class_ 4), (1, u "java/lang/Object"), (0, u "<init>"), (0, u "()V"), (7, .class_ 16), (1, u "java/util/Arrays"), (57, .class_ 76), (1, u "java/util/Arrays$NaturalOrder"), (36, .class_ 115), (1, u "java/util/Arrays$LegacyMergeSort"), (1, u "Z"), (57, .methodref 176 177), (0, .class_ 178), (0, .nameAndType 179 180), (0, u "java/util/Objects"), (0, u "requireNonNull"), (0, u "(Ljava/lang/Object;)Ljava/lang/Object;"), (194, .class_ 376), (0, u "java/util/Arrays$ArrayList"), (68, u "$assertionsDisabled"), (136, .interfaceMethodref 583 584), (0, .class_ 585), (0, .nameAndType 586 587), (0, u "java/util/function/IntUnaryOperator"), (0, u "applyAsInt"), (0, u "(I)I"), (127, u "MIN_ARRAY_SORT_GRAN"), (0, u "I"), (2, u "INSERTIONSORT_THRESHOLD"), (120, u "fill"), (4, u "([II)V"), (61, u "setAll"), (6, u "([ILjava/util/function/IntUnaryOperator;)V"), (60, .class_ 976), (0, u "java/util/Arrays$ArrayItr")] 52

def k4m0 : Method := { name := "<init>", desc := "()V", sig := { parameters := [], returnType := none }, accessFlags := 2, code := none }
def k4c1 : Code := { maxStack := 3, maxLocals := 4, code := jdk_65_method_103_code, exceptionTable := #[], attributes := #[] }
def k4m1 : Method := { name := "fill", desc := "([II)V", sig := { parameters := [(.array .int), .int], returnType := none }, accessFlags := 9, code := some k4c1 }
def k4c2 : Code := { maxStack := 4, maxLocals := 3, code := jdk_65_method_175_code, exceptionTable := #[], attributes := #[] }
def k4m2 : Method := { name := "setAll", desc := "([ILjava/util/function/IntUnaryOperator;)V", sig := { parameters := [(.array .int), (.object "java/util/function/IntUnaryOperator")], returnType := none }, accessFlags := 9, code := some k4c2 }
/-- java/util/Arrays -/
def k4 : Class := { plain "java/util/Arrays" (some 0) with
  accessFlags := 49
  interfaces := #[]
  cf := some (fileOf pool4 14 #[.nestMembers #[975, 375, 113, 74]] #[{ accessFlags := 2, nameIndex := 5, descriptorIndex := 6, attributes := #[] }, { accessFlags := 9, nameIndex := 840, descriptorIndex := 845, attributes := #[] }, { accessFlags := 9, nameIndex := 907, descriptorIndex := 914, attributes := #[] }] 49 2 #[] #[{ accessFlags := 26, nameIndex := 715, descriptorIndex := 716, attributes := #[] }, { accessFlags := 26, nameIndex := 719, descriptorIndex := 716, attributes := #[] }, { accessFlags := 4120, nameIndex := 445, descriptorIndex := 117, attributes := #[] }])
  fields := #[{ name := "MIN_ARRAY_SORT_GRAN", type := .int, accessFlags := 26, slot := 0, constantValue := 0 }, { name := "INSERTIONSORT_THRESHOLD", type := .int, accessFlags := 26, slot := 1, constantValue := 0 }, { name := "$assertionsDisabled", type := .boolean, accessFlags := 4120, slot := 2, constantValue := 0 }]
  methods := #[k4m0, k4m1, k4m2]
  instanceTypes := #[]
  staticTypes := #[.int, .int, .boolean]
  resolved := Array.replicate 1029 none
  statics := none }

def pool5 : Array CpInfo := pool [(2, .class_ 4), (1, u "java/lang/Object"), (0, u "<init>"), (0, u "()V"), (35, .class_ 44), (1, u "java/util/Objects"), (0, u "requireNonNull"), (0, u "(Ljava/lang/Object;)Ljava/lang/Object;")] 137

def k5m0 : Method := { name := "<init>", desc := "()V", sig := { parameters := [], returnType := none }, accessFlags := 2, code := none }
def k5c1 : Code := { maxStack := 2, maxLocals := 1, code := jdk_31_method_10_code, exceptionTable := #[], attributes := #[] }
def k5m1 : Method := { name := "requireNonNull", desc := "(Ljava/lang/Object;)Ljava/lang/Object;", sig := { parameters := [(.object "java/lang/Object")], returnType := some (.object "java/lang/Object") }, accessFlags := 9, code := some k5c1 }
/-- java/util/Objects -/
def k5 : Class := { plain "java/util/Objects" (some 0) with
  accessFlags := 49
  interfaces := #[]
  cf := some (fileOf pool5 42 #[] #[{ accessFlags := 2, nameIndex := 5, descriptorIndex := 6, attributes := #[] }, { accessFlags := 9, nameIndex := 45, descriptorIndex := 46, attributes := #[] }] 49 2 #[] #[])
  fields := #[]
  methods := #[k5m0, k5m1]
  instanceTypes := #[]
  staticTypes := #[]
  resolved := Array.replicate 184 none
  statics := none }

def pool6 : Array CpInfo := pool [(2, .class_ 4), (1, u "java/lang/Object"), (0, u "<init>"), (0, u "()V"), (0, .integer 2654435769), (3, .class_ 13), (1, u "com/example/kinds_by_value/kindsbyvalue/Hashes"), (0, u "spread"), (0, u "(I)I")] 5

def k6m0 : Method := { name := "<init>", desc := "()V", sig := { parameters := [], returnType := none }, accessFlags := 2, code := none }
def k6c1 : Code := { maxStack := 3, maxLocals := 2, code := prog_6_method_2_code, exceptionTable := #[], attributes := #[] }
def k6m1 : Method := { name := "spread", desc := "(I)I", sig := { parameters := [.int], returnType := some .int }, accessFlags := 8, code := some k6c1 }
/-- com/example/kinds_by_value/kindsbyvalue/Hashes -/
def k6 : Class := { plain "com/example/kinds_by_value/kindsbyvalue/Hashes" (some 0) with
  accessFlags := 32
  interfaces := #[]
  cf := some (fileOf pool6 11 #[] #[{ accessFlags := 2, nameIndex := 5, descriptorIndex := 6, attributes := #[] }, { accessFlags := 8, nameIndex := 14, descriptorIndex := 15, attributes := #[] }] 32 2 #[] #[])
  fields := #[]
  methods := #[k6m0, k6m1]
  instanceTypes := #[]
  staticTypes := #[]
  resolved := Array.replicate 21 none
  statics := none }

def pool7 : Array CpInfo := pool [(1, u "java/lang/Cloneable"), (0, .class_ 1), (0, u "java/lang/Object"), (0, .class_ 3)] 3

/-- java/lang/Cloneable -/
def k7 : Class := { plain "java/lang/Cloneable" (some 0) with
  accessFlags := 1537
  interfaces := #[]
  cf := some (fileOf pool7 2 #[] #[] 1537 4 #[] #[])
  fields := #[]
  methods := #[]
  instanceTypes := #[]
  staticTypes := #[]
  resolved := Array.replicate 8 none
  statics := none }

def pool8 : Array CpInfo := pool [(1, u "java/io/Serializable"), (0, .class_ 1), (0, u "java/lang/Object"), (0, .class_ 3)] 3

/-- java/io/Serializable -/
def k8 : Class := { plain "java/io/Serializable" (some 0) with
  accessFlags := 1537
  interfaces := #[]
  cf := some (fileOf pool8 2 #[] #[] 1537 4 #[] #[])
  fields := #[]
  methods := #[]
  instanceTypes := #[]
  staticTypes := #[]
  resolved := Array.replicate 8 none
  statics := none }

/-- the primitive byte -/
def k9 : Class := { plain "byte" none with kind := .primitive 'B', accessFlags := 0x411 }
/-- [B -/
def k10 : Class := { plain "[B" (some 0) with kind := .array 9 .byte, interfaces := #[7, 8], accessFlags := 1041 }

/-- the primitive int -/
def k11 : Class := { plain "int" none with kind := .primitive 'I', accessFlags := 0x411 }
/-- [I -/
def k12 : Class := { plain "[I" (some 0) with kind := .array 11 .int, interfaces := #[7, 8], accessFlags := 1041 }

/-- the primitive long -/
def k13 : Class := { plain "long" none with kind := .primitive 'J', accessFlags := 0x411 }
/-- [J -/
def k14 : Class := { plain "[J" (some 0) with kind := .array 13 .long, interfaces := #[7, 8], accessFlags := 1041 }

def classes0 : Array Class := #[k0, k1, k2, k3, k4, k5, k6, k7, k8, k9, k10, k11, k12, k13, k14]
/-- the class that the rule has made for the site at 12 of com/example/kinds_by_value/kindsbyvalue/NameSet.below -/
def k15 : Class := Jvm.LamKit.madeRec { classes := classes0 } "com/example/kinds_by_value/kindsbyvalue/NameSet" (Jvm.Lambda.Shape.mk "java/util/function/IntUnaryOperator" "applyAsInt" (Jvm.ClassFile.MethodDescriptor.mk ([Jvm.ClassFile.FieldType.int] : List Jvm.ClassFile.FieldType) (Option.some Jvm.ClassFile.FieldType.int)) ([] : List Jvm.ClassFile.FieldType) (6 : Nat) "com/example/kinds_by_value/kindsbyvalue/NameSet" "lambda$below$0" (Jvm.ClassFile.MethodDescriptor.mk ([Jvm.ClassFile.FieldType.int] : List Jvm.ClassFile.FieldType) (Option.some Jvm.ClassFile.FieldType.int)) false (Jvm.ClassFile.MethodDescriptor.mk ([Jvm.ClassFile.FieldType.int] : List Jvm.ClassFile.FieldType) (Option.some Jvm.ClassFile.FieldType.int))) 15

def heap : Heap := #[{ cls := 15, slots := #[], vm := .none }]
def classes : Array Class := #[k0, k1, k2, k3, k4, k5, k6, k7, k8, k9, k10, k11, k12, k13, k14, k15]
def interned : List (Array UInt16 × Addr) := []
def slotsUsed : Nat := 0
def theMethod : MethodId := ⟨1, 1⟩
def args0 : Array Value := #[.int 5, .int 7, .int 9, .int 3000, .int 1]
def aboutOver (below : List Frame) : State where
  vm := { classes := classes, interned := interned.toArray }
  heap := heap
  slotsUsed := slotsUsed
  threads := #[{ frames := .invoking theMethod args0 :: below }]
def below0 : List Frame := [.native { method := ⟨0, 0⟩, args := #[] }]
def about1 : State := aboutOver below0
def p0 : Program := .bare "" "" ""
def e0 : Env := launch0.env 0 0 0
theorem w_frames : about1.frames = Frame.invoking theMethod args0 :: below0 := rfl
set_option maxRecDepth 65536 in
theorem w_args : argsFit about1.vm theMethod args0 = true := by decide +kernel
set_option maxRecDepth 65536 in
theorem w_heap : heapFits about1 = true := by decide +kernel
set_option maxRecDepth 65536 in
theorem w_runnable : about1.curStatus? = some .runnable := by decide +kernel
set_option maxRecDepth 65536 in
theorem w_alone : about1.alone = true := by decide +kernel
set_option maxRecDepth 65536 in
theorem w_named : about1.methodNamed? x = some theMethod := by decide +kernel
set_option maxRecDepth 65536 in
theorem w_hears : about1.hears theMethod below0 = true := by decide +kernel
set_option maxRecDepth 65536 in
theorem w_ripe : about1.ripe theMethod args0 below0 = true := by decide +kernel
theorem w_running : about1.status = .running := rfl
set_option maxRecDepth 65536 in
theorem w_room : about1.hasRoom e0.platform room_1 = true :=
  launch0.hasRoom_least _ room_1 (by decide +kernel) (by decide +kernel) (by decide +kernel) (by decide +kernel) (by decide +kernel) (by decide +kernel)
theorem allAtoms_all (ts : List Jvm.Cond) (a : Array Jvm.Value) (st : Jvm.State) : (allAtoms ts).before a st = ts.all (fun c => c.before a st) := by
  induction ts with
  | nil => rfl
  | cons c t ih =>
    show (Jvm.Cond.and c (allAtoms t)).before a st = _
    rw [Jvm.Cond.before_and, ih, List.all_cons]
def words1 : List Jvm.Cond := Jvm.Cond.code x code maxLocals ret :: tables_1
/-- a 'code' word, met by the world's own term for the bytes: nothing is compared byte by byte -/
theorem code_word {y : MethodName} {bytes : ByteArray} {mx : Nat} {rt : Option FieldType} {a : Array Value} {s : State} {m : MethodId} {meth : Method} {c : Code} (h1 : s.methodNamed? y = some m) (h2 : s.vm.method? m = some meth) (h3 : meth.code = some c) (h4 : c.code = bytes)
    (h5 : (c.maxLocals == mx && c.exceptionTable.isEmpty && decide (c.maxStack ≤ mostOperands) && decide (meth.sig.returnType = rt) && !meth.locks && decide (parseMethodDescriptor y.desc = some meth.sig)) = true) : (Jvm.Cond.code y bytes mx rt).before a s = true := by
  simp only [Bool.and_eq_true, beq_iff_eq, Bool.not_eq_true', decide_eq_true_eq] at h5
  obtain ⟨⟨⟨⟨⟨g1, g2⟩, g3⟩, g4⟩, g5⟩, g6⟩ := h5
  simp [Cond.before, Cond.holds, Cond.value, h1, h2, h3, h4, g1, g2, g3, g4, g5, g6]
def isCode : Jvm.Cond → Bool
  | .code _ _ _ _ => true
  | _ => false
theorem all_split {L : List Jvm.Cond} {P : Jvm.Cond → Bool} (h1 : L.all (fun c => isCode c || P c) = true) (h2 : ∀ c ∈ L.filter isCode, P c = true) : L.all P = true := by
  refine List.all_eq_true.mpr fun c hc => ?_
  have h := List.all_eq_true.mp h1 c hc
  rcases Bool.eq_false_or_eq_true (isCode c) with hi | hi
  · exact h2 c (List.mem_filter.mpr ⟨hc, hi⟩)
  · simpa [hi] using h
set_option maxRecDepth 65536 in
theorem w_c0 : (Jvm.Cond.code x code maxLocals ret).before args0 about1 = true := code_word (m := ⟨1, 1⟩) (meth := k1m1) (c := k1c1) (by decide +kernel) rfl rfl rfl (by decide +kernel)
set_option maxRecDepth 65536 in
theorem w_c1 : (Jvm.Cond.code ({ cls := "com/example/kinds_by_value/kindsbyvalue/NameSet", name := "<init>", desc := "(I)V" } : Jvm.MethodName) prog_9_method_1_code (2 : Nat) (Option.none : Option Jvm.ClassFile.FieldType)).before args0 about1 = true := code_word (m := ⟨2, 0⟩) (meth := k2m0) (c := k2c0) (by decide +kernel) rfl rfl rfl (by decide +kernel)
set_option maxRecDepth 65536 in
theorem w_c2 : (Jvm.Cond.code ({ cls := "java/lang/Object", name := "<init>", desc := "()V" } : Jvm.MethodName) object_method_1_code (1 : Nat) (Option.none : Option Jvm.ClassFile.FieldType)).before args0 about1 = true := code_word (m := ⟨0, 0⟩) (meth := k0m0) (c := k0c0) (by decide +kernel) rfl rfl rfl (by decide +kernel)
set_option maxRecDepth 65536 in
theorem w_c3 : (Jvm.Cond.code ({ cls := "com/example/kinds_by_value/kindsbyvalue/NameSet", name := "addEveryName", desc := "()V" } : Jvm.MethodName) prog_9_method_4_code (1 : Nat) (Option.none : Option Jvm.ClassFile.FieldType)).before args0 about1 = true := code_word (m := ⟨2, 3⟩) (meth := k2m3) (c := k2c3) (by decide +kernel) rfl rfl rfl (by decide +kernel)
set_option maxRecDepth 65536 in
theorem w_c4 : (Jvm.Cond.code ({ cls := "com/example/kinds_by_value/kindsbyvalue/NameSet", name := "holdsEveryName", desc := "()Z" } : Jvm.MethodName) prog_9_method_5_code (1 : Nat) (Option.some Jvm.ClassFile.FieldType.boolean)).before args0 about1 = true := code_word (m := ⟨2, 4⟩) (meth := k2m4) (c := k2c4) (by decide +kernel) rfl rfl rfl (by decide +kernel)
set_option maxRecDepth 65536 in
theorem w_c5 : (Jvm.Cond.code ({ cls := "com/example/kinds_by_value/kindsbyvalue/NameSet", name := "contains", desc := "(I)Z" } : Jvm.MethodName) prog_9_method_2_code (3 : Nat) (Option.some Jvm.ClassFile.FieldType.boolean)).before args0 about1 = true := code_word (m := ⟨2, 1⟩) (meth := k2m1) (c := k2c1) (by decide +kernel) rfl rfl rfl (by decide +kernel)
set_option maxRecDepth 65536 in
theorem w_c6 : (Jvm.Cond.code ({ cls := "com/example/kinds_by_value/kindsbyvalue/NameSet", name := "add", desc := "(I)Z" } : Jvm.MethodName) prog_9_method_3_code (7 : Nat) (Option.some Jvm.ClassFile.FieldType.boolean)).before args0 about1 = true := code_word (m := ⟨2, 2⟩) (meth := k2m2) (c := k2c2) (by decide +kernel) rfl rfl rfl (by decide +kernel)
set_option maxRecDepth 65536 in
theorem w_c7 : (Jvm.Cond.code ({ cls := "com/example/kinds_by_value/kindsbyvalue/NameSet", name := "hashCode", desc := "()I" } : Jvm.MethodName) prog_9_method_8_code (1 : Nat) (Option.some Jvm.ClassFile.FieldType.int)).before args0 about1 = true := code_word (m := ⟨2, 7⟩) (meth := k2m7) (c := k2c7) (by decide +kernel) rfl rfl rfl (by decide +kernel)
set_option maxRecDepth 65536 in
theorem w_c8 : (Jvm.Cond.code ({ cls := "com/example/kinds_by_value/kindsbyvalue/NameSet", name := "equals", desc := "(Ljava/lang/Object;)Z" } : Jvm.MethodName) prog_9_method_7_code (4 : Nat) (Option.some Jvm.ClassFile.FieldType.boolean)).before args0 about1 = true := code_word (m := ⟨2, 6⟩) (meth := k2m6) (c := k2c6) (by decide +kernel) rfl rfl rfl (by decide +kernel)
set_option maxRecDepth 65536 in
theorem w_c9 : (Jvm.Cond.code ({ cls := "com/example/kinds_by_value/kindsbyvalue/NameSet", name := "below", desc := "(I)[I" } : Jvm.MethodName) prog_9_method_6_code (9 : Nat) (Option.some (Jvm.ClassFile.FieldType.array Jvm.ClassFile.FieldType.int))).before args0 about1 = true := code_word (m := ⟨2, 5⟩) (meth := k2m5) (c := k2c5) (by decide +kernel) rfl rfl rfl (by decide +kernel)
set_option maxRecDepth 65536 in
theorem w_c10 : (Jvm.Cond.code ({ cls := "java/util/Arrays", name := "setAll", desc := "([ILjava/util/function/IntUnaryOperator;)V" } : Jvm.MethodName) jdk_65_method_175_code (3 : Nat) (Option.none : Option Jvm.ClassFile.FieldType)).before args0 about1 = true := code_word (m := ⟨4, 2⟩) (meth := k4m2) (c := k4c2) (by decide +kernel) rfl rfl rfl (by decide +kernel)
set_option maxRecDepth 65536 in
theorem w_c11 : (Jvm.Cond.code ({ cls := "java/util/Objects", name := "requireNonNull", desc := "(Ljava/lang/Object;)Ljava/lang/Object;" } : Jvm.MethodName) jdk_31_method_10_code (1 : Nat) (Option.some (Jvm.ClassFile.FieldType.object "java/lang/Object"))).before args0 about1 = true := code_word (m := ⟨5, 1⟩) (meth := k5m1) (c := k5c1) (by decide +kernel) rfl rfl rfl (by decide +kernel)
set_option maxRecDepth 65536 in
theorem w_c12 : (Jvm.Cond.code ({ cls := "com/example/kinds_by_value/kindsbyvalue/NameSetAddEveryNamePinLaw", name := "at", desc := "([II)Z" } : Jvm.MethodName) method_3_code (2 : Nat) (Option.some Jvm.ClassFile.FieldType.boolean)).before args0 about1 = true := code_word (m := ⟨1, 2⟩) (meth := k1m2) (c := k1c2) (by decide +kernel) rfl rfl rfl (by decide +kernel)
set_option maxRecDepth 65536 in
theorem w_c13 : (Jvm.Cond.code ({ cls := "com/example/kinds_by_value/kindsbyvalue/Hashes", name := "spread", desc := "(I)I" } : Jvm.MethodName) prog_6_method_2_code (2 : Nat) (Option.some Jvm.ClassFile.FieldType.int)).before args0 about1 = true := code_word (m := ⟨6, 1⟩) (meth := k6m1) (c := k6c1) (by decide +kernel) rfl rfl rfl (by decide +kernel)
set_option maxRecDepth 65536 in
theorem w_c14 : (Jvm.Cond.code ({ cls := "com/example/kinds_by_value/kindsbyvalue/NameSet", name := "lambda$below$0", desc := "(I)I" } : Jvm.MethodName) prog_9_method_12_code (1 : Nat) (Option.some Jvm.ClassFile.FieldType.int)).before args0 about1 = true := code_word (m := ⟨2, 10⟩) (meth := k2m10) (c := k2c10) (by decide +kernel) rfl rfl rfl (by decide +kernel)
set_option maxRecDepth 65536 in
theorem w_c15 : (Jvm.Cond.code ({ cls := "com/example/kinds_by_value/kindsbyvalue/NameSet", name := "newTable", desc := "(I)[I" } : Jvm.MethodName) prog_9_method_11_code (2 : Nat) (Option.some (Jvm.ClassFile.FieldType.array Jvm.ClassFile.FieldType.int))).before args0 about1 = true := code_word (m := ⟨2, 9⟩) (meth := k2m9) (c := k2c9) (by decide +kernel) rfl rfl rfl (by decide +kernel)
set_option maxRecDepth 65536 in
theorem w_c16 : (Jvm.Cond.code ({ cls := "java/util/Arrays", name := "fill", desc := "([II)V" } : Jvm.MethodName) jdk_65_method_103_code (4 : Nat) (Option.none : Option Jvm.ClassFile.FieldType)).before args0 about1 = true := code_word (m := ⟨4, 1⟩) (meth := k4m1) (c := k4c1) (by decide +kernel) rfl rfl rfl (by decide +kernel)
set_option maxRecDepth 65536 in
theorem w_c17 : (Jvm.Cond.code ({ cls := "com/example/kinds_by_value/kindsbyvalue/NameSet", name := "placeOf", desc := "(I)I" } : Jvm.MethodName) prog_9_method_10_code (4 : Nat) (Option.some Jvm.ClassFile.FieldType.int)).before args0 about1 = true := code_word (m := ⟨2, 8⟩) (meth := k2m8) (c := k2c8) (by decide +kernel) rfl rfl rfl (by decide +kernel)
def codes1 : List Jvm.Cond := [Jvm.Cond.code x code maxLocals ret, Jvm.Cond.code ({ cls := "com/example/kinds_by_value/kindsbyvalue/NameSet", name := "<init>", desc := "(I)V" } : Jvm.MethodName) prog_9_method_1_code (2 : Nat) (Option.none : Option Jvm.ClassFile.FieldType), Jvm.Cond.code ({ cls := "java/lang/Object", name := "<init>", desc := "()V" } : Jvm.MethodName) object_method_1_code (1 : Nat) (Option.none : Option Jvm.ClassFile.FieldType), Jvm.Cond.code ({ cls := "com/example/kinds_by_value/kindsbyvalue/NameSet", name := "addEveryName", desc := "()V" } : Jvm.MethodName) prog_9_method_4_code (1 : Nat) (Option.none : Option Jvm.ClassFile.FieldType), Jvm.Cond.code ({ cls := "com/example/kinds_by_value/kindsbyvalue/NameSet", name := "holdsEveryName", desc := "()Z" } : Jvm.MethodName) prog_9_method_5_code (1 : Nat) (Option.some Jvm.ClassFile.FieldType.boolean), Jvm.Cond.code ({ cls := "com/example/kinds_by_value/kindsbyvalue/NameSet", name := "contains", desc := "(I)Z" } : Jvm.MethodName) prog_9_method_2_code (3 : Nat) (Option.some Jvm.ClassFile.FieldType.boolean), Jvm.Cond.code ({ cls := "com/example/kinds_by_value/kindsbyvalue/NameSet", name := "add", desc := "(I)Z" } : Jvm.MethodName) prog_9_method_3_code (7 : Nat) (Option.some Jvm.ClassFile.FieldType.boolean), Jvm.Cond.code ({ cls := "com/example/kinds_by_value/kindsbyvalue/NameSet", name := "hashCode", desc := "()I" } : Jvm.MethodName) prog_9_method_8_code (1 : Nat) (Option.some Jvm.ClassFile.FieldType.int), Jvm.Cond.code ({ cls := "com/example/kinds_by_value/kindsbyvalue/NameSet", name := "equals", desc := "(Ljava/lang/Object;)Z" } : Jvm.MethodName) prog_9_method_7_code (4 : Nat) (Option.some Jvm.ClassFile.FieldType.boolean), Jvm.Cond.code ({ cls := "com/example/kinds_by_value/kindsbyvalue/NameSet", name := "below", desc := "(I)[I" } : Jvm.MethodName) prog_9_method_6_code (9 : Nat) (Option.some (Jvm.ClassFile.FieldType.array Jvm.ClassFile.FieldType.int)), Jvm.Cond.code ({ cls := "java/util/Arrays", name := "setAll", desc := "([ILjava/util/function/IntUnaryOperator;)V" } : Jvm.MethodName) jdk_65_method_175_code (3 : Nat) (Option.none : Option Jvm.ClassFile.FieldType), Jvm.Cond.code ({ cls := "java/util/Objects", name := "requireNonNull", desc := "(Ljava/lang/Object;)Ljava/lang/Object;" } : Jvm.MethodName) jdk_31_method_10_code (1 : Nat) (Option.some (Jvm.ClassFile.FieldType.object "java/lang/Object")), Jvm.Cond.code ({ cls := "com/example/kinds_by_value/kindsbyvalue/NameSetAddEveryNamePinLaw", name := "at", desc := "([II)Z" } : Jvm.MethodName) method_3_code (2 : Nat) (Option.some Jvm.ClassFile.FieldType.boolean), Jvm.Cond.code ({ cls := "com/example/kinds_by_value/kindsbyvalue/Hashes", name := "spread", desc := "(I)I" } : Jvm.MethodName) prog_6_method_2_code (2 : Nat) (Option.some Jvm.ClassFile.FieldType.int), Jvm.Cond.code ({ cls := "com/example/kinds_by_value/kindsbyvalue/NameSet", name := "lambda$below$0", desc := "(I)I" } : Jvm.MethodName) prog_9_method_12_code (1 : Nat) (Option.some Jvm.ClassFile.FieldType.int), Jvm.Cond.code ({ cls := "com/example/kinds_by_value/kindsbyvalue/NameSet", name := "newTable", desc := "(I)[I" } : Jvm.MethodName) prog_9_method_11_code (2 : Nat) (Option.some (Jvm.ClassFile.FieldType.array Jvm.ClassFile.FieldType.int)), Jvm.Cond.code ({ cls := "java/util/Arrays", name := "fill", desc := "([II)V" } : Jvm.MethodName) jdk_65_method_103_code (4 : Nat) (Option.none : Option Jvm.ClassFile.FieldType), Jvm.Cond.code ({ cls := "com/example/kinds_by_value/kindsbyvalue/NameSet", name := "placeOf", desc := "(I)I" } : Jvm.MethodName) prog_9_method_10_code (4 : Nat) (Option.some Jvm.ClassFile.FieldType.int)]
set_option maxRecDepth 65536 in
theorem codes_eq : words1.filter isCode = codes1 := rfl
theorem w_codes : ∀ c ∈ words1.filter isCode, c.before args0 about1 = true := by
  rw [codes_eq]
  intro c hc
  simp only [codes1, List.mem_cons, List.not_mem_nil, or_false] at hc
  rcases hc with rfl | rfl | rfl | rfl | rfl | rfl | rfl | rfl | rfl | rfl | rfl | rfl | rfl | rfl | rfl | rfl | rfl | rfl
  · exact w_c0
  · exact w_c1
  · exact w_c2
  · exact w_c3
  · exact w_c4
  · exact w_c5
  · exact w_c6
  · exact w_c7
  · exact w_c8
  · exact w_c9
  · exact w_c10
  · exact w_c11
  · exact w_c12
  · exact w_c13
  · exact w_c14
  · exact w_c15
  · exact w_c16
  · exact w_c17
set_option maxRecDepth 65536 in
theorem w_t1 : (words1.take 24).all (fun c => isCode c || c.before args0 about1) = true := by decide +kernel
set_option maxRecDepth 65536 in
theorem w_t2 : ((words1.drop 24).take 24).all (fun c => isCode c || c.before args0 about1) = true := by decide +kernel
set_option maxRecDepth 65536 in
theorem w_t3 : (((words1.drop 24).drop 24).take 24).all (fun c => isCode c || c.before args0 about1) = true := by decide +kernel
set_option maxRecDepth 65536 in
theorem w_t4 : (((words1.drop 24).drop 24).drop 24).all (fun c => isCode c || c.before args0 about1) = true := by decide +kernel
theorem w_tables : (allAtoms (Jvm.Cond.code x code maxLocals ret :: tables_1)).before args0 about1 = true := by
  rw [allAtoms_all]
  show words1.all (fun c => c.before args0 about1) = true
  refine all_split ?_ w_codes
  rw [← List.take_append_drop 24 words1, List.all_append, w_t1, ← List.take_append_drop 24 (words1.drop 24), List.all_append, w_t2, ← List.take_append_drop 24 ((words1.drop 24).drop 24), List.all_append, w_t3, w_t4]
  rfl
set_option maxRecDepth 65536 in
theorem w_case : (Jvm.Cond.and given_1 narrow_1).before args0 about1 = true := by decide +kernel
theorem w_applies : (headSpec (Jvm.Cond.code x code maxLocals ret :: tables_1) room_1).applies x e0.platform about1 = true :=
  (Spec.applies_iff w_frames).mpr ⟨w_running, w_runnable, w_alone, w_named, w_hears, w_ripe, w_room, w_tables⟩
theorem atStart : AtStart classFile x code maxLocals ret World_1 tables_1 room_1 Calls_1 rest_1 Pre_1 launch0 p0 e0 about1 theMethod args0 below0 :=
  ⟨lists_1, trivial, launch0.admits_env _ _ _, launch0.least_env, fairChoices_fair.cas, fairChoices_fair.clock, w_frames, w_args, w_heap, w_applies, trivial, trivial, w_case⟩
end start1
theorem witness_1 : WitnessClaimed_1 := ⟨start1.p0, start1.e0, start1.about1, start1.theMethod, start1.args0, start1.below0, start1.atStart⟩
end Jvm.Pilot.@@N@@
