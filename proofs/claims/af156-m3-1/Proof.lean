import JvmDerived
import JvmDerived.Pilot.@@N@@Statement
import JvmDerived.Pilot.@@N@@Code
set_option linter.unusedVariables false
set_option linter.unusedSimpArgs false
@@BLOCK:NumsL.lean.txt@@
namespace Jvm.RoadKit
open Sem ClassFile Op Lib Jvm.Stand Jvm.Free Jvm.LawKit
section New
variable {p : Program} {l : Launch} {e : Env} {R : Room} {s : State} {m : MethodId} {args : Array Value} {below : List Frame} {meth : Method} {c : Code} {T : State} {locs : List Loc} {cells slots : Nat}
theorem retI (X : Stand p l e R s m args below meth c T locs cells slots) (hx : p.tables.exec = Jvm.exec) {pc : Nat} {Ls : Array Slot} {z : Int32} {rest : List Value} (hret : meth.sig.returnType = some .int) (hd : decode c.code pc = .ok (.ireturn, 1)) {fs : List Frame}
    (hl : ∀ (f : JFrame) (acts : List Action), f.method = m → f.locked = none → f.entered = [] → (doReturn e (T.setTop f) acts (some (.int z))).1 = T.setFrames fs) : Steps p.tables e below (T.setTop (mkF m pc Ls (.int z :: rest))) (T.setFrames fs) := by
  have hm' : T.vm.method? m = some meth := X.method'
  have hn : narrow .int (.int z) = .int z := rfl
  show Steps p.tables e below (T.setTop { method := m, pc := pc, locals := Ls, stack := _ :: rest, locked := none }) _
  jvm_step X.here [X.here.top, hx, hd, hm', hret, hn]
  first | (intro acts; rw [hl _ acts rfl rfl rfl]) | rw [hl _ _ rfl rfl rfl]
  exact Steps.refl _
end New
end Jvm.RoadKit
namespace Jvm.Pilot.@@N@@
open Jvm Jvm.ClassFile Sem Op Lib Jvm.Free Jvm.Stand Jvm.LawKit Jvm.RoadKit Bundle Jvm.Pilot.@@N@@.Jvm.D
/-- from F the invocation ends: it returns, and Q holds of what it returned, the heap and the places written -/
def own_Ends (p : Program) (e : Env) (below : List Frame) (s : State) (C S : Nat) (Q : Option Value → Heap → List Loc → Prop) (F : State) : Prop :=
  ∃ s₂ o, Steps p.tables e below F s₂ ∧ s₂.status = .running ∧ Ended s₂ below o ∧ ∃ v L, o = .returned v ∧ Q v s₂.heap L ∧ FrameEnd s o s₂ L C S
theorem own_step {p : Program} {e : Env} {below : List Frame} {s : State} {C S : Nat} {Q : Option Value → Heap → List Loc → Prop} {F F' : State} (h : ∀ t, Steps p.tables e below F' t → Steps p.tables e below F t) (k : own_Ends p e below s C S Q F') : own_Ends p e below s C S Q F := by
  obtain ⟨s₂, o, st, r⟩ := k
  exact ⟨s₂, o, h _ st, r⟩
section OwnRet
variable {p : Program} {l : Launch} {e : Env} {R : Room} {s : State} {m : MethodId} {args : Array Value} {below : List Frame} {meth : Method} {c : Code} {T : State} {locs : List Loc} {cells slots : Nat} {C S : Nat} {Q : Option Value → Heap → List Loc → Prop}
theorem own_retI (X : Stand p l e R s m args below meth c T locs cells slots) (hx : p.tables.exec = Jvm.exec) {pc : Nat} {Ls : Array Slot} {z : Int32} {rest : List Value} (hret : meth.sig.returnType = some .int) (hlk : meth.locks = false) (hd : decode c.code pc = .ok (.ireturn, 1)) (hc : cells ≤ C) (hs : slots ≤ S)
    (hQ : Q (some (.int z)) T.heap locs) : own_Ends p e below s C S Q (T.setTop (mkF m pc Ls (.int z :: rest))) := by
  obtain ⟨fs, hr, hrun, hended, hW, hsame⟩ := X.leave (v := some (.int z)) (fun h => by rw [hret] at h; cases h) hlk
  exact ⟨_, _, retI X hx hret hd hr, hrun, hended, _, _, rfl, hQ, ⟨_, rfl⟩, hW, hsame.mono hc hs⟩
theorem own_retN (X : Stand p l e R s m args below meth c T locs cells slots) (hx : p.tables.exec = Jvm.exec) {pc : Nat} {Ls : Array Slot} {z z' : Int32} {rest : List Value} {t : FieldType} (hret : meth.sig.returnType = some t) (ht : t = .boolean ∨ t = .byte ∨ t = .char ∨ t = .short) (hlk : meth.locks = false) (hd : decode c.code pc = .ok (.ireturn, 1)) (hc : cells ≤ C) (hs : slots ≤ S)
    (hz : nar t z = z') (hQ : Q (some (.int z')) T.heap locs) : own_Ends p e below s C S Q (T.setTop (mkF m pc Ls (.int z :: rest))) := by
  subst hz
  obtain ⟨fs, hr, hrun, hended, hW, hsame⟩ := X.leave (v := some (.int (nar t z))) (fun h => by rw [hret] at h; cases h) hlk
  exact ⟨_, _, retN X hx hret ht hd hr, hrun, hended, _, _, rfl, hQ, ⟨_, rfl⟩, hW, hsame.mono hc hs⟩
theorem own_retJ (X : Stand p l e R s m args below meth c T locs cells slots) (hx : p.tables.exec = Jvm.exec) {pc : Nat} {Ls : Array Slot} {z : Int64} (hret : meth.sig.returnType = some .long) (hlk : meth.locks = false) (hd : decode c.code pc = .ok (.lreturn, 1)) (hc : cells ≤ C) (hs : slots ≤ S)
    (hQ : Q (some (.long z)) T.heap locs) : own_Ends p e below s C S Q (T.setTop (mkF m pc Ls [.long z])) := by
  obtain ⟨fs, hr, hrun, hended, hW, hsame⟩ := X.leave (v := some (.long z)) (fun h => by rw [hret] at h; cases h) hlk
  exact ⟨_, _, X.lreturnOut hx hret hd hr, hrun, hended, _, _, rfl, hQ, ⟨_, rfl⟩, hW, hsame.mono hc hs⟩
theorem own_retV (X : Stand p l e R s m args below meth c T locs cells slots) (hx : p.tables.exec = Jvm.exec) {pc : Nat} {Ls : Array Slot} (hret : meth.sig.returnType = none) (hlk : meth.locks = false) (hd : decode c.code pc = .ok (.return_, 1)) (hc : cells ≤ C) (hs : slots ≤ S)
    (hQ : Q none T.heap locs) : own_Ends p e below s C S Q (T.setTop (mkF m pc Ls [])) := by
  obtain ⟨fs, hr, hrun, hended, hW, hsame⟩ := X.leave (v := none) (fun _ => rfl) hlk
  exact ⟨_, _, X.returnOut hx hret hd hr, hrun, hended, _, _, rfl, hQ, ⟨_, rfl⟩, hW, hsame.mono hc hs⟩
theorem own_retR (X : Stand p l e R s m args below meth c T locs cells slots) (hx : p.tables.exec = Jvm.exec) {pc : Nat} {Ls : Array Slot} {w : Value} {t : FieldType} {rest : List Value} (hret : meth.sig.returnType = some t) (ht : t.isReference = true) (hw : w.isRef = true) (hn : narrow t w = w) (hlk : meth.locks = false) (hd : decode c.code pc = .ok (.areturn, 1)) (hc : cells ≤ C) (hs : slots ≤ S)
    (hQ : Q (some w) T.heap locs) : own_Ends p e below s C S Q (T.setTop (mkF m pc Ls (w :: rest))) := by
  obtain ⟨fs, hr, hrun, hended, hW, hsame⟩ := X.leave (v := some w) (fun h => by rw [hret] at h; cases h) hlk
  exact ⟨_, _, retOut X hx hret hn (Or.inr (Or.inr (Or.inr (Or.inr ⟨rfl, ht, hw⟩)))) hd hr, hrun, hended, _, _, rfl, hQ, ⟨_, rfl⟩, hW, hsame.mono hc hs⟩
end OwnRet
/-- the array at a holds just vs -/
def own_Ar (Z : State) (h : Heap) (a : Addr) (ty : FieldType) (vs : List Value) : Prop :=
  vs.length < 2 ^ 31 ∧ ∃ cl : Cell, Arr Z h a cl ty ∧ cl.slots.toList = vs
section OwnArr
variable {p : Program} {l : Launch} {e : Env} {R : Room} {s : State} {m : MethodId} {args : Array Value} {below : List Frame} {meth : Method} {c : Code} {T : State} {locs : List Loc} {cells slots : Nat} {Z : State} {h h' : Heap} {a b : Addr} {ty : FieldType} {vs : List Value} {ws : List Addr} {sl : Nat} {w : Value}
theorem own_Ar.lt (A : own_Ar Z h a ty vs) : a < h.size := by obtain ⟨_, cl, h1, _⟩ := A; exact h1.lt
theorem own_Ar.ext (A : own_Ar Z h a ty vs) (E : Ext h h') : own_Ar Z h' a ty vs := by obtain ⟨q, cl, h1, r⟩ := A; exact ⟨q, cl, h1.ext E, r⟩
theorem own_Ar.other (A : own_Ar Z h a ty vs) (W : Wr h h' b sl w) (q : a ≠ b) : own_Ar Z h' a ty vs := by obtain ⟨z, cl, h1, r⟩ := A; exact ⟨z, cl, h1.other W q, r⟩
theorem own_Ar.keep (A : own_Ar Z h a ty vs) (K : Keep h h' ws) (q : a ∉ ws) : own_Ar Z h' a ty vs := by obtain ⟨z, cl, h1, r⟩ := A; exact ⟨z, cl, ⟨K.2.1 a cl h1.1 q, h1.2⟩, r⟩
theorem own_Ar.set (A : own_Ar Z h a ty vs) {i : Nat} (W : Wr h h' a i w) : own_Ar Z h' a ty (vs.set i w) := by
  obtain ⟨z, cl, h1, r⟩ := A
  refine ⟨by rw [List.length_set]; exact z, cl.setSlot i w, h1.same W, ?_⟩
  rw [← r]; simp [Cell.setSlot]
theorem own_Ar.new {k : ClassId} {z : Int32} (A : Arr Z h a (newA k ty z) ty) (q : ¬ z < 0) : own_Ar Z h a ty (List.replicate z.toNatClampNeg (defaultValue ty)) :=
  ⟨by rw [List.length_replicate]; exact (back32 q).2, _, A, by simp [newA]⟩
theorem own_Ar.cast {us : List Value} (A : own_Ar Z h a ty vs) (q : vs = us) : own_Ar Z h a ty us := q ▸ A
theorem own_Ar.ne {C : String} {a0 : Array Value} {k : Nat} (A : own_Ar Z h b ty vs) (F : Exa Z h a C) (wi : (Cond.instantiable C k).before a0 Z = true) : a ≠ b := by obtain ⟨_, cl, h1, _⟩ := A; exact ne_arr F wi h1
theorem own_in {cl : Cell} (r : cl.slots.toList = vs) {j : Int32} {i : Nat} (h0 : ¬ j < 0) (hj : j.toNatClampNeg = i) (hi : i < vs.length) : ¬ (j < 0 ∨ cl.slots.size ≤ j.toNatClampNeg) := by
  have : cl.slots.size = vs.length := by rw [← r]; simp
  rintro (q | q)
  · exact h0 q
  · omega
theorem own_at {cl : Cell} (r : cl.slots.toList = vs) {j : Int32} {i : Nat} (hj : j.toNatClampNeg = i) {v : Value} (hv : vs[i]? = some v) : cl.slots[j.toNatClampNeg]? = some v := by
  rw [hj, ← Array.getElem?_toList, r]; exact hv
theorem own_alen (X : Stand p l e R s m args below meth c T locs cells slots) (hx : p.tables.exec = Jvm.exec) (hZ : Z.Warmed39 s.vm) (eT : T.heap = h) (A : own_Ar Z h a ty vs) {n : Nat} {z : Int32} (hn : vs.length = n) (hz : Int32.ofNat n = z) {pc : Nat} {Ls : Array Slot} {st : List Value} (hd : decode c.code pc = .ok (.arraylength, 1)) (t : State)
    (k : Steps p.tables e below (T.setTop (mkF m (pc + 1) Ls (.int z :: st))) t) : Steps p.tables e below (T.setTop (mkF m pc Ls (.ref a :: st))) t := by
  obtain ⟨_, cl, h1, r⟩ := A
  refine X.arraylength hx (by rw [eT]; exact h1.1) (State.isArrayOf_alike hZ.alike h1.2.1) (g := mkF m pc Ls (.ref a :: st)) rfl rfl hd _ ?_
  have : cl.slots.size = n := by rw [← hn, ← r]; simp
  rw [this, show n.toInt32 = z from hz]; exact k
theorem own_iaload (X : Stand p l e R s m args below meth c T locs cells slots) (hx : p.tables.exec = Jvm.exec) (hZ : Z.Warmed39 s.vm) (eT : T.heap = h) (A : own_Ar Z h a .int vs) {j : Int32} {i : Nat} {v : Value} (h0 : ¬ j < 0) (hj : j.toNatClampNeg = i) (hv : vs[i]? = some v) {pc : Nat} {Ls : Array Slot} {st : List Value} (hd : decode c.code pc = .ok (.iaload, 1)) (t : State)
    (k : Steps p.tables e below (T.setTop (mkF m (pc + 1) Ls (v :: st))) t) : Steps p.tables e below (T.setTop (mkF m pc Ls (.int j :: .ref a :: st))) t := by
  obtain ⟨z, cl, h1, r⟩ := A
  exact X.iaload hx (by rw [eT]; exact h1.1) (State.isArrayOf_alike hZ.alike h1.2.1) h1.2.2 (own_in r h0 hj (List.getElem?_eq_some_iff.mp hv).1) (own_at r hj hv) (g := mkF m pc Ls (.int j :: .ref a :: st)) rfl rfl hd _ k
theorem own_laload (X : Stand p l e R s m args below meth c T locs cells slots) (hx : p.tables.exec = Jvm.exec) (hZ : Z.Warmed39 s.vm) (eT : T.heap = h) (A : own_Ar Z h a .long vs) {j : Int32} {i : Nat} {v : Value} (h0 : ¬ j < 0) (hj : j.toNatClampNeg = i) (hv : vs[i]? = some v) {pc : Nat} {Ls : Array Slot} {st : List Value} (hd : decode c.code pc = .ok (.laload, 1)) (t : State)
    (k : Steps p.tables e below (T.setTop (mkF m (pc + 1) Ls (v :: st))) t) : Steps p.tables e below (T.setTop (mkF m pc Ls (.int j :: .ref a :: st))) t := by
  obtain ⟨z, cl, h1, r⟩ := A
  exact X.laload hx (by rw [eT]; exact h1.1) (State.isArrayOf_alike hZ.alike h1.2.1) h1.2.2 (own_in r h0 hj (List.getElem?_eq_some_iff.mp hv).1) (own_at r hj hv) (g := mkF m pc Ls (.int j :: .ref a :: st)) rfl rfl hd _ k
theorem own_baload (X : Stand p l e R s m args below meth c T locs cells slots) (hx : p.tables.exec = Jvm.exec) (hZ : Z.Warmed39 s.vm) (eT : T.heap = h) (A : own_Ar Z h a .byte vs) {j : Int32} {i : Nat} {v : Value} (h0 : ¬ j < 0) (hj : j.toNatClampNeg = i) (hv : vs[i]? = some v) {pc : Nat} {Ls : Array Slot} {st : List Value} (hd : decode c.code pc = .ok (.baload, 1)) (t : State)
    (k : Steps p.tables e below (T.setTop (mkF m (pc + 1) Ls (v :: st))) t) : Steps p.tables e below (T.setTop (mkF m pc Ls (.int j :: .ref a :: st))) t := by
  obtain ⟨z, cl, h1, r⟩ := A
  exact X.baloadBytes hx (by rw [eT]; exact h1.1) (State.isArrayOf_alike hZ.alike h1.2.1) h1.2.2 (own_in r h0 hj (List.getElem?_eq_some_iff.mp hv).1) (own_at r hj hv) (g := mkF m pc Ls (.int j :: .ref a :: st)) rfl rfl hd _ k
theorem own_aaload (X : Stand p l e R s m args below meth c T locs cells slots) (hx : p.tables.exec = Jvm.exec) (hZ : Z.Warmed39 s.vm) (eT : T.heap = h) (A : own_Ar Z h a ty vs) (hty : ty.isReference = true) {j : Int32} {i : Nat} {v : Value} (h0 : ¬ j < 0) (hj : j.toNatClampNeg = i) (hv : vs[i]? = some v) {pc : Nat} {Ls : Array Slot} {st : List Value} (hd : decode c.code pc = .ok (.aaload, 1)) (t : State)
    (k : Steps p.tables e below (T.setTop (mkF m (pc + 1) Ls (v :: st))) t) : Steps p.tables e below (T.setTop (mkF m pc Ls (.int j :: .ref a :: st))) t := by
  obtain ⟨z, cl, h1, r⟩ := A
  exact X.aaload hx (by rw [eT]; exact h1.1) (State.isArrayOf_alike hZ.alike h1.2.1) hty h1.2.2 (own_in r h0 hj (List.getElem?_eq_some_iff.mp hv).1) (own_at r hj hv) (g := mkF m pc Ls (.int j :: .ref a :: st)) rfl rfl hd _ k
theorem own_iastore (X : Stand p l e R s m args below meth c T locs cells slots) (hx : p.tables.exec = Jvm.exec) (hZ : Z.Warmed39 s.vm) (eT : T.heap = h) (A : own_Ar Z h a .int vs) {j x : Int32} {i : Nat} (h0 : ¬ j < 0) (hj : j.toNatClampNeg = i) (hi : i < vs.length) {pc : Nat} {Ls : Array Slot} {st : List Value} (hd : decode c.code pc = .ok (.iastore, 1)) :
    ∃ T' h', Stand p l e R s m args below meth c T' (locs ++ [⟨a, i⟩]) cells slots ∧ T'.heap = h' ∧ Wr h h' a i (.int x) ∧ own_Ar Z h' a .int (vs.set i (.int x)) ∧ ∀ t, Steps p.tables e below (T'.setTop (mkF m (pc + 1) Ls st)) t → Steps p.tables e below (T.setTop (mkF m pc Ls (.int x :: .int j :: .ref a :: st))) t := by
  have A' := A
  obtain ⟨z, cl, h1, r⟩ := A
  obtain ⟨T', h', X', e', W, k⟩ := stI X hx hZ eT h1 (j := j) (x := x) (own_in r h0 hj hi) (g := mkF m pc Ls (.int x :: .int j :: .ref a :: st)) rfl rfl hd
  rw [hj] at X' W
  exact ⟨T', h', X', e', W, A'.set W, k⟩
theorem own_lastore (X : Stand p l e R s m args below meth c T locs cells slots) (hx : p.tables.exec = Jvm.exec) (hZ : Z.Warmed39 s.vm) (eT : T.heap = h) (A : own_Ar Z h a .long vs) {j : Int32} {x : Int64} {i : Nat} (h0 : ¬ j < 0) (hj : j.toNatClampNeg = i) (hi : i < vs.length) {pc : Nat} {Ls : Array Slot} {st : List Value} (hd : decode c.code pc = .ok (.lastore, 1)) :
    ∃ T' h', Stand p l e R s m args below meth c T' (locs ++ [⟨a, i⟩]) cells slots ∧ T'.heap = h' ∧ Wr h h' a i (.long x) ∧ own_Ar Z h' a .long (vs.set i (.long x)) ∧ ∀ t, Steps p.tables e below (T'.setTop (mkF m (pc + 1) Ls st)) t → Steps p.tables e below (T.setTop (mkF m pc Ls (.long x :: .int j :: .ref a :: st))) t := by
  have A' := A
  obtain ⟨z, cl, h1, r⟩ := A
  obtain ⟨T', h', X', e', W, k⟩ := stJ X hx hZ eT h1 (j := j) (x := x) (own_in r h0 hj hi) (g := mkF m pc Ls (.long x :: .int j :: .ref a :: st)) rfl rfl hd
  rw [hj] at X' W
  exact ⟨T', h', X', e', W, A'.set W, k⟩
theorem own_bastore (X : Stand p l e R s m args below meth c T locs cells slots) (hx : p.tables.exec = Jvm.exec) (hZ : Z.Warmed39 s.vm) (eT : T.heap = h) (A : own_Ar Z h a .byte vs) {j x : Int32} {i : Nat} (h0 : ¬ j < 0) (hj : j.toNatClampNeg = i) (hi : i < vs.length) {pc : Nat} {Ls : Array Slot} {st : List Value} (hd : decode c.code pc = .ok (.bastore, 1)) :
    ∃ T' h', Stand p l e R s m args below meth c T' (locs ++ [⟨a, i⟩]) cells slots ∧ T'.heap = h' ∧ Wr h h' a i (.int (nar .byte x)) ∧ own_Ar Z h' a .byte (vs.set i (.int (nar .byte x))) ∧ ∀ t, Steps p.tables e below (T'.setTop (mkF m (pc + 1) Ls st)) t → Steps p.tables e below (T.setTop (mkF m pc Ls (.int x :: .int j :: .ref a :: st))) t := by
  have A' := A
  obtain ⟨z, cl, h1, r⟩ := A
  obtain ⟨T', h', X', e', W, k⟩ := stB X hx hZ eT h1 (j := j) (x := x) (own_in r h0 hj hi) (g := mkF m pc Ls (.int x :: .int j :: .ref a :: st)) rfl rfl hd
  rw [hj] at X' W
  exact ⟨T', h', X', e', W, A'.set W, k⟩
end OwnArr

/-- the array at a is one of long[] -/
def own_Bl (Z : State) (h : Heap) (a : Addr) : Prop := ∃ cl : Cell, h[a]? = some cl ∧ OvrA Z cl.cls .long "[J"
section OwnGrid
variable {p : Program} {l : Launch} {e : Env} {R : Room} {s : State} {m : MethodId} {args : Array Value} {below : List Frame} {meth : Method} {c : Code} {T : State} {locs : List Loc} {cells slots : Nat} {Z : State} {h h' : Heap} {a b : Addr} {vs : List Value} {ws : List Addr} {a0 : Array Value}
theorem own_Bl.ext (B : own_Bl Z h a) (E : Ext h h') : own_Bl Z h' a := by obtain ⟨cl, h1, r⟩ := B; exact ⟨cl, E.2 _ _ h1, r⟩
theorem own_Bl.keep (B : own_Bl Z h a) (K : Keep h h' ws) : own_Bl Z h' a := by
  obtain ⟨cl, h1, r⟩ := B
  obtain ⟨c', q1, q2, -⟩ := K.2.2 _ _ h1
  exact ⟨c', q1, by rw [q2]; exact r⟩
theorem own_Bl.wr {sl : Nat} {w : Value} (B : own_Bl Z h a) (W : Wr h h' b sl w) : own_Bl Z h' a := B.keep (Keep.of_wr W)
theorem own_newJ (X : Stand p l e R s m args below meth c T locs cells slots) (hx : p.tables.exec = Jvm.exec) (hZ : Z.Warmed39 s.vm) (w : (Cond.arrayClass .long).before a0 Z = true) (eT : T.heap = h) {g : JFrame} (hg : g.method = m) (hd : decode c.code g.pc = .ok (.newarray .long, 2)) {n : Int32} {rest : List Value} (hs : g.stack = .int n :: rest)
    (hn : ¬ n < 0) {cap : Nat} (hcap : n.toNatClampNeg ≤ cap) (hb : cap * 8 ≤ 536870912) (hc : cells + 1 ≤ R.cells) (hl : slots + cap ≤ R.slots) :
    ∃ T' h' cA, Stand p l e R s m args below meth c T' locs (cells + 1) (slots + cap) ∧ T'.heap = h' ∧ Ext h h' ∧ Arr Z h' h.size (newA cA .long n) .long ∧ Exa Z h' h.size "[J" ∧
      ∀ target, Steps p.tables e below (T'.setTop { g with pc := g.pc + 2, stack := .ref h.size :: rest }) target → Steps p.tables e below (T.setTop g) target := by
  have hcb : componentBytes (newarray.typeOf .long) ≤ 8 := by decide
  obtain ⟨cA, kA, comp, h1, h2, h3, X', st⟩ := X.newarrayPrim (atype := .long) hx (mvA hZ w) hg hd hs hn (Nat.le_trans (Nat.mul_le_mul hcap hcb) hb) hc (by omega)
  subst eT
  rw [hZ.alike.findClass] at h1
  obtain ⟨kZ, z1, -⟩ := Vm.findClass_spec h1
  obtain ⟨k', z2, z3⟩ := hZ.alike.2.2 _ _ z1
  cases h2.symm.trans z2
  have h3' : kA.kind = .array comp .long := h3
  have A : Arr Z (T.heap.push (newA cA .long n)) T.heap.size (newA cA .long n) .long := ⟨by simp, ⟨by simp [newA], kZ, z1, comp, by rw [← h3', z3]⟩, by simp [newA]⟩
  exact ⟨_, _, cA, X'.more (Nat.le_refl _) (by omega), rfl, ext_of fun a q => Array.getElem?_push_lt q |>.trans (Array.getElem?_eq_getElem q).symm, A, exa_arr A (show Z.vm.findClass "[J" = some cA from h1) rfl, st⟩
theorem own_aastore (X : Stand p l e R s m args below meth c T locs cells slots) (hx : p.tables.exec = Jvm.exec) (hZ : Z.Warmed39 s.vm) (eT : T.heap = h) (A : own_Ar Z h a (.array .long) vs) (B : own_Bl Z h a) (I : Ins Z h b "[J" true) {j : Int32} {i : Nat} (h0 : ¬ j < 0) (hj : j.toNatClampNeg = i) (hi : i < vs.length) {pc : Nat} {Ls : Array Slot} {st : List Value} (hd : decode c.code pc = .ok (.aastore, 1)) :
    ∃ T' h', Stand p l e R s m args below meth c T' (locs ++ [⟨a, i⟩]) cells slots ∧ T'.heap = h' ∧ Wr h h' a i (.ref b) ∧ own_Ar Z h' a (.array .long) (vs.set i (.ref b)) ∧ ∀ t, Steps p.tables e below (T'.setTop (mkF m (pc + 1) Ls st)) t → Steps p.tables e below (T.setTop (mkF m pc Ls (.ref b :: .int j :: .ref a :: st))) t := by
  have A' := A
  obtain ⟨z, cl, h1, r⟩ := A
  obtain ⟨cl', q1, O⟩ := B
  cases h1.1.symm.trans q1
  obtain ⟨T', h', X', e', W, k⟩ := stR X hx hZ eT h1 (j := j) (v := .ref b) (own_in r h0 hj hi) rfl (Sto.ofVA h1 rfl O I) (g := mkF m pc Ls (.ref b :: .int j :: .ref a :: st)) rfl rfl hd
  rw [hj] at X' W
  exact ⟨T', h', X', e', W, A'.set W, k⟩
end OwnGrid
/-- one page of the counts -/
def own_pg (cnt : Nat → Int64) (i : Nat) : List Value := (List.range 256).map fun j => Value.long (cnt (256 * i + j))
def own_pv (B : Nat → Option Addr) : List Value := (List.range 256).map fun i => match B i with | none => Value.null | some b => Value.ref b
def own_up (cnt : Nat → Int64) (x : Nat) (y : Int64) : Nat → Int64 := fun z => if z = x then y else cnt z
theorem own_pg_len (cnt : Nat → Int64) (i : Nat) : (own_pg cnt i).length = 256 := by simp [own_pg]
theorem own_pv_len (B : Nat → Option Addr) : (own_pv B).length = 256 := by simp [own_pv]
theorem own_pg_at (cnt : Nat → Int64) (i : Nat) {j : Nat} (hj : j < 256) : (own_pg cnt i)[j]? = some (.long (cnt (256 * i + j))) := by
  simp [own_pg, List.getElem?_map, List.getElem?_range hj]
theorem own_pv_at (B : Nat → Option Addr) {i : Nat} (hi : i < 256) : (own_pv B)[i]? = some (match B i with | none => Value.null | some b => Value.ref b) := by
  simp only [own_pv, List.getElem?_map, List.getElem?_range hi, Option.map_some]
theorem own_pg_set (cnt : Nat → Int64) (i : Nat) {r : Nat} (hr : r < 256) (y : Int64) : (own_pg cnt i).set r (.long y) = own_pg (own_up cnt (256 * i + r) y) i := by
  apply List.ext_getElem?
  intro k
  rw [List.getElem?_set]
  by_cases hk : k < 256
  · rw [own_pg_at _ _ hk, own_pg_at _ _ hk, own_pg_len]
    by_cases e : r = k
    · subst e; simp [own_up, hr]
    · simp [own_up, e]; omega
  · rw [List.getElem?_eq_none (by rw [own_pg_len]; omega), List.getElem?_eq_none (by rw [own_pg_len]; omega)]
    split
    · omega
    · rfl
theorem own_pg_other (cnt : Nat → Int64) {i i' r : Nat} (hr : r < 256) (hne : i' ≠ i) (y : Int64) : own_pg (own_up cnt (256 * i + r) y) i' = own_pg cnt i' := by
  apply List.map_congr_left
  intro j hj
  have := List.mem_range.mp hj
  simp only [own_up]
  rw [if_neg (by omega)]
theorem own_pv_set (B : Nat → Option Addr) {i : Nat} (hi : i < 256) (b : Addr) : (own_pv B).set i (.ref b) = own_pv (fun z => if z = i then some b else B z) := by
  apply List.ext_getElem?
  intro k
  rw [List.getElem?_set]
  by_cases hk : k < 256
  · rw [own_pv_at _ hk, own_pv_at _ hk, own_pv_len]
    by_cases e : i = k
    · subst e; simp [hi]
    · have e' : ¬ k = i := fun q => e q.symm
      simp [e, e']
  · rw [List.getElem?_eq_none (by rw [own_pv_len]; omega), List.getElem?_eq_none (by rw [own_pv_len]; omega)]
    split
    · omega
    · rfl
/-- the counts, page by page -/
def own_UC (Z : State) (h : Heap) (n0 : Nat) (pa : Addr) (B : Nat → Option Addr) (cnt : Nat → Int64) : Prop :=
  n0 ≤ pa ∧ own_Bl Z h pa ∧ own_Ar Z h pa (.array .long) (own_pv B) ∧ (∀ i, i < 256 → B i = none → ∀ j, j < 256 → cnt (256 * i + j) = 0) ∧ (∀ i, i < 256 → ∀ b, B i = some b → n0 ≤ b ∧ b ≠ pa ∧ own_Ar Z h b .long (own_pg cnt i)) ∧ (∀ i i' b, i < 256 → i' < 256 → B i = some b → B i' = some b → i = i')
theorem own_pv0 : List.replicate 256 Value.null = own_pv (fun _ => none) := by
  apply List.ext_getElem?
  intro k
  by_cases hk : k < 256
  · rw [own_pv_at _ hk, List.getElem?_replicate, if_pos hk]
  · rw [List.getElem?_eq_none (by rw [List.length_replicate]; omega), List.getElem?_eq_none (by rw [own_pv_len]; omega)]
theorem own_UC0 {Z : State} {h : Heap} {n0 : Nat} {pa : Addr} (g : n0 ≤ pa) (b : own_Bl Z h pa) (A : own_Ar Z h pa (.array .long) (List.replicate 256 .null)) : own_UC Z h n0 pa (fun _ => none) (fun _ => 0) :=
  ⟨g, b, A.cast own_pv0, fun _ _ _ _ _ => rfl, fun _ _ _ q => (by cases q), fun _ _ _ _ _ q => (by cases q)⟩
/-- one more of x, its page is there -/
theorem own_UC_inc {Z : State} {h h' : Heap} {n0 : Nat} {pa b : Addr} {B : Nat → Option Addr} {cnt : Nat → Int64} (U : own_UC Z h n0 pa B cnt) {i r : Nat} (hi : i < 256) (hr : r < 256) (hB : B i = some b) {y : Int64} (W : Wr h h' b r (.long y)) : own_UC Z h' n0 pa B (own_up cnt (256 * i + r) y) := by
  obtain ⟨u1, u2, u3, u4, u5, u6⟩ := U
  obtain ⟨v1, v2, v3⟩ := u5 i hi b hB
  refine ⟨u1, u2.wr W, u3.other W (Ne.symm v2), ?_, ?_, u6⟩
  · intro i' hi' hn j hj
    simp only [own_up]
    rw [if_neg ?_]
    · exact u4 i' hi' hn j hj
    · intro q
      have : i' = i := by omega
      rw [this, hB] at hn; cases hn
  · intro i' hi' b' hb'
    obtain ⟨w1, w2, w3⟩ := u5 i' hi' b' hb'
    refine ⟨w1, w2, ?_⟩
    by_cases e : i' = i
    · subst e
      cases hB.symm.trans hb'
      exact (v3.set W).cast (own_pg_set cnt i' hr y)
    · rw [own_pg_other cnt hr e y]
      exact w3.other W (fun q => e (u6 i' i b hi' hi (q ▸ hb') hB))
/-- a new page, with one x -/
theorem own_UC_new {Z : State} {h h1 h2 h3 : Heap} {n0 : Nat} {pa b : Addr} {B : Nat → Option Addr} {cnt : Nat → Int64} (U : own_UC Z h n0 pa B cnt) {i r : Nat} (hi : i < 256) (hr : r < 256) (hB : B i = none) (E : Ext h h1) (hb : h.size ≤ b) (g : n0 ≤ b) {y : Int64} (W1 : Wr h1 h2 pa i (.ref b)) (A2 : own_Ar Z h2 b .long (List.replicate 256 (.long 0))) (W2 : Wr h2 h3 b r (.long y)) : own_UC Z h3 n0 pa (fun z => if z = i then some b else B z) (own_up cnt (256 * i + r) y) := by
  obtain ⟨u1, u2, u3, u4, u5, u6⟩ := U
  have ne : ∀ a, a < h.size → a ≠ b := fun a q z => by omega
  have npa : pa ≠ b := ne _ u3.lt
  refine ⟨u1, ((u2.ext E).wr W1).wr W2, (((u3.ext E).set W1).other W2 npa).cast (own_pv_set B hi b), ?_, ?_, ?_⟩
  · intro i' hi' hn j hj
    simp only at hn
    by_cases e : i' = i
    · rw [if_pos e] at hn; cases hn
    · rw [if_neg e] at hn
      simp only [own_up]
      rw [if_neg (by omega)]
      exact u4 i' hi' hn j hj
  · intro i' hi' b' hb'
    simp only at hb'
    by_cases e : i' = i
    · subst e
      rw [if_pos rfl] at hb'
      cases hb'
      refine ⟨g, Ne.symm npa, (A2.set W2).cast ?_⟩
      have : (List.replicate 256 (Value.long 0)) = own_pg cnt i' := by
        apply List.ext_getElem?
        intro k
        by_cases hk : k < 256
        · rw [own_pg_at _ _ hk, u4 i' hi' hB k hk, List.getElem?_replicate, if_pos hk]
        · rw [List.getElem?_eq_none (by rw [List.length_replicate]; omega), List.getElem?_eq_none (by rw [own_pg_len]; omega)]
      rw [this]; exact own_pg_set cnt i' hr y
    · rw [if_neg e] at hb'
      obtain ⟨w1, w2, w3⟩ := u5 i' hi' b' hb'
      rw [own_pg_other cnt hr e y]
      exact ⟨w1, w2, ((w3.ext E).other W1 w2).other W2 (ne _ w3.lt)⟩
  · intro i1 i2 b' hi1 hi2 q1 q2
    simp only at q1 q2
    by_cases e1 : i1 = i
    · by_cases e2 : i2 = i
      · rw [e1, e2]
      · rw [if_pos e1] at q1; rw [if_neg e2] at q2; cases q1
        exact absurd rfl (ne _ (u5 i2 hi2 _ q2).2.2.lt)
    · by_cases e2 : i2 = i
      · rw [if_neg e1] at q1; rw [if_pos e2] at q2; cases q2
        exact absurd rfl (ne _ (u5 i1 hi1 _ q1).2.2.lt)
      · rw [if_neg e1] at q1; rw [if_neg e2] at q2
        exact u6 i1 i2 b' hi1 hi2 q1 q2
/-! the units held below x, and their keys -/
def own_us (cnt : Nat → Int64) (x : Nat) : List Nat := (List.range x).filter fun z => decide (0 < cnt z)
def own_key (cnt : Nat → Int64) (x : Nat) : Int64 := ((-(cnt x)) <<< ((16 : Int32) &&& 0x3f).toInt64) ||| (Int32.ofNat x).toInt64
theorem own_us_T {cnt : Nat → Int64} {x : Nat} (h : 0 < cnt x) : own_us cnt (x + 1) = own_us cnt x ++ [x] := by
  simp [own_us, List.range_succ, List.filter_append, h]
theorem own_us_F {cnt : Nat → Int64} {x : Nat} (h : ¬ 0 < cnt x) : own_us cnt (x + 1) = own_us cnt x := by
  simp [own_us, List.range_succ, List.filter_append, h]
theorem own_us_page {cnt : Nat → Int64} {i : Nat} (h : ∀ j, j < 256 → cnt (256 * i + j) = 0) : own_us cnt (256 * (i + 1)) = own_us cnt (256 * i) := by
  have key : ∀ j, j ≤ 256 → own_us cnt (256 * i + j) = own_us cnt (256 * i) := by
    intro j
    induction j with
    | zero => intro _; rfl
    | succ j ih =>
      intro hj
      rw [show 256 * i + (j + 1) = (256 * i + j) + 1 from rfl, own_us_F (by rw [h j (by omega)]; decide), ih (by omega)]
  exact key 256 (Nat.le_refl _)
theorem own_us_le {cnt : Nat → Int64} {x : Nat} : ∀ d, (own_us cnt x).length ≤ (own_us cnt (x + d)).length := by
  intro d
  induction d with
  | zero => exact Nat.le_refl _
  | succ d ih =>
    refine Nat.le_trans ih ?_
    rw [show x + (d + 1) = (x + d) + 1 from rfl]
    by_cases h : 0 < cnt (x + d)
    · rw [own_us_T h]; simp
    · rw [own_us_F h]; exact Nat.le_refl _
theorem own_us_lt {cnt : Nat → Int64} {x n : Nat} (h : 0 < cnt x) (hx : x < n) : (own_us cnt x).length < (own_us cnt n).length := by
  have := own_us_le (cnt := cnt) (x := x + 1) (n - (x + 1))
  rw [show x + 1 + (n - (x + 1)) = n from by omega, own_us_T h] at this
  simp at this; omega
/-- the keys' array while it is filled -/
def own_kv (cnt : Nat → Int64) (H x : Nat) : List Value := ((own_us cnt x).map fun z => Value.long (own_key cnt z)) ++ List.replicate (H - (own_us cnt x).length) (.long 0)
theorem own_kv_F {cnt : Nat → Int64} {H x : Nat} (h : ¬ 0 < cnt x) : own_kv cnt H (x + 1) = own_kv cnt H x := by rw [own_kv, own_us_F h]; rfl
theorem own_kv_page {cnt : Nat → Int64} {H i : Nat} (h : ∀ j, j < 256 → cnt (256 * i + j) = 0) : own_kv cnt H (256 * (i + 1)) = own_kv cnt H (256 * i) := by rw [own_kv, own_us_page h]; rfl
theorem own_kv_len {cnt : Nat → Int64} {H x : Nat} (h : (own_us cnt x).length ≤ H) : (own_kv cnt H x).length = H := by simp [own_kv]; omega
theorem own_kv_T {cnt : Nat → Int64} {H x : Nat} (h : 0 < cnt x) (hH : (own_us cnt x).length < H) : (own_kv cnt H x).set (own_us cnt x).length (.long (own_key cnt x)) = own_kv cnt H (x + 1) := by
  obtain ⟨d, hd⟩ : ∃ d, H - (own_us cnt x).length = d + 1 := ⟨H - (own_us cnt x).length - 1, by omega⟩
  have hd' : H - (own_us cnt (x + 1)).length = d := by rw [own_us_T h]; simp; omega
  rw [own_kv, own_kv, hd, hd', own_us_T h, List.map_append, List.replicate_succ]
  rw [List.set_append_right _ _ (by simp)]
  simp
section OwnChar
variable {p : Program} {l : Launch} {e : Env} {R : Room} {s : State} {m : MethodId} {args : Array Value} {below : List Frame} {meth : Method} {c : Code} {T : State} {locs : List Loc} {cells slots : Nat} {Z : State} {h h' : Heap} {a b : Addr} {vs : List Value}
theorem own_caload (X : Stand p l e R s m args below meth c T locs cells slots) (hx : p.tables.exec = Jvm.exec) (hZ : Z.Warmed39 s.vm) (eT : T.heap = h) (A : own_Ar Z h a .char vs) {j : Int32} {i : Nat} {v : Value} (h0 : ¬ j < 0) (hj : j.toNatClampNeg = i) (hv : vs[i]? = some v) {pc : Nat} {Ls : Array Slot} {st : List Value} (hd : decode c.code pc = .ok (.caload, 1)) (t : State)
    (k : Steps p.tables e below (T.setTop (mkF m (pc + 1) Ls (v :: st))) t) : Steps p.tables e below (T.setTop (mkF m pc Ls (.int j :: .ref a :: st))) t := by
  obtain ⟨z, cl, h1, r⟩ := A
  exact X.caload hx (by rw [eT]; exact h1.1) (State.isArrayOf_alike hZ.alike h1.2.1) h1.2.2 (own_in r h0 hj (List.getElem?_eq_some_iff.mp hv).1) (own_at r hj hv) (g := mkF m pc Ls (.int j :: .ref a :: st)) rfl rfl hd _ k
theorem own_castore (X : Stand p l e R s m args below meth c T locs cells slots) (hx : p.tables.exec = Jvm.exec) (hZ : Z.Warmed39 s.vm) (eT : T.heap = h) (A : own_Ar Z h a .char vs) {j x : Int32} {i : Nat} (h0 : ¬ j < 0) (hj : j.toNatClampNeg = i) (hi : i < vs.length) {pc : Nat} {Ls : Array Slot} {st : List Value} (hd : decode c.code pc = .ok (.castore, 1)) :
    ∃ T' h', Stand p l e R s m args below meth c T' (locs ++ [⟨a, i⟩]) cells slots ∧ T'.heap = h' ∧ Wr h h' a i (.int (nar .char x)) ∧ own_Ar Z h' a .char (vs.set i (.int (nar .char x))) ∧ ∀ t, Steps p.tables e below (T'.setTop (mkF m (pc + 1) Ls st)) t → Steps p.tables e below (T.setTop (mkF m pc Ls (.int x :: .int j :: .ref a :: st))) t := by
  have A' := A
  obtain ⟨z, cl, h1, r⟩ := A
  obtain ⟨T', h', X', e', W, k⟩ := stC X hx hZ eT h1 (j := j) (x := x) (own_in r h0 hj hi) (g := mkF m pc Ls (.int x :: .int j :: .ref a :: st)) rfl rfl hd
  rw [hj] at X' W
  exact ⟨T', h', X', e', W, A'.set W, k⟩
end OwnChar
theorem own_nn {i : Nat} (h : i < 2 ^ 31) : ¬ Int32.ofNat i < 0 := by
  rw [Int32.lt_iff_toInt_lt, Int32.toInt_ofNat_small h, show (0 : Int32).toInt = 0 from rfl]; omega
theorem own_nc {i : Nat} (h : i < 2 ^ 31) : (Int32.ofNat i).toNatClampNeg = i := by
  rw [Int32.toNatClampNeg, Int32.toInt_ofNat_small h]; rfl
theorem own_eqN {z : Int32} {n : Nat} (h : z.toInt = n) (hn : n < 2 ^ 31) : z = Int32.ofNat n := by
  apply Int32.toInt_inj.mp; rw [Int32.toInt_ofNat_small hn]; exact h
theorem own_dv {i r : Nat} (hi : i < 256) (hr : r < 256) : Int32.ofNat (256 * i + r) / (256 : Int32) = Int32.ofNat i := by
  have e := Int32.toInt_ofNat_small (n := 256 * i + r) (by omega)
  have h := Jvm.Kit.i32_div (x := Int32.ofNat (256 * i + r)) (y := 256) (by rw [show (256 : Int32).toInt = 256 from rfl]; omega)
  refine own_eqN ?_ (by omega)
  rw [h, e, show (256 : Int32).toInt = 256 from rfl, Int.tdiv_eq_ediv_of_nonneg (by omega)]; omega
theorem own_rm {i r : Nat} (hi : i < 256) (hr : r < 256) : Int32.ofNat (256 * i + r) % (256 : Int32) = Int32.ofNat r := by
  have e := Int32.toInt_ofNat_small (n := 256 * i + r) (by omega)
  have h := Jvm.Kit.i32_rem_nonneg (x := Int32.ofNat (256 * i + r)) (y := 256) (by omega)
  refine own_eqN ?_ (by omega)
  rw [h, e, show (256 : Int32).toInt = 256 from rfl]; omega
def own_pair (a b : Slot) : Prop := (a = .unset ∧ b = .unset) ∨ ∃ z : Int64, a = .val (.long z) ∧ b = .second
def own_one (a : Slot) : Prop := a = .unset ∨ ∃ w, a = .val w ∧ w.category = 1
theorem own_pairL (z : Int64) : own_pair (.val (.long z)) .second := Or.inr ⟨z, rfl, rfl⟩
theorem own_oneV {w : Value} (h : w.category = 1) : own_one (.val w) := Or.inr ⟨w, rfl, h⟩
theorem own_st9 {a0 a1 a2 a3 a4 a5 a6 a7 a9 b10 : Slot} {v : Int32} {x : Int64} (h : own_pair a9 b10) : storeLocals #[a0, a1, a2, a3, a4, a5, a6, a7, .val (.int v), a9, b10] 9 (.long x) = some #[a0, a1, a2, a3, a4, a5, a6, a7, .val (.int v), .val (.long x), .second] := by
  rcases h with ⟨rfl, rfl⟩ | ⟨z, rfl, rfl⟩ <;> rfl
theorem own_succ (j : Nat) : Int32.ofNat j + (1 : Int32) = Int32.ofNat (j + 1) := by rw [Int32.ofNat_add]; rfl
theorem own_hT {cnt : Nat → Int64} {x : Nat} (h : 0 < cnt x) : Int32.ofNat (own_us cnt x).length + (1 : Int32) = Int32.ofNat (own_us cnt (x + 1)).length := by
  rw [own_us_T h, List.length_append, Int32.ofNat_add]; rfl
theorem own_lt256 {j : Nat} (h : j < 256) : Int32.ofNat j < (256 : Int32) := by
  rw [Int32.lt_iff_toInt_lt, Int32.toInt_ofNat_small (by omega), show (256 : Int32).toInt = 256 from rfl]; omega
theorem own_mul {i j : Nat} (hi : i < 256) (hj : j < 256) : (Int32.ofNat i * (256 : Int32)) + Int32.ofNat j = Int32.ofNat (256 * i + j) := by
  rw [show (256 : Int32) = Int32.ofNat 256 from rfl, ← Int32.ofNat_mul, ← Int32.ofNat_add, Nat.mul_comm]
/-! bits, keys, the units of one or two -/
theorem own_us1 {cnt : Nat → Int64} {a : Nat} (h : ∀ z, 0 < cnt z ↔ z = a) : ∀ n, own_us cnt n = if a < n then [a] else [] := by
  intro n
  induction n with
  | zero => rfl
  | succ n ih =>
    by_cases e : n = a
    · rw [own_us_T ((h n).mpr e), ih, e]; simp
    · rw [own_us_F (fun q => e ((h n).mp q)), ih]
      by_cases q : a < n
      · rw [if_pos q, if_pos (by omega)]
      · rw [if_neg q, if_neg (by omega)]
theorem own_us2 {cnt : Nat → Int64} {a b : Nat} (hab : a < b) (h : ∀ z, 0 < cnt z ↔ z = a ∨ z = b) : ∀ n, own_us cnt n = (if a < n then [a] else []) ++ (if b < n then [b] else []) := by
  intro n
  induction n with
  | zero => rfl
  | succ n ih =>
    by_cases e : n = a
    · rw [own_us_T ((h n).mpr (Or.inl e)), ih, if_neg (by omega), if_neg (by omega), if_pos (by omega), if_neg (by omega), e]; rfl
    · by_cases e2 : n = b
      · rw [own_us_T ((h n).mpr (Or.inr e2)), ih, if_pos (by omega), if_neg (by omega), if_pos (by omega), if_pos (by omega), e2]; rfl
      · rw [own_us_F (fun q => (by rcases (h n).mp q with w | w; exact e w; exact e2 w)), ih]
        have q1 : (a < n) = (a < n + 1) := propext (by omega)
        have q2 : (b < n) = (b < n + 1) := propext (by omega)
        simp only [q1, q2]
theorem own_char (x : Int32) : ∃ u, u < 65536 ∧ x.toUInt32.toUInt16.toUInt32.toInt32 = Int32.ofNat u := by
  refine ⟨x.toUInt32.toUInt16.toNat, x.toUInt32.toUInt16.toNat_lt, ?_⟩
  apply Int32.toBitVec_inj.mp
  apply BitVec.eq_of_toNat_eq
  show (x.toUInt32.toUInt16.toUInt32).toNat = _
  have := x.toUInt32.toUInt16.toNat_lt
  rw [UInt16.toNat_toUInt32]
  show _ = x.toUInt32.toUInt16.toNat % 2 ^ 32
  omega
theorem own_charN {u : Nat} (h : u < 65536) : (Int32.ofNat u).toUInt32.toUInt16.toUInt32.toInt32 = Int32.ofNat u := by
  apply Int32.toBitVec_inj.mp
  apply BitVec.eq_of_toNat_eq
  show ((Int32.ofNat u).toUInt32.toUInt16.toUInt32).toNat = _
  rw [UInt16.toNat_toUInt32, UInt32.toNat_toUInt16]
  show u % 2 ^ 32 % 2 ^ 16 = u % 2 ^ 32
  omega
theorem own_bi {x : Nat} (h : x < 65536) : (BitVec.ofNat 64 x).toInt = x := by
  have e : (BitVec.ofNat 64 x).toNat = x := by rw [BitVec.toNat_ofNat]; omega
  rw [BitVec.toInt_eq_toNat_of_lt (by rw [e]; omega), e]
theorem own_or {a : Int64} {x : Nat} (h : x < 65536) : ((a <<< ((16 : Int32) &&& 0x3f).toInt64) ||| (Int32.ofNat x).toInt64).toBitVec = (a.toBitVec <<< 16) + BitVec.ofNat 64 x := by
  have e1 : ((Int32.ofNat x).toInt64).toBitVec = BitVec.ofNat 64 x := by
    apply BitVec.eq_of_toInt_eq
    show ((Int32.ofNat x).toInt64).toInt = _
    rw [Int32.toInt_toInt64, Int32.toInt_ofNat_of_lt (by omega), own_bi h]
  have e2 : (a <<< ((16 : Int32) &&& 0x3f).toInt64).toBitVec = a.toBitVec <<< 16 := by
    rw [show ((16 : Int32) &&& 0x3f).toInt64 = (16 : Int64) from by decide, Int64.toBitVec_shiftLeft]; rfl
  rw [Int64.toBitVec_or, e1, e2]
  symm
  apply BitVec.add_eq_or_of_and_eq_zero
  apply BitVec.eq_of_getLsbD_eq
  intro i hi
  rw [BitVec.getLsbD_and, BitVec.getLsbD_shiftLeft, BitVec.getLsbD_ofNat]
  by_cases q : i < 16
  · simp [q]
  · have : Nat.testBit x i = false := Nat.testBit_lt_two_pow (Nat.lt_of_lt_of_le h (Nat.pow_le_pow_right (n := 2) (by decide) (by omega : 16 ≤ i)))
    simp [this]
theorem own_lo {cnt : Nat → Int64} {x : Nat} (h : x < 65536) : (own_key cnt x).toInt32.toUInt32.toUInt16.toUInt32.toInt32 = Int32.ofNat x := by
  apply Int32.toBitVec_inj.mp
  apply BitVec.eq_of_toNat_eq
  show ((own_key cnt x).toInt32.toUInt32.toUInt16.toUInt32).toNat = _
  rw [UInt16.toNat_toUInt32, UInt32.toNat_toUInt16]
  show ((own_key cnt x).toInt32.toBitVec).toNat % 2 ^ 16 = x % 2 ^ 32
  rw [Int64.toBitVec_toInt32, BitVec.signExtend_eq_setWidth_of_le _ (by decide), BitVec.toNat_setWidth, own_key, own_or h, BitVec.toNat_add, BitVec.toNat_shiftLeft, BitVec.toNat_ofNat]
  rw [Nat.shiftLeft_eq]
  omega
theorem own_kI {cnt : Nat → Int64} {x c : Nat} (h : x < 65536) (hc : c ≤ 4) (hx : cnt x = Int64.ofNat c) : (own_key cnt x).toInt = x - 65536 * c := by
  have e : own_key cnt x = Int64.ofInt (x - 65536 * c) := by
    apply Int64.toBitVec_inj.mp
    rw [own_key, own_or h, hx]
    rcases (by omega : c = 0 ∨ c = 1 ∨ c = 2 ∨ c = 3 ∨ c = 4) with rfl | rfl | rfl | rfl | rfl
    all_goals
      apply BitVec.eq_of_toInt_eq
      rw [BitVec.toInt_add]
      show _ = (BitVec.ofInt 64 _).toInt
      rw [BitVec.toInt_ofInt, own_bi h]
    · rw [show ((-Int64.ofNat 0).toBitVec <<< 16).toInt = 0 from by decide]; congr 1; try omega
    · rw [show ((-Int64.ofNat 1).toBitVec <<< 16).toInt = -65536 from by decide]; congr 1; try omega
    · rw [show ((-Int64.ofNat 2).toBitVec <<< 16).toInt = -131072 from by decide]; congr 1; try omega
    · rw [show ((-Int64.ofNat 3).toBitVec <<< 16).toInt = -196608 from by decide]; congr 1; try omega
    · rw [show ((-Int64.ofNat 4).toBitVec <<< 16).toInt = -262144 from by decide]; congr 1; try omega
  rw [e, Int64.toInt_ofInt_of_le (by omega) (by omega)]
theorem own_klt {cnt : Nat → Int64} {x y c d : Nat} (h : x < 65536) (hc : c ≤ 4) (hx : cnt x = Int64.ofNat c) (h' : y < 65536) (hd : d ≤ 4) (hy : cnt y = Int64.ofNat d) : own_key cnt x < own_key cnt y ↔ d < c ∨ (c = d ∧ x < y) := by
  rw [Int64.lt_iff_toInt_lt, own_kI h hc hx, own_kI h' hd hy]; omega
theorem own_b1 (y : BitVec 32) : y &&& 1#32 = if y.getLsbD 0 then 1#32 else 0#32 := by
  apply BitVec.eq_of_getLsbD_eq
  intro i hi
  rw [BitVec.getLsbD_and, BitVec.getLsbD_one]
  by_cases e : i = 0
  · subst e; cases y.getLsbD 0 <;> simp
  · cases y.getLsbD 0 <;> simp [e]
theorem own_b2 (y : BitVec 32) : y &&& 2#32 = if y.getLsbD 1 then 2#32 else 0#32 := by
  apply BitVec.eq_of_getLsbD_eq
  intro i hi
  have t : (2#32).getLsbD i = decide (1 = i) := by
    rw [BitVec.getLsbD_ofNat, show (2 : Nat) = 2 ^ 1 from rfl, Nat.testBit_two_pow]; simp [hi]
  rw [BitVec.getLsbD_and, t]
  by_cases e : 1 = i
  · subst e; cases y.getLsbD 1 <;> simp
  · cases h : y.getLsbD 1 <;> simp [e, t]
theorem own_bits (x : Int32) : (x &&& (1 : Int32) = 0 ∨ x &&& (1 : Int32) = 1) ∧ ((x &&& (2 : Int32) = 0 ∧ (x >>> ((1 : Int32) &&& 31)) &&& (1 : Int32) = 0) ∨ (x &&& (2 : Int32) = 2 ∧ (x >>> ((1 : Int32) &&& 31)) &&& (1 : Int32) = 1)) := by
  have e1 : (x &&& (1 : Int32)).toBitVec = if x.toBitVec.getLsbD 0 then 1#32 else 0#32 := by rw [Int32.toBitVec_and]; exact own_b1 _
  have e2 : (x &&& (2 : Int32)).toBitVec = if x.toBitVec.getLsbD 1 then 2#32 else 0#32 := by rw [Int32.toBitVec_and]; exact own_b2 _
  have e3 : ((x >>> ((1 : Int32) &&& 31)) &&& (1 : Int32)).toBitVec = if x.toBitVec.getLsbD 1 then 1#32 else 0#32 := by
    rw [Int32.toBitVec_and, show ((1 : Int32) &&& 31) = 1 from by decide, Int32.toBitVec_shiftRight]
    refine (own_b1 _).trans ?_
    have : (x.toBitVec.sshiftRight' ((1 : Int32).toBitVec.smod 32)).getLsbD 0 = x.toBitVec.getLsbD 1 := by
      show (x.toBitVec.sshiftRight 1).getLsbD 0 = _
      rw [BitVec.getLsbD_sshiftRight]; simp
    rw [this]
  refine ⟨?_, ?_⟩
  · cases h : x.toBitVec.getLsbD 0 <;> rw [h] at e1
    · exact Or.inl (Int32.toBitVec_inj.mp e1)
    · exact Or.inr (Int32.toBitVec_inj.mp e1)
  · cases h : x.toBitVec.getLsbD 1 <;> rw [h] at e2 e3
    · exact Or.inl ⟨Int32.toBitVec_inj.mp e2, Int32.toBitVec_inj.mp e3⟩
    · exact Or.inr ⟨Int32.toBitVec_inj.mp e2, Int32.toBitVec_inj.mp e3⟩
theorem own_us_mem {cnt : Nat → Int64} {x z : Nat} (h : z ∈ own_us cnt x) : z < x := by
  simp only [own_us, List.mem_filter, List.mem_range] at h; exact h.1
theorem own_char2 (x : Int32) : ∃ i r, i < 256 ∧ r < 256 ∧ x.toUInt32.toUInt16.toUInt32.toInt32 = Int32.ofNat (256 * i + r) := by
  obtain ⟨u, hu, e⟩ := own_char x
  exact ⟨u / 256, u % 256, by omega, by omega, by rw [e]; congr 1; omega⟩
theorem own_iff2 {cnt : Nat → Int64} {a b c d : Nat} (ha : cnt a = Int64.ofNat c) (hb : cnt b = Int64.ofNat d) (hc : 0 < Int64.ofNat c) (hd : 0 < Int64.ofNat d) (h : ∀ z, z ≠ a → z ≠ b → cnt z = 0) : ∀ z, 0 < cnt z ↔ z = a ∨ z = b := by
  intro z
  constructor
  · intro q
    by_cases e : z = a
    · exact Or.inl e
    · by_cases e2 : z = b
      · exact Or.inr e2
      · rw [h z e e2] at q; exact absurd q (by decide)
  · rintro (rfl | rfl)
    · rw [ha]; exact hc
    · rw [hb]; exact hd
theorem own_two {cnt : Nat → Int64} {a b : Nat} (h : ∀ z, 0 < cnt z ↔ z = a ∨ z = b) (hab : a < b) (hb : b < 65536) : own_us cnt 65536 = [a, b] := by
  rw [own_us2 hab h, if_pos (by omega), if_pos hb]; rfl
theorem own_uno {cnt : Nat → Int64} {a c : Nat} (ha : cnt a = Int64.ofNat c) (hc : 0 < Int64.ofNat c) (h : ∀ z, z ≠ a → cnt z = 0) (hb : a < 65536) : own_us cnt 65536 = [a] := by
  rw [own_us1 (a := a) (fun z => (own_iff2 ha ha hc hc (fun z q _ => h z q) z).trans (by simp)), if_pos hb]
theorem own_neI {a b : Nat} (h : a ≠ b) (ha : a < 65536) (hb : b < 65536) : ¬ Int32.ofNat a = Int32.ofNat b := by
  intro q
  have := congrArg Int32.toInt q
  rw [Int32.toInt_ofNat_small (by omega), Int32.toInt_ofNat_small (by omega)] at this; omega
theorem own_ltI {a b : Nat} (ha : a < 65536) (hb : b < 65536) : Int32.ofNat a < Int32.ofNat b ↔ a < b := by
  rw [Int32.lt_iff_toInt_lt, Int32.toInt_ofNat_small (by omega), Int32.toInt_ofNat_small (by omega)]; omega

theorem d1_0 : decode prog_227_method_1_code 0 = .ok (.aload_n 0, 1) := by decide +kernel
theorem d1_1 : decode prog_227_method_1_code 1 = .ok (.invokespecial 1, 3) := by decide +kernel
theorem d1_4 : decode prog_227_method_1_code 4 = .ok (.aload_n 0, 1) := by decide +kernel
theorem d1_5 : decode prog_227_method_1_code 5 = .ok (.sipush 256, 3) := by decide +kernel
theorem d1_8 : decode prog_227_method_1_code 8 = .ok (.anewarray 11, 3) := by decide +kernel
theorem d1_11 : decode prog_227_method_1_code 11 = .ok (.putfield 13, 3) := by decide +kernel
theorem d1_14 : decode prog_227_method_1_code 14 = .ok (.return_, 1) := by decide +kernel
theorem pn_0 : plainName "com/example/wakachi/wakachi/UnitCounts" = true := by first | (simp [plainName, overriddenIn]; done) | decide +kernel
theorem pd_0 : parseMethodDescriptor "()V" = some ⟨[], none⟩ := by decide +kernel
theorem d3_0 : decode prog_227_method_2_code 0 = .ok (.aload_n 0, 1) := by decide +kernel
theorem d3_1 : decode prog_227_method_2_code 1 = .ok (.getfield 13, 3) := by decide +kernel
theorem d3_4 : decode prog_227_method_2_code 4 = .ok (.iload_n 1, 1) := by decide +kernel
theorem d3_5 : decode prog_227_method_2_code 5 = .ok (.sipush 256, 3) := by decide +kernel
theorem d3_8 : decode prog_227_method_2_code 8 = .ok (.idiv, 1) := by decide +kernel
theorem d3_9 : decode prog_227_method_2_code 9 = .ok (.aaload, 1) := by decide +kernel
theorem d3_10 : decode prog_227_method_2_code 10 = .ok (.astore_n 2, 1) := by decide +kernel
theorem d3_11 : decode prog_227_method_2_code 11 = .ok (.aload_n 2, 1) := by decide +kernel
theorem d3_12 : decode prog_227_method_2_code 12 = .ok (.ifnonnull 20, 3) := by decide +kernel
theorem d3_15 : decode prog_227_method_2_code 15 = .ok (.sipush 256, 3) := by decide +kernel
theorem d3_18 : decode prog_227_method_2_code 18 = .ok (.newarray .long, 2) := by decide +kernel
theorem d3_20 : decode prog_227_method_2_code 20 = .ok (.astore_n 2, 1) := by decide +kernel
theorem d3_21 : decode prog_227_method_2_code 21 = .ok (.aload_n 0, 1) := by decide +kernel
theorem d3_22 : decode prog_227_method_2_code 22 = .ok (.getfield 13, 3) := by decide +kernel
theorem d3_25 : decode prog_227_method_2_code 25 = .ok (.iload_n 1, 1) := by decide +kernel
theorem d3_26 : decode prog_227_method_2_code 26 = .ok (.sipush 256, 3) := by decide +kernel
theorem d3_29 : decode prog_227_method_2_code 29 = .ok (.idiv, 1) := by decide +kernel
theorem d3_30 : decode prog_227_method_2_code 30 = .ok (.aload_n 2, 1) := by decide +kernel
theorem d3_31 : decode prog_227_method_2_code 31 = .ok (.aastore, 1) := by decide +kernel
theorem d3_32 : decode prog_227_method_2_code 32 = .ok (.aload_n 2, 1) := by decide +kernel
theorem d3_33 : decode prog_227_method_2_code 33 = .ok (.iload_n 1, 1) := by decide +kernel
theorem d3_34 : decode prog_227_method_2_code 34 = .ok (.sipush 256, 3) := by decide +kernel
theorem d3_37 : decode prog_227_method_2_code 37 = .ok (.irem, 1) := by decide +kernel
theorem d3_38 : decode prog_227_method_2_code 38 = .ok (.dup2, 1) := by decide +kernel
theorem d3_39 : decode prog_227_method_2_code 39 = .ok (.laload, 1) := by decide +kernel
theorem d3_40 : decode prog_227_method_2_code 40 = .ok (.lconst 1, 1) := by decide +kernel
theorem d3_41 : decode prog_227_method_2_code 41 = .ok (.ladd, 1) := by decide +kernel
theorem d3_42 : decode prog_227_method_2_code 42 = .ok (.lastore, 1) := by decide +kernel
theorem d3_43 : decode prog_227_method_2_code 43 = .ok (.return_, 1) := by decide +kernel
theorem d4_0 : decode prog_227_method_3_code 0 = .ok (.iconst 0, 1) := by decide +kernel
theorem d4_1 : decode prog_227_method_3_code 1 = .ok (.istore_n 1, 1) := by decide +kernel
theorem d4_2 : decode prog_227_method_3_code 2 = .ok (.aload_n 0, 1) := by decide +kernel
theorem d4_3 : decode prog_227_method_3_code 3 = .ok (.getfield 13, 3) := by decide +kernel
theorem d4_6 : decode prog_227_method_3_code 6 = .ok (.astore_n 2, 1) := by decide +kernel
theorem d4_7 : decode prog_227_method_3_code 7 = .ok (.aload_n 2, 1) := by decide +kernel
theorem d4_8 : decode prog_227_method_3_code 8 = .ok (.arraylength, 1) := by decide +kernel
theorem d4_9 : decode prog_227_method_3_code 9 = .ok (.istore_n 3, 1) := by decide +kernel
theorem d4_10 : decode prog_227_method_3_code 10 = .ok (.iconst 0, 1) := by decide +kernel
theorem d4_11 : decode prog_227_method_3_code 11 = .ok (.istore 4, 2) := by decide +kernel
theorem d4_13 : decode prog_227_method_3_code 13 = .ok (.iload 4, 2) := by decide +kernel
theorem d4_15 : decode prog_227_method_3_code 15 = .ok (.iload_n 3, 1) := by decide +kernel
theorem d4_16 : decode prog_227_method_3_code 16 = .ok (.if_icmp .ge 62, 3) := by decide +kernel
theorem d4_19 : decode prog_227_method_3_code 19 = .ok (.aload_n 2, 1) := by decide +kernel
theorem d4_20 : decode prog_227_method_3_code 20 = .ok (.iload 4, 2) := by decide +kernel
theorem d4_22 : decode prog_227_method_3_code 22 = .ok (.aaload, 1) := by decide +kernel
theorem d4_23 : decode prog_227_method_3_code 23 = .ok (.astore 5, 2) := by decide +kernel
theorem d4_25 : decode prog_227_method_3_code 25 = .ok (.aload 5, 2) := by decide +kernel
theorem d4_27 : decode prog_227_method_3_code 27 = .ok (.ifnull 45, 3) := by decide +kernel
theorem d4_30 : decode prog_227_method_3_code 30 = .ok (.aload 5, 2) := by decide +kernel
theorem d4_32 : decode prog_227_method_3_code 32 = .ok (.astore 6, 2) := by decide +kernel
theorem d4_34 : decode prog_227_method_3_code 34 = .ok (.aload 6, 2) := by decide +kernel
theorem d4_36 : decode prog_227_method_3_code 36 = .ok (.arraylength, 1) := by decide +kernel
theorem d4_37 : decode prog_227_method_3_code 37 = .ok (.istore 7, 2) := by decide +kernel
theorem d4_39 : decode prog_227_method_3_code 39 = .ok (.iconst 0, 1) := by decide +kernel
theorem d4_40 : decode prog_227_method_3_code 40 = .ok (.istore 8, 2) := by decide +kernel
theorem d4_42 : decode prog_227_method_3_code 42 = .ok (.iload 8, 2) := by decide +kernel
theorem d4_44 : decode prog_227_method_3_code 44 = .ok (.iload 7, 2) := by decide +kernel
theorem d4_46 : decode prog_227_method_3_code 46 = .ok (.if_icmp .ge 26, 3) := by decide +kernel
theorem d4_49 : decode prog_227_method_3_code 49 = .ok (.aload 6, 2) := by decide +kernel
theorem d4_51 : decode prog_227_method_3_code 51 = .ok (.iload 8, 2) := by decide +kernel
theorem d4_53 : decode prog_227_method_3_code 53 = .ok (.laload, 1) := by decide +kernel
theorem d4_54 : decode prog_227_method_3_code 54 = .ok (.lstore 9, 2) := by decide +kernel
theorem d4_56 : decode prog_227_method_3_code 56 = .ok (.lload 9, 2) := by decide +kernel
theorem d4_58 : decode prog_227_method_3_code 58 = .ok (.lconst 0, 1) := by decide +kernel
theorem d4_59 : decode prog_227_method_3_code 59 = .ok (.lcmp, 1) := by decide +kernel
theorem d4_60 : decode prog_227_method_3_code 60 = .ok (.ifCond .le 6, 3) := by decide +kernel
theorem d4_63 : decode prog_227_method_3_code 63 = .ok (.iinc 1 1, 3) := by decide +kernel
theorem d4_66 : decode prog_227_method_3_code 66 = .ok (.iinc 8 1, 3) := by decide +kernel
theorem d4_69 : decode prog_227_method_3_code 69 = .ok (.goto (-27), 3) := by decide +kernel
theorem d4_72 : decode prog_227_method_3_code 72 = .ok (.iinc 4 1, 3) := by decide +kernel
theorem d4_75 : decode prog_227_method_3_code 75 = .ok (.goto (-62), 3) := by decide +kernel
theorem d4_78 : decode prog_227_method_3_code 78 = .ok (.iload_n 1, 1) := by decide +kernel
theorem d4_79 : decode prog_227_method_3_code 79 = .ok (.newarray .long, 2) := by decide +kernel
theorem d4_81 : decode prog_227_method_3_code 81 = .ok (.astore_n 2, 1) := by decide +kernel
theorem d4_82 : decode prog_227_method_3_code 82 = .ok (.iconst 0, 1) := by decide +kernel
theorem d4_83 : decode prog_227_method_3_code 83 = .ok (.istore_n 3, 1) := by decide +kernel
theorem d4_84 : decode prog_227_method_3_code 84 = .ok (.iconst 0, 1) := by decide +kernel
theorem d4_85 : decode prog_227_method_3_code 85 = .ok (.istore 4, 2) := by decide +kernel
theorem d4_87 : decode prog_227_method_3_code 87 = .ok (.iload 4, 2) := by decide +kernel
theorem d4_89 : decode prog_227_method_3_code 89 = .ok (.aload_n 0, 1) := by decide +kernel
theorem d4_90 : decode prog_227_method_3_code 90 = .ok (.getfield 13, 3) := by decide +kernel
theorem d4_93 : decode prog_227_method_3_code 93 = .ok (.arraylength, 1) := by decide +kernel
theorem d4_94 : decode prog_227_method_3_code 94 = .ok (.if_icmp .ge 76, 3) := by decide +kernel
theorem d4_97 : decode prog_227_method_3_code 97 = .ok (.aload_n 0, 1) := by decide +kernel
theorem d4_98 : decode prog_227_method_3_code 98 = .ok (.getfield 13, 3) := by decide +kernel
theorem d4_101 : decode prog_227_method_3_code 101 = .ok (.iload 4, 2) := by decide +kernel
theorem d4_103 : decode prog_227_method_3_code 103 = .ok (.aaload, 1) := by decide +kernel
theorem d4_104 : decode prog_227_method_3_code 104 = .ok (.astore 5, 2) := by decide +kernel
theorem d4_106 : decode prog_227_method_3_code 106 = .ok (.aload 5, 2) := by decide +kernel
theorem d4_108 : decode prog_227_method_3_code 108 = .ok (.ifnull 56, 3) := by decide +kernel
theorem d4_111 : decode prog_227_method_3_code 111 = .ok (.iconst 0, 1) := by decide +kernel
theorem d4_112 : decode prog_227_method_3_code 112 = .ok (.istore 6, 2) := by decide +kernel
theorem d4_114 : decode prog_227_method_3_code 114 = .ok (.iload 6, 2) := by decide +kernel
theorem d4_116 : decode prog_227_method_3_code 116 = .ok (.sipush 256, 3) := by decide +kernel
theorem d4_119 : decode prog_227_method_3_code 119 = .ok (.if_icmp .ge 45, 3) := by decide +kernel
theorem d4_122 : decode prog_227_method_3_code 122 = .ok (.aload 5, 2) := by decide +kernel
theorem d4_124 : decode prog_227_method_3_code 124 = .ok (.iload 6, 2) := by decide +kernel
theorem d4_126 : decode prog_227_method_3_code 126 = .ok (.laload, 1) := by decide +kernel
theorem d4_127 : decode prog_227_method_3_code 127 = .ok (.lconst 0, 1) := by decide +kernel
theorem d4_128 : decode prog_227_method_3_code 128 = .ok (.lcmp, 1) := by decide +kernel
theorem d4_129 : decode prog_227_method_3_code 129 = .ok (.ifCond .le 29, 3) := by decide +kernel
theorem d4_132 : decode prog_227_method_3_code 132 = .ok (.aload_n 2, 1) := by decide +kernel
theorem d4_133 : decode prog_227_method_3_code 133 = .ok (.iload_n 3, 1) := by decide +kernel
theorem d4_134 : decode prog_227_method_3_code 134 = .ok (.iinc 3 1, 3) := by decide +kernel
theorem d4_137 : decode prog_227_method_3_code 137 = .ok (.aload 5, 2) := by decide +kernel
theorem d4_139 : decode prog_227_method_3_code 139 = .ok (.iload 6, 2) := by decide +kernel
theorem d4_141 : decode prog_227_method_3_code 141 = .ok (.laload, 1) := by decide +kernel
theorem d4_142 : decode prog_227_method_3_code 142 = .ok (.lneg, 1) := by decide +kernel
theorem d4_143 : decode prog_227_method_3_code 143 = .ok (.bipush 16, 2) := by decide +kernel
theorem d4_145 : decode prog_227_method_3_code 145 = .ok (.lshl, 1) := by decide +kernel
theorem d4_146 : decode prog_227_method_3_code 146 = .ok (.iload 4, 2) := by decide +kernel
theorem d4_148 : decode prog_227_method_3_code 148 = .ok (.sipush 256, 3) := by decide +kernel
theorem d4_151 : decode prog_227_method_3_code 151 = .ok (.imul, 1) := by decide +kernel
theorem d4_152 : decode prog_227_method_3_code 152 = .ok (.iload 6, 2) := by decide +kernel
theorem d4_154 : decode prog_227_method_3_code 154 = .ok (.iadd, 1) := by decide +kernel
theorem d4_155 : decode prog_227_method_3_code 155 = .ok (.i2l, 1) := by decide +kernel
theorem d4_156 : decode prog_227_method_3_code 156 = .ok (.lor, 1) := by decide +kernel
theorem d4_157 : decode prog_227_method_3_code 157 = .ok (.lastore, 1) := by decide +kernel
theorem d4_158 : decode prog_227_method_3_code 158 = .ok (.iinc 6 1, 3) := by decide +kernel
theorem d4_161 : decode prog_227_method_3_code 161 = .ok (.goto (-47), 3) := by decide +kernel
theorem d4_164 : decode prog_227_method_3_code 164 = .ok (.iinc 4 1, 3) := by decide +kernel
theorem d4_167 : decode prog_227_method_3_code 167 = .ok (.goto (-80), 3) := by decide +kernel
theorem d4_170 : decode prog_227_method_3_code 170 = .ok (.aload_n 2, 1) := by decide +kernel
theorem d4_171 : decode prog_227_method_3_code 171 = .ok (.invokestatic 17, 3) := by decide +kernel
theorem d4_174 : decode prog_227_method_3_code 174 = .ok (.iload_n 1, 1) := by decide +kernel
theorem d4_175 : decode prog_227_method_3_code 175 = .ok (.newarray .char, 2) := by decide +kernel
theorem d4_177 : decode prog_227_method_3_code 177 = .ok (.astore 4, 2) := by decide +kernel
theorem d4_179 : decode prog_227_method_3_code 179 = .ok (.iconst 0, 1) := by decide +kernel
theorem d4_180 : decode prog_227_method_3_code 180 = .ok (.istore 5, 2) := by decide +kernel
theorem d4_182 : decode prog_227_method_3_code 182 = .ok (.iload 5, 2) := by decide +kernel
theorem d4_184 : decode prog_227_method_3_code 184 = .ok (.iload_n 1, 1) := by decide +kernel
theorem d4_185 : decode prog_227_method_3_code 185 = .ok (.if_icmp .ge 20, 3) := by decide +kernel
theorem d4_188 : decode prog_227_method_3_code 188 = .ok (.aload 4, 2) := by decide +kernel
theorem d4_190 : decode prog_227_method_3_code 190 = .ok (.iload 5, 2) := by decide +kernel
theorem d4_192 : decode prog_227_method_3_code 192 = .ok (.aload_n 2, 1) := by decide +kernel
theorem d4_193 : decode prog_227_method_3_code 193 = .ok (.iload 5, 2) := by decide +kernel
theorem d4_195 : decode prog_227_method_3_code 195 = .ok (.laload, 1) := by decide +kernel
theorem d4_196 : decode prog_227_method_3_code 196 = .ok (.l2i, 1) := by decide +kernel
theorem d4_197 : decode prog_227_method_3_code 197 = .ok (.i2c, 1) := by decide +kernel
theorem d4_198 : decode prog_227_method_3_code 198 = .ok (.castore, 1) := by decide +kernel
theorem d4_199 : decode prog_227_method_3_code 199 = .ok (.iinc 5 1, 3) := by decide +kernel
theorem d4_202 : decode prog_227_method_3_code 202 = .ok (.goto (-20), 3) := by decide +kernel
theorem d4_205 : decode prog_227_method_3_code 205 = .ok (.aload 4, 2) := by decide +kernel
theorem d4_207 : decode prog_227_method_3_code 207 = .ok (.areturn, 1) := by decide +kernel
theorem pd_1 : parseMethodDescriptor "([J)V" = some ⟨[(.array .long)], none⟩ := by decide +kernel
theorem d5_0 : decode jdk_65_method_4_code 0 = .ok (.aload_n 0, 1) := by decide +kernel
theorem d5_1 : decode jdk_65_method_4_code 1 = .ok (.iconst 0, 1) := by decide +kernel
theorem d5_2 : decode jdk_65_method_4_code 2 = .ok (.iconst 0, 1) := by decide +kernel
theorem d5_3 : decode jdk_65_method_4_code 3 = .ok (.aload_n 0, 1) := by decide +kernel
theorem d5_4 : decode jdk_65_method_4_code 4 = .ok (.arraylength, 1) := by decide +kernel
theorem d5_5 : decode jdk_65_method_4_code 5 = .ok (.invokestatic 19, 3) := by decide +kernel
theorem d5_8 : decode jdk_65_method_4_code 8 = .ok (.return_, 1) := by decide +kernel
theorem pn_1 : plainName "java/util/Arrays" = true := by first | (simp [plainName, overriddenIn]; done) | decide +kernel
theorem pd_2 : parseMethodDescriptor "([JIII)V" = some ⟨[(.array .long), .int, .int, .int], none⟩ := by decide +kernel
theorem d6_0 : decode jdk_2529_method_12_code 0 = .ok (.iload_n 3, 1) := by decide +kernel
theorem d6_1 : decode jdk_2529_method_12_code 1 = .ok (.iload_n 2, 1) := by decide +kernel
theorem d6_2 : decode jdk_2529_method_12_code 2 = .ok (.isub, 1) := by decide +kernel
theorem d6_3 : decode jdk_2529_method_12_code 3 = .ok (.istore 4, 2) := by decide +kernel
theorem d6_5 : decode jdk_2529_method_12_code 5 = .ok (.iload_n 1, 1) := by decide +kernel
theorem d6_6 : decode jdk_2529_method_12_code 6 = .ok (.iconst 1, 1) := by decide +kernel
theorem d6_7 : decode jdk_2529_method_12_code 7 = .ok (.if_icmp .le 61, 3) := by decide +kernel
theorem d6_10 : decode jdk_2529_method_12_code 10 = .ok (.iload 4, 2) := by decide +kernel
theorem d6_12 : decode jdk_2529_method_12_code 12 = .ok (.sipush 4096, 3) := by decide +kernel
theorem d6_15 : decode jdk_2529_method_12_code 15 = .ok (.if_icmp .le 53, 3) := by decide +kernel
theorem d6_18 : decode jdk_2529_method_12_code 18 = .ok (.iload_n 1, 1) := by decide +kernel
theorem d6_19 : decode jdk_2529_method_12_code 19 = .ok (.iload 4, 2) := by decide +kernel
theorem d6_21 : decode jdk_2529_method_12_code 21 = .ok (.bipush 12, 2) := by decide +kernel
theorem d6_23 : decode jdk_2529_method_12_code 23 = .ok (.ishr, 1) := by decide +kernel
theorem d6_24 : decode jdk_2529_method_12_code 24 = .ok (.invokestatic 13, 3) := by decide +kernel
theorem d6_27 : decode jdk_2529_method_12_code 27 = .ok (.istore 5, 2) := by decide +kernel
theorem d6_29 : decode jdk_2529_method_12_code 29 = .ok (.iload 5, 2) := by decide +kernel
theorem d6_31 : decode jdk_2529_method_12_code 31 = .ok (.ifCond .ne 7, 3) := by decide +kernel
theorem d6_34 : decode jdk_2529_method_12_code 34 = .ok (.aconst_null, 1) := by decide +kernel
theorem d6_35 : decode jdk_2529_method_12_code 35 = .ok (.goto 7, 3) := by decide +kernel
theorem d6_38 : decode jdk_2529_method_12_code 38 = .ok (.iload 4, 2) := by decide +kernel
theorem d6_40 : decode jdk_2529_method_12_code 40 = .ok (.newarray .long, 2) := by decide +kernel
theorem d6_42 : decode jdk_2529_method_12_code 42 = .ok (.astore 6, 2) := by decide +kernel
theorem d6_44 : decode jdk_2529_method_12_code 44 = .ok (.new 17, 3) := by decide +kernel
theorem d6_47 : decode jdk_2529_method_12_code 47 = .ok (.dup, 1) := by decide +kernel
theorem d6_48 : decode jdk_2529_method_12_code 48 = .ok (.aconst_null, 1) := by decide +kernel
theorem d6_49 : decode jdk_2529_method_12_code 49 = .ok (.aload_n 0, 1) := by decide +kernel
theorem d6_50 : decode jdk_2529_method_12_code 50 = .ok (.aload 6, 2) := by decide +kernel
theorem d6_52 : decode jdk_2529_method_12_code 52 = .ok (.iload_n 2, 1) := by decide +kernel
theorem d6_53 : decode jdk_2529_method_12_code 53 = .ok (.iload 4, 2) := by decide +kernel
theorem d6_55 : decode jdk_2529_method_12_code 55 = .ok (.iload_n 2, 1) := by decide +kernel
theorem d6_56 : decode jdk_2529_method_12_code 56 = .ok (.iload 5, 2) := by decide +kernel
theorem d6_58 : decode jdk_2529_method_12_code 58 = .ok (.invokespecial 19, 3) := by decide +kernel
theorem d6_61 : decode jdk_2529_method_12_code 61 = .ok (.invokevirtual 22, 3) := by decide +kernel
theorem d6_64 : decode jdk_2529_method_12_code 64 = .ok (.pop, 1) := by decide +kernel
theorem d6_65 : decode jdk_2529_method_12_code 65 = .ok (.goto 11, 3) := by decide +kernel
theorem d6_68 : decode jdk_2529_method_12_code 68 = .ok (.aconst_null, 1) := by decide +kernel
theorem d6_69 : decode jdk_2529_method_12_code 69 = .ok (.aload_n 0, 1) := by decide +kernel
theorem d6_70 : decode jdk_2529_method_12_code 70 = .ok (.iconst 0, 1) := by decide +kernel
theorem d6_71 : decode jdk_2529_method_12_code 71 = .ok (.iload_n 2, 1) := by decide +kernel
theorem d6_72 : decode jdk_2529_method_12_code 72 = .ok (.iload_n 3, 1) := by decide +kernel
theorem d6_73 : decode jdk_2529_method_12_code 73 = .ok (.invokestatic 99, 3) := by decide +kernel
theorem d6_76 : decode jdk_2529_method_12_code 76 = .ok (.return_, 1) := by decide +kernel
theorem pn_2 : plainName "java/util/DualPivotQuicksort" = true := by first | (simp [plainName, overriddenIn]; done) | decide +kernel
theorem pd_3 : parseMethodDescriptor "(Ljava/util/DualPivotQuicksort$Sorter;[JIII)V" = some ⟨[(.object "java/util/DualPivotQuicksort$Sorter"), (.array .long), .int, .int, .int], none⟩ := by decide +kernel
theorem d7_0 : decode jdk_2529_method_13_code 0 = .ok (.iload 4, 2) := by decide +kernel
theorem d7_2 : decode jdk_2529_method_13_code 2 = .ok (.iconst 1, 1) := by decide +kernel
theorem d7_3 : decode jdk_2529_method_13_code 3 = .ok (.isub, 1) := by decide +kernel
theorem d7_4 : decode jdk_2529_method_13_code 4 = .ok (.istore 5, 2) := by decide +kernel
theorem d7_6 : decode jdk_2529_method_13_code 6 = .ok (.iload 4, 2) := by decide +kernel
theorem d7_8 : decode jdk_2529_method_13_code 8 = .ok (.iload_n 3, 1) := by decide +kernel
theorem d7_9 : decode jdk_2529_method_13_code 9 = .ok (.isub, 1) := by decide +kernel
theorem d7_10 : decode jdk_2529_method_13_code 10 = .ok (.istore 6, 2) := by decide +kernel
theorem d7_12 : decode jdk_2529_method_13_code 12 = .ok (.iload 6, 2) := by decide +kernel
theorem d7_14 : decode jdk_2529_method_13_code 14 = .ok (.bipush 65, 2) := by decide +kernel
theorem d7_16 : decode jdk_2529_method_13_code 16 = .ok (.iload_n 2, 1) := by decide +kernel
theorem d7_17 : decode jdk_2529_method_13_code 17 = .ok (.iadd, 1) := by decide +kernel
theorem d7_18 : decode jdk_2529_method_13_code 18 = .ok (.if_icmp .ge 28, 3) := by decide +kernel
theorem d7_21 : decode jdk_2529_method_13_code 21 = .ok (.iload_n 2, 1) := by decide +kernel
theorem d7_22 : decode jdk_2529_method_13_code 22 = .ok (.iconst 1, 1) := by decide +kernel
theorem d7_23 : decode jdk_2529_method_13_code 23 = .ok (.iand, 1) := by decide +kernel
theorem d7_24 : decode jdk_2529_method_13_code 24 = .ok (.ifCond .le 22, 3) := by decide +kernel
theorem d7_27 : decode jdk_2529_method_13_code 27 = .ok (.aload_n 1, 1) := by decide +kernel
theorem d7_28 : decode jdk_2529_method_13_code 28 = .ok (.iload_n 3, 1) := by decide +kernel
theorem d7_29 : decode jdk_2529_method_13_code 29 = .ok (.iload 4, 2) := by decide +kernel
theorem d7_31 : decode jdk_2529_method_13_code 31 = .ok (.iconst 3, 1) := by decide +kernel
theorem d7_32 : decode jdk_2529_method_13_code 32 = .ok (.iload 6, 2) := by decide +kernel
theorem d7_34 : decode jdk_2529_method_13_code 34 = .ok (.iconst 5, 1) := by decide +kernel
theorem d7_35 : decode jdk_2529_method_13_code 35 = .ok (.ishr, 1) := by decide +kernel
theorem d7_36 : decode jdk_2529_method_13_code 36 = .ok (.iconst 3, 1) := by decide +kernel
theorem d7_37 : decode jdk_2529_method_13_code 37 = .ok (.ishl, 1) := by decide +kernel
theorem d7_38 : decode jdk_2529_method_13_code 38 = .ok (.imul, 1) := by decide +kernel
theorem d7_39 : decode jdk_2529_method_13_code 39 = .ok (.isub, 1) := by decide +kernel
theorem d7_40 : decode jdk_2529_method_13_code 40 = .ok (.iload 4, 2) := by decide +kernel
theorem d7_42 : decode jdk_2529_method_13_code 42 = .ok (.invokestatic 102, 3) := by decide +kernel
theorem d7_45 : decode jdk_2529_method_13_code 45 = .ok (.return_, 1) := by decide +kernel
theorem d7_46 : decode jdk_2529_method_13_code 46 = .ok (.iload 6, 2) := by decide +kernel
theorem d7_48 : decode jdk_2529_method_13_code 48 = .ok (.bipush 44, 2) := by decide +kernel
theorem d7_50 : decode jdk_2529_method_13_code 50 = .ok (.if_icmp .ge 11, 3) := by decide +kernel
theorem d7_53 : decode jdk_2529_method_13_code 53 = .ok (.aload_n 1, 1) := by decide +kernel
theorem d7_54 : decode jdk_2529_method_13_code 54 = .ok (.iload_n 3, 1) := by decide +kernel
theorem d7_55 : decode jdk_2529_method_13_code 55 = .ok (.iload 4, 2) := by decide +kernel
theorem d7_57 : decode jdk_2529_method_13_code 57 = .ok (.invokestatic 105, 3) := by decide +kernel
theorem d7_60 : decode jdk_2529_method_13_code 60 = .ok (.return_, 1) := by decide +kernel
theorem pd_4 : parseMethodDescriptor "([JII)V" = some ⟨[(.array .long), .int, .int], none⟩ := by decide +kernel
theorem d8_0 : decode jdk_2529_method_15_code 0 = .ok (.iload_n 1, 1) := by decide +kernel
theorem d8_1 : decode jdk_2529_method_15_code 1 = .ok (.istore 4, 2) := by decide +kernel
theorem d8_3 : decode jdk_2529_method_15_code 3 = .ok (.iinc 4 1, 3) := by decide +kernel
theorem d8_6 : decode jdk_2529_method_15_code 6 = .ok (.iload 4, 2) := by decide +kernel
theorem d8_8 : decode jdk_2529_method_15_code 8 = .ok (.iload_n 2, 1) := by decide +kernel
theorem d8_9 : decode jdk_2529_method_15_code 9 = .ok (.if_icmp .ge 60, 3) := by decide +kernel
theorem d8_12 : decode jdk_2529_method_15_code 12 = .ok (.aload_n 0, 1) := by decide +kernel
theorem d8_13 : decode jdk_2529_method_15_code 13 = .ok (.iload 4, 2) := by decide +kernel
theorem d8_15 : decode jdk_2529_method_15_code 15 = .ok (.dup, 1) := by decide +kernel
theorem d8_16 : decode jdk_2529_method_15_code 16 = .ok (.istore_n 3, 1) := by decide +kernel
theorem d8_17 : decode jdk_2529_method_15_code 17 = .ok (.laload, 1) := by decide +kernel
theorem d8_18 : decode jdk_2529_method_15_code 18 = .ok (.lstore 5, 2) := by decide +kernel
theorem d8_20 : decode jdk_2529_method_15_code 20 = .ok (.lload 5, 2) := by decide +kernel
theorem d8_22 : decode jdk_2529_method_15_code 22 = .ok (.aload_n 0, 1) := by decide +kernel
theorem d8_23 : decode jdk_2529_method_15_code 23 = .ok (.iload_n 3, 1) := by decide +kernel
theorem d8_24 : decode jdk_2529_method_15_code 24 = .ok (.iconst 1, 1) := by decide +kernel
theorem d8_25 : decode jdk_2529_method_15_code 25 = .ok (.isub, 1) := by decide +kernel
theorem d8_26 : decode jdk_2529_method_15_code 26 = .ok (.laload, 1) := by decide +kernel
theorem d8_27 : decode jdk_2529_method_15_code 27 = .ok (.lcmp, 1) := by decide +kernel
theorem d8_28 : decode jdk_2529_method_15_code 28 = .ok (.ifCond .ge 38, 3) := by decide +kernel
theorem d8_31 : decode jdk_2529_method_15_code 31 = .ok (.iinc 3 (-1), 3) := by decide +kernel
theorem d8_34 : decode jdk_2529_method_15_code 34 = .ok (.iload_n 3, 1) := by decide +kernel
theorem d8_35 : decode jdk_2529_method_15_code 35 = .ok (.iload_n 1, 1) := by decide +kernel
theorem d8_36 : decode jdk_2529_method_15_code 36 = .ok (.if_icmp .lt 23, 3) := by decide +kernel
theorem d8_39 : decode jdk_2529_method_15_code 39 = .ok (.lload 5, 2) := by decide +kernel
theorem d8_41 : decode jdk_2529_method_15_code 41 = .ok (.aload_n 0, 1) := by decide +kernel
theorem d8_42 : decode jdk_2529_method_15_code 42 = .ok (.iload_n 3, 1) := by decide +kernel
theorem d8_43 : decode jdk_2529_method_15_code 43 = .ok (.laload, 1) := by decide +kernel
theorem d8_44 : decode jdk_2529_method_15_code 44 = .ok (.lcmp, 1) := by decide +kernel
theorem d8_45 : decode jdk_2529_method_15_code 45 = .ok (.ifCond .ge 14, 3) := by decide +kernel
theorem d8_48 : decode jdk_2529_method_15_code 48 = .ok (.aload_n 0, 1) := by decide +kernel
theorem d8_49 : decode jdk_2529_method_15_code 49 = .ok (.iload_n 3, 1) := by decide +kernel
theorem d8_50 : decode jdk_2529_method_15_code 50 = .ok (.iconst 1, 1) := by decide +kernel
theorem d8_51 : decode jdk_2529_method_15_code 51 = .ok (.iadd, 1) := by decide +kernel
theorem d8_52 : decode jdk_2529_method_15_code 52 = .ok (.aload_n 0, 1) := by decide +kernel
theorem d8_53 : decode jdk_2529_method_15_code 53 = .ok (.iload_n 3, 1) := by decide +kernel
theorem d8_54 : decode jdk_2529_method_15_code 54 = .ok (.laload, 1) := by decide +kernel
theorem d8_55 : decode jdk_2529_method_15_code 55 = .ok (.lastore, 1) := by decide +kernel
theorem d8_56 : decode jdk_2529_method_15_code 56 = .ok (.goto (-25), 3) := by decide +kernel
theorem d8_59 : decode jdk_2529_method_15_code 59 = .ok (.aload_n 0, 1) := by decide +kernel
theorem d8_60 : decode jdk_2529_method_15_code 60 = .ok (.iload_n 3, 1) := by decide +kernel
theorem d8_61 : decode jdk_2529_method_15_code 61 = .ok (.iconst 1, 1) := by decide +kernel
theorem d8_62 : decode jdk_2529_method_15_code 62 = .ok (.iadd, 1) := by decide +kernel
theorem d8_63 : decode jdk_2529_method_15_code 63 = .ok (.lload 5, 2) := by decide +kernel
theorem d8_65 : decode jdk_2529_method_15_code 65 = .ok (.lastore, 1) := by decide +kernel
theorem d8_66 : decode jdk_2529_method_15_code 66 = .ok (.goto (-63), 3) := by decide +kernel
theorem d8_69 : decode jdk_2529_method_15_code 69 = .ok (.return_, 1) := by decide +kernel
theorem ef_rmI1a (m : MethodId) (ka : Addr)  : entryFrame m #[(.ref ka), (.int (0 : Int32)), (.int (1 : Int32))] 7 = mkF m 0 #[.val (.ref ka), .val (.int (0 : Int32)), .val (.int (1 : Int32)), .unset, .unset, .unset, .unset] [] := by first | (simp [entryFrame, mkF, argsToLocals, Value.category]; done) | rfl
def QI1a (Z : State) (ka : Addr) (k0 : Int64) (h0 : Heap) (n0 : Nat) (v : Option Value) (h : Heap) (L : List Loc) : Prop := v = none ∧ Fr n0 L ∧ Keep h0 h [ka] ∧ own_Ar Z h ka .long [(.long k0)]
set_option maxRecDepth 65536 in
set_option maxHeartbeats 40000000 in
theorem rmI1a (l : Launch) (Z : State) (a0 : Array Value) (hw : ∀ d ∈ tables_1, d.before a0 Z = true) (ws : List Jvm.Cond) (ka : Addr) (k0 : Int64) (h0 : Heap) (n0 : Nat) (Z0 : n0 ≤ h0.size) (A0 : own_Ar Z h0 ka .long [(.long k0)]) (g0 : n0 ≤ ka) :
    MetFree l (⟨"java/util/DualPivotQuicksort", "insertionSort", "([JII)V"⟩ : MethodName) (head1 (Jvm.Cond.code (⟨"java/util/DualPivotQuicksort", "insertionSort", "([JII)V"⟩ : MethodName) jdk_2529_method_15_code 7 none :: ws) ({ frames := 0, cells := 0, slots := 0, locals := 0 } : Room)) (fun a U => a = #[(.ref ka), (.int (0 : Int32)), (.int (1 : Int32))] ∧ Z.Warmed39 U.vm ∧ U.heap = h0) (fun _ _ _ _ _ => True) (fun _ U o U' => ∃ v L, o = .returned v ∧ QI1a Z ka k0 h0 n0 v U'.heap L ∧ FrameEnd U o U' L ({ frames := 0, cells := 0, slots := 0, locals := 0 } : Room).cells ({ frames := 0, cells := 0, slots := 0, locals := 0 } : Room).slots) := by
  refine MetFree.of_bodySF (plainFor_of_name pn_2) hisR ?_
  intro p e s m args below meth c s₁ Bd hml0 hP hK
  obtain ⟨rfl, hZ, hh⟩ := hP
  have hx := Bd.exec
  have hby := Bd.bytes
  have hlk : meth.locks = false := BodyLoose.notSynchronized Bd
  have hret := Bd.returns
  have hml : c.maxLocals = 7 := hml0
  have hown : s.vm.findClass "java/util/DualPivotQuicksort" = some m.cls := findClass_of_methodNamed Bd.named
  have hnm := (name_of_methodNamed Bd.named Bd.method).1
  have X0 : Stand p l e ({ frames := 0, cells := 0, slots := 0, locals := 0 } : Room) s m #[(.ref ka), (.int (0 : Int32)), (.int (1 : Int32))] below meth c s₁ [] 0 0 := Stand.of_body Bd
  have e0 : s₁.heap = h0 := by rw [← hh, Bd.state]; rfl
  have N0 := Fr.nil n0
  show own_Ends p e below s 0 0 (QI1a Z ka k0 h0 n0) (s₁.setTop (entryFrame m #[(.ref ka), (.int (0 : Int32)), (.int (1 : Int32))] 7))
  refine own_step (fun t k => castTop (ef_rmI1a m ka ) k) ?_
  show own_Ends p e below s _ _ _ (s₁.setTop (mkF m 0 #[.val (.ref ka), .val (.int (0 : Int32)), .val (.int (1 : Int32)), .unset, .unset, .unset, .unset] []))
  refine own_step (fun _ kc_ => XS.iloadN X0.here hx rfl (hb hby d8_0) rfl (XS.istore X0.here hx rfl (hb hby d8_1) rfl (l' := #[.val (.ref ka), .val (.int (0 : Int32)), .val (.int (1 : Int32)), .unset, .val (.int (0 : Int32)), .unset, .unset]) rfl (XS.iinc X0.here hx rfl (hb hby d8_3) rfl (l' := #[.val (.ref ka), .val (.int (0 : Int32)), .val (.int (1 : Int32)), .unset, .val (.int ((0 : Int32) + (1 : Int32))), .unset, .unset]) rfl kc_))) ?_
  show own_Ends p e below s _ _ _ (s₁.setTop (mkF m 6 #[.val (.ref ka), .val (.int (0 : Int32)), .val (.int (1 : Int32)), .unset, .val (.int ((0 : Int32) + (1 : Int32))), .unset, .unset] []))
  rw [show ((0 : Int32) + (1 : Int32)) = (1 : Int32) from by decide]
  show own_Ends p e below s _ _ _ (s₁.setTop (mkF m 6 #[.val (.ref ka), .val (.int (0 : Int32)), .val (.int (1 : Int32)), .unset, .val (.int (1 : Int32)), .unset, .unset] []))
  refine own_step (fun _ kc_ => XS.iload X0.here hx rfl (hb hby d8_6) rfl (XS.iloadN X0.here hx rfl (hb hby d8_8) rfl (XS.icmpYes X0.here hx rfl (pc0 := 9) (pc' := 69) rfl (hb hby d8_9) rfl (XT.ii_ge_t (by decide : ¬ ((1 : Int32) < (1 : Int32)))) (by decide) (by decide) kc_))) ?_
  show own_Ends p e below s _ _ _ (s₁.setTop (mkF m 69 #[.val (.ref ka), .val (.int (0 : Int32)), .val (.int (1 : Int32)), .unset, .val (.int (1 : Int32)), .unset, .unset] []))
  exact own_retV X0 hx hret hlk (hb hby d8_69) (by decide) (by decide) (by rw [e0]; exact ⟨rfl, N0, (Keep.refl h0 [ka]), A0⟩)
theorem ef_rmE1a (m : MethodId) (ka : Addr)  : entryFrame m #[.null, (.ref ka), (.int (0 : Int32)), (.int (0 : Int32)), (.int (1 : Int32))] 25 = mkF m 0 #[.val .null, .val (.ref ka), .val (.int (0 : Int32)), .val (.int (0 : Int32)), .val (.int (1 : Int32)), .unset, .unset, .unset, .unset, .unset, .unset, .unset, .unset, .unset, .unset, .unset, .unset, .unset, .unset, .unset, .unset, .unset, .unset, .unset, .unset] [] := by first | (simp [entryFrame, mkF, argsToLocals, Value.category]; done) | rfl
def QE1a (Z : State) (ka : Addr) (k0 : Int64) (h0 : Heap) (n0 : Nat) (v : Option Value) (h : Heap) (L : List Loc) : Prop := v = none ∧ Fr n0 L ∧ Keep h0 h [ka] ∧ own_Ar Z h ka .long [(.long k0)]
set_option maxRecDepth 65536 in
set_option maxHeartbeats 40000000 in
theorem rmE1a (l : Launch) (Z : State) (a0 : Array Value) (hw : ∀ d ∈ tables_1, d.before a0 Z = true) (ws : List Jvm.Cond) (ka : Addr) (k0 : Int64) (h0 : Heap) (n0 : Nat) (Z0 : n0 ≤ h0.size) (A0 : own_Ar Z h0 ka .long [(.long k0)]) (g0 : n0 ≤ ka) :
    MetFree l (⟨"java/util/DualPivotQuicksort", "sort", "(Ljava/util/DualPivotQuicksort$Sorter;[JIII)V"⟩ : MethodName) (head1 (Jvm.Cond.code (⟨"java/util/DualPivotQuicksort", "sort", "(Ljava/util/DualPivotQuicksort$Sorter;[JIII)V"⟩ : MethodName) jdk_2529_method_13_code 25 none :: ws) ({ frames := 1, cells := 0, slots := 0, locals := 18 } : Room)) (fun a U => a = #[.null, (.ref ka), (.int (0 : Int32)), (.int (0 : Int32)), (.int (1 : Int32))] ∧ Z.Warmed39 U.vm ∧ U.heap = h0) (fun _ _ _ _ _ => True) (fun _ U o U' => ∃ v L, o = .returned v ∧ QE1a Z ka k0 h0 n0 v U'.heap L ∧ FrameEnd U o U' L ({ frames := 1, cells := 0, slots := 0, locals := 18 } : Room).cells ({ frames := 1, cells := 0, slots := 0, locals := 18 } : Room).slots) := by
  refine MetFree.of_bodySF (plainFor_of_name pn_2) hisR ?_
  intro p e s m args below meth c s₁ Bd hml0 hP hK
  obtain ⟨rfl, hZ, hh⟩ := hP
  have hx := Bd.exec
  have hby := Bd.bytes
  have hlk : meth.locks = false := BodyLoose.notSynchronized Bd
  have hret := Bd.returns
  have hml : c.maxLocals = 25 := hml0
  have hown : s.vm.findClass "java/util/DualPivotQuicksort" = some m.cls := findClass_of_methodNamed Bd.named
  have hnm := (name_of_methodNamed Bd.named Bd.method).1
  have X0 : Stand p l e ({ frames := 1, cells := 0, slots := 0, locals := 18 } : Room) s m #[.null, (.ref ka), (.int (0 : Int32)), (.int (0 : Int32)), (.int (1 : Int32))] below meth c s₁ [] 0 0 := Stand.of_body Bd
  have e0 : s₁.heap = h0 := by rw [← hh, Bd.state]; rfl
  have N0 := Fr.nil n0
  show own_Ends p e below s 0 0 (QE1a Z ka k0 h0 n0) (s₁.setTop (entryFrame m #[.null, (.ref ka), (.int (0 : Int32)), (.int (0 : Int32)), (.int (1 : Int32))] 25))
  refine own_step (fun t k => castTop (ef_rmE1a m ka ) k) ?_
  show own_Ends p e below s _ _ _ (s₁.setTop (mkF m 0 #[.val .null, .val (.ref ka), .val (.int (0 : Int32)), .val (.int (0 : Int32)), .val (.int (1 : Int32)), .unset, .unset, .unset, .unset, .unset, .unset, .unset, .unset, .unset, .unset, .unset, .unset, .unset, .unset, .unset, .unset, .unset, .unset, .unset, .unset] []))
  refine own_step (fun _ kc_ => XS.iload X0.here hx rfl (hb hby d7_0) rfl (XS.iconst X0.here hx rfl (hb hby d7_2) (XS.isub X0.here hx rfl (hb hby d7_3) rfl kc_))) ?_
  show own_Ends p e below s _ _ _ (s₁.setTop (mkF m 4 #[.val .null, .val (.ref ka), .val (.int (0 : Int32)), .val (.int (0 : Int32)), .val (.int (1 : Int32)), .unset, .unset, .unset, .unset, .unset, .unset, .unset, .unset, .unset, .unset, .unset, .unset, .unset, .unset, .unset, .unset, .unset, .unset, .unset, .unset] [(.int ((1 : Int32) - (1 : Int32)))]))
  rw [show ((1 : Int32) - (1 : Int32)) = (0 : Int32) from by decide]
  show own_Ends p e below s _ _ _ (s₁.setTop (mkF m 4 #[.val .null, .val (.ref ka), .val (.int (0 : Int32)), .val (.int (0 : Int32)), .val (.int (1 : Int32)), .unset, .unset, .unset, .unset, .unset, .unset, .unset, .unset, .unset, .unset, .unset, .unset, .unset, .unset, .unset, .unset, .unset, .unset, .unset, .unset] [(.int (0 : Int32))]))
  refine own_step (fun _ kc_ => XS.istore X0.here hx rfl (hb hby d7_4) rfl (l' := #[.val .null, .val (.ref ka), .val (.int (0 : Int32)), .val (.int (0 : Int32)), .val (.int (1 : Int32)), .val (.int (0 : Int32)), .unset, .unset, .unset, .unset, .unset, .unset, .unset, .unset, .unset, .unset, .unset, .unset, .unset, .unset, .unset, .unset, .unset, .unset, .unset]) rfl (XS.iload X0.here hx rfl (hb hby d7_6) rfl (XS.iloadN X0.here hx rfl (hb hby d7_8) rfl (XS.isub X0.here hx rfl (hb hby d7_9) rfl kc_)))) ?_
  show own_Ends p e below s _ _ _ (s₁.setTop (mkF m 10 #[.val .null, .val (.ref ka), .val (.int (0 : Int32)), .val (.int (0 : Int32)), .val (.int (1 : Int32)), .val (.int (0 : Int32)), .unset, .unset, .unset, .unset, .unset, .unset, .unset, .unset, .unset, .unset, .unset, .unset, .unset, .unset, .unset, .unset, .unset, .unset, .unset] [(.int ((1 : Int32) - (0 : Int32)))]))
  rw [show ((1 : Int32) - (0 : Int32)) = (1 : Int32) from by decide]
  show own_Ends p e below s _ _ _ (s₁.setTop (mkF m 10 #[.val .null, .val (.ref ka), .val (.int (0 : Int32)), .val (.int (0 : Int32)), .val (.int (1 : Int32)), .val (.int (0 : Int32)), .unset, .unset, .unset, .unset, .unset, .unset, .unset, .unset, .unset, .unset, .unset, .unset, .unset, .unset, .unset, .unset, .unset, .unset, .unset] [(.int (1 : Int32))]))
  refine own_step (fun _ kc_ => XS.istore X0.here hx rfl (hb hby d7_10) rfl (l' := #[.val .null, .val (.ref ka), .val (.int (0 : Int32)), .val (.int (0 : Int32)), .val (.int (1 : Int32)), .val (.int (0 : Int32)), .val (.int (1 : Int32)), .unset, .unset, .unset, .unset, .unset, .unset, .unset, .unset, .unset, .unset, .unset, .unset, .unset, .unset, .unset, .unset, .unset, .unset]) rfl (XS.iload X0.here hx rfl (hb hby d7_12) rfl (XS.bipush X0.here hx rfl (hb hby d7_14) (XS.iloadN X0.here hx rfl (hb hby d7_16) rfl (XS.iadd X0.here hx rfl (hb hby d7_17) rfl kc_))))) ?_
  show own_Ends p e below s _ _ _ (s₁.setTop (mkF m 18 #[.val .null, .val (.ref ka), .val (.int (0 : Int32)), .val (.int (0 : Int32)), .val (.int (1 : Int32)), .val (.int (0 : Int32)), .val (.int (1 : Int32)), .unset, .unset, .unset, .unset, .unset, .unset, .unset, .unset, .unset, .unset, .unset, .unset, .unset, .unset, .unset, .unset, .unset, .unset] [(.int ((65 : Int32) + (0 : Int32))), (.int (1 : Int32))]))
  rw [show ((65 : Int32) + (0 : Int32)) = (65 : Int32) from by decide]
  show own_Ends p e below s _ _ _ (s₁.setTop (mkF m 18 #[.val .null, .val (.ref ka), .val (.int (0 : Int32)), .val (.int (0 : Int32)), .val (.int (1 : Int32)), .val (.int (0 : Int32)), .val (.int (1 : Int32)), .unset, .unset, .unset, .unset, .unset, .unset, .unset, .unset, .unset, .unset, .unset, .unset, .unset, .unset, .unset, .unset, .unset, .unset] [(.int (65 : Int32)), (.int (1 : Int32))]))
  refine own_step (fun _ kc_ => XS.icmpNo X0.here hx rfl (hb hby d7_18) rfl (XT.ii_ge_f (by decide : (1 : Int32) < (65 : Int32))) (XS.iloadN X0.here hx rfl (hb hby d7_21) rfl (XS.iconst X0.here hx rfl (hb hby d7_22) (XS.iand X0.here hx rfl (hb hby d7_23) rfl kc_)))) ?_
  show own_Ends p e below s _ _ _ (s₁.setTop (mkF m 24 #[.val .null, .val (.ref ka), .val (.int (0 : Int32)), .val (.int (0 : Int32)), .val (.int (1 : Int32)), .val (.int (0 : Int32)), .val (.int (1 : Int32)), .unset, .unset, .unset, .unset, .unset, .unset, .unset, .unset, .unset, .unset, .unset, .unset, .unset, .unset, .unset, .unset, .unset, .unset] [(.int ((0 : Int32) &&& (1 : Int32)))]))
  rw [show ((0 : Int32) &&& (1 : Int32)) = (0 : Int32) from by decide]
  show own_Ends p e below s _ _ _ (s₁.setTop (mkF m 24 #[.val .null, .val (.ref ka), .val (.int (0 : Int32)), .val (.int (0 : Int32)), .val (.int (1 : Int32)), .val (.int (0 : Int32)), .val (.int (1 : Int32)), .unset, .unset, .unset, .unset, .unset, .unset, .unset, .unset, .unset, .unset, .unset, .unset, .unset, .unset, .unset, .unset, .unset, .unset] [(.int (0 : Int32))]))
  refine own_step (fun _ kc_ => XS.ifYes X0.here hx rfl (pc0 := 24) (pc' := 46) rfl (hb hby d7_24) rfl (XT.i0_le_t (by decide : ¬ (0 < (0 : Int32)))) (by decide) (by decide) (XS.iload X0.here hx rfl (hb hby d7_46) rfl (XS.bipush X0.here hx rfl (hb hby d7_48) (XS.icmpNo X0.here hx rfl (hb hby d7_50) rfl (XT.ii_ge_f (by decide : (1 : Int32) < (44 : Int32))) (XS.aloadN X0.here hx rfl (hb hby d7_53) rfl rfl (XS.iloadN X0.here hx rfl (hb hby d7_54) rfl (XS.iload X0.here hx rfl (hb hby d7_55) rfl kc_))))))) ?_
  show own_Ends p e below s _ _ _ (s₁.setTop (mkF m 57 #[.val .null, .val (.ref ka), .val (.int (0 : Int32)), .val (.int (0 : Int32)), .val (.int (1 : Int32)), .val (.int (0 : Int32)), .val (.int (1 : Int32)), .unset, .unset, .unset, .unset, .unset, .unset, .unset, .unset, .unset, .unset, .unset, .unset, .unset, .unset, .unset, .unset, .unset, .unset] [(.int (1 : Int32)), (.int (0 : Int32)), (.ref ka)]))
  obtain ⟨_, _, ⟨T1, L1, k1, n1⟩, -, X1, ⟨Lc1, hQ1, l1, y1, z1⟩, st1⟩ := Jvm.LawKit.callS X0 hx (y := (⟨"java/util/DualPivotQuicksort", "insertionSort", "([JII)V"⟩ : MethodName)) hown (mvT hZ (hw _ (List.mem_of_getElem? (i := 37) rfl))) (mvT hZ (hw _ (List.mem_of_getElem? (i := 38) rfl))) (mvT hZ (hw _ (List.mem_of_getElem? (i := 32) rfl))) (mvT hZ (hw _ (List.mem_of_getElem? (i := 39) rfl))) (by decide) (backOf (W := 0) (rmI1a l Z a0 hw [] ka k0 h0 n0 Z0 A0 g0) hZ (hw _ (List.mem_of_getElem? (i := 39) rfl)) (hw _ (List.mem_of_getElem? (i := 32) rfl)) (by decide) (by decide)) (g := (mkF m 57 #[.val .null, .val (.ref ka), .val (.int (0 : Int32)), .val (.int (0 : Int32)), .val (.int (1 : Int32)), .val (.int (0 : Int32)), .val (.int (1 : Int32)), .unset, .unset, .unset, .unset, .unset, .unset, .unset, .unset, .unset, .unset, .unset, .unset, .unset, .unset, .unset, .unset, .unset, .unset] [(.int (1 : Int32)), (.int (0 : Int32)), (.ref ka)])) rfl (by rw [hml]; rfl) (argsL := [(.ref ka), (.int (0 : Int32)), (.int (1 : Int32))]) (rest := []) (lenOf pd_4 rfl) rfl (by show 2 * 0 + _ ≤ _; exact Nat.le_of_eq rfl) (hb hby d7_57) (fun _ _ => ⟨rfl, e0, (by decide : 0 + 0 ≤ _), (by decide : 0 + 0 ≤ _)⟩)
  dsimp only [Pt.U, Pt.locs, Pt.cells, Pt.slots] at X1 l1 y1 z1 st1 hQ1
  subst y1 z1
  obtain ⟨rfl, N1q, K1k, A1k⟩ := hQ1
  have K1 := ((Keep.refl h0 [ka])).trans K1k (allS (Or.inl (List.mem_of_getElem? (i := 0) rfl)) all0)
  have Zs1 := Nat.le_trans Z0 K1k.1
  have N1 : Fr n0 L1 := by rw [l1]; exact Fr.app N0 N1q
  refine own_step (fun _ kc_ => st1 _ kc_) ?_
  show own_Ends p e below s _ _ _ (T1.setTop (mkF m 60 #[.val .null, .val (.ref ka), .val (.int (0 : Int32)), .val (.int (0 : Int32)), .val (.int (1 : Int32)), .val (.int (0 : Int32)), .val (.int (1 : Int32)), .unset, .unset, .unset, .unset, .unset, .unset, .unset, .unset, .unset, .unset, .unset, .unset, .unset, .unset, .unset, .unset, .unset, .unset] []))
  exact own_retV X1 hx hret hlk (hb hby d7_60) (by decide) (by decide) (by exact ⟨rfl, N1, K1, A1k⟩)
theorem ef_rmD1a (m : MethodId) (ka : Addr)  : entryFrame m #[(.ref ka), (.int (0 : Int32)), (.int (0 : Int32)), (.int (1 : Int32))] 7 = mkF m 0 #[.val (.ref ka), .val (.int (0 : Int32)), .val (.int (0 : Int32)), .val (.int (1 : Int32)), .unset, .unset, .unset] [] := by first | (simp [entryFrame, mkF, argsToLocals, Value.category]; done) | rfl
def QD1a (Z : State) (ka : Addr) (k0 : Int64) (h0 : Heap) (n0 : Nat) (v : Option Value) (h : Heap) (L : List Loc) : Prop := v = none ∧ Fr n0 L ∧ Keep h0 h [ka] ∧ own_Ar Z h ka .long [(.long k0)]
set_option maxRecDepth 65536 in
set_option maxHeartbeats 40000000 in
theorem rmD1a (l : Launch) (Z : State) (a0 : Array Value) (hw : ∀ d ∈ tables_1, d.before a0 Z = true) (ws : List Jvm.Cond) (ka : Addr) (k0 : Int64) (h0 : Heap) (n0 : Nat) (Z0 : n0 ≤ h0.size) (A0 : own_Ar Z h0 ka .long [(.long k0)]) (g0 : n0 ≤ ka) :
    MetFree l (⟨"java/util/DualPivotQuicksort", "sort", "([JIII)V"⟩ : MethodName) (head1 (Jvm.Cond.code (⟨"java/util/DualPivotQuicksort", "sort", "([JIII)V"⟩ : MethodName) jdk_2529_method_12_code 7 none :: ws) ({ frames := 2, cells := 0, slots := 0, locals := 54 } : Room)) (fun a U => a = #[(.ref ka), (.int (0 : Int32)), (.int (0 : Int32)), (.int (1 : Int32))] ∧ Z.Warmed39 U.vm ∧ U.heap = h0) (fun _ _ _ _ _ => True) (fun _ U o U' => ∃ v L, o = .returned v ∧ QD1a Z ka k0 h0 n0 v U'.heap L ∧ FrameEnd U o U' L ({ frames := 2, cells := 0, slots := 0, locals := 54 } : Room).cells ({ frames := 2, cells := 0, slots := 0, locals := 54 } : Room).slots) := by
  refine MetFree.of_bodySF (plainFor_of_name pn_2) hisR ?_
  intro p e s m args below meth c s₁ Bd hml0 hP hK
  obtain ⟨rfl, hZ, hh⟩ := hP
  have hx := Bd.exec
  have hby := Bd.bytes
  have hlk : meth.locks = false := BodyLoose.notSynchronized Bd
  have hret := Bd.returns
  have hml : c.maxLocals = 7 := hml0
  have hown : s.vm.findClass "java/util/DualPivotQuicksort" = some m.cls := findClass_of_methodNamed Bd.named
  have hnm := (name_of_methodNamed Bd.named Bd.method).1
  have X0 : Stand p l e ({ frames := 2, cells := 0, slots := 0, locals := 54 } : Room) s m #[(.ref ka), (.int (0 : Int32)), (.int (0 : Int32)), (.int (1 : Int32))] below meth c s₁ [] 0 0 := Stand.of_body Bd
  have e0 : s₁.heap = h0 := by rw [← hh, Bd.state]; rfl
  have N0 := Fr.nil n0
  show own_Ends p e below s 0 0 (QD1a Z ka k0 h0 n0) (s₁.setTop (entryFrame m #[(.ref ka), (.int (0 : Int32)), (.int (0 : Int32)), (.int (1 : Int32))] 7))
  refine own_step (fun t k => castTop (ef_rmD1a m ka ) k) ?_
  show own_Ends p e below s _ _ _ (s₁.setTop (mkF m 0 #[.val (.ref ka), .val (.int (0 : Int32)), .val (.int (0 : Int32)), .val (.int (1 : Int32)), .unset, .unset, .unset] []))
  refine own_step (fun _ kc_ => XS.iloadN X0.here hx rfl (hb hby d6_0) rfl (XS.iloadN X0.here hx rfl (hb hby d6_1) rfl (XS.isub X0.here hx rfl (hb hby d6_2) rfl kc_))) ?_
  show own_Ends p e below s _ _ _ (s₁.setTop (mkF m 3 #[.val (.ref ka), .val (.int (0 : Int32)), .val (.int (0 : Int32)), .val (.int (1 : Int32)), .unset, .unset, .unset] [(.int ((1 : Int32) - (0 : Int32)))]))
  rw [show ((1 : Int32) - (0 : Int32)) = (1 : Int32) from by decide]
  show own_Ends p e below s _ _ _ (s₁.setTop (mkF m 3 #[.val (.ref ka), .val (.int (0 : Int32)), .val (.int (0 : Int32)), .val (.int (1 : Int32)), .unset, .unset, .unset] [(.int (1 : Int32))]))
  refine own_step (fun _ kc_ => XS.istore X0.here hx rfl (hb hby d6_3) rfl (l' := #[.val (.ref ka), .val (.int (0 : Int32)), .val (.int (0 : Int32)), .val (.int (1 : Int32)), .val (.int (1 : Int32)), .unset, .unset]) rfl (XS.iloadN X0.here hx rfl (hb hby d6_5) rfl (XS.iconst X0.here hx rfl (hb hby d6_6) (XS.icmpYes X0.here hx rfl (pc0 := 7) (pc' := 68) rfl (hb hby d6_7) rfl (XT.ii_le_t (by decide : ¬ ((1 : Int32) < (0 : Int32)))) (by decide) (by decide) (XS.aconstNull X0.here hx rfl (hb hby d6_68) (XS.aloadN X0.here hx rfl (hb hby d6_69) rfl rfl (XS.iconst X0.here hx rfl (hb hby d6_70) (XS.iloadN X0.here hx rfl (hb hby d6_71) rfl kc_)))))))) ?_
  show own_Ends p e below s _ _ _ (s₁.setTop (mkF m 72 #[.val (.ref ka), .val (.int (0 : Int32)), .val (.int (0 : Int32)), .val (.int (1 : Int32)), .val (.int (1 : Int32)), .unset, .unset] [(.int (0 : Int32)), (.int (0 : Int32)), (.ref ka), .null]))
  refine own_step (fun _ kc_ => XS.iloadN X0.here hx rfl (hb hby d6_72) rfl kc_) ?_
  show own_Ends p e below s _ _ _ (s₁.setTop (mkF m 73 #[.val (.ref ka), .val (.int (0 : Int32)), .val (.int (0 : Int32)), .val (.int (1 : Int32)), .val (.int (1 : Int32)), .unset, .unset] [(.int (1 : Int32)), (.int (0 : Int32)), (.int (0 : Int32)), (.ref ka), .null]))
  obtain ⟨_, _, ⟨T2, L2, k2, n2⟩, -, X2, ⟨Lc2, hQ2, l2, y2, z2⟩, st2⟩ := Jvm.LawKit.callS X0 hx (y := (⟨"java/util/DualPivotQuicksort", "sort", "(Ljava/util/DualPivotQuicksort$Sorter;[JIII)V"⟩ : MethodName)) hown (mvT hZ (hw _ (List.mem_of_getElem? (i := 34) rfl))) (mvT hZ (hw _ (List.mem_of_getElem? (i := 35) rfl))) (mvT hZ (hw _ (List.mem_of_getElem? (i := 32) rfl))) (mvT hZ (hw _ (List.mem_of_getElem? (i := 36) rfl))) (by decide) (backOf (W := 0) (rmE1a l Z a0 hw [] ka k0 h0 n0 Z0 A0 g0) hZ (hw _ (List.mem_of_getElem? (i := 36) rfl)) (hw _ (List.mem_of_getElem? (i := 32) rfl)) (by decide) (by decide)) (g := (mkF m 73 #[.val (.ref ka), .val (.int (0 : Int32)), .val (.int (0 : Int32)), .val (.int (1 : Int32)), .val (.int (1 : Int32)), .unset, .unset] [(.int (1 : Int32)), (.int (0 : Int32)), (.int (0 : Int32)), (.ref ka), .null])) rfl (by rw [hml]; rfl) (argsL := [.null, (.ref ka), (.int (0 : Int32)), (.int (0 : Int32)), (.int (1 : Int32))]) (rest := []) (lenOf pd_3 rfl) rfl (by show 2 * 0 + _ ≤ _; exact Nat.le_of_eq rfl) (hb hby d6_73) (fun _ _ => ⟨rfl, e0, (by decide : 0 + 0 ≤ _), (by decide : 0 + 0 ≤ _)⟩)
  dsimp only [Pt.U, Pt.locs, Pt.cells, Pt.slots] at X2 l2 y2 z2 st2 hQ2
  subst y2 z2
  obtain ⟨rfl, N2q, K2k, A2k⟩ := hQ2
  have K2 := ((Keep.refl h0 [ka])).trans K2k (allS (Or.inl (List.mem_of_getElem? (i := 0) rfl)) all0)
  have Zs2 := Nat.le_trans Z0 K2k.1
  have N2 : Fr n0 L2 := by rw [l2]; exact Fr.app N0 N2q
  refine own_step (fun _ kc_ => st2 _ kc_) ?_
  show own_Ends p e below s _ _ _ (T2.setTop (mkF m 76 #[.val (.ref ka), .val (.int (0 : Int32)), .val (.int (0 : Int32)), .val (.int (1 : Int32)), .val (.int (1 : Int32)), .unset, .unset] []))
  exact own_retV X2 hx hret hlk (hb hby d6_76) (by decide) (by decide) (by exact ⟨rfl, N2, K2, A2k⟩)
theorem ef_rmS1a (m : MethodId) (ka : Addr)  : entryFrame m #[(.ref ka)] 1 = mkF m 0 #[.val (.ref ka)] [] := by first | (simp [entryFrame, mkF, argsToLocals, Value.category]; done) | rfl
def QS1a (Z : State) (ka : Addr) (k0 : Int64) (h0 : Heap) (n0 : Nat) (v : Option Value) (h : Heap) (L : List Loc) : Prop := v = none ∧ Fr n0 L ∧ Keep h0 h [ka] ∧ own_Ar Z h ka .long [(.long k0)]
set_option maxRecDepth 65536 in
set_option maxHeartbeats 40000000 in
theorem rmS1a (l : Launch) (Z : State) (a0 : Array Value) (hw : ∀ d ∈ tables_1, d.before a0 Z = true) (ws : List Jvm.Cond) (ka : Addr) (k0 : Int64) (h0 : Heap) (n0 : Nat) (Z0 : n0 ≤ h0.size) (A0 : own_Ar Z h0 ka .long [(.long k0)]) (g0 : n0 ≤ ka) :
    MetFree l (⟨"java/util/Arrays", "sort", "([J)V"⟩ : MethodName) (head1 (Jvm.Cond.code (⟨"java/util/Arrays", "sort", "([J)V"⟩ : MethodName) jdk_65_method_4_code 1 none :: ws) ({ frames := 3, cells := 0, slots := 0, locals := 72 } : Room)) (fun a U => a = #[(.ref ka)] ∧ Z.Warmed39 U.vm ∧ U.heap = h0) (fun _ _ _ _ _ => True) (fun _ U o U' => ∃ v L, o = .returned v ∧ QS1a Z ka k0 h0 n0 v U'.heap L ∧ FrameEnd U o U' L ({ frames := 3, cells := 0, slots := 0, locals := 72 } : Room).cells ({ frames := 3, cells := 0, slots := 0, locals := 72 } : Room).slots) := by
  refine MetFree.of_bodySF (plainFor_of_name pn_1) hisR ?_
  intro p e s m args below meth c s₁ Bd hml0 hP hK
  obtain ⟨rfl, hZ, hh⟩ := hP
  have hx := Bd.exec
  have hby := Bd.bytes
  have hlk : meth.locks = false := BodyLoose.notSynchronized Bd
  have hret := Bd.returns
  have hml : c.maxLocals = 1 := hml0
  have hown : s.vm.findClass "java/util/Arrays" = some m.cls := findClass_of_methodNamed Bd.named
  have hnm := (name_of_methodNamed Bd.named Bd.method).1
  have X0 : Stand p l e ({ frames := 3, cells := 0, slots := 0, locals := 72 } : Room) s m #[(.ref ka)] below meth c s₁ [] 0 0 := Stand.of_body Bd
  have e0 : s₁.heap = h0 := by rw [← hh, Bd.state]; rfl
  have N0 := Fr.nil n0
  show own_Ends p e below s 0 0 (QS1a Z ka k0 h0 n0) (s₁.setTop (entryFrame m #[(.ref ka)] 1))
  refine own_step (fun t k => castTop (ef_rmS1a m ka ) k) ?_
  show own_Ends p e below s _ _ _ (s₁.setTop (mkF m 0 #[.val (.ref ka)] []))
  refine own_step (fun _ kc_ => XS.aloadN X0.here hx rfl (hb hby d5_0) rfl rfl (XS.iconst X0.here hx rfl (hb hby d5_1) (XS.iconst X0.here hx rfl (hb hby d5_2) (XS.aloadN X0.here hx rfl (hb hby d5_3) rfl rfl (own_alen X0 hx hZ e0 A0 (n := 1) (z := (1 : Int32)) rfl rfl (hb hby d5_4) _ kc_))))) ?_
  show own_Ends p e below s _ _ _ (s₁.setTop (mkF m 5 #[.val (.ref ka)] [(.int (1 : Int32)), (.int (0 : Int32)), (.int (0 : Int32)), (.ref ka)]))
  obtain ⟨_, _, ⟨T3, L3, k3, n3⟩, -, X3, ⟨Lc3, hQ3, l3, y3, z3⟩, st3⟩ := Jvm.LawKit.callS X0 hx (y := (⟨"java/util/DualPivotQuicksort", "sort", "([JIII)V"⟩ : MethodName)) hown (mvT hZ (hw _ (List.mem_of_getElem? (i := 30) rfl))) (mvT hZ (hw _ (List.mem_of_getElem? (i := 31) rfl))) (mvT hZ (hw _ (List.mem_of_getElem? (i := 32) rfl))) (mvT hZ (hw _ (List.mem_of_getElem? (i := 33) rfl))) (by decide) (backOf (W := 0) (rmD1a l Z a0 hw [] ka k0 h0 n0 Z0 A0 g0) hZ (hw _ (List.mem_of_getElem? (i := 33) rfl)) (hw _ (List.mem_of_getElem? (i := 32) rfl)) (by decide) (by decide)) (g := (mkF m 5 #[.val (.ref ka)] [(.int (1 : Int32)), (.int (0 : Int32)), (.int (0 : Int32)), (.ref ka)])) rfl (by rw [hml]; rfl) (argsL := [(.ref ka), (.int (0 : Int32)), (.int (0 : Int32)), (.int (1 : Int32))]) (rest := []) (lenOf pd_2 rfl) rfl (by show 2 * 0 + _ ≤ _; exact Nat.le_of_eq rfl) (hb hby d5_5) (fun _ _ => ⟨rfl, e0, (by decide : 0 + 0 ≤ _), (by decide : 0 + 0 ≤ _)⟩)
  dsimp only [Pt.U, Pt.locs, Pt.cells, Pt.slots] at X3 l3 y3 z3 st3 hQ3
  subst y3 z3
  obtain ⟨rfl, N3q, K3k, A3k⟩ := hQ3
  have K3 := ((Keep.refl h0 [ka])).trans K3k (allS (Or.inl (List.mem_of_getElem? (i := 0) rfl)) all0)
  have Zs3 := Nat.le_trans Z0 K3k.1
  have N3 : Fr n0 L3 := by rw [l3]; exact Fr.app N0 N3q
  refine own_step (fun _ kc_ => st3 _ kc_) ?_
  show own_Ends p e below s _ _ _ (T3.setTop (mkF m 8 #[.val (.ref ka)] []))
  exact own_retV X3 hx hret hlk (hb hby d5_8) (by decide) (by decide) (by exact ⟨rfl, N3, K3, A3k⟩)
theorem ef_rmI2a (m : MethodId) (ka : Addr)  : entryFrame m #[(.ref ka), (.int (0 : Int32)), (.int (2 : Int32))] 7 = mkF m 0 #[.val (.ref ka), .val (.int (0 : Int32)), .val (.int (2 : Int32)), .unset, .unset, .unset, .unset] [] := by first | (simp [entryFrame, mkF, argsToLocals, Value.category]; done) | rfl
def QI2a (Z : State) (ka : Addr) (k0 : Int64) (k1 : Int64) (h0 : Heap) (n0 : Nat) (v : Option Value) (h : Heap) (L : List Loc) : Prop := v = none ∧ Fr n0 L ∧ Keep h0 h [ka] ∧ own_Ar Z h ka .long [(.long k0), (.long k1)]
set_option maxRecDepth 65536 in
set_option maxHeartbeats 40000000 in
theorem rmI2a (l : Launch) (Z : State) (a0 : Array Value) (hw : ∀ d ∈ tables_1, d.before a0 Z = true) (ws : List Jvm.Cond) (ka : Addr) (k0 : Int64) (k1 : Int64) (h0 : Heap) (n0 : Nat) (Z0 : n0 ≤ h0.size) (A0 : own_Ar Z h0 ka .long [(.long k0), (.long k1)]) (g0 : n0 ≤ ka) (hlt : ¬ k1 < k0) :
    MetFree l (⟨"java/util/DualPivotQuicksort", "insertionSort", "([JII)V"⟩ : MethodName) (head1 (Jvm.Cond.code (⟨"java/util/DualPivotQuicksort", "insertionSort", "([JII)V"⟩ : MethodName) jdk_2529_method_15_code 7 none :: ws) ({ frames := 0, cells := 0, slots := 0, locals := 0 } : Room)) (fun a U => a = #[(.ref ka), (.int (0 : Int32)), (.int (2 : Int32))] ∧ Z.Warmed39 U.vm ∧ U.heap = h0) (fun _ _ _ _ _ => True) (fun _ U o U' => ∃ v L, o = .returned v ∧ QI2a Z ka k0 k1 h0 n0 v U'.heap L ∧ FrameEnd U o U' L ({ frames := 0, cells := 0, slots := 0, locals := 0 } : Room).cells ({ frames := 0, cells := 0, slots := 0, locals := 0 } : Room).slots) := by
  refine MetFree.of_bodySF (plainFor_of_name pn_2) hisR ?_
  intro p e s m args below meth c s₁ Bd hml0 hP hK
  obtain ⟨rfl, hZ, hh⟩ := hP
  have hx := Bd.exec
  have hby := Bd.bytes
  have hlk : meth.locks = false := BodyLoose.notSynchronized Bd
  have hret := Bd.returns
  have hml : c.maxLocals = 7 := hml0
  have hown : s.vm.findClass "java/util/DualPivotQuicksort" = some m.cls := findClass_of_methodNamed Bd.named
  have hnm := (name_of_methodNamed Bd.named Bd.method).1
  have X0 : Stand p l e ({ frames := 0, cells := 0, slots := 0, locals := 0 } : Room) s m #[(.ref ka), (.int (0 : Int32)), (.int (2 : Int32))] below meth c s₁ [] 0 0 := Stand.of_body Bd
  have e0 : s₁.heap = h0 := by rw [← hh, Bd.state]; rfl
  have N0 := Fr.nil n0
  show own_Ends p e below s 0 0 (QI2a Z ka k0 k1 h0 n0) (s₁.setTop (entryFrame m #[(.ref ka), (.int (0 : Int32)), (.int (2 : Int32))] 7))
  refine own_step (fun t k => castTop (ef_rmI2a m ka ) k) ?_
  show own_Ends p e below s _ _ _ (s₁.setTop (mkF m 0 #[.val (.ref ka), .val (.int (0 : Int32)), .val (.int (2 : Int32)), .unset, .unset, .unset, .unset] []))
  refine own_step (fun _ kc_ => XS.iloadN X0.here hx rfl (hb hby d8_0) rfl (XS.istore X0.here hx rfl (hb hby d8_1) rfl (l' := #[.val (.ref ka), .val (.int (0 : Int32)), .val (.int (2 : Int32)), .unset, .val (.int (0 : Int32)), .unset, .unset]) rfl (XS.iinc X0.here hx rfl (hb hby d8_3) rfl (l' := #[.val (.ref ka), .val (.int (0 : Int32)), .val (.int (2 : Int32)), .unset, .val (.int ((0 : Int32) + (1 : Int32))), .unset, .unset]) rfl kc_))) ?_
  show own_Ends p e below s _ _ _ (s₁.setTop (mkF m 6 #[.val (.ref ka), .val (.int (0 : Int32)), .val (.int (2 : Int32)), .unset, .val (.int ((0 : Int32) + (1 : Int32))), .unset, .unset] []))
  rw [show ((0 : Int32) + (1 : Int32)) = (1 : Int32) from by decide]
  show own_Ends p e below s _ _ _ (s₁.setTop (mkF m 6 #[.val (.ref ka), .val (.int (0 : Int32)), .val (.int (2 : Int32)), .unset, .val (.int (1 : Int32)), .unset, .unset] []))
  refine own_step (fun _ kc_ => XS.iload X0.here hx rfl (hb hby d8_6) rfl (XS.iloadN X0.here hx rfl (hb hby d8_8) rfl (XS.icmpNo X0.here hx rfl (hb hby d8_9) rfl (XT.ii_ge_f (by decide : (1 : Int32) < (2 : Int32))) (XS.aloadN X0.here hx rfl (hb hby d8_12) rfl rfl (XS.iload X0.here hx rfl (hb hby d8_13) rfl (XS.dup X0.here hx rfl (hb hby d8_15) rfl rfl (XS.istoreN X0.here hx rfl (hb hby d8_16) rfl (l' := #[.val (.ref ka), .val (.int (0 : Int32)), .val (.int (2 : Int32)), .val (.int (1 : Int32)), .val (.int (1 : Int32)), .unset, .unset]) rfl (own_laload X0 hx hZ e0 A0 (j := (1 : Int32)) (by decide) (i := 1) rfl (v := (.long k1)) rfl (hb hby d8_17) _ kc_)))))))) ?_
  show own_Ends p e below s _ _ _ (s₁.setTop (mkF m 18 #[.val (.ref ka), .val (.int (0 : Int32)), .val (.int (2 : Int32)), .val (.int (1 : Int32)), .val (.int (1 : Int32)), .unset, .unset] [(.long k1)]))
  refine own_step (fun _ kc_ => XS.lstore X0.here hx rfl (hb hby d8_18) rfl (l' := #[.val (.ref ka), .val (.int (0 : Int32)), .val (.int (2 : Int32)), .val (.int (1 : Int32)), .val (.int (1 : Int32)), .val (.long k1), .second]) rfl (XS.lload X0.here hx rfl (hb hby d8_20) rfl (XS.aloadN X0.here hx rfl (hb hby d8_22) rfl rfl (XS.iloadN X0.here hx rfl (hb hby d8_23) rfl (XS.iconst X0.here hx rfl (hb hby d8_24) (XS.isub X0.here hx rfl (hb hby d8_25) rfl kc_)))))) ?_
  show own_Ends p e below s _ _ _ (s₁.setTop (mkF m 26 #[.val (.ref ka), .val (.int (0 : Int32)), .val (.int (2 : Int32)), .val (.int (1 : Int32)), .val (.int (1 : Int32)), .val (.long k1), .second] [(.int ((1 : Int32) - (1 : Int32))), (.ref ka), (.long k1)]))
  rw [show ((1 : Int32) - (1 : Int32)) = (0 : Int32) from by decide]
  show own_Ends p e below s _ _ _ (s₁.setTop (mkF m 26 #[.val (.ref ka), .val (.int (0 : Int32)), .val (.int (2 : Int32)), .val (.int (1 : Int32)), .val (.int (1 : Int32)), .val (.long k1), .second] [(.int (0 : Int32)), (.ref ka), (.long k1)]))
  refine own_step (fun _ kc_ => own_laload X0 hx hZ e0 A0 (j := (0 : Int32)) (by decide) (i := 0) rfl (v := (.long k0)) rfl (hb hby d8_26) _ (XT.lcmp X0.here hx rfl (hb hby d8_27) rfl (XS.ifYes X0.here hx rfl (pc0 := 28) (pc' := 66) rfl (hb hby d8_28) rfl (XT.ll_ge_t (hlt : ¬ (k1 < k0))) (by decide) (by decide) (XS.goto X0.here hx rfl (pc0 := 66) (pc' := 3) rfl (hb hby d8_66) (by decide) (by decide) (XS.iinc X0.here hx rfl (hb hby d8_3) rfl (l' := #[.val (.ref ka), .val (.int (0 : Int32)), .val (.int (2 : Int32)), .val (.int (1 : Int32)), .val (.int ((1 : Int32) + (1 : Int32))), .val (.long k1), .second]) rfl kc_))))) ?_
  show own_Ends p e below s _ _ _ (s₁.setTop (mkF m 6 #[.val (.ref ka), .val (.int (0 : Int32)), .val (.int (2 : Int32)), .val (.int (1 : Int32)), .val (.int ((1 : Int32) + (1 : Int32))), .val (.long k1), .second] []))
  rw [show ((1 : Int32) + (1 : Int32)) = (2 : Int32) from by decide]
  show own_Ends p e below s _ _ _ (s₁.setTop (mkF m 6 #[.val (.ref ka), .val (.int (0 : Int32)), .val (.int (2 : Int32)), .val (.int (1 : Int32)), .val (.int (2 : Int32)), .val (.long k1), .second] []))
  refine own_step (fun _ kc_ => XS.iload X0.here hx rfl (hb hby d8_6) rfl (XS.iloadN X0.here hx rfl (hb hby d8_8) rfl (XS.icmpYes X0.here hx rfl (pc0 := 9) (pc' := 69) rfl (hb hby d8_9) rfl (XT.ii_ge_t (by decide : ¬ ((2 : Int32) < (2 : Int32)))) (by decide) (by decide) kc_))) ?_
  show own_Ends p e below s _ _ _ (s₁.setTop (mkF m 69 #[.val (.ref ka), .val (.int (0 : Int32)), .val (.int (2 : Int32)), .val (.int (1 : Int32)), .val (.int (2 : Int32)), .val (.long k1), .second] []))
  exact own_retV X0 hx hret hlk (hb hby d8_69) (by decide) (by decide) (by rw [e0]; exact ⟨rfl, N0, (Keep.refl h0 [ka]), A0⟩)
theorem ef_rmE2a (m : MethodId) (ka : Addr)  : entryFrame m #[.null, (.ref ka), (.int (0 : Int32)), (.int (0 : Int32)), (.int (2 : Int32))] 25 = mkF m 0 #[.val .null, .val (.ref ka), .val (.int (0 : Int32)), .val (.int (0 : Int32)), .val (.int (2 : Int32)), .unset, .unset, .unset, .unset, .unset, .unset, .unset, .unset, .unset, .unset, .unset, .unset, .unset, .unset, .unset, .unset, .unset, .unset, .unset, .unset] [] := by first | (simp [entryFrame, mkF, argsToLocals, Value.category]; done) | rfl
def QE2a (Z : State) (ka : Addr) (k0 : Int64) (k1 : Int64) (h0 : Heap) (n0 : Nat) (v : Option Value) (h : Heap) (L : List Loc) : Prop := v = none ∧ Fr n0 L ∧ Keep h0 h [ka] ∧ own_Ar Z h ka .long [(.long k0), (.long k1)]
set_option maxRecDepth 65536 in
set_option maxHeartbeats 40000000 in
theorem rmE2a (l : Launch) (Z : State) (a0 : Array Value) (hw : ∀ d ∈ tables_1, d.before a0 Z = true) (ws : List Jvm.Cond) (ka : Addr) (k0 : Int64) (k1 : Int64) (h0 : Heap) (n0 : Nat) (Z0 : n0 ≤ h0.size) (A0 : own_Ar Z h0 ka .long [(.long k0), (.long k1)]) (g0 : n0 ≤ ka) (hlt : ¬ k1 < k0) :
    MetFree l (⟨"java/util/DualPivotQuicksort", "sort", "(Ljava/util/DualPivotQuicksort$Sorter;[JIII)V"⟩ : MethodName) (head1 (Jvm.Cond.code (⟨"java/util/DualPivotQuicksort", "sort", "(Ljava/util/DualPivotQuicksort$Sorter;[JIII)V"⟩ : MethodName) jdk_2529_method_13_code 25 none :: ws) ({ frames := 1, cells := 0, slots := 0, locals := 18 } : Room)) (fun a U => a = #[.null, (.ref ka), (.int (0 : Int32)), (.int (0 : Int32)), (.int (2 : Int32))] ∧ Z.Warmed39 U.vm ∧ U.heap = h0) (fun _ _ _ _ _ => True) (fun _ U o U' => ∃ v L, o = .returned v ∧ QE2a Z ka k0 k1 h0 n0 v U'.heap L ∧ FrameEnd U o U' L ({ frames := 1, cells := 0, slots := 0, locals := 18 } : Room).cells ({ frames := 1, cells := 0, slots := 0, locals := 18 } : Room).slots) := by
  refine MetFree.of_bodySF (plainFor_of_name pn_2) hisR ?_
  intro p e s m args below meth c s₁ Bd hml0 hP hK
  obtain ⟨rfl, hZ, hh⟩ := hP
  have hx := Bd.exec
  have hby := Bd.bytes
  have hlk : meth.locks = false := BodyLoose.notSynchronized Bd
  have hret := Bd.returns
  have hml : c.maxLocals = 25 := hml0
  have hown : s.vm.findClass "java/util/DualPivotQuicksort" = some m.cls := findClass_of_methodNamed Bd.named
  have hnm := (name_of_methodNamed Bd.named Bd.method).1
  have X0 : Stand p l e ({ frames := 1, cells := 0, slots := 0, locals := 18 } : Room) s m #[.null, (.ref ka), (.int (0 : Int32)), (.int (0 : Int32)), (.int (2 : Int32))] below meth c s₁ [] 0 0 := Stand.of_body Bd
  have e0 : s₁.heap = h0 := by rw [← hh, Bd.state]; rfl
  have N0 := Fr.nil n0
  show own_Ends p e below s 0 0 (QE2a Z ka k0 k1 h0 n0) (s₁.setTop (entryFrame m #[.null, (.ref ka), (.int (0 : Int32)), (.int (0 : Int32)), (.int (2 : Int32))] 25))
  refine own_step (fun t k => castTop (ef_rmE2a m ka ) k) ?_
  show own_Ends p e below s _ _ _ (s₁.setTop (mkF m 0 #[.val .null, .val (.ref ka), .val (.int (0 : Int32)), .val (.int (0 : Int32)), .val (.int (2 : Int32)), .unset, .unset, .unset, .unset, .unset, .unset, .unset, .unset, .unset, .unset, .unset, .unset, .unset, .unset, .unset, .unset, .unset, .unset, .unset, .unset] []))
  refine own_step (fun _ kc_ => XS.iload X0.here hx rfl (hb hby d7_0) rfl (XS.iconst X0.here hx rfl (hb hby d7_2) (XS.isub X0.here hx rfl (hb hby d7_3) rfl kc_))) ?_
  show own_Ends p e below s _ _ _ (s₁.setTop (mkF m 4 #[.val .null, .val (.ref ka), .val (.int (0 : Int32)), .val (.int (0 : Int32)), .val (.int (2 : Int32)), .unset, .unset, .unset, .unset, .unset, .unset, .unset, .unset, .unset, .unset, .unset, .unset, .unset, .unset, .unset, .unset, .unset, .unset, .unset, .unset] [(.int ((2 : Int32) - (1 : Int32)))]))
  rw [show ((2 : Int32) - (1 : Int32)) = (1 : Int32) from by decide]
  show own_Ends p e below s _ _ _ (s₁.setTop (mkF m 4 #[.val .null, .val (.ref ka), .val (.int (0 : Int32)), .val (.int (0 : Int32)), .val (.int (2 : Int32)), .unset, .unset, .unset, .unset, .unset, .unset, .unset, .unset, .unset, .unset, .unset, .unset, .unset, .unset, .unset, .unset, .unset, .unset, .unset, .unset] [(.int (1 : Int32))]))
  refine own_step (fun _ kc_ => XS.istore X0.here hx rfl (hb hby d7_4) rfl (l' := #[.val .null, .val (.ref ka), .val (.int (0 : Int32)), .val (.int (0 : Int32)), .val (.int (2 : Int32)), .val (.int (1 : Int32)), .unset, .unset, .unset, .unset, .unset, .unset, .unset, .unset, .unset, .unset, .unset, .unset, .unset, .unset, .unset, .unset, .unset, .unset, .unset]) rfl (XS.iload X0.here hx rfl (hb hby d7_6) rfl (XS.iloadN X0.here hx rfl (hb hby d7_8) rfl (XS.isub X0.here hx rfl (hb hby d7_9) rfl kc_)))) ?_
  show own_Ends p e below s _ _ _ (s₁.setTop (mkF m 10 #[.val .null, .val (.ref ka), .val (.int (0 : Int32)), .val (.int (0 : Int32)), .val (.int (2 : Int32)), .val (.int (1 : Int32)), .unset, .unset, .unset, .unset, .unset, .unset, .unset, .unset, .unset, .unset, .unset, .unset, .unset, .unset, .unset, .unset, .unset, .unset, .unset] [(.int ((2 : Int32) - (0 : Int32)))]))
  rw [show ((2 : Int32) - (0 : Int32)) = (2 : Int32) from by decide]
  show own_Ends p e below s _ _ _ (s₁.setTop (mkF m 10 #[.val .null, .val (.ref ka), .val (.int (0 : Int32)), .val (.int (0 : Int32)), .val (.int (2 : Int32)), .val (.int (1 : Int32)), .unset, .unset, .unset, .unset, .unset, .unset, .unset, .unset, .unset, .unset, .unset, .unset, .unset, .unset, .unset, .unset, .unset, .unset, .unset] [(.int (2 : Int32))]))
  refine own_step (fun _ kc_ => XS.istore X0.here hx rfl (hb hby d7_10) rfl (l' := #[.val .null, .val (.ref ka), .val (.int (0 : Int32)), .val (.int (0 : Int32)), .val (.int (2 : Int32)), .val (.int (1 : Int32)), .val (.int (2 : Int32)), .unset, .unset, .unset, .unset, .unset, .unset, .unset, .unset, .unset, .unset, .unset, .unset, .unset, .unset, .unset, .unset, .unset, .unset]) rfl (XS.iload X0.here hx rfl (hb hby d7_12) rfl (XS.bipush X0.here hx rfl (hb hby d7_14) (XS.iloadN X0.here hx rfl (hb hby d7_16) rfl (XS.iadd X0.here hx rfl (hb hby d7_17) rfl kc_))))) ?_
  show own_Ends p e below s _ _ _ (s₁.setTop (mkF m 18 #[.val .null, .val (.ref ka), .val (.int (0 : Int32)), .val (.int (0 : Int32)), .val (.int (2 : Int32)), .val (.int (1 : Int32)), .val (.int (2 : Int32)), .unset, .unset, .unset, .unset, .unset, .unset, .unset, .unset, .unset, .unset, .unset, .unset, .unset, .unset, .unset, .unset, .unset, .unset] [(.int ((65 : Int32) + (0 : Int32))), (.int (2 : Int32))]))
  rw [show ((65 : Int32) + (0 : Int32)) = (65 : Int32) from by decide]
  show own_Ends p e below s _ _ _ (s₁.setTop (mkF m 18 #[.val .null, .val (.ref ka), .val (.int (0 : Int32)), .val (.int (0 : Int32)), .val (.int (2 : Int32)), .val (.int (1 : Int32)), .val (.int (2 : Int32)), .unset, .unset, .unset, .unset, .unset, .unset, .unset, .unset, .unset, .unset, .unset, .unset, .unset, .unset, .unset, .unset, .unset, .unset] [(.int (65 : Int32)), (.int (2 : Int32))]))
  refine own_step (fun _ kc_ => XS.icmpNo X0.here hx rfl (hb hby d7_18) rfl (XT.ii_ge_f (by decide : (2 : Int32) < (65 : Int32))) (XS.iloadN X0.here hx rfl (hb hby d7_21) rfl (XS.iconst X0.here hx rfl (hb hby d7_22) (XS.iand X0.here hx rfl (hb hby d7_23) rfl kc_)))) ?_
  show own_Ends p e below s _ _ _ (s₁.setTop (mkF m 24 #[.val .null, .val (.ref ka), .val (.int (0 : Int32)), .val (.int (0 : Int32)), .val (.int (2 : Int32)), .val (.int (1 : Int32)), .val (.int (2 : Int32)), .unset, .unset, .unset, .unset, .unset, .unset, .unset, .unset, .unset, .unset, .unset, .unset, .unset, .unset, .unset, .unset, .unset, .unset] [(.int ((0 : Int32) &&& (1 : Int32)))]))
  rw [show ((0 : Int32) &&& (1 : Int32)) = (0 : Int32) from by decide]
  show own_Ends p e below s _ _ _ (s₁.setTop (mkF m 24 #[.val .null, .val (.ref ka), .val (.int (0 : Int32)), .val (.int (0 : Int32)), .val (.int (2 : Int32)), .val (.int (1 : Int32)), .val (.int (2 : Int32)), .unset, .unset, .unset, .unset, .unset, .unset, .unset, .unset, .unset, .unset, .unset, .unset, .unset, .unset, .unset, .unset, .unset, .unset] [(.int (0 : Int32))]))
  refine own_step (fun _ kc_ => XS.ifYes X0.here hx rfl (pc0 := 24) (pc' := 46) rfl (hb hby d7_24) rfl (XT.i0_le_t (by decide : ¬ (0 < (0 : Int32)))) (by decide) (by decide) (XS.iload X0.here hx rfl (hb hby d7_46) rfl (XS.bipush X0.here hx rfl (hb hby d7_48) (XS.icmpNo X0.here hx rfl (hb hby d7_50) rfl (XT.ii_ge_f (by decide : (2 : Int32) < (44 : Int32))) (XS.aloadN X0.here hx rfl (hb hby d7_53) rfl rfl (XS.iloadN X0.here hx rfl (hb hby d7_54) rfl (XS.iload X0.here hx rfl (hb hby d7_55) rfl kc_))))))) ?_
  show own_Ends p e below s _ _ _ (s₁.setTop (mkF m 57 #[.val .null, .val (.ref ka), .val (.int (0 : Int32)), .val (.int (0 : Int32)), .val (.int (2 : Int32)), .val (.int (1 : Int32)), .val (.int (2 : Int32)), .unset, .unset, .unset, .unset, .unset, .unset, .unset, .unset, .unset, .unset, .unset, .unset, .unset, .unset, .unset, .unset, .unset, .unset] [(.int (2 : Int32)), (.int (0 : Int32)), (.ref ka)]))
  obtain ⟨_, _, ⟨T4, L4, k4, n4⟩, -, X4, ⟨Lc4, hQ4, l4, y4, z4⟩, st4⟩ := Jvm.LawKit.callS X0 hx (y := (⟨"java/util/DualPivotQuicksort", "insertionSort", "([JII)V"⟩ : MethodName)) hown (mvT hZ (hw _ (List.mem_of_getElem? (i := 37) rfl))) (mvT hZ (hw _ (List.mem_of_getElem? (i := 38) rfl))) (mvT hZ (hw _ (List.mem_of_getElem? (i := 32) rfl))) (mvT hZ (hw _ (List.mem_of_getElem? (i := 39) rfl))) (by decide) (backOf (W := 0) (rmI2a l Z a0 hw [] ka k0 k1 h0 n0 Z0 A0 g0 hlt) hZ (hw _ (List.mem_of_getElem? (i := 39) rfl)) (hw _ (List.mem_of_getElem? (i := 32) rfl)) (by decide) (by decide)) (g := (mkF m 57 #[.val .null, .val (.ref ka), .val (.int (0 : Int32)), .val (.int (0 : Int32)), .val (.int (2 : Int32)), .val (.int (1 : Int32)), .val (.int (2 : Int32)), .unset, .unset, .unset, .unset, .unset, .unset, .unset, .unset, .unset, .unset, .unset, .unset, .unset, .unset, .unset, .unset, .unset, .unset] [(.int (2 : Int32)), (.int (0 : Int32)), (.ref ka)])) rfl (by rw [hml]; rfl) (argsL := [(.ref ka), (.int (0 : Int32)), (.int (2 : Int32))]) (rest := []) (lenOf pd_4 rfl) rfl (by show 2 * 0 + _ ≤ _; exact Nat.le_of_eq rfl) (hb hby d7_57) (fun _ _ => ⟨rfl, e0, (by decide : 0 + 0 ≤ _), (by decide : 0 + 0 ≤ _)⟩)
  dsimp only [Pt.U, Pt.locs, Pt.cells, Pt.slots] at X4 l4 y4 z4 st4 hQ4
  subst y4 z4
  obtain ⟨rfl, N4q, K4k, A4k⟩ := hQ4
  have K4 := ((Keep.refl h0 [ka])).trans K4k (allS (Or.inl (List.mem_of_getElem? (i := 0) rfl)) all0)
  have Zs4 := Nat.le_trans Z0 K4k.1
  have N4 : Fr n0 L4 := by rw [l4]; exact Fr.app N0 N4q
  refine own_step (fun _ kc_ => st4 _ kc_) ?_
  show own_Ends p e below s _ _ _ (T4.setTop (mkF m 60 #[.val .null, .val (.ref ka), .val (.int (0 : Int32)), .val (.int (0 : Int32)), .val (.int (2 : Int32)), .val (.int (1 : Int32)), .val (.int (2 : Int32)), .unset, .unset, .unset, .unset, .unset, .unset, .unset, .unset, .unset, .unset, .unset, .unset, .unset, .unset, .unset, .unset, .unset, .unset] []))
  exact own_retV X4 hx hret hlk (hb hby d7_60) (by decide) (by decide) (by exact ⟨rfl, N4, K4, A4k⟩)
theorem ef_rmD2a (m : MethodId) (ka : Addr)  : entryFrame m #[(.ref ka), (.int (0 : Int32)), (.int (0 : Int32)), (.int (2 : Int32))] 7 = mkF m 0 #[.val (.ref ka), .val (.int (0 : Int32)), .val (.int (0 : Int32)), .val (.int (2 : Int32)), .unset, .unset, .unset] [] := by first | (simp [entryFrame, mkF, argsToLocals, Value.category]; done) | rfl
def QD2a (Z : State) (ka : Addr) (k0 : Int64) (k1 : Int64) (h0 : Heap) (n0 : Nat) (v : Option Value) (h : Heap) (L : List Loc) : Prop := v = none ∧ Fr n0 L ∧ Keep h0 h [ka] ∧ own_Ar Z h ka .long [(.long k0), (.long k1)]
set_option maxRecDepth 65536 in
set_option maxHeartbeats 40000000 in
theorem rmD2a (l : Launch) (Z : State) (a0 : Array Value) (hw : ∀ d ∈ tables_1, d.before a0 Z = true) (ws : List Jvm.Cond) (ka : Addr) (k0 : Int64) (k1 : Int64) (h0 : Heap) (n0 : Nat) (Z0 : n0 ≤ h0.size) (A0 : own_Ar Z h0 ka .long [(.long k0), (.long k1)]) (g0 : n0 ≤ ka) (hlt : ¬ k1 < k0) :
    MetFree l (⟨"java/util/DualPivotQuicksort", "sort", "([JIII)V"⟩ : MethodName) (head1 (Jvm.Cond.code (⟨"java/util/DualPivotQuicksort", "sort", "([JIII)V"⟩ : MethodName) jdk_2529_method_12_code 7 none :: ws) ({ frames := 2, cells := 0, slots := 0, locals := 54 } : Room)) (fun a U => a = #[(.ref ka), (.int (0 : Int32)), (.int (0 : Int32)), (.int (2 : Int32))] ∧ Z.Warmed39 U.vm ∧ U.heap = h0) (fun _ _ _ _ _ => True) (fun _ U o U' => ∃ v L, o = .returned v ∧ QD2a Z ka k0 k1 h0 n0 v U'.heap L ∧ FrameEnd U o U' L ({ frames := 2, cells := 0, slots := 0, locals := 54 } : Room).cells ({ frames := 2, cells := 0, slots := 0, locals := 54 } : Room).slots) := by
  refine MetFree.of_bodySF (plainFor_of_name pn_2) hisR ?_
  intro p e s m args below meth c s₁ Bd hml0 hP hK
  obtain ⟨rfl, hZ, hh⟩ := hP
  have hx := Bd.exec
  have hby := Bd.bytes
  have hlk : meth.locks = false := BodyLoose.notSynchronized Bd
  have hret := Bd.returns
  have hml : c.maxLocals = 7 := hml0
  have hown : s.vm.findClass "java/util/DualPivotQuicksort" = some m.cls := findClass_of_methodNamed Bd.named
  have hnm := (name_of_methodNamed Bd.named Bd.method).1
  have X0 : Stand p l e ({ frames := 2, cells := 0, slots := 0, locals := 54 } : Room) s m #[(.ref ka), (.int (0 : Int32)), (.int (0 : Int32)), (.int (2 : Int32))] below meth c s₁ [] 0 0 := Stand.of_body Bd
  have e0 : s₁.heap = h0 := by rw [← hh, Bd.state]; rfl
  have N0 := Fr.nil n0
  show own_Ends p e below s 0 0 (QD2a Z ka k0 k1 h0 n0) (s₁.setTop (entryFrame m #[(.ref ka), (.int (0 : Int32)), (.int (0 : Int32)), (.int (2 : Int32))] 7))
  refine own_step (fun t k => castTop (ef_rmD2a m ka ) k) ?_
  show own_Ends p e below s _ _ _ (s₁.setTop (mkF m 0 #[.val (.ref ka), .val (.int (0 : Int32)), .val (.int (0 : Int32)), .val (.int (2 : Int32)), .unset, .unset, .unset] []))
  refine own_step (fun _ kc_ => XS.iloadN X0.here hx rfl (hb hby d6_0) rfl (XS.iloadN X0.here hx rfl (hb hby d6_1) rfl (XS.isub X0.here hx rfl (hb hby d6_2) rfl kc_))) ?_
  show own_Ends p e below s _ _ _ (s₁.setTop (mkF m 3 #[.val (.ref ka), .val (.int (0 : Int32)), .val (.int (0 : Int32)), .val (.int (2 : Int32)), .unset, .unset, .unset] [(.int ((2 : Int32) - (0 : Int32)))]))
  rw [show ((2 : Int32) - (0 : Int32)) = (2 : Int32) from by decide]
  show own_Ends p e below s _ _ _ (s₁.setTop (mkF m 3 #[.val (.ref ka), .val (.int (0 : Int32)), .val (.int (0 : Int32)), .val (.int (2 : Int32)), .unset, .unset, .unset] [(.int (2 : Int32))]))
  refine own_step (fun _ kc_ => XS.istore X0.here hx rfl (hb hby d6_3) rfl (l' := #[.val (.ref ka), .val (.int (0 : Int32)), .val (.int (0 : Int32)), .val (.int (2 : Int32)), .val (.int (2 : Int32)), .unset, .unset]) rfl (XS.iloadN X0.here hx rfl (hb hby d6_5) rfl (XS.iconst X0.here hx rfl (hb hby d6_6) (XS.icmpYes X0.here hx rfl (pc0 := 7) (pc' := 68) rfl (hb hby d6_7) rfl (XT.ii_le_t (by decide : ¬ ((1 : Int32) < (0 : Int32)))) (by decide) (by decide) (XS.aconstNull X0.here hx rfl (hb hby d6_68) (XS.aloadN X0.here hx rfl (hb hby d6_69) rfl rfl (XS.iconst X0.here hx rfl (hb hby d6_70) (XS.iloadN X0.here hx rfl (hb hby d6_71) rfl kc_)))))))) ?_
  show own_Ends p e below s _ _ _ (s₁.setTop (mkF m 72 #[.val (.ref ka), .val (.int (0 : Int32)), .val (.int (0 : Int32)), .val (.int (2 : Int32)), .val (.int (2 : Int32)), .unset, .unset] [(.int (0 : Int32)), (.int (0 : Int32)), (.ref ka), .null]))
  refine own_step (fun _ kc_ => XS.iloadN X0.here hx rfl (hb hby d6_72) rfl kc_) ?_
  show own_Ends p e below s _ _ _ (s₁.setTop (mkF m 73 #[.val (.ref ka), .val (.int (0 : Int32)), .val (.int (0 : Int32)), .val (.int (2 : Int32)), .val (.int (2 : Int32)), .unset, .unset] [(.int (2 : Int32)), (.int (0 : Int32)), (.int (0 : Int32)), (.ref ka), .null]))
  obtain ⟨_, _, ⟨T5, L5, k5, n5⟩, -, X5, ⟨Lc5, hQ5, l5, y5, z5⟩, st5⟩ := Jvm.LawKit.callS X0 hx (y := (⟨"java/util/DualPivotQuicksort", "sort", "(Ljava/util/DualPivotQuicksort$Sorter;[JIII)V"⟩ : MethodName)) hown (mvT hZ (hw _ (List.mem_of_getElem? (i := 34) rfl))) (mvT hZ (hw _ (List.mem_of_getElem? (i := 35) rfl))) (mvT hZ (hw _ (List.mem_of_getElem? (i := 32) rfl))) (mvT hZ (hw _ (List.mem_of_getElem? (i := 36) rfl))) (by decide) (backOf (W := 0) (rmE2a l Z a0 hw [] ka k0 k1 h0 n0 Z0 A0 g0 hlt) hZ (hw _ (List.mem_of_getElem? (i := 36) rfl)) (hw _ (List.mem_of_getElem? (i := 32) rfl)) (by decide) (by decide)) (g := (mkF m 73 #[.val (.ref ka), .val (.int (0 : Int32)), .val (.int (0 : Int32)), .val (.int (2 : Int32)), .val (.int (2 : Int32)), .unset, .unset] [(.int (2 : Int32)), (.int (0 : Int32)), (.int (0 : Int32)), (.ref ka), .null])) rfl (by rw [hml]; rfl) (argsL := [.null, (.ref ka), (.int (0 : Int32)), (.int (0 : Int32)), (.int (2 : Int32))]) (rest := []) (lenOf pd_3 rfl) rfl (by show 2 * 0 + _ ≤ _; exact Nat.le_of_eq rfl) (hb hby d6_73) (fun _ _ => ⟨rfl, e0, (by decide : 0 + 0 ≤ _), (by decide : 0 + 0 ≤ _)⟩)
  dsimp only [Pt.U, Pt.locs, Pt.cells, Pt.slots] at X5 l5 y5 z5 st5 hQ5
  subst y5 z5
  obtain ⟨rfl, N5q, K5k, A5k⟩ := hQ5
  have K5 := ((Keep.refl h0 [ka])).trans K5k (allS (Or.inl (List.mem_of_getElem? (i := 0) rfl)) all0)
  have Zs5 := Nat.le_trans Z0 K5k.1
  have N5 : Fr n0 L5 := by rw [l5]; exact Fr.app N0 N5q
  refine own_step (fun _ kc_ => st5 _ kc_) ?_
  show own_Ends p e below s _ _ _ (T5.setTop (mkF m 76 #[.val (.ref ka), .val (.int (0 : Int32)), .val (.int (0 : Int32)), .val (.int (2 : Int32)), .val (.int (2 : Int32)), .unset, .unset] []))
  exact own_retV X5 hx hret hlk (hb hby d6_76) (by decide) (by decide) (by exact ⟨rfl, N5, K5, A5k⟩)
theorem ef_rmS2a (m : MethodId) (ka : Addr)  : entryFrame m #[(.ref ka)] 1 = mkF m 0 #[.val (.ref ka)] [] := by first | (simp [entryFrame, mkF, argsToLocals, Value.category]; done) | rfl
def QS2a (Z : State) (ka : Addr) (k0 : Int64) (k1 : Int64) (h0 : Heap) (n0 : Nat) (v : Option Value) (h : Heap) (L : List Loc) : Prop := v = none ∧ Fr n0 L ∧ Keep h0 h [ka] ∧ own_Ar Z h ka .long [(.long k0), (.long k1)]
set_option maxRecDepth 65536 in
set_option maxHeartbeats 40000000 in
theorem rmS2a (l : Launch) (Z : State) (a0 : Array Value) (hw : ∀ d ∈ tables_1, d.before a0 Z = true) (ws : List Jvm.Cond) (ka : Addr) (k0 : Int64) (k1 : Int64) (h0 : Heap) (n0 : Nat) (Z0 : n0 ≤ h0.size) (A0 : own_Ar Z h0 ka .long [(.long k0), (.long k1)]) (g0 : n0 ≤ ka) (hlt : ¬ k1 < k0) :
    MetFree l (⟨"java/util/Arrays", "sort", "([J)V"⟩ : MethodName) (head1 (Jvm.Cond.code (⟨"java/util/Arrays", "sort", "([J)V"⟩ : MethodName) jdk_65_method_4_code 1 none :: ws) ({ frames := 3, cells := 0, slots := 0, locals := 72 } : Room)) (fun a U => a = #[(.ref ka)] ∧ Z.Warmed39 U.vm ∧ U.heap = h0) (fun _ _ _ _ _ => True) (fun _ U o U' => ∃ v L, o = .returned v ∧ QS2a Z ka k0 k1 h0 n0 v U'.heap L ∧ FrameEnd U o U' L ({ frames := 3, cells := 0, slots := 0, locals := 72 } : Room).cells ({ frames := 3, cells := 0, slots := 0, locals := 72 } : Room).slots) := by
  refine MetFree.of_bodySF (plainFor_of_name pn_1) hisR ?_
  intro p e s m args below meth c s₁ Bd hml0 hP hK
  obtain ⟨rfl, hZ, hh⟩ := hP
  have hx := Bd.exec
  have hby := Bd.bytes
  have hlk : meth.locks = false := BodyLoose.notSynchronized Bd
  have hret := Bd.returns
  have hml : c.maxLocals = 1 := hml0
  have hown : s.vm.findClass "java/util/Arrays" = some m.cls := findClass_of_methodNamed Bd.named
  have hnm := (name_of_methodNamed Bd.named Bd.method).1
  have X0 : Stand p l e ({ frames := 3, cells := 0, slots := 0, locals := 72 } : Room) s m #[(.ref ka)] below meth c s₁ [] 0 0 := Stand.of_body Bd
  have e0 : s₁.heap = h0 := by rw [← hh, Bd.state]; rfl
  have N0 := Fr.nil n0
  show own_Ends p e below s 0 0 (QS2a Z ka k0 k1 h0 n0) (s₁.setTop (entryFrame m #[(.ref ka)] 1))
  refine own_step (fun t k => castTop (ef_rmS2a m ka ) k) ?_
  show own_Ends p e below s _ _ _ (s₁.setTop (mkF m 0 #[.val (.ref ka)] []))
  refine own_step (fun _ kc_ => XS.aloadN X0.here hx rfl (hb hby d5_0) rfl rfl (XS.iconst X0.here hx rfl (hb hby d5_1) (XS.iconst X0.here hx rfl (hb hby d5_2) (XS.aloadN X0.here hx rfl (hb hby d5_3) rfl rfl (own_alen X0 hx hZ e0 A0 (n := 2) (z := (2 : Int32)) rfl rfl (hb hby d5_4) _ kc_))))) ?_
  show own_Ends p e below s _ _ _ (s₁.setTop (mkF m 5 #[.val (.ref ka)] [(.int (2 : Int32)), (.int (0 : Int32)), (.int (0 : Int32)), (.ref ka)]))
  obtain ⟨_, _, ⟨T6, L6, k6, n6⟩, -, X6, ⟨Lc6, hQ6, l6, y6, z6⟩, st6⟩ := Jvm.LawKit.callS X0 hx (y := (⟨"java/util/DualPivotQuicksort", "sort", "([JIII)V"⟩ : MethodName)) hown (mvT hZ (hw _ (List.mem_of_getElem? (i := 30) rfl))) (mvT hZ (hw _ (List.mem_of_getElem? (i := 31) rfl))) (mvT hZ (hw _ (List.mem_of_getElem? (i := 32) rfl))) (mvT hZ (hw _ (List.mem_of_getElem? (i := 33) rfl))) (by decide) (backOf (W := 0) (rmD2a l Z a0 hw [] ka k0 k1 h0 n0 Z0 A0 g0 hlt) hZ (hw _ (List.mem_of_getElem? (i := 33) rfl)) (hw _ (List.mem_of_getElem? (i := 32) rfl)) (by decide) (by decide)) (g := (mkF m 5 #[.val (.ref ka)] [(.int (2 : Int32)), (.int (0 : Int32)), (.int (0 : Int32)), (.ref ka)])) rfl (by rw [hml]; rfl) (argsL := [(.ref ka), (.int (0 : Int32)), (.int (0 : Int32)), (.int (2 : Int32))]) (rest := []) (lenOf pd_2 rfl) rfl (by show 2 * 0 + _ ≤ _; exact Nat.le_of_eq rfl) (hb hby d5_5) (fun _ _ => ⟨rfl, e0, (by decide : 0 + 0 ≤ _), (by decide : 0 + 0 ≤ _)⟩)
  dsimp only [Pt.U, Pt.locs, Pt.cells, Pt.slots] at X6 l6 y6 z6 st6 hQ6
  subst y6 z6
  obtain ⟨rfl, N6q, K6k, A6k⟩ := hQ6
  have K6 := ((Keep.refl h0 [ka])).trans K6k (allS (Or.inl (List.mem_of_getElem? (i := 0) rfl)) all0)
  have Zs6 := Nat.le_trans Z0 K6k.1
  have N6 : Fr n0 L6 := by rw [l6]; exact Fr.app N0 N6q
  refine own_step (fun _ kc_ => st6 _ kc_) ?_
  show own_Ends p e below s _ _ _ (T6.setTop (mkF m 8 #[.val (.ref ka)] []))
  exact own_retV X6 hx hret hlk (hb hby d5_8) (by decide) (by decide) (by exact ⟨rfl, N6, K6, A6k⟩)
theorem ef_rmI2b (m : MethodId) (ka : Addr)  : entryFrame m #[(.ref ka), (.int (0 : Int32)), (.int (2 : Int32))] 7 = mkF m 0 #[.val (.ref ka), .val (.int (0 : Int32)), .val (.int (2 : Int32)), .unset, .unset, .unset, .unset] [] := by first | (simp [entryFrame, mkF, argsToLocals, Value.category]; done) | rfl
def QI2b (Z : State) (ka : Addr) (k0 : Int64) (k1 : Int64) (h0 : Heap) (n0 : Nat) (v : Option Value) (h : Heap) (L : List Loc) : Prop := v = none ∧ Fr n0 L ∧ Keep h0 h [ka] ∧ own_Ar Z h ka .long [(.long k1), (.long k0)]
set_option maxRecDepth 65536 in
set_option maxHeartbeats 40000000 in
theorem rmI2b (l : Launch) (Z : State) (a0 : Array Value) (hw : ∀ d ∈ tables_1, d.before a0 Z = true) (ws : List Jvm.Cond) (ka : Addr) (k0 : Int64) (k1 : Int64) (h0 : Heap) (n0 : Nat) (Z0 : n0 ≤ h0.size) (A0 : own_Ar Z h0 ka .long [(.long k0), (.long k1)]) (g0 : n0 ≤ ka) (hlt : k1 < k0) :
    MetFree l (⟨"java/util/DualPivotQuicksort", "insertionSort", "([JII)V"⟩ : MethodName) (head1 (Jvm.Cond.code (⟨"java/util/DualPivotQuicksort", "insertionSort", "([JII)V"⟩ : MethodName) jdk_2529_method_15_code 7 none :: ws) ({ frames := 0, cells := 0, slots := 0, locals := 0 } : Room)) (fun a U => a = #[(.ref ka), (.int (0 : Int32)), (.int (2 : Int32))] ∧ Z.Warmed39 U.vm ∧ U.heap = h0) (fun _ _ _ _ _ => True) (fun _ U o U' => ∃ v L, o = .returned v ∧ QI2b Z ka k0 k1 h0 n0 v U'.heap L ∧ FrameEnd U o U' L ({ frames := 0, cells := 0, slots := 0, locals := 0 } : Room).cells ({ frames := 0, cells := 0, slots := 0, locals := 0 } : Room).slots) := by
  refine MetFree.of_bodySF (plainFor_of_name pn_2) hisR ?_
  intro p e s m args below meth c s₁ Bd hml0 hP hK
  obtain ⟨rfl, hZ, hh⟩ := hP
  have hx := Bd.exec
  have hby := Bd.bytes
  have hlk : meth.locks = false := BodyLoose.notSynchronized Bd
  have hret := Bd.returns
  have hml : c.maxLocals = 7 := hml0
  have hown : s.vm.findClass "java/util/DualPivotQuicksort" = some m.cls := findClass_of_methodNamed Bd.named
  have hnm := (name_of_methodNamed Bd.named Bd.method).1
  have X0 : Stand p l e ({ frames := 0, cells := 0, slots := 0, locals := 0 } : Room) s m #[(.ref ka), (.int (0 : Int32)), (.int (2 : Int32))] below meth c s₁ [] 0 0 := Stand.of_body Bd
  have e0 : s₁.heap = h0 := by rw [← hh, Bd.state]; rfl
  have N0 := Fr.nil n0
  show own_Ends p e below s 0 0 (QI2b Z ka k0 k1 h0 n0) (s₁.setTop (entryFrame m #[(.ref ka), (.int (0 : Int32)), (.int (2 : Int32))] 7))
  refine own_step (fun t k => castTop (ef_rmI2b m ka ) k) ?_
  show own_Ends p e below s _ _ _ (s₁.setTop (mkF m 0 #[.val (.ref ka), .val (.int (0 : Int32)), .val (.int (2 : Int32)), .unset, .unset, .unset, .unset] []))
  refine own_step (fun _ kc_ => XS.iloadN X0.here hx rfl (hb hby d8_0) rfl (XS.istore X0.here hx rfl (hb hby d8_1) rfl (l' := #[.val (.ref ka), .val (.int (0 : Int32)), .val (.int (2 : Int32)), .unset, .val (.int (0 : Int32)), .unset, .unset]) rfl (XS.iinc X0.here hx rfl (hb hby d8_3) rfl (l' := #[.val (.ref ka), .val (.int (0 : Int32)), .val (.int (2 : Int32)), .unset, .val (.int ((0 : Int32) + (1 : Int32))), .unset, .unset]) rfl kc_))) ?_
  show own_Ends p e below s _ _ _ (s₁.setTop (mkF m 6 #[.val (.ref ka), .val (.int (0 : Int32)), .val (.int (2 : Int32)), .unset, .val (.int ((0 : Int32) + (1 : Int32))), .unset, .unset] []))
  rw [show ((0 : Int32) + (1 : Int32)) = (1 : Int32) from by decide]
  show own_Ends p e below s _ _ _ (s₁.setTop (mkF m 6 #[.val (.ref ka), .val (.int (0 : Int32)), .val (.int (2 : Int32)), .unset, .val (.int (1 : Int32)), .unset, .unset] []))
  refine own_step (fun _ kc_ => XS.iload X0.here hx rfl (hb hby d8_6) rfl (XS.iloadN X0.here hx rfl (hb hby d8_8) rfl (XS.icmpNo X0.here hx rfl (hb hby d8_9) rfl (XT.ii_ge_f (by decide : (1 : Int32) < (2 : Int32))) (XS.aloadN X0.here hx rfl (hb hby d8_12) rfl rfl (XS.iload X0.here hx rfl (hb hby d8_13) rfl (XS.dup X0.here hx rfl (hb hby d8_15) rfl rfl (XS.istoreN X0.here hx rfl (hb hby d8_16) rfl (l' := #[.val (.ref ka), .val (.int (0 : Int32)), .val (.int (2 : Int32)), .val (.int (1 : Int32)), .val (.int (1 : Int32)), .unset, .unset]) rfl (own_laload X0 hx hZ e0 A0 (j := (1 : Int32)) (by decide) (i := 1) rfl (v := (.long k1)) rfl (hb hby d8_17) _ kc_)))))))) ?_
  show own_Ends p e below s _ _ _ (s₁.setTop (mkF m 18 #[.val (.ref ka), .val (.int (0 : Int32)), .val (.int (2 : Int32)), .val (.int (1 : Int32)), .val (.int (1 : Int32)), .unset, .unset] [(.long k1)]))
  refine own_step (fun _ kc_ => XS.lstore X0.here hx rfl (hb hby d8_18) rfl (l' := #[.val (.ref ka), .val (.int (0 : Int32)), .val (.int (2 : Int32)), .val (.int (1 : Int32)), .val (.int (1 : Int32)), .val (.long k1), .second]) rfl (XS.lload X0.here hx rfl (hb hby d8_20) rfl (XS.aloadN X0.here hx rfl (hb hby d8_22) rfl rfl (XS.iloadN X0.here hx rfl (hb hby d8_23) rfl (XS.iconst X0.here hx rfl (hb hby d8_24) (XS.isub X0.here hx rfl (hb hby d8_25) rfl kc_)))))) ?_
  show own_Ends p e below s _ _ _ (s₁.setTop (mkF m 26 #[.val (.ref ka), .val (.int (0 : Int32)), .val (.int (2 : Int32)), .val (.int (1 : Int32)), .val (.int (1 : Int32)), .val (.long k1), .second] [(.int ((1 : Int32) - (1 : Int32))), (.ref ka), (.long k1)]))
  rw [show ((1 : Int32) - (1 : Int32)) = (0 : Int32) from by decide]
  show own_Ends p e below s _ _ _ (s₁.setTop (mkF m 26 #[.val (.ref ka), .val (.int (0 : Int32)), .val (.int (2 : Int32)), .val (.int (1 : Int32)), .val (.int (1 : Int32)), .val (.long k1), .second] [(.int (0 : Int32)), (.ref ka), (.long k1)]))
  refine own_step (fun _ kc_ => own_laload X0 hx hZ e0 A0 (j := (0 : Int32)) (by decide) (i := 0) rfl (v := (.long k0)) rfl (hb hby d8_26) _ (XT.lcmp X0.here hx rfl (hb hby d8_27) rfl (XS.ifNo X0.here hx rfl (hb hby d8_28) rfl (XT.ll_ge_f (hlt : k1 < k0)) (XS.iinc X0.here hx rfl (hb hby d8_31) rfl (l' := #[.val (.ref ka), .val (.int (0 : Int32)), .val (.int (2 : Int32)), .val (.int ((1 : Int32) + (-1 : Int32))), .val (.int (1 : Int32)), .val (.long k1), .second]) rfl kc_)))) ?_
  show own_Ends p e below s _ _ _ (s₁.setTop (mkF m 34 #[.val (.ref ka), .val (.int (0 : Int32)), .val (.int (2 : Int32)), .val (.int ((1 : Int32) + (-1 : Int32))), .val (.int (1 : Int32)), .val (.long k1), .second] []))
  rw [show ((1 : Int32) + (-1 : Int32)) = (0 : Int32) from by decide]
  show own_Ends p e below s _ _ _ (s₁.setTop (mkF m 34 #[.val (.ref ka), .val (.int (0 : Int32)), .val (.int (2 : Int32)), .val (.int (0 : Int32)), .val (.int (1 : Int32)), .val (.long k1), .second] []))
  refine own_step (fun _ kc_ => XS.iloadN X0.here hx rfl (hb hby d8_34) rfl (XS.iloadN X0.here hx rfl (hb hby d8_35) rfl (XS.icmpNo X0.here hx rfl (hb hby d8_36) rfl (XT.ii_lt_f (by decide : ¬ ((0 : Int32) < (0 : Int32)))) (XS.lload X0.here hx rfl (hb hby d8_39) rfl (XS.aloadN X0.here hx rfl (hb hby d8_41) rfl rfl (XS.iloadN X0.here hx rfl (hb hby d8_42) rfl (own_laload X0 hx hZ e0 A0 (j := (0 : Int32)) (by decide) (i := 0) rfl (v := (.long k0)) rfl (hb hby d8_43) _ (XT.lcmp X0.here hx rfl (hb hby d8_44) rfl kc_)))))))) ?_
  show own_Ends p e below s _ _ _ (s₁.setTop (mkF m 45 #[.val (.ref ka), .val (.int (0 : Int32)), .val (.int (2 : Int32)), .val (.int (0 : Int32)), .val (.int (1 : Int32)), .val (.long k1), .second] [(.int (XT.cmpL k1 k0))]))
  refine own_step (fun _ kc_ => XS.ifNo X0.here hx rfl (hb hby d8_45) rfl (XT.ll_ge_f (hlt : k1 < k0)) (XS.aloadN X0.here hx rfl (hb hby d8_48) rfl rfl (XS.iloadN X0.here hx rfl (hb hby d8_49) rfl (XS.iconst X0.here hx rfl (hb hby d8_50) (XS.iadd X0.here hx rfl (hb hby d8_51) rfl kc_))))) ?_
  show own_Ends p e below s _ _ _ (s₁.setTop (mkF m 52 #[.val (.ref ka), .val (.int (0 : Int32)), .val (.int (2 : Int32)), .val (.int (0 : Int32)), .val (.int (1 : Int32)), .val (.long k1), .second] [(.int ((0 : Int32) + (1 : Int32))), (.ref ka)]))
  rw [show ((0 : Int32) + (1 : Int32)) = (1 : Int32) from by decide]
  show own_Ends p e below s _ _ _ (s₁.setTop (mkF m 52 #[.val (.ref ka), .val (.int (0 : Int32)), .val (.int (2 : Int32)), .val (.int (0 : Int32)), .val (.int (1 : Int32)), .val (.long k1), .second] [(.int (1 : Int32)), (.ref ka)]))
  refine own_step (fun _ kc_ => XS.aloadN X0.here hx rfl (hb hby d8_52) rfl rfl (XS.iloadN X0.here hx rfl (hb hby d8_53) rfl (own_laload X0 hx hZ e0 A0 (j := (0 : Int32)) (by decide) (i := 0) rfl (v := (.long k0)) rfl (hb hby d8_54) _ kc_))) ?_
  show own_Ends p e below s _ _ _ (s₁.setTop (mkF m 55 #[.val (.ref ka), .val (.int (0 : Int32)), .val (.int (2 : Int32)), .val (.int (0 : Int32)), .val (.int (1 : Int32)), .val (.long k1), .second] [(.long k0), (.int (1 : Int32)), (.ref ka)]))
  obtain ⟨T7, h7, X7, e7, W7, A7, st7⟩ := own_lastore X0 hx hZ e0 A0 (j := (1 : Int32)) (x := k0) (by decide) (i := 1) rfl (Nat.le_of_ble_eq_true rfl) (Ls := #[.val (.ref ka), .val (.int (0 : Int32)), .val (.int (2 : Int32)), .val (.int (0 : Int32)), .val (.int (1 : Int32)), .val (.long k1), .second]) (st := []) (hb hby d8_55)
  have A_ka_7 : own_Ar Z h7 ka .long [(.long k0), (.long k0)] := A7
  have K7 := ((Keep.refl h0 [ka])).wr W7 (Or.inl (List.mem_of_getElem? (i := 0) rfl))
  have Zs7 := Nat.le_trans Z0 (Nat.le_of_eq W7.size.symm)
  have N7 := Fr.snoc X7 N0 g0
  refine own_step (fun _ kc_ => st7 _ kc_) ?_
  show own_Ends p e below s _ _ _ (T7.setTop (mkF m 56 #[.val (.ref ka), .val (.int (0 : Int32)), .val (.int (2 : Int32)), .val (.int (0 : Int32)), .val (.int (1 : Int32)), .val (.long k1), .second] []))
  refine own_step (fun _ kc_ => XS.goto X7.here hx rfl (pc0 := 56) (pc' := 31) rfl (hb hby d8_56) (by decide) (by decide) (XS.iinc X7.here hx rfl (hb hby d8_31) rfl (l' := #[.val (.ref ka), .val (.int (0 : Int32)), .val (.int (2 : Int32)), .val (.int ((0 : Int32) + (-1 : Int32))), .val (.int (1 : Int32)), .val (.long k1), .second]) rfl kc_)) ?_
  show own_Ends p e below s _ _ _ (T7.setTop (mkF m 34 #[.val (.ref ka), .val (.int (0 : Int32)), .val (.int (2 : Int32)), .val (.int ((0 : Int32) + (-1 : Int32))), .val (.int (1 : Int32)), .val (.long k1), .second] []))
  rw [show ((0 : Int32) + (-1 : Int32)) = (-1 : Int32) from by decide]
  show own_Ends p e below s _ _ _ (T7.setTop (mkF m 34 #[.val (.ref ka), .val (.int (0 : Int32)), .val (.int (2 : Int32)), .val (.int (-1 : Int32)), .val (.int (1 : Int32)), .val (.long k1), .second] []))
  refine own_step (fun _ kc_ => XS.iloadN X7.here hx rfl (hb hby d8_34) rfl (XS.iloadN X7.here hx rfl (hb hby d8_35) rfl (XS.icmpYes X7.here hx rfl (pc0 := 36) (pc' := 59) rfl (hb hby d8_36) rfl (XT.ii_lt_t (by decide : (-1 : Int32) < (0 : Int32))) (by decide) (by decide) (XS.aloadN X7.here hx rfl (hb hby d8_59) rfl rfl (XS.iloadN X7.here hx rfl (hb hby d8_60) rfl (XS.iconst X7.here hx rfl (hb hby d8_61) (XS.iadd X7.here hx rfl (hb hby d8_62) rfl kc_))))))) ?_
  show own_Ends p e below s _ _ _ (T7.setTop (mkF m 63 #[.val (.ref ka), .val (.int (0 : Int32)), .val (.int (2 : Int32)), .val (.int (-1 : Int32)), .val (.int (1 : Int32)), .val (.long k1), .second] [(.int ((-1 : Int32) + (1 : Int32))), (.ref ka)]))
  rw [show ((-1 : Int32) + (1 : Int32)) = (0 : Int32) from by decide]
  show own_Ends p e below s _ _ _ (T7.setTop (mkF m 63 #[.val (.ref ka), .val (.int (0 : Int32)), .val (.int (2 : Int32)), .val (.int (-1 : Int32)), .val (.int (1 : Int32)), .val (.long k1), .second] [(.int (0 : Int32)), (.ref ka)]))
  refine own_step (fun _ kc_ => XS.lload X7.here hx rfl (hb hby d8_63) rfl kc_) ?_
  show own_Ends p e below s _ _ _ (T7.setTop (mkF m 65 #[.val (.ref ka), .val (.int (0 : Int32)), .val (.int (2 : Int32)), .val (.int (-1 : Int32)), .val (.int (1 : Int32)), .val (.long k1), .second] [(.long k1), (.int (0 : Int32)), (.ref ka)]))
  obtain ⟨T8, h8, X8, e8, W8, A8, st8⟩ := own_lastore X7 hx hZ e7 A_ka_7 (j := (0 : Int32)) (x := k1) (by decide) (i := 0) rfl (Nat.le_of_ble_eq_true rfl) (Ls := #[.val (.ref ka), .val (.int (0 : Int32)), .val (.int (2 : Int32)), .val (.int (-1 : Int32)), .val (.int (1 : Int32)), .val (.long k1), .second]) (st := []) (hb hby d8_65)
  have A_ka_8 : own_Ar Z h8 ka .long [(.long k1), (.long k0)] := A8
  have K8 := (K7).wr W8 (Or.inl (List.mem_of_getElem? (i := 0) rfl))
  have Zs8 := Nat.le_trans Zs7 (Nat.le_of_eq W8.size.symm)
  have N8 := Fr.snoc X8 N7 g0
  refine own_step (fun _ kc_ => st8 _ kc_) ?_
  show own_Ends p e below s _ _ _ (T8.setTop (mkF m 66 #[.val (.ref ka), .val (.int (0 : Int32)), .val (.int (2 : Int32)), .val (.int (-1 : Int32)), .val (.int (1 : Int32)), .val (.long k1), .second] []))
  refine own_step (fun _ kc_ => XS.goto X8.here hx rfl (pc0 := 66) (pc' := 3) rfl (hb hby d8_66) (by decide) (by decide) (XS.iinc X8.here hx rfl (hb hby d8_3) rfl (l' := #[.val (.ref ka), .val (.int (0 : Int32)), .val (.int (2 : Int32)), .val (.int (-1 : Int32)), .val (.int ((1 : Int32) + (1 : Int32))), .val (.long k1), .second]) rfl kc_)) ?_
  show own_Ends p e below s _ _ _ (T8.setTop (mkF m 6 #[.val (.ref ka), .val (.int (0 : Int32)), .val (.int (2 : Int32)), .val (.int (-1 : Int32)), .val (.int ((1 : Int32) + (1 : Int32))), .val (.long k1), .second] []))
  rw [show ((1 : Int32) + (1 : Int32)) = (2 : Int32) from by decide]
  show own_Ends p e below s _ _ _ (T8.setTop (mkF m 6 #[.val (.ref ka), .val (.int (0 : Int32)), .val (.int (2 : Int32)), .val (.int (-1 : Int32)), .val (.int (2 : Int32)), .val (.long k1), .second] []))
  refine own_step (fun _ kc_ => XS.iload X8.here hx rfl (hb hby d8_6) rfl (XS.iloadN X8.here hx rfl (hb hby d8_8) rfl (XS.icmpYes X8.here hx rfl (pc0 := 9) (pc' := 69) rfl (hb hby d8_9) rfl (XT.ii_ge_t (by decide : ¬ ((2 : Int32) < (2 : Int32)))) (by decide) (by decide) kc_))) ?_
  show own_Ends p e below s _ _ _ (T8.setTop (mkF m 69 #[.val (.ref ka), .val (.int (0 : Int32)), .val (.int (2 : Int32)), .val (.int (-1 : Int32)), .val (.int (2 : Int32)), .val (.long k1), .second] []))
  exact own_retV X8 hx hret hlk (hb hby d8_69) (by decide) (by decide) (by rw [e8]; exact ⟨rfl, N8, K8, A_ka_8⟩)
theorem ef_rmE2b (m : MethodId) (ka : Addr)  : entryFrame m #[.null, (.ref ka), (.int (0 : Int32)), (.int (0 : Int32)), (.int (2 : Int32))] 25 = mkF m 0 #[.val .null, .val (.ref ka), .val (.int (0 : Int32)), .val (.int (0 : Int32)), .val (.int (2 : Int32)), .unset, .unset, .unset, .unset, .unset, .unset, .unset, .unset, .unset, .unset, .unset, .unset, .unset, .unset, .unset, .unset, .unset, .unset, .unset, .unset] [] := by first | (simp [entryFrame, mkF, argsToLocals, Value.category]; done) | rfl
def QE2b (Z : State) (ka : Addr) (k0 : Int64) (k1 : Int64) (h0 : Heap) (n0 : Nat) (v : Option Value) (h : Heap) (L : List Loc) : Prop := v = none ∧ Fr n0 L ∧ Keep h0 h [ka] ∧ own_Ar Z h ka .long [(.long k1), (.long k0)]
set_option maxRecDepth 65536 in
set_option maxHeartbeats 40000000 in
theorem rmE2b (l : Launch) (Z : State) (a0 : Array Value) (hw : ∀ d ∈ tables_1, d.before a0 Z = true) (ws : List Jvm.Cond) (ka : Addr) (k0 : Int64) (k1 : Int64) (h0 : Heap) (n0 : Nat) (Z0 : n0 ≤ h0.size) (A0 : own_Ar Z h0 ka .long [(.long k0), (.long k1)]) (g0 : n0 ≤ ka) (hlt : k1 < k0) :
    MetFree l (⟨"java/util/DualPivotQuicksort", "sort", "(Ljava/util/DualPivotQuicksort$Sorter;[JIII)V"⟩ : MethodName) (head1 (Jvm.Cond.code (⟨"java/util/DualPivotQuicksort", "sort", "(Ljava/util/DualPivotQuicksort$Sorter;[JIII)V"⟩ : MethodName) jdk_2529_method_13_code 25 none :: ws) ({ frames := 1, cells := 0, slots := 0, locals := 18 } : Room)) (fun a U => a = #[.null, (.ref ka), (.int (0 : Int32)), (.int (0 : Int32)), (.int (2 : Int32))] ∧ Z.Warmed39 U.vm ∧ U.heap = h0) (fun _ _ _ _ _ => True) (fun _ U o U' => ∃ v L, o = .returned v ∧ QE2b Z ka k0 k1 h0 n0 v U'.heap L ∧ FrameEnd U o U' L ({ frames := 1, cells := 0, slots := 0, locals := 18 } : Room).cells ({ frames := 1, cells := 0, slots := 0, locals := 18 } : Room).slots) := by
  refine MetFree.of_bodySF (plainFor_of_name pn_2) hisR ?_
  intro p e s m args below meth c s₁ Bd hml0 hP hK
  obtain ⟨rfl, hZ, hh⟩ := hP
  have hx := Bd.exec
  have hby := Bd.bytes
  have hlk : meth.locks = false := BodyLoose.notSynchronized Bd
  have hret := Bd.returns
  have hml : c.maxLocals = 25 := hml0
  have hown : s.vm.findClass "java/util/DualPivotQuicksort" = some m.cls := findClass_of_methodNamed Bd.named
  have hnm := (name_of_methodNamed Bd.named Bd.method).1
  have X0 : Stand p l e ({ frames := 1, cells := 0, slots := 0, locals := 18 } : Room) s m #[.null, (.ref ka), (.int (0 : Int32)), (.int (0 : Int32)), (.int (2 : Int32))] below meth c s₁ [] 0 0 := Stand.of_body Bd
  have e0 : s₁.heap = h0 := by rw [← hh, Bd.state]; rfl
  have N0 := Fr.nil n0
  show own_Ends p e below s 0 0 (QE2b Z ka k0 k1 h0 n0) (s₁.setTop (entryFrame m #[.null, (.ref ka), (.int (0 : Int32)), (.int (0 : Int32)), (.int (2 : Int32))] 25))
  refine own_step (fun t k => castTop (ef_rmE2b m ka ) k) ?_
  show own_Ends p e below s _ _ _ (s₁.setTop (mkF m 0 #[.val .null, .val (.ref ka), .val (.int (0 : Int32)), .val (.int (0 : Int32)), .val (.int (2 : Int32)), .unset, .unset, .unset, .unset, .unset, .unset, .unset, .unset, .unset, .unset, .unset, .unset, .unset, .unset, .unset, .unset, .unset, .unset, .unset, .unset] []))
  refine own_step (fun _ kc_ => XS.iload X0.here hx rfl (hb hby d7_0) rfl (XS.iconst X0.here hx rfl (hb hby d7_2) (XS.isub X0.here hx rfl (hb hby d7_3) rfl kc_))) ?_
  show own_Ends p e below s _ _ _ (s₁.setTop (mkF m 4 #[.val .null, .val (.ref ka), .val (.int (0 : Int32)), .val (.int (0 : Int32)), .val (.int (2 : Int32)), .unset, .unset, .unset, .unset, .unset, .unset, .unset, .unset, .unset, .unset, .unset, .unset, .unset, .unset, .unset, .unset, .unset, .unset, .unset, .unset] [(.int ((2 : Int32) - (1 : Int32)))]))
  rw [show ((2 : Int32) - (1 : Int32)) = (1 : Int32) from by decide]
  show own_Ends p e below s _ _ _ (s₁.setTop (mkF m 4 #[.val .null, .val (.ref ka), .val (.int (0 : Int32)), .val (.int (0 : Int32)), .val (.int (2 : Int32)), .unset, .unset, .unset, .unset, .unset, .unset, .unset, .unset, .unset, .unset, .unset, .unset, .unset, .unset, .unset, .unset, .unset, .unset, .unset, .unset] [(.int (1 : Int32))]))
  refine own_step (fun _ kc_ => XS.istore X0.here hx rfl (hb hby d7_4) rfl (l' := #[.val .null, .val (.ref ka), .val (.int (0 : Int32)), .val (.int (0 : Int32)), .val (.int (2 : Int32)), .val (.int (1 : Int32)), .unset, .unset, .unset, .unset, .unset, .unset, .unset, .unset, .unset, .unset, .unset, .unset, .unset, .unset, .unset, .unset, .unset, .unset, .unset]) rfl (XS.iload X0.here hx rfl (hb hby d7_6) rfl (XS.iloadN X0.here hx rfl (hb hby d7_8) rfl (XS.isub X0.here hx rfl (hb hby d7_9) rfl kc_)))) ?_
  show own_Ends p e below s _ _ _ (s₁.setTop (mkF m 10 #[.val .null, .val (.ref ka), .val (.int (0 : Int32)), .val (.int (0 : Int32)), .val (.int (2 : Int32)), .val (.int (1 : Int32)), .unset, .unset, .unset, .unset, .unset, .unset, .unset, .unset, .unset, .unset, .unset, .unset, .unset, .unset, .unset, .unset, .unset, .unset, .unset] [(.int ((2 : Int32) - (0 : Int32)))]))
  rw [show ((2 : Int32) - (0 : Int32)) = (2 : Int32) from by decide]
  show own_Ends p e below s _ _ _ (s₁.setTop (mkF m 10 #[.val .null, .val (.ref ka), .val (.int (0 : Int32)), .val (.int (0 : Int32)), .val (.int (2 : Int32)), .val (.int (1 : Int32)), .unset, .unset, .unset, .unset, .unset, .unset, .unset, .unset, .unset, .unset, .unset, .unset, .unset, .unset, .unset, .unset, .unset, .unset, .unset] [(.int (2 : Int32))]))
  refine own_step (fun _ kc_ => XS.istore X0.here hx rfl (hb hby d7_10) rfl (l' := #[.val .null, .val (.ref ka), .val (.int (0 : Int32)), .val (.int (0 : Int32)), .val (.int (2 : Int32)), .val (.int (1 : Int32)), .val (.int (2 : Int32)), .unset, .unset, .unset, .unset, .unset, .unset, .unset, .unset, .unset, .unset, .unset, .unset, .unset, .unset, .unset, .unset, .unset, .unset]) rfl (XS.iload X0.here hx rfl (hb hby d7_12) rfl (XS.bipush X0.here hx rfl (hb hby d7_14) (XS.iloadN X0.here hx rfl (hb hby d7_16) rfl (XS.iadd X0.here hx rfl (hb hby d7_17) rfl kc_))))) ?_
  show own_Ends p e below s _ _ _ (s₁.setTop (mkF m 18 #[.val .null, .val (.ref ka), .val (.int (0 : Int32)), .val (.int (0 : Int32)), .val (.int (2 : Int32)), .val (.int (1 : Int32)), .val (.int (2 : Int32)), .unset, .unset, .unset, .unset, .unset, .unset, .unset, .unset, .unset, .unset, .unset, .unset, .unset, .unset, .unset, .unset, .unset, .unset] [(.int ((65 : Int32) + (0 : Int32))), (.int (2 : Int32))]))
  rw [show ((65 : Int32) + (0 : Int32)) = (65 : Int32) from by decide]
  show own_Ends p e below s _ _ _ (s₁.setTop (mkF m 18 #[.val .null, .val (.ref ka), .val (.int (0 : Int32)), .val (.int (0 : Int32)), .val (.int (2 : Int32)), .val (.int (1 : Int32)), .val (.int (2 : Int32)), .unset, .unset, .unset, .unset, .unset, .unset, .unset, .unset, .unset, .unset, .unset, .unset, .unset, .unset, .unset, .unset, .unset, .unset] [(.int (65 : Int32)), (.int (2 : Int32))]))
  refine own_step (fun _ kc_ => XS.icmpNo X0.here hx rfl (hb hby d7_18) rfl (XT.ii_ge_f (by decide : (2 : Int32) < (65 : Int32))) (XS.iloadN X0.here hx rfl (hb hby d7_21) rfl (XS.iconst X0.here hx rfl (hb hby d7_22) (XS.iand X0.here hx rfl (hb hby d7_23) rfl kc_)))) ?_
  show own_Ends p e below s _ _ _ (s₁.setTop (mkF m 24 #[.val .null, .val (.ref ka), .val (.int (0 : Int32)), .val (.int (0 : Int32)), .val (.int (2 : Int32)), .val (.int (1 : Int32)), .val (.int (2 : Int32)), .unset, .unset, .unset, .unset, .unset, .unset, .unset, .unset, .unset, .unset, .unset, .unset, .unset, .unset, .unset, .unset, .unset, .unset] [(.int ((0 : Int32) &&& (1 : Int32)))]))
  rw [show ((0 : Int32) &&& (1 : Int32)) = (0 : Int32) from by decide]
  show own_Ends p e below s _ _ _ (s₁.setTop (mkF m 24 #[.val .null, .val (.ref ka), .val (.int (0 : Int32)), .val (.int (0 : Int32)), .val (.int (2 : Int32)), .val (.int (1 : Int32)), .val (.int (2 : Int32)), .unset, .unset, .unset, .unset, .unset, .unset, .unset, .unset, .unset, .unset, .unset, .unset, .unset, .unset, .unset, .unset, .unset, .unset] [(.int (0 : Int32))]))
  refine own_step (fun _ kc_ => XS.ifYes X0.here hx rfl (pc0 := 24) (pc' := 46) rfl (hb hby d7_24) rfl (XT.i0_le_t (by decide : ¬ (0 < (0 : Int32)))) (by decide) (by decide) (XS.iload X0.here hx rfl (hb hby d7_46) rfl (XS.bipush X0.here hx rfl (hb hby d7_48) (XS.icmpNo X0.here hx rfl (hb hby d7_50) rfl (XT.ii_ge_f (by decide : (2 : Int32) < (44 : Int32))) (XS.aloadN X0.here hx rfl (hb hby d7_53) rfl rfl (XS.iloadN X0.here hx rfl (hb hby d7_54) rfl (XS.iload X0.here hx rfl (hb hby d7_55) rfl kc_))))))) ?_
  show own_Ends p e below s _ _ _ (s₁.setTop (mkF m 57 #[.val .null, .val (.ref ka), .val (.int (0 : Int32)), .val (.int (0 : Int32)), .val (.int (2 : Int32)), .val (.int (1 : Int32)), .val (.int (2 : Int32)), .unset, .unset, .unset, .unset, .unset, .unset, .unset, .unset, .unset, .unset, .unset, .unset, .unset, .unset, .unset, .unset, .unset, .unset] [(.int (2 : Int32)), (.int (0 : Int32)), (.ref ka)]))
  obtain ⟨_, _, ⟨T9, L9, k9, n9⟩, -, X9, ⟨Lc9, hQ9, l9, y9, z9⟩, st9⟩ := Jvm.LawKit.callS X0 hx (y := (⟨"java/util/DualPivotQuicksort", "insertionSort", "([JII)V"⟩ : MethodName)) hown (mvT hZ (hw _ (List.mem_of_getElem? (i := 37) rfl))) (mvT hZ (hw _ (List.mem_of_getElem? (i := 38) rfl))) (mvT hZ (hw _ (List.mem_of_getElem? (i := 32) rfl))) (mvT hZ (hw _ (List.mem_of_getElem? (i := 39) rfl))) (by decide) (backOf (W := 0) (rmI2b l Z a0 hw [] ka k0 k1 h0 n0 Z0 A0 g0 hlt) hZ (hw _ (List.mem_of_getElem? (i := 39) rfl)) (hw _ (List.mem_of_getElem? (i := 32) rfl)) (by decide) (by decide)) (g := (mkF m 57 #[.val .null, .val (.ref ka), .val (.int (0 : Int32)), .val (.int (0 : Int32)), .val (.int (2 : Int32)), .val (.int (1 : Int32)), .val (.int (2 : Int32)), .unset, .unset, .unset, .unset, .unset, .unset, .unset, .unset, .unset, .unset, .unset, .unset, .unset, .unset, .unset, .unset, .unset, .unset] [(.int (2 : Int32)), (.int (0 : Int32)), (.ref ka)])) rfl (by rw [hml]; rfl) (argsL := [(.ref ka), (.int (0 : Int32)), (.int (2 : Int32))]) (rest := []) (lenOf pd_4 rfl) rfl (by show 2 * 0 + _ ≤ _; exact Nat.le_of_eq rfl) (hb hby d7_57) (fun _ _ => ⟨rfl, e0, (by decide : 0 + 0 ≤ _), (by decide : 0 + 0 ≤ _)⟩)
  dsimp only [Pt.U, Pt.locs, Pt.cells, Pt.slots] at X9 l9 y9 z9 st9 hQ9
  subst y9 z9
  obtain ⟨rfl, N9q, K9k, A9k⟩ := hQ9
  have K9 := ((Keep.refl h0 [ka])).trans K9k (allS (Or.inl (List.mem_of_getElem? (i := 0) rfl)) all0)
  have Zs9 := Nat.le_trans Z0 K9k.1
  have N9 : Fr n0 L9 := by rw [l9]; exact Fr.app N0 N9q
  refine own_step (fun _ kc_ => st9 _ kc_) ?_
  show own_Ends p e below s _ _ _ (T9.setTop (mkF m 60 #[.val .null, .val (.ref ka), .val (.int (0 : Int32)), .val (.int (0 : Int32)), .val (.int (2 : Int32)), .val (.int (1 : Int32)), .val (.int (2 : Int32)), .unset, .unset, .unset, .unset, .unset, .unset, .unset, .unset, .unset, .unset, .unset, .unset, .unset, .unset, .unset, .unset, .unset, .unset] []))
  exact own_retV X9 hx hret hlk (hb hby d7_60) (by decide) (by decide) (by exact ⟨rfl, N9, K9, A9k⟩)
theorem ef_rmD2b (m : MethodId) (ka : Addr)  : entryFrame m #[(.ref ka), (.int (0 : Int32)), (.int (0 : Int32)), (.int (2 : Int32))] 7 = mkF m 0 #[.val (.ref ka), .val (.int (0 : Int32)), .val (.int (0 : Int32)), .val (.int (2 : Int32)), .unset, .unset, .unset] [] := by first | (simp [entryFrame, mkF, argsToLocals, Value.category]; done) | rfl
def QD2b (Z : State) (ka : Addr) (k0 : Int64) (k1 : Int64) (h0 : Heap) (n0 : Nat) (v : Option Value) (h : Heap) (L : List Loc) : Prop := v = none ∧ Fr n0 L ∧ Keep h0 h [ka] ∧ own_Ar Z h ka .long [(.long k1), (.long k0)]
set_option maxRecDepth 65536 in
set_option maxHeartbeats 40000000 in
theorem rmD2b (l : Launch) (Z : State) (a0 : Array Value) (hw : ∀ d ∈ tables_1, d.before a0 Z = true) (ws : List Jvm.Cond) (ka : Addr) (k0 : Int64) (k1 : Int64) (h0 : Heap) (n0 : Nat) (Z0 : n0 ≤ h0.size) (A0 : own_Ar Z h0 ka .long [(.long k0), (.long k1)]) (g0 : n0 ≤ ka) (hlt : k1 < k0) :
    MetFree l (⟨"java/util/DualPivotQuicksort", "sort", "([JIII)V"⟩ : MethodName) (head1 (Jvm.Cond.code (⟨"java/util/DualPivotQuicksort", "sort", "([JIII)V"⟩ : MethodName) jdk_2529_method_12_code 7 none :: ws) ({ frames := 2, cells := 0, slots := 0, locals := 54 } : Room)) (fun a U => a = #[(.ref ka), (.int (0 : Int32)), (.int (0 : Int32)), (.int (2 : Int32))] ∧ Z.Warmed39 U.vm ∧ U.heap = h0) (fun _ _ _ _ _ => True) (fun _ U o U' => ∃ v L, o = .returned v ∧ QD2b Z ka k0 k1 h0 n0 v U'.heap L ∧ FrameEnd U o U' L ({ frames := 2, cells := 0, slots := 0, locals := 54 } : Room).cells ({ frames := 2, cells := 0, slots := 0, locals := 54 } : Room).slots) := by
  refine MetFree.of_bodySF (plainFor_of_name pn_2) hisR ?_
  intro p e s m args below meth c s₁ Bd hml0 hP hK
  obtain ⟨rfl, hZ, hh⟩ := hP
  have hx := Bd.exec
  have hby := Bd.bytes
  have hlk : meth.locks = false := BodyLoose.notSynchronized Bd
  have hret := Bd.returns
  have hml : c.maxLocals = 7 := hml0
  have hown : s.vm.findClass "java/util/DualPivotQuicksort" = some m.cls := findClass_of_methodNamed Bd.named
  have hnm := (name_of_methodNamed Bd.named Bd.method).1
  have X0 : Stand p l e ({ frames := 2, cells := 0, slots := 0, locals := 54 } : Room) s m #[(.ref ka), (.int (0 : Int32)), (.int (0 : Int32)), (.int (2 : Int32))] below meth c s₁ [] 0 0 := Stand.of_body Bd
  have e0 : s₁.heap = h0 := by rw [← hh, Bd.state]; rfl
  have N0 := Fr.nil n0
  show own_Ends p e below s 0 0 (QD2b Z ka k0 k1 h0 n0) (s₁.setTop (entryFrame m #[(.ref ka), (.int (0 : Int32)), (.int (0 : Int32)), (.int (2 : Int32))] 7))
  refine own_step (fun t k => castTop (ef_rmD2b m ka ) k) ?_
  show own_Ends p e below s _ _ _ (s₁.setTop (mkF m 0 #[.val (.ref ka), .val (.int (0 : Int32)), .val (.int (0 : Int32)), .val (.int (2 : Int32)), .unset, .unset, .unset] []))
  refine own_step (fun _ kc_ => XS.iloadN X0.here hx rfl (hb hby d6_0) rfl (XS.iloadN X0.here hx rfl (hb hby d6_1) rfl (XS.isub X0.here hx rfl (hb hby d6_2) rfl kc_))) ?_
  show own_Ends p e below s _ _ _ (s₁.setTop (mkF m 3 #[.val (.ref ka), .val (.int (0 : Int32)), .val (.int (0 : Int32)), .val (.int (2 : Int32)), .unset, .unset, .unset] [(.int ((2 : Int32) - (0 : Int32)))]))
  rw [show ((2 : Int32) - (0 : Int32)) = (2 : Int32) from by decide]
  show own_Ends p e below s _ _ _ (s₁.setTop (mkF m 3 #[.val (.ref ka), .val (.int (0 : Int32)), .val (.int (0 : Int32)), .val (.int (2 : Int32)), .unset, .unset, .unset] [(.int (2 : Int32))]))
  refine own_step (fun _ kc_ => XS.istore X0.here hx rfl (hb hby d6_3) rfl (l' := #[.val (.ref ka), .val (.int (0 : Int32)), .val (.int (0 : Int32)), .val (.int (2 : Int32)), .val (.int (2 : Int32)), .unset, .unset]) rfl (XS.iloadN X0.here hx rfl (hb hby d6_5) rfl (XS.iconst X0.here hx rfl (hb hby d6_6) (XS.icmpYes X0.here hx rfl (pc0 := 7) (pc' := 68) rfl (hb hby d6_7) rfl (XT.ii_le_t (by decide : ¬ ((1 : Int32) < (0 : Int32)))) (by decide) (by decide) (XS.aconstNull X0.here hx rfl (hb hby d6_68) (XS.aloadN X0.here hx rfl (hb hby d6_69) rfl rfl (XS.iconst X0.here hx rfl (hb hby d6_70) (XS.iloadN X0.here hx rfl (hb hby d6_71) rfl kc_)))))))) ?_
  show own_Ends p e below s _ _ _ (s₁.setTop (mkF m 72 #[.val (.ref ka), .val (.int (0 : Int32)), .val (.int (0 : Int32)), .val (.int (2 : Int32)), .val (.int (2 : Int32)), .unset, .unset] [(.int (0 : Int32)), (.int (0 : Int32)), (.ref ka), .null]))
  refine own_step (fun _ kc_ => XS.iloadN X0.here hx rfl (hb hby d6_72) rfl kc_) ?_
  show own_Ends p e below s _ _ _ (s₁.setTop (mkF m 73 #[.val (.ref ka), .val (.int (0 : Int32)), .val (.int (0 : Int32)), .val (.int (2 : Int32)), .val (.int (2 : Int32)), .unset, .unset] [(.int (2 : Int32)), (.int (0 : Int32)), (.int (0 : Int32)), (.ref ka), .null]))
  obtain ⟨_, _, ⟨T10, L10, k10, n10⟩, -, X10, ⟨Lc10, hQ10, l10, y10, z10⟩, st10⟩ := Jvm.LawKit.callS X0 hx (y := (⟨"java/util/DualPivotQuicksort", "sort", "(Ljava/util/DualPivotQuicksort$Sorter;[JIII)V"⟩ : MethodName)) hown (mvT hZ (hw _ (List.mem_of_getElem? (i := 34) rfl))) (mvT hZ (hw _ (List.mem_of_getElem? (i := 35) rfl))) (mvT hZ (hw _ (List.mem_of_getElem? (i := 32) rfl))) (mvT hZ (hw _ (List.mem_of_getElem? (i := 36) rfl))) (by decide) (backOf (W := 0) (rmE2b l Z a0 hw [] ka k0 k1 h0 n0 Z0 A0 g0 hlt) hZ (hw _ (List.mem_of_getElem? (i := 36) rfl)) (hw _ (List.mem_of_getElem? (i := 32) rfl)) (by decide) (by decide)) (g := (mkF m 73 #[.val (.ref ka), .val (.int (0 : Int32)), .val (.int (0 : Int32)), .val (.int (2 : Int32)), .val (.int (2 : Int32)), .unset, .unset] [(.int (2 : Int32)), (.int (0 : Int32)), (.int (0 : Int32)), (.ref ka), .null])) rfl (by rw [hml]; rfl) (argsL := [.null, (.ref ka), (.int (0 : Int32)), (.int (0 : Int32)), (.int (2 : Int32))]) (rest := []) (lenOf pd_3 rfl) rfl (by show 2 * 0 + _ ≤ _; exact Nat.le_of_eq rfl) (hb hby d6_73) (fun _ _ => ⟨rfl, e0, (by decide : 0 + 0 ≤ _), (by decide : 0 + 0 ≤ _)⟩)
  dsimp only [Pt.U, Pt.locs, Pt.cells, Pt.slots] at X10 l10 y10 z10 st10 hQ10
  subst y10 z10
  obtain ⟨rfl, N10q, K10k, A10k⟩ := hQ10
  have K10 := ((Keep.refl h0 [ka])).trans K10k (allS (Or.inl (List.mem_of_getElem? (i := 0) rfl)) all0)
  have Zs10 := Nat.le_trans Z0 K10k.1
  have N10 : Fr n0 L10 := by rw [l10]; exact Fr.app N0 N10q
  refine own_step (fun _ kc_ => st10 _ kc_) ?_
  show own_Ends p e below s _ _ _ (T10.setTop (mkF m 76 #[.val (.ref ka), .val (.int (0 : Int32)), .val (.int (0 : Int32)), .val (.int (2 : Int32)), .val (.int (2 : Int32)), .unset, .unset] []))
  exact own_retV X10 hx hret hlk (hb hby d6_76) (by decide) (by decide) (by exact ⟨rfl, N10, K10, A10k⟩)
theorem ef_rmS2b (m : MethodId) (ka : Addr)  : entryFrame m #[(.ref ka)] 1 = mkF m 0 #[.val (.ref ka)] [] := by first | (simp [entryFrame, mkF, argsToLocals, Value.category]; done) | rfl
def QS2b (Z : State) (ka : Addr) (k0 : Int64) (k1 : Int64) (h0 : Heap) (n0 : Nat) (v : Option Value) (h : Heap) (L : List Loc) : Prop := v = none ∧ Fr n0 L ∧ Keep h0 h [ka] ∧ own_Ar Z h ka .long [(.long k1), (.long k0)]
set_option maxRecDepth 65536 in
set_option maxHeartbeats 40000000 in
theorem rmS2b (l : Launch) (Z : State) (a0 : Array Value) (hw : ∀ d ∈ tables_1, d.before a0 Z = true) (ws : List Jvm.Cond) (ka : Addr) (k0 : Int64) (k1 : Int64) (h0 : Heap) (n0 : Nat) (Z0 : n0 ≤ h0.size) (A0 : own_Ar Z h0 ka .long [(.long k0), (.long k1)]) (g0 : n0 ≤ ka) (hlt : k1 < k0) :
    MetFree l (⟨"java/util/Arrays", "sort", "([J)V"⟩ : MethodName) (head1 (Jvm.Cond.code (⟨"java/util/Arrays", "sort", "([J)V"⟩ : MethodName) jdk_65_method_4_code 1 none :: ws) ({ frames := 3, cells := 0, slots := 0, locals := 72 } : Room)) (fun a U => a = #[(.ref ka)] ∧ Z.Warmed39 U.vm ∧ U.heap = h0) (fun _ _ _ _ _ => True) (fun _ U o U' => ∃ v L, o = .returned v ∧ QS2b Z ka k0 k1 h0 n0 v U'.heap L ∧ FrameEnd U o U' L ({ frames := 3, cells := 0, slots := 0, locals := 72 } : Room).cells ({ frames := 3, cells := 0, slots := 0, locals := 72 } : Room).slots) := by
  refine MetFree.of_bodySF (plainFor_of_name pn_1) hisR ?_
  intro p e s m args below meth c s₁ Bd hml0 hP hK
  obtain ⟨rfl, hZ, hh⟩ := hP
  have hx := Bd.exec
  have hby := Bd.bytes
  have hlk : meth.locks = false := BodyLoose.notSynchronized Bd
  have hret := Bd.returns
  have hml : c.maxLocals = 1 := hml0
  have hown : s.vm.findClass "java/util/Arrays" = some m.cls := findClass_of_methodNamed Bd.named
  have hnm := (name_of_methodNamed Bd.named Bd.method).1
  have X0 : Stand p l e ({ frames := 3, cells := 0, slots := 0, locals := 72 } : Room) s m #[(.ref ka)] below meth c s₁ [] 0 0 := Stand.of_body Bd
  have e0 : s₁.heap = h0 := by rw [← hh, Bd.state]; rfl
  have N0 := Fr.nil n0
  show own_Ends p e below s 0 0 (QS2b Z ka k0 k1 h0 n0) (s₁.setTop (entryFrame m #[(.ref ka)] 1))
  refine own_step (fun t k => castTop (ef_rmS2b m ka ) k) ?_
  show own_Ends p e below s _ _ _ (s₁.setTop (mkF m 0 #[.val (.ref ka)] []))
  refine own_step (fun _ kc_ => XS.aloadN X0.here hx rfl (hb hby d5_0) rfl rfl (XS.iconst X0.here hx rfl (hb hby d5_1) (XS.iconst X0.here hx rfl (hb hby d5_2) (XS.aloadN X0.here hx rfl (hb hby d5_3) rfl rfl (own_alen X0 hx hZ e0 A0 (n := 2) (z := (2 : Int32)) rfl rfl (hb hby d5_4) _ kc_))))) ?_
  show own_Ends p e below s _ _ _ (s₁.setTop (mkF m 5 #[.val (.ref ka)] [(.int (2 : Int32)), (.int (0 : Int32)), (.int (0 : Int32)), (.ref ka)]))
  obtain ⟨_, _, ⟨T11, L11, k11, n11⟩, -, X11, ⟨Lc11, hQ11, l11, y11, z11⟩, st11⟩ := Jvm.LawKit.callS X0 hx (y := (⟨"java/util/DualPivotQuicksort", "sort", "([JIII)V"⟩ : MethodName)) hown (mvT hZ (hw _ (List.mem_of_getElem? (i := 30) rfl))) (mvT hZ (hw _ (List.mem_of_getElem? (i := 31) rfl))) (mvT hZ (hw _ (List.mem_of_getElem? (i := 32) rfl))) (mvT hZ (hw _ (List.mem_of_getElem? (i := 33) rfl))) (by decide) (backOf (W := 0) (rmD2b l Z a0 hw [] ka k0 k1 h0 n0 Z0 A0 g0 hlt) hZ (hw _ (List.mem_of_getElem? (i := 33) rfl)) (hw _ (List.mem_of_getElem? (i := 32) rfl)) (by decide) (by decide)) (g := (mkF m 5 #[.val (.ref ka)] [(.int (2 : Int32)), (.int (0 : Int32)), (.int (0 : Int32)), (.ref ka)])) rfl (by rw [hml]; rfl) (argsL := [(.ref ka), (.int (0 : Int32)), (.int (0 : Int32)), (.int (2 : Int32))]) (rest := []) (lenOf pd_2 rfl) rfl (by show 2 * 0 + _ ≤ _; exact Nat.le_of_eq rfl) (hb hby d5_5) (fun _ _ => ⟨rfl, e0, (by decide : 0 + 0 ≤ _), (by decide : 0 + 0 ≤ _)⟩)
  dsimp only [Pt.U, Pt.locs, Pt.cells, Pt.slots] at X11 l11 y11 z11 st11 hQ11
  subst y11 z11
  obtain ⟨rfl, N11q, K11k, A11k⟩ := hQ11
  have K11 := ((Keep.refl h0 [ka])).trans K11k (allS (Or.inl (List.mem_of_getElem? (i := 0) rfl)) all0)
  have Zs11 := Nat.le_trans Z0 K11k.1
  have N11 : Fr n0 L11 := by rw [l11]; exact Fr.app N0 N11q
  refine own_step (fun _ kc_ => st11 _ kc_) ?_
  show own_Ends p e below s _ _ _ (T11.setTop (mkF m 8 #[.val (.ref ka)] []))
  exact own_retV X11 hx hret hlk (hb hby d5_8) (by decide) (by decide) (by exact ⟨rfl, N11, K11, A11k⟩)
theorem ef_rm1 (m : MethodId) (oo : Addr)  : entryFrame m #[(.ref oo)] 1 = mkF m 0 #[.val (.ref oo)] [] := by first | (simp [entryFrame, mkF, argsToLocals, Value.category]; done) | rfl
def Q1 (Z : State) (oo : Addr)  (h0 : Heap) (n0 : Nat) (v : Option Value) (h : Heap) (L : List Loc) : Prop := v = none ∧ Fr n0 L ∧ Keep h0 h [oo] ∧ ∃ pa, Fld Z h oo "com/example/wakachi/wakachi/UnitCounts" "pages" "[[J" (.ref pa) ∧ own_UC Z h n0 pa (fun _ => none) (fun _ => 0)
set_option maxRecDepth 65536 in
set_option maxHeartbeats 40000000 in
theorem rm1 (l : Launch) (Z : State) (a0 : Array Value) (hw : ∀ d ∈ tables_1, d.before a0 Z = true) (ws : List Jvm.Cond) (oo : Addr)  (h0 : Heap) (n0 : Nat) (Z0 : n0 ≤ h0.size) (E0 : Exa Z h0 oo "com/example/wakachi/wakachi/UnitCounts") (F0 : Fld Z h0 oo "com/example/wakachi/wakachi/UnitCounts" "pages" "[[J" .null) (g0 : n0 ≤ oo) :
    MetFree l (⟨"com/example/wakachi/wakachi/UnitCounts", "<init>", "()V"⟩ : MethodName) (head1 (Jvm.Cond.code (⟨"com/example/wakachi/wakachi/UnitCounts", "<init>", "()V"⟩ : MethodName) prog_227_method_1_code 1 none :: ws) ({ frames := 1, cells := 1, slots := 256, locals := 12 } : Room)) (fun a U => a = #[(.ref oo)] ∧ Z.Warmed39 U.vm ∧ U.heap = h0) (fun _ _ _ _ _ => True) (fun _ U o U' => ∃ v L, o = .returned v ∧ Q1 Z oo  h0 n0 v U'.heap L ∧ FrameEnd U o U' L ({ frames := 1, cells := 1, slots := 256, locals := 12 } : Room).cells ({ frames := 1, cells := 1, slots := 256, locals := 12 } : Room).slots) := by
  refine MetFree.of_bodySF (plainFor_of_name pn_0) hisR ?_
  intro p e s m args below meth c s₁ Bd hml0 hP hK
  obtain ⟨rfl, hZ, hh⟩ := hP
  have hx := Bd.exec
  have hby := Bd.bytes
  have hlk : meth.locks = false := BodyLoose.notSynchronized Bd
  have hret := Bd.returns
  have hml : c.maxLocals = 1 := hml0
  have hown : s.vm.findClass "com/example/wakachi/wakachi/UnitCounts" = some m.cls := findClass_of_methodNamed Bd.named
  have hnm := (name_of_methodNamed Bd.named Bd.method).1
  have X0 : Stand p l e ({ frames := 1, cells := 1, slots := 256, locals := 12 } : Room) s m #[(.ref oo)] below meth c s₁ [] 0 0 := Stand.of_body Bd
  have e0 : s₁.heap = h0 := by rw [← hh, Bd.state]; rfl
  have N0 := Fr.nil n0
  show own_Ends p e below s 1 256 (Q1 Z oo  h0 n0) (s₁.setTop (entryFrame m #[(.ref oo)] 1))
  refine own_step (fun t k => castTop (ef_rm1 m oo ) k) ?_
  show own_Ends p e below s _ _ _ (s₁.setTop (mkF m 0 #[.val (.ref oo)] []))
  refine own_step (fun _ kc_ => XS.aloadN X0.here hx rfl (hb hby d1_0) rfl rfl kc_) ?_
  show own_Ends p e below s _ _ _ (s₁.setTop (mkF m 1 #[.val (.ref oo)] [(.ref oo)]))
  obtain ⟨T12, X12, e12, st12⟩ := initO X0 hx hZ hown (hw _ (List.mem_of_getElem? (i := 7) rfl)) (hw _ (List.mem_of_getElem? (i := 8) rfl)) (hw _ (List.mem_of_getElem? (i := 9) rfl)) e0 (g := (mkF m 1 #[.val (.ref oo)] [(.ref oo)])) rfl (by rw [hml]; rfl) rfl (hb hby d1_1) (by decide) (W := 0) (by show 2 * 0 + _ ≤ _; exact Nat.le_of_eq rfl) (by decide)
  refine own_step (fun _ kc_ => st12 _ kc_) ?_
  show own_Ends p e below s _ _ _ (T12.setTop (mkF m 4 #[.val (.ref oo)] []))
  refine own_step (fun _ kc_ => XS.aloadN X12.here hx rfl (hb hby d1_4) rfl rfl (XS.sipush X12.here hx rfl (hb hby d1_5) kc_)) ?_
  show own_Ends p e below s _ _ _ (T12.setTop (mkF m 8 #[.val (.ref oo)] [(.int (256 : Int32)), (.ref oo)]))
  obtain ⟨T13, h13, k13, X13, e13, E13, A13, Ex13, O13, st13⟩ := newRA X12 hx hZ hown (ty := .long) (C := "[J") rfl (hw _ (List.mem_of_getElem? (i := 10) rfl)) (hw _ (List.mem_of_getElem? (i := 11) rfl)) e12 (g := (mkF m 8 #[.val (.ref oo)] [(.int (256 : Int32)), (.ref oo)])) rfl (hb hby d1_8) rfl (by decide) (cap := 256) (by decide) (by decide) (by decide : 0 + 1 ≤ _) (by decide : 0 + 256 ≤ _) (ad := "[[J") rfl
  obtain ⟨b13, g13⟩ : ∃ z, z = h0.size := ⟨_, rfl⟩
  rw [← g13] at A13 Ex13 st13
  have ne_oo_b13 : oo ≠ b13 := Nat.ne_of_lt (Nat.lt_of_lt_of_le (E0).lt (Nat.le_of_eq g13.symm))
  have n0_b13 : n0 ≤ b13 := Nat.le_trans Z0 (Nat.le_of_eq g13.symm)
  have h0_b13 : h0.size ≤ b13 := Nat.le_trans ((Keep.refl h0 [oo])).1 (Nat.le_of_eq g13.symm)
  have E_oo_13 := (E0).ext E13
  have F_oo_pages_13 := (F0).ext E13
  have K13 := ((Keep.refl h0 [oo])).ext E13
  have Zs13 := Nat.le_trans Z0 E13.1
  have A_b13 : own_Ar Z h13 b13 (.array .long) (List.replicate 256 .null) := own_Ar.new A13 (by decide)
  have B_b13 : own_Bl Z h13 b13 := ⟨_, A13.1, O13⟩
  refine own_step (fun _ kc_ => st13 _ kc_) ?_
  show own_Ends p e below s _ _ _ (T13.setTop (mkF m 11 #[.val (.ref oo)] [(.ref b13), (.ref oo)]))
  obtain ⟨T14, h14, X14, e14, W14, st14⟩ := putF X13 hx hZ hown (host := "") (Or.inl (hw _ (List.mem_of_getElem? (i := 12) rfl))) Via.refl e13 F_oo_pages_13 E_oo_13 (Or.inr ⟨(hw _ (List.mem_of_getElem? (i := 13) rfl)), rfl, hnm⟩) (hw _ (List.mem_of_getElem? (i := 2) rfl)) (ty := (.array (.array .long))) (by decide) rfl rfl (g := (mkF m 11 #[.val (.ref oo)] [(.ref b13), (.ref oo)])) rfl rfl (hb hby d1_11)
  have E_oo_14 := (E_oo_13).wr W14
  have F_oo_pages_14 := (F_oo_pages_13).same W14
  have A_b13_14 := (A_b13).other W14 (Ne.symm ne_oo_b13)
  have K14 := (K13).wr W14 (Or.inl (List.mem_of_getElem? (i := 0) rfl))
  have Zs14 := Nat.le_trans Zs13 (Nat.le_of_eq W14.size.symm)
  have N14 := Fr.snoc X14 N0 g0
  refine own_step (fun _ kc_ => st14 _ kc_) ?_
  show own_Ends p e below s _ _ _ (T14.setTop (mkF m 14 #[.val (.ref oo)] []))
  exact own_retV X14 hx hret hlk (hb hby d1_14) (by decide) (by decide) (by rw [e14]; exact ⟨rfl, N14, K14, b13, F_oo_pages_14, own_UC0 n0_b13 (B_b13.wr W14) A_b13_14⟩)
theorem ef_rmA0 (m : MethodId) (oo : Addr) (i r : Nat) : entryFrame m #[(.ref oo), (.int (Int32.ofNat (256 * i + r)))] 3 = mkF m 0 #[.val (.ref oo), .val (.int (Int32.ofNat (256 * i + r))), .unset] [] := by first | (simp [entryFrame, mkF, argsToLocals, Value.category]; done) | rfl
def QA0 (Z : State) (oo : Addr) (pa : Addr) (B : Nat → Option Addr) (cnt : Nat → Int64) (i r : Nat) (b : Addr) (h0 : Heap) (n0 : Nat) (v : Option Value) (h : Heap) (L : List Loc) : Prop := v = none ∧ Fr n0 L ∧ n0 ≤ h.size ∧ Exa Z h oo "com/example/wakachi/wakachi/UnitCounts" ∧ Fld Z h oo "com/example/wakachi/wakachi/UnitCounts" "pages" "[[J" (.ref pa) ∧ ∃ B', own_UC Z h n0 pa B' (own_up cnt (256 * i + r) (cnt (256 * i + r) + 1))
set_option maxRecDepth 65536 in
set_option maxHeartbeats 40000000 in
theorem rmA0 (l : Launch) (Z : State) (a0 : Array Value) (hw : ∀ d ∈ tables_1, d.before a0 Z = true) (ws : List Jvm.Cond) (oo : Addr) (pa : Addr) (B : Nat → Option Addr) (cnt : Nat → Int64) (i r : Nat) (b : Addr) (h0 : Heap) (n0 : Nat) (Z0 : n0 ≤ h0.size) (hi : i < 256) (hr : r < 256) (hB : B i = some b) (E0 : Exa Z h0 oo "com/example/wakachi/wakachi/UnitCounts") (F0 : Fld Z h0 oo "com/example/wakachi/wakachi/UnitCounts" "pages" "[[J" (.ref pa)) (U : own_UC Z h0 n0 pa B cnt) :
    MetFree l (⟨"com/example/wakachi/wakachi/UnitCounts", "add", "(C)V"⟩ : MethodName) (head1 (Jvm.Cond.code (⟨"com/example/wakachi/wakachi/UnitCounts", "add", "(C)V"⟩ : MethodName) prog_227_method_2_code 3 none :: ws) ({ frames := 0, cells := 1, slots := 256, locals := 0 } : Room)) (fun a U => a = #[(.ref oo), (.int (Int32.ofNat (256 * i + r)))] ∧ Z.Warmed39 U.vm ∧ U.heap = h0) (fun _ _ _ _ _ => True) (fun _ U o U' => ∃ v L, o = .returned v ∧ QA0 Z oo pa B cnt i r b h0 n0 v U'.heap L ∧ FrameEnd U o U' L ({ frames := 0, cells := 1, slots := 256, locals := 0 } : Room).cells ({ frames := 0, cells := 1, slots := 256, locals := 0 } : Room).slots) := by
  refine MetFree.of_bodySF (plainFor_of_name pn_0) hisR ?_
  intro p e s m args below meth c s₁ Bd hml0 hP hK
  obtain ⟨rfl, hZ, hh⟩ := hP
  have hx := Bd.exec
  have hby := Bd.bytes
  have hlk : meth.locks = false := BodyLoose.notSynchronized Bd
  have hret := Bd.returns
  have hml : c.maxLocals = 3 := hml0
  have hown : s.vm.findClass "com/example/wakachi/wakachi/UnitCounts" = some m.cls := findClass_of_methodNamed Bd.named
  have hnm := (name_of_methodNamed Bd.named Bd.method).1
  have X0 : Stand p l e ({ frames := 0, cells := 1, slots := 256, locals := 0 } : Room) s m #[(.ref oo), (.int (Int32.ofNat (256 * i + r)))] below meth c s₁ [] 0 0 := Stand.of_body Bd
  have e0 : s₁.heap = h0 := by rw [← hh, Bd.state]; rfl
  have N0 := Fr.nil n0
  show own_Ends p e below s 1 256 (QA0 Z oo pa B cnt i r b h0 n0) (s₁.setTop (entryFrame m #[(.ref oo), (.int (Int32.ofNat (256 * i + r)))] 3))
  refine own_step (fun t k => castTop (ef_rmA0 m oo i r) k) ?_
  show own_Ends p e below s _ _ _ (s₁.setTop (mkF m 0 #[.val (.ref oo), .val (.int (Int32.ofNat (256 * i + r))), .unset] []))
  have u3 := U.2.2.1
  have np : oo ≠ pa := u3.ne E0 (hw _ (List.mem_of_getElem? (i := 2) rfl))
  obtain ⟨gb, nb, Ab⟩ := U.2.2.2.2.1 i hi b hB
  have nob : oo ≠ b := Ab.ne E0 (hw _ (List.mem_of_getElem? (i := 2) rfl))
  refine own_step (fun _ kc_ => XS.aloadN X0.here hx rfl (hb hby d3_0) rfl rfl kc_) ?_
  show own_Ends p e below s _ _ _ (s₁.setTop (mkF m 1 #[.val (.ref oo), .val (.int (Int32.ofNat (256 * i + r))), .unset] [(.ref oo)]))
  obtain ⟨T15, X15, e15, st15⟩ := getF X0 hx hZ hown (host := "") (Or.inl (hw _ (List.mem_of_getElem? (i := 12) rfl))) Via.refl e0 F0 (g := (mkF m 1 #[.val (.ref oo), .val (.int (Int32.ofNat (256 * i + r))), .unset] [(.ref oo)])) rfl rfl (hb hby d3_1)
  refine own_step (fun _ kc_ => st15 _ kc_) ?_
  show own_Ends p e below s _ _ _ (T15.setTop (mkF m 4 #[.val (.ref oo), .val (.int (Int32.ofNat (256 * i + r))), .unset] [(.ref pa)]))
  refine own_step (fun _ kc_ => XS.iloadN X15.here hx rfl (hb hby d3_4) rfl (XS.sipush X15.here hx rfl (hb hby d3_5) (XS.idiv X15.here hx rfl (hb hby d3_8) rfl (by decide) kc_))) ?_
  show own_Ends p e below s _ _ _ (T15.setTop (mkF m 9 #[.val (.ref oo), .val (.int (Int32.ofNat (256 * i + r))), .unset] [(.int ((Int32.ofNat (256 * i + r)) / (256 : Int32))), (.ref pa)]))
  rw [own_dv hi hr]
  show own_Ends p e below s _ _ _ (T15.setTop (mkF m 9 #[.val (.ref oo), .val (.int (Int32.ofNat (256 * i + r))), .unset] [(.int (Int32.ofNat i)), (.ref pa)]))
  refine own_step (fun _ kc_ => own_aaload X15 hx hZ e15 u3 rfl (j := (Int32.ofNat i)) (own_nn (by omega)) (i := i) (own_nc (by omega)) (v := (.ref b)) (by rw [own_pv_at B hi, hB]) (hb hby d3_9) _ (XS.astoreN X15.here hx rfl (hb hby d3_10) rfl rfl (l' := #[.val (.ref oo), .val (.int (Int32.ofNat (256 * i + r))), .val (.ref b)]) rfl (XS.aloadN X15.here hx rfl (hb hby d3_11) rfl rfl (XS.ifnonnullYes X15.here hx rfl (pc0 := 12) (pc' := 32) rfl (hb hby d3_12) rfl (by decide) (by decide) (XS.aloadN X15.here hx rfl (hb hby d3_32) rfl rfl (XS.iloadN X15.here hx rfl (hb hby d3_33) rfl (XS.sipush X15.here hx rfl (hb hby d3_34) (Jvm.RoadKit.iremM X15 hx rfl (hb hby d3_37) rfl (by decide) kc_)))))))) ?_
  show own_Ends p e below s _ _ _ (T15.setTop (mkF m 38 #[.val (.ref oo), .val (.int (Int32.ofNat (256 * i + r))), .val (.ref b)] [(.int ((Int32.ofNat (256 * i + r)) % (256 : Int32))), (.ref b)]))
  rw [own_rm hi hr]
  show own_Ends p e below s _ _ _ (T15.setTop (mkF m 38 #[.val (.ref oo), .val (.int (Int32.ofNat (256 * i + r))), .val (.ref b)] [(.int (Int32.ofNat r)), (.ref b)]))
  refine own_step (fun _ kc_ => XT.dup2 X15.here hx rfl (hb hby d3_38) rfl rfl rfl (own_laload X15 hx hZ e15 Ab (j := (Int32.ofNat r)) (own_nn (by omega)) (i := r) (own_nc (by omega)) (v := (.long (cnt (256 * i + r)))) (own_pg_at cnt i hr) (hb hby d3_39) _ (XS.lconst X15.here hx rfl (hb hby d3_40) (XS.ladd X15.here hx rfl (hb hby d3_41) rfl kc_)))) ?_
  show own_Ends p e below s _ _ _ (T15.setTop (mkF m 42 #[.val (.ref oo), .val (.int (Int32.ofNat (256 * i + r))), .val (.ref b)] [(.long ((cnt (256 * i + r)) + (1 : Int64))), (.int (Int32.ofNat r)), (.ref b)]))
  obtain ⟨T16, h16, X16, e16, W16, A16, st16⟩ := own_lastore X15 hx hZ e15 Ab (j := (Int32.ofNat r)) (x := ((cnt (256 * i + r)) + (1 : Int64))) (own_nn (by omega)) (i := r) (own_nc (by omega)) (by rw [own_pg_len]; exact hr) (Ls := #[.val (.ref oo), .val (.int (Int32.ofNat (256 * i + r))), .val (.ref b)]) (st := []) (hb hby d3_42)
  have A_b_16 : own_Ar Z h16 b .long (((own_pg cnt i)).set r (.long ((cnt (256 * i + r)) + (1 : Int64)))) := A16
  have E_oo_16 := (E0).wr W16
  have F_oo_pages_16 := (F0).other W16 (Or.inl nob)
  have A_pa_16 := (u3).other W16 (Ne.symm nb)
  have Zs16 := Nat.le_trans Z0 (Nat.le_of_eq W16.size.symm)
  have N16 := Fr.snoc X16 N0 gb
  refine own_step (fun _ kc_ => st16 _ kc_) ?_
  show own_Ends p e below s _ _ _ (T16.setTop (mkF m 43 #[.val (.ref oo), .val (.int (Int32.ofNat (256 * i + r))), .val (.ref b)] []))
  exact own_retV X16 hx hret hlk (hb hby d3_43) (by decide) (by decide) (by rw [e16]; exact ⟨rfl, N16, Zs16, E_oo_16, F_oo_pages_16, B, own_UC_inc U hi hr hB W16⟩)
theorem ef_rmA1 (m : MethodId) (oo : Addr) (i r : Nat) : entryFrame m #[(.ref oo), (.int (Int32.ofNat (256 * i + r)))] 3 = mkF m 0 #[.val (.ref oo), .val (.int (Int32.ofNat (256 * i + r))), .unset] [] := by first | (simp [entryFrame, mkF, argsToLocals, Value.category]; done) | rfl
def QA1 (Z : State) (oo : Addr) (pa : Addr) (B : Nat → Option Addr) (cnt : Nat → Int64) (i r : Nat) (h0 : Heap) (n0 : Nat) (v : Option Value) (h : Heap) (L : List Loc) : Prop := v = none ∧ Fr n0 L ∧ n0 ≤ h.size ∧ Exa Z h oo "com/example/wakachi/wakachi/UnitCounts" ∧ Fld Z h oo "com/example/wakachi/wakachi/UnitCounts" "pages" "[[J" (.ref pa) ∧ ∃ B', own_UC Z h n0 pa B' (own_up cnt (256 * i + r) (cnt (256 * i + r) + 1))
set_option maxRecDepth 65536 in
set_option maxHeartbeats 40000000 in
theorem rmA1 (l : Launch) (Z : State) (a0 : Array Value) (hw : ∀ d ∈ tables_1, d.before a0 Z = true) (ws : List Jvm.Cond) (oo : Addr) (pa : Addr) (B : Nat → Option Addr) (cnt : Nat → Int64) (i r : Nat) (h0 : Heap) (n0 : Nat) (Z0 : n0 ≤ h0.size) (hi : i < 256) (hr : r < 256) (hB : B i = none) (E0 : Exa Z h0 oo "com/example/wakachi/wakachi/UnitCounts") (F0 : Fld Z h0 oo "com/example/wakachi/wakachi/UnitCounts" "pages" "[[J" (.ref pa)) (U : own_UC Z h0 n0 pa B cnt) :
    MetFree l (⟨"com/example/wakachi/wakachi/UnitCounts", "add", "(C)V"⟩ : MethodName) (head1 (Jvm.Cond.code (⟨"com/example/wakachi/wakachi/UnitCounts", "add", "(C)V"⟩ : MethodName) prog_227_method_2_code 3 none :: ws) ({ frames := 0, cells := 1, slots := 256, locals := 0 } : Room)) (fun a U => a = #[(.ref oo), (.int (Int32.ofNat (256 * i + r)))] ∧ Z.Warmed39 U.vm ∧ U.heap = h0) (fun _ _ _ _ _ => True) (fun _ U o U' => ∃ v L, o = .returned v ∧ QA1 Z oo pa B cnt i r h0 n0 v U'.heap L ∧ FrameEnd U o U' L ({ frames := 0, cells := 1, slots := 256, locals := 0 } : Room).cells ({ frames := 0, cells := 1, slots := 256, locals := 0 } : Room).slots) := by
  refine MetFree.of_bodySF (plainFor_of_name pn_0) hisR ?_
  intro p e s m args below meth c s₁ Bd hml0 hP hK
  obtain ⟨rfl, hZ, hh⟩ := hP
  have hx := Bd.exec
  have hby := Bd.bytes
  have hlk : meth.locks = false := BodyLoose.notSynchronized Bd
  have hret := Bd.returns
  have hml : c.maxLocals = 3 := hml0
  have hown : s.vm.findClass "com/example/wakachi/wakachi/UnitCounts" = some m.cls := findClass_of_methodNamed Bd.named
  have hnm := (name_of_methodNamed Bd.named Bd.method).1
  have X0 : Stand p l e ({ frames := 0, cells := 1, slots := 256, locals := 0 } : Room) s m #[(.ref oo), (.int (Int32.ofNat (256 * i + r)))] below meth c s₁ [] 0 0 := Stand.of_body Bd
  have e0 : s₁.heap = h0 := by rw [← hh, Bd.state]; rfl
  have N0 := Fr.nil n0
  show own_Ends p e below s 1 256 (QA1 Z oo pa B cnt i r h0 n0) (s₁.setTop (entryFrame m #[(.ref oo), (.int (Int32.ofNat (256 * i + r)))] 3))
  refine own_step (fun t k => castTop (ef_rmA1 m oo i r) k) ?_
  show own_Ends p e below s _ _ _ (s₁.setTop (mkF m 0 #[.val (.ref oo), .val (.int (Int32.ofNat (256 * i + r))), .unset] []))
  have u3 := U.2.2.1
  have np : oo ≠ pa := u3.ne E0 (hw _ (List.mem_of_getElem? (i := 2) rfl))
  refine own_step (fun _ kc_ => XS.aloadN X0.here hx rfl (hb hby d3_0) rfl rfl kc_) ?_
  show own_Ends p e below s _ _ _ (s₁.setTop (mkF m 1 #[.val (.ref oo), .val (.int (Int32.ofNat (256 * i + r))), .unset] [(.ref oo)]))
  obtain ⟨T17, X17, e17, st17⟩ := getF X0 hx hZ hown (host := "") (Or.inl (hw _ (List.mem_of_getElem? (i := 12) rfl))) Via.refl e0 F0 (g := (mkF m 1 #[.val (.ref oo), .val (.int (Int32.ofNat (256 * i + r))), .unset] [(.ref oo)])) rfl rfl (hb hby d3_1)
  refine own_step (fun _ kc_ => st17 _ kc_) ?_
  show own_Ends p e below s _ _ _ (T17.setTop (mkF m 4 #[.val (.ref oo), .val (.int (Int32.ofNat (256 * i + r))), .unset] [(.ref pa)]))
  refine own_step (fun _ kc_ => XS.iloadN X17.here hx rfl (hb hby d3_4) rfl (XS.sipush X17.here hx rfl (hb hby d3_5) (XS.idiv X17.here hx rfl (hb hby d3_8) rfl (by decide) kc_))) ?_
  show own_Ends p e below s _ _ _ (T17.setTop (mkF m 9 #[.val (.ref oo), .val (.int (Int32.ofNat (256 * i + r))), .unset] [(.int ((Int32.ofNat (256 * i + r)) / (256 : Int32))), (.ref pa)]))
  rw [own_dv hi hr]
  show own_Ends p e below s _ _ _ (T17.setTop (mkF m 9 #[.val (.ref oo), .val (.int (Int32.ofNat (256 * i + r))), .unset] [(.int (Int32.ofNat i)), (.ref pa)]))
  refine own_step (fun _ kc_ => own_aaload X17 hx hZ e17 u3 rfl (j := (Int32.ofNat i)) (own_nn (by omega)) (i := i) (own_nc (by omega)) (v := .null) (by rw [own_pv_at B hi, hB]) (hb hby d3_9) _ (XS.astoreN X17.here hx rfl (hb hby d3_10) rfl rfl (l' := #[.val (.ref oo), .val (.int (Int32.ofNat (256 * i + r))), .val .null]) rfl (XS.aloadN X17.here hx rfl (hb hby d3_11) rfl rfl (XS.ifnonnullNo X17.here hx rfl (hb hby d3_12) rfl (XS.sipush X17.here hx rfl (hb hby d3_15) kc_))))) ?_
  show own_Ends p e below s _ _ _ (T17.setTop (mkF m 18 #[.val (.ref oo), .val (.int (Int32.ofNat (256 * i + r))), .val .null] [(.int (256 : Int32))]))
  obtain ⟨T18, h18, k18, X18, e18, E18, A18, Ex18, st18⟩ := own_newJ X17 hx hZ (hw _ (List.mem_of_getElem? (i := 19) rfl)) e17 (g := (mkF m 18 #[.val (.ref oo), .val (.int (Int32.ofNat (256 * i + r))), .val .null] [(.int (256 : Int32))])) rfl (hb hby d3_18) rfl (by decide) (cap := 256) (by decide) (by decide) (by decide : 0 + 1 ≤ _) (by decide : 0 + 256 ≤ _)
  obtain ⟨b18, g18⟩ : ∃ z, z = h0.size := ⟨_, rfl⟩
  rw [← g18] at A18 Ex18 st18
  have ne_oo_b18 : oo ≠ b18 := Nat.ne_of_lt (Nat.lt_of_lt_of_le (E0).lt (Nat.le_of_eq g18.symm))
  have ne_pa_b18 : pa ≠ b18 := Nat.ne_of_lt (Nat.lt_of_lt_of_le (u3).lt (Nat.le_of_eq g18.symm))
  have n0_b18 : n0 ≤ b18 := Nat.le_trans Z0 (Nat.le_of_eq g18.symm)
  have hbz : h0.size ≤ b18 := Nat.le_of_eq g18.symm
  have E_oo_18 := (E0).ext E18
  have F_oo_pages_18 := (F0).ext E18
  have A_pa_18 := (u3).ext E18
  have Zs18 := Nat.le_trans Z0 E18.1
  have A_b18 : own_Ar Z h18 b18 .long (List.replicate 256 (.long 0)) := own_Ar.new A18 (by decide)
  have B1 := U.2.1.ext E18
  refine own_step (fun _ kc_ => st18 _ kc_) ?_
  show own_Ends p e below s _ _ _ (T18.setTop (mkF m 20 #[.val (.ref oo), .val (.int (Int32.ofNat (256 * i + r))), .val .null] [(.ref b18)]))
  refine own_step (fun _ kc_ => XS.astoreN X18.here hx rfl (hb hby d3_20) rfl rfl (l' := #[.val (.ref oo), .val (.int (Int32.ofNat (256 * i + r))), .val (.ref b18)]) rfl (XS.aloadN X18.here hx rfl (hb hby d3_21) rfl rfl kc_)) ?_
  show own_Ends p e below s _ _ _ (T18.setTop (mkF m 22 #[.val (.ref oo), .val (.int (Int32.ofNat (256 * i + r))), .val (.ref b18)] [(.ref oo)]))
  obtain ⟨T19, X19, e19, st19⟩ := getF X18 hx hZ hown (host := "") (Or.inl (hw _ (List.mem_of_getElem? (i := 12) rfl))) Via.refl e18 F_oo_pages_18 (g := (mkF m 22 #[.val (.ref oo), .val (.int (Int32.ofNat (256 * i + r))), .val (.ref b18)] [(.ref oo)])) rfl rfl (hb hby d3_22)
  refine own_step (fun _ kc_ => st19 _ kc_) ?_
  show own_Ends p e below s _ _ _ (T19.setTop (mkF m 25 #[.val (.ref oo), .val (.int (Int32.ofNat (256 * i + r))), .val (.ref b18)] [(.ref pa)]))
  refine own_step (fun _ kc_ => XS.iloadN X19.here hx rfl (hb hby d3_25) rfl (XS.sipush X19.here hx rfl (hb hby d3_26) (XS.idiv X19.here hx rfl (hb hby d3_29) rfl (by decide) kc_))) ?_
  show own_Ends p e below s _ _ _ (T19.setTop (mkF m 30 #[.val (.ref oo), .val (.int (Int32.ofNat (256 * i + r))), .val (.ref b18)] [(.int ((Int32.ofNat (256 * i + r)) / (256 : Int32))), (.ref pa)]))
  rw [own_dv hi hr]
  show own_Ends p e below s _ _ _ (T19.setTop (mkF m 30 #[.val (.ref oo), .val (.int (Int32.ofNat (256 * i + r))), .val (.ref b18)] [(.int (Int32.ofNat i)), (.ref pa)]))
  refine own_step (fun _ kc_ => XS.aloadN X19.here hx rfl (hb hby d3_30) rfl rfl kc_) ?_
  show own_Ends p e below s _ _ _ (T19.setTop (mkF m 31 #[.val (.ref oo), .val (.int (Int32.ofNat (256 * i + r))), .val (.ref b18)] [(.ref b18), (.int (Int32.ofNat i)), (.ref pa)]))
  obtain ⟨T20, h20, X20, e20, W20, A20, st20⟩ := own_aastore X19 hx hZ e19 A_pa_18 B1 (Ins.self Ex18) (j := (Int32.ofNat i)) (i := i) (own_nn (by omega)) (own_nc (by omega)) (by rw [own_pv_len]; exact hi) (Ls := #[.val (.ref oo), .val (.int (Int32.ofNat (256 * i + r))), .val (.ref b18)]) (st := []) (hb hby d3_31)
  have E_oo_20 := (E_oo_18).wr W20
  have F_oo_pages_20 := (F_oo_pages_18).other W20 (Or.inl np)
  have A_b18_20 := (A_b18).other W20 (Ne.symm ne_pa_b18)
  have Zs20 := Nat.le_trans Zs18 (Nat.le_of_eq W20.size.symm)
  have N20 := Fr.snoc X20 N0 U.1
  refine own_step (fun _ kc_ => st20 _ kc_) ?_
  show own_Ends p e below s _ _ _ (T20.setTop (mkF m 32 #[.val (.ref oo), .val (.int (Int32.ofNat (256 * i + r))), .val (.ref b18)] []))
  refine own_step (fun _ kc_ => XS.aloadN X20.here hx rfl (hb hby d3_32) rfl rfl (XS.iloadN X20.here hx rfl (hb hby d3_33) rfl (XS.sipush X20.here hx rfl (hb hby d3_34) (Jvm.RoadKit.iremM X20 hx rfl (hb hby d3_37) rfl (by decide) kc_)))) ?_
  show own_Ends p e below s _ _ _ (T20.setTop (mkF m 38 #[.val (.ref oo), .val (.int (Int32.ofNat (256 * i + r))), .val (.ref b18)] [(.int ((Int32.ofNat (256 * i + r)) % (256 : Int32))), (.ref b18)]))
  rw [own_rm hi hr]
  show own_Ends p e below s _ _ _ (T20.setTop (mkF m 38 #[.val (.ref oo), .val (.int (Int32.ofNat (256 * i + r))), .val (.ref b18)] [(.int (Int32.ofNat r)), (.ref b18)]))
  refine own_step (fun _ kc_ => XT.dup2 X20.here hx rfl (hb hby d3_38) rfl rfl rfl (own_laload X20 hx hZ e20 A_b18_20 (j := (Int32.ofNat r)) (own_nn (by omega)) (i := r) (own_nc (by omega)) (v := (.long (0 : Int64))) (by rw [List.getElem?_replicate, if_pos hr]) (hb hby d3_39) _ (XS.lconst X20.here hx rfl (hb hby d3_40) (XS.ladd X20.here hx rfl (hb hby d3_41) rfl kc_)))) ?_
  show own_Ends p e below s _ _ _ (T20.setTop (mkF m 42 #[.val (.ref oo), .val (.int (Int32.ofNat (256 * i + r))), .val (.ref b18)] [(.long ((0 : Int64) + (1 : Int64))), (.int (Int32.ofNat r)), (.ref b18)]))
  rw [show ((0 : Int64) + (1 : Int64)) = (1 : Int64) from by decide]
  show own_Ends p e below s _ _ _ (T20.setTop (mkF m 42 #[.val (.ref oo), .val (.int (Int32.ofNat (256 * i + r))), .val (.ref b18)] [(.long (1 : Int64)), (.int (Int32.ofNat r)), (.ref b18)]))
  obtain ⟨T21, h21, X21, e21, W21, A21, st21⟩ := own_lastore X20 hx hZ e20 A_b18_20 (j := (Int32.ofNat r)) (x := (1 : Int64)) (own_nn (by omega)) (i := r) (own_nc (by omega)) (by rw [List.length_replicate]; exact hr) (Ls := #[.val (.ref oo), .val (.int (Int32.ofNat (256 * i + r))), .val (.ref b18)]) (st := []) (hb hby d3_42)
  have A_b18_21 : own_Ar Z h21 b18 .long (((List.replicate 256 (.long 0))).set r (.long (1 : Int64))) := A21
  have E_oo_21 := (E_oo_20).wr W21
  have F_oo_pages_21 := (F_oo_pages_20).other W21 (Or.inl ne_oo_b18)
  have A_pa_21 := (A20).other W21 ne_pa_b18
  have Zs21 := Nat.le_trans Zs20 (Nat.le_of_eq W21.size.symm)
  have N21 := Fr.snoc X21 N20 n0_b18
  refine own_step (fun _ kc_ => st21 _ kc_) ?_
  show own_Ends p e below s _ _ _ (T21.setTop (mkF m 43 #[.val (.ref oo), .val (.int (Int32.ofNat (256 * i + r))), .val (.ref b18)] []))
  exact own_retV X21 hx hret hlk (hb hby d3_43) (by decide) (by decide) (by
      rw [e21]
      have q := own_UC_new U hi hr hB E18 hbz n0_b18 W20 A_b18_20 W21
      rw [show (1 : Int64) = cnt (256 * i + r) + 1 from by rw [U.2.2.2.1 i hi hB r hr]; rfl] at q
      exact ⟨rfl, N21, Zs21, E_oo_21, F_oo_pages_21, _, q⟩)
set_option maxRecDepth 65536 in
set_option maxHeartbeats 40000000 in
theorem own_n1in {p : Program} {l : Launch} {e : Env} {s : State} {m : MethodId} {below : List Frame} {meth : Method} {c : Code} {Z : State} {a0 : Array Value} (hw : ∀ d ∈ tables_1, d.before a0 Z = true) (hZ : Z.Warmed39 s.vm) (hx : p.tables.exec = Jvm.exec) (hby : c.code = prog_227_method_3_code) (hlk : meth.locks = false) (hret : meth.sig.returnType = some (.array .char)) (hml : c.maxLocals = 11) (hown : s.vm.findClass "com/example/wakachi/wakachi/UnitCounts" = some m.cls) {args : Array Value} {R : Room} {C S : Nat} {Q : Option Value → Heap → List Loc → Prop} {n0 : Nat} {oo pa : Addr} {cnt : Nat → Int64} {h : Heap} {b : Addr} {T : State} {locs : List Loc} {cells slots : Nat} (X : Stand p l e R s m args below meth c T locs cells slots) (e0 : T.heap = h) {i : Nat} (hi : i < 256) (A : own_Ar Z h b .long (own_pg cnt i)) (K : ∀ s9 s10, own_pair s9 s10 → own_Ends p e below s C S Q (T.setTop (mkF m 72 #[.val (.ref oo), .val (.int (Int32.ofNat (own_us cnt (256 * i + 256)).length)), .val (.ref pa), .val (.int (256 : Int32)), .val (.int (Int32.ofNat i)), .val (.ref b), .val (.ref b), .val (.int (256 : Int32)), .val (.int (256 : Int32)), s9, s10] []))) :
    ∀ (r j : Nat) (hj : j + r = 256) (s9 s10 : Slot) (hp : own_pair s9 s10), own_Ends p e below s C S Q (T.setTop (mkF m 42 #[.val (.ref oo), .val (.int (Int32.ofNat (own_us cnt (256 * i + j)).length)), .val (.ref pa), .val (.int (256 : Int32)), .val (.int (Int32.ofNat i)), .val (.ref b), .val (.ref b), .val (.int (256 : Int32)), .val (.int (Int32.ofNat j)), s9, s10] [])) := by
  intro r
  induction r with
  | zero =>
    intro j hj s9 s10 hp
    have hj' : j = 256 := by omega
    subst hj'
    show own_Ends p e below s _ _ _ (T.setTop (mkF m 42 #[.val (.ref oo), .val (.int (Int32.ofNat (own_us cnt (256 * i + 256)).length)), .val (.ref pa), .val (.int (256 : Int32)), .val (.int (Int32.ofNat i)), .val (.ref b), .val (.ref b), .val (.int (256 : Int32)), .val (.int (Int32.ofNat 256)), s9, s10] []))
    refine own_step (fun _ kc_ => XS.iload X.here hx rfl (hb hby d4_42) rfl (XS.iload X.here hx rfl (hb hby d4_44) rfl (XS.icmpYes X.here hx rfl (pc0 := 46) (pc' := 72) rfl (hb hby d4_46) rfl (XT.ii_ge_t (by decide : ¬ ((Int32.ofNat 256) < (256 : Int32)))) (by decide) (by decide) kc_))) ?_
    show own_Ends p e below s _ _ _ (T.setTop (mkF m 72 #[.val (.ref oo), .val (.int (Int32.ofNat (own_us cnt (256 * i + 256)).length)), .val (.ref pa), .val (.int (256 : Int32)), .val (.int (Int32.ofNat i)), .val (.ref b), .val (.ref b), .val (.int (256 : Int32)), .val (.int (Int32.ofNat 256)), s9, s10] []))
    exact K _ _ hp
  | succ r ih =>
    intro j hj s9 s10 hp
    have hj' : j < 256 := by omega
    show own_Ends p e below s _ _ _ (T.setTop (mkF m 42 #[.val (.ref oo), .val (.int (Int32.ofNat (own_us cnt (256 * i + j)).length)), .val (.ref pa), .val (.int (256 : Int32)), .val (.int (Int32.ofNat i)), .val (.ref b), .val (.ref b), .val (.int (256 : Int32)), .val (.int (Int32.ofNat j)), s9, s10] []))
    refine own_step (fun _ kc_ => XS.iload X.here hx rfl (hb hby d4_42) rfl (XS.iload X.here hx rfl (hb hby d4_44) rfl (XS.icmpNo X.here hx rfl (hb hby d4_46) rfl (XT.ii_ge_f (own_lt256 hj' : (Int32.ofNat j) < (256 : Int32))) (XS.aload X.here hx rfl (hb hby d4_49) rfl rfl (XS.iload X.here hx rfl (hb hby d4_51) rfl (own_laload X hx hZ e0 A (j := (Int32.ofNat j)) (own_nn (by omega)) (i := j) (own_nc (by omega)) (v := (.long (cnt (256 * i + j)))) (own_pg_at cnt i hj') (hb hby d4_53) _ (XS.lstore X.here hx rfl (hb hby d4_54) rfl (l' := #[.val (.ref oo), .val (.int (Int32.ofNat (own_us cnt (256 * i + j)).length)), .val (.ref pa), .val (.int (256 : Int32)), .val (.int (Int32.ofNat i)), .val (.ref b), .val (.ref b), .val (.int (256 : Int32)), .val (.int (Int32.ofNat j)), .val (.long (cnt (256 * i + j))), .second]) (own_st9 hp) (XS.lload X.here hx rfl (hb hby d4_56) rfl kc_)))))))) ?_
    show own_Ends p e below s _ _ _ (T.setTop (mkF m 58 #[.val (.ref oo), .val (.int (Int32.ofNat (own_us cnt (256 * i + j)).length)), .val (.ref pa), .val (.int (256 : Int32)), .val (.int (Int32.ofNat i)), .val (.ref b), .val (.ref b), .val (.int (256 : Int32)), .val (.int (Int32.ofNat j)), .val (.long (cnt (256 * i + j))), .second] [(.long (cnt (256 * i + j)))]))
    refine own_step (fun _ kc_ => XS.lconst X.here hx rfl (hb hby d4_58) (XT.lcmp X.here hx rfl (hb hby d4_59) rfl kc_)) ?_
    show own_Ends p e below s _ _ _ (T.setTop (mkF m 60 #[.val (.ref oo), .val (.int (Int32.ofNat (own_us cnt (256 * i + j)).length)), .val (.ref pa), .val (.int (256 : Int32)), .val (.int (Int32.ofNat i)), .val (.ref b), .val (.ref b), .val (.int (256 : Int32)), .val (.int (Int32.ofNat j)), .val (.long (cnt (256 * i + j))), .second] [(.int (XT.cmpL (cnt (256 * i + j)) (0 : Int64)))]))
    by_cases hc60 : (0 : Int64) < (cnt (256 * i + j))
    · refine own_step (fun _ kc_ => XS.ifNo X.here hx rfl (hb hby d4_60) rfl (XT.ll_le_f hc60) (XS.iinc X.here hx rfl (hb hby d4_63) rfl (l' := #[.val (.ref oo), .val (.int ((Int32.ofNat (own_us cnt (256 * i + j)).length) + (1 : Int32))), .val (.ref pa), .val (.int (256 : Int32)), .val (.int (Int32.ofNat i)), .val (.ref b), .val (.ref b), .val (.int (256 : Int32)), .val (.int (Int32.ofNat j)), .val (.long (cnt (256 * i + j))), .second]) rfl (XS.iinc X.here hx rfl (hb hby d4_66) rfl (l' := #[.val (.ref oo), .val (.int ((Int32.ofNat (own_us cnt (256 * i + j)).length) + (1 : Int32))), .val (.ref pa), .val (.int (256 : Int32)), .val (.int (Int32.ofNat i)), .val (.ref b), .val (.ref b), .val (.int (256 : Int32)), .val (.int ((Int32.ofNat j) + (1 : Int32))), .val (.long (cnt (256 * i + j))), .second]) rfl (XS.goto X.here hx rfl (pc0 := 69) (pc' := 42) rfl (hb hby d4_69) (by decide) (by decide) kc_)))) ?_
      show own_Ends p e below s _ _ _ (T.setTop (mkF m 42 #[.val (.ref oo), .val (.int ((Int32.ofNat (own_us cnt (256 * i + j)).length) + (1 : Int32))), .val (.ref pa), .val (.int (256 : Int32)), .val (.int (Int32.ofNat i)), .val (.ref b), .val (.ref b), .val (.int (256 : Int32)), .val (.int ((Int32.ofNat j) + (1 : Int32))), .val (.long (cnt (256 * i + j))), .second] []))
      rw [own_succ j, own_hT hc60]
      exact ih (j + 1) (by omega) _ _ (own_pairL _)
    · refine own_step (fun _ kc_ => XS.ifYes X.here hx rfl (pc0 := 60) (pc' := 66) rfl (hb hby d4_60) rfl (XT.ll_le_t hc60) (by decide) (by decide) (XS.iinc X.here hx rfl (hb hby d4_66) rfl (l' := #[.val (.ref oo), .val (.int (Int32.ofNat (own_us cnt (256 * i + j)).length)), .val (.ref pa), .val (.int (256 : Int32)), .val (.int (Int32.ofNat i)), .val (.ref b), .val (.ref b), .val (.int (256 : Int32)), .val (.int ((Int32.ofNat j) + (1 : Int32))), .val (.long (cnt (256 * i + j))), .second]) rfl (XS.goto X.here hx rfl (pc0 := 69) (pc' := 42) rfl (hb hby d4_69) (by decide) (by decide) kc_))) ?_
      show own_Ends p e below s _ _ _ (T.setTop (mkF m 42 #[.val (.ref oo), .val (.int (Int32.ofNat (own_us cnt (256 * i + j)).length)), .val (.ref pa), .val (.int (256 : Int32)), .val (.int (Int32.ofNat i)), .val (.ref b), .val (.ref b), .val (.int (256 : Int32)), .val (.int ((Int32.ofNat j) + (1 : Int32))), .val (.long (cnt (256 * i + j))), .second] []))
      rw [own_succ j]
      have q := ih (j + 1) (by omega) _ _ (own_pairL (cnt (256 * i + j)))
      rw [show 256 * i + (j + 1) = (256 * i + j) + 1 from rfl, own_us_F hc60] at q
      exact q
set_option maxRecDepth 65536 in
set_option maxHeartbeats 40000000 in
theorem own_n1 {p : Program} {l : Launch} {e : Env} {s : State} {m : MethodId} {below : List Frame} {meth : Method} {c : Code} {Z : State} {a0 : Array Value} (hw : ∀ d ∈ tables_1, d.before a0 Z = true) (hZ : Z.Warmed39 s.vm) (hx : p.tables.exec = Jvm.exec) (hby : c.code = prog_227_method_3_code) (hlk : meth.locks = false) (hret : meth.sig.returnType = some (.array .char)) (hml : c.maxLocals = 11) (hown : s.vm.findClass "com/example/wakachi/wakachi/UnitCounts" = some m.cls) {args : Array Value} {R : Room} {C S : Nat} {Q : Option Value → Heap → List Loc → Prop} {n0 : Nat} {oo pa : Addr} {cnt : Nat → Int64} {h : Heap} {B : Nat → Option Addr} {T : State} {locs : List Loc} {cells slots : Nat} (X : Stand p l e R s m args below meth c T locs cells slots) (e0 : T.heap = h) (PA : own_Ar Z h pa (.array .long) (own_pv B)) (hz : ∀ i, i < 256 → B i = none → ∀ j, j < 256 → cnt (256 * i + j) = 0) (hpg : ∀ i, i < 256 → ∀ b, B i = some b → own_Ar Z h b .long (own_pg cnt i)) (K : ∀ (s5 s6 s7 s8 s9 s10 : Slot) (os5 : own_one s5) (os6 : own_one s6) (os7 : own_one s7) (os8 : own_one s8) (hp : own_pair s9 s10), own_Ends p e below s C S Q (T.setTop (mkF m 78 #[.val (.ref oo), .val (.int (Int32.ofNat (own_us cnt (65536)).length)), .val (.ref pa), .val (.int (256 : Int32)), .val (.int (256 : Int32)), s5, s6, s7, s8, s9, s10] []))) :
    ∀ (r i : Nat) (hi : i + r = 256) (s5 s6 s7 s8 s9 s10 : Slot) (os5 : own_one s5) (os6 : own_one s6) (os7 : own_one s7) (os8 : own_one s8) (hp : own_pair s9 s10), own_Ends p e below s C S Q (T.setTop (mkF m 13 #[.val (.ref oo), .val (.int (Int32.ofNat (own_us cnt (256 * i)).length)), .val (.ref pa), .val (.int (256 : Int32)), .val (.int (Int32.ofNat i)), s5, s6, s7, s8, s9, s10] [])) := by
  intro r
  induction r with
  | zero =>
    intro i hi s5 s6 s7 s8 s9 s10 os5 os6 os7 os8 hp
    have hi' : i = 256 := by omega
    subst hi'
    show own_Ends p e below s _ _ _ (T.setTop (mkF m 13 #[.val (.ref oo), .val (.int (Int32.ofNat (own_us cnt (256 * 256)).length)), .val (.ref pa), .val (.int (256 : Int32)), .val (.int (Int32.ofNat 256)), s5, s6, s7, s8, s9, s10] []))
    refine own_step (fun _ kc_ => XS.iload X.here hx rfl (hb hby d4_13) rfl (XS.iloadN X.here hx rfl (hb hby d4_15) rfl (XS.icmpYes X.here hx rfl (pc0 := 16) (pc' := 78) rfl (hb hby d4_16) rfl (XT.ii_ge_t (by decide : ¬ ((Int32.ofNat 256) < (256 : Int32)))) (by decide) (by decide) kc_))) ?_
    show own_Ends p e below s _ _ _ (T.setTop (mkF m 78 #[.val (.ref oo), .val (.int (Int32.ofNat (own_us cnt (256 * 256)).length)), .val (.ref pa), .val (.int (256 : Int32)), .val (.int (Int32.ofNat 256)), s5, s6, s7, s8, s9, s10] []))
    exact K s5 s6 s7 s8 s9 s10 os5 os6 os7 os8 hp
  | succ r ih =>
    intro i hi s5 s6 s7 s8 s9 s10 os5 os6 os7 os8 hp
    have hi' : i < 256 := by omega
    cases hB : B i with
    | none =>
      show own_Ends p e below s _ _ _ (T.setTop (mkF m 13 #[.val (.ref oo), .val (.int (Int32.ofNat (own_us cnt (256 * i)).length)), .val (.ref pa), .val (.int (256 : Int32)), .val (.int (Int32.ofNat i)), s5, s6, s7, s8, s9, s10] []))
      refine own_step (fun _ kc_ => XS.iload X.here hx rfl (hb hby d4_13) rfl (XS.iloadN X.here hx rfl (hb hby d4_15) rfl (XS.icmpNo X.here hx rfl (hb hby d4_16) rfl (XT.ii_ge_f (own_lt256 hi' : (Int32.ofNat i) < (256 : Int32))) (XS.aloadN X.here hx rfl (hb hby d4_19) rfl rfl (XS.iload X.here hx rfl (hb hby d4_20) rfl (own_aaload X hx hZ e0 PA rfl (j := (Int32.ofNat i)) (own_nn (by omega)) (i := i) (own_nc (by omega)) (v := .null) (by rw [own_pv_at B hi', hB]) (hb hby d4_22) _ (XS.astoreS X.here hx rfl (hb hby d4_23) rfl rfl rfl rfl os5 (XS.aload X.here hx rfl (hb hby d4_25) rfl rfl kc_)))))))) ?_
      show own_Ends p e below s _ _ _ (T.setTop (mkF m 27 #[.val (.ref oo), .val (.int (Int32.ofNat (own_us cnt (256 * i)).length)), .val (.ref pa), .val (.int (256 : Int32)), .val (.int (Int32.ofNat i)), .val .null, s6, s7, s8, s9, s10] [.null]))
      refine own_step (fun _ kc_ => XS.ifnullYes X.here hx rfl (pc0 := 27) (pc' := 72) rfl (hb hby d4_27) rfl (by decide) (by decide) (XS.iinc X.here hx rfl (hb hby d4_72) rfl (l' := #[.val (.ref oo), .val (.int (Int32.ofNat (own_us cnt (256 * i)).length)), .val (.ref pa), .val (.int (256 : Int32)), .val (.int ((Int32.ofNat i) + (1 : Int32))), .val .null, s6, s7, s8, s9, s10]) rfl (XS.goto X.here hx rfl (pc0 := 75) (pc' := 13) rfl (hb hby d4_75) (by decide) (by decide) kc_))) ?_
      show own_Ends p e below s _ _ _ (T.setTop (mkF m 13 #[.val (.ref oo), .val (.int (Int32.ofNat (own_us cnt (256 * i)).length)), .val (.ref pa), .val (.int (256 : Int32)), .val (.int ((Int32.ofNat i) + (1 : Int32))), .val .null, s6, s7, s8, s9, s10] []))
      rw [own_succ i]
      have q := ih (i + 1) (by omega) (.val .null) s6 s7 s8 s9 s10 (own_oneV rfl) os6 os7 os8 hp
      rw [own_us_page (hz i hi' hB)] at q
      exact q
    | some b =>
      show own_Ends p e below s _ _ _ (T.setTop (mkF m 13 #[.val (.ref oo), .val (.int (Int32.ofNat (own_us cnt (256 * i)).length)), .val (.ref pa), .val (.int (256 : Int32)), .val (.int (Int32.ofNat i)), s5, s6, s7, s8, s9, s10] []))
      have Ab := hpg i hi' b hB
      refine own_step (fun _ kc_ => XS.iload X.here hx rfl (hb hby d4_13) rfl (XS.iloadN X.here hx rfl (hb hby d4_15) rfl (XS.icmpNo X.here hx rfl (hb hby d4_16) rfl (XT.ii_ge_f (own_lt256 hi' : (Int32.ofNat i) < (256 : Int32))) (XS.aloadN X.here hx rfl (hb hby d4_19) rfl rfl (XS.iload X.here hx rfl (hb hby d4_20) rfl (own_aaload X hx hZ e0 PA rfl (j := (Int32.ofNat i)) (own_nn (by omega)) (i := i) (own_nc (by omega)) (v := (.ref b)) (by rw [own_pv_at B hi', hB]) (hb hby d4_22) _ (XS.astoreS X.here hx rfl (hb hby d4_23) rfl rfl rfl rfl os5 (XS.aload X.here hx rfl (hb hby d4_25) rfl rfl kc_)))))))) ?_
      show own_Ends p e below s _ _ _ (T.setTop (mkF m 27 #[.val (.ref oo), .val (.int (Int32.ofNat (own_us cnt (256 * i)).length)), .val (.ref pa), .val (.int (256 : Int32)), .val (.int (Int32.ofNat i)), .val (.ref b), s6, s7, s8, s9, s10] [(.ref b)]))
      refine own_step (fun _ kc_ => XS.ifnullNo X.here hx rfl (hb hby d4_27) rfl (XS.aload X.here hx rfl (hb hby d4_30) rfl rfl (XS.astoreS X.here hx rfl (hb hby d4_32) rfl rfl rfl rfl os6 (XS.aload X.here hx rfl (hb hby d4_34) rfl rfl (own_alen X hx hZ e0 Ab (n := 256) (z := (256 : Int32)) (own_pg_len cnt i) rfl (hb hby d4_36) _ (XS.istoreS X.here hx rfl (hb hby d4_37) rfl rfl os7 (XS.iconst X.here hx rfl (hb hby d4_39) (XS.istoreS X.here hx rfl (hb hby d4_40) rfl rfl os8 kc_)))))))) ?_
      show own_Ends p e below s _ _ _ (T.setTop (mkF m 42 #[.val (.ref oo), .val (.int (Int32.ofNat (own_us cnt (256 * i)).length)), .val (.ref pa), .val (.int (256 : Int32)), .val (.int (Int32.ofNat i)), .val (.ref b), .val (.ref b), .val (.int (256 : Int32)), .val (.int (0 : Int32)), s9, s10] []))
      refine own_n1in (n0 := 0) hw hZ hx hby hlk hret hml hown X e0 hi' Ab ?_ 256 0 rfl _ _ hp
      intro s9 s10 hp
      show own_Ends p e below s _ _ _ (T.setTop (mkF m 72 #[.val (.ref oo), .val (.int (Int32.ofNat (own_us cnt (256 * i + 256)).length)), .val (.ref pa), .val (.int (256 : Int32)), .val (.int (Int32.ofNat i)), .val (.ref b), .val (.ref b), .val (.int (256 : Int32)), .val (.int (256 : Int32)), s9, s10] []))
      refine own_step (fun _ kc_ => XS.iinc X.here hx rfl (hb hby d4_72) rfl (l' := #[.val (.ref oo), .val (.int (Int32.ofNat (own_us cnt (256 * i + 256)).length)), .val (.ref pa), .val (.int (256 : Int32)), .val (.int ((Int32.ofNat i) + (1 : Int32))), .val (.ref b), .val (.ref b), .val (.int (256 : Int32)), .val (.int (256 : Int32)), s9, s10]) rfl (XS.goto X.here hx rfl (pc0 := 75) (pc' := 13) rfl (hb hby d4_75) (by decide) (by decide) kc_)) ?_
      show own_Ends p e below s _ _ _ (T.setTop (mkF m 13 #[.val (.ref oo), .val (.int (Int32.ofNat (own_us cnt (256 * i + 256)).length)), .val (.ref pa), .val (.int (256 : Int32)), .val (.int ((Int32.ofNat i) + (1 : Int32))), .val (.ref b), .val (.ref b), .val (.int (256 : Int32)), .val (.int (256 : Int32)), s9, s10] []))
      rw [own_succ i]
      exact ih (i + 1) (by omega) _ _ _ _ _ _ (own_oneV rfl) (own_oneV rfl) (own_oneV rfl) (own_oneV rfl) hp
set_option maxRecDepth 65536 in
set_option maxHeartbeats 40000000 in
theorem own_n2in {p : Program} {l : Launch} {e : Env} {s : State} {m : MethodId} {below : List Frame} {meth : Method} {c : Code} {Z : State} {a0 : Array Value} (hw : ∀ d ∈ tables_1, d.before a0 Z = true) (hZ : Z.Warmed39 s.vm) (hx : p.tables.exec = Jvm.exec) (hby : c.code = prog_227_method_3_code) (hlk : meth.locks = false) (hret : meth.sig.returnType = some (.array .char)) (hml : c.maxLocals = 11) (hown : s.vm.findClass "com/example/wakachi/wakachi/UnitCounts" = some m.cls) {args : Array Value} {R : Room} {C S : Nat} {Q : Option Value → Heap → List Loc → Prop} {n0 : Nat} {oo pa : Addr} {cnt : Nat → Int64} {B : Nat → Option Addr} {ka : Addr} {H : Nat} {cells slots : Nat} (hH : (own_us cnt 65536).length = H) (hH2 : H ≤ 2) (g0 : n0 ≤ ka) (n1 : oo ≠ ka) (n2 : pa ≠ ka) (n3 : oo ≠ pa) (nb : ∀ i, i < 256 → ∀ b, B i = some b → b ≠ ka ∧ b ≠ pa ∧ oo ≠ b) {i : Nat} {b : Addr} {s7 s8 s9 s10 : Slot} (hi : i < 256) (hB : B i = some b) (K : ∀ {T : State} {locs : List Loc} {h : Heap} (X : Stand p l e R s m args below meth c T locs cells slots) (e0 : T.heap = h) (N0 : Fr n0 locs) (Z0 : n0 ≤ h.size) (E0 : Exa Z h oo "com/example/wakachi/wakachi/UnitCounts") (F0 : Fld Z h oo "com/example/wakachi/wakachi/UnitCounts" "pages" "[[J" (.ref pa)) (PA : own_Ar Z h pa (.array .long) (own_pv B)) (hpg : ∀ i, i < 256 → ∀ b, B i = some b → own_Ar Z h b .long (own_pg cnt i)) (KA : own_Ar Z h ka .long (own_kv cnt H (256 * i + 256))), own_Ends p e below s C S Q (T.setTop (mkF m 164 #[.val (.ref oo), .val (.int (Int32.ofNat H)), .val (.ref ka), .val (.int (Int32.ofNat (own_us cnt (256 * i + 256)).length)), .val (.int (Int32.ofNat i)), .val (.ref b), .val (.int (256 : Int32)), s7, s8, s9, s10] []))) :
    ∀ (r j : Nat) (hj : j + r = 256) {T : State} {locs : List Loc} {h : Heap} (X : Stand p l e R s m args below meth c T locs cells slots) (e0 : T.heap = h) (N0 : Fr n0 locs) (Z0 : n0 ≤ h.size) (E0 : Exa Z h oo "com/example/wakachi/wakachi/UnitCounts") (F0 : Fld Z h oo "com/example/wakachi/wakachi/UnitCounts" "pages" "[[J" (.ref pa)) (PA : own_Ar Z h pa (.array .long) (own_pv B)) (hpg : ∀ i, i < 256 → ∀ b, B i = some b → own_Ar Z h b .long (own_pg cnt i)) (KA : own_Ar Z h ka .long (own_kv cnt H (256 * i + j))), own_Ends p e below s C S Q (T.setTop (mkF m 114 #[.val (.ref oo), .val (.int (Int32.ofNat H)), .val (.ref ka), .val (.int (Int32.ofNat (own_us cnt (256 * i + j)).length)), .val (.int (Int32.ofNat i)), .val (.ref b), .val (.int (Int32.ofNat j)), s7, s8, s9, s10] [])) := by
  intro r
  induction r with
  | zero =>
    intro j hj T locs h X e0 N0 Z0 E0 F0 PA hpg KA
    have hj' : j = 256 := by omega
    subst hj'
    show own_Ends p e below s _ _ _ (T.setTop (mkF m 114 #[.val (.ref oo), .val (.int (Int32.ofNat H)), .val (.ref ka), .val (.int (Int32.ofNat (own_us cnt (256 * i + 256)).length)), .val (.int (Int32.ofNat i)), .val (.ref b), .val (.int (Int32.ofNat 256)), s7, s8, s9, s10] []))
    refine own_step (fun _ kc_ => XS.iload X.here hx rfl (hb hby d4_114) rfl (XS.sipush X.here hx rfl (hb hby d4_116) (XS.icmpYes X.here hx rfl (pc0 := 119) (pc' := 164) rfl (hb hby d4_119) rfl (XT.ii_ge_t (by decide : ¬ ((Int32.ofNat 256) < (256 : Int32)))) (by decide) (by decide) kc_))) ?_
    show own_Ends p e below s _ _ _ (T.setTop (mkF m 164 #[.val (.ref oo), .val (.int (Int32.ofNat H)), .val (.ref ka), .val (.int (Int32.ofNat (own_us cnt (256 * i + 256)).length)), .val (.int (Int32.ofNat i)), .val (.ref b), .val (.int (Int32.ofNat 256)), s7, s8, s9, s10] []))
    exact K X e0 N0 Z0 E0 F0 PA hpg KA
  | succ r ih =>
    intro j hj T locs h X e0 N0 Z0 E0 F0 PA hpg KA
    have hj' : j < 256 := by omega
    have nbk := nb i hi b hB
    have Ab := hpg i hi b hB
    show own_Ends p e below s _ _ _ (T.setTop (mkF m 114 #[.val (.ref oo), .val (.int (Int32.ofNat H)), .val (.ref ka), .val (.int (Int32.ofNat (own_us cnt (256 * i + j)).length)), .val (.int (Int32.ofNat i)), .val (.ref b), .val (.int (Int32.ofNat j)), s7, s8, s9, s10] []))
    refine own_step (fun _ kc_ => XS.iload X.here hx rfl (hb hby d4_114) rfl (XS.sipush X.here hx rfl (hb hby d4_116) (XS.icmpNo X.here hx rfl (hb hby d4_119) rfl (XT.ii_ge_f (own_lt256 hj' : (Int32.ofNat j) < (256 : Int32))) (XS.aload X.here hx rfl (hb hby d4_122) rfl rfl (XS.iload X.here hx rfl (hb hby d4_124) rfl (own_laload X hx hZ e0 Ab (j := (Int32.ofNat j)) (own_nn (by omega)) (i := j) (own_nc (by omega)) (v := (.long (cnt (256 * i + j)))) (own_pg_at cnt i hj') (hb hby d4_126) _ (XS.lconst X.here hx rfl (hb hby d4_127) (XT.lcmp X.here hx rfl (hb hby d4_128) rfl kc_)))))))) ?_
    show own_Ends p e below s _ _ _ (T.setTop (mkF m 129 #[.val (.ref oo), .val (.int (Int32.ofNat H)), .val (.ref ka), .val (.int (Int32.ofNat (own_us cnt (256 * i + j)).length)), .val (.int (Int32.ofNat i)), .val (.ref b), .val (.int (Int32.ofNat j)), s7, s8, s9, s10] [(.int (XT.cmpL (cnt (256 * i + j)) (0 : Int64)))]))
    by_cases hc129 : (0 : Int64) < (cnt (256 * i + j))
    · refine own_step (fun _ kc_ => XS.ifNo X.here hx rfl (hb hby d4_129) rfl (XT.ll_le_f hc129) kc_) ?_
      show own_Ends p e below s _ _ _ (T.setTop (mkF m 132 #[.val (.ref oo), .val (.int (Int32.ofNat H)), .val (.ref ka), .val (.int (Int32.ofNat (own_us cnt (256 * i + j)).length)), .val (.int (Int32.ofNat i)), .val (.ref b), .val (.int (Int32.ofNat j)), s7, s8, s9, s10] []))
      have hlu : (own_us cnt (256 * i + j)).length < H := by rw [← hH]; exact own_us_lt hc129 (by omega)
      refine own_step (fun _ kc_ => XS.aloadN X.here hx rfl (hb hby d4_132) rfl rfl (XS.iloadN X.here hx rfl (hb hby d4_133) rfl (XS.iinc X.here hx rfl (hb hby d4_134) rfl (l' := #[.val (.ref oo), .val (.int (Int32.ofNat H)), .val (.ref ka), .val (.int ((Int32.ofNat (own_us cnt (256 * i + j)).length) + (1 : Int32))), .val (.int (Int32.ofNat i)), .val (.ref b), .val (.int (Int32.ofNat j)), s7, s8, s9, s10]) rfl (XS.aload X.here hx rfl (hb hby d4_137) rfl rfl (XS.iload X.here hx rfl (hb hby d4_139) rfl (own_laload X hx hZ e0 Ab (j := (Int32.ofNat j)) (own_nn (by omega)) (i := j) (own_nc (by omega)) (v := (.long (cnt (256 * i + j)))) (own_pg_at cnt i hj') (hb hby d4_141) _ (XS.lneg X.here hx rfl (hb hby d4_142) rfl (XS.bipush X.here hx rfl (hb hby d4_143) kc_)))))))) ?_
      show own_Ends p e below s _ _ _ (T.setTop (mkF m 145 #[.val (.ref oo), .val (.int (Int32.ofNat H)), .val (.ref ka), .val (.int ((Int32.ofNat (own_us cnt (256 * i + j)).length) + (1 : Int32))), .val (.int (Int32.ofNat i)), .val (.ref b), .val (.int (Int32.ofNat j)), s7, s8, s9, s10] [(.int (16 : Int32)), (.long (-(cnt (256 * i + j)))), (.int (Int32.ofNat (own_us cnt (256 * i + j)).length)), (.ref ka)]))
      refine own_step (fun _ kc_ => XS.lshl X.here hx rfl (hb hby d4_145) rfl (XS.iload X.here hx rfl (hb hby d4_146) rfl (XS.sipush X.here hx rfl (hb hby d4_148) (XS.imul X.here hx rfl (hb hby d4_151) rfl (XS.iload X.here hx rfl (hb hby d4_152) rfl (XS.iadd X.here hx rfl (hb hby d4_154) rfl kc_)))))) ?_
      show own_Ends p e below s _ _ _ (T.setTop (mkF m 155 #[.val (.ref oo), .val (.int (Int32.ofNat H)), .val (.ref ka), .val (.int ((Int32.ofNat (own_us cnt (256 * i + j)).length) + (1 : Int32))), .val (.int (Int32.ofNat i)), .val (.ref b), .val (.int (Int32.ofNat j)), s7, s8, s9, s10] [(.int (((Int32.ofNat i) * (256 : Int32)) + (Int32.ofNat j))), (.long ((-(cnt (256 * i + j))) <<< ((16 : Int32) &&& 0x3f).toInt64)), (.int (Int32.ofNat (own_us cnt (256 * i + j)).length)), (.ref ka)]))
      rw [own_mul hi hj']
      show own_Ends p e below s _ _ _ (T.setTop (mkF m 155 #[.val (.ref oo), .val (.int (Int32.ofNat H)), .val (.ref ka), .val (.int ((Int32.ofNat (own_us cnt (256 * i + j)).length) + (1 : Int32))), .val (.int (Int32.ofNat i)), .val (.ref b), .val (.int (Int32.ofNat j)), s7, s8, s9, s10] [(.int (Int32.ofNat (256 * i + j))), (.long ((-(cnt (256 * i + j))) <<< ((16 : Int32) &&& 0x3f).toInt64)), (.int (Int32.ofNat (own_us cnt (256 * i + j)).length)), (.ref ka)]))
      refine own_step (fun _ kc_ => XS.i2l X.here hx rfl (hb hby d4_155) rfl (XS.lor X.here hx rfl (hb hby d4_156) rfl kc_)) ?_
      show own_Ends p e below s _ _ _ (T.setTop (mkF m 157 #[.val (.ref oo), .val (.int (Int32.ofNat H)), .val (.ref ka), .val (.int ((Int32.ofNat (own_us cnt (256 * i + j)).length) + (1 : Int32))), .val (.int (Int32.ofNat i)), .val (.ref b), .val (.int (Int32.ofNat j)), s7, s8, s9, s10] [(.long (((-(cnt (256 * i + j))) <<< ((16 : Int32) &&& 0x3f).toInt64) ||| ((Int32.ofNat (256 * i + j)).toInt64))), (.int (Int32.ofNat (own_us cnt (256 * i + j)).length)), (.ref ka)]))
      obtain ⟨T22, h22, X22, e22, W22, A22, st22⟩ := own_lastore X hx hZ e0 KA (j := (Int32.ofNat (own_us cnt (256 * i + j)).length)) (x := (((-(cnt (256 * i + j))) <<< ((16 : Int32) &&& 0x3f).toInt64) ||| ((Int32.ofNat (256 * i + j)).toInt64))) (own_nn (by omega)) (i := (own_us cnt (256 * i + j)).length) (own_nc (by omega)) (by rw [own_kv_len (by omega)]; exact hlu) (Ls := #[.val (.ref oo), .val (.int (Int32.ofNat H)), .val (.ref ka), .val (.int ((Int32.ofNat (own_us cnt (256 * i + j)).length) + (1 : Int32))), .val (.int (Int32.ofNat i)), .val (.ref b), .val (.int (Int32.ofNat j)), s7, s8, s9, s10]) (st := []) (hb hby d4_157)
      have A_ka_22 : own_Ar Z h22 ka .long (own_kv cnt H (256 * i + j + 1)) := A22.cast (own_kv_T hc129 hlu)
      have E_oo_22 := (E0).wr W22
      have F_oo_pages_22 := (F0).other W22 (Or.inl n1)
      have A_pa_22 := (PA).other W22 n2
      have A_b_22 := (Ab).other W22 nbk.1
      have Zs22 := Nat.le_trans Z0 (Nat.le_of_eq W22.size.symm)
      have N22 := Fr.snoc X22 N0 g0
      refine own_step (fun _ kc_ => st22 _ kc_) ?_
      show own_Ends p e below s _ _ _ (T22.setTop (mkF m 158 #[.val (.ref oo), .val (.int (Int32.ofNat H)), .val (.ref ka), .val (.int ((Int32.ofNat (own_us cnt (256 * i + j)).length) + (1 : Int32))), .val (.int (Int32.ofNat i)), .val (.ref b), .val (.int (Int32.ofNat j)), s7, s8, s9, s10] []))
      refine own_step (fun _ kc_ => XS.iinc X22.here hx rfl (hb hby d4_158) rfl (l' := #[.val (.ref oo), .val (.int (Int32.ofNat H)), .val (.ref ka), .val (.int ((Int32.ofNat (own_us cnt (256 * i + j)).length) + (1 : Int32))), .val (.int (Int32.ofNat i)), .val (.ref b), .val (.int ((Int32.ofNat j) + (1 : Int32))), s7, s8, s9, s10]) rfl (XS.goto X22.here hx rfl (pc0 := 161) (pc' := 114) rfl (hb hby d4_161) (by decide) (by decide) kc_)) ?_
      show own_Ends p e below s _ _ _ (T22.setTop (mkF m 114 #[.val (.ref oo), .val (.int (Int32.ofNat H)), .val (.ref ka), .val (.int ((Int32.ofNat (own_us cnt (256 * i + j)).length) + (1 : Int32))), .val (.int (Int32.ofNat i)), .val (.ref b), .val (.int ((Int32.ofNat j) + (1 : Int32))), s7, s8, s9, s10] []))
      have hpg2 : ∀ i, i < 256 → ∀ b, B i = some b → own_Ar Z h22 b .long (own_pg cnt i) := fun i hi b hb => (hpg i hi b hb).other W22 (nb i hi b hb).1
      rw [own_succ j, own_hT hc129]
      exact ih (j + 1) (by omega) X22 e22 N22 Zs22 E_oo_22 F_oo_pages_22 A_pa_22 hpg2 A_ka_22
    · refine own_step (fun _ kc_ => XS.ifYes X.here hx rfl (pc0 := 129) (pc' := 158) rfl (hb hby d4_129) rfl (XT.ll_le_t hc129) (by decide) (by decide) (XS.iinc X.here hx rfl (hb hby d4_158) rfl (l' := #[.val (.ref oo), .val (.int (Int32.ofNat H)), .val (.ref ka), .val (.int (Int32.ofNat (own_us cnt (256 * i + j)).length)), .val (.int (Int32.ofNat i)), .val (.ref b), .val (.int ((Int32.ofNat j) + (1 : Int32))), s7, s8, s9, s10]) rfl (XS.goto X.here hx rfl (pc0 := 161) (pc' := 114) rfl (hb hby d4_161) (by decide) (by decide) kc_))) ?_
      show own_Ends p e below s _ _ _ (T.setTop (mkF m 114 #[.val (.ref oo), .val (.int (Int32.ofNat H)), .val (.ref ka), .val (.int (Int32.ofNat (own_us cnt (256 * i + j)).length)), .val (.int (Int32.ofNat i)), .val (.ref b), .val (.int ((Int32.ofNat j) + (1 : Int32))), s7, s8, s9, s10] []))
      rw [own_succ j]
      have q := ih (j + 1) (by omega) X e0 N0 Z0 E0 F0 PA hpg (KA.cast (own_kv_F hc129).symm)
      rw [show 256 * i + (j + 1) = (256 * i + j) + 1 from rfl, own_us_F hc129] at q
      exact q
set_option maxRecDepth 65536 in
set_option maxHeartbeats 40000000 in
theorem own_n2 {p : Program} {l : Launch} {e : Env} {s : State} {m : MethodId} {below : List Frame} {meth : Method} {c : Code} {Z : State} {a0 : Array Value} (hw : ∀ d ∈ tables_1, d.before a0 Z = true) (hZ : Z.Warmed39 s.vm) (hx : p.tables.exec = Jvm.exec) (hby : c.code = prog_227_method_3_code) (hlk : meth.locks = false) (hret : meth.sig.returnType = some (.array .char)) (hml : c.maxLocals = 11) (hown : s.vm.findClass "com/example/wakachi/wakachi/UnitCounts" = some m.cls) {args : Array Value} {R : Room} {C S : Nat} {Q : Option Value → Heap → List Loc → Prop} {n0 : Nat} {oo pa : Addr} {cnt : Nat → Int64} {B : Nat → Option Addr} {ka : Addr} {H : Nat} {cells slots : Nat} (hH : (own_us cnt 65536).length = H) (hH2 : H ≤ 2) (g0 : n0 ≤ ka) (n1 : oo ≠ ka) (n2 : pa ≠ ka) (n3 : oo ≠ pa) (nb : ∀ i, i < 256 → ∀ b, B i = some b → b ≠ ka ∧ b ≠ pa ∧ oo ≠ b) {s7 s8 s9 s10 : Slot} (hz : ∀ i, i < 256 → B i = none → ∀ j, j < 256 → cnt (256 * i + j) = 0) (K : ∀ (s5 s6 : Slot) (os5 : own_one s5) (os6 : own_one s6) {T : State} {locs : List Loc} {h : Heap} (X : Stand p l e R s m args below meth c T locs cells slots) (e0 : T.heap = h) (N0 : Fr n0 locs) (Z0 : n0 ≤ h.size) (E0 : Exa Z h oo "com/example/wakachi/wakachi/UnitCounts") (F0 : Fld Z h oo "com/example/wakachi/wakachi/UnitCounts" "pages" "[[J" (.ref pa)) (PA : own_Ar Z h pa (.array .long) (own_pv B)) (hpg : ∀ i, i < 256 → ∀ b, B i = some b → own_Ar Z h b .long (own_pg cnt i)) (KA : own_Ar Z h ka .long (own_kv cnt H (65536))), own_Ends p e below s C S Q (T.setTop (mkF m 170 #[.val (.ref oo), .val (.int (Int32.ofNat H)), .val (.ref ka), .val (.int (Int32.ofNat (own_us cnt (65536)).length)), .val (.int (256 : Int32)), s5, s6, s7, s8, s9, s10] []))) :
    ∀ (r i : Nat) (hi : i + r = 256) (s5 s6 : Slot) (os5 : own_one s5) (os6 : own_one s6) {T : State} {locs : List Loc} {h : Heap} (X : Stand p l e R s m args below meth c T locs cells slots) (e0 : T.heap = h) (N0 : Fr n0 locs) (Z0 : n0 ≤ h.size) (E0 : Exa Z h oo "com/example/wakachi/wakachi/UnitCounts") (F0 : Fld Z h oo "com/example/wakachi/wakachi/UnitCounts" "pages" "[[J" (.ref pa)) (PA : own_Ar Z h pa (.array .long) (own_pv B)) (hpg : ∀ i, i < 256 → ∀ b, B i = some b → own_Ar Z h b .long (own_pg cnt i)) (KA : own_Ar Z h ka .long (own_kv cnt H (256 * i))), own_Ends p e below s C S Q (T.setTop (mkF m 87 #[.val (.ref oo), .val (.int (Int32.ofNat H)), .val (.ref ka), .val (.int (Int32.ofNat (own_us cnt (256 * i)).length)), .val (.int (Int32.ofNat i)), s5, s6, s7, s8, s9, s10] [])) := by
  intro r
  induction r with
  | zero =>
    intro i hi s5 s6 os5 os6 T locs h X e0 N0 Z0 E0 F0 PA hpg KA
    have hi' : i = 256 := by omega
    subst hi'
    show own_Ends p e below s _ _ _ (T.setTop (mkF m 87 #[.val (.ref oo), .val (.int (Int32.ofNat H)), .val (.ref ka), .val (.int (Int32.ofNat (own_us cnt (256 * 256)).length)), .val (.int (Int32.ofNat 256)), s5, s6, s7, s8, s9, s10] []))
    refine own_step (fun _ kc_ => XS.iload X.here hx rfl (hb hby d4_87) rfl (XS.aloadN X.here hx rfl (hb hby d4_89) rfl rfl kc_)) ?_
    show own_Ends p e below s _ _ _ (T.setTop (mkF m 90 #[.val (.ref oo), .val (.int (Int32.ofNat H)), .val (.ref ka), .val (.int (Int32.ofNat (own_us cnt (256 * 256)).length)), .val (.int (Int32.ofNat 256)), s5, s6, s7, s8, s9, s10] [(.ref oo), (.int (Int32.ofNat 256))]))
    obtain ⟨T23, X23, e23, st23⟩ := getF X hx hZ hown (host := "") (Or.inl (hw _ (List.mem_of_getElem? (i := 12) rfl))) Via.refl e0 F0 (g := (mkF m 90 #[.val (.ref oo), .val (.int (Int32.ofNat H)), .val (.ref ka), .val (.int (Int32.ofNat (own_us cnt (256 * 256)).length)), .val (.int (Int32.ofNat 256)), s5, s6, s7, s8, s9, s10] [(.ref oo), (.int (Int32.ofNat 256))])) rfl rfl (hb hby d4_90)
    refine own_step (fun _ kc_ => st23 _ kc_) ?_
    show own_Ends p e below s _ _ _ (T23.setTop (mkF m 93 #[.val (.ref oo), .val (.int (Int32.ofNat H)), .val (.ref ka), .val (.int (Int32.ofNat (own_us cnt (256 * 256)).length)), .val (.int (Int32.ofNat 256)), s5, s6, s7, s8, s9, s10] [(.ref pa), (.int (Int32.ofNat 256))]))
    refine own_step (fun _ kc_ => own_alen X23 hx hZ e23 PA (n := 256) (z := (256 : Int32)) (own_pv_len B) rfl (hb hby d4_93) _ (XS.icmpYes X23.here hx rfl (pc0 := 94) (pc' := 170) rfl (hb hby d4_94) rfl (XT.ii_ge_t (by decide : ¬ ((Int32.ofNat 256) < (256 : Int32)))) (by decide) (by decide) kc_)) ?_
    show own_Ends p e below s _ _ _ (T23.setTop (mkF m 170 #[.val (.ref oo), .val (.int (Int32.ofNat H)), .val (.ref ka), .val (.int (Int32.ofNat (own_us cnt (256 * 256)).length)), .val (.int (Int32.ofNat 256)), s5, s6, s7, s8, s9, s10] []))
    exact K s5 s6 os5 os6 X23 e23 N0 Z0 E0 F0 PA hpg KA
  | succ r ih =>
    intro i hi s5 s6 os5 os6 T locs h X e0 N0 Z0 E0 F0 PA hpg KA
    have hi' : i < 256 := by omega
    cases hB : B i with
    | none =>
      show own_Ends p e below s _ _ _ (T.setTop (mkF m 87 #[.val (.ref oo), .val (.int (Int32.ofNat H)), .val (.ref ka), .val (.int (Int32.ofNat (own_us cnt (256 * i)).length)), .val (.int (Int32.ofNat i)), s5, s6, s7, s8, s9, s10] []))
      refine own_step (fun _ kc_ => XS.iload X.here hx rfl (hb hby d4_87) rfl (XS.aloadN X.here hx rfl (hb hby d4_89) rfl rfl kc_)) ?_
      show own_Ends p e below s _ _ _ (T.setTop (mkF m 90 #[.val (.ref oo), .val (.int (Int32.ofNat H)), .val (.ref ka), .val (.int (Int32.ofNat (own_us cnt (256 * i)).length)), .val (.int (Int32.ofNat i)), s5, s6, s7, s8, s9, s10] [(.ref oo), (.int (Int32.ofNat i))]))
      obtain ⟨T24, X24, e24, st24⟩ := getF X hx hZ hown (host := "") (Or.inl (hw _ (List.mem_of_getElem? (i := 12) rfl))) Via.refl e0 F0 (g := (mkF m 90 #[.val (.ref oo), .val (.int (Int32.ofNat H)), .val (.ref ka), .val (.int (Int32.ofNat (own_us cnt (256 * i)).length)), .val (.int (Int32.ofNat i)), s5, s6, s7, s8, s9, s10] [(.ref oo), (.int (Int32.ofNat i))])) rfl rfl (hb hby d4_90)
      refine own_step (fun _ kc_ => st24 _ kc_) ?_
      show own_Ends p e below s _ _ _ (T24.setTop (mkF m 93 #[.val (.ref oo), .val (.int (Int32.ofNat H)), .val (.ref ka), .val (.int (Int32.ofNat (own_us cnt (256 * i)).length)), .val (.int (Int32.ofNat i)), s5, s6, s7, s8, s9, s10] [(.ref pa), (.int (Int32.ofNat i))]))
      refine own_step (fun _ kc_ => own_alen X24 hx hZ e24 PA (n := 256) (z := (256 : Int32)) (own_pv_len B) rfl (hb hby d4_93) _ (XS.icmpNo X24.here hx rfl (hb hby d4_94) rfl (XT.ii_ge_f (own_lt256 hi' : (Int32.ofNat i) < (256 : Int32))) (XS.aloadN X24.here hx rfl (hb hby d4_97) rfl rfl kc_))) ?_
      show own_Ends p e below s _ _ _ (T24.setTop (mkF m 98 #[.val (.ref oo), .val (.int (Int32.ofNat H)), .val (.ref ka), .val (.int (Int32.ofNat (own_us cnt (256 * i)).length)), .val (.int (Int32.ofNat i)), s5, s6, s7, s8, s9, s10] [(.ref oo)]))
      obtain ⟨T25, X25, e25, st25⟩ := getF X24 hx hZ hown (host := "") (Or.inl (hw _ (List.mem_of_getElem? (i := 12) rfl))) Via.refl e24 F0 (g := (mkF m 98 #[.val (.ref oo), .val (.int (Int32.ofNat H)), .val (.ref ka), .val (.int (Int32.ofNat (own_us cnt (256 * i)).length)), .val (.int (Int32.ofNat i)), s5, s6, s7, s8, s9, s10] [(.ref oo)])) rfl rfl (hb hby d4_98)
      refine own_step (fun _ kc_ => st25 _ kc_) ?_
      show own_Ends p e below s _ _ _ (T25.setTop (mkF m 101 #[.val (.ref oo), .val (.int (Int32.ofNat H)), .val (.ref ka), .val (.int (Int32.ofNat (own_us cnt (256 * i)).length)), .val (.int (Int32.ofNat i)), s5, s6, s7, s8, s9, s10] [(.ref pa)]))
      refine own_step (fun _ kc_ => XS.iload X25.here hx rfl (hb hby d4_101) rfl (own_aaload X25 hx hZ e25 PA rfl (j := (Int32.ofNat i)) (own_nn (by omega)) (i := i) (own_nc (by omega)) (v := .null) (by rw [own_pv_at B hi', hB]) (hb hby d4_103) _ (XS.astoreS X25.here hx rfl (hb hby d4_104) rfl rfl rfl rfl os5 (XS.aload X25.here hx rfl (hb hby d4_106) rfl rfl (XS.ifnullYes X25.here hx rfl (pc0 := 108) (pc' := 164) rfl (hb hby d4_108) rfl (by decide) (by decide) (XS.iinc X25.here hx rfl (hb hby d4_164) rfl (l' := #[.val (.ref oo), .val (.int (Int32.ofNat H)), .val (.ref ka), .val (.int (Int32.ofNat (own_us cnt (256 * i)).length)), .val (.int ((Int32.ofNat i) + (1 : Int32))), .val .null, s6, s7, s8, s9, s10]) rfl (XS.goto X25.here hx rfl (pc0 := 167) (pc' := 87) rfl (hb hby d4_167) (by decide) (by decide) kc_))))))) ?_
      show own_Ends p e below s _ _ _ (T25.setTop (mkF m 87 #[.val (.ref oo), .val (.int (Int32.ofNat H)), .val (.ref ka), .val (.int (Int32.ofNat (own_us cnt (256 * i)).length)), .val (.int ((Int32.ofNat i) + (1 : Int32))), .val .null, s6, s7, s8, s9, s10] []))
      rw [own_succ i]
      have q := ih (i + 1) (by omega) (.val .null) s6 (own_oneV rfl) os6 X25 e25 N0 Z0 E0 F0 PA hpg (KA.cast (own_kv_page (hz i hi' hB)).symm)
      rw [own_us_page (hz i hi' hB)] at q
      exact q
    | some b =>
      show own_Ends p e below s _ _ _ (T.setTop (mkF m 87 #[.val (.ref oo), .val (.int (Int32.ofNat H)), .val (.ref ka), .val (.int (Int32.ofNat (own_us cnt (256 * i)).length)), .val (.int (Int32.ofNat i)), s5, s6, s7, s8, s9, s10] []))
      refine own_step (fun _ kc_ => XS.iload X.here hx rfl (hb hby d4_87) rfl (XS.aloadN X.here hx rfl (hb hby d4_89) rfl rfl kc_)) ?_
      show own_Ends p e below s _ _ _ (T.setTop (mkF m 90 #[.val (.ref oo), .val (.int (Int32.ofNat H)), .val (.ref ka), .val (.int (Int32.ofNat (own_us cnt (256 * i)).length)), .val (.int (Int32.ofNat i)), s5, s6, s7, s8, s9, s10] [(.ref oo), (.int (Int32.ofNat i))]))
      obtain ⟨T26, X26, e26, st26⟩ := getF X hx hZ hown (host := "") (Or.inl (hw _ (List.mem_of_getElem? (i := 12) rfl))) Via.refl e0 F0 (g := (mkF m 90 #[.val (.ref oo), .val (.int (Int32.ofNat H)), .val (.ref ka), .val (.int (Int32.ofNat (own_us cnt (256 * i)).length)), .val (.int (Int32.ofNat i)), s5, s6, s7, s8, s9, s10] [(.ref oo), (.int (Int32.ofNat i))])) rfl rfl (hb hby d4_90)
      refine own_step (fun _ kc_ => st26 _ kc_) ?_
      show own_Ends p e below s _ _ _ (T26.setTop (mkF m 93 #[.val (.ref oo), .val (.int (Int32.ofNat H)), .val (.ref ka), .val (.int (Int32.ofNat (own_us cnt (256 * i)).length)), .val (.int (Int32.ofNat i)), s5, s6, s7, s8, s9, s10] [(.ref pa), (.int (Int32.ofNat i))]))
      refine own_step (fun _ kc_ => own_alen X26 hx hZ e26 PA (n := 256) (z := (256 : Int32)) (own_pv_len B) rfl (hb hby d4_93) _ (XS.icmpNo X26.here hx rfl (hb hby d4_94) rfl (XT.ii_ge_f (own_lt256 hi' : (Int32.ofNat i) < (256 : Int32))) (XS.aloadN X26.here hx rfl (hb hby d4_97) rfl rfl kc_))) ?_
      show own_Ends p e below s _ _ _ (T26.setTop (mkF m 98 #[.val (.ref oo), .val (.int (Int32.ofNat H)), .val (.ref ka), .val (.int (Int32.ofNat (own_us cnt (256 * i)).length)), .val (.int (Int32.ofNat i)), s5, s6, s7, s8, s9, s10] [(.ref oo)]))
      obtain ⟨T27, X27, e27, st27⟩ := getF X26 hx hZ hown (host := "") (Or.inl (hw _ (List.mem_of_getElem? (i := 12) rfl))) Via.refl e26 F0 (g := (mkF m 98 #[.val (.ref oo), .val (.int (Int32.ofNat H)), .val (.ref ka), .val (.int (Int32.ofNat (own_us cnt (256 * i)).length)), .val (.int (Int32.ofNat i)), s5, s6, s7, s8, s9, s10] [(.ref oo)])) rfl rfl (hb hby d4_98)
      refine own_step (fun _ kc_ => st27 _ kc_) ?_
      show own_Ends p e below s _ _ _ (T27.setTop (mkF m 101 #[.val (.ref oo), .val (.int (Int32.ofNat H)), .val (.ref ka), .val (.int (Int32.ofNat (own_us cnt (256 * i)).length)), .val (.int (Int32.ofNat i)), s5, s6, s7, s8, s9, s10] [(.ref pa)]))
      refine own_step (fun _ kc_ => XS.iload X27.here hx rfl (hb hby d4_101) rfl (own_aaload X27 hx hZ e27 PA rfl (j := (Int32.ofNat i)) (own_nn (by omega)) (i := i) (own_nc (by omega)) (v := (.ref b)) (by rw [own_pv_at B hi', hB]) (hb hby d4_103) _ (XS.astoreS X27.here hx rfl (hb hby d4_104) rfl rfl rfl rfl os5 (XS.aload X27.here hx rfl (hb hby d4_106) rfl rfl (XS.ifnullNo X27.here hx rfl (hb hby d4_108) rfl (XS.iconst X27.here hx rfl (hb hby d4_111) (XS.istoreS X27.here hx rfl (hb hby d4_112) rfl rfl os6 kc_))))))) ?_
      show own_Ends p e below s _ _ _ (T27.setTop (mkF m 114 #[.val (.ref oo), .val (.int (Int32.ofNat H)), .val (.ref ka), .val (.int (Int32.ofNat (own_us cnt (256 * i)).length)), .val (.int (Int32.ofNat i)), .val (.ref b), .val (.int (0 : Int32)), s7, s8, s9, s10] []))
      refine own_n2in hw hZ hx hby hlk hret hml hown hH hH2 g0 n1 n2 n3 nb hi' hB ?_ 256 0 rfl X27 e27 N0 Z0 E0 F0 PA hpg KA
      intro T locs h X e0 N0 Z0 E0 F0 PA hpg KA
      show own_Ends p e below s _ _ _ (T.setTop (mkF m 164 #[.val (.ref oo), .val (.int (Int32.ofNat H)), .val (.ref ka), .val (.int (Int32.ofNat (own_us cnt (256 * i + 256)).length)), .val (.int (Int32.ofNat i)), .val (.ref b), .val (.int (256 : Int32)), s7, s8, s9, s10] []))
      refine own_step (fun _ kc_ => XS.iinc X.here hx rfl (hb hby d4_164) rfl (l' := #[.val (.ref oo), .val (.int (Int32.ofNat H)), .val (.ref ka), .val (.int (Int32.ofNat (own_us cnt (256 * i + 256)).length)), .val (.int ((Int32.ofNat i) + (1 : Int32))), .val (.ref b), .val (.int (256 : Int32)), s7, s8, s9, s10]) rfl (XS.goto X.here hx rfl (pc0 := 167) (pc' := 87) rfl (hb hby d4_167) (by decide) (by decide) kc_)) ?_
      show own_Ends p e below s _ _ _ (T.setTop (mkF m 87 #[.val (.ref oo), .val (.int (Int32.ofNat H)), .val (.ref ka), .val (.int (Int32.ofNat (own_us cnt (256 * i + 256)).length)), .val (.int ((Int32.ofNat i) + (1 : Int32))), .val (.ref b), .val (.int (256 : Int32)), s7, s8, s9, s10] []))
      rw [own_succ i]
      exact ih (i + 1) (by omega) _ _ (own_oneV rfl) (own_oneV rfl) X e0 N0 Z0 E0 F0 PA hpg KA
theorem ef_rmB1a (m : MethodId) (oo : Addr)  : entryFrame m #[(.ref oo)] 11 = mkF m 0 #[.val (.ref oo), .unset, .unset, .unset, .unset, .unset, .unset, .unset, .unset, .unset, .unset] [] := by first | (simp [entryFrame, mkF, argsToLocals, Value.category]; done) | rfl
def QB1a (Z : State) (oo : Addr) (pa : Addr) (B : Nat → Option Addr) (cnt : Nat → Int64) (u0 : Nat) (h0 : Heap) (n0 : Nat) (v : Option Value) (h : Heap) (L : List Loc) : Prop := Fr n0 L ∧ ∃ ra, v = some (.ref ra) ∧ own_Ar Z h ra .char [(.int (Int32.ofNat u0))]
set_option maxRecDepth 65536 in
set_option maxHeartbeats 40000000 in
theorem rmB1a (l : Launch) (Z : State) (a0 : Array Value) (hw : ∀ d ∈ tables_1, d.before a0 Z = true) (ws : List Jvm.Cond) (oo : Addr) (pa : Addr) (B : Nat → Option Addr) (cnt : Nat → Int64) (u0 : Nat) (h0 : Heap) (n0 : Nat) (Z0 : n0 ≤ h0.size) (hu : own_us cnt 65536 = [u0]) (E0 : Exa Z h0 oo "com/example/wakachi/wakachi/UnitCounts") (F0 : Fld Z h0 oo "com/example/wakachi/wakachi/UnitCounts" "pages" "[[J" (.ref pa)) (U : own_UC Z h0 n0 pa B cnt) :
    MetFree l (⟨"com/example/wakachi/wakachi/UnitCounts", "byFrequency", "()[C"⟩ : MethodName) (head1 (Jvm.Cond.code (⟨"com/example/wakachi/wakachi/UnitCounts", "byFrequency", "()[C"⟩ : MethodName) prog_227_method_3_code 11 (some (.array .char)) :: ws) ({ frames := 4, cells := 2, slots := 2, locals := 84 } : Room)) (fun a U => a = #[(.ref oo)] ∧ Z.Warmed39 U.vm ∧ U.heap = h0) (fun _ _ _ _ _ => True) (fun _ U o U' => ∃ v L, o = .returned v ∧ QB1a Z oo pa B cnt u0 h0 n0 v U'.heap L ∧ FrameEnd U o U' L ({ frames := 4, cells := 2, slots := 2, locals := 84 } : Room).cells ({ frames := 4, cells := 2, slots := 2, locals := 84 } : Room).slots) := by
  refine MetFree.of_bodySF (plainFor_of_name pn_0) hisR ?_
  intro p e s m args below meth c s₁ Bd hml0 hP hK
  obtain ⟨rfl, hZ, hh⟩ := hP
  have hx := Bd.exec
  have hby := Bd.bytes
  have hlk : meth.locks = false := BodyLoose.notSynchronized Bd
  have hret := Bd.returns
  have hml : c.maxLocals = 11 := hml0
  have hown : s.vm.findClass "com/example/wakachi/wakachi/UnitCounts" = some m.cls := findClass_of_methodNamed Bd.named
  have hnm := (name_of_methodNamed Bd.named Bd.method).1
  have X0 : Stand p l e ({ frames := 4, cells := 2, slots := 2, locals := 84 } : Room) s m #[(.ref oo)] below meth c s₁ [] 0 0 := Stand.of_body Bd
  have e0 : s₁.heap = h0 := by rw [← hh, Bd.state]; rfl
  have N0 := Fr.nil n0
  show own_Ends p e below s 2 2 (QB1a Z oo pa B cnt u0 h0 n0) (s₁.setTop (entryFrame m #[(.ref oo)] 11))
  refine own_step (fun t k => castTop (ef_rmB1a m oo ) k) ?_
  show own_Ends p e below s _ _ _ (s₁.setTop (mkF m 0 #[.val (.ref oo), .unset, .unset, .unset, .unset, .unset, .unset, .unset, .unset, .unset, .unset] []))
  have u3 := U.2.2.1
  have np : oo ≠ pa := u3.ne E0 (hw _ (List.mem_of_getElem? (i := 2) rfl))
  have hpg : ∀ i, i < 256 → ∀ b, B i = some b → own_Ar Z h0 b .long (own_pg cnt i) := fun i hi b hb => (U.2.2.2.2.1 i hi b hb).2.2
  have hu0 : u0 < 65536 := own_us_mem (cnt := cnt) (by rw [hu]; simp)
  refine own_step (fun _ kc_ => XS.iconst X0.here hx rfl (hb hby d4_0) (XS.istoreN X0.here hx rfl (hb hby d4_1) rfl (l' := #[.val (.ref oo), .val (.int (0 : Int32)), .unset, .unset, .unset, .unset, .unset, .unset, .unset, .unset, .unset]) rfl (XS.aloadN X0.here hx rfl (hb hby d4_2) rfl rfl kc_))) ?_
  show own_Ends p e below s _ _ _ (s₁.setTop (mkF m 3 #[.val (.ref oo), .val (.int (0 : Int32)), .unset, .unset, .unset, .unset, .unset, .unset, .unset, .unset, .unset] [(.ref oo)]))
  obtain ⟨T28, X28, e28, st28⟩ := getF X0 hx hZ hown (host := "") (Or.inl (hw _ (List.mem_of_getElem? (i := 12) rfl))) Via.refl e0 F0 (g := (mkF m 3 #[.val (.ref oo), .val (.int (0 : Int32)), .unset, .unset, .unset, .unset, .unset, .unset, .unset, .unset, .unset] [(.ref oo)])) rfl rfl (hb hby d4_3)
  refine own_step (fun _ kc_ => st28 _ kc_) ?_
  show own_Ends p e below s _ _ _ (T28.setTop (mkF m 6 #[.val (.ref oo), .val (.int (0 : Int32)), .unset, .unset, .unset, .unset, .unset, .unset, .unset, .unset, .unset] [(.ref pa)]))
  refine own_step (fun _ kc_ => XS.astoreN X28.here hx rfl (hb hby d4_6) rfl rfl (l' := #[.val (.ref oo), .val (.int (0 : Int32)), .val (.ref pa), .unset, .unset, .unset, .unset, .unset, .unset, .unset, .unset]) rfl (XS.aloadN X28.here hx rfl (hb hby d4_7) rfl rfl (own_alen X28 hx hZ e28 u3 (n := 256) (z := (256 : Int32)) (own_pv_len B) rfl (hb hby d4_8) _ (XS.istoreN X28.here hx rfl (hb hby d4_9) rfl (l' := #[.val (.ref oo), .val (.int (0 : Int32)), .val (.ref pa), .val (.int (256 : Int32)), .unset, .unset, .unset, .unset, .unset, .unset, .unset]) rfl (XS.iconst X28.here hx rfl (hb hby d4_10) (XS.istore X28.here hx rfl (hb hby d4_11) rfl (l' := #[.val (.ref oo), .val (.int (0 : Int32)), .val (.ref pa), .val (.int (256 : Int32)), .val (.int (0 : Int32)), .unset, .unset, .unset, .unset, .unset, .unset]) rfl kc_)))))) ?_
  show own_Ends p e below s _ _ _ (T28.setTop (mkF m 13 #[.val (.ref oo), .val (.int (0 : Int32)), .val (.ref pa), .val (.int (256 : Int32)), .val (.int (0 : Int32)), .unset, .unset, .unset, .unset, .unset, .unset] []))
  refine own_n1 (n0 := 0) hw hZ hx hby hlk hret hml hown X28 e28 u3 U.2.2.2.1 hpg ?_ 256 0 rfl _ _ _ _ _ _ (Or.inl rfl) (Or.inl rfl) (Or.inl rfl) (Or.inl rfl) (Or.inl ⟨rfl, rfl⟩)
  intro s5 s6 s7 s8 s9 s10 os5 os6 os7 os8 hp
  rw [hu]
  show own_Ends p e below s _ _ _ (T28.setTop (mkF m 78 #[.val (.ref oo), .val (.int (1 : Int32)), .val (.ref pa), .val (.int (256 : Int32)), .val (.int (256 : Int32)), s5, s6, s7, s8, s9, s10] []))
  refine own_step (fun _ kc_ => XS.iloadN X28.here hx rfl (hb hby d4_78) rfl kc_) ?_
  show own_Ends p e below s _ _ _ (T28.setTop (mkF m 79 #[.val (.ref oo), .val (.int (1 : Int32)), .val (.ref pa), .val (.int (256 : Int32)), .val (.int (256 : Int32)), s5, s6, s7, s8, s9, s10] [(.int (1 : Int32))]))
  obtain ⟨T29, h29, k29, X29, e29, E29, A29, st29⟩ := newP X28 hx hZ (hw _ (List.mem_of_getElem? (i := 19) rfl)) e28 (g := (mkF m 79 #[.val (.ref oo), .val (.int (1 : Int32)), .val (.ref pa), .val (.int (256 : Int32)), .val (.int (256 : Int32)), s5, s6, s7, s8, s9, s10] [(.int (1 : Int32))])) rfl (hb hby d4_79) rfl (by decide) (cap := 1) (by decide) (by decide) (by decide : 0 + 1 ≤ _) (by decide : 0 + 1 ≤ _)
  obtain ⟨b29, g29⟩ : ∃ z, z = h0.size := ⟨_, rfl⟩
  rw [← g29] at A29 st29
  have ne_oo_b29 : oo ≠ b29 := Nat.ne_of_lt (Nat.lt_of_lt_of_le (E0).lt (Nat.le_of_eq g29.symm))
  have ne_pa_b29 : pa ≠ b29 := Nat.ne_of_lt (Nat.lt_of_lt_of_le (u3).lt (Nat.le_of_eq g29.symm))
  have n0_b29 : n0 ≤ b29 := Nat.le_trans Z0 (Nat.le_of_eq g29.symm)
  have E_oo_29 := (E0).ext E29
  have F_oo_pages_29 := (F0).ext E29
  have A_pa_29 := (u3).ext E29
  have Zs29 := Nat.le_trans Z0 E29.1
  have A_b29 : own_Ar Z h29 b29 .long [(.long (0 : Int64))] := own_Ar.new A29 (by decide)
  refine own_step (fun _ kc_ => st29 _ kc_) ?_
  show own_Ends p e below s _ _ _ (T29.setTop (mkF m 81 #[.val (.ref oo), .val (.int (1 : Int32)), .val (.ref pa), .val (.int (256 : Int32)), .val (.int (256 : Int32)), s5, s6, s7, s8, s9, s10] [(.ref b29)]))
  have hpgk : ∀ i, i < 256 → ∀ b, B i = some b → own_Ar Z h29 b .long (own_pg cnt i) := fun i hi b hb => (hpg i hi b hb).ext E29
  have nb : ∀ i, i < 256 → ∀ b, B i = some b → b ≠ b29 ∧ b ≠ pa ∧ oo ≠ b := fun i hi b hb => ⟨Nat.ne_of_lt (Nat.lt_of_lt_of_le (hpg i hi b hb).lt (Nat.le_of_eq g29.symm)), (U.2.2.2.2.1 i hi b hb).2.1, (hpg i hi b hb).ne E0 (hw _ (List.mem_of_getElem? (i := 2) rfl))⟩
  refine own_step (fun _ kc_ => XS.astoreN X29.here hx rfl (hb hby d4_81) rfl rfl (l' := #[.val (.ref oo), .val (.int (1 : Int32)), .val (.ref b29), .val (.int (256 : Int32)), .val (.int (256 : Int32)), s5, s6, s7, s8, s9, s10]) rfl (XS.iconst X29.here hx rfl (hb hby d4_82) (XS.istoreN X29.here hx rfl (hb hby d4_83) rfl (l' := #[.val (.ref oo), .val (.int (1 : Int32)), .val (.ref b29), .val (.int (0 : Int32)), .val (.int (256 : Int32)), s5, s6, s7, s8, s9, s10]) rfl (XS.iconst X29.here hx rfl (hb hby d4_84) (XS.istore X29.here hx rfl (hb hby d4_85) rfl (l' := #[.val (.ref oo), .val (.int (1 : Int32)), .val (.ref b29), .val (.int (0 : Int32)), .val (.int (0 : Int32)), s5, s6, s7, s8, s9, s10]) rfl kc_))))) ?_
  show own_Ends p e below s _ _ _ (T29.setTop (mkF m 87 #[.val (.ref oo), .val (.int (1 : Int32)), .val (.ref b29), .val (.int (0 : Int32)), .val (.int (0 : Int32)), s5, s6, s7, s8, s9, s10] []))
  refine own_n2 (cnt := cnt) (B := B) (ka := b29) (H := 1) hw hZ hx hby hlk hret hml hown (by rw [hu]; rfl) (by decide) n0_b29 ne_oo_b29 ne_pa_b29 np nb U.2.2.2.1 ?_ 256 0 rfl _ _ os5 os6 X29 e29 N0 Zs29 E_oo_29 F_oo_pages_29 A_pa_29 hpgk A_b29
  intro s5 s6 os5 os6 T locs h X e0 N0 Z0 E0 F0 PA hpg KA
  have KB : own_Ar Z h b29 .long [(.long (own_key cnt u0))] := KA.cast (by rw [own_kv, hu]; rfl)
  show own_Ends p e below s _ _ _ (T.setTop (mkF m 170 #[.val (.ref oo), .val (.int (1 : Int32)), .val (.ref b29), .val (.int (Int32.ofNat (own_us cnt (65536)).length)), .val (.int (256 : Int32)), s5, s6, s7, s8, s9, s10] []))
  refine own_step (fun _ kc_ => XS.aloadN X.here hx rfl (hb hby d4_170) rfl rfl kc_) ?_
  show own_Ends p e below s _ _ _ (T.setTop (mkF m 171 #[.val (.ref oo), .val (.int (1 : Int32)), .val (.ref b29), .val (.int (Int32.ofNat (own_us cnt (65536)).length)), .val (.int (256 : Int32)), s5, s6, s7, s8, s9, s10] [(.ref b29)]))
  obtain ⟨_, _, ⟨T30, L30, k30, n30⟩, -, X30, ⟨Lc30, hQ30, l30, y30, z30⟩, st30⟩ := Jvm.LawKit.callS X hx (y := (⟨"java/util/Arrays", "sort", "([J)V"⟩ : MethodName)) hown (mvT hZ (hw _ (List.mem_of_getElem? (i := 26) rfl))) (mvT hZ (hw _ (List.mem_of_getElem? (i := 27) rfl))) (mvT hZ (hw _ (List.mem_of_getElem? (i := 28) rfl))) (mvT hZ (hw _ (List.mem_of_getElem? (i := 29) rfl))) (by decide) (backOf (W := 0) (rmS1a l Z a0 hw [] b29 (own_key cnt u0) h n0 Z0 KB n0_b29) hZ (hw _ (List.mem_of_getElem? (i := 29) rfl)) (hw _ (List.mem_of_getElem? (i := 28) rfl)) (by decide) (by decide)) (g := (mkF m 171 #[.val (.ref oo), .val (.int (1 : Int32)), .val (.ref b29), .val (.int (Int32.ofNat (own_us cnt (65536)).length)), .val (.int (256 : Int32)), s5, s6, s7, s8, s9, s10] [(.ref b29)])) rfl (by rw [hml]; rfl) (argsL := [(.ref b29)]) (rest := []) (lenOf pd_1 rfl) rfl (by show 2 * 0 + _ ≤ _; exact Nat.le_of_eq rfl) (hb hby d4_171) (fun _ _ => ⟨rfl, e0, (by decide : 1 + 0 ≤ _), (by decide : 1 + 0 ≤ _)⟩)
  dsimp only [Pt.U, Pt.locs, Pt.cells, Pt.slots] at X30 l30 y30 z30 st30 hQ30
  subst y30 z30
  obtain ⟨rfl, N30q, K30k, A30k⟩ := hQ30
  have Zs30 := Nat.le_trans Z0 K30k.1
  have N30 : Fr n0 L30 := by rw [l30]; exact Fr.app N0 N30q
  refine own_step (fun _ kc_ => st30 _ kc_) ?_
  show own_Ends p e below s _ _ _ (T30.setTop (mkF m 174 #[.val (.ref oo), .val (.int (1 : Int32)), .val (.ref b29), .val (.int (Int32.ofNat (own_us cnt (65536)).length)), .val (.int (256 : Int32)), s5, s6, s7, s8, s9, s10] []))
  refine own_step (fun _ kc_ => XS.iloadN X30.here hx rfl (hb hby d4_174) rfl kc_) ?_
  show own_Ends p e below s _ _ _ (T30.setTop (mkF m 175 #[.val (.ref oo), .val (.int (1 : Int32)), .val (.ref b29), .val (.int (Int32.ofNat (own_us cnt (65536)).length)), .val (.int (256 : Int32)), s5, s6, s7, s8, s9, s10] [(.int (1 : Int32))]))
  obtain ⟨T31, h31, k31, X31, e31, E31, A31, st31⟩ := newP X30 hx hZ (hw _ (List.mem_of_getElem? (i := 40) rfl)) rfl (g := (mkF m 175 #[.val (.ref oo), .val (.int (1 : Int32)), .val (.ref b29), .val (.int (Int32.ofNat (own_us cnt (65536)).length)), .val (.int (256 : Int32)), s5, s6, s7, s8, s9, s10] [(.int (1 : Int32))])) rfl (hb hby d4_175) rfl (by decide) (cap := 1) (by decide) (by decide) (by decide : 1 + 1 ≤ _) (by decide : 1 + 1 ≤ _)
  obtain ⟨b31, g31⟩ : ∃ z, z = T30.heap.size := ⟨_, rfl⟩
  rw [← g31] at A31 st31
  have ne_b29_b31 : b29 ≠ b31 := Nat.ne_of_lt (Nat.lt_of_lt_of_le (A30k).lt (Nat.le_of_eq g31.symm))
  have n0_b31 : n0 ≤ b31 := Nat.le_trans Zs30 (Nat.le_of_eq g31.symm)
  have A_b29_31 := (A30k).ext E31
  have Zs31 := Nat.le_trans Zs30 E31.1
  have A_b31 : own_Ar Z h31 b31 .char [(.int (0 : Int32))] := own_Ar.new A31 (by decide)
  refine own_step (fun _ kc_ => st31 _ kc_) ?_
  show own_Ends p e below s _ _ _ (T31.setTop (mkF m 177 #[.val (.ref oo), .val (.int (1 : Int32)), .val (.ref b29), .val (.int (Int32.ofNat (own_us cnt (65536)).length)), .val (.int (256 : Int32)), s5, s6, s7, s8, s9, s10] [(.ref b31)]))
  refine own_step (fun _ kc_ => XS.astore X31.here hx rfl (hb hby d4_177) rfl rfl (l' := #[.val (.ref oo), .val (.int (1 : Int32)), .val (.ref b29), .val (.int (Int32.ofNat (own_us cnt (65536)).length)), .val (.ref b31), s5, s6, s7, s8, s9, s10]) rfl (XS.iconst X31.here hx rfl (hb hby d4_179) (XS.istoreS X31.here hx rfl (hb hby d4_180) rfl rfl os5 (XS.iload X31.here hx rfl (hb hby d4_182) rfl (XS.iloadN X31.here hx rfl (hb hby d4_184) rfl (XS.icmpNo X31.here hx rfl (hb hby d4_185) rfl (XT.ii_ge_f (by decide : (0 : Int32) < (1 : Int32))) (XS.aload X31.here hx rfl (hb hby d4_188) rfl rfl (XS.iload X31.here hx rfl (hb hby d4_190) rfl kc_)))))))) ?_
  show own_Ends p e below s _ _ _ (T31.setTop (mkF m 192 #[.val (.ref oo), .val (.int (1 : Int32)), .val (.ref b29), .val (.int (Int32.ofNat (own_us cnt (65536)).length)), .val (.ref b31), .val (.int (0 : Int32)), s6, s7, s8, s9, s10] [(.int (0 : Int32)), (.ref b31)]))
  refine own_step (fun _ kc_ => XS.aloadN X31.here hx rfl (hb hby d4_192) rfl rfl (XS.iload X31.here hx rfl (hb hby d4_193) rfl (own_laload X31 hx hZ e31 A_b29_31 (j := (0 : Int32)) (by decide) (i := 0) rfl (v := (.long (own_key cnt u0))) rfl (hb hby d4_195) _ (XS.l2i X31.here hx rfl (hb hby d4_196) rfl (XS.i2c X31.here hx rfl (hb hby d4_197) rfl kc_))))) ?_
  show own_Ends p e below s _ _ _ (T31.setTop (mkF m 198 #[.val (.ref oo), .val (.int (1 : Int32)), .val (.ref b29), .val (.int (Int32.ofNat (own_us cnt (65536)).length)), .val (.ref b31), .val (.int (0 : Int32)), s6, s7, s8, s9, s10] [(.int (((own_key cnt u0).toInt32).toUInt32.toUInt16.toUInt32.toInt32)), (.int (0 : Int32)), (.ref b31)]))
  rw [own_lo hu0]
  show own_Ends p e below s _ _ _ (T31.setTop (mkF m 198 #[.val (.ref oo), .val (.int (1 : Int32)), .val (.ref b29), .val (.int (Int32.ofNat (own_us cnt (65536)).length)), .val (.ref b31), .val (.int (0 : Int32)), s6, s7, s8, s9, s10] [(.int (Int32.ofNat u0)), (.int (0 : Int32)), (.ref b31)]))
  obtain ⟨T32, h32, X32, e32, W32, A32, st32⟩ := own_castore X31 hx hZ e31 A_b31 (j := (0 : Int32)) (x := (Int32.ofNat u0)) (by decide) (i := 0) rfl (Nat.le_of_ble_eq_true rfl) (Ls := #[.val (.ref oo), .val (.int (1 : Int32)), .val (.ref b29), .val (.int (Int32.ofNat (own_us cnt (65536)).length)), .val (.ref b31), .val (.int (0 : Int32)), s6, s7, s8, s9, s10]) (st := []) (hb hby d4_198)
  have A_b31_32 : own_Ar Z h32 b31 .char [(.int (Int32.ofNat u0))] := A32.cast (by rw [show nar .char (Int32.ofNat u0) = Int32.ofNat u0 from own_charN hu0]; rfl)
  have A_b29_32 := (A_b29_31).other W32 ne_b29_b31
  have Zs32 := Nat.le_trans Zs31 (Nat.le_of_eq W32.size.symm)
  have N32 := Fr.snoc X32 N30 n0_b31
  refine own_step (fun _ kc_ => st32 _ kc_) ?_
  show own_Ends p e below s _ _ _ (T32.setTop (mkF m 199 #[.val (.ref oo), .val (.int (1 : Int32)), .val (.ref b29), .val (.int (Int32.ofNat (own_us cnt (65536)).length)), .val (.ref b31), .val (.int (0 : Int32)), s6, s7, s8, s9, s10] []))
  refine own_step (fun _ kc_ => XS.iinc X32.here hx rfl (hb hby d4_199) rfl (l' := #[.val (.ref oo), .val (.int (1 : Int32)), .val (.ref b29), .val (.int (Int32.ofNat (own_us cnt (65536)).length)), .val (.ref b31), .val (.int ((0 : Int32) + (1 : Int32))), s6, s7, s8, s9, s10]) rfl kc_) ?_
  show own_Ends p e below s _ _ _ (T32.setTop (mkF m 202 #[.val (.ref oo), .val (.int (1 : Int32)), .val (.ref b29), .val (.int (Int32.ofNat (own_us cnt (65536)).length)), .val (.ref b31), .val (.int ((0 : Int32) + (1 : Int32))), s6, s7, s8, s9, s10] []))
  rw [show ((0 : Int32) + (1 : Int32)) = (1 : Int32) from by decide]
  show own_Ends p e below s _ _ _ (T32.setTop (mkF m 202 #[.val (.ref oo), .val (.int (1 : Int32)), .val (.ref b29), .val (.int (Int32.ofNat (own_us cnt (65536)).length)), .val (.ref b31), .val (.int (1 : Int32)), s6, s7, s8, s9, s10] []))
  refine own_step (fun _ kc_ => XS.goto X32.here hx rfl (pc0 := 202) (pc' := 182) rfl (hb hby d4_202) (by decide) (by decide) (XS.iload X32.here hx rfl (hb hby d4_182) rfl (XS.iloadN X32.here hx rfl (hb hby d4_184) rfl (XS.icmpYes X32.here hx rfl (pc0 := 185) (pc' := 205) rfl (hb hby d4_185) rfl (XT.ii_ge_t (by decide : ¬ ((1 : Int32) < (1 : Int32)))) (by decide) (by decide) (XS.aload X32.here hx rfl (hb hby d4_205) rfl rfl kc_))))) ?_
  show own_Ends p e below s _ _ _ (T32.setTop (mkF m 207 #[.val (.ref oo), .val (.int (1 : Int32)), .val (.ref b29), .val (.int (Int32.ofNat (own_us cnt (65536)).length)), .val (.ref b31), .val (.int (1 : Int32)), s6, s7, s8, s9, s10] [(.ref b31)]))
  exact own_retR X32 hx hret rfl rfl rfl hlk (hb hby d4_207) (by decide) (by decide) (by rw [e32]; exact ⟨N32, _, rfl, A_b31_32⟩)
theorem ef_rmB2a (m : MethodId) (oo : Addr)  : entryFrame m #[(.ref oo)] 11 = mkF m 0 #[.val (.ref oo), .unset, .unset, .unset, .unset, .unset, .unset, .unset, .unset, .unset, .unset] [] := by first | (simp [entryFrame, mkF, argsToLocals, Value.category]; done) | rfl
def QB2a (Z : State) (oo : Addr) (pa : Addr) (B : Nat → Option Addr) (cnt : Nat → Int64) (u0 : Nat) (u1 : Nat) (h0 : Heap) (n0 : Nat) (v : Option Value) (h : Heap) (L : List Loc) : Prop := Fr n0 L ∧ ∃ ra, v = some (.ref ra) ∧ own_Ar Z h ra .char [(.int (Int32.ofNat u0)), (.int (Int32.ofNat u1))]
set_option maxRecDepth 65536 in
set_option maxHeartbeats 40000000 in
theorem rmB2a (l : Launch) (Z : State) (a0 : Array Value) (hw : ∀ d ∈ tables_1, d.before a0 Z = true) (ws : List Jvm.Cond) (oo : Addr) (pa : Addr) (B : Nat → Option Addr) (cnt : Nat → Int64) (u0 : Nat) (u1 : Nat) (h0 : Heap) (n0 : Nat) (Z0 : n0 ≤ h0.size) (hu : own_us cnt 65536 = [u0, u1]) (E0 : Exa Z h0 oo "com/example/wakachi/wakachi/UnitCounts") (F0 : Fld Z h0 oo "com/example/wakachi/wakachi/UnitCounts" "pages" "[[J" (.ref pa)) (U : own_UC Z h0 n0 pa B cnt) (hlt : ¬ own_key cnt u1 < own_key cnt u0) :
    MetFree l (⟨"com/example/wakachi/wakachi/UnitCounts", "byFrequency", "()[C"⟩ : MethodName) (head1 (Jvm.Cond.code (⟨"com/example/wakachi/wakachi/UnitCounts", "byFrequency", "()[C"⟩ : MethodName) prog_227_method_3_code 11 (some (.array .char)) :: ws) ({ frames := 4, cells := 2, slots := 4, locals := 84 } : Room)) (fun a U => a = #[(.ref oo)] ∧ Z.Warmed39 U.vm ∧ U.heap = h0) (fun _ _ _ _ _ => True) (fun _ U o U' => ∃ v L, o = .returned v ∧ QB2a Z oo pa B cnt u0 u1 h0 n0 v U'.heap L ∧ FrameEnd U o U' L ({ frames := 4, cells := 2, slots := 4, locals := 84 } : Room).cells ({ frames := 4, cells := 2, slots := 4, locals := 84 } : Room).slots) := by
  refine MetFree.of_bodySF (plainFor_of_name pn_0) hisR ?_
  intro p e s m args below meth c s₁ Bd hml0 hP hK
  obtain ⟨rfl, hZ, hh⟩ := hP
  have hx := Bd.exec
  have hby := Bd.bytes
  have hlk : meth.locks = false := BodyLoose.notSynchronized Bd
  have hret := Bd.returns
  have hml : c.maxLocals = 11 := hml0
  have hown : s.vm.findClass "com/example/wakachi/wakachi/UnitCounts" = some m.cls := findClass_of_methodNamed Bd.named
  have hnm := (name_of_methodNamed Bd.named Bd.method).1
  have X0 : Stand p l e ({ frames := 4, cells := 2, slots := 4, locals := 84 } : Room) s m #[(.ref oo)] below meth c s₁ [] 0 0 := Stand.of_body Bd
  have e0 : s₁.heap = h0 := by rw [← hh, Bd.state]; rfl
  have N0 := Fr.nil n0
  show own_Ends p e below s 2 4 (QB2a Z oo pa B cnt u0 u1 h0 n0) (s₁.setTop (entryFrame m #[(.ref oo)] 11))
  refine own_step (fun t k => castTop (ef_rmB2a m oo ) k) ?_
  show own_Ends p e below s _ _ _ (s₁.setTop (mkF m 0 #[.val (.ref oo), .unset, .unset, .unset, .unset, .unset, .unset, .unset, .unset, .unset, .unset] []))
  have u3 := U.2.2.1
  have np : oo ≠ pa := u3.ne E0 (hw _ (List.mem_of_getElem? (i := 2) rfl))
  have hpg : ∀ i, i < 256 → ∀ b, B i = some b → own_Ar Z h0 b .long (own_pg cnt i) := fun i hi b hb => (U.2.2.2.2.1 i hi b hb).2.2
  have hu0 : u0 < 65536 := own_us_mem (cnt := cnt) (by rw [hu]; simp)
  have hu1 : u1 < 65536 := own_us_mem (cnt := cnt) (by rw [hu]; simp)
  refine own_step (fun _ kc_ => XS.iconst X0.here hx rfl (hb hby d4_0) (XS.istoreN X0.here hx rfl (hb hby d4_1) rfl (l' := #[.val (.ref oo), .val (.int (0 : Int32)), .unset, .unset, .unset, .unset, .unset, .unset, .unset, .unset, .unset]) rfl (XS.aloadN X0.here hx rfl (hb hby d4_2) rfl rfl kc_))) ?_
  show own_Ends p e below s _ _ _ (s₁.setTop (mkF m 3 #[.val (.ref oo), .val (.int (0 : Int32)), .unset, .unset, .unset, .unset, .unset, .unset, .unset, .unset, .unset] [(.ref oo)]))
  obtain ⟨T33, X33, e33, st33⟩ := getF X0 hx hZ hown (host := "") (Or.inl (hw _ (List.mem_of_getElem? (i := 12) rfl))) Via.refl e0 F0 (g := (mkF m 3 #[.val (.ref oo), .val (.int (0 : Int32)), .unset, .unset, .unset, .unset, .unset, .unset, .unset, .unset, .unset] [(.ref oo)])) rfl rfl (hb hby d4_3)
  refine own_step (fun _ kc_ => st33 _ kc_) ?_
  show own_Ends p e below s _ _ _ (T33.setTop (mkF m 6 #[.val (.ref oo), .val (.int (0 : Int32)), .unset, .unset, .unset, .unset, .unset, .unset, .unset, .unset, .unset] [(.ref pa)]))
  refine own_step (fun _ kc_ => XS.astoreN X33.here hx rfl (hb hby d4_6) rfl rfl (l' := #[.val (.ref oo), .val (.int (0 : Int32)), .val (.ref pa), .unset, .unset, .unset, .unset, .unset, .unset, .unset, .unset]) rfl (XS.aloadN X33.here hx rfl (hb hby d4_7) rfl rfl (own_alen X33 hx hZ e33 u3 (n := 256) (z := (256 : Int32)) (own_pv_len B) rfl (hb hby d4_8) _ (XS.istoreN X33.here hx rfl (hb hby d4_9) rfl (l' := #[.val (.ref oo), .val (.int (0 : Int32)), .val (.ref pa), .val (.int (256 : Int32)), .unset, .unset, .unset, .unset, .unset, .unset, .unset]) rfl (XS.iconst X33.here hx rfl (hb hby d4_10) (XS.istore X33.here hx rfl (hb hby d4_11) rfl (l' := #[.val (.ref oo), .val (.int (0 : Int32)), .val (.ref pa), .val (.int (256 : Int32)), .val (.int (0 : Int32)), .unset, .unset, .unset, .unset, .unset, .unset]) rfl kc_)))))) ?_
  show own_Ends p e below s _ _ _ (T33.setTop (mkF m 13 #[.val (.ref oo), .val (.int (0 : Int32)), .val (.ref pa), .val (.int (256 : Int32)), .val (.int (0 : Int32)), .unset, .unset, .unset, .unset, .unset, .unset] []))
  refine own_n1 (n0 := 0) hw hZ hx hby hlk hret hml hown X33 e33 u3 U.2.2.2.1 hpg ?_ 256 0 rfl _ _ _ _ _ _ (Or.inl rfl) (Or.inl rfl) (Or.inl rfl) (Or.inl rfl) (Or.inl ⟨rfl, rfl⟩)
  intro s5 s6 s7 s8 s9 s10 os5 os6 os7 os8 hp
  rw [hu]
  show own_Ends p e below s _ _ _ (T33.setTop (mkF m 78 #[.val (.ref oo), .val (.int (2 : Int32)), .val (.ref pa), .val (.int (256 : Int32)), .val (.int (256 : Int32)), s5, s6, s7, s8, s9, s10] []))
  refine own_step (fun _ kc_ => XS.iloadN X33.here hx rfl (hb hby d4_78) rfl kc_) ?_
  show own_Ends p e below s _ _ _ (T33.setTop (mkF m 79 #[.val (.ref oo), .val (.int (2 : Int32)), .val (.ref pa), .val (.int (256 : Int32)), .val (.int (256 : Int32)), s5, s6, s7, s8, s9, s10] [(.int (2 : Int32))]))
  obtain ⟨T34, h34, k34, X34, e34, E34, A34, st34⟩ := newP X33 hx hZ (hw _ (List.mem_of_getElem? (i := 19) rfl)) e33 (g := (mkF m 79 #[.val (.ref oo), .val (.int (2 : Int32)), .val (.ref pa), .val (.int (256 : Int32)), .val (.int (256 : Int32)), s5, s6, s7, s8, s9, s10] [(.int (2 : Int32))])) rfl (hb hby d4_79) rfl (by decide) (cap := 2) (by decide) (by decide) (by decide : 0 + 1 ≤ _) (by decide : 0 + 2 ≤ _)
  obtain ⟨b34, g34⟩ : ∃ z, z = h0.size := ⟨_, rfl⟩
  rw [← g34] at A34 st34
  have ne_oo_b34 : oo ≠ b34 := Nat.ne_of_lt (Nat.lt_of_lt_of_le (E0).lt (Nat.le_of_eq g34.symm))
  have ne_pa_b34 : pa ≠ b34 := Nat.ne_of_lt (Nat.lt_of_lt_of_le (u3).lt (Nat.le_of_eq g34.symm))
  have n0_b34 : n0 ≤ b34 := Nat.le_trans Z0 (Nat.le_of_eq g34.symm)
  have E_oo_34 := (E0).ext E34
  have F_oo_pages_34 := (F0).ext E34
  have A_pa_34 := (u3).ext E34
  have Zs34 := Nat.le_trans Z0 E34.1
  have A_b34 : own_Ar Z h34 b34 .long [(.long (0 : Int64)), (.long (0 : Int64))] := own_Ar.new A34 (by decide)
  refine own_step (fun _ kc_ => st34 _ kc_) ?_
  show own_Ends p e below s _ _ _ (T34.setTop (mkF m 81 #[.val (.ref oo), .val (.int (2 : Int32)), .val (.ref pa), .val (.int (256 : Int32)), .val (.int (256 : Int32)), s5, s6, s7, s8, s9, s10] [(.ref b34)]))
  have hpgk : ∀ i, i < 256 → ∀ b, B i = some b → own_Ar Z h34 b .long (own_pg cnt i) := fun i hi b hb => (hpg i hi b hb).ext E34
  have nb : ∀ i, i < 256 → ∀ b, B i = some b → b ≠ b34 ∧ b ≠ pa ∧ oo ≠ b := fun i hi b hb => ⟨Nat.ne_of_lt (Nat.lt_of_lt_of_le (hpg i hi b hb).lt (Nat.le_of_eq g34.symm)), (U.2.2.2.2.1 i hi b hb).2.1, (hpg i hi b hb).ne E0 (hw _ (List.mem_of_getElem? (i := 2) rfl))⟩
  refine own_step (fun _ kc_ => XS.astoreN X34.here hx rfl (hb hby d4_81) rfl rfl (l' := #[.val (.ref oo), .val (.int (2 : Int32)), .val (.ref b34), .val (.int (256 : Int32)), .val (.int (256 : Int32)), s5, s6, s7, s8, s9, s10]) rfl (XS.iconst X34.here hx rfl (hb hby d4_82) (XS.istoreN X34.here hx rfl (hb hby d4_83) rfl (l' := #[.val (.ref oo), .val (.int (2 : Int32)), .val (.ref b34), .val (.int (0 : Int32)), .val (.int (256 : Int32)), s5, s6, s7, s8, s9, s10]) rfl (XS.iconst X34.here hx rfl (hb hby d4_84) (XS.istore X34.here hx rfl (hb hby d4_85) rfl (l' := #[.val (.ref oo), .val (.int (2 : Int32)), .val (.ref b34), .val (.int (0 : Int32)), .val (.int (0 : Int32)), s5, s6, s7, s8, s9, s10]) rfl kc_))))) ?_
  show own_Ends p e below s _ _ _ (T34.setTop (mkF m 87 #[.val (.ref oo), .val (.int (2 : Int32)), .val (.ref b34), .val (.int (0 : Int32)), .val (.int (0 : Int32)), s5, s6, s7, s8, s9, s10] []))
  refine own_n2 (cnt := cnt) (B := B) (ka := b34) (H := 2) hw hZ hx hby hlk hret hml hown (by rw [hu]; rfl) (by decide) n0_b34 ne_oo_b34 ne_pa_b34 np nb U.2.2.2.1 ?_ 256 0 rfl _ _ os5 os6 X34 e34 N0 Zs34 E_oo_34 F_oo_pages_34 A_pa_34 hpgk A_b34
  intro s5 s6 os5 os6 T locs h X e0 N0 Z0 E0 F0 PA hpg KA
  have KB : own_Ar Z h b34 .long [(.long (own_key cnt u0)), (.long (own_key cnt u1))] := KA.cast (by rw [own_kv, hu]; rfl)
  show own_Ends p e below s _ _ _ (T.setTop (mkF m 170 #[.val (.ref oo), .val (.int (2 : Int32)), .val (.ref b34), .val (.int (Int32.ofNat (own_us cnt (65536)).length)), .val (.int (256 : Int32)), s5, s6, s7, s8, s9, s10] []))
  refine own_step (fun _ kc_ => XS.aloadN X.here hx rfl (hb hby d4_170) rfl rfl kc_) ?_
  show own_Ends p e below s _ _ _ (T.setTop (mkF m 171 #[.val (.ref oo), .val (.int (2 : Int32)), .val (.ref b34), .val (.int (Int32.ofNat (own_us cnt (65536)).length)), .val (.int (256 : Int32)), s5, s6, s7, s8, s9, s10] [(.ref b34)]))
  obtain ⟨_, _, ⟨T35, L35, k35, n35⟩, -, X35, ⟨Lc35, hQ35, l35, y35, z35⟩, st35⟩ := Jvm.LawKit.callS X hx (y := (⟨"java/util/Arrays", "sort", "([J)V"⟩ : MethodName)) hown (mvT hZ (hw _ (List.mem_of_getElem? (i := 26) rfl))) (mvT hZ (hw _ (List.mem_of_getElem? (i := 27) rfl))) (mvT hZ (hw _ (List.mem_of_getElem? (i := 28) rfl))) (mvT hZ (hw _ (List.mem_of_getElem? (i := 29) rfl))) (by decide) (backOf (W := 0) (rmS2a l Z a0 hw [] b34 (own_key cnt u0) (own_key cnt u1) h n0 Z0 KB n0_b34 hlt) hZ (hw _ (List.mem_of_getElem? (i := 29) rfl)) (hw _ (List.mem_of_getElem? (i := 28) rfl)) (by decide) (by decide)) (g := (mkF m 171 #[.val (.ref oo), .val (.int (2 : Int32)), .val (.ref b34), .val (.int (Int32.ofNat (own_us cnt (65536)).length)), .val (.int (256 : Int32)), s5, s6, s7, s8, s9, s10] [(.ref b34)])) rfl (by rw [hml]; rfl) (argsL := [(.ref b34)]) (rest := []) (lenOf pd_1 rfl) rfl (by show 2 * 0 + _ ≤ _; exact Nat.le_of_eq rfl) (hb hby d4_171) (fun _ _ => ⟨rfl, e0, (by decide : 1 + 0 ≤ _), (by decide : 2 + 0 ≤ _)⟩)
  dsimp only [Pt.U, Pt.locs, Pt.cells, Pt.slots] at X35 l35 y35 z35 st35 hQ35
  subst y35 z35
  obtain ⟨rfl, N35q, K35k, A35k⟩ := hQ35
  have Zs35 := Nat.le_trans Z0 K35k.1
  have N35 : Fr n0 L35 := by rw [l35]; exact Fr.app N0 N35q
  refine own_step (fun _ kc_ => st35 _ kc_) ?_
  show own_Ends p e below s _ _ _ (T35.setTop (mkF m 174 #[.val (.ref oo), .val (.int (2 : Int32)), .val (.ref b34), .val (.int (Int32.ofNat (own_us cnt (65536)).length)), .val (.int (256 : Int32)), s5, s6, s7, s8, s9, s10] []))
  refine own_step (fun _ kc_ => XS.iloadN X35.here hx rfl (hb hby d4_174) rfl kc_) ?_
  show own_Ends p e below s _ _ _ (T35.setTop (mkF m 175 #[.val (.ref oo), .val (.int (2 : Int32)), .val (.ref b34), .val (.int (Int32.ofNat (own_us cnt (65536)).length)), .val (.int (256 : Int32)), s5, s6, s7, s8, s9, s10] [(.int (2 : Int32))]))
  obtain ⟨T36, h36, k36, X36, e36, E36, A36, st36⟩ := newP X35 hx hZ (hw _ (List.mem_of_getElem? (i := 40) rfl)) rfl (g := (mkF m 175 #[.val (.ref oo), .val (.int (2 : Int32)), .val (.ref b34), .val (.int (Int32.ofNat (own_us cnt (65536)).length)), .val (.int (256 : Int32)), s5, s6, s7, s8, s9, s10] [(.int (2 : Int32))])) rfl (hb hby d4_175) rfl (by decide) (cap := 2) (by decide) (by decide) (by decide : 1 + 1 ≤ _) (by decide : 2 + 2 ≤ _)
  obtain ⟨b36, g36⟩ : ∃ z, z = T35.heap.size := ⟨_, rfl⟩
  rw [← g36] at A36 st36
  have ne_b34_b36 : b34 ≠ b36 := Nat.ne_of_lt (Nat.lt_of_lt_of_le (A35k).lt (Nat.le_of_eq g36.symm))
  have n0_b36 : n0 ≤ b36 := Nat.le_trans Zs35 (Nat.le_of_eq g36.symm)
  have A_b34_36 := (A35k).ext E36
  have Zs36 := Nat.le_trans Zs35 E36.1
  have A_b36 : own_Ar Z h36 b36 .char [(.int (0 : Int32)), (.int (0 : Int32))] := own_Ar.new A36 (by decide)
  refine own_step (fun _ kc_ => st36 _ kc_) ?_
  show own_Ends p e below s _ _ _ (T36.setTop (mkF m 177 #[.val (.ref oo), .val (.int (2 : Int32)), .val (.ref b34), .val (.int (Int32.ofNat (own_us cnt (65536)).length)), .val (.int (256 : Int32)), s5, s6, s7, s8, s9, s10] [(.ref b36)]))
  refine own_step (fun _ kc_ => XS.astore X36.here hx rfl (hb hby d4_177) rfl rfl (l' := #[.val (.ref oo), .val (.int (2 : Int32)), .val (.ref b34), .val (.int (Int32.ofNat (own_us cnt (65536)).length)), .val (.ref b36), s5, s6, s7, s8, s9, s10]) rfl (XS.iconst X36.here hx rfl (hb hby d4_179) (XS.istoreS X36.here hx rfl (hb hby d4_180) rfl rfl os5 (XS.iload X36.here hx rfl (hb hby d4_182) rfl (XS.iloadN X36.here hx rfl (hb hby d4_184) rfl (XS.icmpNo X36.here hx rfl (hb hby d4_185) rfl (XT.ii_ge_f (by decide : (0 : Int32) < (2 : Int32))) (XS.aload X36.here hx rfl (hb hby d4_188) rfl rfl (XS.iload X36.here hx rfl (hb hby d4_190) rfl kc_)))))))) ?_
  show own_Ends p e below s _ _ _ (T36.setTop (mkF m 192 #[.val (.ref oo), .val (.int (2 : Int32)), .val (.ref b34), .val (.int (Int32.ofNat (own_us cnt (65536)).length)), .val (.ref b36), .val (.int (0 : Int32)), s6, s7, s8, s9, s10] [(.int (0 : Int32)), (.ref b36)]))
  refine own_step (fun _ kc_ => XS.aloadN X36.here hx rfl (hb hby d4_192) rfl rfl (XS.iload X36.here hx rfl (hb hby d4_193) rfl (own_laload X36 hx hZ e36 A_b34_36 (j := (0 : Int32)) (by decide) (i := 0) rfl (v := (.long (own_key cnt u0))) rfl (hb hby d4_195) _ (XS.l2i X36.here hx rfl (hb hby d4_196) rfl (XS.i2c X36.here hx rfl (hb hby d4_197) rfl kc_))))) ?_
  show own_Ends p e below s _ _ _ (T36.setTop (mkF m 198 #[.val (.ref oo), .val (.int (2 : Int32)), .val (.ref b34), .val (.int (Int32.ofNat (own_us cnt (65536)).length)), .val (.ref b36), .val (.int (0 : Int32)), s6, s7, s8, s9, s10] [(.int (((own_key cnt u0).toInt32).toUInt32.toUInt16.toUInt32.toInt32)), (.int (0 : Int32)), (.ref b36)]))
  rw [own_lo hu0]
  show own_Ends p e below s _ _ _ (T36.setTop (mkF m 198 #[.val (.ref oo), .val (.int (2 : Int32)), .val (.ref b34), .val (.int (Int32.ofNat (own_us cnt (65536)).length)), .val (.ref b36), .val (.int (0 : Int32)), s6, s7, s8, s9, s10] [(.int (Int32.ofNat u0)), (.int (0 : Int32)), (.ref b36)]))
  obtain ⟨T37, h37, X37, e37, W37, A37, st37⟩ := own_castore X36 hx hZ e36 A_b36 (j := (0 : Int32)) (x := (Int32.ofNat u0)) (by decide) (i := 0) rfl (Nat.le_of_ble_eq_true rfl) (Ls := #[.val (.ref oo), .val (.int (2 : Int32)), .val (.ref b34), .val (.int (Int32.ofNat (own_us cnt (65536)).length)), .val (.ref b36), .val (.int (0 : Int32)), s6, s7, s8, s9, s10]) (st := []) (hb hby d4_198)
  have A_b36_37 : own_Ar Z h37 b36 .char [(.int (Int32.ofNat u0)), (.int (0 : Int32))] := A37.cast (by rw [show nar .char (Int32.ofNat u0) = Int32.ofNat u0 from own_charN hu0]; rfl)
  have A_b34_37 := (A_b34_36).other W37 ne_b34_b36
  have Zs37 := Nat.le_trans Zs36 (Nat.le_of_eq W37.size.symm)
  have N37 := Fr.snoc X37 N35 n0_b36
  refine own_step (fun _ kc_ => st37 _ kc_) ?_
  show own_Ends p e below s _ _ _ (T37.setTop (mkF m 199 #[.val (.ref oo), .val (.int (2 : Int32)), .val (.ref b34), .val (.int (Int32.ofNat (own_us cnt (65536)).length)), .val (.ref b36), .val (.int (0 : Int32)), s6, s7, s8, s9, s10] []))
  refine own_step (fun _ kc_ => XS.iinc X37.here hx rfl (hb hby d4_199) rfl (l' := #[.val (.ref oo), .val (.int (2 : Int32)), .val (.ref b34), .val (.int (Int32.ofNat (own_us cnt (65536)).length)), .val (.ref b36), .val (.int ((0 : Int32) + (1 : Int32))), s6, s7, s8, s9, s10]) rfl kc_) ?_
  show own_Ends p e below s _ _ _ (T37.setTop (mkF m 202 #[.val (.ref oo), .val (.int (2 : Int32)), .val (.ref b34), .val (.int (Int32.ofNat (own_us cnt (65536)).length)), .val (.ref b36), .val (.int ((0 : Int32) + (1 : Int32))), s6, s7, s8, s9, s10] []))
  rw [show ((0 : Int32) + (1 : Int32)) = (1 : Int32) from by decide]
  show own_Ends p e below s _ _ _ (T37.setTop (mkF m 202 #[.val (.ref oo), .val (.int (2 : Int32)), .val (.ref b34), .val (.int (Int32.ofNat (own_us cnt (65536)).length)), .val (.ref b36), .val (.int (1 : Int32)), s6, s7, s8, s9, s10] []))
  refine own_step (fun _ kc_ => XS.goto X37.here hx rfl (pc0 := 202) (pc' := 182) rfl (hb hby d4_202) (by decide) (by decide) (XS.iload X37.here hx rfl (hb hby d4_182) rfl (XS.iloadN X37.here hx rfl (hb hby d4_184) rfl (XS.icmpNo X37.here hx rfl (hb hby d4_185) rfl (XT.ii_ge_f (by decide : (1 : Int32) < (2 : Int32))) (XS.aload X37.here hx rfl (hb hby d4_188) rfl rfl (XS.iload X37.here hx rfl (hb hby d4_190) rfl (XS.aloadN X37.here hx rfl (hb hby d4_192) rfl rfl (XS.iload X37.here hx rfl (hb hby d4_193) rfl kc_)))))))) ?_
  show own_Ends p e below s _ _ _ (T37.setTop (mkF m 195 #[.val (.ref oo), .val (.int (2 : Int32)), .val (.ref b34), .val (.int (Int32.ofNat (own_us cnt (65536)).length)), .val (.ref b36), .val (.int (1 : Int32)), s6, s7, s8, s9, s10] [(.int (1 : Int32)), (.ref b34), (.int (1 : Int32)), (.ref b36)]))
  refine own_step (fun _ kc_ => own_laload X37 hx hZ e37 A_b34_37 (j := (1 : Int32)) (by decide) (i := 1) rfl (v := (.long (own_key cnt u1))) rfl (hb hby d4_195) _ (XS.l2i X37.here hx rfl (hb hby d4_196) rfl (XS.i2c X37.here hx rfl (hb hby d4_197) rfl kc_))) ?_
  show own_Ends p e below s _ _ _ (T37.setTop (mkF m 198 #[.val (.ref oo), .val (.int (2 : Int32)), .val (.ref b34), .val (.int (Int32.ofNat (own_us cnt (65536)).length)), .val (.ref b36), .val (.int (1 : Int32)), s6, s7, s8, s9, s10] [(.int (((own_key cnt u1).toInt32).toUInt32.toUInt16.toUInt32.toInt32)), (.int (1 : Int32)), (.ref b36)]))
  rw [own_lo hu1]
  show own_Ends p e below s _ _ _ (T37.setTop (mkF m 198 #[.val (.ref oo), .val (.int (2 : Int32)), .val (.ref b34), .val (.int (Int32.ofNat (own_us cnt (65536)).length)), .val (.ref b36), .val (.int (1 : Int32)), s6, s7, s8, s9, s10] [(.int (Int32.ofNat u1)), (.int (1 : Int32)), (.ref b36)]))
  obtain ⟨T38, h38, X38, e38, W38, A38, st38⟩ := own_castore X37 hx hZ e37 A_b36_37 (j := (1 : Int32)) (x := (Int32.ofNat u1)) (by decide) (i := 1) rfl (Nat.le_of_ble_eq_true rfl) (Ls := #[.val (.ref oo), .val (.int (2 : Int32)), .val (.ref b34), .val (.int (Int32.ofNat (own_us cnt (65536)).length)), .val (.ref b36), .val (.int (1 : Int32)), s6, s7, s8, s9, s10]) (st := []) (hb hby d4_198)
  have A_b36_38 : own_Ar Z h38 b36 .char [(.int (Int32.ofNat u0)), (.int (Int32.ofNat u1))] := A38.cast (by rw [show nar .char (Int32.ofNat u1) = Int32.ofNat u1 from own_charN hu1]; rfl)
  have A_b34_38 := (A_b34_37).other W38 ne_b34_b36
  have Zs38 := Nat.le_trans Zs37 (Nat.le_of_eq W38.size.symm)
  have N38 := Fr.snoc X38 N37 n0_b36
  refine own_step (fun _ kc_ => st38 _ kc_) ?_
  show own_Ends p e below s _ _ _ (T38.setTop (mkF m 199 #[.val (.ref oo), .val (.int (2 : Int32)), .val (.ref b34), .val (.int (Int32.ofNat (own_us cnt (65536)).length)), .val (.ref b36), .val (.int (1 : Int32)), s6, s7, s8, s9, s10] []))
  refine own_step (fun _ kc_ => XS.iinc X38.here hx rfl (hb hby d4_199) rfl (l' := #[.val (.ref oo), .val (.int (2 : Int32)), .val (.ref b34), .val (.int (Int32.ofNat (own_us cnt (65536)).length)), .val (.ref b36), .val (.int ((1 : Int32) + (1 : Int32))), s6, s7, s8, s9, s10]) rfl kc_) ?_
  show own_Ends p e below s _ _ _ (T38.setTop (mkF m 202 #[.val (.ref oo), .val (.int (2 : Int32)), .val (.ref b34), .val (.int (Int32.ofNat (own_us cnt (65536)).length)), .val (.ref b36), .val (.int ((1 : Int32) + (1 : Int32))), s6, s7, s8, s9, s10] []))
  rw [show ((1 : Int32) + (1 : Int32)) = (2 : Int32) from by decide]
  show own_Ends p e below s _ _ _ (T38.setTop (mkF m 202 #[.val (.ref oo), .val (.int (2 : Int32)), .val (.ref b34), .val (.int (Int32.ofNat (own_us cnt (65536)).length)), .val (.ref b36), .val (.int (2 : Int32)), s6, s7, s8, s9, s10] []))
  refine own_step (fun _ kc_ => XS.goto X38.here hx rfl (pc0 := 202) (pc' := 182) rfl (hb hby d4_202) (by decide) (by decide) (XS.iload X38.here hx rfl (hb hby d4_182) rfl (XS.iloadN X38.here hx rfl (hb hby d4_184) rfl (XS.icmpYes X38.here hx rfl (pc0 := 185) (pc' := 205) rfl (hb hby d4_185) rfl (XT.ii_ge_t (by decide : ¬ ((2 : Int32) < (2 : Int32)))) (by decide) (by decide) (XS.aload X38.here hx rfl (hb hby d4_205) rfl rfl kc_))))) ?_
  show own_Ends p e below s _ _ _ (T38.setTop (mkF m 207 #[.val (.ref oo), .val (.int (2 : Int32)), .val (.ref b34), .val (.int (Int32.ofNat (own_us cnt (65536)).length)), .val (.ref b36), .val (.int (2 : Int32)), s6, s7, s8, s9, s10] [(.ref b36)]))
  exact own_retR X38 hx hret rfl rfl rfl hlk (hb hby d4_207) (by decide) (by decide) (by rw [e38]; exact ⟨N38, _, rfl, A_b36_38⟩)
theorem ef_rmB2b (m : MethodId) (oo : Addr)  : entryFrame m #[(.ref oo)] 11 = mkF m 0 #[.val (.ref oo), .unset, .unset, .unset, .unset, .unset, .unset, .unset, .unset, .unset, .unset] [] := by first | (simp [entryFrame, mkF, argsToLocals, Value.category]; done) | rfl
def QB2b (Z : State) (oo : Addr) (pa : Addr) (B : Nat → Option Addr) (cnt : Nat → Int64) (u0 : Nat) (u1 : Nat) (h0 : Heap) (n0 : Nat) (v : Option Value) (h : Heap) (L : List Loc) : Prop := Fr n0 L ∧ ∃ ra, v = some (.ref ra) ∧ own_Ar Z h ra .char [(.int (Int32.ofNat u1)), (.int (Int32.ofNat u0))]
set_option maxRecDepth 65536 in
set_option maxHeartbeats 40000000 in
theorem rmB2b (l : Launch) (Z : State) (a0 : Array Value) (hw : ∀ d ∈ tables_1, d.before a0 Z = true) (ws : List Jvm.Cond) (oo : Addr) (pa : Addr) (B : Nat → Option Addr) (cnt : Nat → Int64) (u0 : Nat) (u1 : Nat) (h0 : Heap) (n0 : Nat) (Z0 : n0 ≤ h0.size) (hu : own_us cnt 65536 = [u0, u1]) (E0 : Exa Z h0 oo "com/example/wakachi/wakachi/UnitCounts") (F0 : Fld Z h0 oo "com/example/wakachi/wakachi/UnitCounts" "pages" "[[J" (.ref pa)) (U : own_UC Z h0 n0 pa B cnt) (hlt : own_key cnt u1 < own_key cnt u0) :
    MetFree l (⟨"com/example/wakachi/wakachi/UnitCounts", "byFrequency", "()[C"⟩ : MethodName) (head1 (Jvm.Cond.code (⟨"com/example/wakachi/wakachi/UnitCounts", "byFrequency", "()[C"⟩ : MethodName) prog_227_method_3_code 11 (some (.array .char)) :: ws) ({ frames := 4, cells := 2, slots := 4, locals := 84 } : Room)) (fun a U => a = #[(.ref oo)] ∧ Z.Warmed39 U.vm ∧ U.heap = h0) (fun _ _ _ _ _ => True) (fun _ U o U' => ∃ v L, o = .returned v ∧ QB2b Z oo pa B cnt u0 u1 h0 n0 v U'.heap L ∧ FrameEnd U o U' L ({ frames := 4, cells := 2, slots := 4, locals := 84 } : Room).cells ({ frames := 4, cells := 2, slots := 4, locals := 84 } : Room).slots) := by
  refine MetFree.of_bodySF (plainFor_of_name pn_0) hisR ?_
  intro p e s m args below meth c s₁ Bd hml0 hP hK
  obtain ⟨rfl, hZ, hh⟩ := hP
  have hx := Bd.exec
  have hby := Bd.bytes
  have hlk : meth.locks = false := BodyLoose.notSynchronized Bd
  have hret := Bd.returns
  have hml : c.maxLocals = 11 := hml0
  have hown : s.vm.findClass "com/example/wakachi/wakachi/UnitCounts" = some m.cls := findClass_of_methodNamed Bd.named
  have hnm := (name_of_methodNamed Bd.named Bd.method).1
  have X0 : Stand p l e ({ frames := 4, cells := 2, slots := 4, locals := 84 } : Room) s m #[(.ref oo)] below meth c s₁ [] 0 0 := Stand.of_body Bd
  have e0 : s₁.heap = h0 := by rw [← hh, Bd.state]; rfl
  have N0 := Fr.nil n0
  show own_Ends p e below s 2 4 (QB2b Z oo pa B cnt u0 u1 h0 n0) (s₁.setTop (entryFrame m #[(.ref oo)] 11))
  refine own_step (fun t k => castTop (ef_rmB2b m oo ) k) ?_
  show own_Ends p e below s _ _ _ (s₁.setTop (mkF m 0 #[.val (.ref oo), .unset, .unset, .unset, .unset, .unset, .unset, .unset, .unset, .unset, .unset] []))
  have u3 := U.2.2.1
  have np : oo ≠ pa := u3.ne E0 (hw _ (List.mem_of_getElem? (i := 2) rfl))
  have hpg : ∀ i, i < 256 → ∀ b, B i = some b → own_Ar Z h0 b .long (own_pg cnt i) := fun i hi b hb => (U.2.2.2.2.1 i hi b hb).2.2
  have hu0 : u0 < 65536 := own_us_mem (cnt := cnt) (by rw [hu]; simp)
  have hu1 : u1 < 65536 := own_us_mem (cnt := cnt) (by rw [hu]; simp)
  refine own_step (fun _ kc_ => XS.iconst X0.here hx rfl (hb hby d4_0) (XS.istoreN X0.here hx rfl (hb hby d4_1) rfl (l' := #[.val (.ref oo), .val (.int (0 : Int32)), .unset, .unset, .unset, .unset, .unset, .unset, .unset, .unset, .unset]) rfl (XS.aloadN X0.here hx rfl (hb hby d4_2) rfl rfl kc_))) ?_
  show own_Ends p e below s _ _ _ (s₁.setTop (mkF m 3 #[.val (.ref oo), .val (.int (0 : Int32)), .unset, .unset, .unset, .unset, .unset, .unset, .unset, .unset, .unset] [(.ref oo)]))
  obtain ⟨T39, X39, e39, st39⟩ := getF X0 hx hZ hown (host := "") (Or.inl (hw _ (List.mem_of_getElem? (i := 12) rfl))) Via.refl e0 F0 (g := (mkF m 3 #[.val (.ref oo), .val (.int (0 : Int32)), .unset, .unset, .unset, .unset, .unset, .unset, .unset, .unset, .unset] [(.ref oo)])) rfl rfl (hb hby d4_3)
  refine own_step (fun _ kc_ => st39 _ kc_) ?_
  show own_Ends p e below s _ _ _ (T39.setTop (mkF m 6 #[.val (.ref oo), .val (.int (0 : Int32)), .unset, .unset, .unset, .unset, .unset, .unset, .unset, .unset, .unset] [(.ref pa)]))
  refine own_step (fun _ kc_ => XS.astoreN X39.here hx rfl (hb hby d4_6) rfl rfl (l' := #[.val (.ref oo), .val (.int (0 : Int32)), .val (.ref pa), .unset, .unset, .unset, .unset, .unset, .unset, .unset, .unset]) rfl (XS.aloadN X39.here hx rfl (hb hby d4_7) rfl rfl (own_alen X39 hx hZ e39 u3 (n := 256) (z := (256 : Int32)) (own_pv_len B) rfl (hb hby d4_8) _ (XS.istoreN X39.here hx rfl (hb hby d4_9) rfl (l' := #[.val (.ref oo), .val (.int (0 : Int32)), .val (.ref pa), .val (.int (256 : Int32)), .unset, .unset, .unset, .unset, .unset, .unset, .unset]) rfl (XS.iconst X39.here hx rfl (hb hby d4_10) (XS.istore X39.here hx rfl (hb hby d4_11) rfl (l' := #[.val (.ref oo), .val (.int (0 : Int32)), .val (.ref pa), .val (.int (256 : Int32)), .val (.int (0 : Int32)), .unset, .unset, .unset, .unset, .unset, .unset]) rfl kc_)))))) ?_
  show own_Ends p e below s _ _ _ (T39.setTop (mkF m 13 #[.val (.ref oo), .val (.int (0 : Int32)), .val (.ref pa), .val (.int (256 : Int32)), .val (.int (0 : Int32)), .unset, .unset, .unset, .unset, .unset, .unset] []))
  refine own_n1 (n0 := 0) hw hZ hx hby hlk hret hml hown X39 e39 u3 U.2.2.2.1 hpg ?_ 256 0 rfl _ _ _ _ _ _ (Or.inl rfl) (Or.inl rfl) (Or.inl rfl) (Or.inl rfl) (Or.inl ⟨rfl, rfl⟩)
  intro s5 s6 s7 s8 s9 s10 os5 os6 os7 os8 hp
  rw [hu]
  show own_Ends p e below s _ _ _ (T39.setTop (mkF m 78 #[.val (.ref oo), .val (.int (2 : Int32)), .val (.ref pa), .val (.int (256 : Int32)), .val (.int (256 : Int32)), s5, s6, s7, s8, s9, s10] []))
  refine own_step (fun _ kc_ => XS.iloadN X39.here hx rfl (hb hby d4_78) rfl kc_) ?_
  show own_Ends p e below s _ _ _ (T39.setTop (mkF m 79 #[.val (.ref oo), .val (.int (2 : Int32)), .val (.ref pa), .val (.int (256 : Int32)), .val (.int (256 : Int32)), s5, s6, s7, s8, s9, s10] [(.int (2 : Int32))]))
  obtain ⟨T40, h40, k40, X40, e40, E40, A40, st40⟩ := newP X39 hx hZ (hw _ (List.mem_of_getElem? (i := 19) rfl)) e39 (g := (mkF m 79 #[.val (.ref oo), .val (.int (2 : Int32)), .val (.ref pa), .val (.int (256 : Int32)), .val (.int (256 : Int32)), s5, s6, s7, s8, s9, s10] [(.int (2 : Int32))])) rfl (hb hby d4_79) rfl (by decide) (cap := 2) (by decide) (by decide) (by decide : 0 + 1 ≤ _) (by decide : 0 + 2 ≤ _)
  obtain ⟨b40, g40⟩ : ∃ z, z = h0.size := ⟨_, rfl⟩
  rw [← g40] at A40 st40
  have ne_oo_b40 : oo ≠ b40 := Nat.ne_of_lt (Nat.lt_of_lt_of_le (E0).lt (Nat.le_of_eq g40.symm))
  have ne_pa_b40 : pa ≠ b40 := Nat.ne_of_lt (Nat.lt_of_lt_of_le (u3).lt (Nat.le_of_eq g40.symm))
  have n0_b40 : n0 ≤ b40 := Nat.le_trans Z0 (Nat.le_of_eq g40.symm)
  have E_oo_40 := (E0).ext E40
  have F_oo_pages_40 := (F0).ext E40
  have A_pa_40 := (u3).ext E40
  have Zs40 := Nat.le_trans Z0 E40.1
  have A_b40 : own_Ar Z h40 b40 .long [(.long (0 : Int64)), (.long (0 : Int64))] := own_Ar.new A40 (by decide)
  refine own_step (fun _ kc_ => st40 _ kc_) ?_
  show own_Ends p e below s _ _ _ (T40.setTop (mkF m 81 #[.val (.ref oo), .val (.int (2 : Int32)), .val (.ref pa), .val (.int (256 : Int32)), .val (.int (256 : Int32)), s5, s6, s7, s8, s9, s10] [(.ref b40)]))
  have hpgk : ∀ i, i < 256 → ∀ b, B i = some b → own_Ar Z h40 b .long (own_pg cnt i) := fun i hi b hb => (hpg i hi b hb).ext E40
  have nb : ∀ i, i < 256 → ∀ b, B i = some b → b ≠ b40 ∧ b ≠ pa ∧ oo ≠ b := fun i hi b hb => ⟨Nat.ne_of_lt (Nat.lt_of_lt_of_le (hpg i hi b hb).lt (Nat.le_of_eq g40.symm)), (U.2.2.2.2.1 i hi b hb).2.1, (hpg i hi b hb).ne E0 (hw _ (List.mem_of_getElem? (i := 2) rfl))⟩
  refine own_step (fun _ kc_ => XS.astoreN X40.here hx rfl (hb hby d4_81) rfl rfl (l' := #[.val (.ref oo), .val (.int (2 : Int32)), .val (.ref b40), .val (.int (256 : Int32)), .val (.int (256 : Int32)), s5, s6, s7, s8, s9, s10]) rfl (XS.iconst X40.here hx rfl (hb hby d4_82) (XS.istoreN X40.here hx rfl (hb hby d4_83) rfl (l' := #[.val (.ref oo), .val (.int (2 : Int32)), .val (.ref b40), .val (.int (0 : Int32)), .val (.int (256 : Int32)), s5, s6, s7, s8, s9, s10]) rfl (XS.iconst X40.here hx rfl (hb hby d4_84) (XS.istore X40.here hx rfl (hb hby d4_85) rfl (l' := #[.val (.ref oo), .val (.int (2 : Int32)), .val (.ref b40), .val (.int (0 : Int32)), .val (.int (0 : Int32)), s5, s6, s7, s8, s9, s10]) rfl kc_))))) ?_
  show own_Ends p e below s _ _ _ (T40.setTop (mkF m 87 #[.val (.ref oo), .val (.int (2 : Int32)), .val (.ref b40), .val (.int (0 : Int32)), .val (.int (0 : Int32)), s5, s6, s7, s8, s9, s10] []))
  refine own_n2 (cnt := cnt) (B := B) (ka := b40) (H := 2) hw hZ hx hby hlk hret hml hown (by rw [hu]; rfl) (by decide) n0_b40 ne_oo_b40 ne_pa_b40 np nb U.2.2.2.1 ?_ 256 0 rfl _ _ os5 os6 X40 e40 N0 Zs40 E_oo_40 F_oo_pages_40 A_pa_40 hpgk A_b40
  intro s5 s6 os5 os6 T locs h X e0 N0 Z0 E0 F0 PA hpg KA
  have KB : own_Ar Z h b40 .long [(.long (own_key cnt u0)), (.long (own_key cnt u1))] := KA.cast (by rw [own_kv, hu]; rfl)
  show own_Ends p e below s _ _ _ (T.setTop (mkF m 170 #[.val (.ref oo), .val (.int (2 : Int32)), .val (.ref b40), .val (.int (Int32.ofNat (own_us cnt (65536)).length)), .val (.int (256 : Int32)), s5, s6, s7, s8, s9, s10] []))
  refine own_step (fun _ kc_ => XS.aloadN X.here hx rfl (hb hby d4_170) rfl rfl kc_) ?_
  show own_Ends p e below s _ _ _ (T.setTop (mkF m 171 #[.val (.ref oo), .val (.int (2 : Int32)), .val (.ref b40), .val (.int (Int32.ofNat (own_us cnt (65536)).length)), .val (.int (256 : Int32)), s5, s6, s7, s8, s9, s10] [(.ref b40)]))
  obtain ⟨_, _, ⟨T41, L41, k41, n41⟩, -, X41, ⟨Lc41, hQ41, l41, y41, z41⟩, st41⟩ := Jvm.LawKit.callS X hx (y := (⟨"java/util/Arrays", "sort", "([J)V"⟩ : MethodName)) hown (mvT hZ (hw _ (List.mem_of_getElem? (i := 26) rfl))) (mvT hZ (hw _ (List.mem_of_getElem? (i := 27) rfl))) (mvT hZ (hw _ (List.mem_of_getElem? (i := 28) rfl))) (mvT hZ (hw _ (List.mem_of_getElem? (i := 29) rfl))) (by decide) (backOf (W := 0) (rmS2b l Z a0 hw [] b40 (own_key cnt u0) (own_key cnt u1) h n0 Z0 KB n0_b40 hlt) hZ (hw _ (List.mem_of_getElem? (i := 29) rfl)) (hw _ (List.mem_of_getElem? (i := 28) rfl)) (by decide) (by decide)) (g := (mkF m 171 #[.val (.ref oo), .val (.int (2 : Int32)), .val (.ref b40), .val (.int (Int32.ofNat (own_us cnt (65536)).length)), .val (.int (256 : Int32)), s5, s6, s7, s8, s9, s10] [(.ref b40)])) rfl (by rw [hml]; rfl) (argsL := [(.ref b40)]) (rest := []) (lenOf pd_1 rfl) rfl (by show 2 * 0 + _ ≤ _; exact Nat.le_of_eq rfl) (hb hby d4_171) (fun _ _ => ⟨rfl, e0, (by decide : 1 + 0 ≤ _), (by decide : 2 + 0 ≤ _)⟩)
  dsimp only [Pt.U, Pt.locs, Pt.cells, Pt.slots] at X41 l41 y41 z41 st41 hQ41
  subst y41 z41
  obtain ⟨rfl, N41q, K41k, A41k⟩ := hQ41
  have Zs41 := Nat.le_trans Z0 K41k.1
  have N41 : Fr n0 L41 := by rw [l41]; exact Fr.app N0 N41q
  refine own_step (fun _ kc_ => st41 _ kc_) ?_
  show own_Ends p e below s _ _ _ (T41.setTop (mkF m 174 #[.val (.ref oo), .val (.int (2 : Int32)), .val (.ref b40), .val (.int (Int32.ofNat (own_us cnt (65536)).length)), .val (.int (256 : Int32)), s5, s6, s7, s8, s9, s10] []))
  refine own_step (fun _ kc_ => XS.iloadN X41.here hx rfl (hb hby d4_174) rfl kc_) ?_
  show own_Ends p e below s _ _ _ (T41.setTop (mkF m 175 #[.val (.ref oo), .val (.int (2 : Int32)), .val (.ref b40), .val (.int (Int32.ofNat (own_us cnt (65536)).length)), .val (.int (256 : Int32)), s5, s6, s7, s8, s9, s10] [(.int (2 : Int32))]))
  obtain ⟨T42, h42, k42, X42, e42, E42, A42, st42⟩ := newP X41 hx hZ (hw _ (List.mem_of_getElem? (i := 40) rfl)) rfl (g := (mkF m 175 #[.val (.ref oo), .val (.int (2 : Int32)), .val (.ref b40), .val (.int (Int32.ofNat (own_us cnt (65536)).length)), .val (.int (256 : Int32)), s5, s6, s7, s8, s9, s10] [(.int (2 : Int32))])) rfl (hb hby d4_175) rfl (by decide) (cap := 2) (by decide) (by decide) (by decide : 1 + 1 ≤ _) (by decide : 2 + 2 ≤ _)
  obtain ⟨b42, g42⟩ : ∃ z, z = T41.heap.size := ⟨_, rfl⟩
  rw [← g42] at A42 st42
  have ne_b40_b42 : b40 ≠ b42 := Nat.ne_of_lt (Nat.lt_of_lt_of_le (A41k).lt (Nat.le_of_eq g42.symm))
  have n0_b42 : n0 ≤ b42 := Nat.le_trans Zs41 (Nat.le_of_eq g42.symm)
  have A_b40_42 := (A41k).ext E42
  have Zs42 := Nat.le_trans Zs41 E42.1
  have A_b42 : own_Ar Z h42 b42 .char [(.int (0 : Int32)), (.int (0 : Int32))] := own_Ar.new A42 (by decide)
  refine own_step (fun _ kc_ => st42 _ kc_) ?_
  show own_Ends p e below s _ _ _ (T42.setTop (mkF m 177 #[.val (.ref oo), .val (.int (2 : Int32)), .val (.ref b40), .val (.int (Int32.ofNat (own_us cnt (65536)).length)), .val (.int (256 : Int32)), s5, s6, s7, s8, s9, s10] [(.ref b42)]))
  refine own_step (fun _ kc_ => XS.astore X42.here hx rfl (hb hby d4_177) rfl rfl (l' := #[.val (.ref oo), .val (.int (2 : Int32)), .val (.ref b40), .val (.int (Int32.ofNat (own_us cnt (65536)).length)), .val (.ref b42), s5, s6, s7, s8, s9, s10]) rfl (XS.iconst X42.here hx rfl (hb hby d4_179) (XS.istoreS X42.here hx rfl (hb hby d4_180) rfl rfl os5 (XS.iload X42.here hx rfl (hb hby d4_182) rfl (XS.iloadN X42.here hx rfl (hb hby d4_184) rfl (XS.icmpNo X42.here hx rfl (hb hby d4_185) rfl (XT.ii_ge_f (by decide : (0 : Int32) < (2 : Int32))) (XS.aload X42.here hx rfl (hb hby d4_188) rfl rfl (XS.iload X42.here hx rfl (hb hby d4_190) rfl kc_)))))))) ?_
  show own_Ends p e below s _ _ _ (T42.setTop (mkF m 192 #[.val (.ref oo), .val (.int (2 : Int32)), .val (.ref b40), .val (.int (Int32.ofNat (own_us cnt (65536)).length)), .val (.ref b42), .val (.int (0 : Int32)), s6, s7, s8, s9, s10] [(.int (0 : Int32)), (.ref b42)]))
  refine own_step (fun _ kc_ => XS.aloadN X42.here hx rfl (hb hby d4_192) rfl rfl (XS.iload X42.here hx rfl (hb hby d4_193) rfl (own_laload X42 hx hZ e42 A_b40_42 (j := (0 : Int32)) (by decide) (i := 0) rfl (v := (.long (own_key cnt u1))) rfl (hb hby d4_195) _ (XS.l2i X42.here hx rfl (hb hby d4_196) rfl (XS.i2c X42.here hx rfl (hb hby d4_197) rfl kc_))))) ?_
  show own_Ends p e below s _ _ _ (T42.setTop (mkF m 198 #[.val (.ref oo), .val (.int (2 : Int32)), .val (.ref b40), .val (.int (Int32.ofNat (own_us cnt (65536)).length)), .val (.ref b42), .val (.int (0 : Int32)), s6, s7, s8, s9, s10] [(.int (((own_key cnt u1).toInt32).toUInt32.toUInt16.toUInt32.toInt32)), (.int (0 : Int32)), (.ref b42)]))
  rw [own_lo hu1]
  show own_Ends p e below s _ _ _ (T42.setTop (mkF m 198 #[.val (.ref oo), .val (.int (2 : Int32)), .val (.ref b40), .val (.int (Int32.ofNat (own_us cnt (65536)).length)), .val (.ref b42), .val (.int (0 : Int32)), s6, s7, s8, s9, s10] [(.int (Int32.ofNat u1)), (.int (0 : Int32)), (.ref b42)]))
  obtain ⟨T43, h43, X43, e43, W43, A43, st43⟩ := own_castore X42 hx hZ e42 A_b42 (j := (0 : Int32)) (x := (Int32.ofNat u1)) (by decide) (i := 0) rfl (Nat.le_of_ble_eq_true rfl) (Ls := #[.val (.ref oo), .val (.int (2 : Int32)), .val (.ref b40), .val (.int (Int32.ofNat (own_us cnt (65536)).length)), .val (.ref b42), .val (.int (0 : Int32)), s6, s7, s8, s9, s10]) (st := []) (hb hby d4_198)
  have A_b42_43 : own_Ar Z h43 b42 .char [(.int (Int32.ofNat u1)), (.int (0 : Int32))] := A43.cast (by rw [show nar .char (Int32.ofNat u1) = Int32.ofNat u1 from own_charN hu1]; rfl)
  have A_b40_43 := (A_b40_42).other W43 ne_b40_b42
  have Zs43 := Nat.le_trans Zs42 (Nat.le_of_eq W43.size.symm)
  have N43 := Fr.snoc X43 N41 n0_b42
  refine own_step (fun _ kc_ => st43 _ kc_) ?_
  show own_Ends p e below s _ _ _ (T43.setTop (mkF m 199 #[.val (.ref oo), .val (.int (2 : Int32)), .val (.ref b40), .val (.int (Int32.ofNat (own_us cnt (65536)).length)), .val (.ref b42), .val (.int (0 : Int32)), s6, s7, s8, s9, s10] []))
  refine own_step (fun _ kc_ => XS.iinc X43.here hx rfl (hb hby d4_199) rfl (l' := #[.val (.ref oo), .val (.int (2 : Int32)), .val (.ref b40), .val (.int (Int32.ofNat (own_us cnt (65536)).length)), .val (.ref b42), .val (.int ((0 : Int32) + (1 : Int32))), s6, s7, s8, s9, s10]) rfl kc_) ?_
  show own_Ends p e below s _ _ _ (T43.setTop (mkF m 202 #[.val (.ref oo), .val (.int (2 : Int32)), .val (.ref b40), .val (.int (Int32.ofNat (own_us cnt (65536)).length)), .val (.ref b42), .val (.int ((0 : Int32) + (1 : Int32))), s6, s7, s8, s9, s10] []))
  rw [show ((0 : Int32) + (1 : Int32)) = (1 : Int32) from by decide]
  show own_Ends p e below s _ _ _ (T43.setTop (mkF m 202 #[.val (.ref oo), .val (.int (2 : Int32)), .val (.ref b40), .val (.int (Int32.ofNat (own_us cnt (65536)).length)), .val (.ref b42), .val (.int (1 : Int32)), s6, s7, s8, s9, s10] []))
  refine own_step (fun _ kc_ => XS.goto X43.here hx rfl (pc0 := 202) (pc' := 182) rfl (hb hby d4_202) (by decide) (by decide) (XS.iload X43.here hx rfl (hb hby d4_182) rfl (XS.iloadN X43.here hx rfl (hb hby d4_184) rfl (XS.icmpNo X43.here hx rfl (hb hby d4_185) rfl (XT.ii_ge_f (by decide : (1 : Int32) < (2 : Int32))) (XS.aload X43.here hx rfl (hb hby d4_188) rfl rfl (XS.iload X43.here hx rfl (hb hby d4_190) rfl (XS.aloadN X43.here hx rfl (hb hby d4_192) rfl rfl (XS.iload X43.here hx rfl (hb hby d4_193) rfl kc_)))))))) ?_
  show own_Ends p e below s _ _ _ (T43.setTop (mkF m 195 #[.val (.ref oo), .val (.int (2 : Int32)), .val (.ref b40), .val (.int (Int32.ofNat (own_us cnt (65536)).length)), .val (.ref b42), .val (.int (1 : Int32)), s6, s7, s8, s9, s10] [(.int (1 : Int32)), (.ref b40), (.int (1 : Int32)), (.ref b42)]))
  refine own_step (fun _ kc_ => own_laload X43 hx hZ e43 A_b40_43 (j := (1 : Int32)) (by decide) (i := 1) rfl (v := (.long (own_key cnt u0))) rfl (hb hby d4_195) _ (XS.l2i X43.here hx rfl (hb hby d4_196) rfl (XS.i2c X43.here hx rfl (hb hby d4_197) rfl kc_))) ?_
  show own_Ends p e below s _ _ _ (T43.setTop (mkF m 198 #[.val (.ref oo), .val (.int (2 : Int32)), .val (.ref b40), .val (.int (Int32.ofNat (own_us cnt (65536)).length)), .val (.ref b42), .val (.int (1 : Int32)), s6, s7, s8, s9, s10] [(.int (((own_key cnt u0).toInt32).toUInt32.toUInt16.toUInt32.toInt32)), (.int (1 : Int32)), (.ref b42)]))
  rw [own_lo hu0]
  show own_Ends p e below s _ _ _ (T43.setTop (mkF m 198 #[.val (.ref oo), .val (.int (2 : Int32)), .val (.ref b40), .val (.int (Int32.ofNat (own_us cnt (65536)).length)), .val (.ref b42), .val (.int (1 : Int32)), s6, s7, s8, s9, s10] [(.int (Int32.ofNat u0)), (.int (1 : Int32)), (.ref b42)]))
  obtain ⟨T44, h44, X44, e44, W44, A44, st44⟩ := own_castore X43 hx hZ e43 A_b42_43 (j := (1 : Int32)) (x := (Int32.ofNat u0)) (by decide) (i := 1) rfl (Nat.le_of_ble_eq_true rfl) (Ls := #[.val (.ref oo), .val (.int (2 : Int32)), .val (.ref b40), .val (.int (Int32.ofNat (own_us cnt (65536)).length)), .val (.ref b42), .val (.int (1 : Int32)), s6, s7, s8, s9, s10]) (st := []) (hb hby d4_198)
  have A_b42_44 : own_Ar Z h44 b42 .char [(.int (Int32.ofNat u1)), (.int (Int32.ofNat u0))] := A44.cast (by rw [show nar .char (Int32.ofNat u0) = Int32.ofNat u0 from own_charN hu0]; rfl)
  have A_b40_44 := (A_b40_43).other W44 ne_b40_b42
  have Zs44 := Nat.le_trans Zs43 (Nat.le_of_eq W44.size.symm)
  have N44 := Fr.snoc X44 N43 n0_b42
  refine own_step (fun _ kc_ => st44 _ kc_) ?_
  show own_Ends p e below s _ _ _ (T44.setTop (mkF m 199 #[.val (.ref oo), .val (.int (2 : Int32)), .val (.ref b40), .val (.int (Int32.ofNat (own_us cnt (65536)).length)), .val (.ref b42), .val (.int (1 : Int32)), s6, s7, s8, s9, s10] []))
  refine own_step (fun _ kc_ => XS.iinc X44.here hx rfl (hb hby d4_199) rfl (l' := #[.val (.ref oo), .val (.int (2 : Int32)), .val (.ref b40), .val (.int (Int32.ofNat (own_us cnt (65536)).length)), .val (.ref b42), .val (.int ((1 : Int32) + (1 : Int32))), s6, s7, s8, s9, s10]) rfl kc_) ?_
  show own_Ends p e below s _ _ _ (T44.setTop (mkF m 202 #[.val (.ref oo), .val (.int (2 : Int32)), .val (.ref b40), .val (.int (Int32.ofNat (own_us cnt (65536)).length)), .val (.ref b42), .val (.int ((1 : Int32) + (1 : Int32))), s6, s7, s8, s9, s10] []))
  rw [show ((1 : Int32) + (1 : Int32)) = (2 : Int32) from by decide]
  show own_Ends p e below s _ _ _ (T44.setTop (mkF m 202 #[.val (.ref oo), .val (.int (2 : Int32)), .val (.ref b40), .val (.int (Int32.ofNat (own_us cnt (65536)).length)), .val (.ref b42), .val (.int (2 : Int32)), s6, s7, s8, s9, s10] []))
  refine own_step (fun _ kc_ => XS.goto X44.here hx rfl (pc0 := 202) (pc' := 182) rfl (hb hby d4_202) (by decide) (by decide) (XS.iload X44.here hx rfl (hb hby d4_182) rfl (XS.iloadN X44.here hx rfl (hb hby d4_184) rfl (XS.icmpYes X44.here hx rfl (pc0 := 185) (pc' := 205) rfl (hb hby d4_185) rfl (XT.ii_ge_t (by decide : ¬ ((2 : Int32) < (2 : Int32)))) (by decide) (by decide) (XS.aload X44.here hx rfl (hb hby d4_205) rfl rfl kc_))))) ?_
  show own_Ends p e below s _ _ _ (T44.setTop (mkF m 207 #[.val (.ref oo), .val (.int (2 : Int32)), .val (.ref b40), .val (.int (Int32.ofNat (own_us cnt (65536)).length)), .val (.ref b42), .val (.int (2 : Int32)), s6, s7, s8, s9, s10] [(.ref b42)]))
  exact own_retR X44 hx hret rfl rfl rfl hlk (hb hby d4_207) (by decide) (by decide) (by rw [e44]; exact ⟨N44, _, rfl, A_b42_44⟩)
def QA (Z : State) (oo : Addr) (pa : Addr) (B : Nat → Option Addr) (cnt : Nat → Int64) (i r : Nat) (h0 : Heap) (n0 : Nat) (v : Option Value) (h : Heap) (L : List Loc) : Prop := v = none ∧ Fr n0 L ∧ n0 ≤ h.size ∧ Exa Z h oo "com/example/wakachi/wakachi/UnitCounts" ∧ Fld Z h oo "com/example/wakachi/wakachi/UnitCounts" "pages" "[[J" (.ref pa) ∧ ∃ B', own_UC Z h n0 pa B' (own_up cnt (256 * i + r) (cnt (256 * i + r) + 1))
theorem rmA (l : Launch) (Z : State) (a0 : Array Value) (hw : ∀ d ∈ tables_1, d.before a0 Z = true) (ws : List Jvm.Cond) (oo : Addr) (pa : Addr) (B : Nat → Option Addr) (cnt : Nat → Int64) (i r : Nat) (h0 : Heap) (n0 : Nat) (Z0 : n0 ≤ h0.size) (hi : i < 256) (hr : r < 256) (E0 : Exa Z h0 oo "com/example/wakachi/wakachi/UnitCounts") (F0 : Fld Z h0 oo "com/example/wakachi/wakachi/UnitCounts" "pages" "[[J" (.ref pa)) (U : own_UC Z h0 n0 pa B cnt) :
    MetFree l (⟨"com/example/wakachi/wakachi/UnitCounts", "add", "(C)V"⟩ : MethodName) (head1 (Jvm.Cond.code (⟨"com/example/wakachi/wakachi/UnitCounts", "add", "(C)V"⟩ : MethodName) prog_227_method_2_code 3 none :: ws) ({ frames := 0, cells := 1, slots := 256, locals := 0 } : Room)) (fun a U => a = #[(.ref oo), (.int (Int32.ofNat (256 * i + r)))] ∧ Z.Warmed39 U.vm ∧ U.heap = h0) (fun _ _ _ _ _ => True) (fun _ U o U' => ∃ v L, o = .returned v ∧ QA Z oo pa B cnt i r h0 n0 v U'.heap L ∧ FrameEnd U o U' L ({ frames := 0, cells := 1, slots := 256, locals := 0 } : Room).cells ({ frames := 0, cells := 1, slots := 256, locals := 0 } : Room).slots) := by
  cases hB : B i with
  | none => exact rmA1 l Z a0 hw ws oo pa B cnt i r h0 n0 Z0 hi hr hB E0 F0 U
  | some b => exact rmA0 l Z a0 hw ws oo pa B cnt i r b h0 n0 Z0 hi hr hB E0 F0 U
theorem pn_3 : plainName "com/example/wakachi/wakachi/UnitCountsAddPinLaw" = true := by first | (simp [plainName, overriddenIn]; done) | decide +kernel
theorem pd_5 : parseMethodDescriptor "(C)V" = some ⟨[.char], none⟩ := by decide +kernel
theorem pd_6 : parseMethodDescriptor "()[C" = some ⟨[], some (.array .char)⟩ := by decide +kernel
theorem ef_rm0 (m : MethodId) (p1 : Int32) (p2 : Int32) (p3 : Int32)  : entryFrame m #[(.int p1), (.int p2), (.int p3)] maxLocals = mkF m 0 #[.val (.int p1), .val (.int p2), .val (.int p3), .unset, .unset, .unset, .unset, .unset, .unset, .unset, .unset] [] := by first | (simp [entryFrame, mkF, argsToLocals, Value.category, maxLocals]; done) | rfl
def Q0 (Z : State) (p1 : Int32) (p2 : Int32) (p3 : Int32)  (h0 : Heap) (n0 : Nat) (v : Option Value) (h : Heap) (L : List Loc) : Prop := v = some (.int (1 : Int32)) ∧ Fr n0 L
set_option maxRecDepth 65536 in
set_option maxHeartbeats 40000000 in
theorem rm0 (l : Launch) (Z : State) (a0 : Array Value) (hw : ∀ d ∈ tables_1, d.before a0 Z = true) (ws : List Jvm.Cond) (p1 : Int32) (p2 : Int32) (p3 : Int32)  (h0 : Heap) (n0 : Nat) (Z0 : n0 ≤ h0.size)  :
    MetFree l x (head1 (Jvm.Cond.code x code maxLocals ret :: ws) room_1) (fun a U => a = #[(.int p1), (.int p2), (.int p3)] ∧ Z.Warmed39 U.vm ∧ U.heap = h0) (fun _ _ _ _ _ => True) (fun _ U o U' => ∃ v L, o = .returned v ∧ Q0 Z p1 p2 p3  h0 n0 v U'.heap L ∧ FrameEnd U o U' L room_1.cells room_1.slots) := by
  refine MetFree.of_bodySF (plainFor_of_name pn_3) hisR ?_
  intro p e s m args below meth c s₁ Bd hml0 hP hK
  obtain ⟨rfl, hZ, hh⟩ := hP
  have hx := Bd.exec
  have hby := Bd.bytes
  have hlk : meth.locks = false := BodyLoose.notSynchronized Bd
  have hret := Bd.returns
  have hml : c.maxLocals = 11 := hml0
  have hown : s.vm.findClass "com/example/wakachi/wakachi/UnitCountsAddPinLaw" = some m.cls := findClass_of_methodNamed Bd.named
  have hnm := (name_of_methodNamed Bd.named Bd.method).1
  have X0 : Stand p l e room_1 s m #[(.int p1), (.int p2), (.int p3)] below meth c s₁ [] 0 0 := Stand.of_body Bd
  have e0 : s₁.heap = h0 := by rw [← hh, Bd.state]; rfl
  have N0 := Fr.nil n0
  show own_Ends p e below s 24 1664 (Q0 Z p1 p2 p3  h0 n0) (s₁.setTop (entryFrame m #[(.int p1), (.int p2), (.int p3)] maxLocals))
  refine own_step (fun t k => castTop (ef_rm0 m p1 p2 p3 ) k) ?_
  show own_Ends p e below s _ _ _ (s₁.setTop (mkF m 0 #[.val (.int p1), .val (.int p2), .val (.int p3), .unset, .unset, .unset, .unset, .unset, .unset, .unset, .unset] []))
  refine own_step (fun _ kc_ => XS.iloadN X0.here hx rfl (hb hby at_0) rfl (X0.ldcI hx hown (mvT hZ (hw _ (List.mem_of_getElem? (i := 0) rfl))) rfl (hb hby at_1) (XS.iand X0.here hx rfl (hb hby at_3) rfl (XS.i2c X0.here hx rfl (hb hby at_4) rfl (XS.istoreN X0.here hx rfl (hb hby at_5) rfl (l' := #[.val (.int p1), .val (.int p2), .val (.int p3), .val (.int ((p1 &&& (65535 : Int32)).toUInt32.toUInt16.toUInt32.toInt32)), .unset, .unset, .unset, .unset, .unset, .unset, .unset]) rfl kc_))))) ?_
  show own_Ends p e below s _ _ _ (s₁.setTop (mkF m 6 #[.val (.int p1), .val (.int p2), .val (.int p3), .val (.int ((p1 &&& (65535 : Int32)).toUInt32.toUInt16.toUInt32.toInt32)), .unset, .unset, .unset, .unset, .unset, .unset, .unset] []))
  obtain ⟨i, r, hi, hr, eu⟩ := own_char2 (p1 &&& (65535 : Int32))
  rw [eu]
  show own_Ends p e below s _ _ _ (s₁.setTop (mkF m 6 #[.val (.int p1), .val (.int p2), .val (.int p3), .val (.int (Int32.ofNat (256 * i + r))), .unset, .unset, .unset, .unset, .unset, .unset, .unset] []))
  have J : ∀ (i2 r2 : Nat) (hi2 : i2 < 256) (hr2 : r2 < 256), own_Ends p e below s 24 1664 (Q0 Z p1 p2 p3  h0 n0) (s₁.setTop (mkF m 32 #[.val (.int p1), .val (.int p2), .val (.int p3), .val (.int (Int32.ofNat (256 * i + r))), .val (.int (Int32.ofNat (256 * i2 + r2))), .unset, .unset, .unset, .unset, .unset, .unset] [])) := by
    intro i2 r2 hi2 hr2
    show own_Ends p e below s _ _ _ (s₁.setTop (mkF m 32 #[.val (.int p1), .val (.int p2), .val (.int p3), .val (.int (Int32.ofNat (256 * i + r))), .val (.int (Int32.ofNat (256 * i2 + r2))), .unset, .unset, .unset, .unset, .unset, .unset] []))
    rcases own_bits p3 with ⟨f1 | f1, ⟨f2, f3⟩ | ⟨f2, f3⟩⟩
    · show own_Ends p e below s _ _ _ (s₁.setTop (mkF m 32 #[.val (.int p1), .val (.int p2), .val (.int p3), .val (.int (Int32.ofNat (256 * i + r))), .val (.int (Int32.ofNat (256 * i2 + r2))), .unset, .unset, .unset, .unset, .unset, .unset] []))
      refine own_step (fun _ kc_ => XS.iconst X0.here hx rfl (hb hby at_32) (XS.iloadN X0.here hx rfl (hb hby at_33) rfl (XS.iconst X0.here hx rfl (hb hby at_34) (XS.iand X0.here hx rfl (hb hby at_35) rfl kc_)))) ?_
      show own_Ends p e below s _ _ _ (s₁.setTop (mkF m 36 #[.val (.int p1), .val (.int p2), .val (.int p3), .val (.int (Int32.ofNat (256 * i + r))), .val (.int (Int32.ofNat (256 * i2 + r2))), .unset, .unset, .unset, .unset, .unset, .unset] [(.int (p3 &&& (1 : Int32))), (.int (1 : Int32))]))
      rw [f1]
      show own_Ends p e below s _ _ _ (s₁.setTop (mkF m 36 #[.val (.int p1), .val (.int p2), .val (.int p3), .val (.int (Int32.ofNat (256 * i + r))), .val (.int (Int32.ofNat (256 * i2 + r2))), .unset, .unset, .unset, .unset, .unset, .unset] [(.int (0 : Int32)), (.int (1 : Int32))]))
      refine own_step (fun _ kc_ => XS.iadd X0.here hx rfl (hb hby at_36) rfl kc_) ?_
      show own_Ends p e below s _ _ _ (s₁.setTop (mkF m 37 #[.val (.int p1), .val (.int p2), .val (.int p3), .val (.int (Int32.ofNat (256 * i + r))), .val (.int (Int32.ofNat (256 * i2 + r2))), .unset, .unset, .unset, .unset, .unset, .unset] [(.int ((1 : Int32) + (0 : Int32)))]))
      rw [show ((1 : Int32) + (0 : Int32)) = (1 : Int32) from by decide]
      show own_Ends p e below s _ _ _ (s₁.setTop (mkF m 37 #[.val (.int p1), .val (.int p2), .val (.int p3), .val (.int (Int32.ofNat (256 * i + r))), .val (.int (Int32.ofNat (256 * i2 + r2))), .unset, .unset, .unset, .unset, .unset, .unset] [(.int (1 : Int32))]))
      refine own_step (fun _ kc_ => XS.istore X0.here hx rfl (hb hby at_37) rfl (l' := #[.val (.int p1), .val (.int p2), .val (.int p3), .val (.int (Int32.ofNat (256 * i + r))), .val (.int (Int32.ofNat (256 * i2 + r2))), .val (.int (1 : Int32)), .unset, .unset, .unset, .unset, .unset]) rfl (XS.iconst X0.here hx rfl (hb hby at_39) (XS.iloadN X0.here hx rfl (hb hby at_40) rfl (XS.iconst X0.here hx rfl (hb hby at_41) (XS.ishr X0.here hx rfl (hb hby at_42) rfl (XS.iconst X0.here hx rfl (hb hby at_43) (XS.iand X0.here hx rfl (hb hby at_44) rfl kc_))))))) ?_
      show own_Ends p e below s _ _ _ (s₁.setTop (mkF m 45 #[.val (.int p1), .val (.int p2), .val (.int p3), .val (.int (Int32.ofNat (256 * i + r))), .val (.int (Int32.ofNat (256 * i2 + r2))), .val (.int (1 : Int32)), .unset, .unset, .unset, .unset, .unset] [(.int ((p3 >>> ((1 : Int32) &&& 31)) &&& (1 : Int32))), (.int (1 : Int32))]))
      rw [f3]
      show own_Ends p e below s _ _ _ (s₁.setTop (mkF m 45 #[.val (.int p1), .val (.int p2), .val (.int p3), .val (.int (Int32.ofNat (256 * i + r))), .val (.int (Int32.ofNat (256 * i2 + r2))), .val (.int (1 : Int32)), .unset, .unset, .unset, .unset, .unset] [(.int (0 : Int32)), (.int (1 : Int32))]))
      refine own_step (fun _ kc_ => XS.iadd X0.here hx rfl (hb hby at_45) rfl kc_) ?_
      show own_Ends p e below s _ _ _ (s₁.setTop (mkF m 46 #[.val (.int p1), .val (.int p2), .val (.int p3), .val (.int (Int32.ofNat (256 * i + r))), .val (.int (Int32.ofNat (256 * i2 + r2))), .val (.int (1 : Int32)), .unset, .unset, .unset, .unset, .unset] [(.int ((1 : Int32) + (0 : Int32)))]))
      rw [show ((1 : Int32) + (0 : Int32)) = (1 : Int32) from by decide]
      show own_Ends p e below s _ _ _ (s₁.setTop (mkF m 46 #[.val (.int p1), .val (.int p2), .val (.int p3), .val (.int (Int32.ofNat (256 * i + r))), .val (.int (Int32.ofNat (256 * i2 + r2))), .val (.int (1 : Int32)), .unset, .unset, .unset, .unset, .unset] [(.int (1 : Int32))]))
      refine own_step (fun _ kc_ => XS.istore X0.here hx rfl (hb hby at_46) rfl (l' := #[.val (.int p1), .val (.int p2), .val (.int p3), .val (.int (Int32.ofNat (256 * i + r))), .val (.int (Int32.ofNat (256 * i2 + r2))), .val (.int (1 : Int32)), .val (.int (1 : Int32)), .unset, .unset, .unset, .unset]) rfl kc_) ?_
      show own_Ends p e below s _ _ _ (s₁.setTop (mkF m 48 #[.val (.int p1), .val (.int p2), .val (.int p3), .val (.int (Int32.ofNat (256 * i + r))), .val (.int (Int32.ofNat (256 * i2 + r2))), .val (.int (1 : Int32)), .val (.int (1 : Int32)), .unset, .unset, .unset, .unset] []))
      obtain ⟨T45, h45, X45, e45, E45, A45, D45, -, st45⟩ := newO X0 hx hZ hown (hw _ (List.mem_of_getElem? (i := 1) rfl)) (hw _ (List.mem_of_getElem? (i := 2) rfl)) (hw _ (List.mem_of_getElem? (i := 3) rfl)) e0 (g := (mkF m 48 #[.val (.int p1), .val (.int p2), .val (.int p3), .val (.int (Int32.ofNat (256 * i + r))), .val (.int (Int32.ofNat (256 * i2 + r2))), .val (.int (1 : Int32)), .val (.int (1 : Int32)), .unset, .unset, .unset, .unset] [])) rfl (hb hby at_48) (by decide : 0 + 1 ≤ _) (by decide : 0 + 1 ≤ _)
      obtain ⟨b45, g45⟩ : ∃ z, z = h0.size := ⟨_, rfl⟩
      rw [← g45] at A45 D45 st45
      have n0_b45 : n0 ≤ b45 := Nat.le_trans Z0 (Nat.le_of_eq g45.symm)
      have Zs45 := Nat.le_trans Z0 E45.1
      have F_pages_b45 : Fld Z h45 b45 "com/example/wakachi/wakachi/UnitCounts" "pages" "[[J" .null := D45 (Or.inr (hw _ (List.mem_of_getElem? (i := 13) rfl))) (ty := (.array (.array .long))) (by decide)
      refine own_step (fun _ kc_ => st45 _ kc_) ?_
      show own_Ends p e below s _ _ _ (T45.setTop (mkF m 51 #[.val (.int p1), .val (.int p2), .val (.int p3), .val (.int (Int32.ofNat (256 * i + r))), .val (.int (Int32.ofNat (256 * i2 + r2))), .val (.int (1 : Int32)), .val (.int (1 : Int32)), .unset, .unset, .unset, .unset] [(.ref b45)]))
      refine own_step (fun _ kc_ => XS.dup X45.here hx rfl (hb hby at_51) rfl rfl kc_) ?_
      show own_Ends p e below s _ _ _ (T45.setTop (mkF m 52 #[.val (.int p1), .val (.int p2), .val (.int p3), .val (.int (Int32.ofNat (256 * i + r))), .val (.int (Int32.ofNat (256 * i2 + r2))), .val (.int (1 : Int32)), .val (.int (1 : Int32)), .unset, .unset, .unset, .unset] [(.ref b45), (.ref b45)]))
      obtain ⟨_, _, ⟨T46, L46, k46, n46⟩, -, X46, ⟨Lc46, hQ46, l46, y46, z46⟩, st46⟩ := X45.specialBack hx (y := (⟨"com/example/wakachi/wakachi/UnitCounts", "<init>", "()V"⟩ : MethodName)) rfl hown (mvT hZ (hw _ (List.mem_of_getElem? (i := 4) rfl))) (mvT hZ (hw _ (List.mem_of_getElem? (i := 5) rfl))) (mvT hZ (hw _ (List.mem_of_getElem? (i := 6) rfl))) (by decide) (backOf (W := 1) (rm1 l Z a0 hw [] b45  h45 n0 Zs45 A45 F_pages_b45 n0_b45) hZ (hw _ (List.mem_of_getElem? (i := 6) rfl)) (hw _ (List.mem_of_getElem? (i := 3) rfl)) (by decide) (by decide)) (g := (mkF m 52 #[.val (.int p1), .val (.int p2), .val (.int p3), .val (.int (Int32.ofNat (256 * i + r))), .val (.int (Int32.ofNat (256 * i2 + r2))), .val (.int (1 : Int32)), .val (.int (1 : Int32)), .unset, .unset, .unset, .unset] [(.ref b45), (.ref b45)])) rfl (by rw [hml]; rfl) (Steps.refl _) (a := b45) (argsL := []) (rest := [(.ref b45)]) (lenOf pd_0 rfl) rfl (by show 2 * 0 + _ ≤ _; exact Nat.le_of_eq rfl) (hb hby at_52) (fun _ _ => ⟨rfl, e45, (by decide : 1 + 1 ≤ _), (by decide : 1 + 256 ≤ _)⟩)
      dsimp only [Pt.U, Pt.locs, Pt.cells, Pt.slots] at X46 l46 y46 z46 st46 hQ46
      subst y46 z46
      obtain ⟨rfl, N46q, K46k, pa, fP46, U46⟩ := hQ46
      have E_b45_46 := (A45).keep K46k
      have Zs46 := Nat.le_trans Zs45 K46k.1
      have N46 : Fr n0 L46 := by rw [l46]; exact Fr.app N0 N46q
      refine own_step (fun _ kc_ => st46.trans kc_) ?_
      show own_Ends p e below s _ _ _ (T46.setTop (mkF m 55 #[.val (.int p1), .val (.int p2), .val (.int p3), .val (.int (Int32.ofNat (256 * i + r))), .val (.int (Int32.ofNat (256 * i2 + r2))), .val (.int (1 : Int32)), .val (.int (1 : Int32)), .unset, .unset, .unset, .unset] [(.ref b45)]))
      refine own_step (fun _ kc_ => XS.astore X46.here hx rfl (hb hby at_55) rfl rfl (l' := #[.val (.int p1), .val (.int p2), .val (.int p3), .val (.int (Int32.ofNat (256 * i + r))), .val (.int (Int32.ofNat (256 * i2 + r2))), .val (.int (1 : Int32)), .val (.int (1 : Int32)), .val (.ref b45), .unset, .unset, .unset]) rfl (XS.aload X46.here hx rfl (hb hby at_57) rfl rfl (XS.iloadN X46.here hx rfl (hb hby at_59) rfl kc_))) ?_
      show own_Ends p e below s _ _ _ (T46.setTop (mkF m 60 #[.val (.int p1), .val (.int p2), .val (.int p3), .val (.int (Int32.ofNat (256 * i + r))), .val (.int (Int32.ofNat (256 * i2 + r2))), .val (.int (1 : Int32)), .val (.int (1 : Int32)), .val (.ref b45), .unset, .unset, .unset] [(.int (Int32.ofNat (256 * i + r))), (.ref b45)]))
      obtain ⟨cq47, kq47, q47a, q47b, q47c⟩ := isOf hZ rfl E_b45_46
      obtain ⟨_, _, ⟨T47, L47, k47, n47⟩, -, X47, ⟨Lc47, hQ47, l47, y47, z47⟩, st47⟩ := X46.virtualBack hx (y := (⟨"com/example/wakachi/wakachi/UnitCounts", "add", "(C)V"⟩ : MethodName)) (z := (⟨"com/example/wakachi/wakachi/UnitCounts", "add", "(C)V"⟩ : MethodName)) hown (mvT hZ (hw _ (List.mem_of_getElem? (i := 14) rfl))) (mvT hZ (hw _ (List.mem_of_getElem? (i := 15) rfl))) (notFace_of_selects (args := #[]) (mvT hZ (hw _ (List.mem_of_getElem? (i := 17) rfl)))) (mvT hZ (hw _ (List.mem_of_getElem? (i := 17) rfl))) (mvT hZ (hw _ (List.mem_of_getElem? (i := 16) rfl))) (by decide) (backOf (W := 0) (rmA l Z a0 hw [] b45 pa (fun _ => none) (fun _ => 0) i r T46.heap n0 Zs46 hi hr E_b45_46 fP46 U46) hZ (hw _ (List.mem_of_getElem? (i := 18) rfl)) (hw _ (List.mem_of_getElem? (i := 3) rfl)) (by decide) (by decide)) q47a q47c (g := (mkF m 60 #[.val (.int p1), .val (.int p2), .val (.int p3), .val (.int (Int32.ofNat (256 * i + r))), .val (.int (Int32.ofNat (256 * i2 + r2))), .val (.int (1 : Int32)), .val (.int (1 : Int32)), .val (.ref b45), .unset, .unset, .unset] [(.int (Int32.ofNat (256 * i + r))), (.ref b45)])) rfl (by rw [hml]; rfl) (Steps.refl _) (argsL := [(.int (Int32.ofNat (256 * i + r)))]) (rest := []) (lenOf pd_5 rfl) rfl (by show 2 * 0 + _ ≤ _; exact Nat.le_of_eq rfl) (hb hby at_60) (fun _ _ => ⟨rfl, rfl, (by decide : 2 + 1 ≤ _), (by decide : 257 + 256 ≤ _)⟩)
      dsimp only [Pt.U, Pt.locs, Pt.cells, Pt.slots] at X47 l47 y47 z47 st47 hQ47
      subst y47 z47
      obtain ⟨rfl, N47q, Zs47, E47e, F47f, B47, U47⟩ := hQ47
      obtain ⟨cn47, hcn47⟩ : ∃ cn, cn = own_up (fun _ => 0) (256 * i + r) ((fun _ => 0) (256 * i + r) + 1) := ⟨_, rfl⟩
      rw [← hcn47] at U47
      have N47 : Fr n0 L47 := by rw [l47]; exact Fr.app N46 N47q
      refine own_step (fun _ kc_ => st47.trans kc_) ?_
      show own_Ends p e below s _ _ _ (T47.setTop (mkF m 63 #[.val (.int p1), .val (.int p2), .val (.int p3), .val (.int (Int32.ofNat (256 * i + r))), .val (.int (Int32.ofNat (256 * i2 + r2))), .val (.int (1 : Int32)), .val (.int (1 : Int32)), .val (.ref b45), .unset, .unset, .unset] []))
      refine own_step (fun _ kc_ => XS.aload X47.here hx rfl (hb hby at_63) rfl rfl (XS.iload X47.here hx rfl (hb hby at_65) rfl kc_)) ?_
      show own_Ends p e below s _ _ _ (T47.setTop (mkF m 67 #[.val (.int p1), .val (.int p2), .val (.int p3), .val (.int (Int32.ofNat (256 * i + r))), .val (.int (Int32.ofNat (256 * i2 + r2))), .val (.int (1 : Int32)), .val (.int (1 : Int32)), .val (.ref b45), .unset, .unset, .unset] [(.int (Int32.ofNat (256 * i2 + r2))), (.ref b45)]))
      obtain ⟨cq48, kq48, q48a, q48b, q48c⟩ := isOf hZ rfl E47e
      obtain ⟨_, _, ⟨T48, L48, k48, n48⟩, -, X48, ⟨Lc48, hQ48, l48, y48, z48⟩, st48⟩ := X47.virtualBack hx (y := (⟨"com/example/wakachi/wakachi/UnitCounts", "add", "(C)V"⟩ : MethodName)) (z := (⟨"com/example/wakachi/wakachi/UnitCounts", "add", "(C)V"⟩ : MethodName)) hown (mvT hZ (hw _ (List.mem_of_getElem? (i := 14) rfl))) (mvT hZ (hw _ (List.mem_of_getElem? (i := 15) rfl))) (notFace_of_selects (args := #[]) (mvT hZ (hw _ (List.mem_of_getElem? (i := 17) rfl)))) (mvT hZ (hw _ (List.mem_of_getElem? (i := 17) rfl))) (mvT hZ (hw _ (List.mem_of_getElem? (i := 16) rfl))) (by decide) (backOf (W := 0) (rmA l Z a0 hw [] b45 pa B47 cn47 i2 r2 T47.heap n0 Zs47 hi2 hr2 E47e F47f U47) hZ (hw _ (List.mem_of_getElem? (i := 18) rfl)) (hw _ (List.mem_of_getElem? (i := 3) rfl)) (by decide) (by decide)) q48a q48c (g := (mkF m 67 #[.val (.int p1), .val (.int p2), .val (.int p3), .val (.int (Int32.ofNat (256 * i + r))), .val (.int (Int32.ofNat (256 * i2 + r2))), .val (.int (1 : Int32)), .val (.int (1 : Int32)), .val (.ref b45), .unset, .unset, .unset] [(.int (Int32.ofNat (256 * i2 + r2))), (.ref b45)])) rfl (by rw [hml]; rfl) (Steps.refl _) (argsL := [(.int (Int32.ofNat (256 * i2 + r2)))]) (rest := []) (lenOf pd_5 rfl) rfl (by show 2 * 0 + _ ≤ _; exact Nat.le_of_eq rfl) (hb hby at_67) (fun _ _ => ⟨rfl, rfl, (by decide : 3 + 1 ≤ _), (by decide : 513 + 256 ≤ _)⟩)
      dsimp only [Pt.U, Pt.locs, Pt.cells, Pt.slots] at X48 l48 y48 z48 st48 hQ48
      subst y48 z48
      obtain ⟨rfl, N48q, Zs48, E48e, F48f, B48, U48⟩ := hQ48
      obtain ⟨cn48, hcn48⟩ : ∃ cn, cn = own_up cn47 (256 * i2 + r2) (cn47 (256 * i2 + r2) + 1) := ⟨_, rfl⟩
      rw [← hcn48] at U48
      have N48 : Fr n0 L48 := by rw [l48]; exact Fr.app N47 N48q
      refine own_step (fun _ kc_ => st48.trans kc_) ?_
      show own_Ends p e below s _ _ _ (T48.setTop (mkF m 70 #[.val (.int p1), .val (.int p2), .val (.int p3), .val (.int (Int32.ofNat (256 * i + r))), .val (.int (Int32.ofNat (256 * i2 + r2))), .val (.int (1 : Int32)), .val (.int (1 : Int32)), .val (.ref b45), .unset, .unset, .unset] []))
      refine own_step (fun _ kc_ => XS.iloadN X48.here hx rfl (hb hby at_70) rfl (XS.iconst X48.here hx rfl (hb hby at_71) (XS.iand X48.here hx rfl (hb hby at_72) rfl kc_))) ?_
      show own_Ends p e below s _ _ _ (T48.setTop (mkF m 73 #[.val (.int p1), .val (.int p2), .val (.int p3), .val (.int (Int32.ofNat (256 * i + r))), .val (.int (Int32.ofNat (256 * i2 + r2))), .val (.int (1 : Int32)), .val (.int (1 : Int32)), .val (.ref b45), .unset, .unset, .unset] [(.int (p3 &&& (1 : Int32)))]))
      rw [f1]
      show own_Ends p e below s _ _ _ (T48.setTop (mkF m 73 #[.val (.int p1), .val (.int p2), .val (.int p3), .val (.int (Int32.ofNat (256 * i + r))), .val (.int (Int32.ofNat (256 * i2 + r2))), .val (.int (1 : Int32)), .val (.int (1 : Int32)), .val (.ref b45), .unset, .unset, .unset] [(.int (0 : Int32))]))
      refine own_step (fun _ kc_ => XS.ifYes X48.here hx rfl (pc0 := 73) (pc' := 82) rfl (hb hby at_73) rfl (XT.i0_eq_t (by decide : (0 : Int32) = 0)) (by decide) (by decide) (XS.iloadN X48.here hx rfl (hb hby at_82) rfl (XS.iconst X48.here hx rfl (hb hby at_83) (XS.iand X48.here hx rfl (hb hby at_84) rfl kc_)))) ?_
      show own_Ends p e below s _ _ _ (T48.setTop (mkF m 85 #[.val (.int p1), .val (.int p2), .val (.int p3), .val (.int (Int32.ofNat (256 * i + r))), .val (.int (Int32.ofNat (256 * i2 + r2))), .val (.int (1 : Int32)), .val (.int (1 : Int32)), .val (.ref b45), .unset, .unset, .unset] [(.int (p3 &&& (2 : Int32)))]))
      rw [f2]
      show own_Ends p e below s _ _ _ (T48.setTop (mkF m 85 #[.val (.int p1), .val (.int p2), .val (.int p3), .val (.int (Int32.ofNat (256 * i + r))), .val (.int (Int32.ofNat (256 * i2 + r2))), .val (.int (1 : Int32)), .val (.int (1 : Int32)), .val (.ref b45), .unset, .unset, .unset] [(.int (0 : Int32))]))
      refine own_step (fun _ kc_ => XS.ifYes X48.here hx rfl (pc0 := 85) (pc' := 95) rfl (hb hby at_85) rfl (XT.i0_eq_t (by decide : (0 : Int32) = 0)) (by decide) (by decide) (XS.aload X48.here hx rfl (hb hby at_95) rfl rfl kc_)) ?_
      show own_Ends p e below s _ _ _ (T48.setTop (mkF m 97 #[.val (.int p1), .val (.int p2), .val (.int p3), .val (.int (Int32.ofNat (256 * i + r))), .val (.int (Int32.ofNat (256 * i2 + r2))), .val (.int (1 : Int32)), .val (.int (1 : Int32)), .val (.ref b45), .unset, .unset, .unset] [(.ref b45)]))
      have hU : (256 * i + r) < 65536 := by omega
      have hV : (256 * i2 + r2) < 65536 := by omega
      rcases Nat.lt_trichotomy (256 * i + r) (256 * i2 + r2) with q | q | q
      · have e1 : ((256 * i + r) = (256 * i2 + r2)) = False := eq_false (by omega)
        have e2 : ((256 * i2 + r2) = (256 * i + r)) = False := eq_false (by omega)
        have cU : cn48 (256 * i + r) = Int64.ofNat 1 := by
          simp only [hcn48, hcn47, own_up, e1, e2, eq_self, if_true, if_false]; decide
        have cV : cn48 (256 * i2 + r2) = Int64.ofNat 1 := by
          simp only [hcn48, hcn47, own_up, e1, e2, eq_self, if_true, if_false]; decide
        have c0 : ∀ z, z ≠ (256 * i + r) → z ≠ (256 * i2 + r2) → cn48 z = 0 := by
          intro z h1 h2
          simp only [hcn48, hcn47, own_up, if_neg h1, if_neg h2]
        have hu := own_two (own_iff2 cU cV (by decide) (by decide) c0) q hV
        have hlt : ¬ own_key cn48 (256 * i2 + r2) < own_key cn48 (256 * i + r) := by rw [(own_klt hV (by decide) cV hU (by decide) cU)]; omega
        show own_Ends p e below s _ _ _ (T48.setTop (mkF m 97 #[.val (.int p1), .val (.int p2), .val (.int p3), .val (.int (Int32.ofNat (256 * i + r))), .val (.int (Int32.ofNat (256 * i2 + r2))), .val (.int (1 : Int32)), .val (.int (1 : Int32)), .val (.ref b45), .unset, .unset, .unset] [(.ref b45)]))
        obtain ⟨cq49, kq49, q49a, q49b, q49c⟩ := isOf hZ rfl E48e
        obtain ⟨_, _, ⟨T49, L49, k49, n49⟩, -, X49, ⟨Lc49, hQ49, l49, y49, z49⟩, st49⟩ := X48.virtualBack hx (y := (⟨"com/example/wakachi/wakachi/UnitCounts", "byFrequency", "()[C"⟩ : MethodName)) (z := (⟨"com/example/wakachi/wakachi/UnitCounts", "byFrequency", "()[C"⟩ : MethodName)) hown (mvT hZ (hw _ (List.mem_of_getElem? (i := 21) rfl))) (mvT hZ (hw _ (List.mem_of_getElem? (i := 22) rfl))) (notFace_of_selects (args := #[]) (mvT hZ (hw _ (List.mem_of_getElem? (i := 24) rfl)))) (mvT hZ (hw _ (List.mem_of_getElem? (i := 24) rfl))) (mvT hZ (hw _ (List.mem_of_getElem? (i := 23) rfl))) (by decide) (backOf (W := 0) (rmB2a l Z a0 hw [] b45 pa B48 cn48 (256 * i + r) (256 * i2 + r2) T48.heap n0 Zs48 hu E48e F48f U48 hlt) hZ (hw _ (List.mem_of_getElem? (i := 25) rfl)) (hw _ (List.mem_of_getElem? (i := 3) rfl)) (by decide) (by decide)) q49a q49c (g := (mkF m 97 #[.val (.int p1), .val (.int p2), .val (.int p3), .val (.int (Int32.ofNat (256 * i + r))), .val (.int (Int32.ofNat (256 * i2 + r2))), .val (.int (1 : Int32)), .val (.int (1 : Int32)), .val (.ref b45), .unset, .unset, .unset] [(.ref b45)])) rfl (by rw [hml]; rfl) (Steps.refl _) (argsL := []) (rest := []) (lenOf pd_6 rfl) rfl (by show 2 * 0 + _ ≤ _; exact Nat.le_of_eq rfl) (hb hby at_97) (fun _ _ => ⟨rfl, rfl, (by decide : 4 + 2 ≤ _), (by decide : 769 + 4 ≤ _)⟩)
        dsimp only [Pt.U, Pt.locs, Pt.cells, Pt.slots] at X49 l49 y49 z49 st49 hQ49
        subst y49 z49
        obtain ⟨N49q, ra, rfl, A49⟩ := hQ49
        have N49 : Fr n0 L49 := by rw [l49]; exact Fr.app N48 N49q
        refine own_step (fun _ kc_ => st49.trans kc_) ?_
        show own_Ends p e below s _ _ _ (T49.setTop (mkF m 100 #[.val (.int p1), .val (.int p2), .val (.int p3), .val (.int (Int32.ofNat (256 * i + r))), .val (.int (Int32.ofNat (256 * i2 + r2))), .val (.int (1 : Int32)), .val (.int (1 : Int32)), .val (.ref b45), .unset, .unset, .unset] [(.ref ra)]))
        refine own_step (fun _ kc_ => XS.astore X49.here hx rfl (hb hby at_100) rfl rfl (l' := #[.val (.int p1), .val (.int p2), .val (.int p3), .val (.int (Int32.ofNat (256 * i + r))), .val (.int (Int32.ofNat (256 * i2 + r2))), .val (.int (1 : Int32)), .val (.int (1 : Int32)), .val (.ref b45), .val (.ref ra), .unset, .unset]) rfl (XS.iloadN X49.here hx rfl (hb hby at_102) rfl (XS.iload X49.here hx rfl (hb hby at_103) rfl (XS.icmpYes X49.here hx rfl (pc0 := 105) (pc' := 129) rfl (hb hby at_105) rfl (XT.ii_ne_t (own_neI (by omega) hU hV : ¬ ((Int32.ofNat (256 * i + r)) = (Int32.ofNat (256 * i2 + r2))))) (by decide) (by decide) (XS.iload X49.here hx rfl (hb hby at_129) rfl (XS.iload X49.here hx rfl (hb hby at_131) rfl (XS.icmpYes X49.here hx rfl (pc0 := 133) (pc' := 146) rfl (hb hby at_133) rfl (XT.ii_le_t (by decide : ¬ ((1 : Int32) < (1 : Int32)))) (by decide) (by decide) (XS.iload X49.here hx rfl (hb hby at_146) rfl kc_)))))))) ?_
        show own_Ends p e below s _ _ _ (T49.setTop (mkF m 148 #[.val (.int p1), .val (.int p2), .val (.int p3), .val (.int (Int32.ofNat (256 * i + r))), .val (.int (Int32.ofNat (256 * i2 + r2))), .val (.int (1 : Int32)), .val (.int (1 : Int32)), .val (.ref b45), .val (.ref ra), .unset, .unset] [(.int (1 : Int32))]))
        refine own_step (fun _ kc_ => XS.iload X49.here hx rfl (hb hby at_148) rfl (XS.icmpYes X49.here hx rfl (pc0 := 150) (pc' := 163) rfl (hb hby at_150) rfl (XT.ii_le_t (by decide : ¬ ((1 : Int32) < (1 : Int32)))) (by decide) (by decide) (XS.iloadN X49.here hx rfl (hb hby at_163) rfl (XS.iload X49.here hx rfl (hb hby at_164) rfl (XS.icmpNo X49.here hx rfl (hb hby at_166) rfl (XT.ii_ge_f ((own_ltI hU hV).mpr q : (Int32.ofNat (256 * i + r)) < (Int32.ofNat (256 * i2 + r2)))) (XS.iloadN X49.here hx rfl (hb hby at_169) rfl (XS.istore X49.here hx rfl (hb hby at_170) rfl (l' := #[.val (.int p1), .val (.int p2), .val (.int p3), .val (.int (Int32.ofNat (256 * i + r))), .val (.int (Int32.ofNat (256 * i2 + r2))), .val (.int (1 : Int32)), .val (.int (1 : Int32)), .val (.ref b45), .val (.ref ra), .val (.int (Int32.ofNat (256 * i + r))), .unset]) rfl (XS.iload X49.here hx rfl (hb hby at_172) rfl kc_)))))))) ?_
        show own_Ends p e below s _ _ _ (T49.setTop (mkF m 174 #[.val (.int p1), .val (.int p2), .val (.int p3), .val (.int (Int32.ofNat (256 * i + r))), .val (.int (Int32.ofNat (256 * i2 + r2))), .val (.int (1 : Int32)), .val (.int (1 : Int32)), .val (.ref b45), .val (.ref ra), .val (.int (Int32.ofNat (256 * i + r))), .unset] [(.int (Int32.ofNat (256 * i2 + r2)))]))
        refine own_step (fun _ kc_ => XS.istore X49.here hx rfl (hb hby at_174) rfl (l' := #[.val (.int p1), .val (.int p2), .val (.int p3), .val (.int (Int32.ofNat (256 * i + r))), .val (.int (Int32.ofNat (256 * i2 + r2))), .val (.int (1 : Int32)), .val (.int (1 : Int32)), .val (.ref b45), .val (.ref ra), .val (.int (Int32.ofNat (256 * i + r))), .val (.int (Int32.ofNat (256 * i2 + r2)))]) rfl (XS.goto X49.here hx rfl (pc0 := 176) (pc' := 186) rfl (hb hby at_176) (by decide) (by decide) (XS.aload X49.here hx rfl (hb hby at_186) rfl rfl (own_alen X49 hx hZ rfl A49 (n := 2) (z := (2 : Int32)) rfl rfl (hb hby at_188) _ (XS.iconst X49.here hx rfl (hb hby at_189) (XS.icmpNo X49.here hx rfl (hb hby at_190) rfl (XT.ii_ne_f (by decide : (2 : Int32) = (2 : Int32))) (XS.aload X49.here hx rfl (hb hby at_193) rfl rfl (XS.iconst X49.here hx rfl (hb hby at_195) kc_)))))))) ?_
        show own_Ends p e below s _ _ _ (T49.setTop (mkF m 196 #[.val (.int p1), .val (.int p2), .val (.int p3), .val (.int (Int32.ofNat (256 * i + r))), .val (.int (Int32.ofNat (256 * i2 + r2))), .val (.int (1 : Int32)), .val (.int (1 : Int32)), .val (.ref b45), .val (.ref ra), .val (.int (Int32.ofNat (256 * i + r))), .val (.int (Int32.ofNat (256 * i2 + r2)))] [(.int (0 : Int32)), (.ref ra)]))
        refine own_step (fun _ kc_ => own_caload X49 hx hZ rfl A49 (j := (0 : Int32)) (by decide) (i := 0) rfl (v := (.int (Int32.ofNat (256 * i + r)))) rfl (hb hby at_196) _ (XS.iload X49.here hx rfl (hb hby at_197) rfl (XS.icmpNo X49.here hx rfl (hb hby at_199) rfl (XT.ii_ne_f (rfl : (Int32.ofNat (256 * i + r)) = (Int32.ofNat (256 * i + r)))) (XS.aload X49.here hx rfl (hb hby at_202) rfl rfl (XS.iconst X49.here hx rfl (hb hby at_204) (own_caload X49 hx hZ rfl A49 (j := (1 : Int32)) (by decide) (i := 1) rfl (v := (.int (Int32.ofNat (256 * i2 + r2)))) rfl (hb hby at_205) _ (XS.iload X49.here hx rfl (hb hby at_206) rfl (XS.icmpNo X49.here hx rfl (hb hby at_208) rfl (XT.ii_ne_f (rfl : (Int32.ofNat (256 * i2 + r2)) = (Int32.ofNat (256 * i2 + r2)))) kc_)))))))) ?_
        show own_Ends p e below s _ _ _ (T49.setTop (mkF m 211 #[.val (.int p1), .val (.int p2), .val (.int p3), .val (.int (Int32.ofNat (256 * i + r))), .val (.int (Int32.ofNat (256 * i2 + r2))), .val (.int (1 : Int32)), .val (.int (1 : Int32)), .val (.ref b45), .val (.ref ra), .val (.int (Int32.ofNat (256 * i + r))), .val (.int (Int32.ofNat (256 * i2 + r2)))] []))
        refine own_step (fun _ kc_ => XS.iconst X49.here hx rfl (hb hby at_211) (XS.goto X49.here hx rfl (pc0 := 212) (pc' := 216) rfl (hb hby at_212) (by decide) (by decide) kc_)) ?_
        show own_Ends p e below s _ _ _ (T49.setTop (mkF m 216 #[.val (.int p1), .val (.int p2), .val (.int p3), .val (.int (Int32.ofNat (256 * i + r))), .val (.int (Int32.ofNat (256 * i2 + r2))), .val (.int (1 : Int32)), .val (.int (1 : Int32)), .val (.ref b45), .val (.ref ra), .val (.int (Int32.ofNat (256 * i + r))), .val (.int (Int32.ofNat (256 * i2 + r2)))] [(.int (1 : Int32))]))
        exact own_retN X49 hx (t := .boolean) hret (by simp) hlk (hb hby at_216) (by decide) (by decide) rfl ⟨rfl, N49⟩
      · have cU : cn48 (256 * i + r) = Int64.ofNat 2 := by
          simp only [hcn48, hcn47, own_up, ← q, eq_self, if_true]; decide
        have c0 : ∀ z, z ≠ (256 * i + r) → cn48 z = 0 := by
          intro z h1
          simp only [hcn48, hcn47, own_up, ← q, if_neg h1]
        have hu := own_uno cU (by decide) c0 hU
        show own_Ends p e below s _ _ _ (T48.setTop (mkF m 97 #[.val (.int p1), .val (.int p2), .val (.int p3), .val (.int (Int32.ofNat (256 * i + r))), .val (.int (Int32.ofNat (256 * i2 + r2))), .val (.int (1 : Int32)), .val (.int (1 : Int32)), .val (.ref b45), .unset, .unset, .unset] [(.ref b45)]))
        obtain ⟨cq50, kq50, q50a, q50b, q50c⟩ := isOf hZ rfl E48e
        obtain ⟨_, _, ⟨T50, L50, k50, n50⟩, -, X50, ⟨Lc50, hQ50, l50, y50, z50⟩, st50⟩ := X48.virtualBack hx (y := (⟨"com/example/wakachi/wakachi/UnitCounts", "byFrequency", "()[C"⟩ : MethodName)) (z := (⟨"com/example/wakachi/wakachi/UnitCounts", "byFrequency", "()[C"⟩ : MethodName)) hown (mvT hZ (hw _ (List.mem_of_getElem? (i := 21) rfl))) (mvT hZ (hw _ (List.mem_of_getElem? (i := 22) rfl))) (notFace_of_selects (args := #[]) (mvT hZ (hw _ (List.mem_of_getElem? (i := 24) rfl)))) (mvT hZ (hw _ (List.mem_of_getElem? (i := 24) rfl))) (mvT hZ (hw _ (List.mem_of_getElem? (i := 23) rfl))) (by decide) (backOf (W := 0) (rmB1a l Z a0 hw [] b45 pa B48 cn48 (256 * i + r) T48.heap n0 Zs48 hu E48e F48f U48) hZ (hw _ (List.mem_of_getElem? (i := 25) rfl)) (hw _ (List.mem_of_getElem? (i := 3) rfl)) (by decide) (by decide)) q50a q50c (g := (mkF m 97 #[.val (.int p1), .val (.int p2), .val (.int p3), .val (.int (Int32.ofNat (256 * i + r))), .val (.int (Int32.ofNat (256 * i2 + r2))), .val (.int (1 : Int32)), .val (.int (1 : Int32)), .val (.ref b45), .unset, .unset, .unset] [(.ref b45)])) rfl (by rw [hml]; rfl) (Steps.refl _) (argsL := []) (rest := []) (lenOf pd_6 rfl) rfl (by show 2 * 0 + _ ≤ _; exact Nat.le_of_eq rfl) (hb hby at_97) (fun _ _ => ⟨rfl, rfl, (by decide : 4 + 2 ≤ _), (by decide : 769 + 2 ≤ _)⟩)
        dsimp only [Pt.U, Pt.locs, Pt.cells, Pt.slots] at X50 l50 y50 z50 st50 hQ50
        subst y50 z50
        obtain ⟨N50q, ra, rfl, A50⟩ := hQ50
        have N50 : Fr n0 L50 := by rw [l50]; exact Fr.app N48 N50q
        refine own_step (fun _ kc_ => st50.trans kc_) ?_
        show own_Ends p e below s _ _ _ (T50.setTop (mkF m 100 #[.val (.int p1), .val (.int p2), .val (.int p3), .val (.int (Int32.ofNat (256 * i + r))), .val (.int (Int32.ofNat (256 * i2 + r2))), .val (.int (1 : Int32)), .val (.int (1 : Int32)), .val (.ref b45), .unset, .unset, .unset] [(.ref ra)]))
        refine own_step (fun _ kc_ => XS.astore X50.here hx rfl (hb hby at_100) rfl rfl (l' := #[.val (.int p1), .val (.int p2), .val (.int p3), .val (.int (Int32.ofNat (256 * i + r))), .val (.int (Int32.ofNat (256 * i2 + r2))), .val (.int (1 : Int32)), .val (.int (1 : Int32)), .val (.ref b45), .val (.ref ra), .unset, .unset]) rfl (XS.iloadN X50.here hx rfl (hb hby at_102) rfl (XS.iload X50.here hx rfl (hb hby at_103) rfl (XS.icmpNo X50.here hx rfl (hb hby at_105) rfl (XT.ii_ne_f (by rw [q] : (Int32.ofNat (256 * i + r)) = (Int32.ofNat (256 * i2 + r2)))) (XS.aload X50.here hx rfl (hb hby at_108) rfl rfl (own_alen X50 hx hZ rfl A50 (n := 1) (z := (1 : Int32)) rfl rfl (hb hby at_110) _ (XS.iconst X50.here hx rfl (hb hby at_111) (XS.icmpNo X50.here hx rfl (hb hby at_112) rfl (XT.ii_ne_f (by decide : (1 : Int32) = (1 : Int32))) kc_)))))))) ?_
        show own_Ends p e below s _ _ _ (T50.setTop (mkF m 115 #[.val (.int p1), .val (.int p2), .val (.int p3), .val (.int (Int32.ofNat (256 * i + r))), .val (.int (Int32.ofNat (256 * i2 + r2))), .val (.int (1 : Int32)), .val (.int (1 : Int32)), .val (.ref b45), .val (.ref ra), .unset, .unset] []))
        refine own_step (fun _ kc_ => XS.aload X50.here hx rfl (hb hby at_115) rfl rfl (XS.iconst X50.here hx rfl (hb hby at_117) (own_caload X50 hx hZ rfl A50 (j := (0 : Int32)) (by decide) (i := 0) rfl (v := (.int (Int32.ofNat (256 * i + r)))) rfl (hb hby at_118) _ (XS.iloadN X50.here hx rfl (hb hby at_119) rfl (XS.icmpNo X50.here hx rfl (hb hby at_120) rfl (XT.ii_ne_f (rfl : (Int32.ofNat (256 * i + r)) = (Int32.ofNat (256 * i + r)))) (XS.iconst X50.here hx rfl (hb hby at_123) (XS.goto X50.here hx rfl (pc0 := 124) (pc' := 128) rfl (hb hby at_124) (by decide) (by decide) kc_))))))) ?_
        show own_Ends p e below s _ _ _ (T50.setTop (mkF m 128 #[.val (.int p1), .val (.int p2), .val (.int p3), .val (.int (Int32.ofNat (256 * i + r))), .val (.int (Int32.ofNat (256 * i2 + r2))), .val (.int (1 : Int32)), .val (.int (1 : Int32)), .val (.ref b45), .val (.ref ra), .unset, .unset] [(.int (1 : Int32))]))
        exact own_retN X50 hx (t := .boolean) hret (by simp) hlk (hb hby at_128) (by decide) (by decide) rfl ⟨rfl, N50⟩
      · have e1 : ((256 * i + r) = (256 * i2 + r2)) = False := eq_false (by omega)
        have e2 : ((256 * i2 + r2) = (256 * i + r)) = False := eq_false (by omega)
        have cU : cn48 (256 * i + r) = Int64.ofNat 1 := by
          simp only [hcn48, hcn47, own_up, e1, e2, eq_self, if_true, if_false]; decide
        have cV : cn48 (256 * i2 + r2) = Int64.ofNat 1 := by
          simp only [hcn48, hcn47, own_up, e1, e2, eq_self, if_true, if_false]; decide
        have c0 : ∀ z, z ≠ (256 * i + r) → z ≠ (256 * i2 + r2) → cn48 z = 0 := by
          intro z h1 h2
          simp only [hcn48, hcn47, own_up, if_neg h1, if_neg h2]
        have hu := own_two (own_iff2 cV cU (by decide) (by decide) (fun z h1 h2 => c0 z h2 h1)) q hU
        have hlt : ¬ own_key cn48 (256 * i + r) < own_key cn48 (256 * i2 + r2) := by rw [(own_klt hU (by decide) cU hV (by decide) cV)]; omega
        show own_Ends p e below s _ _ _ (T48.setTop (mkF m 97 #[.val (.int p1), .val (.int p2), .val (.int p3), .val (.int (Int32.ofNat (256 * i + r))), .val (.int (Int32.ofNat (256 * i2 + r2))), .val (.int (1 : Int32)), .val (.int (1 : Int32)), .val (.ref b45), .unset, .unset, .unset] [(.ref b45)]))
        obtain ⟨cq51, kq51, q51a, q51b, q51c⟩ := isOf hZ rfl E48e
        obtain ⟨_, _, ⟨T51, L51, k51, n51⟩, -, X51, ⟨Lc51, hQ51, l51, y51, z51⟩, st51⟩ := X48.virtualBack hx (y := (⟨"com/example/wakachi/wakachi/UnitCounts", "byFrequency", "()[C"⟩ : MethodName)) (z := (⟨"com/example/wakachi/wakachi/UnitCounts", "byFrequency", "()[C"⟩ : MethodName)) hown (mvT hZ (hw _ (List.mem_of_getElem? (i := 21) rfl))) (mvT hZ (hw _ (List.mem_of_getElem? (i := 22) rfl))) (notFace_of_selects (args := #[]) (mvT hZ (hw _ (List.mem_of_getElem? (i := 24) rfl)))) (mvT hZ (hw _ (List.mem_of_getElem? (i := 24) rfl))) (mvT hZ (hw _ (List.mem_of_getElem? (i := 23) rfl))) (by decide) (backOf (W := 0) (rmB2a l Z a0 hw [] b45 pa B48 cn48 (256 * i2 + r2) (256 * i + r) T48.heap n0 Zs48 hu E48e F48f U48 hlt) hZ (hw _ (List.mem_of_getElem? (i := 25) rfl)) (hw _ (List.mem_of_getElem? (i := 3) rfl)) (by decide) (by decide)) q51a q51c (g := (mkF m 97 #[.val (.int p1), .val (.int p2), .val (.int p3), .val (.int (Int32.ofNat (256 * i + r))), .val (.int (Int32.ofNat (256 * i2 + r2))), .val (.int (1 : Int32)), .val (.int (1 : Int32)), .val (.ref b45), .unset, .unset, .unset] [(.ref b45)])) rfl (by rw [hml]; rfl) (Steps.refl _) (argsL := []) (rest := []) (lenOf pd_6 rfl) rfl (by show 2 * 0 + _ ≤ _; exact Nat.le_of_eq rfl) (hb hby at_97) (fun _ _ => ⟨rfl, rfl, (by decide : 4 + 2 ≤ _), (by decide : 769 + 4 ≤ _)⟩)
        dsimp only [Pt.U, Pt.locs, Pt.cells, Pt.slots] at X51 l51 y51 z51 st51 hQ51
        subst y51 z51
        obtain ⟨N51q, ra, rfl, A51⟩ := hQ51
        have N51 : Fr n0 L51 := by rw [l51]; exact Fr.app N48 N51q
        refine own_step (fun _ kc_ => st51.trans kc_) ?_
        show own_Ends p e below s _ _ _ (T51.setTop (mkF m 100 #[.val (.int p1), .val (.int p2), .val (.int p3), .val (.int (Int32.ofNat (256 * i + r))), .val (.int (Int32.ofNat (256 * i2 + r2))), .val (.int (1 : Int32)), .val (.int (1 : Int32)), .val (.ref b45), .unset, .unset, .unset] [(.ref ra)]))
        refine own_step (fun _ kc_ => XS.astore X51.here hx rfl (hb hby at_100) rfl rfl (l' := #[.val (.int p1), .val (.int p2), .val (.int p3), .val (.int (Int32.ofNat (256 * i + r))), .val (.int (Int32.ofNat (256 * i2 + r2))), .val (.int (1 : Int32)), .val (.int (1 : Int32)), .val (.ref b45), .val (.ref ra), .unset, .unset]) rfl (XS.iloadN X51.here hx rfl (hb hby at_102) rfl (XS.iload X51.here hx rfl (hb hby at_103) rfl (XS.icmpYes X51.here hx rfl (pc0 := 105) (pc' := 129) rfl (hb hby at_105) rfl (XT.ii_ne_t (own_neI (by omega) hU hV : ¬ ((Int32.ofNat (256 * i + r)) = (Int32.ofNat (256 * i2 + r2))))) (by decide) (by decide) (XS.iload X51.here hx rfl (hb hby at_129) rfl (XS.iload X51.here hx rfl (hb hby at_131) rfl (XS.icmpYes X51.here hx rfl (pc0 := 133) (pc' := 146) rfl (hb hby at_133) rfl (XT.ii_le_t (by decide : ¬ ((1 : Int32) < (1 : Int32)))) (by decide) (by decide) (XS.iload X51.here hx rfl (hb hby at_146) rfl kc_)))))))) ?_
        show own_Ends p e below s _ _ _ (T51.setTop (mkF m 148 #[.val (.int p1), .val (.int p2), .val (.int p3), .val (.int (Int32.ofNat (256 * i + r))), .val (.int (Int32.ofNat (256 * i2 + r2))), .val (.int (1 : Int32)), .val (.int (1 : Int32)), .val (.ref b45), .val (.ref ra), .unset, .unset] [(.int (1 : Int32))]))
        refine own_step (fun _ kc_ => XS.iload X51.here hx rfl (hb hby at_148) rfl (XS.icmpYes X51.here hx rfl (pc0 := 150) (pc' := 163) rfl (hb hby at_150) rfl (XT.ii_le_t (by decide : ¬ ((1 : Int32) < (1 : Int32)))) (by decide) (by decide) (XS.iloadN X51.here hx rfl (hb hby at_163) rfl (XS.iload X51.here hx rfl (hb hby at_164) rfl (XS.icmpYes X51.here hx rfl (pc0 := 166) (pc' := 179) rfl (hb hby at_166) rfl (XT.ii_ge_t (fun z => absurd ((own_ltI hU hV).mp z) (by omega) : ¬ ((Int32.ofNat (256 * i + r)) < (Int32.ofNat (256 * i2 + r2))))) (by decide) (by decide) (XS.iload X51.here hx rfl (hb hby at_179) rfl (XS.istore X51.here hx rfl (hb hby at_181) rfl (l' := #[.val (.int p1), .val (.int p2), .val (.int p3), .val (.int (Int32.ofNat (256 * i + r))), .val (.int (Int32.ofNat (256 * i2 + r2))), .val (.int (1 : Int32)), .val (.int (1 : Int32)), .val (.ref b45), .val (.ref ra), .val (.int (Int32.ofNat (256 * i2 + r2))), .unset]) rfl (XS.iloadN X51.here hx rfl (hb hby at_183) rfl kc_)))))))) ?_
        show own_Ends p e below s _ _ _ (T51.setTop (mkF m 184 #[.val (.int p1), .val (.int p2), .val (.int p3), .val (.int (Int32.ofNat (256 * i + r))), .val (.int (Int32.ofNat (256 * i2 + r2))), .val (.int (1 : Int32)), .val (.int (1 : Int32)), .val (.ref b45), .val (.ref ra), .val (.int (Int32.ofNat (256 * i2 + r2))), .unset] [(.int (Int32.ofNat (256 * i + r)))]))
        refine own_step (fun _ kc_ => XS.istore X51.here hx rfl (hb hby at_184) rfl (l' := #[.val (.int p1), .val (.int p2), .val (.int p3), .val (.int (Int32.ofNat (256 * i + r))), .val (.int (Int32.ofNat (256 * i2 + r2))), .val (.int (1 : Int32)), .val (.int (1 : Int32)), .val (.ref b45), .val (.ref ra), .val (.int (Int32.ofNat (256 * i2 + r2))), .val (.int (Int32.ofNat (256 * i + r)))]) rfl (XS.aload X51.here hx rfl (hb hby at_186) rfl rfl (own_alen X51 hx hZ rfl A51 (n := 2) (z := (2 : Int32)) rfl rfl (hb hby at_188) _ (XS.iconst X51.here hx rfl (hb hby at_189) (XS.icmpNo X51.here hx rfl (hb hby at_190) rfl (XT.ii_ne_f (by decide : (2 : Int32) = (2 : Int32))) (XS.aload X51.here hx rfl (hb hby at_193) rfl rfl (XS.iconst X51.here hx rfl (hb hby at_195) (own_caload X51 hx hZ rfl A51 (j := (0 : Int32)) (by decide) (i := 0) rfl (v := (.int (Int32.ofNat (256 * i2 + r2)))) rfl (hb hby at_196) _ kc_)))))))) ?_
        show own_Ends p e below s _ _ _ (T51.setTop (mkF m 197 #[.val (.int p1), .val (.int p2), .val (.int p3), .val (.int (Int32.ofNat (256 * i + r))), .val (.int (Int32.ofNat (256 * i2 + r2))), .val (.int (1 : Int32)), .val (.int (1 : Int32)), .val (.ref b45), .val (.ref ra), .val (.int (Int32.ofNat (256 * i2 + r2))), .val (.int (Int32.ofNat (256 * i + r)))] [(.int (Int32.ofNat (256 * i2 + r2)))]))
        refine own_step (fun _ kc_ => XS.iload X51.here hx rfl (hb hby at_197) rfl (XS.icmpNo X51.here hx rfl (hb hby at_199) rfl (XT.ii_ne_f (rfl : (Int32.ofNat (256 * i2 + r2)) = (Int32.ofNat (256 * i2 + r2)))) (XS.aload X51.here hx rfl (hb hby at_202) rfl rfl (XS.iconst X51.here hx rfl (hb hby at_204) (own_caload X51 hx hZ rfl A51 (j := (1 : Int32)) (by decide) (i := 1) rfl (v := (.int (Int32.ofNat (256 * i + r)))) rfl (hb hby at_205) _ (XS.iload X51.here hx rfl (hb hby at_206) rfl (XS.icmpNo X51.here hx rfl (hb hby at_208) rfl (XT.ii_ne_f (rfl : (Int32.ofNat (256 * i + r)) = (Int32.ofNat (256 * i + r)))) (XS.iconst X51.here hx rfl (hb hby at_211) kc_)))))))) ?_
        show own_Ends p e below s _ _ _ (T51.setTop (mkF m 212 #[.val (.int p1), .val (.int p2), .val (.int p3), .val (.int (Int32.ofNat (256 * i + r))), .val (.int (Int32.ofNat (256 * i2 + r2))), .val (.int (1 : Int32)), .val (.int (1 : Int32)), .val (.ref b45), .val (.ref ra), .val (.int (Int32.ofNat (256 * i2 + r2))), .val (.int (Int32.ofNat (256 * i + r)))] [(.int (1 : Int32))]))
        refine own_step (fun _ kc_ => XS.goto X51.here hx rfl (pc0 := 212) (pc' := 216) rfl (hb hby at_212) (by decide) (by decide) kc_) ?_
        show own_Ends p e below s _ _ _ (T51.setTop (mkF m 216 #[.val (.int p1), .val (.int p2), .val (.int p3), .val (.int (Int32.ofNat (256 * i + r))), .val (.int (Int32.ofNat (256 * i2 + r2))), .val (.int (1 : Int32)), .val (.int (1 : Int32)), .val (.ref b45), .val (.ref ra), .val (.int (Int32.ofNat (256 * i2 + r2))), .val (.int (Int32.ofNat (256 * i + r)))] [(.int (1 : Int32))]))
        exact own_retN X51 hx (t := .boolean) hret (by simp) hlk (hb hby at_216) (by decide) (by decide) rfl ⟨rfl, N51⟩
    · show own_Ends p e below s _ _ _ (s₁.setTop (mkF m 32 #[.val (.int p1), .val (.int p2), .val (.int p3), .val (.int (Int32.ofNat (256 * i + r))), .val (.int (Int32.ofNat (256 * i2 + r2))), .unset, .unset, .unset, .unset, .unset, .unset] []))
      refine own_step (fun _ kc_ => XS.iconst X0.here hx rfl (hb hby at_32) (XS.iloadN X0.here hx rfl (hb hby at_33) rfl (XS.iconst X0.here hx rfl (hb hby at_34) (XS.iand X0.here hx rfl (hb hby at_35) rfl kc_)))) ?_
      show own_Ends p e below s _ _ _ (s₁.setTop (mkF m 36 #[.val (.int p1), .val (.int p2), .val (.int p3), .val (.int (Int32.ofNat (256 * i + r))), .val (.int (Int32.ofNat (256 * i2 + r2))), .unset, .unset, .unset, .unset, .unset, .unset] [(.int (p3 &&& (1 : Int32))), (.int (1 : Int32))]))
      rw [f1]
      show own_Ends p e below s _ _ _ (s₁.setTop (mkF m 36 #[.val (.int p1), .val (.int p2), .val (.int p3), .val (.int (Int32.ofNat (256 * i + r))), .val (.int (Int32.ofNat (256 * i2 + r2))), .unset, .unset, .unset, .unset, .unset, .unset] [(.int (0 : Int32)), (.int (1 : Int32))]))
      refine own_step (fun _ kc_ => XS.iadd X0.here hx rfl (hb hby at_36) rfl kc_) ?_
      show own_Ends p e below s _ _ _ (s₁.setTop (mkF m 37 #[.val (.int p1), .val (.int p2), .val (.int p3), .val (.int (Int32.ofNat (256 * i + r))), .val (.int (Int32.ofNat (256 * i2 + r2))), .unset, .unset, .unset, .unset, .unset, .unset] [(.int ((1 : Int32) + (0 : Int32)))]))
      rw [show ((1 : Int32) + (0 : Int32)) = (1 : Int32) from by decide]
      show own_Ends p e below s _ _ _ (s₁.setTop (mkF m 37 #[.val (.int p1), .val (.int p2), .val (.int p3), .val (.int (Int32.ofNat (256 * i + r))), .val (.int (Int32.ofNat (256 * i2 + r2))), .unset, .unset, .unset, .unset, .unset, .unset] [(.int (1 : Int32))]))
      refine own_step (fun _ kc_ => XS.istore X0.here hx rfl (hb hby at_37) rfl (l' := #[.val (.int p1), .val (.int p2), .val (.int p3), .val (.int (Int32.ofNat (256 * i + r))), .val (.int (Int32.ofNat (256 * i2 + r2))), .val (.int (1 : Int32)), .unset, .unset, .unset, .unset, .unset]) rfl (XS.iconst X0.here hx rfl (hb hby at_39) (XS.iloadN X0.here hx rfl (hb hby at_40) rfl (XS.iconst X0.here hx rfl (hb hby at_41) (XS.ishr X0.here hx rfl (hb hby at_42) rfl (XS.iconst X0.here hx rfl (hb hby at_43) (XS.iand X0.here hx rfl (hb hby at_44) rfl kc_))))))) ?_
      show own_Ends p e below s _ _ _ (s₁.setTop (mkF m 45 #[.val (.int p1), .val (.int p2), .val (.int p3), .val (.int (Int32.ofNat (256 * i + r))), .val (.int (Int32.ofNat (256 * i2 + r2))), .val (.int (1 : Int32)), .unset, .unset, .unset, .unset, .unset] [(.int ((p3 >>> ((1 : Int32) &&& 31)) &&& (1 : Int32))), (.int (1 : Int32))]))
      rw [f3]
      show own_Ends p e below s _ _ _ (s₁.setTop (mkF m 45 #[.val (.int p1), .val (.int p2), .val (.int p3), .val (.int (Int32.ofNat (256 * i + r))), .val (.int (Int32.ofNat (256 * i2 + r2))), .val (.int (1 : Int32)), .unset, .unset, .unset, .unset, .unset] [(.int (1 : Int32)), (.int (1 : Int32))]))
      refine own_step (fun _ kc_ => XS.iadd X0.here hx rfl (hb hby at_45) rfl kc_) ?_
      show own_Ends p e below s _ _ _ (s₁.setTop (mkF m 46 #[.val (.int p1), .val (.int p2), .val (.int p3), .val (.int (Int32.ofNat (256 * i + r))), .val (.int (Int32.ofNat (256 * i2 + r2))), .val (.int (1 : Int32)), .unset, .unset, .unset, .unset, .unset] [(.int ((1 : Int32) + (1 : Int32)))]))
      rw [show ((1 : Int32) + (1 : Int32)) = (2 : Int32) from by decide]
      show own_Ends p e below s _ _ _ (s₁.setTop (mkF m 46 #[.val (.int p1), .val (.int p2), .val (.int p3), .val (.int (Int32.ofNat (256 * i + r))), .val (.int (Int32.ofNat (256 * i2 + r2))), .val (.int (1 : Int32)), .unset, .unset, .unset, .unset, .unset] [(.int (2 : Int32))]))
      refine own_step (fun _ kc_ => XS.istore X0.here hx rfl (hb hby at_46) rfl (l' := #[.val (.int p1), .val (.int p2), .val (.int p3), .val (.int (Int32.ofNat (256 * i + r))), .val (.int (Int32.ofNat (256 * i2 + r2))), .val (.int (1 : Int32)), .val (.int (2 : Int32)), .unset, .unset, .unset, .unset]) rfl kc_) ?_
      show own_Ends p e below s _ _ _ (s₁.setTop (mkF m 48 #[.val (.int p1), .val (.int p2), .val (.int p3), .val (.int (Int32.ofNat (256 * i + r))), .val (.int (Int32.ofNat (256 * i2 + r2))), .val (.int (1 : Int32)), .val (.int (2 : Int32)), .unset, .unset, .unset, .unset] []))
      obtain ⟨T52, h52, X52, e52, E52, A52, D52, -, st52⟩ := newO X0 hx hZ hown (hw _ (List.mem_of_getElem? (i := 1) rfl)) (hw _ (List.mem_of_getElem? (i := 2) rfl)) (hw _ (List.mem_of_getElem? (i := 3) rfl)) e0 (g := (mkF m 48 #[.val (.int p1), .val (.int p2), .val (.int p3), .val (.int (Int32.ofNat (256 * i + r))), .val (.int (Int32.ofNat (256 * i2 + r2))), .val (.int (1 : Int32)), .val (.int (2 : Int32)), .unset, .unset, .unset, .unset] [])) rfl (hb hby at_48) (by decide : 0 + 1 ≤ _) (by decide : 0 + 1 ≤ _)
      obtain ⟨b52, g52⟩ : ∃ z, z = h0.size := ⟨_, rfl⟩
      rw [← g52] at A52 D52 st52
      have n0_b52 : n0 ≤ b52 := Nat.le_trans Z0 (Nat.le_of_eq g52.symm)
      have Zs52 := Nat.le_trans Z0 E52.1
      have F_pages_b52 : Fld Z h52 b52 "com/example/wakachi/wakachi/UnitCounts" "pages" "[[J" .null := D52 (Or.inr (hw _ (List.mem_of_getElem? (i := 13) rfl))) (ty := (.array (.array .long))) (by decide)
      refine own_step (fun _ kc_ => st52 _ kc_) ?_
      show own_Ends p e below s _ _ _ (T52.setTop (mkF m 51 #[.val (.int p1), .val (.int p2), .val (.int p3), .val (.int (Int32.ofNat (256 * i + r))), .val (.int (Int32.ofNat (256 * i2 + r2))), .val (.int (1 : Int32)), .val (.int (2 : Int32)), .unset, .unset, .unset, .unset] [(.ref b52)]))
      refine own_step (fun _ kc_ => XS.dup X52.here hx rfl (hb hby at_51) rfl rfl kc_) ?_
      show own_Ends p e below s _ _ _ (T52.setTop (mkF m 52 #[.val (.int p1), .val (.int p2), .val (.int p3), .val (.int (Int32.ofNat (256 * i + r))), .val (.int (Int32.ofNat (256 * i2 + r2))), .val (.int (1 : Int32)), .val (.int (2 : Int32)), .unset, .unset, .unset, .unset] [(.ref b52), (.ref b52)]))
      obtain ⟨_, _, ⟨T53, L53, k53, n53⟩, -, X53, ⟨Lc53, hQ53, l53, y53, z53⟩, st53⟩ := X52.specialBack hx (y := (⟨"com/example/wakachi/wakachi/UnitCounts", "<init>", "()V"⟩ : MethodName)) rfl hown (mvT hZ (hw _ (List.mem_of_getElem? (i := 4) rfl))) (mvT hZ (hw _ (List.mem_of_getElem? (i := 5) rfl))) (mvT hZ (hw _ (List.mem_of_getElem? (i := 6) rfl))) (by decide) (backOf (W := 1) (rm1 l Z a0 hw [] b52  h52 n0 Zs52 A52 F_pages_b52 n0_b52) hZ (hw _ (List.mem_of_getElem? (i := 6) rfl)) (hw _ (List.mem_of_getElem? (i := 3) rfl)) (by decide) (by decide)) (g := (mkF m 52 #[.val (.int p1), .val (.int p2), .val (.int p3), .val (.int (Int32.ofNat (256 * i + r))), .val (.int (Int32.ofNat (256 * i2 + r2))), .val (.int (1 : Int32)), .val (.int (2 : Int32)), .unset, .unset, .unset, .unset] [(.ref b52), (.ref b52)])) rfl (by rw [hml]; rfl) (Steps.refl _) (a := b52) (argsL := []) (rest := [(.ref b52)]) (lenOf pd_0 rfl) rfl (by show 2 * 0 + _ ≤ _; exact Nat.le_of_eq rfl) (hb hby at_52) (fun _ _ => ⟨rfl, e52, (by decide : 1 + 1 ≤ _), (by decide : 1 + 256 ≤ _)⟩)
      dsimp only [Pt.U, Pt.locs, Pt.cells, Pt.slots] at X53 l53 y53 z53 st53 hQ53
      subst y53 z53
      obtain ⟨rfl, N53q, K53k, pa, fP53, U53⟩ := hQ53
      have E_b52_53 := (A52).keep K53k
      have Zs53 := Nat.le_trans Zs52 K53k.1
      have N53 : Fr n0 L53 := by rw [l53]; exact Fr.app N0 N53q
      refine own_step (fun _ kc_ => st53.trans kc_) ?_
      show own_Ends p e below s _ _ _ (T53.setTop (mkF m 55 #[.val (.int p1), .val (.int p2), .val (.int p3), .val (.int (Int32.ofNat (256 * i + r))), .val (.int (Int32.ofNat (256 * i2 + r2))), .val (.int (1 : Int32)), .val (.int (2 : Int32)), .unset, .unset, .unset, .unset] [(.ref b52)]))
      refine own_step (fun _ kc_ => XS.astore X53.here hx rfl (hb hby at_55) rfl rfl (l' := #[.val (.int p1), .val (.int p2), .val (.int p3), .val (.int (Int32.ofNat (256 * i + r))), .val (.int (Int32.ofNat (256 * i2 + r2))), .val (.int (1 : Int32)), .val (.int (2 : Int32)), .val (.ref b52), .unset, .unset, .unset]) rfl (XS.aload X53.here hx rfl (hb hby at_57) rfl rfl (XS.iloadN X53.here hx rfl (hb hby at_59) rfl kc_))) ?_
      show own_Ends p e below s _ _ _ (T53.setTop (mkF m 60 #[.val (.int p1), .val (.int p2), .val (.int p3), .val (.int (Int32.ofNat (256 * i + r))), .val (.int (Int32.ofNat (256 * i2 + r2))), .val (.int (1 : Int32)), .val (.int (2 : Int32)), .val (.ref b52), .unset, .unset, .unset] [(.int (Int32.ofNat (256 * i + r))), (.ref b52)]))
      obtain ⟨cq54, kq54, q54a, q54b, q54c⟩ := isOf hZ rfl E_b52_53
      obtain ⟨_, _, ⟨T54, L54, k54, n54⟩, -, X54, ⟨Lc54, hQ54, l54, y54, z54⟩, st54⟩ := X53.virtualBack hx (y := (⟨"com/example/wakachi/wakachi/UnitCounts", "add", "(C)V"⟩ : MethodName)) (z := (⟨"com/example/wakachi/wakachi/UnitCounts", "add", "(C)V"⟩ : MethodName)) hown (mvT hZ (hw _ (List.mem_of_getElem? (i := 14) rfl))) (mvT hZ (hw _ (List.mem_of_getElem? (i := 15) rfl))) (notFace_of_selects (args := #[]) (mvT hZ (hw _ (List.mem_of_getElem? (i := 17) rfl)))) (mvT hZ (hw _ (List.mem_of_getElem? (i := 17) rfl))) (mvT hZ (hw _ (List.mem_of_getElem? (i := 16) rfl))) (by decide) (backOf (W := 0) (rmA l Z a0 hw [] b52 pa (fun _ => none) (fun _ => 0) i r T53.heap n0 Zs53 hi hr E_b52_53 fP53 U53) hZ (hw _ (List.mem_of_getElem? (i := 18) rfl)) (hw _ (List.mem_of_getElem? (i := 3) rfl)) (by decide) (by decide)) q54a q54c (g := (mkF m 60 #[.val (.int p1), .val (.int p2), .val (.int p3), .val (.int (Int32.ofNat (256 * i + r))), .val (.int (Int32.ofNat (256 * i2 + r2))), .val (.int (1 : Int32)), .val (.int (2 : Int32)), .val (.ref b52), .unset, .unset, .unset] [(.int (Int32.ofNat (256 * i + r))), (.ref b52)])) rfl (by rw [hml]; rfl) (Steps.refl _) (argsL := [(.int (Int32.ofNat (256 * i + r)))]) (rest := []) (lenOf pd_5 rfl) rfl (by show 2 * 0 + _ ≤ _; exact Nat.le_of_eq rfl) (hb hby at_60) (fun _ _ => ⟨rfl, rfl, (by decide : 2 + 1 ≤ _), (by decide : 257 + 256 ≤ _)⟩)
      dsimp only [Pt.U, Pt.locs, Pt.cells, Pt.slots] at X54 l54 y54 z54 st54 hQ54
      subst y54 z54
      obtain ⟨rfl, N54q, Zs54, E54e, F54f, B54, U54⟩ := hQ54
      obtain ⟨cn54, hcn54⟩ : ∃ cn, cn = own_up (fun _ => 0) (256 * i + r) ((fun _ => 0) (256 * i + r) + 1) := ⟨_, rfl⟩
      rw [← hcn54] at U54
      have N54 : Fr n0 L54 := by rw [l54]; exact Fr.app N53 N54q
      refine own_step (fun _ kc_ => st54.trans kc_) ?_
      show own_Ends p e below s _ _ _ (T54.setTop (mkF m 63 #[.val (.int p1), .val (.int p2), .val (.int p3), .val (.int (Int32.ofNat (256 * i + r))), .val (.int (Int32.ofNat (256 * i2 + r2))), .val (.int (1 : Int32)), .val (.int (2 : Int32)), .val (.ref b52), .unset, .unset, .unset] []))
      refine own_step (fun _ kc_ => XS.aload X54.here hx rfl (hb hby at_63) rfl rfl (XS.iload X54.here hx rfl (hb hby at_65) rfl kc_)) ?_
      show own_Ends p e below s _ _ _ (T54.setTop (mkF m 67 #[.val (.int p1), .val (.int p2), .val (.int p3), .val (.int (Int32.ofNat (256 * i + r))), .val (.int (Int32.ofNat (256 * i2 + r2))), .val (.int (1 : Int32)), .val (.int (2 : Int32)), .val (.ref b52), .unset, .unset, .unset] [(.int (Int32.ofNat (256 * i2 + r2))), (.ref b52)]))
      obtain ⟨cq55, kq55, q55a, q55b, q55c⟩ := isOf hZ rfl E54e
      obtain ⟨_, _, ⟨T55, L55, k55, n55⟩, -, X55, ⟨Lc55, hQ55, l55, y55, z55⟩, st55⟩ := X54.virtualBack hx (y := (⟨"com/example/wakachi/wakachi/UnitCounts", "add", "(C)V"⟩ : MethodName)) (z := (⟨"com/example/wakachi/wakachi/UnitCounts", "add", "(C)V"⟩ : MethodName)) hown (mvT hZ (hw _ (List.mem_of_getElem? (i := 14) rfl))) (mvT hZ (hw _ (List.mem_of_getElem? (i := 15) rfl))) (notFace_of_selects (args := #[]) (mvT hZ (hw _ (List.mem_of_getElem? (i := 17) rfl)))) (mvT hZ (hw _ (List.mem_of_getElem? (i := 17) rfl))) (mvT hZ (hw _ (List.mem_of_getElem? (i := 16) rfl))) (by decide) (backOf (W := 0) (rmA l Z a0 hw [] b52 pa B54 cn54 i2 r2 T54.heap n0 Zs54 hi2 hr2 E54e F54f U54) hZ (hw _ (List.mem_of_getElem? (i := 18) rfl)) (hw _ (List.mem_of_getElem? (i := 3) rfl)) (by decide) (by decide)) q55a q55c (g := (mkF m 67 #[.val (.int p1), .val (.int p2), .val (.int p3), .val (.int (Int32.ofNat (256 * i + r))), .val (.int (Int32.ofNat (256 * i2 + r2))), .val (.int (1 : Int32)), .val (.int (2 : Int32)), .val (.ref b52), .unset, .unset, .unset] [(.int (Int32.ofNat (256 * i2 + r2))), (.ref b52)])) rfl (by rw [hml]; rfl) (Steps.refl _) (argsL := [(.int (Int32.ofNat (256 * i2 + r2)))]) (rest := []) (lenOf pd_5 rfl) rfl (by show 2 * 0 + _ ≤ _; exact Nat.le_of_eq rfl) (hb hby at_67) (fun _ _ => ⟨rfl, rfl, (by decide : 3 + 1 ≤ _), (by decide : 513 + 256 ≤ _)⟩)
      dsimp only [Pt.U, Pt.locs, Pt.cells, Pt.slots] at X55 l55 y55 z55 st55 hQ55
      subst y55 z55
      obtain ⟨rfl, N55q, Zs55, E55e, F55f, B55, U55⟩ := hQ55
      obtain ⟨cn55, hcn55⟩ : ∃ cn, cn = own_up cn54 (256 * i2 + r2) (cn54 (256 * i2 + r2) + 1) := ⟨_, rfl⟩
      rw [← hcn55] at U55
      have N55 : Fr n0 L55 := by rw [l55]; exact Fr.app N54 N55q
      refine own_step (fun _ kc_ => st55.trans kc_) ?_
      show own_Ends p e below s _ _ _ (T55.setTop (mkF m 70 #[.val (.int p1), .val (.int p2), .val (.int p3), .val (.int (Int32.ofNat (256 * i + r))), .val (.int (Int32.ofNat (256 * i2 + r2))), .val (.int (1 : Int32)), .val (.int (2 : Int32)), .val (.ref b52), .unset, .unset, .unset] []))
      refine own_step (fun _ kc_ => XS.iloadN X55.here hx rfl (hb hby at_70) rfl (XS.iconst X55.here hx rfl (hb hby at_71) (XS.iand X55.here hx rfl (hb hby at_72) rfl kc_))) ?_
      show own_Ends p e below s _ _ _ (T55.setTop (mkF m 73 #[.val (.int p1), .val (.int p2), .val (.int p3), .val (.int (Int32.ofNat (256 * i + r))), .val (.int (Int32.ofNat (256 * i2 + r2))), .val (.int (1 : Int32)), .val (.int (2 : Int32)), .val (.ref b52), .unset, .unset, .unset] [(.int (p3 &&& (1 : Int32)))]))
      rw [f1]
      show own_Ends p e below s _ _ _ (T55.setTop (mkF m 73 #[.val (.int p1), .val (.int p2), .val (.int p3), .val (.int (Int32.ofNat (256 * i + r))), .val (.int (Int32.ofNat (256 * i2 + r2))), .val (.int (1 : Int32)), .val (.int (2 : Int32)), .val (.ref b52), .unset, .unset, .unset] [(.int (0 : Int32))]))
      refine own_step (fun _ kc_ => XS.ifYes X55.here hx rfl (pc0 := 73) (pc' := 82) rfl (hb hby at_73) rfl (XT.i0_eq_t (by decide : (0 : Int32) = 0)) (by decide) (by decide) (XS.iloadN X55.here hx rfl (hb hby at_82) rfl (XS.iconst X55.here hx rfl (hb hby at_83) (XS.iand X55.here hx rfl (hb hby at_84) rfl kc_)))) ?_
      show own_Ends p e below s _ _ _ (T55.setTop (mkF m 85 #[.val (.int p1), .val (.int p2), .val (.int p3), .val (.int (Int32.ofNat (256 * i + r))), .val (.int (Int32.ofNat (256 * i2 + r2))), .val (.int (1 : Int32)), .val (.int (2 : Int32)), .val (.ref b52), .unset, .unset, .unset] [(.int (p3 &&& (2 : Int32)))]))
      rw [f2]
      show own_Ends p e below s _ _ _ (T55.setTop (mkF m 85 #[.val (.int p1), .val (.int p2), .val (.int p3), .val (.int (Int32.ofNat (256 * i + r))), .val (.int (Int32.ofNat (256 * i2 + r2))), .val (.int (1 : Int32)), .val (.int (2 : Int32)), .val (.ref b52), .unset, .unset, .unset] [(.int (2 : Int32))]))
      refine own_step (fun _ kc_ => XS.ifNo X55.here hx rfl (hb hby at_85) rfl (XT.i0_eq_f (by decide : ¬ ((2 : Int32) = 0))) (XS.aload X55.here hx rfl (hb hby at_88) rfl rfl (XS.iload X55.here hx rfl (hb hby at_90) rfl kc_))) ?_
      show own_Ends p e below s _ _ _ (T55.setTop (mkF m 92 #[.val (.int p1), .val (.int p2), .val (.int p3), .val (.int (Int32.ofNat (256 * i + r))), .val (.int (Int32.ofNat (256 * i2 + r2))), .val (.int (1 : Int32)), .val (.int (2 : Int32)), .val (.ref b52), .unset, .unset, .unset] [(.int (Int32.ofNat (256 * i2 + r2))), (.ref b52)]))
      obtain ⟨cq56, kq56, q56a, q56b, q56c⟩ := isOf hZ rfl E55e
      obtain ⟨_, _, ⟨T56, L56, k56, n56⟩, -, X56, ⟨Lc56, hQ56, l56, y56, z56⟩, st56⟩ := X55.virtualBack hx (y := (⟨"com/example/wakachi/wakachi/UnitCounts", "add", "(C)V"⟩ : MethodName)) (z := (⟨"com/example/wakachi/wakachi/UnitCounts", "add", "(C)V"⟩ : MethodName)) hown (mvT hZ (hw _ (List.mem_of_getElem? (i := 14) rfl))) (mvT hZ (hw _ (List.mem_of_getElem? (i := 15) rfl))) (notFace_of_selects (args := #[]) (mvT hZ (hw _ (List.mem_of_getElem? (i := 17) rfl)))) (mvT hZ (hw _ (List.mem_of_getElem? (i := 17) rfl))) (mvT hZ (hw _ (List.mem_of_getElem? (i := 16) rfl))) (by decide) (backOf (W := 0) (rmA l Z a0 hw [] b52 pa B55 cn55 i2 r2 T55.heap n0 Zs55 hi2 hr2 E55e F55f U55) hZ (hw _ (List.mem_of_getElem? (i := 18) rfl)) (hw _ (List.mem_of_getElem? (i := 3) rfl)) (by decide) (by decide)) q56a q56c (g := (mkF m 92 #[.val (.int p1), .val (.int p2), .val (.int p3), .val (.int (Int32.ofNat (256 * i + r))), .val (.int (Int32.ofNat (256 * i2 + r2))), .val (.int (1 : Int32)), .val (.int (2 : Int32)), .val (.ref b52), .unset, .unset, .unset] [(.int (Int32.ofNat (256 * i2 + r2))), (.ref b52)])) rfl (by rw [hml]; rfl) (Steps.refl _) (argsL := [(.int (Int32.ofNat (256 * i2 + r2)))]) (rest := []) (lenOf pd_5 rfl) rfl (by show 2 * 0 + _ ≤ _; exact Nat.le_of_eq rfl) (hb hby at_92) (fun _ _ => ⟨rfl, rfl, (by decide : 4 + 1 ≤ _), (by decide : 769 + 256 ≤ _)⟩)
      dsimp only [Pt.U, Pt.locs, Pt.cells, Pt.slots] at X56 l56 y56 z56 st56 hQ56
      subst y56 z56
      obtain ⟨rfl, N56q, Zs56, E56e, F56f, B56, U56⟩ := hQ56
      obtain ⟨cn56, hcn56⟩ : ∃ cn, cn = own_up cn55 (256 * i2 + r2) (cn55 (256 * i2 + r2) + 1) := ⟨_, rfl⟩
      rw [← hcn56] at U56
      have N56 : Fr n0 L56 := by rw [l56]; exact Fr.app N55 N56q
      refine own_step (fun _ kc_ => st56.trans kc_) ?_
      show own_Ends p e below s _ _ _ (T56.setTop (mkF m 95 #[.val (.int p1), .val (.int p2), .val (.int p3), .val (.int (Int32.ofNat (256 * i + r))), .val (.int (Int32.ofNat (256 * i2 + r2))), .val (.int (1 : Int32)), .val (.int (2 : Int32)), .val (.ref b52), .unset, .unset, .unset] []))
      refine own_step (fun _ kc_ => XS.aload X56.here hx rfl (hb hby at_95) rfl rfl kc_) ?_
      show own_Ends p e below s _ _ _ (T56.setTop (mkF m 97 #[.val (.int p1), .val (.int p2), .val (.int p3), .val (.int (Int32.ofNat (256 * i + r))), .val (.int (Int32.ofNat (256 * i2 + r2))), .val (.int (1 : Int32)), .val (.int (2 : Int32)), .val (.ref b52), .unset, .unset, .unset] [(.ref b52)]))
      have hU : (256 * i + r) < 65536 := by omega
      have hV : (256 * i2 + r2) < 65536 := by omega
      rcases Nat.lt_trichotomy (256 * i + r) (256 * i2 + r2) with q | q | q
      · have e1 : ((256 * i + r) = (256 * i2 + r2)) = False := eq_false (by omega)
        have e2 : ((256 * i2 + r2) = (256 * i + r)) = False := eq_false (by omega)
        have cU : cn56 (256 * i + r) = Int64.ofNat 1 := by
          simp only [hcn56, hcn55, hcn54, own_up, e1, e2, eq_self, if_true, if_false]; decide
        have cV : cn56 (256 * i2 + r2) = Int64.ofNat 2 := by
          simp only [hcn56, hcn55, hcn54, own_up, e1, e2, eq_self, if_true, if_false]; decide
        have c0 : ∀ z, z ≠ (256 * i + r) → z ≠ (256 * i2 + r2) → cn56 z = 0 := by
          intro z h1 h2
          simp only [hcn56, hcn55, hcn54, own_up, if_neg h1, if_neg h2]
        have hu := own_two (own_iff2 cU cV (by decide) (by decide) c0) q hV
        have hlt : own_key cn56 (256 * i2 + r2) < own_key cn56 (256 * i + r) := by rw [(own_klt hV (by decide) cV hU (by decide) cU)]; omega
        show own_Ends p e below s _ _ _ (T56.setTop (mkF m 97 #[.val (.int p1), .val (.int p2), .val (.int p3), .val (.int (Int32.ofNat (256 * i + r))), .val (.int (Int32.ofNat (256 * i2 + r2))), .val (.int (1 : Int32)), .val (.int (2 : Int32)), .val (.ref b52), .unset, .unset, .unset] [(.ref b52)]))
        obtain ⟨cq57, kq57, q57a, q57b, q57c⟩ := isOf hZ rfl E56e
        obtain ⟨_, _, ⟨T57, L57, k57, n57⟩, -, X57, ⟨Lc57, hQ57, l57, y57, z57⟩, st57⟩ := X56.virtualBack hx (y := (⟨"com/example/wakachi/wakachi/UnitCounts", "byFrequency", "()[C"⟩ : MethodName)) (z := (⟨"com/example/wakachi/wakachi/UnitCounts", "byFrequency", "()[C"⟩ : MethodName)) hown (mvT hZ (hw _ (List.mem_of_getElem? (i := 21) rfl))) (mvT hZ (hw _ (List.mem_of_getElem? (i := 22) rfl))) (notFace_of_selects (args := #[]) (mvT hZ (hw _ (List.mem_of_getElem? (i := 24) rfl)))) (mvT hZ (hw _ (List.mem_of_getElem? (i := 24) rfl))) (mvT hZ (hw _ (List.mem_of_getElem? (i := 23) rfl))) (by decide) (backOf (W := 0) (rmB2b l Z a0 hw [] b52 pa B56 cn56 (256 * i + r) (256 * i2 + r2) T56.heap n0 Zs56 hu E56e F56f U56 hlt) hZ (hw _ (List.mem_of_getElem? (i := 25) rfl)) (hw _ (List.mem_of_getElem? (i := 3) rfl)) (by decide) (by decide)) q57a q57c (g := (mkF m 97 #[.val (.int p1), .val (.int p2), .val (.int p3), .val (.int (Int32.ofNat (256 * i + r))), .val (.int (Int32.ofNat (256 * i2 + r2))), .val (.int (1 : Int32)), .val (.int (2 : Int32)), .val (.ref b52), .unset, .unset, .unset] [(.ref b52)])) rfl (by rw [hml]; rfl) (Steps.refl _) (argsL := []) (rest := []) (lenOf pd_6 rfl) rfl (by show 2 * 0 + _ ≤ _; exact Nat.le_of_eq rfl) (hb hby at_97) (fun _ _ => ⟨rfl, rfl, (by decide : 5 + 2 ≤ _), (by decide : 1025 + 4 ≤ _)⟩)
        dsimp only [Pt.U, Pt.locs, Pt.cells, Pt.slots] at X57 l57 y57 z57 st57 hQ57
        subst y57 z57
        obtain ⟨N57q, ra, rfl, A57⟩ := hQ57
        have N57 : Fr n0 L57 := by rw [l57]; exact Fr.app N56 N57q
        refine own_step (fun _ kc_ => st57.trans kc_) ?_
        show own_Ends p e below s _ _ _ (T57.setTop (mkF m 100 #[.val (.int p1), .val (.int p2), .val (.int p3), .val (.int (Int32.ofNat (256 * i + r))), .val (.int (Int32.ofNat (256 * i2 + r2))), .val (.int (1 : Int32)), .val (.int (2 : Int32)), .val (.ref b52), .unset, .unset, .unset] [(.ref ra)]))
        refine own_step (fun _ kc_ => XS.astore X57.here hx rfl (hb hby at_100) rfl rfl (l' := #[.val (.int p1), .val (.int p2), .val (.int p3), .val (.int (Int32.ofNat (256 * i + r))), .val (.int (Int32.ofNat (256 * i2 + r2))), .val (.int (1 : Int32)), .val (.int (2 : Int32)), .val (.ref b52), .val (.ref ra), .unset, .unset]) rfl (XS.iloadN X57.here hx rfl (hb hby at_102) rfl (XS.iload X57.here hx rfl (hb hby at_103) rfl (XS.icmpYes X57.here hx rfl (pc0 := 105) (pc' := 129) rfl (hb hby at_105) rfl (XT.ii_ne_t (own_neI (by omega) hU hV : ¬ ((Int32.ofNat (256 * i + r)) = (Int32.ofNat (256 * i2 + r2))))) (by decide) (by decide) (XS.iload X57.here hx rfl (hb hby at_129) rfl (XS.iload X57.here hx rfl (hb hby at_131) rfl (XS.icmpYes X57.here hx rfl (pc0 := 133) (pc' := 146) rfl (hb hby at_133) rfl (XT.ii_le_t (by decide : ¬ ((2 : Int32) < (1 : Int32)))) (by decide) (by decide) (XS.iload X57.here hx rfl (hb hby at_146) rfl kc_)))))))) ?_
        show own_Ends p e below s _ _ _ (T57.setTop (mkF m 148 #[.val (.int p1), .val (.int p2), .val (.int p3), .val (.int (Int32.ofNat (256 * i + r))), .val (.int (Int32.ofNat (256 * i2 + r2))), .val (.int (1 : Int32)), .val (.int (2 : Int32)), .val (.ref b52), .val (.ref ra), .unset, .unset] [(.int (2 : Int32))]))
        refine own_step (fun _ kc_ => XS.iload X57.here hx rfl (hb hby at_148) rfl (XS.icmpNo X57.here hx rfl (hb hby at_150) rfl (XT.ii_le_f (by decide : (1 : Int32) < (2 : Int32))) (XS.iload X57.here hx rfl (hb hby at_153) rfl (XS.istore X57.here hx rfl (hb hby at_155) rfl (l' := #[.val (.int p1), .val (.int p2), .val (.int p3), .val (.int (Int32.ofNat (256 * i + r))), .val (.int (Int32.ofNat (256 * i2 + r2))), .val (.int (1 : Int32)), .val (.int (2 : Int32)), .val (.ref b52), .val (.ref ra), .val (.int (Int32.ofNat (256 * i2 + r2))), .unset]) rfl (XS.iloadN X57.here hx rfl (hb hby at_157) rfl (XS.istore X57.here hx rfl (hb hby at_158) rfl (l' := #[.val (.int p1), .val (.int p2), .val (.int p3), .val (.int (Int32.ofNat (256 * i + r))), .val (.int (Int32.ofNat (256 * i2 + r2))), .val (.int (1 : Int32)), .val (.int (2 : Int32)), .val (.ref b52), .val (.ref ra), .val (.int (Int32.ofNat (256 * i2 + r2))), .val (.int (Int32.ofNat (256 * i + r)))]) rfl (XS.goto X57.here hx rfl (pc0 := 160) (pc' := 186) rfl (hb hby at_160) (by decide) (by decide) (XS.aload X57.here hx rfl (hb hby at_186) rfl rfl kc_)))))))) ?_
        show own_Ends p e below s _ _ _ (T57.setTop (mkF m 188 #[.val (.int p1), .val (.int p2), .val (.int p3), .val (.int (Int32.ofNat (256 * i + r))), .val (.int (Int32.ofNat (256 * i2 + r2))), .val (.int (1 : Int32)), .val (.int (2 : Int32)), .val (.ref b52), .val (.ref ra), .val (.int (Int32.ofNat (256 * i2 + r2))), .val (.int (Int32.ofNat (256 * i + r)))] [(.ref ra)]))
        refine own_step (fun _ kc_ => own_alen X57 hx hZ rfl A57 (n := 2) (z := (2 : Int32)) rfl rfl (hb hby at_188) _ (XS.iconst X57.here hx rfl (hb hby at_189) (XS.icmpNo X57.here hx rfl (hb hby at_190) rfl (XT.ii_ne_f (by decide : (2 : Int32) = (2 : Int32))) (XS.aload X57.here hx rfl (hb hby at_193) rfl rfl (XS.iconst X57.here hx rfl (hb hby at_195) (own_caload X57 hx hZ rfl A57 (j := (0 : Int32)) (by decide) (i := 0) rfl (v := (.int (Int32.ofNat (256 * i2 + r2)))) rfl (hb hby at_196) _ (XS.iload X57.here hx rfl (hb hby at_197) rfl (XS.icmpNo X57.here hx rfl (hb hby at_199) rfl (XT.ii_ne_f (rfl : (Int32.ofNat (256 * i2 + r2)) = (Int32.ofNat (256 * i2 + r2)))) kc_)))))))) ?_
        show own_Ends p e below s _ _ _ (T57.setTop (mkF m 202 #[.val (.int p1), .val (.int p2), .val (.int p3), .val (.int (Int32.ofNat (256 * i + r))), .val (.int (Int32.ofNat (256 * i2 + r2))), .val (.int (1 : Int32)), .val (.int (2 : Int32)), .val (.ref b52), .val (.ref ra), .val (.int (Int32.ofNat (256 * i2 + r2))), .val (.int (Int32.ofNat (256 * i + r)))] []))
        refine own_step (fun _ kc_ => XS.aload X57.here hx rfl (hb hby at_202) rfl rfl (XS.iconst X57.here hx rfl (hb hby at_204) (own_caload X57 hx hZ rfl A57 (j := (1 : Int32)) (by decide) (i := 1) rfl (v := (.int (Int32.ofNat (256 * i + r)))) rfl (hb hby at_205) _ (XS.iload X57.here hx rfl (hb hby at_206) rfl (XS.icmpNo X57.here hx rfl (hb hby at_208) rfl (XT.ii_ne_f (rfl : (Int32.ofNat (256 * i + r)) = (Int32.ofNat (256 * i + r)))) (XS.iconst X57.here hx rfl (hb hby at_211) (XS.goto X57.here hx rfl (pc0 := 212) (pc' := 216) rfl (hb hby at_212) (by decide) (by decide) kc_))))))) ?_
        show own_Ends p e below s _ _ _ (T57.setTop (mkF m 216 #[.val (.int p1), .val (.int p2), .val (.int p3), .val (.int (Int32.ofNat (256 * i + r))), .val (.int (Int32.ofNat (256 * i2 + r2))), .val (.int (1 : Int32)), .val (.int (2 : Int32)), .val (.ref b52), .val (.ref ra), .val (.int (Int32.ofNat (256 * i2 + r2))), .val (.int (Int32.ofNat (256 * i + r)))] [(.int (1 : Int32))]))
        exact own_retN X57 hx (t := .boolean) hret (by simp) hlk (hb hby at_216) (by decide) (by decide) rfl ⟨rfl, N57⟩
      · have cU : cn56 (256 * i + r) = Int64.ofNat 3 := by
          simp only [hcn56, hcn55, hcn54, own_up, ← q, eq_self, if_true]; decide
        have c0 : ∀ z, z ≠ (256 * i + r) → cn56 z = 0 := by
          intro z h1
          simp only [hcn56, hcn55, hcn54, own_up, ← q, if_neg h1]
        have hu := own_uno cU (by decide) c0 hU
        show own_Ends p e below s _ _ _ (T56.setTop (mkF m 97 #[.val (.int p1), .val (.int p2), .val (.int p3), .val (.int (Int32.ofNat (256 * i + r))), .val (.int (Int32.ofNat (256 * i2 + r2))), .val (.int (1 : Int32)), .val (.int (2 : Int32)), .val (.ref b52), .unset, .unset, .unset] [(.ref b52)]))
        obtain ⟨cq58, kq58, q58a, q58b, q58c⟩ := isOf hZ rfl E56e
        obtain ⟨_, _, ⟨T58, L58, k58, n58⟩, -, X58, ⟨Lc58, hQ58, l58, y58, z58⟩, st58⟩ := X56.virtualBack hx (y := (⟨"com/example/wakachi/wakachi/UnitCounts", "byFrequency", "()[C"⟩ : MethodName)) (z := (⟨"com/example/wakachi/wakachi/UnitCounts", "byFrequency", "()[C"⟩ : MethodName)) hown (mvT hZ (hw _ (List.mem_of_getElem? (i := 21) rfl))) (mvT hZ (hw _ (List.mem_of_getElem? (i := 22) rfl))) (notFace_of_selects (args := #[]) (mvT hZ (hw _ (List.mem_of_getElem? (i := 24) rfl)))) (mvT hZ (hw _ (List.mem_of_getElem? (i := 24) rfl))) (mvT hZ (hw _ (List.mem_of_getElem? (i := 23) rfl))) (by decide) (backOf (W := 0) (rmB1a l Z a0 hw [] b52 pa B56 cn56 (256 * i + r) T56.heap n0 Zs56 hu E56e F56f U56) hZ (hw _ (List.mem_of_getElem? (i := 25) rfl)) (hw _ (List.mem_of_getElem? (i := 3) rfl)) (by decide) (by decide)) q58a q58c (g := (mkF m 97 #[.val (.int p1), .val (.int p2), .val (.int p3), .val (.int (Int32.ofNat (256 * i + r))), .val (.int (Int32.ofNat (256 * i2 + r2))), .val (.int (1 : Int32)), .val (.int (2 : Int32)), .val (.ref b52), .unset, .unset, .unset] [(.ref b52)])) rfl (by rw [hml]; rfl) (Steps.refl _) (argsL := []) (rest := []) (lenOf pd_6 rfl) rfl (by show 2 * 0 + _ ≤ _; exact Nat.le_of_eq rfl) (hb hby at_97) (fun _ _ => ⟨rfl, rfl, (by decide : 5 + 2 ≤ _), (by decide : 1025 + 2 ≤ _)⟩)
        dsimp only [Pt.U, Pt.locs, Pt.cells, Pt.slots] at X58 l58 y58 z58 st58 hQ58
        subst y58 z58
        obtain ⟨N58q, ra, rfl, A58⟩ := hQ58
        have N58 : Fr n0 L58 := by rw [l58]; exact Fr.app N56 N58q
        refine own_step (fun _ kc_ => st58.trans kc_) ?_
        show own_Ends p e below s _ _ _ (T58.setTop (mkF m 100 #[.val (.int p1), .val (.int p2), .val (.int p3), .val (.int (Int32.ofNat (256 * i + r))), .val (.int (Int32.ofNat (256 * i2 + r2))), .val (.int (1 : Int32)), .val (.int (2 : Int32)), .val (.ref b52), .unset, .unset, .unset] [(.ref ra)]))
        refine own_step (fun _ kc_ => XS.astore X58.here hx rfl (hb hby at_100) rfl rfl (l' := #[.val (.int p1), .val (.int p2), .val (.int p3), .val (.int (Int32.ofNat (256 * i + r))), .val (.int (Int32.ofNat (256 * i2 + r2))), .val (.int (1 : Int32)), .val (.int (2 : Int32)), .val (.ref b52), .val (.ref ra), .unset, .unset]) rfl (XS.iloadN X58.here hx rfl (hb hby at_102) rfl (XS.iload X58.here hx rfl (hb hby at_103) rfl (XS.icmpNo X58.here hx rfl (hb hby at_105) rfl (XT.ii_ne_f (by rw [q] : (Int32.ofNat (256 * i + r)) = (Int32.ofNat (256 * i2 + r2)))) (XS.aload X58.here hx rfl (hb hby at_108) rfl rfl (own_alen X58 hx hZ rfl A58 (n := 1) (z := (1 : Int32)) rfl rfl (hb hby at_110) _ (XS.iconst X58.here hx rfl (hb hby at_111) (XS.icmpNo X58.here hx rfl (hb hby at_112) rfl (XT.ii_ne_f (by decide : (1 : Int32) = (1 : Int32))) kc_)))))))) ?_
        show own_Ends p e below s _ _ _ (T58.setTop (mkF m 115 #[.val (.int p1), .val (.int p2), .val (.int p3), .val (.int (Int32.ofNat (256 * i + r))), .val (.int (Int32.ofNat (256 * i2 + r2))), .val (.int (1 : Int32)), .val (.int (2 : Int32)), .val (.ref b52), .val (.ref ra), .unset, .unset] []))
        refine own_step (fun _ kc_ => XS.aload X58.here hx rfl (hb hby at_115) rfl rfl (XS.iconst X58.here hx rfl (hb hby at_117) (own_caload X58 hx hZ rfl A58 (j := (0 : Int32)) (by decide) (i := 0) rfl (v := (.int (Int32.ofNat (256 * i + r)))) rfl (hb hby at_118) _ (XS.iloadN X58.here hx rfl (hb hby at_119) rfl (XS.icmpNo X58.here hx rfl (hb hby at_120) rfl (XT.ii_ne_f (rfl : (Int32.ofNat (256 * i + r)) = (Int32.ofNat (256 * i + r)))) (XS.iconst X58.here hx rfl (hb hby at_123) (XS.goto X58.here hx rfl (pc0 := 124) (pc' := 128) rfl (hb hby at_124) (by decide) (by decide) kc_))))))) ?_
        show own_Ends p e below s _ _ _ (T58.setTop (mkF m 128 #[.val (.int p1), .val (.int p2), .val (.int p3), .val (.int (Int32.ofNat (256 * i + r))), .val (.int (Int32.ofNat (256 * i2 + r2))), .val (.int (1 : Int32)), .val (.int (2 : Int32)), .val (.ref b52), .val (.ref ra), .unset, .unset] [(.int (1 : Int32))]))
        exact own_retN X58 hx (t := .boolean) hret (by simp) hlk (hb hby at_128) (by decide) (by decide) rfl ⟨rfl, N58⟩
      · have e1 : ((256 * i + r) = (256 * i2 + r2)) = False := eq_false (by omega)
        have e2 : ((256 * i2 + r2) = (256 * i + r)) = False := eq_false (by omega)
        have cU : cn56 (256 * i + r) = Int64.ofNat 1 := by
          simp only [hcn56, hcn55, hcn54, own_up, e1, e2, eq_self, if_true, if_false]; decide
        have cV : cn56 (256 * i2 + r2) = Int64.ofNat 2 := by
          simp only [hcn56, hcn55, hcn54, own_up, e1, e2, eq_self, if_true, if_false]; decide
        have c0 : ∀ z, z ≠ (256 * i + r) → z ≠ (256 * i2 + r2) → cn56 z = 0 := by
          intro z h1 h2
          simp only [hcn56, hcn55, hcn54, own_up, if_neg h1, if_neg h2]
        have hu := own_two (own_iff2 cV cU (by decide) (by decide) (fun z h1 h2 => c0 z h2 h1)) q hU
        have hlt : ¬ own_key cn56 (256 * i + r) < own_key cn56 (256 * i2 + r2) := by rw [(own_klt hU (by decide) cU hV (by decide) cV)]; omega
        show own_Ends p e below s _ _ _ (T56.setTop (mkF m 97 #[.val (.int p1), .val (.int p2), .val (.int p3), .val (.int (Int32.ofNat (256 * i + r))), .val (.int (Int32.ofNat (256 * i2 + r2))), .val (.int (1 : Int32)), .val (.int (2 : Int32)), .val (.ref b52), .unset, .unset, .unset] [(.ref b52)]))
        obtain ⟨cq59, kq59, q59a, q59b, q59c⟩ := isOf hZ rfl E56e
        obtain ⟨_, _, ⟨T59, L59, k59, n59⟩, -, X59, ⟨Lc59, hQ59, l59, y59, z59⟩, st59⟩ := X56.virtualBack hx (y := (⟨"com/example/wakachi/wakachi/UnitCounts", "byFrequency", "()[C"⟩ : MethodName)) (z := (⟨"com/example/wakachi/wakachi/UnitCounts", "byFrequency", "()[C"⟩ : MethodName)) hown (mvT hZ (hw _ (List.mem_of_getElem? (i := 21) rfl))) (mvT hZ (hw _ (List.mem_of_getElem? (i := 22) rfl))) (notFace_of_selects (args := #[]) (mvT hZ (hw _ (List.mem_of_getElem? (i := 24) rfl)))) (mvT hZ (hw _ (List.mem_of_getElem? (i := 24) rfl))) (mvT hZ (hw _ (List.mem_of_getElem? (i := 23) rfl))) (by decide) (backOf (W := 0) (rmB2a l Z a0 hw [] b52 pa B56 cn56 (256 * i2 + r2) (256 * i + r) T56.heap n0 Zs56 hu E56e F56f U56 hlt) hZ (hw _ (List.mem_of_getElem? (i := 25) rfl)) (hw _ (List.mem_of_getElem? (i := 3) rfl)) (by decide) (by decide)) q59a q59c (g := (mkF m 97 #[.val (.int p1), .val (.int p2), .val (.int p3), .val (.int (Int32.ofNat (256 * i + r))), .val (.int (Int32.ofNat (256 * i2 + r2))), .val (.int (1 : Int32)), .val (.int (2 : Int32)), .val (.ref b52), .unset, .unset, .unset] [(.ref b52)])) rfl (by rw [hml]; rfl) (Steps.refl _) (argsL := []) (rest := []) (lenOf pd_6 rfl) rfl (by show 2 * 0 + _ ≤ _; exact Nat.le_of_eq rfl) (hb hby at_97) (fun _ _ => ⟨rfl, rfl, (by decide : 5 + 2 ≤ _), (by decide : 1025 + 4 ≤ _)⟩)
        dsimp only [Pt.U, Pt.locs, Pt.cells, Pt.slots] at X59 l59 y59 z59 st59 hQ59
        subst y59 z59
        obtain ⟨N59q, ra, rfl, A59⟩ := hQ59
        have N59 : Fr n0 L59 := by rw [l59]; exact Fr.app N56 N59q
        refine own_step (fun _ kc_ => st59.trans kc_) ?_
        show own_Ends p e below s _ _ _ (T59.setTop (mkF m 100 #[.val (.int p1), .val (.int p2), .val (.int p3), .val (.int (Int32.ofNat (256 * i + r))), .val (.int (Int32.ofNat (256 * i2 + r2))), .val (.int (1 : Int32)), .val (.int (2 : Int32)), .val (.ref b52), .unset, .unset, .unset] [(.ref ra)]))
        refine own_step (fun _ kc_ => XS.astore X59.here hx rfl (hb hby at_100) rfl rfl (l' := #[.val (.int p1), .val (.int p2), .val (.int p3), .val (.int (Int32.ofNat (256 * i + r))), .val (.int (Int32.ofNat (256 * i2 + r2))), .val (.int (1 : Int32)), .val (.int (2 : Int32)), .val (.ref b52), .val (.ref ra), .unset, .unset]) rfl (XS.iloadN X59.here hx rfl (hb hby at_102) rfl (XS.iload X59.here hx rfl (hb hby at_103) rfl (XS.icmpYes X59.here hx rfl (pc0 := 105) (pc' := 129) rfl (hb hby at_105) rfl (XT.ii_ne_t (own_neI (by omega) hU hV : ¬ ((Int32.ofNat (256 * i + r)) = (Int32.ofNat (256 * i2 + r2))))) (by decide) (by decide) (XS.iload X59.here hx rfl (hb hby at_129) rfl (XS.iload X59.here hx rfl (hb hby at_131) rfl (XS.icmpYes X59.here hx rfl (pc0 := 133) (pc' := 146) rfl (hb hby at_133) rfl (XT.ii_le_t (by decide : ¬ ((2 : Int32) < (1 : Int32)))) (by decide) (by decide) (XS.iload X59.here hx rfl (hb hby at_146) rfl kc_)))))))) ?_
        show own_Ends p e below s _ _ _ (T59.setTop (mkF m 148 #[.val (.int p1), .val (.int p2), .val (.int p3), .val (.int (Int32.ofNat (256 * i + r))), .val (.int (Int32.ofNat (256 * i2 + r2))), .val (.int (1 : Int32)), .val (.int (2 : Int32)), .val (.ref b52), .val (.ref ra), .unset, .unset] [(.int (2 : Int32))]))
        refine own_step (fun _ kc_ => XS.iload X59.here hx rfl (hb hby at_148) rfl (XS.icmpNo X59.here hx rfl (hb hby at_150) rfl (XT.ii_le_f (by decide : (1 : Int32) < (2 : Int32))) (XS.iload X59.here hx rfl (hb hby at_153) rfl (XS.istore X59.here hx rfl (hb hby at_155) rfl (l' := #[.val (.int p1), .val (.int p2), .val (.int p3), .val (.int (Int32.ofNat (256 * i + r))), .val (.int (Int32.ofNat (256 * i2 + r2))), .val (.int (1 : Int32)), .val (.int (2 : Int32)), .val (.ref b52), .val (.ref ra), .val (.int (Int32.ofNat (256 * i2 + r2))), .unset]) rfl (XS.iloadN X59.here hx rfl (hb hby at_157) rfl (XS.istore X59.here hx rfl (hb hby at_158) rfl (l' := #[.val (.int p1), .val (.int p2), .val (.int p3), .val (.int (Int32.ofNat (256 * i + r))), .val (.int (Int32.ofNat (256 * i2 + r2))), .val (.int (1 : Int32)), .val (.int (2 : Int32)), .val (.ref b52), .val (.ref ra), .val (.int (Int32.ofNat (256 * i2 + r2))), .val (.int (Int32.ofNat (256 * i + r)))]) rfl (XS.goto X59.here hx rfl (pc0 := 160) (pc' := 186) rfl (hb hby at_160) (by decide) (by decide) (XS.aload X59.here hx rfl (hb hby at_186) rfl rfl kc_)))))))) ?_
        show own_Ends p e below s _ _ _ (T59.setTop (mkF m 188 #[.val (.int p1), .val (.int p2), .val (.int p3), .val (.int (Int32.ofNat (256 * i + r))), .val (.int (Int32.ofNat (256 * i2 + r2))), .val (.int (1 : Int32)), .val (.int (2 : Int32)), .val (.ref b52), .val (.ref ra), .val (.int (Int32.ofNat (256 * i2 + r2))), .val (.int (Int32.ofNat (256 * i + r)))] [(.ref ra)]))
        refine own_step (fun _ kc_ => own_alen X59 hx hZ rfl A59 (n := 2) (z := (2 : Int32)) rfl rfl (hb hby at_188) _ (XS.iconst X59.here hx rfl (hb hby at_189) (XS.icmpNo X59.here hx rfl (hb hby at_190) rfl (XT.ii_ne_f (by decide : (2 : Int32) = (2 : Int32))) (XS.aload X59.here hx rfl (hb hby at_193) rfl rfl (XS.iconst X59.here hx rfl (hb hby at_195) (own_caload X59 hx hZ rfl A59 (j := (0 : Int32)) (by decide) (i := 0) rfl (v := (.int (Int32.ofNat (256 * i2 + r2)))) rfl (hb hby at_196) _ (XS.iload X59.here hx rfl (hb hby at_197) rfl (XS.icmpNo X59.here hx rfl (hb hby at_199) rfl (XT.ii_ne_f (rfl : (Int32.ofNat (256 * i2 + r2)) = (Int32.ofNat (256 * i2 + r2)))) kc_)))))))) ?_
        show own_Ends p e below s _ _ _ (T59.setTop (mkF m 202 #[.val (.int p1), .val (.int p2), .val (.int p3), .val (.int (Int32.ofNat (256 * i + r))), .val (.int (Int32.ofNat (256 * i2 + r2))), .val (.int (1 : Int32)), .val (.int (2 : Int32)), .val (.ref b52), .val (.ref ra), .val (.int (Int32.ofNat (256 * i2 + r2))), .val (.int (Int32.ofNat (256 * i + r)))] []))
        refine own_step (fun _ kc_ => XS.aload X59.here hx rfl (hb hby at_202) rfl rfl (XS.iconst X59.here hx rfl (hb hby at_204) (own_caload X59 hx hZ rfl A59 (j := (1 : Int32)) (by decide) (i := 1) rfl (v := (.int (Int32.ofNat (256 * i + r)))) rfl (hb hby at_205) _ (XS.iload X59.here hx rfl (hb hby at_206) rfl (XS.icmpNo X59.here hx rfl (hb hby at_208) rfl (XT.ii_ne_f (rfl : (Int32.ofNat (256 * i + r)) = (Int32.ofNat (256 * i + r)))) (XS.iconst X59.here hx rfl (hb hby at_211) (XS.goto X59.here hx rfl (pc0 := 212) (pc' := 216) rfl (hb hby at_212) (by decide) (by decide) kc_))))))) ?_
        show own_Ends p e below s _ _ _ (T59.setTop (mkF m 216 #[.val (.int p1), .val (.int p2), .val (.int p3), .val (.int (Int32.ofNat (256 * i + r))), .val (.int (Int32.ofNat (256 * i2 + r2))), .val (.int (1 : Int32)), .val (.int (2 : Int32)), .val (.ref b52), .val (.ref ra), .val (.int (Int32.ofNat (256 * i2 + r2))), .val (.int (Int32.ofNat (256 * i + r)))] [(.int (1 : Int32))]))
        exact own_retN X59 hx (t := .boolean) hret (by simp) hlk (hb hby at_216) (by decide) (by decide) rfl ⟨rfl, N59⟩
    · show own_Ends p e below s _ _ _ (s₁.setTop (mkF m 32 #[.val (.int p1), .val (.int p2), .val (.int p3), .val (.int (Int32.ofNat (256 * i + r))), .val (.int (Int32.ofNat (256 * i2 + r2))), .unset, .unset, .unset, .unset, .unset, .unset] []))
      refine own_step (fun _ kc_ => XS.iconst X0.here hx rfl (hb hby at_32) (XS.iloadN X0.here hx rfl (hb hby at_33) rfl (XS.iconst X0.here hx rfl (hb hby at_34) (XS.iand X0.here hx rfl (hb hby at_35) rfl kc_)))) ?_
      show own_Ends p e below s _ _ _ (s₁.setTop (mkF m 36 #[.val (.int p1), .val (.int p2), .val (.int p3), .val (.int (Int32.ofNat (256 * i + r))), .val (.int (Int32.ofNat (256 * i2 + r2))), .unset, .unset, .unset, .unset, .unset, .unset] [(.int (p3 &&& (1 : Int32))), (.int (1 : Int32))]))
      rw [f1]
      show own_Ends p e below s _ _ _ (s₁.setTop (mkF m 36 #[.val (.int p1), .val (.int p2), .val (.int p3), .val (.int (Int32.ofNat (256 * i + r))), .val (.int (Int32.ofNat (256 * i2 + r2))), .unset, .unset, .unset, .unset, .unset, .unset] [(.int (1 : Int32)), (.int (1 : Int32))]))
      refine own_step (fun _ kc_ => XS.iadd X0.here hx rfl (hb hby at_36) rfl kc_) ?_
      show own_Ends p e below s _ _ _ (s₁.setTop (mkF m 37 #[.val (.int p1), .val (.int p2), .val (.int p3), .val (.int (Int32.ofNat (256 * i + r))), .val (.int (Int32.ofNat (256 * i2 + r2))), .unset, .unset, .unset, .unset, .unset, .unset] [(.int ((1 : Int32) + (1 : Int32)))]))
      rw [show ((1 : Int32) + (1 : Int32)) = (2 : Int32) from by decide]
      show own_Ends p e below s _ _ _ (s₁.setTop (mkF m 37 #[.val (.int p1), .val (.int p2), .val (.int p3), .val (.int (Int32.ofNat (256 * i + r))), .val (.int (Int32.ofNat (256 * i2 + r2))), .unset, .unset, .unset, .unset, .unset, .unset] [(.int (2 : Int32))]))
      refine own_step (fun _ kc_ => XS.istore X0.here hx rfl (hb hby at_37) rfl (l' := #[.val (.int p1), .val (.int p2), .val (.int p3), .val (.int (Int32.ofNat (256 * i + r))), .val (.int (Int32.ofNat (256 * i2 + r2))), .val (.int (2 : Int32)), .unset, .unset, .unset, .unset, .unset]) rfl (XS.iconst X0.here hx rfl (hb hby at_39) (XS.iloadN X0.here hx rfl (hb hby at_40) rfl (XS.iconst X0.here hx rfl (hb hby at_41) (XS.ishr X0.here hx rfl (hb hby at_42) rfl (XS.iconst X0.here hx rfl (hb hby at_43) (XS.iand X0.here hx rfl (hb hby at_44) rfl kc_))))))) ?_
      show own_Ends p e below s _ _ _ (s₁.setTop (mkF m 45 #[.val (.int p1), .val (.int p2), .val (.int p3), .val (.int (Int32.ofNat (256 * i + r))), .val (.int (Int32.ofNat (256 * i2 + r2))), .val (.int (2 : Int32)), .unset, .unset, .unset, .unset, .unset] [(.int ((p3 >>> ((1 : Int32) &&& 31)) &&& (1 : Int32))), (.int (1 : Int32))]))
      rw [f3]
      show own_Ends p e below s _ _ _ (s₁.setTop (mkF m 45 #[.val (.int p1), .val (.int p2), .val (.int p3), .val (.int (Int32.ofNat (256 * i + r))), .val (.int (Int32.ofNat (256 * i2 + r2))), .val (.int (2 : Int32)), .unset, .unset, .unset, .unset, .unset] [(.int (0 : Int32)), (.int (1 : Int32))]))
      refine own_step (fun _ kc_ => XS.iadd X0.here hx rfl (hb hby at_45) rfl kc_) ?_
      show own_Ends p e below s _ _ _ (s₁.setTop (mkF m 46 #[.val (.int p1), .val (.int p2), .val (.int p3), .val (.int (Int32.ofNat (256 * i + r))), .val (.int (Int32.ofNat (256 * i2 + r2))), .val (.int (2 : Int32)), .unset, .unset, .unset, .unset, .unset] [(.int ((1 : Int32) + (0 : Int32)))]))
      rw [show ((1 : Int32) + (0 : Int32)) = (1 : Int32) from by decide]
      show own_Ends p e below s _ _ _ (s₁.setTop (mkF m 46 #[.val (.int p1), .val (.int p2), .val (.int p3), .val (.int (Int32.ofNat (256 * i + r))), .val (.int (Int32.ofNat (256 * i2 + r2))), .val (.int (2 : Int32)), .unset, .unset, .unset, .unset, .unset] [(.int (1 : Int32))]))
      refine own_step (fun _ kc_ => XS.istore X0.here hx rfl (hb hby at_46) rfl (l' := #[.val (.int p1), .val (.int p2), .val (.int p3), .val (.int (Int32.ofNat (256 * i + r))), .val (.int (Int32.ofNat (256 * i2 + r2))), .val (.int (2 : Int32)), .val (.int (1 : Int32)), .unset, .unset, .unset, .unset]) rfl kc_) ?_
      show own_Ends p e below s _ _ _ (s₁.setTop (mkF m 48 #[.val (.int p1), .val (.int p2), .val (.int p3), .val (.int (Int32.ofNat (256 * i + r))), .val (.int (Int32.ofNat (256 * i2 + r2))), .val (.int (2 : Int32)), .val (.int (1 : Int32)), .unset, .unset, .unset, .unset] []))
      obtain ⟨T60, h60, X60, e60, E60, A60, D60, -, st60⟩ := newO X0 hx hZ hown (hw _ (List.mem_of_getElem? (i := 1) rfl)) (hw _ (List.mem_of_getElem? (i := 2) rfl)) (hw _ (List.mem_of_getElem? (i := 3) rfl)) e0 (g := (mkF m 48 #[.val (.int p1), .val (.int p2), .val (.int p3), .val (.int (Int32.ofNat (256 * i + r))), .val (.int (Int32.ofNat (256 * i2 + r2))), .val (.int (2 : Int32)), .val (.int (1 : Int32)), .unset, .unset, .unset, .unset] [])) rfl (hb hby at_48) (by decide : 0 + 1 ≤ _) (by decide : 0 + 1 ≤ _)
      obtain ⟨b60, g60⟩ : ∃ z, z = h0.size := ⟨_, rfl⟩
      rw [← g60] at A60 D60 st60
      have n0_b60 : n0 ≤ b60 := Nat.le_trans Z0 (Nat.le_of_eq g60.symm)
      have Zs60 := Nat.le_trans Z0 E60.1
      have F_pages_b60 : Fld Z h60 b60 "com/example/wakachi/wakachi/UnitCounts" "pages" "[[J" .null := D60 (Or.inr (hw _ (List.mem_of_getElem? (i := 13) rfl))) (ty := (.array (.array .long))) (by decide)
      refine own_step (fun _ kc_ => st60 _ kc_) ?_
      show own_Ends p e below s _ _ _ (T60.setTop (mkF m 51 #[.val (.int p1), .val (.int p2), .val (.int p3), .val (.int (Int32.ofNat (256 * i + r))), .val (.int (Int32.ofNat (256 * i2 + r2))), .val (.int (2 : Int32)), .val (.int (1 : Int32)), .unset, .unset, .unset, .unset] [(.ref b60)]))
      refine own_step (fun _ kc_ => XS.dup X60.here hx rfl (hb hby at_51) rfl rfl kc_) ?_
      show own_Ends p e below s _ _ _ (T60.setTop (mkF m 52 #[.val (.int p1), .val (.int p2), .val (.int p3), .val (.int (Int32.ofNat (256 * i + r))), .val (.int (Int32.ofNat (256 * i2 + r2))), .val (.int (2 : Int32)), .val (.int (1 : Int32)), .unset, .unset, .unset, .unset] [(.ref b60), (.ref b60)]))
      obtain ⟨_, _, ⟨T61, L61, k61, n61⟩, -, X61, ⟨Lc61, hQ61, l61, y61, z61⟩, st61⟩ := X60.specialBack hx (y := (⟨"com/example/wakachi/wakachi/UnitCounts", "<init>", "()V"⟩ : MethodName)) rfl hown (mvT hZ (hw _ (List.mem_of_getElem? (i := 4) rfl))) (mvT hZ (hw _ (List.mem_of_getElem? (i := 5) rfl))) (mvT hZ (hw _ (List.mem_of_getElem? (i := 6) rfl))) (by decide) (backOf (W := 1) (rm1 l Z a0 hw [] b60  h60 n0 Zs60 A60 F_pages_b60 n0_b60) hZ (hw _ (List.mem_of_getElem? (i := 6) rfl)) (hw _ (List.mem_of_getElem? (i := 3) rfl)) (by decide) (by decide)) (g := (mkF m 52 #[.val (.int p1), .val (.int p2), .val (.int p3), .val (.int (Int32.ofNat (256 * i + r))), .val (.int (Int32.ofNat (256 * i2 + r2))), .val (.int (2 : Int32)), .val (.int (1 : Int32)), .unset, .unset, .unset, .unset] [(.ref b60), (.ref b60)])) rfl (by rw [hml]; rfl) (Steps.refl _) (a := b60) (argsL := []) (rest := [(.ref b60)]) (lenOf pd_0 rfl) rfl (by show 2 * 0 + _ ≤ _; exact Nat.le_of_eq rfl) (hb hby at_52) (fun _ _ => ⟨rfl, e60, (by decide : 1 + 1 ≤ _), (by decide : 1 + 256 ≤ _)⟩)
      dsimp only [Pt.U, Pt.locs, Pt.cells, Pt.slots] at X61 l61 y61 z61 st61 hQ61
      subst y61 z61
      obtain ⟨rfl, N61q, K61k, pa, fP61, U61⟩ := hQ61
      have E_b60_61 := (A60).keep K61k
      have Zs61 := Nat.le_trans Zs60 K61k.1
      have N61 : Fr n0 L61 := by rw [l61]; exact Fr.app N0 N61q
      refine own_step (fun _ kc_ => st61.trans kc_) ?_
      show own_Ends p e below s _ _ _ (T61.setTop (mkF m 55 #[.val (.int p1), .val (.int p2), .val (.int p3), .val (.int (Int32.ofNat (256 * i + r))), .val (.int (Int32.ofNat (256 * i2 + r2))), .val (.int (2 : Int32)), .val (.int (1 : Int32)), .unset, .unset, .unset, .unset] [(.ref b60)]))
      refine own_step (fun _ kc_ => XS.astore X61.here hx rfl (hb hby at_55) rfl rfl (l' := #[.val (.int p1), .val (.int p2), .val (.int p3), .val (.int (Int32.ofNat (256 * i + r))), .val (.int (Int32.ofNat (256 * i2 + r2))), .val (.int (2 : Int32)), .val (.int (1 : Int32)), .val (.ref b60), .unset, .unset, .unset]) rfl (XS.aload X61.here hx rfl (hb hby at_57) rfl rfl (XS.iloadN X61.here hx rfl (hb hby at_59) rfl kc_))) ?_
      show own_Ends p e below s _ _ _ (T61.setTop (mkF m 60 #[.val (.int p1), .val (.int p2), .val (.int p3), .val (.int (Int32.ofNat (256 * i + r))), .val (.int (Int32.ofNat (256 * i2 + r2))), .val (.int (2 : Int32)), .val (.int (1 : Int32)), .val (.ref b60), .unset, .unset, .unset] [(.int (Int32.ofNat (256 * i + r))), (.ref b60)]))
      obtain ⟨cq62, kq62, q62a, q62b, q62c⟩ := isOf hZ rfl E_b60_61
      obtain ⟨_, _, ⟨T62, L62, k62, n62⟩, -, X62, ⟨Lc62, hQ62, l62, y62, z62⟩, st62⟩ := X61.virtualBack hx (y := (⟨"com/example/wakachi/wakachi/UnitCounts", "add", "(C)V"⟩ : MethodName)) (z := (⟨"com/example/wakachi/wakachi/UnitCounts", "add", "(C)V"⟩ : MethodName)) hown (mvT hZ (hw _ (List.mem_of_getElem? (i := 14) rfl))) (mvT hZ (hw _ (List.mem_of_getElem? (i := 15) rfl))) (notFace_of_selects (args := #[]) (mvT hZ (hw _ (List.mem_of_getElem? (i := 17) rfl)))) (mvT hZ (hw _ (List.mem_of_getElem? (i := 17) rfl))) (mvT hZ (hw _ (List.mem_of_getElem? (i := 16) rfl))) (by decide) (backOf (W := 0) (rmA l Z a0 hw [] b60 pa (fun _ => none) (fun _ => 0) i r T61.heap n0 Zs61 hi hr E_b60_61 fP61 U61) hZ (hw _ (List.mem_of_getElem? (i := 18) rfl)) (hw _ (List.mem_of_getElem? (i := 3) rfl)) (by decide) (by decide)) q62a q62c (g := (mkF m 60 #[.val (.int p1), .val (.int p2), .val (.int p3), .val (.int (Int32.ofNat (256 * i + r))), .val (.int (Int32.ofNat (256 * i2 + r2))), .val (.int (2 : Int32)), .val (.int (1 : Int32)), .val (.ref b60), .unset, .unset, .unset] [(.int (Int32.ofNat (256 * i + r))), (.ref b60)])) rfl (by rw [hml]; rfl) (Steps.refl _) (argsL := [(.int (Int32.ofNat (256 * i + r)))]) (rest := []) (lenOf pd_5 rfl) rfl (by show 2 * 0 + _ ≤ _; exact Nat.le_of_eq rfl) (hb hby at_60) (fun _ _ => ⟨rfl, rfl, (by decide : 2 + 1 ≤ _), (by decide : 257 + 256 ≤ _)⟩)
      dsimp only [Pt.U, Pt.locs, Pt.cells, Pt.slots] at X62 l62 y62 z62 st62 hQ62
      subst y62 z62
      obtain ⟨rfl, N62q, Zs62, E62e, F62f, B62, U62⟩ := hQ62
      obtain ⟨cn62, hcn62⟩ : ∃ cn, cn = own_up (fun _ => 0) (256 * i + r) ((fun _ => 0) (256 * i + r) + 1) := ⟨_, rfl⟩
      rw [← hcn62] at U62
      have N62 : Fr n0 L62 := by rw [l62]; exact Fr.app N61 N62q
      refine own_step (fun _ kc_ => st62.trans kc_) ?_
      show own_Ends p e below s _ _ _ (T62.setTop (mkF m 63 #[.val (.int p1), .val (.int p2), .val (.int p3), .val (.int (Int32.ofNat (256 * i + r))), .val (.int (Int32.ofNat (256 * i2 + r2))), .val (.int (2 : Int32)), .val (.int (1 : Int32)), .val (.ref b60), .unset, .unset, .unset] []))
      refine own_step (fun _ kc_ => XS.aload X62.here hx rfl (hb hby at_63) rfl rfl (XS.iload X62.here hx rfl (hb hby at_65) rfl kc_)) ?_
      show own_Ends p e below s _ _ _ (T62.setTop (mkF m 67 #[.val (.int p1), .val (.int p2), .val (.int p3), .val (.int (Int32.ofNat (256 * i + r))), .val (.int (Int32.ofNat (256 * i2 + r2))), .val (.int (2 : Int32)), .val (.int (1 : Int32)), .val (.ref b60), .unset, .unset, .unset] [(.int (Int32.ofNat (256 * i2 + r2))), (.ref b60)]))
      obtain ⟨cq63, kq63, q63a, q63b, q63c⟩ := isOf hZ rfl E62e
      obtain ⟨_, _, ⟨T63, L63, k63, n63⟩, -, X63, ⟨Lc63, hQ63, l63, y63, z63⟩, st63⟩ := X62.virtualBack hx (y := (⟨"com/example/wakachi/wakachi/UnitCounts", "add", "(C)V"⟩ : MethodName)) (z := (⟨"com/example/wakachi/wakachi/UnitCounts", "add", "(C)V"⟩ : MethodName)) hown (mvT hZ (hw _ (List.mem_of_getElem? (i := 14) rfl))) (mvT hZ (hw _ (List.mem_of_getElem? (i := 15) rfl))) (notFace_of_selects (args := #[]) (mvT hZ (hw _ (List.mem_of_getElem? (i := 17) rfl)))) (mvT hZ (hw _ (List.mem_of_getElem? (i := 17) rfl))) (mvT hZ (hw _ (List.mem_of_getElem? (i := 16) rfl))) (by decide) (backOf (W := 0) (rmA l Z a0 hw [] b60 pa B62 cn62 i2 r2 T62.heap n0 Zs62 hi2 hr2 E62e F62f U62) hZ (hw _ (List.mem_of_getElem? (i := 18) rfl)) (hw _ (List.mem_of_getElem? (i := 3) rfl)) (by decide) (by decide)) q63a q63c (g := (mkF m 67 #[.val (.int p1), .val (.int p2), .val (.int p3), .val (.int (Int32.ofNat (256 * i + r))), .val (.int (Int32.ofNat (256 * i2 + r2))), .val (.int (2 : Int32)), .val (.int (1 : Int32)), .val (.ref b60), .unset, .unset, .unset] [(.int (Int32.ofNat (256 * i2 + r2))), (.ref b60)])) rfl (by rw [hml]; rfl) (Steps.refl _) (argsL := [(.int (Int32.ofNat (256 * i2 + r2)))]) (rest := []) (lenOf pd_5 rfl) rfl (by show 2 * 0 + _ ≤ _; exact Nat.le_of_eq rfl) (hb hby at_67) (fun _ _ => ⟨rfl, rfl, (by decide : 3 + 1 ≤ _), (by decide : 513 + 256 ≤ _)⟩)
      dsimp only [Pt.U, Pt.locs, Pt.cells, Pt.slots] at X63 l63 y63 z63 st63 hQ63
      subst y63 z63
      obtain ⟨rfl, N63q, Zs63, E63e, F63f, B63, U63⟩ := hQ63
      obtain ⟨cn63, hcn63⟩ : ∃ cn, cn = own_up cn62 (256 * i2 + r2) (cn62 (256 * i2 + r2) + 1) := ⟨_, rfl⟩
      rw [← hcn63] at U63
      have N63 : Fr n0 L63 := by rw [l63]; exact Fr.app N62 N63q
      refine own_step (fun _ kc_ => st63.trans kc_) ?_
      show own_Ends p e below s _ _ _ (T63.setTop (mkF m 70 #[.val (.int p1), .val (.int p2), .val (.int p3), .val (.int (Int32.ofNat (256 * i + r))), .val (.int (Int32.ofNat (256 * i2 + r2))), .val (.int (2 : Int32)), .val (.int (1 : Int32)), .val (.ref b60), .unset, .unset, .unset] []))
      refine own_step (fun _ kc_ => XS.iloadN X63.here hx rfl (hb hby at_70) rfl (XS.iconst X63.here hx rfl (hb hby at_71) (XS.iand X63.here hx rfl (hb hby at_72) rfl kc_))) ?_
      show own_Ends p e below s _ _ _ (T63.setTop (mkF m 73 #[.val (.int p1), .val (.int p2), .val (.int p3), .val (.int (Int32.ofNat (256 * i + r))), .val (.int (Int32.ofNat (256 * i2 + r2))), .val (.int (2 : Int32)), .val (.int (1 : Int32)), .val (.ref b60), .unset, .unset, .unset] [(.int (p3 &&& (1 : Int32)))]))
      rw [f1]
      show own_Ends p e below s _ _ _ (T63.setTop (mkF m 73 #[.val (.int p1), .val (.int p2), .val (.int p3), .val (.int (Int32.ofNat (256 * i + r))), .val (.int (Int32.ofNat (256 * i2 + r2))), .val (.int (2 : Int32)), .val (.int (1 : Int32)), .val (.ref b60), .unset, .unset, .unset] [(.int (1 : Int32))]))
      refine own_step (fun _ kc_ => XS.ifNo X63.here hx rfl (hb hby at_73) rfl (XT.i0_eq_f (by decide : ¬ ((1 : Int32) = 0))) (XS.aload X63.here hx rfl (hb hby at_76) rfl rfl (XS.iloadN X63.here hx rfl (hb hby at_78) rfl kc_))) ?_
      show own_Ends p e below s _ _ _ (T63.setTop (mkF m 79 #[.val (.int p1), .val (.int p2), .val (.int p3), .val (.int (Int32.ofNat (256 * i + r))), .val (.int (Int32.ofNat (256 * i2 + r2))), .val (.int (2 : Int32)), .val (.int (1 : Int32)), .val (.ref b60), .unset, .unset, .unset] [(.int (Int32.ofNat (256 * i + r))), (.ref b60)]))
      obtain ⟨cq64, kq64, q64a, q64b, q64c⟩ := isOf hZ rfl E63e
      obtain ⟨_, _, ⟨T64, L64, k64, n64⟩, -, X64, ⟨Lc64, hQ64, l64, y64, z64⟩, st64⟩ := X63.virtualBack hx (y := (⟨"com/example/wakachi/wakachi/UnitCounts", "add", "(C)V"⟩ : MethodName)) (z := (⟨"com/example/wakachi/wakachi/UnitCounts", "add", "(C)V"⟩ : MethodName)) hown (mvT hZ (hw _ (List.mem_of_getElem? (i := 14) rfl))) (mvT hZ (hw _ (List.mem_of_getElem? (i := 15) rfl))) (notFace_of_selects (args := #[]) (mvT hZ (hw _ (List.mem_of_getElem? (i := 17) rfl)))) (mvT hZ (hw _ (List.mem_of_getElem? (i := 17) rfl))) (mvT hZ (hw _ (List.mem_of_getElem? (i := 16) rfl))) (by decide) (backOf (W := 0) (rmA l Z a0 hw [] b60 pa B63 cn63 i r T63.heap n0 Zs63 hi hr E63e F63f U63) hZ (hw _ (List.mem_of_getElem? (i := 18) rfl)) (hw _ (List.mem_of_getElem? (i := 3) rfl)) (by decide) (by decide)) q64a q64c (g := (mkF m 79 #[.val (.int p1), .val (.int p2), .val (.int p3), .val (.int (Int32.ofNat (256 * i + r))), .val (.int (Int32.ofNat (256 * i2 + r2))), .val (.int (2 : Int32)), .val (.int (1 : Int32)), .val (.ref b60), .unset, .unset, .unset] [(.int (Int32.ofNat (256 * i + r))), (.ref b60)])) rfl (by rw [hml]; rfl) (Steps.refl _) (argsL := [(.int (Int32.ofNat (256 * i + r)))]) (rest := []) (lenOf pd_5 rfl) rfl (by show 2 * 0 + _ ≤ _; exact Nat.le_of_eq rfl) (hb hby at_79) (fun _ _ => ⟨rfl, rfl, (by decide : 4 + 1 ≤ _), (by decide : 769 + 256 ≤ _)⟩)
      dsimp only [Pt.U, Pt.locs, Pt.cells, Pt.slots] at X64 l64 y64 z64 st64 hQ64
      subst y64 z64
      obtain ⟨rfl, N64q, Zs64, E64e, F64f, B64, U64⟩ := hQ64
      obtain ⟨cn64, hcn64⟩ : ∃ cn, cn = own_up cn63 (256 * i + r) (cn63 (256 * i + r) + 1) := ⟨_, rfl⟩
      rw [← hcn64] at U64
      have N64 : Fr n0 L64 := by rw [l64]; exact Fr.app N63 N64q
      refine own_step (fun _ kc_ => st64.trans kc_) ?_
      show own_Ends p e below s _ _ _ (T64.setTop (mkF m 82 #[.val (.int p1), .val (.int p2), .val (.int p3), .val (.int (Int32.ofNat (256 * i + r))), .val (.int (Int32.ofNat (256 * i2 + r2))), .val (.int (2 : Int32)), .val (.int (1 : Int32)), .val (.ref b60), .unset, .unset, .unset] []))
      refine own_step (fun _ kc_ => XS.iloadN X64.here hx rfl (hb hby at_82) rfl (XS.iconst X64.here hx rfl (hb hby at_83) (XS.iand X64.here hx rfl (hb hby at_84) rfl kc_))) ?_
      show own_Ends p e below s _ _ _ (T64.setTop (mkF m 85 #[.val (.int p1), .val (.int p2), .val (.int p3), .val (.int (Int32.ofNat (256 * i + r))), .val (.int (Int32.ofNat (256 * i2 + r2))), .val (.int (2 : Int32)), .val (.int (1 : Int32)), .val (.ref b60), .unset, .unset, .unset] [(.int (p3 &&& (2 : Int32)))]))
      rw [f2]
      show own_Ends p e below s _ _ _ (T64.setTop (mkF m 85 #[.val (.int p1), .val (.int p2), .val (.int p3), .val (.int (Int32.ofNat (256 * i + r))), .val (.int (Int32.ofNat (256 * i2 + r2))), .val (.int (2 : Int32)), .val (.int (1 : Int32)), .val (.ref b60), .unset, .unset, .unset] [(.int (0 : Int32))]))
      refine own_step (fun _ kc_ => XS.ifYes X64.here hx rfl (pc0 := 85) (pc' := 95) rfl (hb hby at_85) rfl (XT.i0_eq_t (by decide : (0 : Int32) = 0)) (by decide) (by decide) (XS.aload X64.here hx rfl (hb hby at_95) rfl rfl kc_)) ?_
      show own_Ends p e below s _ _ _ (T64.setTop (mkF m 97 #[.val (.int p1), .val (.int p2), .val (.int p3), .val (.int (Int32.ofNat (256 * i + r))), .val (.int (Int32.ofNat (256 * i2 + r2))), .val (.int (2 : Int32)), .val (.int (1 : Int32)), .val (.ref b60), .unset, .unset, .unset] [(.ref b60)]))
      have hU : (256 * i + r) < 65536 := by omega
      have hV : (256 * i2 + r2) < 65536 := by omega
      rcases Nat.lt_trichotomy (256 * i + r) (256 * i2 + r2) with q | q | q
      · have e1 : ((256 * i + r) = (256 * i2 + r2)) = False := eq_false (by omega)
        have e2 : ((256 * i2 + r2) = (256 * i + r)) = False := eq_false (by omega)
        have cU : cn64 (256 * i + r) = Int64.ofNat 2 := by
          simp only [hcn64, hcn63, hcn62, own_up, e1, e2, eq_self, if_true, if_false]; decide
        have cV : cn64 (256 * i2 + r2) = Int64.ofNat 1 := by
          simp only [hcn64, hcn63, hcn62, own_up, e1, e2, eq_self, if_true, if_false]; decide
        have c0 : ∀ z, z ≠ (256 * i + r) → z ≠ (256 * i2 + r2) → cn64 z = 0 := by
          intro z h1 h2
          simp only [hcn64, hcn63, hcn62, own_up, if_neg h1, if_neg h2]
        have hu := own_two (own_iff2 cU cV (by decide) (by decide) c0) q hV
        have hlt : ¬ own_key cn64 (256 * i2 + r2) < own_key cn64 (256 * i + r) := by rw [(own_klt hV (by decide) cV hU (by decide) cU)]; omega
        show own_Ends p e below s _ _ _ (T64.setTop (mkF m 97 #[.val (.int p1), .val (.int p2), .val (.int p3), .val (.int (Int32.ofNat (256 * i + r))), .val (.int (Int32.ofNat (256 * i2 + r2))), .val (.int (2 : Int32)), .val (.int (1 : Int32)), .val (.ref b60), .unset, .unset, .unset] [(.ref b60)]))
        obtain ⟨cq65, kq65, q65a, q65b, q65c⟩ := isOf hZ rfl E64e
        obtain ⟨_, _, ⟨T65, L65, k65, n65⟩, -, X65, ⟨Lc65, hQ65, l65, y65, z65⟩, st65⟩ := X64.virtualBack hx (y := (⟨"com/example/wakachi/wakachi/UnitCounts", "byFrequency", "()[C"⟩ : MethodName)) (z := (⟨"com/example/wakachi/wakachi/UnitCounts", "byFrequency", "()[C"⟩ : MethodName)) hown (mvT hZ (hw _ (List.mem_of_getElem? (i := 21) rfl))) (mvT hZ (hw _ (List.mem_of_getElem? (i := 22) rfl))) (notFace_of_selects (args := #[]) (mvT hZ (hw _ (List.mem_of_getElem? (i := 24) rfl)))) (mvT hZ (hw _ (List.mem_of_getElem? (i := 24) rfl))) (mvT hZ (hw _ (List.mem_of_getElem? (i := 23) rfl))) (by decide) (backOf (W := 0) (rmB2a l Z a0 hw [] b60 pa B64 cn64 (256 * i + r) (256 * i2 + r2) T64.heap n0 Zs64 hu E64e F64f U64 hlt) hZ (hw _ (List.mem_of_getElem? (i := 25) rfl)) (hw _ (List.mem_of_getElem? (i := 3) rfl)) (by decide) (by decide)) q65a q65c (g := (mkF m 97 #[.val (.int p1), .val (.int p2), .val (.int p3), .val (.int (Int32.ofNat (256 * i + r))), .val (.int (Int32.ofNat (256 * i2 + r2))), .val (.int (2 : Int32)), .val (.int (1 : Int32)), .val (.ref b60), .unset, .unset, .unset] [(.ref b60)])) rfl (by rw [hml]; rfl) (Steps.refl _) (argsL := []) (rest := []) (lenOf pd_6 rfl) rfl (by show 2 * 0 + _ ≤ _; exact Nat.le_of_eq rfl) (hb hby at_97) (fun _ _ => ⟨rfl, rfl, (by decide : 5 + 2 ≤ _), (by decide : 1025 + 4 ≤ _)⟩)
        dsimp only [Pt.U, Pt.locs, Pt.cells, Pt.slots] at X65 l65 y65 z65 st65 hQ65
        subst y65 z65
        obtain ⟨N65q, ra, rfl, A65⟩ := hQ65
        have N65 : Fr n0 L65 := by rw [l65]; exact Fr.app N64 N65q
        refine own_step (fun _ kc_ => st65.trans kc_) ?_
        show own_Ends p e below s _ _ _ (T65.setTop (mkF m 100 #[.val (.int p1), .val (.int p2), .val (.int p3), .val (.int (Int32.ofNat (256 * i + r))), .val (.int (Int32.ofNat (256 * i2 + r2))), .val (.int (2 : Int32)), .val (.int (1 : Int32)), .val (.ref b60), .unset, .unset, .unset] [(.ref ra)]))
        refine own_step (fun _ kc_ => XS.astore X65.here hx rfl (hb hby at_100) rfl rfl (l' := #[.val (.int p1), .val (.int p2), .val (.int p3), .val (.int (Int32.ofNat (256 * i + r))), .val (.int (Int32.ofNat (256 * i2 + r2))), .val (.int (2 : Int32)), .val (.int (1 : Int32)), .val (.ref b60), .val (.ref ra), .unset, .unset]) rfl (XS.iloadN X65.here hx rfl (hb hby at_102) rfl (XS.iload X65.here hx rfl (hb hby at_103) rfl (XS.icmpYes X65.here hx rfl (pc0 := 105) (pc' := 129) rfl (hb hby at_105) rfl (XT.ii_ne_t (own_neI (by omega) hU hV : ¬ ((Int32.ofNat (256 * i + r)) = (Int32.ofNat (256 * i2 + r2))))) (by decide) (by decide) (XS.iload X65.here hx rfl (hb hby at_129) rfl (XS.iload X65.here hx rfl (hb hby at_131) rfl (XS.icmpNo X65.here hx rfl (hb hby at_133) rfl (XT.ii_le_f (by decide : (1 : Int32) < (2 : Int32))) (XS.iloadN X65.here hx rfl (hb hby at_136) rfl kc_)))))))) ?_
        show own_Ends p e below s _ _ _ (T65.setTop (mkF m 137 #[.val (.int p1), .val (.int p2), .val (.int p3), .val (.int (Int32.ofNat (256 * i + r))), .val (.int (Int32.ofNat (256 * i2 + r2))), .val (.int (2 : Int32)), .val (.int (1 : Int32)), .val (.ref b60), .val (.ref ra), .unset, .unset] [(.int (Int32.ofNat (256 * i + r)))]))
        refine own_step (fun _ kc_ => XS.istore X65.here hx rfl (hb hby at_137) rfl (l' := #[.val (.int p1), .val (.int p2), .val (.int p3), .val (.int (Int32.ofNat (256 * i + r))), .val (.int (Int32.ofNat (256 * i2 + r2))), .val (.int (2 : Int32)), .val (.int (1 : Int32)), .val (.ref b60), .val (.ref ra), .val (.int (Int32.ofNat (256 * i + r))), .unset]) rfl (XS.iload X65.here hx rfl (hb hby at_139) rfl (XS.istore X65.here hx rfl (hb hby at_141) rfl (l' := #[.val (.int p1), .val (.int p2), .val (.int p3), .val (.int (Int32.ofNat (256 * i + r))), .val (.int (Int32.ofNat (256 * i2 + r2))), .val (.int (2 : Int32)), .val (.int (1 : Int32)), .val (.ref b60), .val (.ref ra), .val (.int (Int32.ofNat (256 * i + r))), .val (.int (Int32.ofNat (256 * i2 + r2)))]) rfl (XS.goto X65.here hx rfl (pc0 := 143) (pc' := 186) rfl (hb hby at_143) (by decide) (by decide) (XS.aload X65.here hx rfl (hb hby at_186) rfl rfl (own_alen X65 hx hZ rfl A65 (n := 2) (z := (2 : Int32)) rfl rfl (hb hby at_188) _ (XS.iconst X65.here hx rfl (hb hby at_189) (XS.icmpNo X65.here hx rfl (hb hby at_190) rfl (XT.ii_ne_f (by decide : (2 : Int32) = (2 : Int32))) kc_)))))))) ?_
        show own_Ends p e below s _ _ _ (T65.setTop (mkF m 193 #[.val (.int p1), .val (.int p2), .val (.int p3), .val (.int (Int32.ofNat (256 * i + r))), .val (.int (Int32.ofNat (256 * i2 + r2))), .val (.int (2 : Int32)), .val (.int (1 : Int32)), .val (.ref b60), .val (.ref ra), .val (.int (Int32.ofNat (256 * i + r))), .val (.int (Int32.ofNat (256 * i2 + r2)))] []))
        refine own_step (fun _ kc_ => XS.aload X65.here hx rfl (hb hby at_193) rfl rfl (XS.iconst X65.here hx rfl (hb hby at_195) (own_caload X65 hx hZ rfl A65 (j := (0 : Int32)) (by decide) (i := 0) rfl (v := (.int (Int32.ofNat (256 * i + r)))) rfl (hb hby at_196) _ (XS.iload X65.here hx rfl (hb hby at_197) rfl (XS.icmpNo X65.here hx rfl (hb hby at_199) rfl (XT.ii_ne_f (rfl : (Int32.ofNat (256 * i + r)) = (Int32.ofNat (256 * i + r)))) (XS.aload X65.here hx rfl (hb hby at_202) rfl rfl (XS.iconst X65.here hx rfl (hb hby at_204) (own_caload X65 hx hZ rfl A65 (j := (1 : Int32)) (by decide) (i := 1) rfl (v := (.int (Int32.ofNat (256 * i2 + r2)))) rfl (hb hby at_205) _ kc_)))))))) ?_
        show own_Ends p e below s _ _ _ (T65.setTop (mkF m 206 #[.val (.int p1), .val (.int p2), .val (.int p3), .val (.int (Int32.ofNat (256 * i + r))), .val (.int (Int32.ofNat (256 * i2 + r2))), .val (.int (2 : Int32)), .val (.int (1 : Int32)), .val (.ref b60), .val (.ref ra), .val (.int (Int32.ofNat (256 * i + r))), .val (.int (Int32.ofNat (256 * i2 + r2)))] [(.int (Int32.ofNat (256 * i2 + r2)))]))
        refine own_step (fun _ kc_ => XS.iload X65.here hx rfl (hb hby at_206) rfl (XS.icmpNo X65.here hx rfl (hb hby at_208) rfl (XT.ii_ne_f (rfl : (Int32.ofNat (256 * i2 + r2)) = (Int32.ofNat (256 * i2 + r2)))) (XS.iconst X65.here hx rfl (hb hby at_211) (XS.goto X65.here hx rfl (pc0 := 212) (pc' := 216) rfl (hb hby at_212) (by decide) (by decide) kc_)))) ?_
        show own_Ends p e below s _ _ _ (T65.setTop (mkF m 216 #[.val (.int p1), .val (.int p2), .val (.int p3), .val (.int (Int32.ofNat (256 * i + r))), .val (.int (Int32.ofNat (256 * i2 + r2))), .val (.int (2 : Int32)), .val (.int (1 : Int32)), .val (.ref b60), .val (.ref ra), .val (.int (Int32.ofNat (256 * i + r))), .val (.int (Int32.ofNat (256 * i2 + r2)))] [(.int (1 : Int32))]))
        exact own_retN X65 hx (t := .boolean) hret (by simp) hlk (hb hby at_216) (by decide) (by decide) rfl ⟨rfl, N65⟩
      · have cU : cn64 (256 * i + r) = Int64.ofNat 3 := by
          simp only [hcn64, hcn63, hcn62, own_up, ← q, eq_self, if_true]; decide
        have c0 : ∀ z, z ≠ (256 * i + r) → cn64 z = 0 := by
          intro z h1
          simp only [hcn64, hcn63, hcn62, own_up, ← q, if_neg h1]
        have hu := own_uno cU (by decide) c0 hU
        show own_Ends p e below s _ _ _ (T64.setTop (mkF m 97 #[.val (.int p1), .val (.int p2), .val (.int p3), .val (.int (Int32.ofNat (256 * i + r))), .val (.int (Int32.ofNat (256 * i2 + r2))), .val (.int (2 : Int32)), .val (.int (1 : Int32)), .val (.ref b60), .unset, .unset, .unset] [(.ref b60)]))
        obtain ⟨cq66, kq66, q66a, q66b, q66c⟩ := isOf hZ rfl E64e
        obtain ⟨_, _, ⟨T66, L66, k66, n66⟩, -, X66, ⟨Lc66, hQ66, l66, y66, z66⟩, st66⟩ := X64.virtualBack hx (y := (⟨"com/example/wakachi/wakachi/UnitCounts", "byFrequency", "()[C"⟩ : MethodName)) (z := (⟨"com/example/wakachi/wakachi/UnitCounts", "byFrequency", "()[C"⟩ : MethodName)) hown (mvT hZ (hw _ (List.mem_of_getElem? (i := 21) rfl))) (mvT hZ (hw _ (List.mem_of_getElem? (i := 22) rfl))) (notFace_of_selects (args := #[]) (mvT hZ (hw _ (List.mem_of_getElem? (i := 24) rfl)))) (mvT hZ (hw _ (List.mem_of_getElem? (i := 24) rfl))) (mvT hZ (hw _ (List.mem_of_getElem? (i := 23) rfl))) (by decide) (backOf (W := 0) (rmB1a l Z a0 hw [] b60 pa B64 cn64 (256 * i + r) T64.heap n0 Zs64 hu E64e F64f U64) hZ (hw _ (List.mem_of_getElem? (i := 25) rfl)) (hw _ (List.mem_of_getElem? (i := 3) rfl)) (by decide) (by decide)) q66a q66c (g := (mkF m 97 #[.val (.int p1), .val (.int p2), .val (.int p3), .val (.int (Int32.ofNat (256 * i + r))), .val (.int (Int32.ofNat (256 * i2 + r2))), .val (.int (2 : Int32)), .val (.int (1 : Int32)), .val (.ref b60), .unset, .unset, .unset] [(.ref b60)])) rfl (by rw [hml]; rfl) (Steps.refl _) (argsL := []) (rest := []) (lenOf pd_6 rfl) rfl (by show 2 * 0 + _ ≤ _; exact Nat.le_of_eq rfl) (hb hby at_97) (fun _ _ => ⟨rfl, rfl, (by decide : 5 + 2 ≤ _), (by decide : 1025 + 2 ≤ _)⟩)
        dsimp only [Pt.U, Pt.locs, Pt.cells, Pt.slots] at X66 l66 y66 z66 st66 hQ66
        subst y66 z66
        obtain ⟨N66q, ra, rfl, A66⟩ := hQ66
        have N66 : Fr n0 L66 := by rw [l66]; exact Fr.app N64 N66q
        refine own_step (fun _ kc_ => st66.trans kc_) ?_
        show own_Ends p e below s _ _ _ (T66.setTop (mkF m 100 #[.val (.int p1), .val (.int p2), .val (.int p3), .val (.int (Int32.ofNat (256 * i + r))), .val (.int (Int32.ofNat (256 * i2 + r2))), .val (.int (2 : Int32)), .val (.int (1 : Int32)), .val (.ref b60), .unset, .unset, .unset] [(.ref ra)]))
        refine own_step (fun _ kc_ => XS.astore X66.here hx rfl (hb hby at_100) rfl rfl (l' := #[.val (.int p1), .val (.int p2), .val (.int p3), .val (.int (Int32.ofNat (256 * i + r))), .val (.int (Int32.ofNat (256 * i2 + r2))), .val (.int (2 : Int32)), .val (.int (1 : Int32)), .val (.ref b60), .val (.ref ra), .unset, .unset]) rfl (XS.iloadN X66.here hx rfl (hb hby at_102) rfl (XS.iload X66.here hx rfl (hb hby at_103) rfl (XS.icmpNo X66.here hx rfl (hb hby at_105) rfl (XT.ii_ne_f (by rw [q] : (Int32.ofNat (256 * i + r)) = (Int32.ofNat (256 * i2 + r2)))) (XS.aload X66.here hx rfl (hb hby at_108) rfl rfl (own_alen X66 hx hZ rfl A66 (n := 1) (z := (1 : Int32)) rfl rfl (hb hby at_110) _ (XS.iconst X66.here hx rfl (hb hby at_111) (XS.icmpNo X66.here hx rfl (hb hby at_112) rfl (XT.ii_ne_f (by decide : (1 : Int32) = (1 : Int32))) kc_)))))))) ?_
        show own_Ends p e below s _ _ _ (T66.setTop (mkF m 115 #[.val (.int p1), .val (.int p2), .val (.int p3), .val (.int (Int32.ofNat (256 * i + r))), .val (.int (Int32.ofNat (256 * i2 + r2))), .val (.int (2 : Int32)), .val (.int (1 : Int32)), .val (.ref b60), .val (.ref ra), .unset, .unset] []))
        refine own_step (fun _ kc_ => XS.aload X66.here hx rfl (hb hby at_115) rfl rfl (XS.iconst X66.here hx rfl (hb hby at_117) (own_caload X66 hx hZ rfl A66 (j := (0 : Int32)) (by decide) (i := 0) rfl (v := (.int (Int32.ofNat (256 * i + r)))) rfl (hb hby at_118) _ (XS.iloadN X66.here hx rfl (hb hby at_119) rfl (XS.icmpNo X66.here hx rfl (hb hby at_120) rfl (XT.ii_ne_f (rfl : (Int32.ofNat (256 * i + r)) = (Int32.ofNat (256 * i + r)))) (XS.iconst X66.here hx rfl (hb hby at_123) (XS.goto X66.here hx rfl (pc0 := 124) (pc' := 128) rfl (hb hby at_124) (by decide) (by decide) kc_))))))) ?_
        show own_Ends p e below s _ _ _ (T66.setTop (mkF m 128 #[.val (.int p1), .val (.int p2), .val (.int p3), .val (.int (Int32.ofNat (256 * i + r))), .val (.int (Int32.ofNat (256 * i2 + r2))), .val (.int (2 : Int32)), .val (.int (1 : Int32)), .val (.ref b60), .val (.ref ra), .unset, .unset] [(.int (1 : Int32))]))
        exact own_retN X66 hx (t := .boolean) hret (by simp) hlk (hb hby at_128) (by decide) (by decide) rfl ⟨rfl, N66⟩
      · have e1 : ((256 * i + r) = (256 * i2 + r2)) = False := eq_false (by omega)
        have e2 : ((256 * i2 + r2) = (256 * i + r)) = False := eq_false (by omega)
        have cU : cn64 (256 * i + r) = Int64.ofNat 2 := by
          simp only [hcn64, hcn63, hcn62, own_up, e1, e2, eq_self, if_true, if_false]; decide
        have cV : cn64 (256 * i2 + r2) = Int64.ofNat 1 := by
          simp only [hcn64, hcn63, hcn62, own_up, e1, e2, eq_self, if_true, if_false]; decide
        have c0 : ∀ z, z ≠ (256 * i + r) → z ≠ (256 * i2 + r2) → cn64 z = 0 := by
          intro z h1 h2
          simp only [hcn64, hcn63, hcn62, own_up, if_neg h1, if_neg h2]
        have hu := own_two (own_iff2 cV cU (by decide) (by decide) (fun z h1 h2 => c0 z h2 h1)) q hU
        have hlt : own_key cn64 (256 * i + r) < own_key cn64 (256 * i2 + r2) := by rw [(own_klt hU (by decide) cU hV (by decide) cV)]; omega
        show own_Ends p e below s _ _ _ (T64.setTop (mkF m 97 #[.val (.int p1), .val (.int p2), .val (.int p3), .val (.int (Int32.ofNat (256 * i + r))), .val (.int (Int32.ofNat (256 * i2 + r2))), .val (.int (2 : Int32)), .val (.int (1 : Int32)), .val (.ref b60), .unset, .unset, .unset] [(.ref b60)]))
        obtain ⟨cq67, kq67, q67a, q67b, q67c⟩ := isOf hZ rfl E64e
        obtain ⟨_, _, ⟨T67, L67, k67, n67⟩, -, X67, ⟨Lc67, hQ67, l67, y67, z67⟩, st67⟩ := X64.virtualBack hx (y := (⟨"com/example/wakachi/wakachi/UnitCounts", "byFrequency", "()[C"⟩ : MethodName)) (z := (⟨"com/example/wakachi/wakachi/UnitCounts", "byFrequency", "()[C"⟩ : MethodName)) hown (mvT hZ (hw _ (List.mem_of_getElem? (i := 21) rfl))) (mvT hZ (hw _ (List.mem_of_getElem? (i := 22) rfl))) (notFace_of_selects (args := #[]) (mvT hZ (hw _ (List.mem_of_getElem? (i := 24) rfl)))) (mvT hZ (hw _ (List.mem_of_getElem? (i := 24) rfl))) (mvT hZ (hw _ (List.mem_of_getElem? (i := 23) rfl))) (by decide) (backOf (W := 0) (rmB2b l Z a0 hw [] b60 pa B64 cn64 (256 * i2 + r2) (256 * i + r) T64.heap n0 Zs64 hu E64e F64f U64 hlt) hZ (hw _ (List.mem_of_getElem? (i := 25) rfl)) (hw _ (List.mem_of_getElem? (i := 3) rfl)) (by decide) (by decide)) q67a q67c (g := (mkF m 97 #[.val (.int p1), .val (.int p2), .val (.int p3), .val (.int (Int32.ofNat (256 * i + r))), .val (.int (Int32.ofNat (256 * i2 + r2))), .val (.int (2 : Int32)), .val (.int (1 : Int32)), .val (.ref b60), .unset, .unset, .unset] [(.ref b60)])) rfl (by rw [hml]; rfl) (Steps.refl _) (argsL := []) (rest := []) (lenOf pd_6 rfl) rfl (by show 2 * 0 + _ ≤ _; exact Nat.le_of_eq rfl) (hb hby at_97) (fun _ _ => ⟨rfl, rfl, (by decide : 5 + 2 ≤ _), (by decide : 1025 + 4 ≤ _)⟩)
        dsimp only [Pt.U, Pt.locs, Pt.cells, Pt.slots] at X67 l67 y67 z67 st67 hQ67
        subst y67 z67
        obtain ⟨N67q, ra, rfl, A67⟩ := hQ67
        have N67 : Fr n0 L67 := by rw [l67]; exact Fr.app N64 N67q
        refine own_step (fun _ kc_ => st67.trans kc_) ?_
        show own_Ends p e below s _ _ _ (T67.setTop (mkF m 100 #[.val (.int p1), .val (.int p2), .val (.int p3), .val (.int (Int32.ofNat (256 * i + r))), .val (.int (Int32.ofNat (256 * i2 + r2))), .val (.int (2 : Int32)), .val (.int (1 : Int32)), .val (.ref b60), .unset, .unset, .unset] [(.ref ra)]))
        refine own_step (fun _ kc_ => XS.astore X67.here hx rfl (hb hby at_100) rfl rfl (l' := #[.val (.int p1), .val (.int p2), .val (.int p3), .val (.int (Int32.ofNat (256 * i + r))), .val (.int (Int32.ofNat (256 * i2 + r2))), .val (.int (2 : Int32)), .val (.int (1 : Int32)), .val (.ref b60), .val (.ref ra), .unset, .unset]) rfl (XS.iloadN X67.here hx rfl (hb hby at_102) rfl (XS.iload X67.here hx rfl (hb hby at_103) rfl (XS.icmpYes X67.here hx rfl (pc0 := 105) (pc' := 129) rfl (hb hby at_105) rfl (XT.ii_ne_t (own_neI (by omega) hU hV : ¬ ((Int32.ofNat (256 * i + r)) = (Int32.ofNat (256 * i2 + r2))))) (by decide) (by decide) (XS.iload X67.here hx rfl (hb hby at_129) rfl (XS.iload X67.here hx rfl (hb hby at_131) rfl (XS.icmpNo X67.here hx rfl (hb hby at_133) rfl (XT.ii_le_f (by decide : (1 : Int32) < (2 : Int32))) (XS.iloadN X67.here hx rfl (hb hby at_136) rfl kc_)))))))) ?_
        show own_Ends p e below s _ _ _ (T67.setTop (mkF m 137 #[.val (.int p1), .val (.int p2), .val (.int p3), .val (.int (Int32.ofNat (256 * i + r))), .val (.int (Int32.ofNat (256 * i2 + r2))), .val (.int (2 : Int32)), .val (.int (1 : Int32)), .val (.ref b60), .val (.ref ra), .unset, .unset] [(.int (Int32.ofNat (256 * i + r)))]))
        refine own_step (fun _ kc_ => XS.istore X67.here hx rfl (hb hby at_137) rfl (l' := #[.val (.int p1), .val (.int p2), .val (.int p3), .val (.int (Int32.ofNat (256 * i + r))), .val (.int (Int32.ofNat (256 * i2 + r2))), .val (.int (2 : Int32)), .val (.int (1 : Int32)), .val (.ref b60), .val (.ref ra), .val (.int (Int32.ofNat (256 * i + r))), .unset]) rfl (XS.iload X67.here hx rfl (hb hby at_139) rfl (XS.istore X67.here hx rfl (hb hby at_141) rfl (l' := #[.val (.int p1), .val (.int p2), .val (.int p3), .val (.int (Int32.ofNat (256 * i + r))), .val (.int (Int32.ofNat (256 * i2 + r2))), .val (.int (2 : Int32)), .val (.int (1 : Int32)), .val (.ref b60), .val (.ref ra), .val (.int (Int32.ofNat (256 * i + r))), .val (.int (Int32.ofNat (256 * i2 + r2)))]) rfl (XS.goto X67.here hx rfl (pc0 := 143) (pc' := 186) rfl (hb hby at_143) (by decide) (by decide) (XS.aload X67.here hx rfl (hb hby at_186) rfl rfl (own_alen X67 hx hZ rfl A67 (n := 2) (z := (2 : Int32)) rfl rfl (hb hby at_188) _ (XS.iconst X67.here hx rfl (hb hby at_189) (XS.icmpNo X67.here hx rfl (hb hby at_190) rfl (XT.ii_ne_f (by decide : (2 : Int32) = (2 : Int32))) kc_)))))))) ?_
        show own_Ends p e below s _ _ _ (T67.setTop (mkF m 193 #[.val (.int p1), .val (.int p2), .val (.int p3), .val (.int (Int32.ofNat (256 * i + r))), .val (.int (Int32.ofNat (256 * i2 + r2))), .val (.int (2 : Int32)), .val (.int (1 : Int32)), .val (.ref b60), .val (.ref ra), .val (.int (Int32.ofNat (256 * i + r))), .val (.int (Int32.ofNat (256 * i2 + r2)))] []))
        refine own_step (fun _ kc_ => XS.aload X67.here hx rfl (hb hby at_193) rfl rfl (XS.iconst X67.here hx rfl (hb hby at_195) (own_caload X67 hx hZ rfl A67 (j := (0 : Int32)) (by decide) (i := 0) rfl (v := (.int (Int32.ofNat (256 * i + r)))) rfl (hb hby at_196) _ (XS.iload X67.here hx rfl (hb hby at_197) rfl (XS.icmpNo X67.here hx rfl (hb hby at_199) rfl (XT.ii_ne_f (rfl : (Int32.ofNat (256 * i + r)) = (Int32.ofNat (256 * i + r)))) (XS.aload X67.here hx rfl (hb hby at_202) rfl rfl (XS.iconst X67.here hx rfl (hb hby at_204) (own_caload X67 hx hZ rfl A67 (j := (1 : Int32)) (by decide) (i := 1) rfl (v := (.int (Int32.ofNat (256 * i2 + r2)))) rfl (hb hby at_205) _ kc_)))))))) ?_
        show own_Ends p e below s _ _ _ (T67.setTop (mkF m 206 #[.val (.int p1), .val (.int p2), .val (.int p3), .val (.int (Int32.ofNat (256 * i + r))), .val (.int (Int32.ofNat (256 * i2 + r2))), .val (.int (2 : Int32)), .val (.int (1 : Int32)), .val (.ref b60), .val (.ref ra), .val (.int (Int32.ofNat (256 * i + r))), .val (.int (Int32.ofNat (256 * i2 + r2)))] [(.int (Int32.ofNat (256 * i2 + r2)))]))
        refine own_step (fun _ kc_ => XS.iload X67.here hx rfl (hb hby at_206) rfl (XS.icmpNo X67.here hx rfl (hb hby at_208) rfl (XT.ii_ne_f (rfl : (Int32.ofNat (256 * i2 + r2)) = (Int32.ofNat (256 * i2 + r2)))) (XS.iconst X67.here hx rfl (hb hby at_211) (XS.goto X67.here hx rfl (pc0 := 212) (pc' := 216) rfl (hb hby at_212) (by decide) (by decide) kc_)))) ?_
        show own_Ends p e below s _ _ _ (T67.setTop (mkF m 216 #[.val (.int p1), .val (.int p2), .val (.int p3), .val (.int (Int32.ofNat (256 * i + r))), .val (.int (Int32.ofNat (256 * i2 + r2))), .val (.int (2 : Int32)), .val (.int (1 : Int32)), .val (.ref b60), .val (.ref ra), .val (.int (Int32.ofNat (256 * i + r))), .val (.int (Int32.ofNat (256 * i2 + r2)))] [(.int (1 : Int32))]))
        exact own_retN X67 hx (t := .boolean) hret (by simp) hlk (hb hby at_216) (by decide) (by decide) rfl ⟨rfl, N67⟩
    · show own_Ends p e below s _ _ _ (s₁.setTop (mkF m 32 #[.val (.int p1), .val (.int p2), .val (.int p3), .val (.int (Int32.ofNat (256 * i + r))), .val (.int (Int32.ofNat (256 * i2 + r2))), .unset, .unset, .unset, .unset, .unset, .unset] []))
      refine own_step (fun _ kc_ => XS.iconst X0.here hx rfl (hb hby at_32) (XS.iloadN X0.here hx rfl (hb hby at_33) rfl (XS.iconst X0.here hx rfl (hb hby at_34) (XS.iand X0.here hx rfl (hb hby at_35) rfl kc_)))) ?_
      show own_Ends p e below s _ _ _ (s₁.setTop (mkF m 36 #[.val (.int p1), .val (.int p2), .val (.int p3), .val (.int (Int32.ofNat (256 * i + r))), .val (.int (Int32.ofNat (256 * i2 + r2))), .unset, .unset, .unset, .unset, .unset, .unset] [(.int (p3 &&& (1 : Int32))), (.int (1 : Int32))]))
      rw [f1]
      show own_Ends p e below s _ _ _ (s₁.setTop (mkF m 36 #[.val (.int p1), .val (.int p2), .val (.int p3), .val (.int (Int32.ofNat (256 * i + r))), .val (.int (Int32.ofNat (256 * i2 + r2))), .unset, .unset, .unset, .unset, .unset, .unset] [(.int (1 : Int32)), (.int (1 : Int32))]))
      refine own_step (fun _ kc_ => XS.iadd X0.here hx rfl (hb hby at_36) rfl kc_) ?_
      show own_Ends p e below s _ _ _ (s₁.setTop (mkF m 37 #[.val (.int p1), .val (.int p2), .val (.int p3), .val (.int (Int32.ofNat (256 * i + r))), .val (.int (Int32.ofNat (256 * i2 + r2))), .unset, .unset, .unset, .unset, .unset, .unset] [(.int ((1 : Int32) + (1 : Int32)))]))
      rw [show ((1 : Int32) + (1 : Int32)) = (2 : Int32) from by decide]
      show own_Ends p e below s _ _ _ (s₁.setTop (mkF m 37 #[.val (.int p1), .val (.int p2), .val (.int p3), .val (.int (Int32.ofNat (256 * i + r))), .val (.int (Int32.ofNat (256 * i2 + r2))), .unset, .unset, .unset, .unset, .unset, .unset] [(.int (2 : Int32))]))
      refine own_step (fun _ kc_ => XS.istore X0.here hx rfl (hb hby at_37) rfl (l' := #[.val (.int p1), .val (.int p2), .val (.int p3), .val (.int (Int32.ofNat (256 * i + r))), .val (.int (Int32.ofNat (256 * i2 + r2))), .val (.int (2 : Int32)), .unset, .unset, .unset, .unset, .unset]) rfl (XS.iconst X0.here hx rfl (hb hby at_39) (XS.iloadN X0.here hx rfl (hb hby at_40) rfl (XS.iconst X0.here hx rfl (hb hby at_41) (XS.ishr X0.here hx rfl (hb hby at_42) rfl (XS.iconst X0.here hx rfl (hb hby at_43) (XS.iand X0.here hx rfl (hb hby at_44) rfl kc_))))))) ?_
      show own_Ends p e below s _ _ _ (s₁.setTop (mkF m 45 #[.val (.int p1), .val (.int p2), .val (.int p3), .val (.int (Int32.ofNat (256 * i + r))), .val (.int (Int32.ofNat (256 * i2 + r2))), .val (.int (2 : Int32)), .unset, .unset, .unset, .unset, .unset] [(.int ((p3 >>> ((1 : Int32) &&& 31)) &&& (1 : Int32))), (.int (1 : Int32))]))
      rw [f3]
      show own_Ends p e below s _ _ _ (s₁.setTop (mkF m 45 #[.val (.int p1), .val (.int p2), .val (.int p3), .val (.int (Int32.ofNat (256 * i + r))), .val (.int (Int32.ofNat (256 * i2 + r2))), .val (.int (2 : Int32)), .unset, .unset, .unset, .unset, .unset] [(.int (1 : Int32)), (.int (1 : Int32))]))
      refine own_step (fun _ kc_ => XS.iadd X0.here hx rfl (hb hby at_45) rfl kc_) ?_
      show own_Ends p e below s _ _ _ (s₁.setTop (mkF m 46 #[.val (.int p1), .val (.int p2), .val (.int p3), .val (.int (Int32.ofNat (256 * i + r))), .val (.int (Int32.ofNat (256 * i2 + r2))), .val (.int (2 : Int32)), .unset, .unset, .unset, .unset, .unset] [(.int ((1 : Int32) + (1 : Int32)))]))
      rw [show ((1 : Int32) + (1 : Int32)) = (2 : Int32) from by decide]
      show own_Ends p e below s _ _ _ (s₁.setTop (mkF m 46 #[.val (.int p1), .val (.int p2), .val (.int p3), .val (.int (Int32.ofNat (256 * i + r))), .val (.int (Int32.ofNat (256 * i2 + r2))), .val (.int (2 : Int32)), .unset, .unset, .unset, .unset, .unset] [(.int (2 : Int32))]))
      refine own_step (fun _ kc_ => XS.istore X0.here hx rfl (hb hby at_46) rfl (l' := #[.val (.int p1), .val (.int p2), .val (.int p3), .val (.int (Int32.ofNat (256 * i + r))), .val (.int (Int32.ofNat (256 * i2 + r2))), .val (.int (2 : Int32)), .val (.int (2 : Int32)), .unset, .unset, .unset, .unset]) rfl kc_) ?_
      show own_Ends p e below s _ _ _ (s₁.setTop (mkF m 48 #[.val (.int p1), .val (.int p2), .val (.int p3), .val (.int (Int32.ofNat (256 * i + r))), .val (.int (Int32.ofNat (256 * i2 + r2))), .val (.int (2 : Int32)), .val (.int (2 : Int32)), .unset, .unset, .unset, .unset] []))
      obtain ⟨T68, h68, X68, e68, E68, A68, D68, -, st68⟩ := newO X0 hx hZ hown (hw _ (List.mem_of_getElem? (i := 1) rfl)) (hw _ (List.mem_of_getElem? (i := 2) rfl)) (hw _ (List.mem_of_getElem? (i := 3) rfl)) e0 (g := (mkF m 48 #[.val (.int p1), .val (.int p2), .val (.int p3), .val (.int (Int32.ofNat (256 * i + r))), .val (.int (Int32.ofNat (256 * i2 + r2))), .val (.int (2 : Int32)), .val (.int (2 : Int32)), .unset, .unset, .unset, .unset] [])) rfl (hb hby at_48) (by decide : 0 + 1 ≤ _) (by decide : 0 + 1 ≤ _)
      obtain ⟨b68, g68⟩ : ∃ z, z = h0.size := ⟨_, rfl⟩
      rw [← g68] at A68 D68 st68
      have n0_b68 : n0 ≤ b68 := Nat.le_trans Z0 (Nat.le_of_eq g68.symm)
      have Zs68 := Nat.le_trans Z0 E68.1
      have F_pages_b68 : Fld Z h68 b68 "com/example/wakachi/wakachi/UnitCounts" "pages" "[[J" .null := D68 (Or.inr (hw _ (List.mem_of_getElem? (i := 13) rfl))) (ty := (.array (.array .long))) (by decide)
      refine own_step (fun _ kc_ => st68 _ kc_) ?_
      show own_Ends p e below s _ _ _ (T68.setTop (mkF m 51 #[.val (.int p1), .val (.int p2), .val (.int p3), .val (.int (Int32.ofNat (256 * i + r))), .val (.int (Int32.ofNat (256 * i2 + r2))), .val (.int (2 : Int32)), .val (.int (2 : Int32)), .unset, .unset, .unset, .unset] [(.ref b68)]))
      refine own_step (fun _ kc_ => XS.dup X68.here hx rfl (hb hby at_51) rfl rfl kc_) ?_
      show own_Ends p e below s _ _ _ (T68.setTop (mkF m 52 #[.val (.int p1), .val (.int p2), .val (.int p3), .val (.int (Int32.ofNat (256 * i + r))), .val (.int (Int32.ofNat (256 * i2 + r2))), .val (.int (2 : Int32)), .val (.int (2 : Int32)), .unset, .unset, .unset, .unset] [(.ref b68), (.ref b68)]))
      obtain ⟨_, _, ⟨T69, L69, k69, n69⟩, -, X69, ⟨Lc69, hQ69, l69, y69, z69⟩, st69⟩ := X68.specialBack hx (y := (⟨"com/example/wakachi/wakachi/UnitCounts", "<init>", "()V"⟩ : MethodName)) rfl hown (mvT hZ (hw _ (List.mem_of_getElem? (i := 4) rfl))) (mvT hZ (hw _ (List.mem_of_getElem? (i := 5) rfl))) (mvT hZ (hw _ (List.mem_of_getElem? (i := 6) rfl))) (by decide) (backOf (W := 1) (rm1 l Z a0 hw [] b68  h68 n0 Zs68 A68 F_pages_b68 n0_b68) hZ (hw _ (List.mem_of_getElem? (i := 6) rfl)) (hw _ (List.mem_of_getElem? (i := 3) rfl)) (by decide) (by decide)) (g := (mkF m 52 #[.val (.int p1), .val (.int p2), .val (.int p3), .val (.int (Int32.ofNat (256 * i + r))), .val (.int (Int32.ofNat (256 * i2 + r2))), .val (.int (2 : Int32)), .val (.int (2 : Int32)), .unset, .unset, .unset, .unset] [(.ref b68), (.ref b68)])) rfl (by rw [hml]; rfl) (Steps.refl _) (a := b68) (argsL := []) (rest := [(.ref b68)]) (lenOf pd_0 rfl) rfl (by show 2 * 0 + _ ≤ _; exact Nat.le_of_eq rfl) (hb hby at_52) (fun _ _ => ⟨rfl, e68, (by decide : 1 + 1 ≤ _), (by decide : 1 + 256 ≤ _)⟩)
      dsimp only [Pt.U, Pt.locs, Pt.cells, Pt.slots] at X69 l69 y69 z69 st69 hQ69
      subst y69 z69
      obtain ⟨rfl, N69q, K69k, pa, fP69, U69⟩ := hQ69
      have E_b68_69 := (A68).keep K69k
      have Zs69 := Nat.le_trans Zs68 K69k.1
      have N69 : Fr n0 L69 := by rw [l69]; exact Fr.app N0 N69q
      refine own_step (fun _ kc_ => st69.trans kc_) ?_
      show own_Ends p e below s _ _ _ (T69.setTop (mkF m 55 #[.val (.int p1), .val (.int p2), .val (.int p3), .val (.int (Int32.ofNat (256 * i + r))), .val (.int (Int32.ofNat (256 * i2 + r2))), .val (.int (2 : Int32)), .val (.int (2 : Int32)), .unset, .unset, .unset, .unset] [(.ref b68)]))
      refine own_step (fun _ kc_ => XS.astore X69.here hx rfl (hb hby at_55) rfl rfl (l' := #[.val (.int p1), .val (.int p2), .val (.int p3), .val (.int (Int32.ofNat (256 * i + r))), .val (.int (Int32.ofNat (256 * i2 + r2))), .val (.int (2 : Int32)), .val (.int (2 : Int32)), .val (.ref b68), .unset, .unset, .unset]) rfl (XS.aload X69.here hx rfl (hb hby at_57) rfl rfl (XS.iloadN X69.here hx rfl (hb hby at_59) rfl kc_))) ?_
      show own_Ends p e below s _ _ _ (T69.setTop (mkF m 60 #[.val (.int p1), .val (.int p2), .val (.int p3), .val (.int (Int32.ofNat (256 * i + r))), .val (.int (Int32.ofNat (256 * i2 + r2))), .val (.int (2 : Int32)), .val (.int (2 : Int32)), .val (.ref b68), .unset, .unset, .unset] [(.int (Int32.ofNat (256 * i + r))), (.ref b68)]))
      obtain ⟨cq70, kq70, q70a, q70b, q70c⟩ := isOf hZ rfl E_b68_69
      obtain ⟨_, _, ⟨T70, L70, k70, n70⟩, -, X70, ⟨Lc70, hQ70, l70, y70, z70⟩, st70⟩ := X69.virtualBack hx (y := (⟨"com/example/wakachi/wakachi/UnitCounts", "add", "(C)V"⟩ : MethodName)) (z := (⟨"com/example/wakachi/wakachi/UnitCounts", "add", "(C)V"⟩ : MethodName)) hown (mvT hZ (hw _ (List.mem_of_getElem? (i := 14) rfl))) (mvT hZ (hw _ (List.mem_of_getElem? (i := 15) rfl))) (notFace_of_selects (args := #[]) (mvT hZ (hw _ (List.mem_of_getElem? (i := 17) rfl)))) (mvT hZ (hw _ (List.mem_of_getElem? (i := 17) rfl))) (mvT hZ (hw _ (List.mem_of_getElem? (i := 16) rfl))) (by decide) (backOf (W := 0) (rmA l Z a0 hw [] b68 pa (fun _ => none) (fun _ => 0) i r T69.heap n0 Zs69 hi hr E_b68_69 fP69 U69) hZ (hw _ (List.mem_of_getElem? (i := 18) rfl)) (hw _ (List.mem_of_getElem? (i := 3) rfl)) (by decide) (by decide)) q70a q70c (g := (mkF m 60 #[.val (.int p1), .val (.int p2), .val (.int p3), .val (.int (Int32.ofNat (256 * i + r))), .val (.int (Int32.ofNat (256 * i2 + r2))), .val (.int (2 : Int32)), .val (.int (2 : Int32)), .val (.ref b68), .unset, .unset, .unset] [(.int (Int32.ofNat (256 * i + r))), (.ref b68)])) rfl (by rw [hml]; rfl) (Steps.refl _) (argsL := [(.int (Int32.ofNat (256 * i + r)))]) (rest := []) (lenOf pd_5 rfl) rfl (by show 2 * 0 + _ ≤ _; exact Nat.le_of_eq rfl) (hb hby at_60) (fun _ _ => ⟨rfl, rfl, (by decide : 2 + 1 ≤ _), (by decide : 257 + 256 ≤ _)⟩)
      dsimp only [Pt.U, Pt.locs, Pt.cells, Pt.slots] at X70 l70 y70 z70 st70 hQ70
      subst y70 z70
      obtain ⟨rfl, N70q, Zs70, E70e, F70f, B70, U70⟩ := hQ70
      obtain ⟨cn70, hcn70⟩ : ∃ cn, cn = own_up (fun _ => 0) (256 * i + r) ((fun _ => 0) (256 * i + r) + 1) := ⟨_, rfl⟩
      rw [← hcn70] at U70
      have N70 : Fr n0 L70 := by rw [l70]; exact Fr.app N69 N70q
      refine own_step (fun _ kc_ => st70.trans kc_) ?_
      show own_Ends p e below s _ _ _ (T70.setTop (mkF m 63 #[.val (.int p1), .val (.int p2), .val (.int p3), .val (.int (Int32.ofNat (256 * i + r))), .val (.int (Int32.ofNat (256 * i2 + r2))), .val (.int (2 : Int32)), .val (.int (2 : Int32)), .val (.ref b68), .unset, .unset, .unset] []))
      refine own_step (fun _ kc_ => XS.aload X70.here hx rfl (hb hby at_63) rfl rfl (XS.iload X70.here hx rfl (hb hby at_65) rfl kc_)) ?_
      show own_Ends p e below s _ _ _ (T70.setTop (mkF m 67 #[.val (.int p1), .val (.int p2), .val (.int p3), .val (.int (Int32.ofNat (256 * i + r))), .val (.int (Int32.ofNat (256 * i2 + r2))), .val (.int (2 : Int32)), .val (.int (2 : Int32)), .val (.ref b68), .unset, .unset, .unset] [(.int (Int32.ofNat (256 * i2 + r2))), (.ref b68)]))
      obtain ⟨cq71, kq71, q71a, q71b, q71c⟩ := isOf hZ rfl E70e
      obtain ⟨_, _, ⟨T71, L71, k71, n71⟩, -, X71, ⟨Lc71, hQ71, l71, y71, z71⟩, st71⟩ := X70.virtualBack hx (y := (⟨"com/example/wakachi/wakachi/UnitCounts", "add", "(C)V"⟩ : MethodName)) (z := (⟨"com/example/wakachi/wakachi/UnitCounts", "add", "(C)V"⟩ : MethodName)) hown (mvT hZ (hw _ (List.mem_of_getElem? (i := 14) rfl))) (mvT hZ (hw _ (List.mem_of_getElem? (i := 15) rfl))) (notFace_of_selects (args := #[]) (mvT hZ (hw _ (List.mem_of_getElem? (i := 17) rfl)))) (mvT hZ (hw _ (List.mem_of_getElem? (i := 17) rfl))) (mvT hZ (hw _ (List.mem_of_getElem? (i := 16) rfl))) (by decide) (backOf (W := 0) (rmA l Z a0 hw [] b68 pa B70 cn70 i2 r2 T70.heap n0 Zs70 hi2 hr2 E70e F70f U70) hZ (hw _ (List.mem_of_getElem? (i := 18) rfl)) (hw _ (List.mem_of_getElem? (i := 3) rfl)) (by decide) (by decide)) q71a q71c (g := (mkF m 67 #[.val (.int p1), .val (.int p2), .val (.int p3), .val (.int (Int32.ofNat (256 * i + r))), .val (.int (Int32.ofNat (256 * i2 + r2))), .val (.int (2 : Int32)), .val (.int (2 : Int32)), .val (.ref b68), .unset, .unset, .unset] [(.int (Int32.ofNat (256 * i2 + r2))), (.ref b68)])) rfl (by rw [hml]; rfl) (Steps.refl _) (argsL := [(.int (Int32.ofNat (256 * i2 + r2)))]) (rest := []) (lenOf pd_5 rfl) rfl (by show 2 * 0 + _ ≤ _; exact Nat.le_of_eq rfl) (hb hby at_67) (fun _ _ => ⟨rfl, rfl, (by decide : 3 + 1 ≤ _), (by decide : 513 + 256 ≤ _)⟩)
      dsimp only [Pt.U, Pt.locs, Pt.cells, Pt.slots] at X71 l71 y71 z71 st71 hQ71
      subst y71 z71
      obtain ⟨rfl, N71q, Zs71, E71e, F71f, B71, U71⟩ := hQ71
      obtain ⟨cn71, hcn71⟩ : ∃ cn, cn = own_up cn70 (256 * i2 + r2) (cn70 (256 * i2 + r2) + 1) := ⟨_, rfl⟩
      rw [← hcn71] at U71
      have N71 : Fr n0 L71 := by rw [l71]; exact Fr.app N70 N71q
      refine own_step (fun _ kc_ => st71.trans kc_) ?_
      show own_Ends p e below s _ _ _ (T71.setTop (mkF m 70 #[.val (.int p1), .val (.int p2), .val (.int p3), .val (.int (Int32.ofNat (256 * i + r))), .val (.int (Int32.ofNat (256 * i2 + r2))), .val (.int (2 : Int32)), .val (.int (2 : Int32)), .val (.ref b68), .unset, .unset, .unset] []))
      refine own_step (fun _ kc_ => XS.iloadN X71.here hx rfl (hb hby at_70) rfl (XS.iconst X71.here hx rfl (hb hby at_71) (XS.iand X71.here hx rfl (hb hby at_72) rfl kc_))) ?_
      show own_Ends p e below s _ _ _ (T71.setTop (mkF m 73 #[.val (.int p1), .val (.int p2), .val (.int p3), .val (.int (Int32.ofNat (256 * i + r))), .val (.int (Int32.ofNat (256 * i2 + r2))), .val (.int (2 : Int32)), .val (.int (2 : Int32)), .val (.ref b68), .unset, .unset, .unset] [(.int (p3 &&& (1 : Int32)))]))
      rw [f1]
      show own_Ends p e below s _ _ _ (T71.setTop (mkF m 73 #[.val (.int p1), .val (.int p2), .val (.int p3), .val (.int (Int32.ofNat (256 * i + r))), .val (.int (Int32.ofNat (256 * i2 + r2))), .val (.int (2 : Int32)), .val (.int (2 : Int32)), .val (.ref b68), .unset, .unset, .unset] [(.int (1 : Int32))]))
      refine own_step (fun _ kc_ => XS.ifNo X71.here hx rfl (hb hby at_73) rfl (XT.i0_eq_f (by decide : ¬ ((1 : Int32) = 0))) (XS.aload X71.here hx rfl (hb hby at_76) rfl rfl (XS.iloadN X71.here hx rfl (hb hby at_78) rfl kc_))) ?_
      show own_Ends p e below s _ _ _ (T71.setTop (mkF m 79 #[.val (.int p1), .val (.int p2), .val (.int p3), .val (.int (Int32.ofNat (256 * i + r))), .val (.int (Int32.ofNat (256 * i2 + r2))), .val (.int (2 : Int32)), .val (.int (2 : Int32)), .val (.ref b68), .unset, .unset, .unset] [(.int (Int32.ofNat (256 * i + r))), (.ref b68)]))
      obtain ⟨cq72, kq72, q72a, q72b, q72c⟩ := isOf hZ rfl E71e
      obtain ⟨_, _, ⟨T72, L72, k72, n72⟩, -, X72, ⟨Lc72, hQ72, l72, y72, z72⟩, st72⟩ := X71.virtualBack hx (y := (⟨"com/example/wakachi/wakachi/UnitCounts", "add", "(C)V"⟩ : MethodName)) (z := (⟨"com/example/wakachi/wakachi/UnitCounts", "add", "(C)V"⟩ : MethodName)) hown (mvT hZ (hw _ (List.mem_of_getElem? (i := 14) rfl))) (mvT hZ (hw _ (List.mem_of_getElem? (i := 15) rfl))) (notFace_of_selects (args := #[]) (mvT hZ (hw _ (List.mem_of_getElem? (i := 17) rfl)))) (mvT hZ (hw _ (List.mem_of_getElem? (i := 17) rfl))) (mvT hZ (hw _ (List.mem_of_getElem? (i := 16) rfl))) (by decide) (backOf (W := 0) (rmA l Z a0 hw [] b68 pa B71 cn71 i r T71.heap n0 Zs71 hi hr E71e F71f U71) hZ (hw _ (List.mem_of_getElem? (i := 18) rfl)) (hw _ (List.mem_of_getElem? (i := 3) rfl)) (by decide) (by decide)) q72a q72c (g := (mkF m 79 #[.val (.int p1), .val (.int p2), .val (.int p3), .val (.int (Int32.ofNat (256 * i + r))), .val (.int (Int32.ofNat (256 * i2 + r2))), .val (.int (2 : Int32)), .val (.int (2 : Int32)), .val (.ref b68), .unset, .unset, .unset] [(.int (Int32.ofNat (256 * i + r))), (.ref b68)])) rfl (by rw [hml]; rfl) (Steps.refl _) (argsL := [(.int (Int32.ofNat (256 * i + r)))]) (rest := []) (lenOf pd_5 rfl) rfl (by show 2 * 0 + _ ≤ _; exact Nat.le_of_eq rfl) (hb hby at_79) (fun _ _ => ⟨rfl, rfl, (by decide : 4 + 1 ≤ _), (by decide : 769 + 256 ≤ _)⟩)
      dsimp only [Pt.U, Pt.locs, Pt.cells, Pt.slots] at X72 l72 y72 z72 st72 hQ72
      subst y72 z72
      obtain ⟨rfl, N72q, Zs72, E72e, F72f, B72, U72⟩ := hQ72
      obtain ⟨cn72, hcn72⟩ : ∃ cn, cn = own_up cn71 (256 * i + r) (cn71 (256 * i + r) + 1) := ⟨_, rfl⟩
      rw [← hcn72] at U72
      have N72 : Fr n0 L72 := by rw [l72]; exact Fr.app N71 N72q
      refine own_step (fun _ kc_ => st72.trans kc_) ?_
      show own_Ends p e below s _ _ _ (T72.setTop (mkF m 82 #[.val (.int p1), .val (.int p2), .val (.int p3), .val (.int (Int32.ofNat (256 * i + r))), .val (.int (Int32.ofNat (256 * i2 + r2))), .val (.int (2 : Int32)), .val (.int (2 : Int32)), .val (.ref b68), .unset, .unset, .unset] []))
      refine own_step (fun _ kc_ => XS.iloadN X72.here hx rfl (hb hby at_82) rfl (XS.iconst X72.here hx rfl (hb hby at_83) (XS.iand X72.here hx rfl (hb hby at_84) rfl kc_))) ?_
      show own_Ends p e below s _ _ _ (T72.setTop (mkF m 85 #[.val (.int p1), .val (.int p2), .val (.int p3), .val (.int (Int32.ofNat (256 * i + r))), .val (.int (Int32.ofNat (256 * i2 + r2))), .val (.int (2 : Int32)), .val (.int (2 : Int32)), .val (.ref b68), .unset, .unset, .unset] [(.int (p3 &&& (2 : Int32)))]))
      rw [f2]
      show own_Ends p e below s _ _ _ (T72.setTop (mkF m 85 #[.val (.int p1), .val (.int p2), .val (.int p3), .val (.int (Int32.ofNat (256 * i + r))), .val (.int (Int32.ofNat (256 * i2 + r2))), .val (.int (2 : Int32)), .val (.int (2 : Int32)), .val (.ref b68), .unset, .unset, .unset] [(.int (2 : Int32))]))
      refine own_step (fun _ kc_ => XS.ifNo X72.here hx rfl (hb hby at_85) rfl (XT.i0_eq_f (by decide : ¬ ((2 : Int32) = 0))) (XS.aload X72.here hx rfl (hb hby at_88) rfl rfl (XS.iload X72.here hx rfl (hb hby at_90) rfl kc_))) ?_
      show own_Ends p e below s _ _ _ (T72.setTop (mkF m 92 #[.val (.int p1), .val (.int p2), .val (.int p3), .val (.int (Int32.ofNat (256 * i + r))), .val (.int (Int32.ofNat (256 * i2 + r2))), .val (.int (2 : Int32)), .val (.int (2 : Int32)), .val (.ref b68), .unset, .unset, .unset] [(.int (Int32.ofNat (256 * i2 + r2))), (.ref b68)]))
      obtain ⟨cq73, kq73, q73a, q73b, q73c⟩ := isOf hZ rfl E72e
      obtain ⟨_, _, ⟨T73, L73, k73, n73⟩, -, X73, ⟨Lc73, hQ73, l73, y73, z73⟩, st73⟩ := X72.virtualBack hx (y := (⟨"com/example/wakachi/wakachi/UnitCounts", "add", "(C)V"⟩ : MethodName)) (z := (⟨"com/example/wakachi/wakachi/UnitCounts", "add", "(C)V"⟩ : MethodName)) hown (mvT hZ (hw _ (List.mem_of_getElem? (i := 14) rfl))) (mvT hZ (hw _ (List.mem_of_getElem? (i := 15) rfl))) (notFace_of_selects (args := #[]) (mvT hZ (hw _ (List.mem_of_getElem? (i := 17) rfl)))) (mvT hZ (hw _ (List.mem_of_getElem? (i := 17) rfl))) (mvT hZ (hw _ (List.mem_of_getElem? (i := 16) rfl))) (by decide) (backOf (W := 0) (rmA l Z a0 hw [] b68 pa B72 cn72 i2 r2 T72.heap n0 Zs72 hi2 hr2 E72e F72f U72) hZ (hw _ (List.mem_of_getElem? (i := 18) rfl)) (hw _ (List.mem_of_getElem? (i := 3) rfl)) (by decide) (by decide)) q73a q73c (g := (mkF m 92 #[.val (.int p1), .val (.int p2), .val (.int p3), .val (.int (Int32.ofNat (256 * i + r))), .val (.int (Int32.ofNat (256 * i2 + r2))), .val (.int (2 : Int32)), .val (.int (2 : Int32)), .val (.ref b68), .unset, .unset, .unset] [(.int (Int32.ofNat (256 * i2 + r2))), (.ref b68)])) rfl (by rw [hml]; rfl) (Steps.refl _) (argsL := [(.int (Int32.ofNat (256 * i2 + r2)))]) (rest := []) (lenOf pd_5 rfl) rfl (by show 2 * 0 + _ ≤ _; exact Nat.le_of_eq rfl) (hb hby at_92) (fun _ _ => ⟨rfl, rfl, (by decide : 5 + 1 ≤ _), (by decide : 1025 + 256 ≤ _)⟩)
      dsimp only [Pt.U, Pt.locs, Pt.cells, Pt.slots] at X73 l73 y73 z73 st73 hQ73
      subst y73 z73
      obtain ⟨rfl, N73q, Zs73, E73e, F73f, B73, U73⟩ := hQ73
      obtain ⟨cn73, hcn73⟩ : ∃ cn, cn = own_up cn72 (256 * i2 + r2) (cn72 (256 * i2 + r2) + 1) := ⟨_, rfl⟩
      rw [← hcn73] at U73
      have N73 : Fr n0 L73 := by rw [l73]; exact Fr.app N72 N73q
      refine own_step (fun _ kc_ => st73.trans kc_) ?_
      show own_Ends p e below s _ _ _ (T73.setTop (mkF m 95 #[.val (.int p1), .val (.int p2), .val (.int p3), .val (.int (Int32.ofNat (256 * i + r))), .val (.int (Int32.ofNat (256 * i2 + r2))), .val (.int (2 : Int32)), .val (.int (2 : Int32)), .val (.ref b68), .unset, .unset, .unset] []))
      refine own_step (fun _ kc_ => XS.aload X73.here hx rfl (hb hby at_95) rfl rfl kc_) ?_
      show own_Ends p e below s _ _ _ (T73.setTop (mkF m 97 #[.val (.int p1), .val (.int p2), .val (.int p3), .val (.int (Int32.ofNat (256 * i + r))), .val (.int (Int32.ofNat (256 * i2 + r2))), .val (.int (2 : Int32)), .val (.int (2 : Int32)), .val (.ref b68), .unset, .unset, .unset] [(.ref b68)]))
      have hU : (256 * i + r) < 65536 := by omega
      have hV : (256 * i2 + r2) < 65536 := by omega
      rcases Nat.lt_trichotomy (256 * i + r) (256 * i2 + r2) with q | q | q
      · have e1 : ((256 * i + r) = (256 * i2 + r2)) = False := eq_false (by omega)
        have e2 : ((256 * i2 + r2) = (256 * i + r)) = False := eq_false (by omega)
        have cU : cn73 (256 * i + r) = Int64.ofNat 2 := by
          simp only [hcn73, hcn72, hcn71, hcn70, own_up, e1, e2, eq_self, if_true, if_false]; decide
        have cV : cn73 (256 * i2 + r2) = Int64.ofNat 2 := by
          simp only [hcn73, hcn72, hcn71, hcn70, own_up, e1, e2, eq_self, if_true, if_false]; decide
        have c0 : ∀ z, z ≠ (256 * i + r) → z ≠ (256 * i2 + r2) → cn73 z = 0 := by
          intro z h1 h2
          simp only [hcn73, hcn72, hcn71, hcn70, own_up, if_neg h1, if_neg h2]
        have hu := own_two (own_iff2 cU cV (by decide) (by decide) c0) q hV
        have hlt : ¬ own_key cn73 (256 * i2 + r2) < own_key cn73 (256 * i + r) := by rw [(own_klt hV (by decide) cV hU (by decide) cU)]; omega
        show own_Ends p e below s _ _ _ (T73.setTop (mkF m 97 #[.val (.int p1), .val (.int p2), .val (.int p3), .val (.int (Int32.ofNat (256 * i + r))), .val (.int (Int32.ofNat (256 * i2 + r2))), .val (.int (2 : Int32)), .val (.int (2 : Int32)), .val (.ref b68), .unset, .unset, .unset] [(.ref b68)]))
        obtain ⟨cq74, kq74, q74a, q74b, q74c⟩ := isOf hZ rfl E73e
        obtain ⟨_, _, ⟨T74, L74, k74, n74⟩, -, X74, ⟨Lc74, hQ74, l74, y74, z74⟩, st74⟩ := X73.virtualBack hx (y := (⟨"com/example/wakachi/wakachi/UnitCounts", "byFrequency", "()[C"⟩ : MethodName)) (z := (⟨"com/example/wakachi/wakachi/UnitCounts", "byFrequency", "()[C"⟩ : MethodName)) hown (mvT hZ (hw _ (List.mem_of_getElem? (i := 21) rfl))) (mvT hZ (hw _ (List.mem_of_getElem? (i := 22) rfl))) (notFace_of_selects (args := #[]) (mvT hZ (hw _ (List.mem_of_getElem? (i := 24) rfl)))) (mvT hZ (hw _ (List.mem_of_getElem? (i := 24) rfl))) (mvT hZ (hw _ (List.mem_of_getElem? (i := 23) rfl))) (by decide) (backOf (W := 0) (rmB2a l Z a0 hw [] b68 pa B73 cn73 (256 * i + r) (256 * i2 + r2) T73.heap n0 Zs73 hu E73e F73f U73 hlt) hZ (hw _ (List.mem_of_getElem? (i := 25) rfl)) (hw _ (List.mem_of_getElem? (i := 3) rfl)) (by decide) (by decide)) q74a q74c (g := (mkF m 97 #[.val (.int p1), .val (.int p2), .val (.int p3), .val (.int (Int32.ofNat (256 * i + r))), .val (.int (Int32.ofNat (256 * i2 + r2))), .val (.int (2 : Int32)), .val (.int (2 : Int32)), .val (.ref b68), .unset, .unset, .unset] [(.ref b68)])) rfl (by rw [hml]; rfl) (Steps.refl _) (argsL := []) (rest := []) (lenOf pd_6 rfl) rfl (by show 2 * 0 + _ ≤ _; exact Nat.le_of_eq rfl) (hb hby at_97) (fun _ _ => ⟨rfl, rfl, (by decide : 6 + 2 ≤ _), (by decide : 1281 + 4 ≤ _)⟩)
        dsimp only [Pt.U, Pt.locs, Pt.cells, Pt.slots] at X74 l74 y74 z74 st74 hQ74
        subst y74 z74
        obtain ⟨N74q, ra, rfl, A74⟩ := hQ74
        have N74 : Fr n0 L74 := by rw [l74]; exact Fr.app N73 N74q
        refine own_step (fun _ kc_ => st74.trans kc_) ?_
        show own_Ends p e below s _ _ _ (T74.setTop (mkF m 100 #[.val (.int p1), .val (.int p2), .val (.int p3), .val (.int (Int32.ofNat (256 * i + r))), .val (.int (Int32.ofNat (256 * i2 + r2))), .val (.int (2 : Int32)), .val (.int (2 : Int32)), .val (.ref b68), .unset, .unset, .unset] [(.ref ra)]))
        refine own_step (fun _ kc_ => XS.astore X74.here hx rfl (hb hby at_100) rfl rfl (l' := #[.val (.int p1), .val (.int p2), .val (.int p3), .val (.int (Int32.ofNat (256 * i + r))), .val (.int (Int32.ofNat (256 * i2 + r2))), .val (.int (2 : Int32)), .val (.int (2 : Int32)), .val (.ref b68), .val (.ref ra), .unset, .unset]) rfl (XS.iloadN X74.here hx rfl (hb hby at_102) rfl (XS.iload X74.here hx rfl (hb hby at_103) rfl (XS.icmpYes X74.here hx rfl (pc0 := 105) (pc' := 129) rfl (hb hby at_105) rfl (XT.ii_ne_t (own_neI (by omega) hU hV : ¬ ((Int32.ofNat (256 * i + r)) = (Int32.ofNat (256 * i2 + r2))))) (by decide) (by decide) (XS.iload X74.here hx rfl (hb hby at_129) rfl (XS.iload X74.here hx rfl (hb hby at_131) rfl (XS.icmpYes X74.here hx rfl (pc0 := 133) (pc' := 146) rfl (hb hby at_133) rfl (XT.ii_le_t (by decide : ¬ ((2 : Int32) < (2 : Int32)))) (by decide) (by decide) (XS.iload X74.here hx rfl (hb hby at_146) rfl kc_)))))))) ?_
        show own_Ends p e below s _ _ _ (T74.setTop (mkF m 148 #[.val (.int p1), .val (.int p2), .val (.int p3), .val (.int (Int32.ofNat (256 * i + r))), .val (.int (Int32.ofNat (256 * i2 + r2))), .val (.int (2 : Int32)), .val (.int (2 : Int32)), .val (.ref b68), .val (.ref ra), .unset, .unset] [(.int (2 : Int32))]))
        refine own_step (fun _ kc_ => XS.iload X74.here hx rfl (hb hby at_148) rfl (XS.icmpYes X74.here hx rfl (pc0 := 150) (pc' := 163) rfl (hb hby at_150) rfl (XT.ii_le_t (by decide : ¬ ((2 : Int32) < (2 : Int32)))) (by decide) (by decide) (XS.iloadN X74.here hx rfl (hb hby at_163) rfl (XS.iload X74.here hx rfl (hb hby at_164) rfl (XS.icmpNo X74.here hx rfl (hb hby at_166) rfl (XT.ii_ge_f ((own_ltI hU hV).mpr q : (Int32.ofNat (256 * i + r)) < (Int32.ofNat (256 * i2 + r2)))) (XS.iloadN X74.here hx rfl (hb hby at_169) rfl (XS.istore X74.here hx rfl (hb hby at_170) rfl (l' := #[.val (.int p1), .val (.int p2), .val (.int p3), .val (.int (Int32.ofNat (256 * i + r))), .val (.int (Int32.ofNat (256 * i2 + r2))), .val (.int (2 : Int32)), .val (.int (2 : Int32)), .val (.ref b68), .val (.ref ra), .val (.int (Int32.ofNat (256 * i + r))), .unset]) rfl (XS.iload X74.here hx rfl (hb hby at_172) rfl kc_)))))))) ?_
        show own_Ends p e below s _ _ _ (T74.setTop (mkF m 174 #[.val (.int p1), .val (.int p2), .val (.int p3), .val (.int (Int32.ofNat (256 * i + r))), .val (.int (Int32.ofNat (256 * i2 + r2))), .val (.int (2 : Int32)), .val (.int (2 : Int32)), .val (.ref b68), .val (.ref ra), .val (.int (Int32.ofNat (256 * i + r))), .unset] [(.int (Int32.ofNat (256 * i2 + r2)))]))
        refine own_step (fun _ kc_ => XS.istore X74.here hx rfl (hb hby at_174) rfl (l' := #[.val (.int p1), .val (.int p2), .val (.int p3), .val (.int (Int32.ofNat (256 * i + r))), .val (.int (Int32.ofNat (256 * i2 + r2))), .val (.int (2 : Int32)), .val (.int (2 : Int32)), .val (.ref b68), .val (.ref ra), .val (.int (Int32.ofNat (256 * i + r))), .val (.int (Int32.ofNat (256 * i2 + r2)))]) rfl (XS.goto X74.here hx rfl (pc0 := 176) (pc' := 186) rfl (hb hby at_176) (by decide) (by decide) (XS.aload X74.here hx rfl (hb hby at_186) rfl rfl (own_alen X74 hx hZ rfl A74 (n := 2) (z := (2 : Int32)) rfl rfl (hb hby at_188) _ (XS.iconst X74.here hx rfl (hb hby at_189) (XS.icmpNo X74.here hx rfl (hb hby at_190) rfl (XT.ii_ne_f (by decide : (2 : Int32) = (2 : Int32))) (XS.aload X74.here hx rfl (hb hby at_193) rfl rfl (XS.iconst X74.here hx rfl (hb hby at_195) kc_)))))))) ?_
        show own_Ends p e below s _ _ _ (T74.setTop (mkF m 196 #[.val (.int p1), .val (.int p2), .val (.int p3), .val (.int (Int32.ofNat (256 * i + r))), .val (.int (Int32.ofNat (256 * i2 + r2))), .val (.int (2 : Int32)), .val (.int (2 : Int32)), .val (.ref b68), .val (.ref ra), .val (.int (Int32.ofNat (256 * i + r))), .val (.int (Int32.ofNat (256 * i2 + r2)))] [(.int (0 : Int32)), (.ref ra)]))
        refine own_step (fun _ kc_ => own_caload X74 hx hZ rfl A74 (j := (0 : Int32)) (by decide) (i := 0) rfl (v := (.int (Int32.ofNat (256 * i + r)))) rfl (hb hby at_196) _ (XS.iload X74.here hx rfl (hb hby at_197) rfl (XS.icmpNo X74.here hx rfl (hb hby at_199) rfl (XT.ii_ne_f (rfl : (Int32.ofNat (256 * i + r)) = (Int32.ofNat (256 * i + r)))) (XS.aload X74.here hx rfl (hb hby at_202) rfl rfl (XS.iconst X74.here hx rfl (hb hby at_204) (own_caload X74 hx hZ rfl A74 (j := (1 : Int32)) (by decide) (i := 1) rfl (v := (.int (Int32.ofNat (256 * i2 + r2)))) rfl (hb hby at_205) _ (XS.iload X74.here hx rfl (hb hby at_206) rfl (XS.icmpNo X74.here hx rfl (hb hby at_208) rfl (XT.ii_ne_f (rfl : (Int32.ofNat (256 * i2 + r2)) = (Int32.ofNat (256 * i2 + r2)))) kc_)))))))) ?_
        show own_Ends p e below s _ _ _ (T74.setTop (mkF m 211 #[.val (.int p1), .val (.int p2), .val (.int p3), .val (.int (Int32.ofNat (256 * i + r))), .val (.int (Int32.ofNat (256 * i2 + r2))), .val (.int (2 : Int32)), .val (.int (2 : Int32)), .val (.ref b68), .val (.ref ra), .val (.int (Int32.ofNat (256 * i + r))), .val (.int (Int32.ofNat (256 * i2 + r2)))] []))
        refine own_step (fun _ kc_ => XS.iconst X74.here hx rfl (hb hby at_211) (XS.goto X74.here hx rfl (pc0 := 212) (pc' := 216) rfl (hb hby at_212) (by decide) (by decide) kc_)) ?_
        show own_Ends p e below s _ _ _ (T74.setTop (mkF m 216 #[.val (.int p1), .val (.int p2), .val (.int p3), .val (.int (Int32.ofNat (256 * i + r))), .val (.int (Int32.ofNat (256 * i2 + r2))), .val (.int (2 : Int32)), .val (.int (2 : Int32)), .val (.ref b68), .val (.ref ra), .val (.int (Int32.ofNat (256 * i + r))), .val (.int (Int32.ofNat (256 * i2 + r2)))] [(.int (1 : Int32))]))
        exact own_retN X74 hx (t := .boolean) hret (by simp) hlk (hb hby at_216) (by decide) (by decide) rfl ⟨rfl, N74⟩
      · have cU : cn73 (256 * i + r) = Int64.ofNat 4 := by
          simp only [hcn73, hcn72, hcn71, hcn70, own_up, ← q, eq_self, if_true]; decide
        have c0 : ∀ z, z ≠ (256 * i + r) → cn73 z = 0 := by
          intro z h1
          simp only [hcn73, hcn72, hcn71, hcn70, own_up, ← q, if_neg h1]
        have hu := own_uno cU (by decide) c0 hU
        show own_Ends p e below s _ _ _ (T73.setTop (mkF m 97 #[.val (.int p1), .val (.int p2), .val (.int p3), .val (.int (Int32.ofNat (256 * i + r))), .val (.int (Int32.ofNat (256 * i2 + r2))), .val (.int (2 : Int32)), .val (.int (2 : Int32)), .val (.ref b68), .unset, .unset, .unset] [(.ref b68)]))
        obtain ⟨cq75, kq75, q75a, q75b, q75c⟩ := isOf hZ rfl E73e
        obtain ⟨_, _, ⟨T75, L75, k75, n75⟩, -, X75, ⟨Lc75, hQ75, l75, y75, z75⟩, st75⟩ := X73.virtualBack hx (y := (⟨"com/example/wakachi/wakachi/UnitCounts", "byFrequency", "()[C"⟩ : MethodName)) (z := (⟨"com/example/wakachi/wakachi/UnitCounts", "byFrequency", "()[C"⟩ : MethodName)) hown (mvT hZ (hw _ (List.mem_of_getElem? (i := 21) rfl))) (mvT hZ (hw _ (List.mem_of_getElem? (i := 22) rfl))) (notFace_of_selects (args := #[]) (mvT hZ (hw _ (List.mem_of_getElem? (i := 24) rfl)))) (mvT hZ (hw _ (List.mem_of_getElem? (i := 24) rfl))) (mvT hZ (hw _ (List.mem_of_getElem? (i := 23) rfl))) (by decide) (backOf (W := 0) (rmB1a l Z a0 hw [] b68 pa B73 cn73 (256 * i + r) T73.heap n0 Zs73 hu E73e F73f U73) hZ (hw _ (List.mem_of_getElem? (i := 25) rfl)) (hw _ (List.mem_of_getElem? (i := 3) rfl)) (by decide) (by decide)) q75a q75c (g := (mkF m 97 #[.val (.int p1), .val (.int p2), .val (.int p3), .val (.int (Int32.ofNat (256 * i + r))), .val (.int (Int32.ofNat (256 * i2 + r2))), .val (.int (2 : Int32)), .val (.int (2 : Int32)), .val (.ref b68), .unset, .unset, .unset] [(.ref b68)])) rfl (by rw [hml]; rfl) (Steps.refl _) (argsL := []) (rest := []) (lenOf pd_6 rfl) rfl (by show 2 * 0 + _ ≤ _; exact Nat.le_of_eq rfl) (hb hby at_97) (fun _ _ => ⟨rfl, rfl, (by decide : 6 + 2 ≤ _), (by decide : 1281 + 2 ≤ _)⟩)
        dsimp only [Pt.U, Pt.locs, Pt.cells, Pt.slots] at X75 l75 y75 z75 st75 hQ75
        subst y75 z75
        obtain ⟨N75q, ra, rfl, A75⟩ := hQ75
        have N75 : Fr n0 L75 := by rw [l75]; exact Fr.app N73 N75q
        refine own_step (fun _ kc_ => st75.trans kc_) ?_
        show own_Ends p e below s _ _ _ (T75.setTop (mkF m 100 #[.val (.int p1), .val (.int p2), .val (.int p3), .val (.int (Int32.ofNat (256 * i + r))), .val (.int (Int32.ofNat (256 * i2 + r2))), .val (.int (2 : Int32)), .val (.int (2 : Int32)), .val (.ref b68), .unset, .unset, .unset] [(.ref ra)]))
        refine own_step (fun _ kc_ => XS.astore X75.here hx rfl (hb hby at_100) rfl rfl (l' := #[.val (.int p1), .val (.int p2), .val (.int p3), .val (.int (Int32.ofNat (256 * i + r))), .val (.int (Int32.ofNat (256 * i2 + r2))), .val (.int (2 : Int32)), .val (.int (2 : Int32)), .val (.ref b68), .val (.ref ra), .unset, .unset]) rfl (XS.iloadN X75.here hx rfl (hb hby at_102) rfl (XS.iload X75.here hx rfl (hb hby at_103) rfl (XS.icmpNo X75.here hx rfl (hb hby at_105) rfl (XT.ii_ne_f (by rw [q] : (Int32.ofNat (256 * i + r)) = (Int32.ofNat (256 * i2 + r2)))) (XS.aload X75.here hx rfl (hb hby at_108) rfl rfl (own_alen X75 hx hZ rfl A75 (n := 1) (z := (1 : Int32)) rfl rfl (hb hby at_110) _ (XS.iconst X75.here hx rfl (hb hby at_111) (XS.icmpNo X75.here hx rfl (hb hby at_112) rfl (XT.ii_ne_f (by decide : (1 : Int32) = (1 : Int32))) kc_)))))))) ?_
        show own_Ends p e below s _ _ _ (T75.setTop (mkF m 115 #[.val (.int p1), .val (.int p2), .val (.int p3), .val (.int (Int32.ofNat (256 * i + r))), .val (.int (Int32.ofNat (256 * i2 + r2))), .val (.int (2 : Int32)), .val (.int (2 : Int32)), .val (.ref b68), .val (.ref ra), .unset, .unset] []))
        refine own_step (fun _ kc_ => XS.aload X75.here hx rfl (hb hby at_115) rfl rfl (XS.iconst X75.here hx rfl (hb hby at_117) (own_caload X75 hx hZ rfl A75 (j := (0 : Int32)) (by decide) (i := 0) rfl (v := (.int (Int32.ofNat (256 * i + r)))) rfl (hb hby at_118) _ (XS.iloadN X75.here hx rfl (hb hby at_119) rfl (XS.icmpNo X75.here hx rfl (hb hby at_120) rfl (XT.ii_ne_f (rfl : (Int32.ofNat (256 * i + r)) = (Int32.ofNat (256 * i + r)))) (XS.iconst X75.here hx rfl (hb hby at_123) (XS.goto X75.here hx rfl (pc0 := 124) (pc' := 128) rfl (hb hby at_124) (by decide) (by decide) kc_))))))) ?_
        show own_Ends p e below s _ _ _ (T75.setTop (mkF m 128 #[.val (.int p1), .val (.int p2), .val (.int p3), .val (.int (Int32.ofNat (256 * i + r))), .val (.int (Int32.ofNat (256 * i2 + r2))), .val (.int (2 : Int32)), .val (.int (2 : Int32)), .val (.ref b68), .val (.ref ra), .unset, .unset] [(.int (1 : Int32))]))
        exact own_retN X75 hx (t := .boolean) hret (by simp) hlk (hb hby at_128) (by decide) (by decide) rfl ⟨rfl, N75⟩
      · have e1 : ((256 * i + r) = (256 * i2 + r2)) = False := eq_false (by omega)
        have e2 : ((256 * i2 + r2) = (256 * i + r)) = False := eq_false (by omega)
        have cU : cn73 (256 * i + r) = Int64.ofNat 2 := by
          simp only [hcn73, hcn72, hcn71, hcn70, own_up, e1, e2, eq_self, if_true, if_false]; decide
        have cV : cn73 (256 * i2 + r2) = Int64.ofNat 2 := by
          simp only [hcn73, hcn72, hcn71, hcn70, own_up, e1, e2, eq_self, if_true, if_false]; decide
        have c0 : ∀ z, z ≠ (256 * i + r) → z ≠ (256 * i2 + r2) → cn73 z = 0 := by
          intro z h1 h2
          simp only [hcn73, hcn72, hcn71, hcn70, own_up, if_neg h1, if_neg h2]
        have hu := own_two (own_iff2 cV cU (by decide) (by decide) (fun z h1 h2 => c0 z h2 h1)) q hU
        have hlt : ¬ own_key cn73 (256 * i + r) < own_key cn73 (256 * i2 + r2) := by rw [(own_klt hU (by decide) cU hV (by decide) cV)]; omega
        show own_Ends p e below s _ _ _ (T73.setTop (mkF m 97 #[.val (.int p1), .val (.int p2), .val (.int p3), .val (.int (Int32.ofNat (256 * i + r))), .val (.int (Int32.ofNat (256 * i2 + r2))), .val (.int (2 : Int32)), .val (.int (2 : Int32)), .val (.ref b68), .unset, .unset, .unset] [(.ref b68)]))
        obtain ⟨cq76, kq76, q76a, q76b, q76c⟩ := isOf hZ rfl E73e
        obtain ⟨_, _, ⟨T76, L76, k76, n76⟩, -, X76, ⟨Lc76, hQ76, l76, y76, z76⟩, st76⟩ := X73.virtualBack hx (y := (⟨"com/example/wakachi/wakachi/UnitCounts", "byFrequency", "()[C"⟩ : MethodName)) (z := (⟨"com/example/wakachi/wakachi/UnitCounts", "byFrequency", "()[C"⟩ : MethodName)) hown (mvT hZ (hw _ (List.mem_of_getElem? (i := 21) rfl))) (mvT hZ (hw _ (List.mem_of_getElem? (i := 22) rfl))) (notFace_of_selects (args := #[]) (mvT hZ (hw _ (List.mem_of_getElem? (i := 24) rfl)))) (mvT hZ (hw _ (List.mem_of_getElem? (i := 24) rfl))) (mvT hZ (hw _ (List.mem_of_getElem? (i := 23) rfl))) (by decide) (backOf (W := 0) (rmB2a l Z a0 hw [] b68 pa B73 cn73 (256 * i2 + r2) (256 * i + r) T73.heap n0 Zs73 hu E73e F73f U73 hlt) hZ (hw _ (List.mem_of_getElem? (i := 25) rfl)) (hw _ (List.mem_of_getElem? (i := 3) rfl)) (by decide) (by decide)) q76a q76c (g := (mkF m 97 #[.val (.int p1), .val (.int p2), .val (.int p3), .val (.int (Int32.ofNat (256 * i + r))), .val (.int (Int32.ofNat (256 * i2 + r2))), .val (.int (2 : Int32)), .val (.int (2 : Int32)), .val (.ref b68), .unset, .unset, .unset] [(.ref b68)])) rfl (by rw [hml]; rfl) (Steps.refl _) (argsL := []) (rest := []) (lenOf pd_6 rfl) rfl (by show 2 * 0 + _ ≤ _; exact Nat.le_of_eq rfl) (hb hby at_97) (fun _ _ => ⟨rfl, rfl, (by decide : 6 + 2 ≤ _), (by decide : 1281 + 4 ≤ _)⟩)
        dsimp only [Pt.U, Pt.locs, Pt.cells, Pt.slots] at X76 l76 y76 z76 st76 hQ76
        subst y76 z76
        obtain ⟨N76q, ra, rfl, A76⟩ := hQ76
        have N76 : Fr n0 L76 := by rw [l76]; exact Fr.app N73 N76q
        refine own_step (fun _ kc_ => st76.trans kc_) ?_
        show own_Ends p e below s _ _ _ (T76.setTop (mkF m 100 #[.val (.int p1), .val (.int p2), .val (.int p3), .val (.int (Int32.ofNat (256 * i + r))), .val (.int (Int32.ofNat (256 * i2 + r2))), .val (.int (2 : Int32)), .val (.int (2 : Int32)), .val (.ref b68), .unset, .unset, .unset] [(.ref ra)]))
        refine own_step (fun _ kc_ => XS.astore X76.here hx rfl (hb hby at_100) rfl rfl (l' := #[.val (.int p1), .val (.int p2), .val (.int p3), .val (.int (Int32.ofNat (256 * i + r))), .val (.int (Int32.ofNat (256 * i2 + r2))), .val (.int (2 : Int32)), .val (.int (2 : Int32)), .val (.ref b68), .val (.ref ra), .unset, .unset]) rfl (XS.iloadN X76.here hx rfl (hb hby at_102) rfl (XS.iload X76.here hx rfl (hb hby at_103) rfl (XS.icmpYes X76.here hx rfl (pc0 := 105) (pc' := 129) rfl (hb hby at_105) rfl (XT.ii_ne_t (own_neI (by omega) hU hV : ¬ ((Int32.ofNat (256 * i + r)) = (Int32.ofNat (256 * i2 + r2))))) (by decide) (by decide) (XS.iload X76.here hx rfl (hb hby at_129) rfl (XS.iload X76.here hx rfl (hb hby at_131) rfl (XS.icmpYes X76.here hx rfl (pc0 := 133) (pc' := 146) rfl (hb hby at_133) rfl (XT.ii_le_t (by decide : ¬ ((2 : Int32) < (2 : Int32)))) (by decide) (by decide) (XS.iload X76.here hx rfl (hb hby at_146) rfl kc_)))))))) ?_
        show own_Ends p e below s _ _ _ (T76.setTop (mkF m 148 #[.val (.int p1), .val (.int p2), .val (.int p3), .val (.int (Int32.ofNat (256 * i + r))), .val (.int (Int32.ofNat (256 * i2 + r2))), .val (.int (2 : Int32)), .val (.int (2 : Int32)), .val (.ref b68), .val (.ref ra), .unset, .unset] [(.int (2 : Int32))]))
        refine own_step (fun _ kc_ => XS.iload X76.here hx rfl (hb hby at_148) rfl (XS.icmpYes X76.here hx rfl (pc0 := 150) (pc' := 163) rfl (hb hby at_150) rfl (XT.ii_le_t (by decide : ¬ ((2 : Int32) < (2 : Int32)))) (by decide) (by decide) (XS.iloadN X76.here hx rfl (hb hby at_163) rfl (XS.iload X76.here hx rfl (hb hby at_164) rfl (XS.icmpYes X76.here hx rfl (pc0 := 166) (pc' := 179) rfl (hb hby at_166) rfl (XT.ii_ge_t (fun z => absurd ((own_ltI hU hV).mp z) (by omega) : ¬ ((Int32.ofNat (256 * i + r)) < (Int32.ofNat (256 * i2 + r2))))) (by decide) (by decide) (XS.iload X76.here hx rfl (hb hby at_179) rfl (XS.istore X76.here hx rfl (hb hby at_181) rfl (l' := #[.val (.int p1), .val (.int p2), .val (.int p3), .val (.int (Int32.ofNat (256 * i + r))), .val (.int (Int32.ofNat (256 * i2 + r2))), .val (.int (2 : Int32)), .val (.int (2 : Int32)), .val (.ref b68), .val (.ref ra), .val (.int (Int32.ofNat (256 * i2 + r2))), .unset]) rfl (XS.iloadN X76.here hx rfl (hb hby at_183) rfl kc_)))))))) ?_
        show own_Ends p e below s _ _ _ (T76.setTop (mkF m 184 #[.val (.int p1), .val (.int p2), .val (.int p3), .val (.int (Int32.ofNat (256 * i + r))), .val (.int (Int32.ofNat (256 * i2 + r2))), .val (.int (2 : Int32)), .val (.int (2 : Int32)), .val (.ref b68), .val (.ref ra), .val (.int (Int32.ofNat (256 * i2 + r2))), .unset] [(.int (Int32.ofNat (256 * i + r)))]))
        refine own_step (fun _ kc_ => XS.istore X76.here hx rfl (hb hby at_184) rfl (l' := #[.val (.int p1), .val (.int p2), .val (.int p3), .val (.int (Int32.ofNat (256 * i + r))), .val (.int (Int32.ofNat (256 * i2 + r2))), .val (.int (2 : Int32)), .val (.int (2 : Int32)), .val (.ref b68), .val (.ref ra), .val (.int (Int32.ofNat (256 * i2 + r2))), .val (.int (Int32.ofNat (256 * i + r)))]) rfl (XS.aload X76.here hx rfl (hb hby at_186) rfl rfl (own_alen X76 hx hZ rfl A76 (n := 2) (z := (2 : Int32)) rfl rfl (hb hby at_188) _ (XS.iconst X76.here hx rfl (hb hby at_189) (XS.icmpNo X76.here hx rfl (hb hby at_190) rfl (XT.ii_ne_f (by decide : (2 : Int32) = (2 : Int32))) (XS.aload X76.here hx rfl (hb hby at_193) rfl rfl (XS.iconst X76.here hx rfl (hb hby at_195) (own_caload X76 hx hZ rfl A76 (j := (0 : Int32)) (by decide) (i := 0) rfl (v := (.int (Int32.ofNat (256 * i2 + r2)))) rfl (hb hby at_196) _ kc_)))))))) ?_
        show own_Ends p e below s _ _ _ (T76.setTop (mkF m 197 #[.val (.int p1), .val (.int p2), .val (.int p3), .val (.int (Int32.ofNat (256 * i + r))), .val (.int (Int32.ofNat (256 * i2 + r2))), .val (.int (2 : Int32)), .val (.int (2 : Int32)), .val (.ref b68), .val (.ref ra), .val (.int (Int32.ofNat (256 * i2 + r2))), .val (.int (Int32.ofNat (256 * i + r)))] [(.int (Int32.ofNat (256 * i2 + r2)))]))
        refine own_step (fun _ kc_ => XS.iload X76.here hx rfl (hb hby at_197) rfl (XS.icmpNo X76.here hx rfl (hb hby at_199) rfl (XT.ii_ne_f (rfl : (Int32.ofNat (256 * i2 + r2)) = (Int32.ofNat (256 * i2 + r2)))) (XS.aload X76.here hx rfl (hb hby at_202) rfl rfl (XS.iconst X76.here hx rfl (hb hby at_204) (own_caload X76 hx hZ rfl A76 (j := (1 : Int32)) (by decide) (i := 1) rfl (v := (.int (Int32.ofNat (256 * i + r)))) rfl (hb hby at_205) _ (XS.iload X76.here hx rfl (hb hby at_206) rfl (XS.icmpNo X76.here hx rfl (hb hby at_208) rfl (XT.ii_ne_f (rfl : (Int32.ofNat (256 * i + r)) = (Int32.ofNat (256 * i + r)))) (XS.iconst X76.here hx rfl (hb hby at_211) kc_)))))))) ?_
        show own_Ends p e below s _ _ _ (T76.setTop (mkF m 212 #[.val (.int p1), .val (.int p2), .val (.int p3), .val (.int (Int32.ofNat (256 * i + r))), .val (.int (Int32.ofNat (256 * i2 + r2))), .val (.int (2 : Int32)), .val (.int (2 : Int32)), .val (.ref b68), .val (.ref ra), .val (.int (Int32.ofNat (256 * i2 + r2))), .val (.int (Int32.ofNat (256 * i + r)))] [(.int (1 : Int32))]))
        refine own_step (fun _ kc_ => XS.goto X76.here hx rfl (pc0 := 212) (pc' := 216) rfl (hb hby at_212) (by decide) (by decide) kc_) ?_
        show own_Ends p e below s _ _ _ (T76.setTop (mkF m 216 #[.val (.int p1), .val (.int p2), .val (.int p3), .val (.int (Int32.ofNat (256 * i + r))), .val (.int (Int32.ofNat (256 * i2 + r2))), .val (.int (2 : Int32)), .val (.int (2 : Int32)), .val (.ref b68), .val (.ref ra), .val (.int (Int32.ofNat (256 * i2 + r2))), .val (.int (Int32.ofNat (256 * i + r)))] [(.int (1 : Int32))]))
        exact own_retN X76 hx (t := .boolean) hret (by simp) hlk (hb hby at_216) (by decide) (by decide) rfl ⟨rfl, N76⟩
  show own_Ends p e below s _ _ _ (s₁.setTop (mkF m 6 #[.val (.int p1), .val (.int p2), .val (.int p3), .val (.int (Int32.ofNat (256 * i + r))), .unset, .unset, .unset, .unset, .unset, .unset, .unset] []))
  refine own_step (fun _ kc_ => XS.iloadN X0.here hx rfl (hb hby at_6) rfl (XS.iconst X0.here hx rfl (hb hby at_7) (XS.iand X0.here hx rfl (hb hby at_8) rfl kc_))) ?_
  show own_Ends p e below s _ _ _ (s₁.setTop (mkF m 9 #[.val (.int p1), .val (.int p2), .val (.int p3), .val (.int (Int32.ofNat (256 * i + r))), .unset, .unset, .unset, .unset, .unset, .unset, .unset] [(.int (p3 &&& (4 : Int32)))]))
  by_cases hc9 : (p3 &&& (4 : Int32)) = 0
  · refine own_step (fun _ kc_ => XS.ifYes X0.here hx rfl (pc0 := 9) (pc' := 22) rfl (hb hby at_9) rfl (XT.i0_eq_t hc9) (by decide) (by decide) (XS.iloadN X0.here hx rfl (hb hby at_22) rfl (XS.iloadN X0.here hx rfl (hb hby at_23) rfl (XS.sipush X0.here hx rfl (hb hby at_24) (XS.iand X0.here hx rfl (hb hby at_27) rfl (XS.ixor X0.here hx rfl (hb hby at_28) rfl (XS.i2c X0.here hx rfl (hb hby at_29) rfl (XS.istore X0.here hx rfl (hb hby at_30) rfl (l' := #[.val (.int p1), .val (.int p2), .val (.int p3), .val (.int (Int32.ofNat (256 * i + r))), .val (.int (((Int32.ofNat (256 * i + r)) ^^^ (p2 &&& (255 : Int32))).toUInt32.toUInt16.toUInt32.toInt32)), .unset, .unset, .unset, .unset, .unset, .unset]) rfl kc_)))))))) ?_
    show own_Ends p e below s _ _ _ (s₁.setTop (mkF m 32 #[.val (.int p1), .val (.int p2), .val (.int p3), .val (.int (Int32.ofNat (256 * i + r))), .val (.int (((Int32.ofNat (256 * i + r)) ^^^ (p2 &&& (255 : Int32))).toUInt32.toUInt16.toUInt32.toInt32)), .unset, .unset, .unset, .unset, .unset, .unset] []))
    obtain ⟨i2, r2, hi2, hr2, ev⟩ := own_char2 ((Int32.ofNat (256 * i + r)) ^^^ (p2 &&& (255 : Int32)))
    rw [ev]
    exact J i2 r2 hi2 hr2
  · refine own_step (fun _ kc_ => XS.ifNo X0.here hx rfl (hb hby at_9) rfl (XT.i0_eq_f hc9) (XS.iloadN X0.here hx rfl (hb hby at_12) rfl (X0.ldcI hx hown (mvT hZ (hw _ (List.mem_of_getElem? (i := 0) rfl))) rfl (hb hby at_13) (XS.iand X0.here hx rfl (hb hby at_15) rfl (XS.i2c X0.here hx rfl (hb hby at_16) rfl (XS.istore X0.here hx rfl (hb hby at_17) rfl (l' := #[.val (.int p1), .val (.int p2), .val (.int p3), .val (.int (Int32.ofNat (256 * i + r))), .val (.int ((p2 &&& (65535 : Int32)).toUInt32.toUInt16.toUInt32.toInt32)), .unset, .unset, .unset, .unset, .unset, .unset]) rfl (XS.goto X0.here hx rfl (pc0 := 19) (pc' := 32) rfl (hb hby at_19) (by decide) (by decide) kc_))))))) ?_
    show own_Ends p e below s _ _ _ (s₁.setTop (mkF m 32 #[.val (.int p1), .val (.int p2), .val (.int p3), .val (.int (Int32.ofNat (256 * i + r))), .val (.int ((p2 &&& (65535 : Int32)).toUInt32.toUInt16.toUInt32.toInt32)), .unset, .unset, .unset, .unset, .unset, .unset] []))
    obtain ⟨i2, r2, hi2, hr2, ev⟩ := own_char2 (p2 &&& (65535 : Int32))
    rw [ev]
    exact J i2 r2 hi2 hr2
set_option maxRecDepth 65536 in
set_option maxHeartbeats 40000000 in
theorem comes_1 {Post : Tables → Env → Array Value → State → Outcome → State → Prop} (hpost : ∀ tb e args s v u, (limb_1_1.after args s (.returned v) u = true ∧ limb_1_2.after args s (.returned v) u = true ∧ True) → FrameEnd s (.returned v) u (Jvm.fieldLocs frame_1_writes args s ++ Jvm.arrayLocs frame_1_arrays args s ++ Jvm.staticLocs frame_1_statics s) 24 1664 → Post tb e args s (.returned v) u) :
    ArmFor flags0 classFile x code maxLocals ret World_1 tables_1 room_1 Calls_1 rest_1 Pre_1 Post := by
  intro l hfl _ _ p e ha hc hk s m args below hf hA hF happ hP
  obtain ⟨hcalls, hrest, hpre⟩ := hP
  obtain ⟨-, -, -, hnamed, -, -, -, hat⟩ := (Spec.applies_iff hf).mp happ
  obtain ⟨hg, hn⟩ := and_e (Cond.before_iff.mp (show (Jvm.Cond.and given_1 narrow_1).before args s = true from hpre))
  obtain ⟨g_c, g_0⟩ := and_e hg
  obtain ⟨w0, w1, w2, rfl⟩ : ∃ w0 w1 w2 : Value, args = #[w0, w1, w2] := by
    have hs : args.size = 3 := by simpa [Cond.value, given_1] using g_c
    obtain ⟨L⟩ := args
    match L, hs with
    | [w0, w1, w2], _ => exact ⟨w0, w1, w2, rfl⟩
  have hw := fun d (hd : d ∈ tables_1) => atoms_spec (ws := Jvm.Cond.code x code maxLocals ret :: tables_1) hat d (List.mem_cons_of_mem _ hd)
  obtain ⟨g_v0, g_1⟩ := and_e g_0
  obtain ⟨i0, ei0⟩ := is_v g_v0
  obtain rfl : w0 = (.int i0) := Option.some.inj ei0
  obtain ⟨g_v1, g_2⟩ := and_e g_1
  obtain ⟨i1, ei1⟩ := is_v g_v1
  obtain rfl : w1 = (.int i1) := Option.some.inj ei1
  obtain ⟨i2, ei2⟩ := is_v g_2
  obtain rfl : w2 = (.int i2) := Option.some.inj ei2
  obtain ⟨n, o, h1, h2, h3, _, L, rfl, ⟨rfl, N⟩, hq⟩ := rm0 l s _ hw tables_1 i0 i1 i2  s.heap s.heap.size (Nat.le_refl _) p e ha hc hk s m _ below hf ((Spec.applies_iff_loose hf).mp happ).1 ⟨rfl, State.Warmed39.refl s, rfl⟩ trivial
  refine ⟨n, _, h1, h2, h3, hpost _ _ _ _ _ _ ⟨Cond.after_iff.mpr rfl, Cond.after_iff.mpr (eq_i res_at (Term.int_eval (1)) rfl), trivial⟩ ⟨hq.1, hq.2.1, (hq.2.2.sift fun y hy => Or.inr (N y hy)).mono (by decide) (by decide)⟩⟩
theorem main_1_1 : Claimed_1_1 := comes_1 fun _ _ _ _ _ _ h hF => ⟨h.1, hF⟩
theorem main_1_2 : Claimed_1_2 := comes_1 fun _ _ _ _ _ _ h hF => ⟨h.2.1, hF⟩
end Jvm.Pilot.@@N@@
namespace Jvm.Pilot.@@N@@
open Jvm Jvm.ClassFile Sem Op Lib Jvm.Free Jvm.Stand Jvm.Pilot.@@N@@.Jvm.D
/-! MADE BY PROGRAM (witnessworld.py) out of the Statement's table words and the real class files: 15 classes; the members and pool entries that the words name. The judged class is class 1, her method 1. -/
namespace start1
open Jvm.ClassFile
def u (s : String) : CpInfo := .utf8 (stringToUtf16 s)
/-- a pool by its gaps: so many unusable entries, then the entry; so many at the end -/
def gap : Nat → List CpInfo → List CpInfo
  | 0, r => r
  | n + 1, r => .unusable :: gap n r
def poolList (es : List (Nat × CpInfo)) (last : Nat) : List CpInfo := es.foldr (fun e r => gap e.1 (e.2 :: r)) (gap last [])
def pool (es : List (Nat × CpInfo)) (last : Nat) : Array CpInfo := ⟨poolList es last⟩
def fileOf (pool : Array CpInfo) (this : Nat) (attrs : Array Attribute := #[]) (ms : Array MethodInfo := #[]) (fl : Nat := 33) (sup : Nat := 0) (ifs : Array Nat := #[]) (fds : Array FieldInfo := #[]) : ClassFile where
  minorVersion := 0
  majorVersion := 65
  constantPool := pool
  accessFlags := fl
  thisClass := this
  superClass := sup
  interfaces := ifs
  fields := fds
  methods := ms
  attributes := attrs
def plain (name : String) (sup : Option ClassId) : Class where
  name := name
  kind := .ordinary
  loader := none
  accessFlags := 33
  super := sup
  interfaces := #[]
  cf := none
  fields := #[]
  methods := #[]
  instanceTypes := #[]
  staticTypes := #[]
  resolved := #[]
  callSites := []
  init := .initialized
  statics := none
  mirror := none

def pool0 : Array CpInfo := pool [(5, u "<init>"), (0, u "()V"), (1, .class_ 10), (1, u "java/lang/Object")] 113

def k0c0 : Code := { maxStack := 0, maxLocals := 1, code := object_method_1_code, exceptionTable := #[], attributes := #[] }
def k0m0 : Method := { name := "<init>", desc := "()V", sig := { parameters := [], returnType := none }, accessFlags := 1, code := some k0c0 }
/-- java/lang/Object -/
def k0 : Class := { plain "java/lang/Object" none with
  accessFlags := 33
  interfaces := #[]
  cf := some (fileOf pool0 8 #[] #[{ accessFlags := 1, nameIndex := 5, descriptorIndex := 6, attributes := #[] }] 33 0 #[] #[])
  fields := #[]
  methods := #[k0m0]
  instanceTypes := #[]
  staticTypes := #[]
  resolved := Array.replicate 124 none
  statics := none }

def pool1 : Array CpInfo := pool [(2, .class_ 4), (0, .nameAndType 5 6), (0, u "java/lang/Object"), (0, u "<init>"), (0, u "()V"), (0, .integer 65535), (0, .class_ 9), (0, u "com/example/wakachi/wakachi/UnitCounts"), (0, .methodref 8 3), (0, .methodref 8 12), (0, .nameAndType 13 14), (0, u "add"), (0, u "(C)V"), (0, .methodref 8 16), (0, .nameAndType 17 18), (0, u "byFrequency"), (0, u "()[C"), (0, .class_ 20), (0, u "com/example/wakachi/wakachi/UnitCountsAddPinLaw"), (2, u "law"), (0, u "(III)Z")] 5

def k1m0 : Method := { name := "<init>", desc := "()V", sig := { parameters := [], returnType := none }, accessFlags := 1, code := none }
def k1c1 : Code := { maxStack := 3, maxLocals := 11, code := code, exceptionTable := #[], attributes := #[] }
def k1m1 : Method := { name := "law", desc := "(III)Z", sig := { parameters := [.int, .int, .int], returnType := some .boolean }, accessFlags := 9, code := some k1c1 }
/-- com/example/wakachi/wakachi/UnitCountsAddPinLaw -/
def k1 : Class := { plain "com/example/wakachi/wakachi/UnitCountsAddPinLaw" (some 0) with
  accessFlags := 49
  interfaces := #[]
  cf := some (fileOf pool1 19 #[] #[{ accessFlags := 1, nameIndex := 5, descriptorIndex := 6, attributes := #[] }, { accessFlags := 9, nameIndex := 23, descriptorIndex := 24, attributes := #[] }] 49 2 #[] #[])
  fields := #[]
  methods := #[k1m0, k1m1]
  instanceTypes := #[]
  staticTypes := #[]
  resolved := Array.replicate 30 none
  statics := none }

def pool2 : Array CpInfo := pool [(1, .methodref 2 3), (0, .class_ 4), (0, .nameAndType 5 6), (0, u "java/lang/Object"), (0, u "<init>"), (0, u "()V"), (2, .class_ 10), (0, u "com/example/wakachi/wakachi/UnitCounts"), (0, .class_ 12), (0, u "[J"), (0, .fieldref 9 14), (0, .nameAndType 15 16), (0, u "pages"), (0, u "[[J"), (0, .methodref 18 19), (0, .class_ 20), (0, .nameAndType 21 22), (0, u "java/util/Arrays"), (0, u "sort"), (0, u "([J)V"), (0, u "PAGE_UNITS"), (0, u "I"), (4, u "add"), (0, u "(C)V"), (1, u "byFrequency"), (0, u "()[C")] 5

def k2c0 : Code := { maxStack := 2, maxLocals := 1, code := prog_227_method_1_code, exceptionTable := #[], attributes := #[] }
def k2m0 : Method := { name := "<init>", desc := "()V", sig := { parameters := [], returnType := none }, accessFlags := 0, code := some k2c0 }
def k2c1 : Code := { maxStack := 6, maxLocals := 3, code := prog_227_method_2_code, exceptionTable := #[], attributes := #[] }
def k2m1 : Method := { name := "add", desc := "(C)V", sig := { parameters := [.char], returnType := none }, accessFlags := 0, code := some k2c1 }
def k2c2 : Code := { maxStack := 6, maxLocals := 11, code := prog_227_method_3_code, exceptionTable := #[], attributes := #[] }
def k2m2 : Method := { name := "byFrequency", desc := "()[C", sig := { parameters := [], returnType := some (.array .char) }, accessFlags := 0, code := some k2c2 }
/-- com/example/wakachi/wakachi/UnitCounts -/
def k2 : Class := { plain "com/example/wakachi/wakachi/UnitCounts" (some 0) with
  accessFlags := 48
  interfaces := #[]
  cf := some (fileOf pool2 9 #[] #[{ accessFlags := 0, nameIndex := 5, descriptorIndex := 6, attributes := #[] }, { accessFlags := 0, nameIndex := 29, descriptorIndex := 30, attributes := #[] }, { accessFlags := 0, nameIndex := 32, descriptorIndex := 33, attributes := #[] }] 48 2 #[] #[{ accessFlags := 26, nameIndex := 23, descriptorIndex := 24, attributes := #[] }, { accessFlags := 18, nameIndex := 15, descriptorIndex := 16, attributes := #[] }])
  fields := #[{ name := "PAGE_UNITS", type := .int, accessFlags := 26, slot := 0, constantValue := 0 }, { name := "pages", type := (.array (.array .long)), accessFlags := 18, slot := 0, constantValue := 0 }]
  methods := #[k2m0, k2m1, k2m2]
  instanceTypes := #[(.array (.array .long))]
  staticTypes := #[.int]
  resolved := Array.replicate 39 none
  statics := none }

def pool3 : Array CpInfo := pool [(2, .class_ 4), (1, u "java/lang/Object"), (0, u "<init>"), (0, u "()V"), (1, .class_ 10), (1, u "java/util/DualPivotQuicksort"), (0, u "sort"), (2, .class_ 16), (1, u "java/util/Arrays"), (2, .methodref 8 20), (0, .nameAndType 11 21), (0, u "([JIII)V"), (52, .class_ 76), (1, u "java/util/Arrays$NaturalOrder"), (36, .class_ 115), (1, u "java/util/Arrays$LegacyMergeSort"), (1, u "Z"), (257, .class_ 376), (0, u "java/util/Arrays$ArrayList"), (68, u "$assertionsDisabled"), (269, u "MIN_ARRAY_SORT_GRAN"), (0, u "I"), (2, u "INSERTIONSORT_THRESHOLD"), (11, u "([J)V"), (243, .class_ 976), (0, u "java/util/Arrays$ArrayItr")] 52

def k3m0 : Method := { name := "<init>", desc := "()V", sig := { parameters := [], returnType := none }, accessFlags := 2, code := none }
def k3c1 : Code := { maxStack := 4, maxLocals := 1, code := jdk_65_method_4_code, exceptionTable := #[], attributes := #[] }
def k3m1 : Method := { name := "sort", desc := "([J)V", sig := { parameters := [(.array .long)], returnType := none }, accessFlags := 9, code := some k3c1 }
/-- java/util/Arrays -/
def k3 : Class := { plain "java/util/Arrays" (some 0) with
  accessFlags := 49
  interfaces := #[]
  cf := some (fileOf pool3 14 #[.nestMembers #[975, 375, 113, 74]] #[{ accessFlags := 2, nameIndex := 5, descriptorIndex := 6, attributes := #[] }, { accessFlags := 9, nameIndex := 11, descriptorIndex := 731, attributes := #[] }] 49 2 #[] #[{ accessFlags := 26, nameIndex := 715, descriptorIndex := 716, attributes := #[] }, { accessFlags := 26, nameIndex := 719, descriptorIndex := 716, attributes := #[] }, { accessFlags := 4120, nameIndex := 445, descriptorIndex := 117, attributes := #[] }])
  fields := #[{ name := "MIN_ARRAY_SORT_GRAN", type := .int, accessFlags := 26, slot := 0, constantValue := 0 }, { name := "INSERTIONSORT_THRESHOLD", type := .int, accessFlags := 26, slot := 1, constantValue := 0 }, { name := "$assertionsDisabled", type := .boolean, accessFlags := 4120, slot := 2, constantValue := 0 }]
  methods := #[k3m0, k3m1]
  instanceTypes := #[]
  staticTypes := #[.int, .int, .boolean]
  resolved := Array.replicate 1029 none
  statics := none }

def pool4 : Array CpInfo := pool [(1, .class_ 2), (0, u "java/util/DualPivotQuicksort"), (5, .class_ 10), (1, u "java/lang/Object"), (0, u "<init>"), (0, u "()V"), (4, .class_ 18), (0, u "java/util/DualPivotQuicksort$Sorter"), (9, u "sort"), (7, u "insertionSort"), (31, u "I"), (4, .class_ 74), (0, u "java/util/DualPivotQuicksort$RunMerger"), (10, .class_ 86), (0, u "java/util/DualPivotQuicksort$Merger"), (12, .methodref 1 100), (0, .nameAndType 28 101), (0, u "(Ljava/util/DualPivotQuicksort$Sorter;[JIII)V"), (2, u "([JIII)V"), (0, .methodref 1 106), (0, .nameAndType 36 107), (0, u "([JII)V"), (106, u "MAX_MIXED_INSERTION_SORT_SIZE"), (2, u "MAX_INSERTION_SORT_SIZE"), (1, u "MIN_PARALLEL_SORT_SIZE"), (1, u "MIN_TRY_MERGE_SIZE"), (0, u "MIN_FIRST_RUN_SIZE"), (1, u "MIN_FIRST_RUNS_FACTOR"), (1, u "MAX_RUN_CAPACITY"), (1, u "MIN_RUN_COUNT"), (1, u "MIN_PARALLEL_MERGE_PARTS_SIZE"), (0, u "MIN_BYTE_COUNTING_SORT_SIZE"), (1, u "MIN_SHORT_OR_CHAR_COUNTING_SORT_SIZE"), (1, u "DELTA"), (1, u "MAX_RECURSION_DEPTH"), (1, u "NUM_BYTE_VALUES"), (1, u "MAX_BYTE_INDEX"), (0, u "NUM_CHAR_VALUES"), (0, u "NUM_SHORT_VALUES"), (0, u "MAX_SHORT_INDEX")] 86

def k4m0 : Method := { name := "<init>", desc := "()V", sig := { parameters := [], returnType := none }, accessFlags := 2, code := none }
def k4c1 : Code := { maxStack := 9, maxLocals := 7, code := jdk_2529_method_12_code, exceptionTable := #[], attributes := #[] }
def k4m1 : Method := { name := "sort", desc := "([JIII)V", sig := { parameters := [(.array .long), .int, .int, .int], returnType := none }, accessFlags := 8, code := some k4c1 }
def k4c2 : Code := { maxStack := 6, maxLocals := 25, code := jdk_2529_method_13_code, exceptionTable := #[], attributes := #[] }
def k4m2 : Method := { name := "sort", desc := "(Ljava/util/DualPivotQuicksort$Sorter;[JIII)V", sig := { parameters := [(.object "java/util/DualPivotQuicksort$Sorter"), (.array .long), .int, .int, .int], returnType := none }, accessFlags := 8, code := some k4c2 }
def k4c3 : Code := { maxStack := 5, maxLocals := 7, code := jdk_2529_method_15_code, exceptionTable := #[], attributes := #[] }
def k4m3 : Method := { name := "insertionSort", desc := "([JII)V", sig := { parameters := [(.array .long), .int, .int], returnType := none }, accessFlags := 10, code := some k4c3 }
/-- java/util/DualPivotQuicksort -/
def k4 : Class := { plain "java/util/DualPivotQuicksort" (some 0) with
  accessFlags := 48
  interfaces := #[]
  cf := some (fileOf pool4 1 #[.nestMembers #[73, 85, 17]] #[{ accessFlags := 2, nameIndex := 11, descriptorIndex := 12, attributes := #[] }, { accessFlags := 8, nameIndex := 28, descriptorIndex := 104, attributes := #[] }, { accessFlags := 8, nameIndex := 28, descriptorIndex := 101, attributes := #[] }, { accessFlags := 10, nameIndex := 36, descriptorIndex := 107, attributes := #[] }] 48 8 #[] #[{ accessFlags := 26, nameIndex := 214, descriptorIndex := 68, attributes := #[] }, { accessFlags := 26, nameIndex := 217, descriptorIndex := 68, attributes := #[] }, { accessFlags := 26, nameIndex := 219, descriptorIndex := 68, attributes := #[] }, { accessFlags := 26, nameIndex := 221, descriptorIndex := 68, attributes := #[] }, { accessFlags := 26, nameIndex := 222, descriptorIndex := 68, attributes := #[] }, { accessFlags := 26, nameIndex := 224, descriptorIndex := 68, attributes := #[] }, { accessFlags := 26, nameIndex := 226, descriptorIndex := 68, attributes := #[] }, { accessFlags := 26, nameIndex := 228, descriptorIndex := 68, attributes := #[] }, { accessFlags := 26, nameIndex := 230, descriptorIndex := 68, attributes := #[] }, { accessFlags := 26, nameIndex := 231, descriptorIndex := 68, attributes := #[] }, { accessFlags := 26, nameIndex := 233, descriptorIndex := 68, attributes := #[] }, { accessFlags := 26, nameIndex := 235, descriptorIndex := 68, attributes := #[] }, { accessFlags := 26, nameIndex := 237, descriptorIndex := 68, attributes := #[] }, { accessFlags := 26, nameIndex := 239, descriptorIndex := 68, attributes := #[] }, { accessFlags := 26, nameIndex := 241, descriptorIndex := 68, attributes := #[] }, { accessFlags := 26, nameIndex := 242, descriptorIndex := 68, attributes := #[] }, { accessFlags := 26, nameIndex := 243, descriptorIndex := 68, attributes := #[] }, { accessFlags := 26, nameIndex := 244, descriptorIndex := 68, attributes := #[] }])
  fields := #[{ name := "MAX_MIXED_INSERTION_SORT_SIZE", type := .int, accessFlags := 26, slot := 0, constantValue := 0 }, { name := "MAX_INSERTION_SORT_SIZE", type := .int, accessFlags := 26, slot := 1, constantValue := 0 }, { name := "MIN_PARALLEL_SORT_SIZE", type := .int, accessFlags := 26, slot := 2, constantValue := 0 }, { name := "MIN_TRY_MERGE_SIZE", type := .int, accessFlags := 26, slot := 3, constantValue := 0 }, { name := "MIN_FIRST_RUN_SIZE", type := .int, accessFlags := 26, slot := 4, constantValue := 0 }, { name := "MIN_FIRST_RUNS_FACTOR", type := .int, accessFlags := 26, slot := 5, constantValue := 0 }, { name := "MAX_RUN_CAPACITY", type := .int, accessFlags := 26, slot := 6, constantValue := 0 }, { name := "MIN_RUN_COUNT", type := .int, accessFlags := 26, slot := 7, constantValue := 0 }, { name := "MIN_PARALLEL_MERGE_PARTS_SIZE", type := .int, accessFlags := 26, slot := 8, constantValue := 0 }, { name := "MIN_BYTE_COUNTING_SORT_SIZE", type := .int, accessFlags := 26, slot := 9, constantValue := 0 }, { name := "MIN_SHORT_OR_CHAR_COUNTING_SORT_SIZE", type := .int, accessFlags := 26, slot := 10, constantValue := 0 }, { name := "DELTA", type := .int, accessFlags := 26, slot := 11, constantValue := 0 }, { name := "MAX_RECURSION_DEPTH", type := .int, accessFlags := 26, slot := 12, constantValue := 0 }, { name := "NUM_BYTE_VALUES", type := .int, accessFlags := 26, slot := 13, constantValue := 0 }, { name := "MAX_BYTE_INDEX", type := .int, accessFlags := 26, slot := 14, constantValue := 0 }, { name := "NUM_CHAR_VALUES", type := .int, accessFlags := 26, slot := 15, constantValue := 0 }, { name := "NUM_SHORT_VALUES", type := .int, accessFlags := 26, slot := 16, constantValue := 0 }, { name := "MAX_SHORT_INDEX", type := .int, accessFlags := 26, slot := 17, constantValue := 0 }]
  methods := #[k4m0, k4m1, k4m2, k4m3]
  instanceTypes := #[]
  staticTypes := #[.int, .int, .int, .int, .int, .int, .int, .int, .int, .int, .int, .int, .int, .int, .int, .int, .int, .int]
  resolved := Array.replicate 331 none
  statics := none }

def pool5 : Array CpInfo := pool [(1, u "java/lang/Cloneable"), (0, .class_ 1), (0, u "java/lang/Object"), (0, .class_ 3)] 3

/-- java/lang/Cloneable -/
def k5 : Class := { plain "java/lang/Cloneable" (some 0) with
  accessFlags := 1537
  interfaces := #[]
  cf := some (fileOf pool5 2 #[] #[] 1537 4 #[] #[])
  fields := #[]
  methods := #[]
  instanceTypes := #[]
  staticTypes := #[]
  resolved := Array.replicate 8 none
  statics := none }

def pool6 : Array CpInfo := pool [(1, u "java/io/Serializable"), (0, .class_ 1), (0, u "java/lang/Object"), (0, .class_ 3)] 3

/-- java/io/Serializable -/
def k6 : Class := { plain "java/io/Serializable" (some 0) with
  accessFlags := 1537
  interfaces := #[]
  cf := some (fileOf pool6 2 #[] #[] 1537 4 #[] #[])
  fields := #[]
  methods := #[]
  instanceTypes := #[]
  staticTypes := #[]
  resolved := Array.replicate 8 none
  statics := none }

/-- the primitive byte -/
def k7 : Class := { plain "byte" none with kind := .primitive 'B', accessFlags := 0x411 }
/-- [B -/
def k8 : Class := { plain "[B" (some 0) with kind := .array 7 .byte, interfaces := #[5, 6], accessFlags := 1041 }

/-- the primitive char -/
def k9 : Class := { plain "char" none with kind := .primitive 'C', accessFlags := 0x411 }
/-- [C -/
def k10 : Class := { plain "[C" (some 0) with kind := .array 9 .char, interfaces := #[5, 6], accessFlags := 1041 }

/-- the primitive int -/
def k11 : Class := { plain "int" none with kind := .primitive 'I', accessFlags := 0x411 }
/-- [I -/
def k12 : Class := { plain "[I" (some 0) with kind := .array 11 .int, interfaces := #[5, 6], accessFlags := 1041 }

/-- the primitive long -/
def k13 : Class := { plain "long" none with kind := .primitive 'J', accessFlags := 0x411 }
/-- [J -/
def k14 : Class := { plain "[J" (some 0) with kind := .array 13 .long, interfaces := #[5, 6], accessFlags := 1041 }
/-- [[J -/
def k15 : Class := { plain "[[J" (some 0) with kind := .array 14 (.array .long), interfaces := #[5, 6], accessFlags := 1041 }

def heap : Heap := #[]
def classes : Array Class := #[k0, k1, k2, k3, k4, k5, k6, k7, k8, k9, k10, k11, k12, k13, k14, k15]
def interned : List (Array UInt16 × Addr) := []
def slotsUsed : Nat := 0
def theMethod : MethodId := ⟨1, 1⟩
def args0 : Array Value := #[.int 5, .int 7, .int 4]
def aboutOver (below : List Frame) : State where
  vm := { classes := classes, interned := interned.toArray }
  heap := heap
  slotsUsed := slotsUsed
  threads := #[{ frames := .invoking theMethod args0 :: below }]
def below0 : List Frame := [.native { method := ⟨0, 0⟩, args := #[] }]
def about1 : State := aboutOver below0
def p0 : Program := .bare "" "" ""
def e0 : Env := launch0.env 0 0 0
theorem w_frames : about1.frames = Frame.invoking theMethod args0 :: below0 := rfl
set_option maxRecDepth 65536 in
theorem w_args : argsFit about1.vm theMethod args0 = true := by decide +kernel
set_option maxRecDepth 65536 in
theorem w_heap : heapFits about1 = true := by decide +kernel
set_option maxRecDepth 65536 in
theorem w_runnable : about1.curStatus? = some .runnable := by decide +kernel
set_option maxRecDepth 65536 in
theorem w_alone : about1.alone = true := by decide +kernel
set_option maxRecDepth 65536 in
theorem w_named : about1.methodNamed? x = some theMethod := by decide +kernel
set_option maxRecDepth 65536 in
theorem w_hears : about1.hears theMethod below0 = true := by decide +kernel
set_option maxRecDepth 65536 in
theorem w_ripe : about1.ripe theMethod args0 below0 = true := by decide +kernel
theorem w_running : about1.status = .running := rfl
set_option maxRecDepth 65536 in
theorem w_room : about1.hasRoom e0.platform room_1 = true :=
  launch0.hasRoom_least _ room_1 (by decide +kernel) (by decide +kernel) (by decide +kernel) (by decide +kernel) (by decide +kernel) (by decide +kernel)
theorem allAtoms_all (ts : List Jvm.Cond) (a : Array Jvm.Value) (st : Jvm.State) : (allAtoms ts).before a st = ts.all (fun c => c.before a st) := by
  induction ts with
  | nil => rfl
  | cons c t ih =>
    show (Jvm.Cond.and c (allAtoms t)).before a st = _
    rw [Jvm.Cond.before_and, ih, List.all_cons]
def words1 : List Jvm.Cond := Jvm.Cond.code x code maxLocals ret :: tables_1
/-- a 'code' word, met by the world's own term for the bytes: nothing is compared byte by byte -/
theorem code_word {y : MethodName} {bytes : ByteArray} {mx : Nat} {rt : Option FieldType} {a : Array Value} {s : State} {m : MethodId} {meth : Method} {c : Code} (h1 : s.methodNamed? y = some m) (h2 : s.vm.method? m = some meth) (h3 : meth.code = some c) (h4 : c.code = bytes)
    (h5 : (c.maxLocals == mx && c.exceptionTable.isEmpty && decide (c.maxStack ≤ mostOperands) && decide (meth.sig.returnType = rt) && !meth.locks && decide (parseMethodDescriptor y.desc = some meth.sig)) = true) : (Jvm.Cond.code y bytes mx rt).before a s = true := by
  simp only [Bool.and_eq_true, beq_iff_eq, Bool.not_eq_true', decide_eq_true_eq] at h5
  obtain ⟨⟨⟨⟨⟨g1, g2⟩, g3⟩, g4⟩, g5⟩, g6⟩ := h5
  simp [Cond.before, Cond.holds, Cond.value, h1, h2, h3, h4, g1, g2, g3, g4, g5, g6]
def isCode : Jvm.Cond → Bool
  | .code _ _ _ _ => true
  | _ => false
theorem all_split {L : List Jvm.Cond} {P : Jvm.Cond → Bool} (h1 : L.all (fun c => isCode c || P c) = true) (h2 : ∀ c ∈ L.filter isCode, P c = true) : L.all P = true := by
  refine List.all_eq_true.mpr fun c hc => ?_
  have h := List.all_eq_true.mp h1 c hc
  rcases Bool.eq_false_or_eq_true (isCode c) with hi | hi
  · exact h2 c (List.mem_filter.mpr ⟨hc, hi⟩)
  · simpa [hi] using h
set_option maxRecDepth 65536 in
theorem w_c0 : (Jvm.Cond.code x code maxLocals ret).before args0 about1 = true := code_word (m := ⟨1, 1⟩) (meth := k1m1) (c := k1c1) (by decide +kernel) rfl rfl rfl (by decide +kernel)
set_option maxRecDepth 65536 in
theorem w_c1 : (Jvm.Cond.code ({ cls := "com/example/wakachi/wakachi/UnitCounts", name := "<init>", desc := "()V" } : Jvm.MethodName) prog_227_method_1_code (1 : Nat) (Option.none : Option Jvm.ClassFile.FieldType)).before args0 about1 = true := code_word (m := ⟨2, 0⟩) (meth := k2m0) (c := k2c0) (by decide +kernel) rfl rfl rfl (by decide +kernel)
set_option maxRecDepth 65536 in
theorem w_c2 : (Jvm.Cond.code ({ cls := "java/lang/Object", name := "<init>", desc := "()V" } : Jvm.MethodName) object_method_1_code (1 : Nat) (Option.none : Option Jvm.ClassFile.FieldType)).before args0 about1 = true := code_word (m := ⟨0, 0⟩) (meth := k0m0) (c := k0c0) (by decide +kernel) rfl rfl rfl (by decide +kernel)
set_option maxRecDepth 65536 in
theorem w_c3 : (Jvm.Cond.code ({ cls := "com/example/wakachi/wakachi/UnitCounts", name := "add", desc := "(C)V" } : Jvm.MethodName) prog_227_method_2_code (3 : Nat) (Option.none : Option Jvm.ClassFile.FieldType)).before args0 about1 = true := code_word (m := ⟨2, 1⟩) (meth := k2m1) (c := k2c1) (by decide +kernel) rfl rfl rfl (by decide +kernel)
set_option maxRecDepth 65536 in
theorem w_c4 : (Jvm.Cond.code ({ cls := "com/example/wakachi/wakachi/UnitCounts", name := "byFrequency", desc := "()[C" } : Jvm.MethodName) prog_227_method_3_code (11 : Nat) (Option.some (Jvm.ClassFile.FieldType.array Jvm.ClassFile.FieldType.char))).before args0 about1 = true := code_word (m := ⟨2, 2⟩) (meth := k2m2) (c := k2c2) (by decide +kernel) rfl rfl rfl (by decide +kernel)
set_option maxRecDepth 65536 in
theorem w_c5 : (Jvm.Cond.code ({ cls := "java/util/Arrays", name := "sort", desc := "([J)V" } : Jvm.MethodName) jdk_65_method_4_code (1 : Nat) (Option.none : Option Jvm.ClassFile.FieldType)).before args0 about1 = true := code_word (m := ⟨3, 1⟩) (meth := k3m1) (c := k3c1) (by decide +kernel) rfl rfl rfl (by decide +kernel)
set_option maxRecDepth 65536 in
theorem w_c6 : (Jvm.Cond.code ({ cls := "java/util/DualPivotQuicksort", name := "sort", desc := "([JIII)V" } : Jvm.MethodName) jdk_2529_method_12_code (7 : Nat) (Option.none : Option Jvm.ClassFile.FieldType)).before args0 about1 = true := code_word (m := ⟨4, 1⟩) (meth := k4m1) (c := k4c1) (by decide +kernel) rfl rfl rfl (by decide +kernel)
set_option maxRecDepth 65536 in
theorem w_c7 : (Jvm.Cond.code ({ cls := "java/util/DualPivotQuicksort", name := "sort", desc := "(Ljava/util/DualPivotQuicksort$Sorter;[JIII)V" } : Jvm.MethodName) jdk_2529_method_13_code (25 : Nat) (Option.none : Option Jvm.ClassFile.FieldType)).before args0 about1 = true := code_word (m := ⟨4, 2⟩) (meth := k4m2) (c := k4c2) (by decide +kernel) rfl rfl rfl (by decide +kernel)
set_option maxRecDepth 65536 in
theorem w_c8 : (Jvm.Cond.code ({ cls := "java/util/DualPivotQuicksort", name := "insertionSort", desc := "([JII)V" } : Jvm.MethodName) jdk_2529_method_15_code (7 : Nat) (Option.none : Option Jvm.ClassFile.FieldType)).before args0 about1 = true := code_word (m := ⟨4, 3⟩) (meth := k4m3) (c := k4c3) (by decide +kernel) rfl rfl rfl (by decide +kernel)
def codes1 : List Jvm.Cond := [Jvm.Cond.code x code maxLocals ret, Jvm.Cond.code ({ cls := "com/example/wakachi/wakachi/UnitCounts", name := "<init>", desc := "()V" } : Jvm.MethodName) prog_227_method_1_code (1 : Nat) (Option.none : Option Jvm.ClassFile.FieldType), Jvm.Cond.code ({ cls := "java/lang/Object", name := "<init>", desc := "()V" } : Jvm.MethodName) object_method_1_code (1 : Nat) (Option.none : Option Jvm.ClassFile.FieldType), Jvm.Cond.code ({ cls := "com/example/wakachi/wakachi/UnitCounts", name := "add", desc := "(C)V" } : Jvm.MethodName) prog_227_method_2_code (3 : Nat) (Option.none : Option Jvm.ClassFile.FieldType), Jvm.Cond.code ({ cls := "com/example/wakachi/wakachi/UnitCounts", name := "byFrequency", desc := "()[C" } : Jvm.MethodName) prog_227_method_3_code (11 : Nat) (Option.some (Jvm.ClassFile.FieldType.array Jvm.ClassFile.FieldType.char)), Jvm.Cond.code ({ cls := "java/util/Arrays", name := "sort", desc := "([J)V" } : Jvm.MethodName) jdk_65_method_4_code (1 : Nat) (Option.none : Option Jvm.ClassFile.FieldType), Jvm.Cond.code ({ cls := "java/util/DualPivotQuicksort", name := "sort", desc := "([JIII)V" } : Jvm.MethodName) jdk_2529_method_12_code (7 : Nat) (Option.none : Option Jvm.ClassFile.FieldType), Jvm.Cond.code ({ cls := "java/util/DualPivotQuicksort", name := "sort", desc := "(Ljava/util/DualPivotQuicksort$Sorter;[JIII)V" } : Jvm.MethodName) jdk_2529_method_13_code (25 : Nat) (Option.none : Option Jvm.ClassFile.FieldType), Jvm.Cond.code ({ cls := "java/util/DualPivotQuicksort", name := "insertionSort", desc := "([JII)V" } : Jvm.MethodName) jdk_2529_method_15_code (7 : Nat) (Option.none : Option Jvm.ClassFile.FieldType)]
set_option maxRecDepth 65536 in
theorem codes_eq : words1.filter isCode = codes1 := rfl
theorem w_codes : ∀ c ∈ words1.filter isCode, c.before args0 about1 = true := by
  rw [codes_eq]
  intro c hc
  simp only [codes1, List.mem_cons, List.not_mem_nil, or_false] at hc
  rcases hc with rfl | rfl | rfl | rfl | rfl | rfl | rfl | rfl | rfl
  · exact w_c0
  · exact w_c1
  · exact w_c2
  · exact w_c3
  · exact w_c4
  · exact w_c5
  · exact w_c6
  · exact w_c7
  · exact w_c8
set_option maxRecDepth 65536 in
theorem w_t1 : (words1.take 24).all (fun c => isCode c || c.before args0 about1) = true := by decide +kernel
set_option maxRecDepth 65536 in
theorem w_t2 : (words1.drop 24).all (fun c => isCode c || c.before args0 about1) = true := by decide +kernel
theorem w_tables : (allAtoms (Jvm.Cond.code x code maxLocals ret :: tables_1)).before args0 about1 = true := by
  rw [allAtoms_all]
  show words1.all (fun c => c.before args0 about1) = true
  refine all_split ?_ w_codes
  rw [← List.take_append_drop 24 words1, List.all_append, w_t1, w_t2]
  rfl
set_option maxRecDepth 65536 in
theorem w_case : (Jvm.Cond.and given_1 narrow_1).before args0 about1 = true := by decide +kernel
theorem w_applies : (headSpec (Jvm.Cond.code x code maxLocals ret :: tables_1) room_1).applies x e0.platform about1 = true :=
  (Spec.applies_iff w_frames).mpr ⟨w_running, w_runnable, w_alone, w_named, w_hears, w_ripe, w_room, w_tables⟩
theorem atStart : AtStart classFile x code maxLocals ret World_1 tables_1 room_1 Calls_1 rest_1 Pre_1 launch0 p0 e0 about1 theMethod args0 below0 :=
  ⟨lists_1, trivial, launch0.admits_env _ _ _, launch0.least_env, fairChoices_fair.cas, fairChoices_fair.clock, w_frames, w_args, w_heap, w_applies, trivial, trivial, w_case⟩
end start1
theorem witness_1 : WitnessClaimed_1 := ⟨start1.p0, start1.e0, start1.about1, start1.theMethod, start1.args0, start1.below0, start1.atStart⟩
end Jvm.Pilot.@@N@@
