import JvmDerived
import JvmDerived.Pilot.@@N@@Statement
import JvmDerived.Pilot.@@N@@Code
set_option linter.unusedVariables false
set_option linter.unusedSimpArgs false
@@BLOCK:NumsL.lean.txt@@
namespace Jvm.RoadKit
open Sem ClassFile Op Lib Jvm.Stand Jvm.Free Jvm.LawKit
section New
variable {p : Program} {l : Launch} {e : Env} {R : Room} {s : State} {m : MethodId} {args : Array Value} {below : List Frame} {meth : Method} {c : Code} {T : State} {locs : List Loc} {cells slots : Nat}
theorem retI (X : Stand p l e R s m args below meth c T locs cells slots) (hx : p.tables.exec = Jvm.exec) {pc : Nat} {Ls : Array Slot} {z : Int32} {rest : List Value} (hret : meth.sig.returnType = some .int) (hd : decode c.code pc = .ok (.ireturn, 1)) {fs : List Frame}
    (hl : ∀ (f : JFrame) (acts : List Action), f.method = m → f.locked = none → f.entered = [] → (doReturn e (T.setTop f) acts (some (.int z))).1 = T.setFrames fs) : Steps p.tables e below (T.setTop (mkF m pc Ls (.int z :: rest))) (T.setFrames fs) := by
  have hm' : T.vm.method? m = some meth := X.method'
  have hn : narrow .int (.int z) = .int z := rfl
  show Steps p.tables e below (T.setTop { method := m, pc := pc, locals := Ls, stack := _ :: rest, locked := none }) _
  jvm_step X.here [X.here.top, hx, hd, hm', hret, hn]
  first | (intro acts; rw [hl _ acts rfl rfl rfl]) | rw [hl _ _ rfl rfl rfl]
  exact Steps.refl _
end New
end Jvm.RoadKit
namespace Jvm.Pilot.@@N@@
open Jvm Jvm.ClassFile Sem Op Lib Jvm.Free Jvm.Stand Jvm.LawKit Jvm.RoadKit Bundle Jvm.Pilot.@@N@@.Jvm.D
/-- from F the invocation ends: it returns, and Q holds of what it returned, the heap and the places written -/
def own_Ends (p : Program) (e : Env) (below : List Frame) (s : State) (C S : Nat) (Q : Option Value → Heap → List Loc → Prop) (F : State) : Prop :=
  ∃ s₂ o, Steps p.tables e below F s₂ ∧ s₂.status = .running ∧ Ended s₂ below o ∧ ∃ v L, o = .returned v ∧ Q v s₂.heap L ∧ FrameEnd s o s₂ L C S
theorem own_step {p : Program} {e : Env} {below : List Frame} {s : State} {C S : Nat} {Q : Option Value → Heap → List Loc → Prop} {F F' : State} (h : ∀ t, Steps p.tables e below F' t → Steps p.tables e below F t) (k : own_Ends p e below s C S Q F') : own_Ends p e below s C S Q F := by
  obtain ⟨s₂, o, st, r⟩ := k
  exact ⟨s₂, o, h _ st, r⟩
section OwnRet
variable {p : Program} {l : Launch} {e : Env} {R : Room} {s : State} {m : MethodId} {args : Array Value} {below : List Frame} {meth : Method} {c : Code} {T : State} {locs : List Loc} {cells slots : Nat} {C S : Nat} {Q : Option Value → Heap → List Loc → Prop}
theorem own_retI (X : Stand p l e R s m args below meth c T locs cells slots) (hx : p.tables.exec = Jvm.exec) {pc : Nat} {Ls : Array Slot} {z : Int32} {rest : List Value} (hret : meth.sig.returnType = some .int) (hlk : meth.locks = false) (hd : decode c.code pc = .ok (.ireturn, 1)) (hc : cells ≤ C) (hs : slots ≤ S)
    (hQ : Q (some (.int z)) T.heap locs) : own_Ends p e below s C S Q (T.setTop (mkF m pc Ls (.int z :: rest))) := by
  obtain ⟨fs, hr, hrun, hended, hW, hsame⟩ := X.leave (v := some (.int z)) (fun h => by rw [hret] at h; cases h) hlk
  exact ⟨_, _, retI X hx hret hd hr, hrun, hended, _, _, rfl, hQ, ⟨_, rfl⟩, hW, hsame.mono hc hs⟩
theorem own_retN (X : Stand p l e R s m args below meth c T locs cells slots) (hx : p.tables.exec = Jvm.exec) {pc : Nat} {Ls : Array Slot} {z z' : Int32} {rest : List Value} {t : FieldType} (hret : meth.sig.returnType = some t) (ht : t = .boolean ∨ t = .byte ∨ t = .char ∨ t = .short) (hlk : meth.locks = false) (hd : decode c.code pc = .ok (.ireturn, 1)) (hc : cells ≤ C) (hs : slots ≤ S)
    (hz : nar t z = z') (hQ : Q (some (.int z')) T.heap locs) : own_Ends p e below s C S Q (T.setTop (mkF m pc Ls (.int z :: rest))) := by
  subst hz
  obtain ⟨fs, hr, hrun, hended, hW, hsame⟩ := X.leave (v := some (.int (nar t z))) (fun h => by rw [hret] at h; cases h) hlk
  exact ⟨_, _, retN X hx hret ht hd hr, hrun, hended, _, _, rfl, hQ, ⟨_, rfl⟩, hW, hsame.mono hc hs⟩
theorem own_retJ (X : Stand p l e R s m args below meth c T locs cells slots) (hx : p.tables.exec = Jvm.exec) {pc : Nat} {Ls : Array Slot} {z : Int64} (hret : meth.sig.returnType = some .long) (hlk : meth.locks = false) (hd : decode c.code pc = .ok (.lreturn, 1)) (hc : cells ≤ C) (hs : slots ≤ S)
    (hQ : Q (some (.long z)) T.heap locs) : own_Ends p e below s C S Q (T.setTop (mkF m pc Ls [.long z])) := by
  obtain ⟨fs, hr, hrun, hended, hW, hsame⟩ := X.leave (v := some (.long z)) (fun h => by rw [hret] at h; cases h) hlk
  exact ⟨_, _, X.lreturnOut hx hret hd hr, hrun, hended, _, _, rfl, hQ, ⟨_, rfl⟩, hW, hsame.mono hc hs⟩
theorem own_retV (X : Stand p l e R s m args below meth c T locs cells slots) (hx : p.tables.exec = Jvm.exec) {pc : Nat} {Ls : Array Slot} (hret : meth.sig.returnType = none) (hlk : meth.locks = false) (hd : decode c.code pc = .ok (.return_, 1)) (hc : cells ≤ C) (hs : slots ≤ S)
    (hQ : Q none T.heap locs) : own_Ends p e below s C S Q (T.setTop (mkF m pc Ls [])) := by
  obtain ⟨fs, hr, hrun, hended, hW, hsame⟩ := X.leave (v := none) (fun _ => rfl) hlk
  exact ⟨_, _, X.returnOut hx hret hd hr, hrun, hended, _, _, rfl, hQ, ⟨_, rfl⟩, hW, hsame.mono hc hs⟩
theorem own_retR (X : Stand p l e R s m args below meth c T locs cells slots) (hx : p.tables.exec = Jvm.exec) {pc : Nat} {Ls : Array Slot} {w : Value} {t : FieldType} {rest : List Value} (hret : meth.sig.returnType = some t) (ht : t.isReference = true) (hw : w.isRef = true) (hn : narrow t w = w) (hlk : meth.locks = false) (hd : decode c.code pc = .ok (.areturn, 1)) (hc : cells ≤ C) (hs : slots ≤ S)
    (hQ : Q (some w) T.heap locs) : own_Ends p e below s C S Q (T.setTop (mkF m pc Ls (w :: rest))) := by
  obtain ⟨fs, hr, hrun, hended, hW, hsame⟩ := X.leave (v := some w) (fun h => by rw [hret] at h; cases h) hlk
  exact ⟨_, _, retOut X hx hret hn (Or.inr (Or.inr (Or.inr (Or.inr ⟨rfl, ht, hw⟩)))) hd hr, hrun, hended, _, _, rfl, hQ, ⟨_, rfl⟩, hW, hsame.mono hc hs⟩
end OwnRet
/-- the array at a holds just vs -/
def own_Ar (Z : State) (h : Heap) (a : Addr) (ty : FieldType) (vs : List Value) : Prop :=
  vs.length < 2 ^ 31 ∧ ∃ cl : Cell, Arr Z h a cl ty ∧ cl.slots.toList = vs
section OwnArr
variable {p : Program} {l : Launch} {e : Env} {R : Room} {s : State} {m : MethodId} {args : Array Value} {below : List Frame} {meth : Method} {c : Code} {T : State} {locs : List Loc} {cells slots : Nat} {Z : State} {h h' : Heap} {a b : Addr} {ty : FieldType} {vs : List Value} {ws : List Addr} {sl : Nat} {w : Value}
theorem own_Ar.lt (A : own_Ar Z h a ty vs) : a < h.size := by obtain ⟨_, cl, h1, _⟩ := A; exact h1.lt
theorem own_Ar.ext (A : own_Ar Z h a ty vs) (E : Ext h h') : own_Ar Z h' a ty vs := by obtain ⟨q, cl, h1, r⟩ := A; exact ⟨q, cl, h1.ext E, r⟩
theorem own_Ar.other (A : own_Ar Z h a ty vs) (W : Wr h h' b sl w) (q : a ≠ b) : own_Ar Z h' a ty vs := by obtain ⟨z, cl, h1, r⟩ := A; exact ⟨z, cl, h1.other W q, r⟩
theorem own_Ar.keep (A : own_Ar Z h a ty vs) (K : Keep h h' ws) (q : a ∉ ws) : own_Ar Z h' a ty vs := by obtain ⟨z, cl, h1, r⟩ := A; exact ⟨z, cl, ⟨K.2.1 a cl h1.1 q, h1.2⟩, r⟩
theorem own_Ar.set (A : own_Ar Z h a ty vs) {i : Nat} (W : Wr h h' a i w) : own_Ar Z h' a ty (vs.set i w) := by
  obtain ⟨z, cl, h1, r⟩ := A
  refine ⟨by rw [List.length_set]; exact z, cl.setSlot i w, h1.same W, ?_⟩
  rw [← r]; simp [Cell.setSlot]
theorem own_Ar.new {k : ClassId} {z : Int32} (A : Arr Z h a (newA k ty z) ty) (q : ¬ z < 0) : own_Ar Z h a ty (List.replicate z.toNatClampNeg (defaultValue ty)) :=
  ⟨by rw [List.length_replicate]; exact (back32 q).2, _, A, by simp [newA]⟩
theorem own_Ar.cast {us : List Value} (A : own_Ar Z h a ty vs) (q : vs = us) : own_Ar Z h a ty us := q ▸ A
theorem own_Ar.ne {C : String} {a0 : Array Value} {k : Nat} (A : own_Ar Z h b ty vs) (F : Exa Z h a C) (wi : (Cond.instantiable C k).before a0 Z = true) : a ≠ b := by obtain ⟨_, cl, h1, _⟩ := A; exact ne_arr F wi h1
theorem own_in {cl : Cell} (r : cl.slots.toList = vs) {j : Int32} {i : Nat} (h0 : ¬ j < 0) (hj : j.toNatClampNeg = i) (hi : i < vs.length) : ¬ (j < 0 ∨ cl.slots.size ≤ j.toNatClampNeg) := by
  have : cl.slots.size = vs.length := by rw [← r]; simp
  rintro (q | q)
  · exact h0 q
  · omega
theorem own_at {cl : Cell} (r : cl.slots.toList = vs) {j : Int32} {i : Nat} (hj : j.toNatClampNeg = i) {v : Value} (hv : vs[i]? = some v) : cl.slots[j.toNatClampNeg]? = some v := by
  rw [hj, ← Array.getElem?_toList, r]; exact hv
theorem own_alen (X : Stand p l e R s m args below meth c T locs cells slots) (hx : p.tables.exec = Jvm.exec) (hZ : Z.Warmed39 s.vm) (eT : T.heap = h) (A : own_Ar Z h a ty vs) {n : Nat} {z : Int32} (hn : vs.length = n) (hz : Int32.ofNat n = z) {pc : Nat} {Ls : Array Slot} {st : List Value} (hd : decode c.code pc = .ok (.arraylength, 1)) (t : State)
    (k : Steps p.tables e below (T.setTop (mkF m (pc + 1) Ls (.int z :: st))) t) : Steps p.tables e below (T.setTop (mkF m pc Ls (.ref a :: st))) t := by
  obtain ⟨_, cl, h1, r⟩ := A
  refine X.arraylength hx (by rw [eT]; exact h1.1) (State.isArrayOf_alike hZ.alike h1.2.1) (g := mkF m pc Ls (.ref a :: st)) rfl rfl hd _ ?_
  have : cl.slots.size = n := by rw [← hn, ← r]; simp
  rw [this, show n.toInt32 = z from hz]; exact k
theorem own_iaload (X : Stand p l e R s m args below meth c T locs cells slots) (hx : p.tables.exec = Jvm.exec) (hZ : Z.Warmed39 s.vm) (eT : T.heap = h) (A : own_Ar Z h a .int vs) {j : Int32} {i : Nat} {v : Value} (h0 : ¬ j < 0) (hj : j.toNatClampNeg = i) (hv : vs[i]? = some v) {pc : Nat} {Ls : Array Slot} {st : List Value} (hd : decode c.code pc = .ok (.iaload, 1)) (t : State)
    (k : Steps p.tables e below (T.setTop (mkF m (pc + 1) Ls (v :: st))) t) : Steps p.tables e below (T.setTop (mkF m pc Ls (.int j :: .ref a :: st))) t := by
  obtain ⟨z, cl, h1, r⟩ := A
  exact X.iaload hx (by rw [eT]; exact h1.1) (State.isArrayOf_alike hZ.alike h1.2.1) h1.2.2 (own_in r h0 hj (List.getElem?_eq_some_iff.mp hv).1) (own_at r hj hv) (g := mkF m pc Ls (.int j :: .ref a :: st)) rfl rfl hd _ k
theorem own_laload (X : Stand p l e R s m args below meth c T locs cells slots) (hx : p.tables.exec = Jvm.exec) (hZ : Z.Warmed39 s.vm) (eT : T.heap = h) (A : own_Ar Z h a .long vs) {j : Int32} {i : Nat} {v : Value} (h0 : ¬ j < 0) (hj : j.toNatClampNeg = i) (hv : vs[i]? = some v) {pc : Nat} {Ls : Array Slot} {st : List Value} (hd : decode c.code pc = .ok (.laload, 1)) (t : State)
    (k : Steps p.tables e below (T.setTop (mkF m (pc + 1) Ls (v :: st))) t) : Steps p.tables e below (T.setTop (mkF m pc Ls (.int j :: .ref a :: st))) t := by
  obtain ⟨z, cl, h1, r⟩ := A
  exact X.laload hx (by rw [eT]; exact h1.1) (State.isArrayOf_alike hZ.alike h1.2.1) h1.2.2 (own_in r h0 hj (List.getElem?_eq_some_iff.mp hv).1) (own_at r hj hv) (g := mkF m pc Ls (.int j :: .ref a :: st)) rfl rfl hd _ k
theorem own_baload (X : Stand p l e R s m args below meth c T locs cells slots) (hx : p.tables.exec = Jvm.exec) (hZ : Z.Warmed39 s.vm) (eT : T.heap = h) (A : own_Ar Z h a .byte vs) {j : Int32} {i : Nat} {v : Value} (h0 : ¬ j < 0) (hj : j.toNatClampNeg = i) (hv : vs[i]? = some v) {pc : Nat} {Ls : Array Slot} {st : List Value} (hd : decode c.code pc = .ok (.baload, 1)) (t : State)
    (k : Steps p.tables e below (T.setTop (mkF m (pc + 1) Ls (v :: st))) t) : Steps p.tables e below (T.setTop (mkF m pc Ls (.int j :: .ref a :: st))) t := by
  obtain ⟨z, cl, h1, r⟩ := A
  exact X.baloadBytes hx (by rw [eT]; exact h1.1) (State.isArrayOf_alike hZ.alike h1.2.1) h1.2.2 (own_in r h0 hj (List.getElem?_eq_some_iff.mp hv).1) (own_at r hj hv) (g := mkF m pc Ls (.int j :: .ref a :: st)) rfl rfl hd _ k
theorem own_aaload (X : Stand p l e R s m args below meth c T locs cells slots) (hx : p.tables.exec = Jvm.exec) (hZ : Z.Warmed39 s.vm) (eT : T.heap = h) (A : own_Ar Z h a ty vs) (hty : ty.isReference = true) {j : Int32} {i : Nat} {v : Value} (h0 : ¬ j < 0) (hj : j.toNatClampNeg = i) (hv : vs[i]? = some v) {pc : Nat} {Ls : Array Slot} {st : List Value} (hd : decode c.code pc = .ok (.aaload, 1)) (t : State)
    (k : Steps p.tables e below (T.setTop (mkF m (pc + 1) Ls (v :: st))) t) : Steps p.tables e below (T.setTop (mkF m pc Ls (.int j :: .ref a :: st))) t := by
  obtain ⟨z, cl, h1, r⟩ := A
  exact X.aaload hx (by rw [eT]; exact h1.1) (State.isArrayOf_alike hZ.alike h1.2.1) hty h1.2.2 (own_in r h0 hj (List.getElem?_eq_some_iff.mp hv).1) (own_at r hj hv) (g := mkF m pc Ls (.int j :: .ref a :: st)) rfl rfl hd _ k
theorem own_iastore (X : Stand p l e R s m args below meth c T locs cells slots) (hx : p.tables.exec = Jvm.exec) (hZ : Z.Warmed39 s.vm) (eT : T.heap = h) (A : own_Ar Z h a .int vs) {j x : Int32} {i : Nat} (h0 : ¬ j < 0) (hj : j.toNatClampNeg = i) (hi : i < vs.length) {pc : Nat} {Ls : Array Slot} {st : List Value} (hd : decode c.code pc = .ok (.iastore, 1)) :
    ∃ T' h', Stand p l e R s m args below meth c T' (locs ++ [⟨a, i⟩]) cells slots ∧ T'.heap = h' ∧ Wr h h' a i (.int x) ∧ own_Ar Z h' a .int (vs.set i (.int x)) ∧ ∀ t, Steps p.tables e below (T'.setTop (mkF m (pc + 1) Ls st)) t → Steps p.tables e below (T.setTop (mkF m pc Ls (.int x :: .int j :: .ref a :: st))) t := by
  have A' := A
  obtain ⟨z, cl, h1, r⟩ := A
  obtain ⟨T', h', X', e', W, k⟩ := stI X hx hZ eT h1 (j := j) (x := x) (own_in r h0 hj hi) (g := mkF m pc Ls (.int x :: .int j :: .ref a :: st)) rfl rfl hd
  rw [hj] at X' W
  exact ⟨T', h', X', e', W, A'.set W, k⟩
theorem own_lastore (X : Stand p l e R s m args below meth c T locs cells slots) (hx : p.tables.exec = Jvm.exec) (hZ : Z.Warmed39 s.vm) (eT : T.heap = h) (A : own_Ar Z h a .long vs) {j : Int32} {x : Int64} {i : Nat} (h0 : ¬ j < 0) (hj : j.toNatClampNeg = i) (hi : i < vs.length) {pc : Nat} {Ls : Array Slot} {st : List Value} (hd : decode c.code pc = .ok (.lastore, 1)) :
    ∃ T' h', Stand p l e R s m args below meth c T' (locs ++ [⟨a, i⟩]) cells slots ∧ T'.heap = h' ∧ Wr h h' a i (.long x) ∧ own_Ar Z h' a .long (vs.set i (.long x)) ∧ ∀ t, Steps p.tables e below (T'.setTop (mkF m (pc + 1) Ls st)) t → Steps p.tables e below (T.setTop (mkF m pc Ls (.long x :: .int j :: .ref a :: st))) t := by
  have A' := A
  obtain ⟨z, cl, h1, r⟩ := A
  obtain ⟨T', h', X', e', W, k⟩ := stJ X hx hZ eT h1 (j := j) (x := x) (own_in r h0 hj hi) (g := mkF m pc Ls (.long x :: .int j :: .ref a :: st)) rfl rfl hd
  rw [hj] at X' W
  exact ⟨T', h', X', e', W, A'.set W, k⟩
theorem own_bastore (X : Stand p l e R s m args below meth c T locs cells slots) (hx : p.tables.exec = Jvm.exec) (hZ : Z.Warmed39 s.vm) (eT : T.heap = h) (A : own_Ar Z h a .byte vs) {j x : Int32} {i : Nat} (h0 : ¬ j < 0) (hj : j.toNatClampNeg = i) (hi : i < vs.length) {pc : Nat} {Ls : Array Slot} {st : List Value} (hd : decode c.code pc = .ok (.bastore, 1)) :
    ∃ T' h', Stand p l e R s m args below meth c T' (locs ++ [⟨a, i⟩]) cells slots ∧ T'.heap = h' ∧ Wr h h' a i (.int (nar .byte x)) ∧ own_Ar Z h' a .byte (vs.set i (.int (nar .byte x))) ∧ ∀ t, Steps p.tables e below (T'.setTop (mkF m (pc + 1) Ls st)) t → Steps p.tables e below (T.setTop (mkF m pc Ls (.int x :: .int j :: .ref a :: st))) t := by
  have A' := A
  obtain ⟨z, cl, h1, r⟩ := A
  obtain ⟨T', h', X', e', W, k⟩ := stB X hx hZ eT h1 (j := j) (x := x) (own_in r h0 hj hi) (g := mkF m pc Ls (.int x :: .int j :: .ref a :: st)) rfl rfl hd
  rw [hj] at X' W
  exact ⟨T', h', X', e', W, A'.set W, k⟩
end OwnArr

/-- the array at a is one of int[] -/
def own_Bl (Z : State) (h : Heap) (a : Addr) : Prop := ∃ cl : Cell, h[a]? = some cl ∧ OvrA Z cl.cls .int "[I"
section OwnGrid
variable {p : Program} {l : Launch} {e : Env} {R : Room} {s : State} {m : MethodId} {args : Array Value} {below : List Frame} {meth : Method} {c : Code} {T : State} {locs : List Loc} {cells slots : Nat} {Z : State} {h h' : Heap} {a b : Addr} {vs : List Value} {ws : List Addr} {a0 : Array Value}
theorem own_Bl.ext (B : own_Bl Z h a) (E : Ext h h') : own_Bl Z h' a := by obtain ⟨cl, h1, r⟩ := B; exact ⟨cl, E.2 _ _ h1, r⟩
theorem own_Bl.keep (B : own_Bl Z h a) (K : Keep h h' ws) : own_Bl Z h' a := by
  obtain ⟨cl, h1, r⟩ := B
  obtain ⟨c', q1, q2, -⟩ := K.2.2 _ _ h1
  exact ⟨c', q1, by rw [q2]; exact r⟩
theorem own_newI (X : Stand p l e R s m args below meth c T locs cells slots) (hx : p.tables.exec = Jvm.exec) (hZ : Z.Warmed39 s.vm) (w : (Cond.arrayClass .int).before a0 Z = true) (eT : T.heap = h) {g : JFrame} (hg : g.method = m) (hd : decode c.code g.pc = .ok (.newarray .int, 2)) {n : Int32} {rest : List Value} (hs : g.stack = .int n :: rest)
    (hn : ¬ n < 0) {cap : Nat} (hcap : n.toNatClampNeg ≤ cap) (hb : cap * 8 ≤ 536870912) (hc : cells + 1 ≤ R.cells) (hl : slots + cap ≤ R.slots) :
    ∃ T' h' cA, Stand p l e R s m args below meth c T' locs (cells + 1) (slots + cap) ∧ T'.heap = h' ∧ Ext h h' ∧ Arr Z h' h.size (newA cA .int n) .int ∧ Exa Z h' h.size "[I" ∧
      ∀ target, Steps p.tables e below (T'.setTop { g with pc := g.pc + 2, stack := .ref h.size :: rest }) target → Steps p.tables e below (T.setTop g) target := by
  have hcb : componentBytes (newarray.typeOf .int) ≤ 8 := by decide
  obtain ⟨cA, kA, comp, h1, h2, h3, X', st⟩ := X.newarrayPrim (atype := .int) hx (mvA hZ w) hg hd hs hn (Nat.le_trans (Nat.mul_le_mul hcap hcb) hb) hc (by omega)
  subst eT
  rw [hZ.alike.findClass] at h1
  obtain ⟨kZ, z1, -⟩ := Vm.findClass_spec h1
  obtain ⟨k', z2, z3⟩ := hZ.alike.2.2 _ _ z1
  cases h2.symm.trans z2
  have h3' : kA.kind = .array comp .int := h3
  have A : Arr Z (T.heap.push (newA cA .int n)) T.heap.size (newA cA .int n) .int := ⟨by simp, ⟨by simp [newA], kZ, z1, comp, by rw [← h3', z3]⟩, by simp [newA]⟩
  exact ⟨_, _, cA, X'.more (Nat.le_refl _) (by omega), rfl, ext_of fun a q => Array.getElem?_push_lt q |>.trans (Array.getElem?_eq_getElem q).symm, A, exa_arr A (show Z.vm.findClass "[I" = some cA from h1) rfl, st⟩
theorem own_aastore (X : Stand p l e R s m args below meth c T locs cells slots) (hx : p.tables.exec = Jvm.exec) (hZ : Z.Warmed39 s.vm) (eT : T.heap = h) (A : own_Ar Z h a (.array .int) vs) (B : own_Bl Z h a) (I : Ins Z h b "[I" true) {j : Int32} {i : Nat} (h0 : ¬ j < 0) (hj : j.toNatClampNeg = i) (hi : i < vs.length) {pc : Nat} {Ls : Array Slot} {st : List Value} (hd : decode c.code pc = .ok (.aastore, 1)) :
    ∃ T' h', Stand p l e R s m args below meth c T' (locs ++ [⟨a, i⟩]) cells slots ∧ T'.heap = h' ∧ Wr h h' a i (.ref b) ∧ own_Ar Z h' a (.array .int) (vs.set i (.ref b)) ∧ ∀ t, Steps p.tables e below (T'.setTop (mkF m (pc + 1) Ls st)) t → Steps p.tables e below (T.setTop (mkF m pc Ls (.ref b :: .int j :: .ref a :: st))) t := by
  have A' := A
  obtain ⟨z, cl, h1, r⟩ := A
  obtain ⟨cl', q1, O⟩ := B
  cases h1.1.symm.trans q1
  obtain ⟨T', h', X', e', W, k⟩ := stR X hx hZ eT h1 (j := j) (v := .ref b) (own_in r h0 hj hi) rfl (Sto.ofVA h1 rfl O I) (g := mkF m pc Ls (.ref b :: .int j :: .ref a :: st)) rfl rfl hd
  rw [hj] at X' W
  exact ⟨T', h', X', e', W, A'.set W, k⟩
end OwnGrid
theorem own_ls {vs : List Value} {n i : Nat} {v : Value} (h : vs.length = n) : (vs.set i v).length = n := by rw [List.length_set]; exact h
theorem own_gs {vs : List Value} {n i : Nat} {v : Value} (h : vs.length = n) (hi : i < n) : (vs.set i v)[i]? = some v := by rw [List.getElem?_set_self (by omega)]
theorem own_gn {vs : List Value} {i j : Nat} {v w : Value} (h : i ≠ j) (q : vs[j]? = some w) : (vs.set i v)[j]? = some w := by rw [List.getElem?_set_ne h]; exact q
theorem own_rem3 (x : Int64) : ((x &&& (9223372036854775807 : Int64)) - ((x &&& (9223372036854775807 : Int64)) / (3 : Int64)) * (3 : Int64)) = 0 ∨ ((x &&& (9223372036854775807 : Int64)) - ((x &&& (9223372036854775807 : Int64)) / (3 : Int64)) * (3 : Int64)) = 1 ∨ ((x &&& (9223372036854775807 : Int64)) - ((x &&& (9223372036854775807 : Int64)) / (3 : Int64)) * (3 : Int64)) = 2 := by
  have h1 : (x &&& (9223372036854775807 : Int64)).toInt = x.toInt % 2 ^ 63 := Jvm.Kit.i64_mask x 9223372036854775807 (k := 63) (by decide) (by decide)
  have h2 := Jvm.Kit.i64_rem_nonneg (x := x &&& (9223372036854775807 : Int64)) (y := 3) (by omega)
  rw [show (3 : Int64).toInt = 3 from rfl] at h2
  simp only [← Int64.toInt_inj, show (0 : Int64).toInt = 0 from rfl, show (1 : Int64).toInt = 1 from rfl, show (2 : Int64).toInt = 2 from rfl]
  omega
theorem d1_0 : decode prog_12_method_1_code 0 = .ok (.aload_n 0, 1) := by decide +kernel
theorem d1_1 : decode prog_12_method_1_code 1 = .ok (.invokespecial 3, 3) := by decide +kernel
theorem d1_4 : decode prog_12_method_1_code 4 = .ok (.aload_n 0, 1) := by decide +kernel
theorem d1_5 : decode prog_12_method_1_code 5 = .ok (.iconst 1, 1) := by decide +kernel
theorem d1_6 : decode prog_12_method_1_code 6 = .ok (.anewarray 9, 3) := by decide +kernel
theorem d1_9 : decode prog_12_method_1_code 9 = .ok (.putfield 11, 3) := by decide +kernel
theorem d1_12 : decode prog_12_method_1_code 12 = .ok (.return_, 1) := by decide +kernel
theorem pn_0 : plainName "com/example/surfeit/surfeit/IntBlocks" = true := by first | (simp [plainName, overriddenIn]; done) | decide +kernel
theorem pd_0 : parseMethodDescriptor "()V" = some ⟨[], none⟩ := by decide +kernel
theorem d3_0 : decode prog_12_method_5_code 0 = .ok (.aload_n 0, 1) := by decide +kernel
theorem d3_1 : decode prog_12_method_5_code 1 = .ok (.getfield 25, 3) := by decide +kernel
theorem d3_4 : decode prog_12_method_5_code 4 = .ok (.bipush 16, 2) := by decide +kernel
theorem d3_6 : decode prog_12_method_5_code 6 = .ok (.lushr, 1) := by decide +kernel
theorem d3_7 : decode prog_12_method_5_code 7 = .ok (.l2i, 1) := by decide +kernel
theorem d3_8 : decode prog_12_method_5_code 8 = .ok (.istore_n 2, 1) := by decide +kernel
theorem d3_9 : decode prog_12_method_5_code 9 = .ok (.aload_n 0, 1) := by decide +kernel
theorem d3_10 : decode prog_12_method_5_code 10 = .ok (.getfield 25, 3) := by decide +kernel
theorem d3_13 : decode prog_12_method_5_code 13 = .ok (.l2i, 1) := by decide +kernel
theorem d3_14 : decode prog_12_method_5_code 14 = .ok (.ldc 29, 2) := by decide +kernel
theorem d3_16 : decode prog_12_method_5_code 16 = .ok (.iand, 1) := by decide +kernel
theorem d3_17 : decode prog_12_method_5_code 17 = .ok (.istore_n 3, 1) := by decide +kernel
theorem d3_18 : decode prog_12_method_5_code 18 = .ok (.iload_n 3, 1) := by decide +kernel
theorem d3_19 : decode prog_12_method_5_code 19 = .ok (.ifCond .ne 43, 3) := by decide +kernel
theorem d3_22 : decode prog_12_method_5_code 22 = .ok (.iload_n 2, 1) := by decide +kernel
theorem d3_23 : decode prog_12_method_5_code 23 = .ok (.aload_n 0, 1) := by decide +kernel
theorem d3_24 : decode prog_12_method_5_code 24 = .ok (.getfield 11, 3) := by decide +kernel
theorem d3_27 : decode prog_12_method_5_code 27 = .ok (.arraylength, 1) := by decide +kernel
theorem d3_28 : decode prog_12_method_5_code 28 = .ok (.if_icmp .ne 24, 3) := by decide +kernel
theorem d3_31 : decode prog_12_method_5_code 31 = .ok (.aload_n 0, 1) := by decide +kernel
theorem d3_32 : decode prog_12_method_5_code 32 = .ok (.aload_n 0, 1) := by decide +kernel
theorem d3_33 : decode prog_12_method_5_code 33 = .ok (.getfield 11, 3) := by decide +kernel
theorem d3_36 : decode prog_12_method_5_code 36 = .ok (.iconst 2, 1) := by decide +kernel
theorem d3_37 : decode prog_12_method_5_code 37 = .ok (.aload_n 0, 1) := by decide +kernel
theorem d3_38 : decode prog_12_method_5_code 38 = .ok (.getfield 11, 3) := by decide +kernel
theorem d3_41 : decode prog_12_method_5_code 41 = .ok (.arraylength, 1) := by decide +kernel
theorem d3_42 : decode prog_12_method_5_code 42 = .ok (.imul, 1) := by decide +kernel
theorem d3_43 : decode prog_12_method_5_code 43 = .ok (.invokestatic 30, 3) := by decide +kernel
theorem d3_46 : decode prog_12_method_5_code 46 = .ok (.checkcast 36, 3) := by decide +kernel
theorem d3_49 : decode prog_12_method_5_code 49 = .ok (.putfield 11, 3) := by decide +kernel
theorem d3_52 : decode prog_12_method_5_code 52 = .ok (.aload_n 0, 1) := by decide +kernel
theorem d3_53 : decode prog_12_method_5_code 53 = .ok (.getfield 11, 3) := by decide +kernel
theorem d3_56 : decode prog_12_method_5_code 56 = .ok (.iload_n 2, 1) := by decide +kernel
theorem d3_57 : decode prog_12_method_5_code 57 = .ok (.ldc 37, 2) := by decide +kernel
theorem d3_59 : decode prog_12_method_5_code 59 = .ok (.newarray .int, 2) := by decide +kernel
theorem d3_61 : decode prog_12_method_5_code 61 = .ok (.aastore, 1) := by decide +kernel
theorem d3_62 : decode prog_12_method_5_code 62 = .ok (.aload_n 0, 1) := by decide +kernel
theorem d3_63 : decode prog_12_method_5_code 63 = .ok (.getfield 11, 3) := by decide +kernel
theorem d3_66 : decode prog_12_method_5_code 66 = .ok (.iload_n 2, 1) := by decide +kernel
theorem d3_67 : decode prog_12_method_5_code 67 = .ok (.aaload, 1) := by decide +kernel
theorem d3_68 : decode prog_12_method_5_code 68 = .ok (.iload_n 3, 1) := by decide +kernel
theorem d3_69 : decode prog_12_method_5_code 69 = .ok (.iload_n 1, 1) := by decide +kernel
theorem d3_70 : decode prog_12_method_5_code 70 = .ok (.iastore, 1) := by decide +kernel
theorem d3_71 : decode prog_12_method_5_code 71 = .ok (.aload_n 0, 1) := by decide +kernel
theorem d3_72 : decode prog_12_method_5_code 72 = .ok (.dup, 1) := by decide +kernel
theorem d3_73 : decode prog_12_method_5_code 73 = .ok (.getfield 25, 3) := by decide +kernel
theorem d3_76 : decode prog_12_method_5_code 76 = .ok (.lconst 1, 1) := by decide +kernel
theorem d3_77 : decode prog_12_method_5_code 77 = .ok (.ladd, 1) := by decide +kernel
theorem d3_78 : decode prog_12_method_5_code 78 = .ok (.putfield 25, 3) := by decide +kernel
theorem d3_81 : decode prog_12_method_5_code 81 = .ok (.return_, 1) := by decide +kernel
theorem d4_0 : decode prog_12_method_4_code 0 = .ok (.aload_n 0, 1) := by decide +kernel
theorem d4_1 : decode prog_12_method_4_code 1 = .ok (.getfield 11, 3) := by decide +kernel
theorem d4_4 : decode prog_12_method_4_code 4 = .ok (.lload_n 1, 1) := by decide +kernel
theorem d4_5 : decode prog_12_method_4_code 5 = .ok (.bipush 16, 2) := by decide +kernel
theorem d4_7 : decode prog_12_method_4_code 7 = .ok (.lushr, 1) := by decide +kernel
theorem d4_8 : decode prog_12_method_4_code 8 = .ok (.l2i, 1) := by decide +kernel
theorem d4_9 : decode prog_12_method_4_code 9 = .ok (.aaload, 1) := by decide +kernel
theorem d4_10 : decode prog_12_method_4_code 10 = .ok (.lload_n 1, 1) := by decide +kernel
theorem d4_11 : decode prog_12_method_4_code 11 = .ok (.l2i, 1) := by decide +kernel
theorem d4_12 : decode prog_12_method_4_code 12 = .ok (.ldc 29, 2) := by decide +kernel
theorem d4_14 : decode prog_12_method_4_code 14 = .ok (.iand, 1) := by decide +kernel
theorem d4_15 : decode prog_12_method_4_code 15 = .ok (.iload_n 3, 1) := by decide +kernel
theorem d4_16 : decode prog_12_method_4_code 16 = .ok (.iastore, 1) := by decide +kernel
theorem d4_17 : decode prog_12_method_4_code 17 = .ok (.return_, 1) := by decide +kernel
theorem d5_0 : decode prog_12_method_3_code 0 = .ok (.aload_n 0, 1) := by decide +kernel
theorem d5_1 : decode prog_12_method_3_code 1 = .ok (.getfield 11, 3) := by decide +kernel
theorem d5_4 : decode prog_12_method_3_code 4 = .ok (.lload_n 1, 1) := by decide +kernel
theorem d5_5 : decode prog_12_method_3_code 5 = .ok (.bipush 16, 2) := by decide +kernel
theorem d5_7 : decode prog_12_method_3_code 7 = .ok (.lushr, 1) := by decide +kernel
theorem d5_8 : decode prog_12_method_3_code 8 = .ok (.l2i, 1) := by decide +kernel
theorem d5_9 : decode prog_12_method_3_code 9 = .ok (.aaload, 1) := by decide +kernel
theorem d5_10 : decode prog_12_method_3_code 10 = .ok (.lload_n 1, 1) := by decide +kernel
theorem d5_11 : decode prog_12_method_3_code 11 = .ok (.l2i, 1) := by decide +kernel
theorem d5_12 : decode prog_12_method_3_code 12 = .ok (.ldc 29, 2) := by decide +kernel
theorem d5_14 : decode prog_12_method_3_code 14 = .ok (.iand, 1) := by decide +kernel
theorem d5_15 : decode prog_12_method_3_code 15 = .ok (.iaload, 1) := by decide +kernel
theorem d5_16 : decode prog_12_method_3_code 16 = .ok (.ireturn, 1) := by decide +kernel
theorem ef_rm1 (m : MethodId) (r : Addr) : entryFrame m #[(.ref r)] 1 = mkF m 0 #[.val (.ref r)] [] := by first | (simp [entryFrame, mkF, argsToLocals, Value.category]; done) | rfl
def Q1 (Z : State) (r : Addr)  (h0 : Heap) (n0 : Nat) (v : Option Value) (h : Heap) (L : List Loc) : Prop := v = none ∧ Fr n0 L ∧ Keep h0 h [r] ∧ ∃ ba, h0.size ≤ ba ∧ r ≠ ba ∧ Fld Z h r "com/example/surfeit/surfeit/IntBlocks" "blocks" "[[I" (.ref ba) ∧ Fld Z h r "com/example/surfeit/surfeit/IntBlocks" "length" "J" (.long (0 : Int64)) ∧ own_Ar Z h ba (.array .int) [.null] ∧ own_Bl Z h ba
set_option maxRecDepth 65536 in
set_option maxHeartbeats 40000000 in
theorem rm1 (l : Launch) (Z : State) (a0 : Array Value) (hw : ∀ d ∈ tables_1, d.before a0 Z = true) (ws : List Jvm.Cond) (r : Addr)  (h0 : Heap) (n0 : Nat) (Z0 : n0 ≤ h0.size) (E0 : Exa Z h0 r "com/example/surfeit/surfeit/IntBlocks") (FB0 : Fld Z h0 r "com/example/surfeit/surfeit/IntBlocks" "blocks" "[[I" .null) (FL0 : Fld Z h0 r "com/example/surfeit/surfeit/IntBlocks" "length" "J" (.long (0 : Int64))) (g0 : n0 ≤ r) :
    MetFree l (⟨"com/example/surfeit/surfeit/IntBlocks", "<init>", "()V"⟩ : MethodName) (head1 (Jvm.Cond.code (⟨"com/example/surfeit/surfeit/IntBlocks", "<init>", "()V"⟩ : MethodName) prog_12_method_1_code 1 none :: ws) ({ frames := 1, cells := 1, slots := 1, locals := 12 } : Room)) (fun a U => a = #[(.ref r)] ∧ Z.Warmed39 U.vm ∧ U.heap = h0) (fun _ _ _ _ _ => True) (fun _ U o U' => ∃ v L, o = .returned v ∧ Q1 Z r  h0 n0 v U'.heap L ∧ FrameEnd U o U' L ({ frames := 1, cells := 1, slots := 1, locals := 12 } : Room).cells ({ frames := 1, cells := 1, slots := 1, locals := 12 } : Room).slots) := by
  refine MetFree.of_bodySF (plainFor_of_name pn_0) hisR ?_
  intro p e s m args below meth c s₁ Bd hml0 hP hK
  obtain ⟨rfl, hZ, hh⟩ := hP
  have hx := Bd.exec
  have hby := Bd.bytes
  have hlk : meth.locks = false := BodyLoose.notSynchronized Bd
  have hret := Bd.returns
  have hml : c.maxLocals = 1 := hml0
  have hown : s.vm.findClass "com/example/surfeit/surfeit/IntBlocks" = some m.cls := findClass_of_methodNamed Bd.named
  have hnm := (name_of_methodNamed Bd.named Bd.method).1
  have X0 : Stand p l e ({ frames := 1, cells := 1, slots := 1, locals := 12 } : Room) s m #[(.ref r)] below meth c s₁ [] 0 0 := Stand.of_body Bd
  have e0 : s₁.heap = h0 := by rw [← hh, Bd.state]; rfl
  have N0 := Fr.nil n0
  show own_Ends p e below s 1 1 (Q1 Z r  h0 n0) (s₁.setTop (entryFrame m #[(.ref r)] 1))
  refine own_step (fun t k => castTop (ef_rm1 m r) k) ?_
  show own_Ends p e below s _ _ _ (s₁.setTop (mkF m 0 #[.val (.ref r)] []))
  refine own_step (fun _ kc_ => XS.aloadN X0.here hx rfl (hb hby d1_0) rfl rfl kc_) ?_
  show own_Ends p e below s _ _ _ (s₁.setTop (mkF m 1 #[.val (.ref r)] [(.ref r)]))
  obtain ⟨T1, X1, e1, st1⟩ := initO X0 hx hZ hown (hw _ (List.mem_of_getElem? (i := 6) rfl)) (hw _ (List.mem_of_getElem? (i := 7) rfl)) (hw _ (List.mem_of_getElem? (i := 8) rfl)) e0 (g := (mkF m 1 #[.val (.ref r)] [(.ref r)])) rfl (by rw [hml]; rfl) rfl (hb hby d1_1) (by decide) (W := 0) (by show 2 * 0 + _ ≤ _; exact Nat.le_of_eq rfl) (by decide)
  refine own_step (fun _ kc_ => st1 _ kc_) ?_
  show own_Ends p e below s _ _ _ (T1.setTop (mkF m 4 #[.val (.ref r)] []))
  refine own_step (fun _ kc_ => XS.aloadN X1.here hx rfl (hb hby d1_4) rfl rfl (XS.iconst X1.here hx rfl (hb hby d1_5) kc_)) ?_
  show own_Ends p e below s _ _ _ (T1.setTop (mkF m 6 #[.val (.ref r)] [(.int (1 : Int32)), (.ref r)]))
  obtain ⟨T2, h2, k2, X2, e2, E2, A2, Ex2, O2, st2⟩ := newRA X1 hx hZ hown (ty := .int) (C := "[I") rfl (hw _ (List.mem_of_getElem? (i := 9) rfl)) (hw _ (List.mem_of_getElem? (i := 10) rfl)) e1 (g := (mkF m 6 #[.val (.ref r)] [(.int (1 : Int32)), (.ref r)])) rfl (hb hby d1_6) rfl (by decide) (cap := 1) (by decide) (by decide) (by decide : 0 + 1 ≤ _) (by decide : 0 + 1 ≤ _) (ad := "[[I") rfl
  obtain ⟨b2, g2⟩ : ∃ z, z = h0.size := ⟨_, rfl⟩
  rw [← g2] at A2 Ex2 st2
  have ne_r_b2 : r ≠ b2 := Nat.ne_of_lt (Nat.lt_of_lt_of_le (E0).lt (Nat.le_of_eq g2.symm))
  have n0_b2 : n0 ≤ b2 := Nat.le_trans Z0 (Nat.le_of_eq g2.symm)
  have h0_b2 : h0.size ≤ b2 := Nat.le_trans ((Keep.refl h0 [r])).1 (Nat.le_of_eq g2.symm)
  have E_r_2 := (E0).ext E2
  have F_r_blocks_2 := (FB0).ext E2
  have F_r_length_2 := (FL0).ext E2
  have K2 := ((Keep.refl h0 [r])).ext E2
  have Zs2 := Nat.le_trans Z0 E2.1
  have A_b2 : own_Ar Z h2 b2 (.array .int) [.null] := own_Ar.new A2 (by decide)
  have B_b2 : own_Bl Z h2 b2 := ⟨_, A2.1, O2⟩
  refine own_step (fun _ kc_ => st2 _ kc_) ?_
  show own_Ends p e below s _ _ _ (T2.setTop (mkF m 9 #[.val (.ref r)] [(.ref b2), (.ref r)]))
  obtain ⟨T3, h3, X3, e3, W3, st3⟩ := putF X2 hx hZ hown (host := "") (Or.inl (hw _ (List.mem_of_getElem? (i := 11) rfl))) Via.refl e2 F_r_blocks_2 E_r_2 (Or.inl (hw _ (List.mem_of_getElem? (i := 12) rfl))) (hw _ (List.mem_of_getElem? (i := 1) rfl)) (ty := (.array (.array .int))) (by decide) rfl rfl (g := (mkF m 9 #[.val (.ref r)] [(.ref b2), (.ref r)])) rfl rfl (hb hby d1_9)
  have E_r_3 := (E_r_2).wr W3
  have F_r_blocks_3 := (F_r_blocks_2).same W3
  have F_r_length_3 := (F_r_length_2).other W3 (Or.inr (slot_ne (Or.inl (hw _ (List.mem_of_getElem? (i := 19) rfl))) (Or.inl (hw _ (List.mem_of_getElem? (i := 12) rfl))) (by decide) (t := .long) (t' := (.array (.array .int))) (by decide) (by decide)))
  have A_b2_3 := (A_b2).other W3 (Ne.symm ne_r_b2)
  have K3 := (K2).wr W3 (Or.inl (List.mem_of_getElem? (i := 0) rfl))
  have Zs3 := Nat.le_trans Zs2 (Nat.le_of_eq W3.size.symm)
  have N3 := Fr.snoc X3 N0 g0
  refine own_step (fun _ kc_ => st3 _ kc_) ?_
  show own_Ends p e below s _ _ _ (T3.setTop (mkF m 12 #[.val (.ref r)] []))
  have Bk := B_b2.keep (Keep.of_wr W3)
  exact own_retV X3 hx hret hlk (hb hby d1_12) (by decide) (by decide) (by rw [e3]; exact ⟨rfl, N3, K3, b2, h0_b2, ne_r_b2, F_r_blocks_3, F_r_length_3, A_b2_3, Bk⟩)
theorem ef_rmA0 (m : MethodId) (r : Addr) (x : Int32) : entryFrame m #[(.ref r), (.int x)] 4 = mkF m 0 #[.val (.ref r), .val (.int x), .unset, .unset] [] := by first | (simp [entryFrame, mkF, argsToLocals, Value.category]; done) | rfl
def QA0 (Z : State) (r : Addr) (x : Int32) (ba : Addr) (h0 : Heap) (n0 : Nat) (v : Option Value) (h : Heap) (L : List Loc) : Prop := v = none ∧ Fr n0 L ∧ Keep h0 h [r, ba] ∧ ∃ bb, h0.size ≤ bb ∧ r ≠ bb ∧ ba ≠ bb ∧ Fld Z h r "com/example/surfeit/surfeit/IntBlocks" "blocks" "[[I" (.ref ba) ∧ Fld Z h r "com/example/surfeit/surfeit/IntBlocks" "length" "J" (.long (1 : Int64)) ∧ own_Ar Z h ba (.array .int) [.ref bb] ∧ ∃ R0 : List Value, R0.length = 65536 ∧ own_Ar Z h bb .int (R0.set 0 (.int x))
set_option maxRecDepth 65536 in
set_option maxHeartbeats 40000000 in
theorem rmA0 (l : Launch) (Z : State) (a0 : Array Value) (hw : ∀ d ∈ tables_1, d.before a0 Z = true) (ws : List Jvm.Cond) (r : Addr) (x : Int32) (ba : Addr) (h0 : Heap) (n0 : Nat) (Z0 : n0 ≤ h0.size) (E0 : Exa Z h0 r "com/example/surfeit/surfeit/IntBlocks") (FB0 : Fld Z h0 r "com/example/surfeit/surfeit/IntBlocks" "blocks" "[[I" (.ref ba)) (FL0 : Fld Z h0 r "com/example/surfeit/surfeit/IntBlocks" "length" "J" (.long (0 : Int64))) (A0 : own_Ar Z h0 ba (.array .int) [.null]) (B0 : own_Bl Z h0 ba) (g0 : n0 ≤ r) (g1 : n0 ≤ ba) (ne0 : r ≠ ba) :
    MetFree l (⟨"com/example/surfeit/surfeit/IntBlocks", "add", "(I)V"⟩ : MethodName) (head1 (Jvm.Cond.code (⟨"com/example/surfeit/surfeit/IntBlocks", "add", "(I)V"⟩ : MethodName) prog_12_method_5_code 4 none :: ws) ({ frames := 0, cells := 1, slots := 65536, locals := 0 } : Room)) (fun a U => a = #[(.ref r), (.int x)] ∧ Z.Warmed39 U.vm ∧ U.heap = h0) (fun _ _ _ _ _ => True) (fun _ U o U' => ∃ v L, o = .returned v ∧ QA0 Z r x ba h0 n0 v U'.heap L ∧ FrameEnd U o U' L ({ frames := 0, cells := 1, slots := 65536, locals := 0 } : Room).cells ({ frames := 0, cells := 1, slots := 65536, locals := 0 } : Room).slots) := by
  refine MetFree.of_bodySF (plainFor_of_name pn_0) hisR ?_
  intro p e s m args below meth c s₁ Bd hml0 hP hK
  obtain ⟨rfl, hZ, hh⟩ := hP
  have hx := Bd.exec
  have hby := Bd.bytes
  have hlk : meth.locks = false := BodyLoose.notSynchronized Bd
  have hret := Bd.returns
  have hml : c.maxLocals = 4 := hml0
  have hown : s.vm.findClass "com/example/surfeit/surfeit/IntBlocks" = some m.cls := findClass_of_methodNamed Bd.named
  have hnm := (name_of_methodNamed Bd.named Bd.method).1
  have X0 : Stand p l e ({ frames := 0, cells := 1, slots := 65536, locals := 0 } : Room) s m #[(.ref r), (.int x)] below meth c s₁ [] 0 0 := Stand.of_body Bd
  have e0 : s₁.heap = h0 := by rw [← hh, Bd.state]; rfl
  have N0 := Fr.nil n0
  show own_Ends p e below s 1 65536 (QA0 Z r x ba h0 n0) (s₁.setTop (entryFrame m #[(.ref r), (.int x)] 4))
  refine own_step (fun t k => castTop (ef_rmA0 m r x) k) ?_
  show own_Ends p e below s _ _ _ (s₁.setTop (mkF m 0 #[.val (.ref r), .val (.int x), .unset, .unset] []))
  refine own_step (fun _ kc_ => XS.aloadN X0.here hx rfl (hb hby d3_0) rfl rfl kc_) ?_
  show own_Ends p e below s _ _ _ (s₁.setTop (mkF m 1 #[.val (.ref r), .val (.int x), .unset, .unset] [(.ref r)]))
  obtain ⟨T4, X4, e4, st4⟩ := getF X0 hx hZ hown (host := "") (Or.inl (hw _ (List.mem_of_getElem? (i := 18) rfl))) Via.refl e0 FL0 (g := (mkF m 1 #[.val (.ref r), .val (.int x), .unset, .unset] [(.ref r)])) rfl rfl (hb hby d3_1)
  refine own_step (fun _ kc_ => st4 _ kc_) ?_
  show own_Ends p e below s _ _ _ (T4.setTop (mkF m 4 #[.val (.ref r), .val (.int x), .unset, .unset] [(.long (0 : Int64))]))
  refine own_step (fun _ kc_ => XS.bipush X4.here hx rfl (hb hby d3_4) (XS.lushr X4.here hx rfl (hb hby d3_6) rfl kc_)) ?_
  show own_Ends p e below s _ _ _ (T4.setTop (mkF m 7 #[.val (.ref r), .val (.int x), .unset, .unset] [(.long (((0 : Int64).toUInt64 >>> ((16 : Int32) &&& 0x3f).toInt64.toUInt64).toInt64))]))
  rw [show (((0 : Int64).toUInt64 >>> ((16 : Int32) &&& 0x3f).toInt64.toUInt64).toInt64) = (0 : Int64) from by decide]
  show own_Ends p e below s _ _ _ (T4.setTop (mkF m 7 #[.val (.ref r), .val (.int x), .unset, .unset] [(.long (0 : Int64))]))
  refine own_step (fun _ kc_ => XS.l2i X4.here hx rfl (hb hby d3_7) rfl kc_) ?_
  show own_Ends p e below s _ _ _ (T4.setTop (mkF m 8 #[.val (.ref r), .val (.int x), .unset, .unset] [(.int ((0 : Int64).toInt32))]))
  rw [show ((0 : Int64).toInt32) = (0 : Int32) from by decide]
  show own_Ends p e below s _ _ _ (T4.setTop (mkF m 8 #[.val (.ref r), .val (.int x), .unset, .unset] [(.int (0 : Int32))]))
  refine own_step (fun _ kc_ => XS.istoreN X4.here hx rfl (hb hby d3_8) rfl (l' := #[.val (.ref r), .val (.int x), .val (.int (0 : Int32)), .unset]) rfl (XS.aloadN X4.here hx rfl (hb hby d3_9) rfl rfl kc_)) ?_
  show own_Ends p e below s _ _ _ (T4.setTop (mkF m 10 #[.val (.ref r), .val (.int x), .val (.int (0 : Int32)), .unset] [(.ref r)]))
  obtain ⟨T5, X5, e5, st5⟩ := getF X4 hx hZ hown (host := "") (Or.inl (hw _ (List.mem_of_getElem? (i := 18) rfl))) Via.refl e4 FL0 (g := (mkF m 10 #[.val (.ref r), .val (.int x), .val (.int (0 : Int32)), .unset] [(.ref r)])) rfl rfl (hb hby d3_10)
  refine own_step (fun _ kc_ => st5 _ kc_) ?_
  show own_Ends p e below s _ _ _ (T5.setTop (mkF m 13 #[.val (.ref r), .val (.int x), .val (.int (0 : Int32)), .unset] [(.long (0 : Int64))]))
  refine own_step (fun _ kc_ => XS.l2i X5.here hx rfl (hb hby d3_13) rfl kc_) ?_
  show own_Ends p e below s _ _ _ (T5.setTop (mkF m 14 #[.val (.ref r), .val (.int x), .val (.int (0 : Int32)), .unset] [(.int ((0 : Int64).toInt32))]))
  rw [show ((0 : Int64).toInt32) = (0 : Int32) from by decide]
  show own_Ends p e below s _ _ _ (T5.setTop (mkF m 14 #[.val (.ref r), .val (.int x), .val (.int (0 : Int32)), .unset] [(.int (0 : Int32))]))
  refine own_step (fun _ kc_ => X5.ldcI hx hown (mvT hZ (hw _ (List.mem_of_getElem? (i := 20) rfl))) rfl (hb hby d3_14) (XS.iand X5.here hx rfl (hb hby d3_16) rfl kc_)) ?_
  show own_Ends p e below s _ _ _ (T5.setTop (mkF m 17 #[.val (.ref r), .val (.int x), .val (.int (0 : Int32)), .unset] [(.int ((0 : Int32) &&& (65535 : Int32)))]))
  rw [show ((0 : Int32) &&& (65535 : Int32)) = (0 : Int32) from by decide]
  show own_Ends p e below s _ _ _ (T5.setTop (mkF m 17 #[.val (.ref r), .val (.int x), .val (.int (0 : Int32)), .unset] [(.int (0 : Int32))]))
  refine own_step (fun _ kc_ => XS.istoreN X5.here hx rfl (hb hby d3_17) rfl (l' := #[.val (.ref r), .val (.int x), .val (.int (0 : Int32)), .val (.int (0 : Int32))]) rfl (XS.iloadN X5.here hx rfl (hb hby d3_18) rfl (XS.ifNo X5.here hx rfl (hb hby d3_19) rfl (XT.i0_ne_f (by decide : (0 : Int32) = 0)) (XS.iloadN X5.here hx rfl (hb hby d3_22) rfl (XS.aloadN X5.here hx rfl (hb hby d3_23) rfl rfl kc_))))) ?_
  show own_Ends p e below s _ _ _ (T5.setTop (mkF m 24 #[.val (.ref r), .val (.int x), .val (.int (0 : Int32)), .val (.int (0 : Int32))] [(.ref r), (.int (0 : Int32))]))
  obtain ⟨T6, X6, e6, st6⟩ := getF X5 hx hZ hown (host := "") (Or.inl (hw _ (List.mem_of_getElem? (i := 11) rfl))) Via.refl e5 FB0 (g := (mkF m 24 #[.val (.ref r), .val (.int x), .val (.int (0 : Int32)), .val (.int (0 : Int32))] [(.ref r), (.int (0 : Int32))])) rfl rfl (hb hby d3_24)
  refine own_step (fun _ kc_ => st6 _ kc_) ?_
  show own_Ends p e below s _ _ _ (T6.setTop (mkF m 27 #[.val (.ref r), .val (.int x), .val (.int (0 : Int32)), .val (.int (0 : Int32))] [(.ref ba), (.int (0 : Int32))]))
  refine own_step (fun _ kc_ => own_alen X6 hx hZ e6 A0 (n := 1) (z := (1 : Int32)) rfl rfl (hb hby d3_27) _ (XS.icmpYes X6.here hx rfl (pc0 := 28) (pc' := 52) rfl (hb hby d3_28) rfl (XT.ii_ne_t (by decide : ¬ ((0 : Int32) = (1 : Int32)))) (by decide) (by decide) (XS.aloadN X6.here hx rfl (hb hby d3_52) rfl rfl kc_))) ?_
  show own_Ends p e below s _ _ _ (T6.setTop (mkF m 53 #[.val (.ref r), .val (.int x), .val (.int (0 : Int32)), .val (.int (0 : Int32))] [(.ref r)]))
  obtain ⟨T7, X7, e7, st7⟩ := getF X6 hx hZ hown (host := "") (Or.inl (hw _ (List.mem_of_getElem? (i := 11) rfl))) Via.refl e6 FB0 (g := (mkF m 53 #[.val (.ref r), .val (.int x), .val (.int (0 : Int32)), .val (.int (0 : Int32))] [(.ref r)])) rfl rfl (hb hby d3_53)
  refine own_step (fun _ kc_ => st7 _ kc_) ?_
  show own_Ends p e below s _ _ _ (T7.setTop (mkF m 56 #[.val (.ref r), .val (.int x), .val (.int (0 : Int32)), .val (.int (0 : Int32))] [(.ref ba)]))
  refine own_step (fun _ kc_ => XS.iloadN X7.here hx rfl (hb hby d3_56) rfl (X7.ldcI hx hown (mvT hZ (hw _ (List.mem_of_getElem? (i := 21) rfl))) rfl (hb hby d3_57) kc_)) ?_
  show own_Ends p e below s _ _ _ (T7.setTop (mkF m 59 #[.val (.ref r), .val (.int x), .val (.int (0 : Int32)), .val (.int (0 : Int32))] [(.int (65536 : Int32)), (.int (0 : Int32)), (.ref ba)]))
  obtain ⟨T8, h8, k8, X8, e8, E8, A8, Ex8, st8⟩ := own_newI X7 hx hZ (hw _ (List.mem_of_getElem? (i := 22) rfl)) e7 (g := (mkF m 59 #[.val (.ref r), .val (.int x), .val (.int (0 : Int32)), .val (.int (0 : Int32))] [(.int (65536 : Int32)), (.int (0 : Int32)), (.ref ba)])) rfl (hb hby d3_59) rfl (by decide) (cap := 65536) (by decide) (by decide) (by decide : 0 + 1 ≤ _) (by decide : 0 + 65536 ≤ _)
  obtain ⟨b8, g8⟩ : ∃ z, z = h0.size := ⟨_, rfl⟩
  rw [← g8] at A8 Ex8 st8
  have ne_ba_b8 : ba ≠ b8 := Nat.ne_of_lt (Nat.lt_of_lt_of_le (A0).lt (Nat.le_of_eq g8.symm))
  have ne_r_b8 : r ≠ b8 := Nat.ne_of_lt (Nat.lt_of_lt_of_le (E0).lt (Nat.le_of_eq g8.symm))
  have n0_b8 : n0 ≤ b8 := Nat.le_trans Z0 (Nat.le_of_eq g8.symm)
  have h0_b8 : h0.size ≤ b8 := Nat.le_trans ((Keep.refl h0 [r, ba])).1 (Nat.le_of_eq g8.symm)
  have E_r_8 := (E0).ext E8
  have F_r_blocks_8 := (FB0).ext E8
  have F_r_length_8 := (FL0).ext E8
  have A_ba_8 := (A0).ext E8
  have K8 := ((Keep.refl h0 [r, ba])).ext E8
  have Zs8 := Nat.le_trans Z0 E8.1
  obtain ⟨R0, hR0, A_b8⟩ : ∃ R0 : List Value, R0.length = 65536 ∧ own_Ar Z h8 b8 .int R0 := ⟨_, by rw [List.length_replicate]; decide, own_Ar.new A8 (by decide)⟩
  have B1 := B0.ext E8
  refine own_step (fun _ kc_ => st8 _ kc_) ?_
  show own_Ends p e below s _ _ _ (T8.setTop (mkF m 61 #[.val (.ref r), .val (.int x), .val (.int (0 : Int32)), .val (.int (0 : Int32))] [(.ref b8), (.int (0 : Int32)), (.ref ba)]))
  obtain ⟨T9, h9, X9, e9, W9, A9, st9⟩ := own_aastore X8 hx hZ e8 A_ba_8 B1 (Ins.self Ex8) (j := (0 : Int32)) (i := 0) (by decide) rfl (by decide) (Ls := #[.val (.ref r), .val (.int x), .val (.int (0 : Int32)), .val (.int (0 : Int32))]) (st := []) (hb hby d3_61)
  have A_ba_9 : own_Ar Z h9 ba (.array .int) [.ref b8] := A9
  have E_r_9 := (E_r_8).wr W9
  have F_r_blocks_9 := (F_r_blocks_8).other W9 (Or.inl ne0)
  have F_r_length_9 := (F_r_length_8).other W9 (Or.inl ne0)
  have A_b8_9 := (A_b8).other W9 (Ne.symm ne_ba_b8)
  have K9 := (K8).wr W9 (Or.inl (List.mem_of_getElem? (i := 1) rfl))
  have Zs9 := Nat.le_trans Zs8 (Nat.le_of_eq W9.size.symm)
  have N9 := Fr.snoc X9 N0 g1
  refine own_step (fun _ kc_ => st9 _ kc_) ?_
  show own_Ends p e below s _ _ _ (T9.setTop (mkF m 62 #[.val (.ref r), .val (.int x), .val (.int (0 : Int32)), .val (.int (0 : Int32))] []))
  refine own_step (fun _ kc_ => XS.aloadN X9.here hx rfl (hb hby d3_62) rfl rfl kc_) ?_
  show own_Ends p e below s _ _ _ (T9.setTop (mkF m 63 #[.val (.ref r), .val (.int x), .val (.int (0 : Int32)), .val (.int (0 : Int32))] [(.ref r)]))
  obtain ⟨T10, X10, e10, st10⟩ := getF X9 hx hZ hown (host := "") (Or.inl (hw _ (List.mem_of_getElem? (i := 11) rfl))) Via.refl e9 F_r_blocks_9 (g := (mkF m 63 #[.val (.ref r), .val (.int x), .val (.int (0 : Int32)), .val (.int (0 : Int32))] [(.ref r)])) rfl rfl (hb hby d3_63)
  refine own_step (fun _ kc_ => st10 _ kc_) ?_
  show own_Ends p e below s _ _ _ (T10.setTop (mkF m 66 #[.val (.ref r), .val (.int x), .val (.int (0 : Int32)), .val (.int (0 : Int32))] [(.ref ba)]))
  refine own_step (fun _ kc_ => XS.iloadN X10.here hx rfl (hb hby d3_66) rfl (own_aaload X10 hx hZ e10 A_ba_9 rfl (j := (0 : Int32)) (by decide) (i := 0) rfl (v := (.ref b8)) rfl (hb hby d3_67) _ (XS.iloadN X10.here hx rfl (hb hby d3_68) rfl (XS.iloadN X10.here hx rfl (hb hby d3_69) rfl kc_)))) ?_
  show own_Ends p e below s _ _ _ (T10.setTop (mkF m 70 #[.val (.ref r), .val (.int x), .val (.int (0 : Int32)), .val (.int (0 : Int32))] [(.int x), (.int (0 : Int32)), (.ref b8)]))
  obtain ⟨T11, h11, X11, e11, W11, A11, st11⟩ := own_iastore X10 hx hZ e10 A_b8_9 (j := (0 : Int32)) (x := x) (by decide) (i := 0) rfl (by rw [hR0]; decide) (Ls := #[.val (.ref r), .val (.int x), .val (.int (0 : Int32)), .val (.int (0 : Int32))]) (st := []) (hb hby d3_70)
  have A_b8_11 : own_Ar Z h11 b8 .int ((R0).set 0 (.int x)) := A11
  have E_r_11 := (E_r_9).wr W11
  have F_r_blocks_11 := (F_r_blocks_9).other W11 (Or.inl ne_r_b8)
  have F_r_length_11 := (F_r_length_9).other W11 (Or.inl ne_r_b8)
  have A_ba_11 := (A_ba_9).other W11 ne_ba_b8
  have K11 := (K9).wr W11 (Or.inr h0_b8)
  have Zs11 := Nat.le_trans Zs9 (Nat.le_of_eq W11.size.symm)
  have N11 := Fr.snoc X11 N9 n0_b8
  refine own_step (fun _ kc_ => st11 _ kc_) ?_
  show own_Ends p e below s _ _ _ (T11.setTop (mkF m 71 #[.val (.ref r), .val (.int x), .val (.int (0 : Int32)), .val (.int (0 : Int32))] []))
  refine own_step (fun _ kc_ => XS.aloadN X11.here hx rfl (hb hby d3_71) rfl rfl (XS.dup X11.here hx rfl (hb hby d3_72) rfl rfl kc_)) ?_
  show own_Ends p e below s _ _ _ (T11.setTop (mkF m 73 #[.val (.ref r), .val (.int x), .val (.int (0 : Int32)), .val (.int (0 : Int32))] [(.ref r), (.ref r)]))
  obtain ⟨T12, X12, e12, st12⟩ := getF X11 hx hZ hown (host := "") (Or.inl (hw _ (List.mem_of_getElem? (i := 18) rfl))) Via.refl e11 F_r_length_11 (g := (mkF m 73 #[.val (.ref r), .val (.int x), .val (.int (0 : Int32)), .val (.int (0 : Int32))] [(.ref r), (.ref r)])) rfl rfl (hb hby d3_73)
  refine own_step (fun _ kc_ => st12 _ kc_) ?_
  show own_Ends p e below s _ _ _ (T12.setTop (mkF m 76 #[.val (.ref r), .val (.int x), .val (.int (0 : Int32)), .val (.int (0 : Int32))] [(.long (0 : Int64)), (.ref r)]))
  refine own_step (fun _ kc_ => XS.lconst X12.here hx rfl (hb hby d3_76) (XS.ladd X12.here hx rfl (hb hby d3_77) rfl kc_)) ?_
  show own_Ends p e below s _ _ _ (T12.setTop (mkF m 78 #[.val (.ref r), .val (.int x), .val (.int (0 : Int32)), .val (.int (0 : Int32))] [(.long ((0 : Int64) + (1 : Int64))), (.ref r)]))
  rw [show ((0 : Int64) + (1 : Int64)) = (1 : Int64) from by decide]
  show own_Ends p e below s _ _ _ (T12.setTop (mkF m 78 #[.val (.ref r), .val (.int x), .val (.int (0 : Int32)), .val (.int (0 : Int32))] [(.long (1 : Int64)), (.ref r)]))
  obtain ⟨T13, h13, X13, e13, W13, st13⟩ := putF X12 hx hZ hown (host := "") (Or.inl (hw _ (List.mem_of_getElem? (i := 18) rfl))) Via.refl e12 F_r_length_11 E_r_11 (Or.inl (hw _ (List.mem_of_getElem? (i := 19) rfl))) (hw _ (List.mem_of_getElem? (i := 1) rfl)) (ty := .long) (by decide) rfl rfl (g := (mkF m 78 #[.val (.ref r), .val (.int x), .val (.int (0 : Int32)), .val (.int (0 : Int32))] [(.long (1 : Int64)), (.ref r)])) rfl rfl (hb hby d3_78)
  have E_r_13 := (E_r_11).wr W13
  have F_r_blocks_13 := (F_r_blocks_11).other W13 (Or.inr (slot_ne (Or.inl (hw _ (List.mem_of_getElem? (i := 12) rfl))) (Or.inl (hw _ (List.mem_of_getElem? (i := 19) rfl))) (by decide) (t := (.array (.array .int))) (t' := .long) (by decide) (by decide)))
  have F_r_length_13 := (F_r_length_11).same W13
  have A_ba_13 := (A_ba_11).other W13 (Ne.symm ne0)
  have A_b8_13 := (A_b8_11).other W13 (Ne.symm ne_r_b8)
  have K13 := (K11).wr W13 (Or.inl (List.mem_of_getElem? (i := 0) rfl))
  have Zs13 := Nat.le_trans Zs11 (Nat.le_of_eq W13.size.symm)
  have N13 := Fr.snoc X13 N11 g0
  refine own_step (fun _ kc_ => st13 _ kc_) ?_
  show own_Ends p e below s _ _ _ (T13.setTop (mkF m 81 #[.val (.ref r), .val (.int x), .val (.int (0 : Int32)), .val (.int (0 : Int32))] []))
  exact own_retV X13 hx hret hlk (hb hby d3_81) (by decide) (by decide) (by rw [e13]; exact ⟨rfl, N13, K13, b8, h0_b8, ne_r_b8, ne_ba_b8, F_r_blocks_13, F_r_length_13, A_ba_13, R0, hR0, A_b8_13⟩)
theorem ef_rmA1 (m : MethodId) (r : Addr) (x : Int32) : entryFrame m #[(.ref r), (.int x)] 4 = mkF m 0 #[.val (.ref r), .val (.int x), .unset, .unset] [] := by first | (simp [entryFrame, mkF, argsToLocals, Value.category]; done) | rfl
def QA1 (Z : State) (r : Addr) (x : Int32) (ba bb : Addr) (vs : List Value) (h0 : Heap) (n0 : Nat) (v : Option Value) (h : Heap) (L : List Loc) : Prop := v = none ∧ Fr n0 L ∧ Keep h0 h [r, bb] ∧ Fld Z h r "com/example/surfeit/surfeit/IntBlocks" "blocks" "[[I" (.ref ba) ∧ Fld Z h r "com/example/surfeit/surfeit/IntBlocks" "length" "J" (.long (2 : Int64)) ∧ own_Ar Z h bb .int (vs.set 1 (.int x))
set_option maxRecDepth 65536 in
set_option maxHeartbeats 40000000 in
theorem rmA1 (l : Launch) (Z : State) (a0 : Array Value) (hw : ∀ d ∈ tables_1, d.before a0 Z = true) (ws : List Jvm.Cond) (r : Addr) (x : Int32) (ba bb : Addr) (vs : List Value) (h0 : Heap) (n0 : Nat) (Z0 : n0 ≤ h0.size) (E0 : Exa Z h0 r "com/example/surfeit/surfeit/IntBlocks") (FB0 : Fld Z h0 r "com/example/surfeit/surfeit/IntBlocks" "blocks" "[[I" (.ref ba)) (FL0 : Fld Z h0 r "com/example/surfeit/surfeit/IntBlocks" "length" "J" (.long (1 : Int64))) (A0 : own_Ar Z h0 ba (.array .int) [.ref bb]) (A1 : own_Ar Z h0 bb .int vs) (hl : vs.length = 65536) (g0 : n0 ≤ r) (g1 : n0 ≤ bb) (ne0 : r ≠ ba) (ne1 : r ≠ bb) (ne2 : ba ≠ bb) :
    MetFree l (⟨"com/example/surfeit/surfeit/IntBlocks", "add", "(I)V"⟩ : MethodName) (head1 (Jvm.Cond.code (⟨"com/example/surfeit/surfeit/IntBlocks", "add", "(I)V"⟩ : MethodName) prog_12_method_5_code 4 none :: ws) ({ frames := 0, cells := 0, slots := 0, locals := 0 } : Room)) (fun a U => a = #[(.ref r), (.int x)] ∧ Z.Warmed39 U.vm ∧ U.heap = h0) (fun _ _ _ _ _ => True) (fun _ U o U' => ∃ v L, o = .returned v ∧ QA1 Z r x ba bb vs h0 n0 v U'.heap L ∧ FrameEnd U o U' L ({ frames := 0, cells := 0, slots := 0, locals := 0 } : Room).cells ({ frames := 0, cells := 0, slots := 0, locals := 0 } : Room).slots) := by
  refine MetFree.of_bodySF (plainFor_of_name pn_0) hisR ?_
  intro p e s m args below meth c s₁ Bd hml0 hP hK
  obtain ⟨rfl, hZ, hh⟩ := hP
  have hx := Bd.exec
  have hby := Bd.bytes
  have hlk : meth.locks = false := BodyLoose.notSynchronized Bd
  have hret := Bd.returns
  have hml : c.maxLocals = 4 := hml0
  have hown : s.vm.findClass "com/example/surfeit/surfeit/IntBlocks" = some m.cls := findClass_of_methodNamed Bd.named
  have hnm := (name_of_methodNamed Bd.named Bd.method).1
  have X0 : Stand p l e ({ frames := 0, cells := 0, slots := 0, locals := 0 } : Room) s m #[(.ref r), (.int x)] below meth c s₁ [] 0 0 := Stand.of_body Bd
  have e0 : s₁.heap = h0 := by rw [← hh, Bd.state]; rfl
  have N0 := Fr.nil n0
  show own_Ends p e below s 0 0 (QA1 Z r x ba bb vs h0 n0) (s₁.setTop (entryFrame m #[(.ref r), (.int x)] 4))
  refine own_step (fun t k => castTop (ef_rmA1 m r x) k) ?_
  show own_Ends p e below s _ _ _ (s₁.setTop (mkF m 0 #[.val (.ref r), .val (.int x), .unset, .unset] []))
  refine own_step (fun _ kc_ => XS.aloadN X0.here hx rfl (hb hby d3_0) rfl rfl kc_) ?_
  show own_Ends p e below s _ _ _ (s₁.setTop (mkF m 1 #[.val (.ref r), .val (.int x), .unset, .unset] [(.ref r)]))
  obtain ⟨T14, X14, e14, st14⟩ := getF X0 hx hZ hown (host := "") (Or.inl (hw _ (List.mem_of_getElem? (i := 18) rfl))) Via.refl e0 FL0 (g := (mkF m 1 #[.val (.ref r), .val (.int x), .unset, .unset] [(.ref r)])) rfl rfl (hb hby d3_1)
  refine own_step (fun _ kc_ => st14 _ kc_) ?_
  show own_Ends p e below s _ _ _ (T14.setTop (mkF m 4 #[.val (.ref r), .val (.int x), .unset, .unset] [(.long (1 : Int64))]))
  refine own_step (fun _ kc_ => XS.bipush X14.here hx rfl (hb hby d3_4) (XS.lushr X14.here hx rfl (hb hby d3_6) rfl kc_)) ?_
  show own_Ends p e below s _ _ _ (T14.setTop (mkF m 7 #[.val (.ref r), .val (.int x), .unset, .unset] [(.long (((1 : Int64).toUInt64 >>> ((16 : Int32) &&& 0x3f).toInt64.toUInt64).toInt64))]))
  rw [show (((1 : Int64).toUInt64 >>> ((16 : Int32) &&& 0x3f).toInt64.toUInt64).toInt64) = (0 : Int64) from by decide]
  show own_Ends p e below s _ _ _ (T14.setTop (mkF m 7 #[.val (.ref r), .val (.int x), .unset, .unset] [(.long (0 : Int64))]))
  refine own_step (fun _ kc_ => XS.l2i X14.here hx rfl (hb hby d3_7) rfl kc_) ?_
  show own_Ends p e below s _ _ _ (T14.setTop (mkF m 8 #[.val (.ref r), .val (.int x), .unset, .unset] [(.int ((0 : Int64).toInt32))]))
  rw [show ((0 : Int64).toInt32) = (0 : Int32) from by decide]
  show own_Ends p e below s _ _ _ (T14.setTop (mkF m 8 #[.val (.ref r), .val (.int x), .unset, .unset] [(.int (0 : Int32))]))
  refine own_step (fun _ kc_ => XS.istoreN X14.here hx rfl (hb hby d3_8) rfl (l' := #[.val (.ref r), .val (.int x), .val (.int (0 : Int32)), .unset]) rfl (XS.aloadN X14.here hx rfl (hb hby d3_9) rfl rfl kc_)) ?_
  show own_Ends p e below s _ _ _ (T14.setTop (mkF m 10 #[.val (.ref r), .val (.int x), .val (.int (0 : Int32)), .unset] [(.ref r)]))
  obtain ⟨T15, X15, e15, st15⟩ := getF X14 hx hZ hown (host := "") (Or.inl (hw _ (List.mem_of_getElem? (i := 18) rfl))) Via.refl e14 FL0 (g := (mkF m 10 #[.val (.ref r), .val (.int x), .val (.int (0 : Int32)), .unset] [(.ref r)])) rfl rfl (hb hby d3_10)
  refine own_step (fun _ kc_ => st15 _ kc_) ?_
  show own_Ends p e below s _ _ _ (T15.setTop (mkF m 13 #[.val (.ref r), .val (.int x), .val (.int (0 : Int32)), .unset] [(.long (1 : Int64))]))
  refine own_step (fun _ kc_ => XS.l2i X15.here hx rfl (hb hby d3_13) rfl kc_) ?_
  show own_Ends p e below s _ _ _ (T15.setTop (mkF m 14 #[.val (.ref r), .val (.int x), .val (.int (0 : Int32)), .unset] [(.int ((1 : Int64).toInt32))]))
  rw [show ((1 : Int64).toInt32) = (1 : Int32) from by decide]
  show own_Ends p e below s _ _ _ (T15.setTop (mkF m 14 #[.val (.ref r), .val (.int x), .val (.int (0 : Int32)), .unset] [(.int (1 : Int32))]))
  refine own_step (fun _ kc_ => X15.ldcI hx hown (mvT hZ (hw _ (List.mem_of_getElem? (i := 20) rfl))) rfl (hb hby d3_14) (XS.iand X15.here hx rfl (hb hby d3_16) rfl kc_)) ?_
  show own_Ends p e below s _ _ _ (T15.setTop (mkF m 17 #[.val (.ref r), .val (.int x), .val (.int (0 : Int32)), .unset] [(.int ((1 : Int32) &&& (65535 : Int32)))]))
  rw [show ((1 : Int32) &&& (65535 : Int32)) = (1 : Int32) from by decide]
  show own_Ends p e below s _ _ _ (T15.setTop (mkF m 17 #[.val (.ref r), .val (.int x), .val (.int (0 : Int32)), .unset] [(.int (1 : Int32))]))
  refine own_step (fun _ kc_ => XS.istoreN X15.here hx rfl (hb hby d3_17) rfl (l' := #[.val (.ref r), .val (.int x), .val (.int (0 : Int32)), .val (.int (1 : Int32))]) rfl (XS.iloadN X15.here hx rfl (hb hby d3_18) rfl (XS.ifYes X15.here hx rfl (pc0 := 19) (pc' := 62) rfl (hb hby d3_19) rfl (XT.i0_ne_t (by decide : ¬ ((1 : Int32) = 0))) (by decide) (by decide) (XS.aloadN X15.here hx rfl (hb hby d3_62) rfl rfl kc_)))) ?_
  show own_Ends p e below s _ _ _ (T15.setTop (mkF m 63 #[.val (.ref r), .val (.int x), .val (.int (0 : Int32)), .val (.int (1 : Int32))] [(.ref r)]))
  obtain ⟨T16, X16, e16, st16⟩ := getF X15 hx hZ hown (host := "") (Or.inl (hw _ (List.mem_of_getElem? (i := 11) rfl))) Via.refl e15 FB0 (g := (mkF m 63 #[.val (.ref r), .val (.int x), .val (.int (0 : Int32)), .val (.int (1 : Int32))] [(.ref r)])) rfl rfl (hb hby d3_63)
  refine own_step (fun _ kc_ => st16 _ kc_) ?_
  show own_Ends p e below s _ _ _ (T16.setTop (mkF m 66 #[.val (.ref r), .val (.int x), .val (.int (0 : Int32)), .val (.int (1 : Int32))] [(.ref ba)]))
  refine own_step (fun _ kc_ => XS.iloadN X16.here hx rfl (hb hby d3_66) rfl (own_aaload X16 hx hZ e16 A0 rfl (j := (0 : Int32)) (by decide) (i := 0) rfl (v := (.ref bb)) rfl (hb hby d3_67) _ (XS.iloadN X16.here hx rfl (hb hby d3_68) rfl (XS.iloadN X16.here hx rfl (hb hby d3_69) rfl kc_)))) ?_
  show own_Ends p e below s _ _ _ (T16.setTop (mkF m 70 #[.val (.ref r), .val (.int x), .val (.int (0 : Int32)), .val (.int (1 : Int32))] [(.int x), (.int (1 : Int32)), (.ref bb)]))
  obtain ⟨T17, h17, X17, e17, W17, A17, st17⟩ := own_iastore X16 hx hZ e16 A1 (j := (1 : Int32)) (x := x) (by decide) (i := 1) rfl (by rw [hl]; decide) (Ls := #[.val (.ref r), .val (.int x), .val (.int (0 : Int32)), .val (.int (1 : Int32))]) (st := []) (hb hby d3_70)
  have A_bb_17 : own_Ar Z h17 bb .int ((vs).set 1 (.int x)) := A17
  have E_r_17 := (E0).wr W17
  have F_r_blocks_17 := (FB0).other W17 (Or.inl ne1)
  have F_r_length_17 := (FL0).other W17 (Or.inl ne1)
  have A_ba_17 := (A0).other W17 ne2
  have K17 := ((Keep.refl h0 [r, bb])).wr W17 (Or.inl (List.mem_of_getElem? (i := 1) rfl))
  have Zs17 := Nat.le_trans Z0 (Nat.le_of_eq W17.size.symm)
  have N17 := Fr.snoc X17 N0 g1
  refine own_step (fun _ kc_ => st17 _ kc_) ?_
  show own_Ends p e below s _ _ _ (T17.setTop (mkF m 71 #[.val (.ref r), .val (.int x), .val (.int (0 : Int32)), .val (.int (1 : Int32))] []))
  refine own_step (fun _ kc_ => XS.aloadN X17.here hx rfl (hb hby d3_71) rfl rfl (XS.dup X17.here hx rfl (hb hby d3_72) rfl rfl kc_)) ?_
  show own_Ends p e below s _ _ _ (T17.setTop (mkF m 73 #[.val (.ref r), .val (.int x), .val (.int (0 : Int32)), .val (.int (1 : Int32))] [(.ref r), (.ref r)]))
  obtain ⟨T18, X18, e18, st18⟩ := getF X17 hx hZ hown (host := "") (Or.inl (hw _ (List.mem_of_getElem? (i := 18) rfl))) Via.refl e17 F_r_length_17 (g := (mkF m 73 #[.val (.ref r), .val (.int x), .val (.int (0 : Int32)), .val (.int (1 : Int32))] [(.ref r), (.ref r)])) rfl rfl (hb hby d3_73)
  refine own_step (fun _ kc_ => st18 _ kc_) ?_
  show own_Ends p e below s _ _ _ (T18.setTop (mkF m 76 #[.val (.ref r), .val (.int x), .val (.int (0 : Int32)), .val (.int (1 : Int32))] [(.long (1 : Int64)), (.ref r)]))
  refine own_step (fun _ kc_ => XS.lconst X18.here hx rfl (hb hby d3_76) (XS.ladd X18.here hx rfl (hb hby d3_77) rfl kc_)) ?_
  show own_Ends p e below s _ _ _ (T18.setTop (mkF m 78 #[.val (.ref r), .val (.int x), .val (.int (0 : Int32)), .val (.int (1 : Int32))] [(.long ((1 : Int64) + (1 : Int64))), (.ref r)]))
  rw [show ((1 : Int64) + (1 : Int64)) = (2 : Int64) from by decide]
  show own_Ends p e below s _ _ _ (T18.setTop (mkF m 78 #[.val (.ref r), .val (.int x), .val (.int (0 : Int32)), .val (.int (1 : Int32))] [(.long (2 : Int64)), (.ref r)]))
  obtain ⟨T19, h19, X19, e19, W19, st19⟩ := putF X18 hx hZ hown (host := "") (Or.inl (hw _ (List.mem_of_getElem? (i := 18) rfl))) Via.refl e18 F_r_length_17 E_r_17 (Or.inl (hw _ (List.mem_of_getElem? (i := 19) rfl))) (hw _ (List.mem_of_getElem? (i := 1) rfl)) (ty := .long) (by decide) rfl rfl (g := (mkF m 78 #[.val (.ref r), .val (.int x), .val (.int (0 : Int32)), .val (.int (1 : Int32))] [(.long (2 : Int64)), (.ref r)])) rfl rfl (hb hby d3_78)
  have E_r_19 := (E_r_17).wr W19
  have F_r_blocks_19 := (F_r_blocks_17).other W19 (Or.inr (slot_ne (Or.inl (hw _ (List.mem_of_getElem? (i := 12) rfl))) (Or.inl (hw _ (List.mem_of_getElem? (i := 19) rfl))) (by decide) (t := (.array (.array .int))) (t' := .long) (by decide) (by decide)))
  have F_r_length_19 := (F_r_length_17).same W19
  have A_ba_19 := (A_ba_17).other W19 (Ne.symm ne0)
  have A_bb_19 := (A_bb_17).other W19 (Ne.symm ne1)
  have K19 := (K17).wr W19 (Or.inl (List.mem_of_getElem? (i := 0) rfl))
  have Zs19 := Nat.le_trans Zs17 (Nat.le_of_eq W19.size.symm)
  have N19 := Fr.snoc X19 N17 g0
  refine own_step (fun _ kc_ => st19 _ kc_) ?_
  show own_Ends p e below s _ _ _ (T19.setTop (mkF m 81 #[.val (.ref r), .val (.int x), .val (.int (0 : Int32)), .val (.int (1 : Int32))] []))
  exact own_retV X19 hx hret hlk (hb hby d3_81) (by decide) (by decide) (by rw [e19]; exact ⟨rfl, N19, K19, F_r_blocks_19, F_r_length_19, A_bb_19⟩)
theorem ef_rmA2 (m : MethodId) (r : Addr) (x : Int32) : entryFrame m #[(.ref r), (.int x)] 4 = mkF m 0 #[.val (.ref r), .val (.int x), .unset, .unset] [] := by first | (simp [entryFrame, mkF, argsToLocals, Value.category]; done) | rfl
def QA2 (Z : State) (r : Addr) (x : Int32) (ba bb : Addr) (vs : List Value) (h0 : Heap) (n0 : Nat) (v : Option Value) (h : Heap) (L : List Loc) : Prop := v = none ∧ Fr n0 L ∧ Keep h0 h [r, bb] ∧ Fld Z h r "com/example/surfeit/surfeit/IntBlocks" "blocks" "[[I" (.ref ba) ∧ Fld Z h r "com/example/surfeit/surfeit/IntBlocks" "length" "J" (.long (3 : Int64)) ∧ own_Ar Z h bb .int (vs.set 2 (.int x))
set_option maxRecDepth 65536 in
set_option maxHeartbeats 40000000 in
theorem rmA2 (l : Launch) (Z : State) (a0 : Array Value) (hw : ∀ d ∈ tables_1, d.before a0 Z = true) (ws : List Jvm.Cond) (r : Addr) (x : Int32) (ba bb : Addr) (vs : List Value) (h0 : Heap) (n0 : Nat) (Z0 : n0 ≤ h0.size) (E0 : Exa Z h0 r "com/example/surfeit/surfeit/IntBlocks") (FB0 : Fld Z h0 r "com/example/surfeit/surfeit/IntBlocks" "blocks" "[[I" (.ref ba)) (FL0 : Fld Z h0 r "com/example/surfeit/surfeit/IntBlocks" "length" "J" (.long (2 : Int64))) (A0 : own_Ar Z h0 ba (.array .int) [.ref bb]) (A1 : own_Ar Z h0 bb .int vs) (hl : vs.length = 65536) (g0 : n0 ≤ r) (g1 : n0 ≤ bb) (ne0 : r ≠ ba) (ne1 : r ≠ bb) (ne2 : ba ≠ bb) :
    MetFree l (⟨"com/example/surfeit/surfeit/IntBlocks", "add", "(I)V"⟩ : MethodName) (head1 (Jvm.Cond.code (⟨"com/example/surfeit/surfeit/IntBlocks", "add", "(I)V"⟩ : MethodName) prog_12_method_5_code 4 none :: ws) ({ frames := 0, cells := 0, slots := 0, locals := 0 } : Room)) (fun a U => a = #[(.ref r), (.int x)] ∧ Z.Warmed39 U.vm ∧ U.heap = h0) (fun _ _ _ _ _ => True) (fun _ U o U' => ∃ v L, o = .returned v ∧ QA2 Z r x ba bb vs h0 n0 v U'.heap L ∧ FrameEnd U o U' L ({ frames := 0, cells := 0, slots := 0, locals := 0 } : Room).cells ({ frames := 0, cells := 0, slots := 0, locals := 0 } : Room).slots) := by
  refine MetFree.of_bodySF (plainFor_of_name pn_0) hisR ?_
  intro p e s m args below meth c s₁ Bd hml0 hP hK
  obtain ⟨rfl, hZ, hh⟩ := hP
  have hx := Bd.exec
  have hby := Bd.bytes
  have hlk : meth.locks = false := BodyLoose.notSynchronized Bd
  have hret := Bd.returns
  have hml : c.maxLocals = 4 := hml0
  have hown : s.vm.findClass "com/example/surfeit/surfeit/IntBlocks" = some m.cls := findClass_of_methodNamed Bd.named
  have hnm := (name_of_methodNamed Bd.named Bd.method).1
  have X0 : Stand p l e ({ frames := 0, cells := 0, slots := 0, locals := 0 } : Room) s m #[(.ref r), (.int x)] below meth c s₁ [] 0 0 := Stand.of_body Bd
  have e0 : s₁.heap = h0 := by rw [← hh, Bd.state]; rfl
  have N0 := Fr.nil n0
  show own_Ends p e below s 0 0 (QA2 Z r x ba bb vs h0 n0) (s₁.setTop (entryFrame m #[(.ref r), (.int x)] 4))
  refine own_step (fun t k => castTop (ef_rmA2 m r x) k) ?_
  show own_Ends p e below s _ _ _ (s₁.setTop (mkF m 0 #[.val (.ref r), .val (.int x), .unset, .unset] []))
  refine own_step (fun _ kc_ => XS.aloadN X0.here hx rfl (hb hby d3_0) rfl rfl kc_) ?_
  show own_Ends p e below s _ _ _ (s₁.setTop (mkF m 1 #[.val (.ref r), .val (.int x), .unset, .unset] [(.ref r)]))
  obtain ⟨T20, X20, e20, st20⟩ := getF X0 hx hZ hown (host := "") (Or.inl (hw _ (List.mem_of_getElem? (i := 18) rfl))) Via.refl e0 FL0 (g := (mkF m 1 #[.val (.ref r), .val (.int x), .unset, .unset] [(.ref r)])) rfl rfl (hb hby d3_1)
  refine own_step (fun _ kc_ => st20 _ kc_) ?_
  show own_Ends p e below s _ _ _ (T20.setTop (mkF m 4 #[.val (.ref r), .val (.int x), .unset, .unset] [(.long (2 : Int64))]))
  refine own_step (fun _ kc_ => XS.bipush X20.here hx rfl (hb hby d3_4) (XS.lushr X20.here hx rfl (hb hby d3_6) rfl kc_)) ?_
  show own_Ends p e below s _ _ _ (T20.setTop (mkF m 7 #[.val (.ref r), .val (.int x), .unset, .unset] [(.long (((2 : Int64).toUInt64 >>> ((16 : Int32) &&& 0x3f).toInt64.toUInt64).toInt64))]))
  rw [show (((2 : Int64).toUInt64 >>> ((16 : Int32) &&& 0x3f).toInt64.toUInt64).toInt64) = (0 : Int64) from by decide]
  show own_Ends p e below s _ _ _ (T20.setTop (mkF m 7 #[.val (.ref r), .val (.int x), .unset, .unset] [(.long (0 : Int64))]))
  refine own_step (fun _ kc_ => XS.l2i X20.here hx rfl (hb hby d3_7) rfl kc_) ?_
  show own_Ends p e below s _ _ _ (T20.setTop (mkF m 8 #[.val (.ref r), .val (.int x), .unset, .unset] [(.int ((0 : Int64).toInt32))]))
  rw [show ((0 : Int64).toInt32) = (0 : Int32) from by decide]
  show own_Ends p e below s _ _ _ (T20.setTop (mkF m 8 #[.val (.ref r), .val (.int x), .unset, .unset] [(.int (0 : Int32))]))
  refine own_step (fun _ kc_ => XS.istoreN X20.here hx rfl (hb hby d3_8) rfl (l' := #[.val (.ref r), .val (.int x), .val (.int (0 : Int32)), .unset]) rfl (XS.aloadN X20.here hx rfl (hb hby d3_9) rfl rfl kc_)) ?_
  show own_Ends p e below s _ _ _ (T20.setTop (mkF m 10 #[.val (.ref r), .val (.int x), .val (.int (0 : Int32)), .unset] [(.ref r)]))
  obtain ⟨T21, X21, e21, st21⟩ := getF X20 hx hZ hown (host := "") (Or.inl (hw _ (List.mem_of_getElem? (i := 18) rfl))) Via.refl e20 FL0 (g := (mkF m 10 #[.val (.ref r), .val (.int x), .val (.int (0 : Int32)), .unset] [(.ref r)])) rfl rfl (hb hby d3_10)
  refine own_step (fun _ kc_ => st21 _ kc_) ?_
  show own_Ends p e below s _ _ _ (T21.setTop (mkF m 13 #[.val (.ref r), .val (.int x), .val (.int (0 : Int32)), .unset] [(.long (2 : Int64))]))
  refine own_step (fun _ kc_ => XS.l2i X21.here hx rfl (hb hby d3_13) rfl kc_) ?_
  show own_Ends p e below s _ _ _ (T21.setTop (mkF m 14 #[.val (.ref r), .val (.int x), .val (.int (0 : Int32)), .unset] [(.int ((2 : Int64).toInt32))]))
  rw [show ((2 : Int64).toInt32) = (2 : Int32) from by decide]
  show own_Ends p e below s _ _ _ (T21.setTop (mkF m 14 #[.val (.ref r), .val (.int x), .val (.int (0 : Int32)), .unset] [(.int (2 : Int32))]))
  refine own_step (fun _ kc_ => X21.ldcI hx hown (mvT hZ (hw _ (List.mem_of_getElem? (i := 20) rfl))) rfl (hb hby d3_14) (XS.iand X21.here hx rfl (hb hby d3_16) rfl kc_)) ?_
  show own_Ends p e below s _ _ _ (T21.setTop (mkF m 17 #[.val (.ref r), .val (.int x), .val (.int (0 : Int32)), .unset] [(.int ((2 : Int32) &&& (65535 : Int32)))]))
  rw [show ((2 : Int32) &&& (65535 : Int32)) = (2 : Int32) from by decide]
  show own_Ends p e below s _ _ _ (T21.setTop (mkF m 17 #[.val (.ref r), .val (.int x), .val (.int (0 : Int32)), .unset] [(.int (2 : Int32))]))
  refine own_step (fun _ kc_ => XS.istoreN X21.here hx rfl (hb hby d3_17) rfl (l' := #[.val (.ref r), .val (.int x), .val (.int (0 : Int32)), .val (.int (2 : Int32))]) rfl (XS.iloadN X21.here hx rfl (hb hby d3_18) rfl (XS.ifYes X21.here hx rfl (pc0 := 19) (pc' := 62) rfl (hb hby d3_19) rfl (XT.i0_ne_t (by decide : ¬ ((2 : Int32) = 0))) (by decide) (by decide) (XS.aloadN X21.here hx rfl (hb hby d3_62) rfl rfl kc_)))) ?_
  show own_Ends p e below s _ _ _ (T21.setTop (mkF m 63 #[.val (.ref r), .val (.int x), .val (.int (0 : Int32)), .val (.int (2 : Int32))] [(.ref r)]))
  obtain ⟨T22, X22, e22, st22⟩ := getF X21 hx hZ hown (host := "") (Or.inl (hw _ (List.mem_of_getElem? (i := 11) rfl))) Via.refl e21 FB0 (g := (mkF m 63 #[.val (.ref r), .val (.int x), .val (.int (0 : Int32)), .val (.int (2 : Int32))] [(.ref r)])) rfl rfl (hb hby d3_63)
  refine own_step (fun _ kc_ => st22 _ kc_) ?_
  show own_Ends p e below s _ _ _ (T22.setTop (mkF m 66 #[.val (.ref r), .val (.int x), .val (.int (0 : Int32)), .val (.int (2 : Int32))] [(.ref ba)]))
  refine own_step (fun _ kc_ => XS.iloadN X22.here hx rfl (hb hby d3_66) rfl (own_aaload X22 hx hZ e22 A0 rfl (j := (0 : Int32)) (by decide) (i := 0) rfl (v := (.ref bb)) rfl (hb hby d3_67) _ (XS.iloadN X22.here hx rfl (hb hby d3_68) rfl (XS.iloadN X22.here hx rfl (hb hby d3_69) rfl kc_)))) ?_
  show own_Ends p e below s _ _ _ (T22.setTop (mkF m 70 #[.val (.ref r), .val (.int x), .val (.int (0 : Int32)), .val (.int (2 : Int32))] [(.int x), (.int (2 : Int32)), (.ref bb)]))
  obtain ⟨T23, h23, X23, e23, W23, A23, st23⟩ := own_iastore X22 hx hZ e22 A1 (j := (2 : Int32)) (x := x) (by decide) (i := 2) rfl (by rw [hl]; decide) (Ls := #[.val (.ref r), .val (.int x), .val (.int (0 : Int32)), .val (.int (2 : Int32))]) (st := []) (hb hby d3_70)
  have A_bb_23 : own_Ar Z h23 bb .int ((vs).set 2 (.int x)) := A23
  have E_r_23 := (E0).wr W23
  have F_r_blocks_23 := (FB0).other W23 (Or.inl ne1)
  have F_r_length_23 := (FL0).other W23 (Or.inl ne1)
  have A_ba_23 := (A0).other W23 ne2
  have K23 := ((Keep.refl h0 [r, bb])).wr W23 (Or.inl (List.mem_of_getElem? (i := 1) rfl))
  have Zs23 := Nat.le_trans Z0 (Nat.le_of_eq W23.size.symm)
  have N23 := Fr.snoc X23 N0 g1
  refine own_step (fun _ kc_ => st23 _ kc_) ?_
  show own_Ends p e below s _ _ _ (T23.setTop (mkF m 71 #[.val (.ref r), .val (.int x), .val (.int (0 : Int32)), .val (.int (2 : Int32))] []))
  refine own_step (fun _ kc_ => XS.aloadN X23.here hx rfl (hb hby d3_71) rfl rfl (XS.dup X23.here hx rfl (hb hby d3_72) rfl rfl kc_)) ?_
  show own_Ends p e below s _ _ _ (T23.setTop (mkF m 73 #[.val (.ref r), .val (.int x), .val (.int (0 : Int32)), .val (.int (2 : Int32))] [(.ref r), (.ref r)]))
  obtain ⟨T24, X24, e24, st24⟩ := getF X23 hx hZ hown (host := "") (Or.inl (hw _ (List.mem_of_getElem? (i := 18) rfl))) Via.refl e23 F_r_length_23 (g := (mkF m 73 #[.val (.ref r), .val (.int x), .val (.int (0 : Int32)), .val (.int (2 : Int32))] [(.ref r), (.ref r)])) rfl rfl (hb hby d3_73)
  refine own_step (fun _ kc_ => st24 _ kc_) ?_
  show own_Ends p e below s _ _ _ (T24.setTop (mkF m 76 #[.val (.ref r), .val (.int x), .val (.int (0 : Int32)), .val (.int (2 : Int32))] [(.long (2 : Int64)), (.ref r)]))
  refine own_step (fun _ kc_ => XS.lconst X24.here hx rfl (hb hby d3_76) (XS.ladd X24.here hx rfl (hb hby d3_77) rfl kc_)) ?_
  show own_Ends p e below s _ _ _ (T24.setTop (mkF m 78 #[.val (.ref r), .val (.int x), .val (.int (0 : Int32)), .val (.int (2 : Int32))] [(.long ((2 : Int64) + (1 : Int64))), (.ref r)]))
  rw [show ((2 : Int64) + (1 : Int64)) = (3 : Int64) from by decide]
  show own_Ends p e below s _ _ _ (T24.setTop (mkF m 78 #[.val (.ref r), .val (.int x), .val (.int (0 : Int32)), .val (.int (2 : Int32))] [(.long (3 : Int64)), (.ref r)]))
  obtain ⟨T25, h25, X25, e25, W25, st25⟩ := putF X24 hx hZ hown (host := "") (Or.inl (hw _ (List.mem_of_getElem? (i := 18) rfl))) Via.refl e24 F_r_length_23 E_r_23 (Or.inl (hw _ (List.mem_of_getElem? (i := 19) rfl))) (hw _ (List.mem_of_getElem? (i := 1) rfl)) (ty := .long) (by decide) rfl rfl (g := (mkF m 78 #[.val (.ref r), .val (.int x), .val (.int (0 : Int32)), .val (.int (2 : Int32))] [(.long (3 : Int64)), (.ref r)])) rfl rfl (hb hby d3_78)
  have E_r_25 := (E_r_23).wr W25
  have F_r_blocks_25 := (F_r_blocks_23).other W25 (Or.inr (slot_ne (Or.inl (hw _ (List.mem_of_getElem? (i := 12) rfl))) (Or.inl (hw _ (List.mem_of_getElem? (i := 19) rfl))) (by decide) (t := (.array (.array .int))) (t' := .long) (by decide) (by decide)))
  have F_r_length_25 := (F_r_length_23).same W25
  have A_ba_25 := (A_ba_23).other W25 (Ne.symm ne0)
  have A_bb_25 := (A_bb_23).other W25 (Ne.symm ne1)
  have K25 := (K23).wr W25 (Or.inl (List.mem_of_getElem? (i := 0) rfl))
  have Zs25 := Nat.le_trans Zs23 (Nat.le_of_eq W25.size.symm)
  have N25 := Fr.snoc X25 N23 g0
  refine own_step (fun _ kc_ => st25 _ kc_) ?_
  show own_Ends p e below s _ _ _ (T25.setTop (mkF m 81 #[.val (.ref r), .val (.int x), .val (.int (0 : Int32)), .val (.int (2 : Int32))] []))
  exact own_retV X25 hx hret hlk (hb hby d3_81) (by decide) (by decide) (by rw [e25]; exact ⟨rfl, N25, K25, F_r_blocks_25, F_r_length_25, A_bb_25⟩)
theorem ef_rmA3 (m : MethodId) (r : Addr) (x : Int32) : entryFrame m #[(.ref r), (.int x)] 4 = mkF m 0 #[.val (.ref r), .val (.int x), .unset, .unset] [] := by first | (simp [entryFrame, mkF, argsToLocals, Value.category]; done) | rfl
def QA3 (Z : State) (r : Addr) (x : Int32) (ba bb : Addr) (vs : List Value) (h0 : Heap) (n0 : Nat) (v : Option Value) (h : Heap) (L : List Loc) : Prop := v = none ∧ Fr n0 L ∧ Keep h0 h [r, bb] ∧ Fld Z h r "com/example/surfeit/surfeit/IntBlocks" "blocks" "[[I" (.ref ba) ∧ Fld Z h r "com/example/surfeit/surfeit/IntBlocks" "length" "J" (.long (4 : Int64)) ∧ own_Ar Z h bb .int (vs.set 3 (.int x))
set_option maxRecDepth 65536 in
set_option maxHeartbeats 40000000 in
theorem rmA3 (l : Launch) (Z : State) (a0 : Array Value) (hw : ∀ d ∈ tables_1, d.before a0 Z = true) (ws : List Jvm.Cond) (r : Addr) (x : Int32) (ba bb : Addr) (vs : List Value) (h0 : Heap) (n0 : Nat) (Z0 : n0 ≤ h0.size) (E0 : Exa Z h0 r "com/example/surfeit/surfeit/IntBlocks") (FB0 : Fld Z h0 r "com/example/surfeit/surfeit/IntBlocks" "blocks" "[[I" (.ref ba)) (FL0 : Fld Z h0 r "com/example/surfeit/surfeit/IntBlocks" "length" "J" (.long (3 : Int64))) (A0 : own_Ar Z h0 ba (.array .int) [.ref bb]) (A1 : own_Ar Z h0 bb .int vs) (hl : vs.length = 65536) (g0 : n0 ≤ r) (g1 : n0 ≤ bb) (ne0 : r ≠ ba) (ne1 : r ≠ bb) (ne2 : ba ≠ bb) :
    MetFree l (⟨"com/example/surfeit/surfeit/IntBlocks", "add", "(I)V"⟩ : MethodName) (head1 (Jvm.Cond.code (⟨"com/example/surfeit/surfeit/IntBlocks", "add", "(I)V"⟩ : MethodName) prog_12_method_5_code 4 none :: ws) ({ frames := 0, cells := 0, slots := 0, locals := 0 } : Room)) (fun a U => a = #[(.ref r), (.int x)] ∧ Z.Warmed39 U.vm ∧ U.heap = h0) (fun _ _ _ _ _ => True) (fun _ U o U' => ∃ v L, o = .returned v ∧ QA3 Z r x ba bb vs h0 n0 v U'.heap L ∧ FrameEnd U o U' L ({ frames := 0, cells := 0, slots := 0, locals := 0 } : Room).cells ({ frames := 0, cells := 0, slots := 0, locals := 0 } : Room).slots) := by
  refine MetFree.of_bodySF (plainFor_of_name pn_0) hisR ?_
  intro p e s m args below meth c s₁ Bd hml0 hP hK
  obtain ⟨rfl, hZ, hh⟩ := hP
  have hx := Bd.exec
  have hby := Bd.bytes
  have hlk : meth.locks = false := BodyLoose.notSynchronized Bd
  have hret := Bd.returns
  have hml : c.maxLocals = 4 := hml0
  have hown : s.vm.findClass "com/example/surfeit/surfeit/IntBlocks" = some m.cls := findClass_of_methodNamed Bd.named
  have hnm := (name_of_methodNamed Bd.named Bd.method).1
  have X0 : Stand p l e ({ frames := 0, cells := 0, slots := 0, locals := 0 } : Room) s m #[(.ref r), (.int x)] below meth c s₁ [] 0 0 := Stand.of_body Bd
  have e0 : s₁.heap = h0 := by rw [← hh, Bd.state]; rfl
  have N0 := Fr.nil n0
  show own_Ends p e below s 0 0 (QA3 Z r x ba bb vs h0 n0) (s₁.setTop (entryFrame m #[(.ref r), (.int x)] 4))
  refine own_step (fun t k => castTop (ef_rmA3 m r x) k) ?_
  show own_Ends p e below s _ _ _ (s₁.setTop (mkF m 0 #[.val (.ref r), .val (.int x), .unset, .unset] []))
  refine own_step (fun _ kc_ => XS.aloadN X0.here hx rfl (hb hby d3_0) rfl rfl kc_) ?_
  show own_Ends p e below s _ _ _ (s₁.setTop (mkF m 1 #[.val (.ref r), .val (.int x), .unset, .unset] [(.ref r)]))
  obtain ⟨T26, X26, e26, st26⟩ := getF X0 hx hZ hown (host := "") (Or.inl (hw _ (List.mem_of_getElem? (i := 18) rfl))) Via.refl e0 FL0 (g := (mkF m 1 #[.val (.ref r), .val (.int x), .unset, .unset] [(.ref r)])) rfl rfl (hb hby d3_1)
  refine own_step (fun _ kc_ => st26 _ kc_) ?_
  show own_Ends p e below s _ _ _ (T26.setTop (mkF m 4 #[.val (.ref r), .val (.int x), .unset, .unset] [(.long (3 : Int64))]))
  refine own_step (fun _ kc_ => XS.bipush X26.here hx rfl (hb hby d3_4) (XS.lushr X26.here hx rfl (hb hby d3_6) rfl kc_)) ?_
  show own_Ends p e below s _ _ _ (T26.setTop (mkF m 7 #[.val (.ref r), .val (.int x), .unset, .unset] [(.long (((3 : Int64).toUInt64 >>> ((16 : Int32) &&& 0x3f).toInt64.toUInt64).toInt64))]))
  rw [show (((3 : Int64).toUInt64 >>> ((16 : Int32) &&& 0x3f).toInt64.toUInt64).toInt64) = (0 : Int64) from by decide]
  show own_Ends p e below s _ _ _ (T26.setTop (mkF m 7 #[.val (.ref r), .val (.int x), .unset, .unset] [(.long (0 : Int64))]))
  refine own_step (fun _ kc_ => XS.l2i X26.here hx rfl (hb hby d3_7) rfl kc_) ?_
  show own_Ends p e below s _ _ _ (T26.setTop (mkF m 8 #[.val (.ref r), .val (.int x), .unset, .unset] [(.int ((0 : Int64).toInt32))]))
  rw [show ((0 : Int64).toInt32) = (0 : Int32) from by decide]
  show own_Ends p e below s _ _ _ (T26.setTop (mkF m 8 #[.val (.ref r), .val (.int x), .unset, .unset] [(.int (0 : Int32))]))
  refine own_step (fun _ kc_ => XS.istoreN X26.here hx rfl (hb hby d3_8) rfl (l' := #[.val (.ref r), .val (.int x), .val (.int (0 : Int32)), .unset]) rfl (XS.aloadN X26.here hx rfl (hb hby d3_9) rfl rfl kc_)) ?_
  show own_Ends p e below s _ _ _ (T26.setTop (mkF m 10 #[.val (.ref r), .val (.int x), .val (.int (0 : Int32)), .unset] [(.ref r)]))
  obtain ⟨T27, X27, e27, st27⟩ := getF X26 hx hZ hown (host := "") (Or.inl (hw _ (List.mem_of_getElem? (i := 18) rfl))) Via.refl e26 FL0 (g := (mkF m 10 #[.val (.ref r), .val (.int x), .val (.int (0 : Int32)), .unset] [(.ref r)])) rfl rfl (hb hby d3_10)
  refine own_step (fun _ kc_ => st27 _ kc_) ?_
  show own_Ends p e below s _ _ _ (T27.setTop (mkF m 13 #[.val (.ref r), .val (.int x), .val (.int (0 : Int32)), .unset] [(.long (3 : Int64))]))
  refine own_step (fun _ kc_ => XS.l2i X27.here hx rfl (hb hby d3_13) rfl kc_) ?_
  show own_Ends p e below s _ _ _ (T27.setTop (mkF m 14 #[.val (.ref r), .val (.int x), .val (.int (0 : Int32)), .unset] [(.int ((3 : Int64).toInt32))]))
  rw [show ((3 : Int64).toInt32) = (3 : Int32) from by decide]
  show own_Ends p e below s _ _ _ (T27.setTop (mkF m 14 #[.val (.ref r), .val (.int x), .val (.int (0 : Int32)), .unset] [(.int (3 : Int32))]))
  refine own_step (fun _ kc_ => X27.ldcI hx hown (mvT hZ (hw _ (List.mem_of_getElem? (i := 20) rfl))) rfl (hb hby d3_14) (XS.iand X27.here hx rfl (hb hby d3_16) rfl kc_)) ?_
  show own_Ends p e below s _ _ _ (T27.setTop (mkF m 17 #[.val (.ref r), .val (.int x), .val (.int (0 : Int32)), .unset] [(.int ((3 : Int32) &&& (65535 : Int32)))]))
  rw [show ((3 : Int32) &&& (65535 : Int32)) = (3 : Int32) from by decide]
  show own_Ends p e below s _ _ _ (T27.setTop (mkF m 17 #[.val (.ref r), .val (.int x), .val (.int (0 : Int32)), .unset] [(.int (3 : Int32))]))
  refine own_step (fun _ kc_ => XS.istoreN X27.here hx rfl (hb hby d3_17) rfl (l' := #[.val (.ref r), .val (.int x), .val (.int (0 : Int32)), .val (.int (3 : Int32))]) rfl (XS.iloadN X27.here hx rfl (hb hby d3_18) rfl (XS.ifYes X27.here hx rfl (pc0 := 19) (pc' := 62) rfl (hb hby d3_19) rfl (XT.i0_ne_t (by decide : ¬ ((3 : Int32) = 0))) (by decide) (by decide) (XS.aloadN X27.here hx rfl (hb hby d3_62) rfl rfl kc_)))) ?_
  show own_Ends p e below s _ _ _ (T27.setTop (mkF m 63 #[.val (.ref r), .val (.int x), .val (.int (0 : Int32)), .val (.int (3 : Int32))] [(.ref r)]))
  obtain ⟨T28, X28, e28, st28⟩ := getF X27 hx hZ hown (host := "") (Or.inl (hw _ (List.mem_of_getElem? (i := 11) rfl))) Via.refl e27 FB0 (g := (mkF m 63 #[.val (.ref r), .val (.int x), .val (.int (0 : Int32)), .val (.int (3 : Int32))] [(.ref r)])) rfl rfl (hb hby d3_63)
  refine own_step (fun _ kc_ => st28 _ kc_) ?_
  show own_Ends p e below s _ _ _ (T28.setTop (mkF m 66 #[.val (.ref r), .val (.int x), .val (.int (0 : Int32)), .val (.int (3 : Int32))] [(.ref ba)]))
  refine own_step (fun _ kc_ => XS.iloadN X28.here hx rfl (hb hby d3_66) rfl (own_aaload X28 hx hZ e28 A0 rfl (j := (0 : Int32)) (by decide) (i := 0) rfl (v := (.ref bb)) rfl (hb hby d3_67) _ (XS.iloadN X28.here hx rfl (hb hby d3_68) rfl (XS.iloadN X28.here hx rfl (hb hby d3_69) rfl kc_)))) ?_
  show own_Ends p e below s _ _ _ (T28.setTop (mkF m 70 #[.val (.ref r), .val (.int x), .val (.int (0 : Int32)), .val (.int (3 : Int32))] [(.int x), (.int (3 : Int32)), (.ref bb)]))
  obtain ⟨T29, h29, X29, e29, W29, A29, st29⟩ := own_iastore X28 hx hZ e28 A1 (j := (3 : Int32)) (x := x) (by decide) (i := 3) rfl (by rw [hl]; decide) (Ls := #[.val (.ref r), .val (.int x), .val (.int (0 : Int32)), .val (.int (3 : Int32))]) (st := []) (hb hby d3_70)
  have A_bb_29 : own_Ar Z h29 bb .int ((vs).set 3 (.int x)) := A29
  have E_r_29 := (E0).wr W29
  have F_r_blocks_29 := (FB0).other W29 (Or.inl ne1)
  have F_r_length_29 := (FL0).other W29 (Or.inl ne1)
  have A_ba_29 := (A0).other W29 ne2
  have K29 := ((Keep.refl h0 [r, bb])).wr W29 (Or.inl (List.mem_of_getElem? (i := 1) rfl))
  have Zs29 := Nat.le_trans Z0 (Nat.le_of_eq W29.size.symm)
  have N29 := Fr.snoc X29 N0 g1
  refine own_step (fun _ kc_ => st29 _ kc_) ?_
  show own_Ends p e below s _ _ _ (T29.setTop (mkF m 71 #[.val (.ref r), .val (.int x), .val (.int (0 : Int32)), .val (.int (3 : Int32))] []))
  refine own_step (fun _ kc_ => XS.aloadN X29.here hx rfl (hb hby d3_71) rfl rfl (XS.dup X29.here hx rfl (hb hby d3_72) rfl rfl kc_)) ?_
  show own_Ends p e below s _ _ _ (T29.setTop (mkF m 73 #[.val (.ref r), .val (.int x), .val (.int (0 : Int32)), .val (.int (3 : Int32))] [(.ref r), (.ref r)]))
  obtain ⟨T30, X30, e30, st30⟩ := getF X29 hx hZ hown (host := "") (Or.inl (hw _ (List.mem_of_getElem? (i := 18) rfl))) Via.refl e29 F_r_length_29 (g := (mkF m 73 #[.val (.ref r), .val (.int x), .val (.int (0 : Int32)), .val (.int (3 : Int32))] [(.ref r), (.ref r)])) rfl rfl (hb hby d3_73)
  refine own_step (fun _ kc_ => st30 _ kc_) ?_
  show own_Ends p e below s _ _ _ (T30.setTop (mkF m 76 #[.val (.ref r), .val (.int x), .val (.int (0 : Int32)), .val (.int (3 : Int32))] [(.long (3 : Int64)), (.ref r)]))
  refine own_step (fun _ kc_ => XS.lconst X30.here hx rfl (hb hby d3_76) (XS.ladd X30.here hx rfl (hb hby d3_77) rfl kc_)) ?_
  show own_Ends p e below s _ _ _ (T30.setTop (mkF m 78 #[.val (.ref r), .val (.int x), .val (.int (0 : Int32)), .val (.int (3 : Int32))] [(.long ((3 : Int64) + (1 : Int64))), (.ref r)]))
  rw [show ((3 : Int64) + (1 : Int64)) = (4 : Int64) from by decide]
  show own_Ends p e below s _ _ _ (T30.setTop (mkF m 78 #[.val (.ref r), .val (.int x), .val (.int (0 : Int32)), .val (.int (3 : Int32))] [(.long (4 : Int64)), (.ref r)]))
  obtain ⟨T31, h31, X31, e31, W31, st31⟩ := putF X30 hx hZ hown (host := "") (Or.inl (hw _ (List.mem_of_getElem? (i := 18) rfl))) Via.refl e30 F_r_length_29 E_r_29 (Or.inl (hw _ (List.mem_of_getElem? (i := 19) rfl))) (hw _ (List.mem_of_getElem? (i := 1) rfl)) (ty := .long) (by decide) rfl rfl (g := (mkF m 78 #[.val (.ref r), .val (.int x), .val (.int (0 : Int32)), .val (.int (3 : Int32))] [(.long (4 : Int64)), (.ref r)])) rfl rfl (hb hby d3_78)
  have E_r_31 := (E_r_29).wr W31
  have F_r_blocks_31 := (F_r_blocks_29).other W31 (Or.inr (slot_ne (Or.inl (hw _ (List.mem_of_getElem? (i := 12) rfl))) (Or.inl (hw _ (List.mem_of_getElem? (i := 19) rfl))) (by decide) (t := (.array (.array .int))) (t' := .long) (by decide) (by decide)))
  have F_r_length_31 := (F_r_length_29).same W31
  have A_ba_31 := (A_ba_29).other W31 (Ne.symm ne0)
  have A_bb_31 := (A_bb_29).other W31 (Ne.symm ne1)
  have K31 := (K29).wr W31 (Or.inl (List.mem_of_getElem? (i := 0) rfl))
  have Zs31 := Nat.le_trans Zs29 (Nat.le_of_eq W31.size.symm)
  have N31 := Fr.snoc X31 N29 g0
  refine own_step (fun _ kc_ => st31 _ kc_) ?_
  show own_Ends p e below s _ _ _ (T31.setTop (mkF m 81 #[.val (.ref r), .val (.int x), .val (.int (0 : Int32)), .val (.int (3 : Int32))] []))
  exact own_retV X31 hx hret hlk (hb hby d3_81) (by decide) (by decide) (by rw [e31]; exact ⟨rfl, N31, K31, F_r_blocks_31, F_r_length_31, A_bb_31⟩)
theorem ef_rmS0 (m : MethodId) (r : Addr) (x : Int32) : entryFrame m #[(.ref r), (.long (0 : Int64)), (.int x)] 4 = mkF m 0 #[.val (.ref r), .val (.long (0 : Int64)), .second, .val (.int x)] [] := by first | (simp [entryFrame, mkF, argsToLocals, Value.category]; done) | rfl
def QS0 (Z : State) (r : Addr) (x : Int32) (ba bb : Addr) (vs : List Value) (h0 : Heap) (n0 : Nat) (v : Option Value) (h : Heap) (L : List Loc) : Prop := v = none ∧ Fr n0 L ∧ Keep h0 h [bb] ∧ own_Ar Z h bb .int (vs.set 0 (.int x))
set_option maxRecDepth 65536 in
set_option maxHeartbeats 40000000 in
theorem rmS0 (l : Launch) (Z : State) (a0 : Array Value) (hw : ∀ d ∈ tables_1, d.before a0 Z = true) (ws : List Jvm.Cond) (r : Addr) (x : Int32) (ba bb : Addr) (vs : List Value) (h0 : Heap) (n0 : Nat) (Z0 : n0 ≤ h0.size) (FB0 : Fld Z h0 r "com/example/surfeit/surfeit/IntBlocks" "blocks" "[[I" (.ref ba)) (A0 : own_Ar Z h0 ba (.array .int) [.ref bb]) (A1 : own_Ar Z h0 bb .int vs) (hl : vs.length = 65536) (g1 : n0 ≤ bb) (ne1 : r ≠ bb) (ne2 : ba ≠ bb) :
    MetFree l (⟨"com/example/surfeit/surfeit/IntBlocks", "set", "(JI)V"⟩ : MethodName) (head1 (Jvm.Cond.code (⟨"com/example/surfeit/surfeit/IntBlocks", "set", "(JI)V"⟩ : MethodName) prog_12_method_4_code 4 none :: ws) ({ frames := 0, cells := 0, slots := 0, locals := 0 } : Room)) (fun a U => a = #[(.ref r), (.long (0 : Int64)), (.int x)] ∧ Z.Warmed39 U.vm ∧ U.heap = h0) (fun _ _ _ _ _ => True) (fun _ U o U' => ∃ v L, o = .returned v ∧ QS0 Z r x ba bb vs h0 n0 v U'.heap L ∧ FrameEnd U o U' L ({ frames := 0, cells := 0, slots := 0, locals := 0 } : Room).cells ({ frames := 0, cells := 0, slots := 0, locals := 0 } : Room).slots) := by
  refine MetFree.of_bodySF (plainFor_of_name pn_0) hisR ?_
  intro p e s m args below meth c s₁ Bd hml0 hP hK
  obtain ⟨rfl, hZ, hh⟩ := hP
  have hx := Bd.exec
  have hby := Bd.bytes
  have hlk : meth.locks = false := BodyLoose.notSynchronized Bd
  have hret := Bd.returns
  have hml : c.maxLocals = 4 := hml0
  have hown : s.vm.findClass "com/example/surfeit/surfeit/IntBlocks" = some m.cls := findClass_of_methodNamed Bd.named
  have hnm := (name_of_methodNamed Bd.named Bd.method).1
  have X0 : Stand p l e ({ frames := 0, cells := 0, slots := 0, locals := 0 } : Room) s m #[(.ref r), (.long (0 : Int64)), (.int x)] below meth c s₁ [] 0 0 := Stand.of_body Bd
  have e0 : s₁.heap = h0 := by rw [← hh, Bd.state]; rfl
  have N0 := Fr.nil n0
  show own_Ends p e below s 0 0 (QS0 Z r x ba bb vs h0 n0) (s₁.setTop (entryFrame m #[(.ref r), (.long (0 : Int64)), (.int x)] 4))
  refine own_step (fun t k => castTop (ef_rmS0 m r x) k) ?_
  show own_Ends p e below s _ _ _ (s₁.setTop (mkF m 0 #[.val (.ref r), .val (.long (0 : Int64)), .second, .val (.int x)] []))
  refine own_step (fun _ kc_ => XS.aloadN X0.here hx rfl (hb hby d4_0) rfl rfl kc_) ?_
  show own_Ends p e below s _ _ _ (s₁.setTop (mkF m 1 #[.val (.ref r), .val (.long (0 : Int64)), .second, .val (.int x)] [(.ref r)]))
  obtain ⟨T32, X32, e32, st32⟩ := getF X0 hx hZ hown (host := "") (Or.inl (hw _ (List.mem_of_getElem? (i := 11) rfl))) Via.refl e0 FB0 (g := (mkF m 1 #[.val (.ref r), .val (.long (0 : Int64)), .second, .val (.int x)] [(.ref r)])) rfl rfl (hb hby d4_1)
  refine own_step (fun _ kc_ => st32 _ kc_) ?_
  show own_Ends p e below s _ _ _ (T32.setTop (mkF m 4 #[.val (.ref r), .val (.long (0 : Int64)), .second, .val (.int x)] [(.ref ba)]))
  refine own_step (fun _ kc_ => XS.lloadN X32.here hx rfl (hb hby d4_4) rfl (XS.bipush X32.here hx rfl (hb hby d4_5) (XS.lushr X32.here hx rfl (hb hby d4_7) rfl kc_))) ?_
  show own_Ends p e below s _ _ _ (T32.setTop (mkF m 8 #[.val (.ref r), .val (.long (0 : Int64)), .second, .val (.int x)] [(.long (((0 : Int64).toUInt64 >>> ((16 : Int32) &&& 0x3f).toInt64.toUInt64).toInt64)), (.ref ba)]))
  rw [show (((0 : Int64).toUInt64 >>> ((16 : Int32) &&& 0x3f).toInt64.toUInt64).toInt64) = (0 : Int64) from by decide]
  show own_Ends p e below s _ _ _ (T32.setTop (mkF m 8 #[.val (.ref r), .val (.long (0 : Int64)), .second, .val (.int x)] [(.long (0 : Int64)), (.ref ba)]))
  refine own_step (fun _ kc_ => XS.l2i X32.here hx rfl (hb hby d4_8) rfl kc_) ?_
  show own_Ends p e below s _ _ _ (T32.setTop (mkF m 9 #[.val (.ref r), .val (.long (0 : Int64)), .second, .val (.int x)] [(.int ((0 : Int64).toInt32)), (.ref ba)]))
  rw [show ((0 : Int64).toInt32) = (0 : Int32) from by decide]
  show own_Ends p e below s _ _ _ (T32.setTop (mkF m 9 #[.val (.ref r), .val (.long (0 : Int64)), .second, .val (.int x)] [(.int (0 : Int32)), (.ref ba)]))
  refine own_step (fun _ kc_ => own_aaload X32 hx hZ e32 A0 rfl (j := (0 : Int32)) (by decide) (i := 0) rfl (v := (.ref bb)) rfl (hb hby d4_9) _ (XS.lloadN X32.here hx rfl (hb hby d4_10) rfl (XS.l2i X32.here hx rfl (hb hby d4_11) rfl kc_))) ?_
  show own_Ends p e below s _ _ _ (T32.setTop (mkF m 12 #[.val (.ref r), .val (.long (0 : Int64)), .second, .val (.int x)] [(.int ((0 : Int64).toInt32)), (.ref bb)]))
  rw [show ((0 : Int64).toInt32) = (0 : Int32) from by decide]
  show own_Ends p e below s _ _ _ (T32.setTop (mkF m 12 #[.val (.ref r), .val (.long (0 : Int64)), .second, .val (.int x)] [(.int (0 : Int32)), (.ref bb)]))
  refine own_step (fun _ kc_ => X32.ldcI hx hown (mvT hZ (hw _ (List.mem_of_getElem? (i := 20) rfl))) rfl (hb hby d4_12) (XS.iand X32.here hx rfl (hb hby d4_14) rfl kc_)) ?_
  show own_Ends p e below s _ _ _ (T32.setTop (mkF m 15 #[.val (.ref r), .val (.long (0 : Int64)), .second, .val (.int x)] [(.int ((0 : Int32) &&& (65535 : Int32))), (.ref bb)]))
  rw [show ((0 : Int32) &&& (65535 : Int32)) = (0 : Int32) from by decide]
  show own_Ends p e below s _ _ _ (T32.setTop (mkF m 15 #[.val (.ref r), .val (.long (0 : Int64)), .second, .val (.int x)] [(.int (0 : Int32)), (.ref bb)]))
  refine own_step (fun _ kc_ => XS.iloadN X32.here hx rfl (hb hby d4_15) rfl kc_) ?_
  show own_Ends p e below s _ _ _ (T32.setTop (mkF m 16 #[.val (.ref r), .val (.long (0 : Int64)), .second, .val (.int x)] [(.int x), (.int (0 : Int32)), (.ref bb)]))
  obtain ⟨T33, h33, X33, e33, W33, A33, st33⟩ := own_iastore X32 hx hZ e32 A1 (j := (0 : Int32)) (x := x) (by decide) (i := 0) rfl (by rw [hl]; decide) (Ls := #[.val (.ref r), .val (.long (0 : Int64)), .second, .val (.int x)]) (st := []) (hb hby d4_16)
  have A_bb_33 : own_Ar Z h33 bb .int ((vs).set 0 (.int x)) := A33
  have F_r_blocks_33 := (FB0).other W33 (Or.inl ne1)
  have A_ba_33 := (A0).other W33 ne2
  have K33 := ((Keep.refl h0 [bb])).wr W33 (Or.inl (List.mem_of_getElem? (i := 0) rfl))
  have Zs33 := Nat.le_trans Z0 (Nat.le_of_eq W33.size.symm)
  have N33 := Fr.snoc X33 N0 g1
  refine own_step (fun _ kc_ => st33 _ kc_) ?_
  show own_Ends p e below s _ _ _ (T33.setTop (mkF m 17 #[.val (.ref r), .val (.long (0 : Int64)), .second, .val (.int x)] []))
  exact own_retV X33 hx hret hlk (hb hby d4_17) (by decide) (by decide) (by rw [e33]; exact ⟨rfl, N33, K33, A_bb_33⟩)
theorem ef_rmS1 (m : MethodId) (r : Addr) (x : Int32) : entryFrame m #[(.ref r), (.long (1 : Int64)), (.int x)] 4 = mkF m 0 #[.val (.ref r), .val (.long (1 : Int64)), .second, .val (.int x)] [] := by first | (simp [entryFrame, mkF, argsToLocals, Value.category]; done) | rfl
def QS1 (Z : State) (r : Addr) (x : Int32) (ba bb : Addr) (vs : List Value) (h0 : Heap) (n0 : Nat) (v : Option Value) (h : Heap) (L : List Loc) : Prop := v = none ∧ Fr n0 L ∧ Keep h0 h [bb] ∧ own_Ar Z h bb .int (vs.set 1 (.int x))
set_option maxRecDepth 65536 in
set_option maxHeartbeats 40000000 in
theorem rmS1 (l : Launch) (Z : State) (a0 : Array Value) (hw : ∀ d ∈ tables_1, d.before a0 Z = true) (ws : List Jvm.Cond) (r : Addr) (x : Int32) (ba bb : Addr) (vs : List Value) (h0 : Heap) (n0 : Nat) (Z0 : n0 ≤ h0.size) (FB0 : Fld Z h0 r "com/example/surfeit/surfeit/IntBlocks" "blocks" "[[I" (.ref ba)) (A0 : own_Ar Z h0 ba (.array .int) [.ref bb]) (A1 : own_Ar Z h0 bb .int vs) (hl : vs.length = 65536) (g1 : n0 ≤ bb) (ne1 : r ≠ bb) (ne2 : ba ≠ bb) :
    MetFree l (⟨"com/example/surfeit/surfeit/IntBlocks", "set", "(JI)V"⟩ : MethodName) (head1 (Jvm.Cond.code (⟨"com/example/surfeit/surfeit/IntBlocks", "set", "(JI)V"⟩ : MethodName) prog_12_method_4_code 4 none :: ws) ({ frames := 0, cells := 0, slots := 0, locals := 0 } : Room)) (fun a U => a = #[(.ref r), (.long (1 : Int64)), (.int x)] ∧ Z.Warmed39 U.vm ∧ U.heap = h0) (fun _ _ _ _ _ => True) (fun _ U o U' => ∃ v L, o = .returned v ∧ QS1 Z r x ba bb vs h0 n0 v U'.heap L ∧ FrameEnd U o U' L ({ frames := 0, cells := 0, slots := 0, locals := 0 } : Room).cells ({ frames := 0, cells := 0, slots := 0, locals := 0 } : Room).slots) := by
  refine MetFree.of_bodySF (plainFor_of_name pn_0) hisR ?_
  intro p e s m args below meth c s₁ Bd hml0 hP hK
  obtain ⟨rfl, hZ, hh⟩ := hP
  have hx := Bd.exec
  have hby := Bd.bytes
  have hlk : meth.locks = false := BodyLoose.notSynchronized Bd
  have hret := Bd.returns
  have hml : c.maxLocals = 4 := hml0
  have hown : s.vm.findClass "com/example/surfeit/surfeit/IntBlocks" = some m.cls := findClass_of_methodNamed Bd.named
  have hnm := (name_of_methodNamed Bd.named Bd.method).1
  have X0 : Stand p l e ({ frames := 0, cells := 0, slots := 0, locals := 0 } : Room) s m #[(.ref r), (.long (1 : Int64)), (.int x)] below meth c s₁ [] 0 0 := Stand.of_body Bd
  have e0 : s₁.heap = h0 := by rw [← hh, Bd.state]; rfl
  have N0 := Fr.nil n0
  show own_Ends p e below s 0 0 (QS1 Z r x ba bb vs h0 n0) (s₁.setTop (entryFrame m #[(.ref r), (.long (1 : Int64)), (.int x)] 4))
  refine own_step (fun t k => castTop (ef_rmS1 m r x) k) ?_
  show own_Ends p e below s _ _ _ (s₁.setTop (mkF m 0 #[.val (.ref r), .val (.long (1 : Int64)), .second, .val (.int x)] []))
  refine own_step (fun _ kc_ => XS.aloadN X0.here hx rfl (hb hby d4_0) rfl rfl kc_) ?_
  show own_Ends p e below s _ _ _ (s₁.setTop (mkF m 1 #[.val (.ref r), .val (.long (1 : Int64)), .second, .val (.int x)] [(.ref r)]))
  obtain ⟨T34, X34, e34, st34⟩ := getF X0 hx hZ hown (host := "") (Or.inl (hw _ (List.mem_of_getElem? (i := 11) rfl))) Via.refl e0 FB0 (g := (mkF m 1 #[.val (.ref r), .val (.long (1 : Int64)), .second, .val (.int x)] [(.ref r)])) rfl rfl (hb hby d4_1)
  refine own_step (fun _ kc_ => st34 _ kc_) ?_
  show own_Ends p e below s _ _ _ (T34.setTop (mkF m 4 #[.val (.ref r), .val (.long (1 : Int64)), .second, .val (.int x)] [(.ref ba)]))
  refine own_step (fun _ kc_ => XS.lloadN X34.here hx rfl (hb hby d4_4) rfl (XS.bipush X34.here hx rfl (hb hby d4_5) (XS.lushr X34.here hx rfl (hb hby d4_7) rfl kc_))) ?_
  show own_Ends p e below s _ _ _ (T34.setTop (mkF m 8 #[.val (.ref r), .val (.long (1 : Int64)), .second, .val (.int x)] [(.long (((1 : Int64).toUInt64 >>> ((16 : Int32) &&& 0x3f).toInt64.toUInt64).toInt64)), (.ref ba)]))
  rw [show (((1 : Int64).toUInt64 >>> ((16 : Int32) &&& 0x3f).toInt64.toUInt64).toInt64) = (0 : Int64) from by decide]
  show own_Ends p e below s _ _ _ (T34.setTop (mkF m 8 #[.val (.ref r), .val (.long (1 : Int64)), .second, .val (.int x)] [(.long (0 : Int64)), (.ref ba)]))
  refine own_step (fun _ kc_ => XS.l2i X34.here hx rfl (hb hby d4_8) rfl kc_) ?_
  show own_Ends p e below s _ _ _ (T34.setTop (mkF m 9 #[.val (.ref r), .val (.long (1 : Int64)), .second, .val (.int x)] [(.int ((0 : Int64).toInt32)), (.ref ba)]))
  rw [show ((0 : Int64).toInt32) = (0 : Int32) from by decide]
  show own_Ends p e below s _ _ _ (T34.setTop (mkF m 9 #[.val (.ref r), .val (.long (1 : Int64)), .second, .val (.int x)] [(.int (0 : Int32)), (.ref ba)]))
  refine own_step (fun _ kc_ => own_aaload X34 hx hZ e34 A0 rfl (j := (0 : Int32)) (by decide) (i := 0) rfl (v := (.ref bb)) rfl (hb hby d4_9) _ (XS.lloadN X34.here hx rfl (hb hby d4_10) rfl (XS.l2i X34.here hx rfl (hb hby d4_11) rfl kc_))) ?_
  show own_Ends p e below s _ _ _ (T34.setTop (mkF m 12 #[.val (.ref r), .val (.long (1 : Int64)), .second, .val (.int x)] [(.int ((1 : Int64).toInt32)), (.ref bb)]))
  rw [show ((1 : Int64).toInt32) = (1 : Int32) from by decide]
  show own_Ends p e below s _ _ _ (T34.setTop (mkF m 12 #[.val (.ref r), .val (.long (1 : Int64)), .second, .val (.int x)] [(.int (1 : Int32)), (.ref bb)]))
  refine own_step (fun _ kc_ => X34.ldcI hx hown (mvT hZ (hw _ (List.mem_of_getElem? (i := 20) rfl))) rfl (hb hby d4_12) (XS.iand X34.here hx rfl (hb hby d4_14) rfl kc_)) ?_
  show own_Ends p e below s _ _ _ (T34.setTop (mkF m 15 #[.val (.ref r), .val (.long (1 : Int64)), .second, .val (.int x)] [(.int ((1 : Int32) &&& (65535 : Int32))), (.ref bb)]))
  rw [show ((1 : Int32) &&& (65535 : Int32)) = (1 : Int32) from by decide]
  show own_Ends p e below s _ _ _ (T34.setTop (mkF m 15 #[.val (.ref r), .val (.long (1 : Int64)), .second, .val (.int x)] [(.int (1 : Int32)), (.ref bb)]))
  refine own_step (fun _ kc_ => XS.iloadN X34.here hx rfl (hb hby d4_15) rfl kc_) ?_
  show own_Ends p e below s _ _ _ (T34.setTop (mkF m 16 #[.val (.ref r), .val (.long (1 : Int64)), .second, .val (.int x)] [(.int x), (.int (1 : Int32)), (.ref bb)]))
  obtain ⟨T35, h35, X35, e35, W35, A35, st35⟩ := own_iastore X34 hx hZ e34 A1 (j := (1 : Int32)) (x := x) (by decide) (i := 1) rfl (by rw [hl]; decide) (Ls := #[.val (.ref r), .val (.long (1 : Int64)), .second, .val (.int x)]) (st := []) (hb hby d4_16)
  have A_bb_35 : own_Ar Z h35 bb .int ((vs).set 1 (.int x)) := A35
  have F_r_blocks_35 := (FB0).other W35 (Or.inl ne1)
  have A_ba_35 := (A0).other W35 ne2
  have K35 := ((Keep.refl h0 [bb])).wr W35 (Or.inl (List.mem_of_getElem? (i := 0) rfl))
  have Zs35 := Nat.le_trans Z0 (Nat.le_of_eq W35.size.symm)
  have N35 := Fr.snoc X35 N0 g1
  refine own_step (fun _ kc_ => st35 _ kc_) ?_
  show own_Ends p e below s _ _ _ (T35.setTop (mkF m 17 #[.val (.ref r), .val (.long (1 : Int64)), .second, .val (.int x)] []))
  exact own_retV X35 hx hret hlk (hb hby d4_17) (by decide) (by decide) (by rw [e35]; exact ⟨rfl, N35, K35, A_bb_35⟩)
theorem ef_rmS2 (m : MethodId) (r : Addr) (x : Int32) : entryFrame m #[(.ref r), (.long (2 : Int64)), (.int x)] 4 = mkF m 0 #[.val (.ref r), .val (.long (2 : Int64)), .second, .val (.int x)] [] := by first | (simp [entryFrame, mkF, argsToLocals, Value.category]; done) | rfl
def QS2 (Z : State) (r : Addr) (x : Int32) (ba bb : Addr) (vs : List Value) (h0 : Heap) (n0 : Nat) (v : Option Value) (h : Heap) (L : List Loc) : Prop := v = none ∧ Fr n0 L ∧ Keep h0 h [bb] ∧ own_Ar Z h bb .int (vs.set 2 (.int x))
set_option maxRecDepth 65536 in
set_option maxHeartbeats 40000000 in
theorem rmS2 (l : Launch) (Z : State) (a0 : Array Value) (hw : ∀ d ∈ tables_1, d.before a0 Z = true) (ws : List Jvm.Cond) (r : Addr) (x : Int32) (ba bb : Addr) (vs : List Value) (h0 : Heap) (n0 : Nat) (Z0 : n0 ≤ h0.size) (FB0 : Fld Z h0 r "com/example/surfeit/surfeit/IntBlocks" "blocks" "[[I" (.ref ba)) (A0 : own_Ar Z h0 ba (.array .int) [.ref bb]) (A1 : own_Ar Z h0 bb .int vs) (hl : vs.length = 65536) (g1 : n0 ≤ bb) (ne1 : r ≠ bb) (ne2 : ba ≠ bb) :
    MetFree l (⟨"com/example/surfeit/surfeit/IntBlocks", "set", "(JI)V"⟩ : MethodName) (head1 (Jvm.Cond.code (⟨"com/example/surfeit/surfeit/IntBlocks", "set", "(JI)V"⟩ : MethodName) prog_12_method_4_code 4 none :: ws) ({ frames := 0, cells := 0, slots := 0, locals := 0 } : Room)) (fun a U => a = #[(.ref r), (.long (2 : Int64)), (.int x)] ∧ Z.Warmed39 U.vm ∧ U.heap = h0) (fun _ _ _ _ _ => True) (fun _ U o U' => ∃ v L, o = .returned v ∧ QS2 Z r x ba bb vs h0 n0 v U'.heap L ∧ FrameEnd U o U' L ({ frames := 0, cells := 0, slots := 0, locals := 0 } : Room).cells ({ frames := 0, cells := 0, slots := 0, locals := 0 } : Room).slots) := by
  refine MetFree.of_bodySF (plainFor_of_name pn_0) hisR ?_
  intro p e s m args below meth c s₁ Bd hml0 hP hK
  obtain ⟨rfl, hZ, hh⟩ := hP
  have hx := Bd.exec
  have hby := Bd.bytes
  have hlk : meth.locks = false := BodyLoose.notSynchronized Bd
  have hret := Bd.returns
  have hml : c.maxLocals = 4 := hml0
  have hown : s.vm.findClass "com/example/surfeit/surfeit/IntBlocks" = some m.cls := findClass_of_methodNamed Bd.named
  have hnm := (name_of_methodNamed Bd.named Bd.method).1
  have X0 : Stand p l e ({ frames := 0, cells := 0, slots := 0, locals := 0 } : Room) s m #[(.ref r), (.long (2 : Int64)), (.int x)] below meth c s₁ [] 0 0 := Stand.of_body Bd
  have e0 : s₁.heap = h0 := by rw [← hh, Bd.state]; rfl
  have N0 := Fr.nil n0
  show own_Ends p e below s 0 0 (QS2 Z r x ba bb vs h0 n0) (s₁.setTop (entryFrame m #[(.ref r), (.long (2 : Int64)), (.int x)] 4))
  refine own_step (fun t k => castTop (ef_rmS2 m r x) k) ?_
  show own_Ends p e below s _ _ _ (s₁.setTop (mkF m 0 #[.val (.ref r), .val (.long (2 : Int64)), .second, .val (.int x)] []))
  refine own_step (fun _ kc_ => XS.aloadN X0.here hx rfl (hb hby d4_0) rfl rfl kc_) ?_
  show own_Ends p e below s _ _ _ (s₁.setTop (mkF m 1 #[.val (.ref r), .val (.long (2 : Int64)), .second, .val (.int x)] [(.ref r)]))
  obtain ⟨T36, X36, e36, st36⟩ := getF X0 hx hZ hown (host := "") (Or.inl (hw _ (List.mem_of_getElem? (i := 11) rfl))) Via.refl e0 FB0 (g := (mkF m 1 #[.val (.ref r), .val (.long (2 : Int64)), .second, .val (.int x)] [(.ref r)])) rfl rfl (hb hby d4_1)
  refine own_step (fun _ kc_ => st36 _ kc_) ?_
  show own_Ends p e below s _ _ _ (T36.setTop (mkF m 4 #[.val (.ref r), .val (.long (2 : Int64)), .second, .val (.int x)] [(.ref ba)]))
  refine own_step (fun _ kc_ => XS.lloadN X36.here hx rfl (hb hby d4_4) rfl (XS.bipush X36.here hx rfl (hb hby d4_5) (XS.lushr X36.here hx rfl (hb hby d4_7) rfl kc_))) ?_
  show own_Ends p e below s _ _ _ (T36.setTop (mkF m 8 #[.val (.ref r), .val (.long (2 : Int64)), .second, .val (.int x)] [(.long (((2 : Int64).toUInt64 >>> ((16 : Int32) &&& 0x3f).toInt64.toUInt64).toInt64)), (.ref ba)]))
  rw [show (((2 : Int64).toUInt64 >>> ((16 : Int32) &&& 0x3f).toInt64.toUInt64).toInt64) = (0 : Int64) from by decide]
  show own_Ends p e below s _ _ _ (T36.setTop (mkF m 8 #[.val (.ref r), .val (.long (2 : Int64)), .second, .val (.int x)] [(.long (0 : Int64)), (.ref ba)]))
  refine own_step (fun _ kc_ => XS.l2i X36.here hx rfl (hb hby d4_8) rfl kc_) ?_
  show own_Ends p e below s _ _ _ (T36.setTop (mkF m 9 #[.val (.ref r), .val (.long (2 : Int64)), .second, .val (.int x)] [(.int ((0 : Int64).toInt32)), (.ref ba)]))
  rw [show ((0 : Int64).toInt32) = (0 : Int32) from by decide]
  show own_Ends p e below s _ _ _ (T36.setTop (mkF m 9 #[.val (.ref r), .val (.long (2 : Int64)), .second, .val (.int x)] [(.int (0 : Int32)), (.ref ba)]))
  refine own_step (fun _ kc_ => own_aaload X36 hx hZ e36 A0 rfl (j := (0 : Int32)) (by decide) (i := 0) rfl (v := (.ref bb)) rfl (hb hby d4_9) _ (XS.lloadN X36.here hx rfl (hb hby d4_10) rfl (XS.l2i X36.here hx rfl (hb hby d4_11) rfl kc_))) ?_
  show own_Ends p e below s _ _ _ (T36.setTop (mkF m 12 #[.val (.ref r), .val (.long (2 : Int64)), .second, .val (.int x)] [(.int ((2 : Int64).toInt32)), (.ref bb)]))
  rw [show ((2 : Int64).toInt32) = (2 : Int32) from by decide]
  show own_Ends p e below s _ _ _ (T36.setTop (mkF m 12 #[.val (.ref r), .val (.long (2 : Int64)), .second, .val (.int x)] [(.int (2 : Int32)), (.ref bb)]))
  refine own_step (fun _ kc_ => X36.ldcI hx hown (mvT hZ (hw _ (List.mem_of_getElem? (i := 20) rfl))) rfl (hb hby d4_12) (XS.iand X36.here hx rfl (hb hby d4_14) rfl kc_)) ?_
  show own_Ends p e below s _ _ _ (T36.setTop (mkF m 15 #[.val (.ref r), .val (.long (2 : Int64)), .second, .val (.int x)] [(.int ((2 : Int32) &&& (65535 : Int32))), (.ref bb)]))
  rw [show ((2 : Int32) &&& (65535 : Int32)) = (2 : Int32) from by decide]
  show own_Ends p e below s _ _ _ (T36.setTop (mkF m 15 #[.val (.ref r), .val (.long (2 : Int64)), .second, .val (.int x)] [(.int (2 : Int32)), (.ref bb)]))
  refine own_step (fun _ kc_ => XS.iloadN X36.here hx rfl (hb hby d4_15) rfl kc_) ?_
  show own_Ends p e below s _ _ _ (T36.setTop (mkF m 16 #[.val (.ref r), .val (.long (2 : Int64)), .second, .val (.int x)] [(.int x), (.int (2 : Int32)), (.ref bb)]))
  obtain ⟨T37, h37, X37, e37, W37, A37, st37⟩ := own_iastore X36 hx hZ e36 A1 (j := (2 : Int32)) (x := x) (by decide) (i := 2) rfl (by rw [hl]; decide) (Ls := #[.val (.ref r), .val (.long (2 : Int64)), .second, .val (.int x)]) (st := []) (hb hby d4_16)
  have A_bb_37 : own_Ar Z h37 bb .int ((vs).set 2 (.int x)) := A37
  have F_r_blocks_37 := (FB0).other W37 (Or.inl ne1)
  have A_ba_37 := (A0).other W37 ne2
  have K37 := ((Keep.refl h0 [bb])).wr W37 (Or.inl (List.mem_of_getElem? (i := 0) rfl))
  have Zs37 := Nat.le_trans Z0 (Nat.le_of_eq W37.size.symm)
  have N37 := Fr.snoc X37 N0 g1
  refine own_step (fun _ kc_ => st37 _ kc_) ?_
  show own_Ends p e below s _ _ _ (T37.setTop (mkF m 17 #[.val (.ref r), .val (.long (2 : Int64)), .second, .val (.int x)] []))
  exact own_retV X37 hx hret hlk (hb hby d4_17) (by decide) (by decide) (by rw [e37]; exact ⟨rfl, N37, K37, A_bb_37⟩)
theorem ef_rmG0 (m : MethodId) (r : Addr) : entryFrame m #[(.ref r), (.long (0 : Int64))] 3 = mkF m 0 #[.val (.ref r), .val (.long (0 : Int64)), .second] [] := by first | (simp [entryFrame, mkF, argsToLocals, Value.category]; done) | rfl
def QG0 (Z : State) (r : Addr) (ba bb : Addr) (vs : List Value) (y : Int32) (h0 : Heap) (n0 : Nat) (v : Option Value) (h : Heap) (L : List Loc) : Prop := v = some (.int y) ∧ Fr n0 L ∧ h = h0
set_option maxRecDepth 65536 in
set_option maxHeartbeats 40000000 in
theorem rmG0 (l : Launch) (Z : State) (a0 : Array Value) (hw : ∀ d ∈ tables_1, d.before a0 Z = true) (ws : List Jvm.Cond) (r : Addr) (ba bb : Addr) (vs : List Value) (y : Int32) (h0 : Heap) (n0 : Nat) (Z0 : n0 ≤ h0.size) (FB0 : Fld Z h0 r "com/example/surfeit/surfeit/IntBlocks" "blocks" "[[I" (.ref ba)) (A0 : own_Ar Z h0 ba (.array .int) [.ref bb]) (A1 : own_Ar Z h0 bb .int vs) (hv : vs[0]? = some (.int y)) :
    MetFree l (⟨"com/example/surfeit/surfeit/IntBlocks", "get", "(J)I"⟩ : MethodName) (head1 (Jvm.Cond.code (⟨"com/example/surfeit/surfeit/IntBlocks", "get", "(J)I"⟩ : MethodName) prog_12_method_3_code 3 (some .int) :: ws) ({ frames := 0, cells := 0, slots := 0, locals := 0 } : Room)) (fun a U => a = #[(.ref r), (.long (0 : Int64))] ∧ Z.Warmed39 U.vm ∧ U.heap = h0) (fun _ _ _ _ _ => True) (fun _ U o U' => ∃ v L, o = .returned v ∧ QG0 Z r ba bb vs y h0 n0 v U'.heap L ∧ FrameEnd U o U' L ({ frames := 0, cells := 0, slots := 0, locals := 0 } : Room).cells ({ frames := 0, cells := 0, slots := 0, locals := 0 } : Room).slots) := by
  refine MetFree.of_bodySF (plainFor_of_name pn_0) hisR ?_
  intro p e s m args below meth c s₁ Bd hml0 hP hK
  obtain ⟨rfl, hZ, hh⟩ := hP
  have hx := Bd.exec
  have hby := Bd.bytes
  have hlk : meth.locks = false := BodyLoose.notSynchronized Bd
  have hret := Bd.returns
  have hml : c.maxLocals = 3 := hml0
  have hown : s.vm.findClass "com/example/surfeit/surfeit/IntBlocks" = some m.cls := findClass_of_methodNamed Bd.named
  have hnm := (name_of_methodNamed Bd.named Bd.method).1
  have X0 : Stand p l e ({ frames := 0, cells := 0, slots := 0, locals := 0 } : Room) s m #[(.ref r), (.long (0 : Int64))] below meth c s₁ [] 0 0 := Stand.of_body Bd
  have e0 : s₁.heap = h0 := by rw [← hh, Bd.state]; rfl
  have N0 := Fr.nil n0
  show own_Ends p e below s 0 0 (QG0 Z r ba bb vs y h0 n0) (s₁.setTop (entryFrame m #[(.ref r), (.long (0 : Int64))] 3))
  refine own_step (fun t k => castTop (ef_rmG0 m r) k) ?_
  show own_Ends p e below s _ _ _ (s₁.setTop (mkF m 0 #[.val (.ref r), .val (.long (0 : Int64)), .second] []))
  refine own_step (fun _ kc_ => XS.aloadN X0.here hx rfl (hb hby d5_0) rfl rfl kc_) ?_
  show own_Ends p e below s _ _ _ (s₁.setTop (mkF m 1 #[.val (.ref r), .val (.long (0 : Int64)), .second] [(.ref r)]))
  obtain ⟨T38, X38, e38, st38⟩ := getF X0 hx hZ hown (host := "") (Or.inl (hw _ (List.mem_of_getElem? (i := 11) rfl))) Via.refl e0 FB0 (g := (mkF m 1 #[.val (.ref r), .val (.long (0 : Int64)), .second] [(.ref r)])) rfl rfl (hb hby d5_1)
  refine own_step (fun _ kc_ => st38 _ kc_) ?_
  show own_Ends p e below s _ _ _ (T38.setTop (mkF m 4 #[.val (.ref r), .val (.long (0 : Int64)), .second] [(.ref ba)]))
  refine own_step (fun _ kc_ => XS.lloadN X38.here hx rfl (hb hby d5_4) rfl (XS.bipush X38.here hx rfl (hb hby d5_5) (XS.lushr X38.here hx rfl (hb hby d5_7) rfl kc_))) ?_
  show own_Ends p e below s _ _ _ (T38.setTop (mkF m 8 #[.val (.ref r), .val (.long (0 : Int64)), .second] [(.long (((0 : Int64).toUInt64 >>> ((16 : Int32) &&& 0x3f).toInt64.toUInt64).toInt64)), (.ref ba)]))
  rw [show (((0 : Int64).toUInt64 >>> ((16 : Int32) &&& 0x3f).toInt64.toUInt64).toInt64) = (0 : Int64) from by decide]
  show own_Ends p e below s _ _ _ (T38.setTop (mkF m 8 #[.val (.ref r), .val (.long (0 : Int64)), .second] [(.long (0 : Int64)), (.ref ba)]))
  refine own_step (fun _ kc_ => XS.l2i X38.here hx rfl (hb hby d5_8) rfl kc_) ?_
  show own_Ends p e below s _ _ _ (T38.setTop (mkF m 9 #[.val (.ref r), .val (.long (0 : Int64)), .second] [(.int ((0 : Int64).toInt32)), (.ref ba)]))
  rw [show ((0 : Int64).toInt32) = (0 : Int32) from by decide]
  show own_Ends p e below s _ _ _ (T38.setTop (mkF m 9 #[.val (.ref r), .val (.long (0 : Int64)), .second] [(.int (0 : Int32)), (.ref ba)]))
  refine own_step (fun _ kc_ => own_aaload X38 hx hZ e38 A0 rfl (j := (0 : Int32)) (by decide) (i := 0) rfl (v := (.ref bb)) rfl (hb hby d5_9) _ (XS.lloadN X38.here hx rfl (hb hby d5_10) rfl (XS.l2i X38.here hx rfl (hb hby d5_11) rfl kc_))) ?_
  show own_Ends p e below s _ _ _ (T38.setTop (mkF m 12 #[.val (.ref r), .val (.long (0 : Int64)), .second] [(.int ((0 : Int64).toInt32)), (.ref bb)]))
  rw [show ((0 : Int64).toInt32) = (0 : Int32) from by decide]
  show own_Ends p e below s _ _ _ (T38.setTop (mkF m 12 #[.val (.ref r), .val (.long (0 : Int64)), .second] [(.int (0 : Int32)), (.ref bb)]))
  refine own_step (fun _ kc_ => X38.ldcI hx hown (mvT hZ (hw _ (List.mem_of_getElem? (i := 20) rfl))) rfl (hb hby d5_12) (XS.iand X38.here hx rfl (hb hby d5_14) rfl kc_)) ?_
  show own_Ends p e below s _ _ _ (T38.setTop (mkF m 15 #[.val (.ref r), .val (.long (0 : Int64)), .second] [(.int ((0 : Int32) &&& (65535 : Int32))), (.ref bb)]))
  rw [show ((0 : Int32) &&& (65535 : Int32)) = (0 : Int32) from by decide]
  show own_Ends p e below s _ _ _ (T38.setTop (mkF m 15 #[.val (.ref r), .val (.long (0 : Int64)), .second] [(.int (0 : Int32)), (.ref bb)]))
  refine own_step (fun _ kc_ => own_iaload X38 hx hZ e38 A1 (j := (0 : Int32)) (by decide) (i := 0) rfl (v := (.int y)) hv (hb hby d5_15) _ kc_) ?_
  show own_Ends p e below s _ _ _ (T38.setTop (mkF m 16 #[.val (.ref r), .val (.long (0 : Int64)), .second] [(.int y)]))
  exact own_retI X38 hx hret hlk (hb hby d5_16) (by decide) (by decide) ⟨rfl, N0, e38⟩
theorem ef_rmG1 (m : MethodId) (r : Addr) : entryFrame m #[(.ref r), (.long (1 : Int64))] 3 = mkF m 0 #[.val (.ref r), .val (.long (1 : Int64)), .second] [] := by first | (simp [entryFrame, mkF, argsToLocals, Value.category]; done) | rfl
def QG1 (Z : State) (r : Addr) (ba bb : Addr) (vs : List Value) (y : Int32) (h0 : Heap) (n0 : Nat) (v : Option Value) (h : Heap) (L : List Loc) : Prop := v = some (.int y) ∧ Fr n0 L ∧ h = h0
set_option maxRecDepth 65536 in
set_option maxHeartbeats 40000000 in
theorem rmG1 (l : Launch) (Z : State) (a0 : Array Value) (hw : ∀ d ∈ tables_1, d.before a0 Z = true) (ws : List Jvm.Cond) (r : Addr) (ba bb : Addr) (vs : List Value) (y : Int32) (h0 : Heap) (n0 : Nat) (Z0 : n0 ≤ h0.size) (FB0 : Fld Z h0 r "com/example/surfeit/surfeit/IntBlocks" "blocks" "[[I" (.ref ba)) (A0 : own_Ar Z h0 ba (.array .int) [.ref bb]) (A1 : own_Ar Z h0 bb .int vs) (hv : vs[1]? = some (.int y)) :
    MetFree l (⟨"com/example/surfeit/surfeit/IntBlocks", "get", "(J)I"⟩ : MethodName) (head1 (Jvm.Cond.code (⟨"com/example/surfeit/surfeit/IntBlocks", "get", "(J)I"⟩ : MethodName) prog_12_method_3_code 3 (some .int) :: ws) ({ frames := 0, cells := 0, slots := 0, locals := 0 } : Room)) (fun a U => a = #[(.ref r), (.long (1 : Int64))] ∧ Z.Warmed39 U.vm ∧ U.heap = h0) (fun _ _ _ _ _ => True) (fun _ U o U' => ∃ v L, o = .returned v ∧ QG1 Z r ba bb vs y h0 n0 v U'.heap L ∧ FrameEnd U o U' L ({ frames := 0, cells := 0, slots := 0, locals := 0 } : Room).cells ({ frames := 0, cells := 0, slots := 0, locals := 0 } : Room).slots) := by
  refine MetFree.of_bodySF (plainFor_of_name pn_0) hisR ?_
  intro p e s m args below meth c s₁ Bd hml0 hP hK
  obtain ⟨rfl, hZ, hh⟩ := hP
  have hx := Bd.exec
  have hby := Bd.bytes
  have hlk : meth.locks = false := BodyLoose.notSynchronized Bd
  have hret := Bd.returns
  have hml : c.maxLocals = 3 := hml0
  have hown : s.vm.findClass "com/example/surfeit/surfeit/IntBlocks" = some m.cls := findClass_of_methodNamed Bd.named
  have hnm := (name_of_methodNamed Bd.named Bd.method).1
  have X0 : Stand p l e ({ frames := 0, cells := 0, slots := 0, locals := 0 } : Room) s m #[(.ref r), (.long (1 : Int64))] below meth c s₁ [] 0 0 := Stand.of_body Bd
  have e0 : s₁.heap = h0 := by rw [← hh, Bd.state]; rfl
  have N0 := Fr.nil n0
  show own_Ends p e below s 0 0 (QG1 Z r ba bb vs y h0 n0) (s₁.setTop (entryFrame m #[(.ref r), (.long (1 : Int64))] 3))
  refine own_step (fun t k => castTop (ef_rmG1 m r) k) ?_
  show own_Ends p e below s _ _ _ (s₁.setTop (mkF m 0 #[.val (.ref r), .val (.long (1 : Int64)), .second] []))
  refine own_step (fun _ kc_ => XS.aloadN X0.here hx rfl (hb hby d5_0) rfl rfl kc_) ?_
  show own_Ends p e below s _ _ _ (s₁.setTop (mkF m 1 #[.val (.ref r), .val (.long (1 : Int64)), .second] [(.ref r)]))
  obtain ⟨T39, X39, e39, st39⟩ := getF X0 hx hZ hown (host := "") (Or.inl (hw _ (List.mem_of_getElem? (i := 11) rfl))) Via.refl e0 FB0 (g := (mkF m 1 #[.val (.ref r), .val (.long (1 : Int64)), .second] [(.ref r)])) rfl rfl (hb hby d5_1)
  refine own_step (fun _ kc_ => st39 _ kc_) ?_
  show own_Ends p e below s _ _ _ (T39.setTop (mkF m 4 #[.val (.ref r), .val (.long (1 : Int64)), .second] [(.ref ba)]))
  refine own_step (fun _ kc_ => XS.lloadN X39.here hx rfl (hb hby d5_4) rfl (XS.bipush X39.here hx rfl (hb hby d5_5) (XS.lushr X39.here hx rfl (hb hby d5_7) rfl kc_))) ?_
  show own_Ends p e below s _ _ _ (T39.setTop (mkF m 8 #[.val (.ref r), .val (.long (1 : Int64)), .second] [(.long (((1 : Int64).toUInt64 >>> ((16 : Int32) &&& 0x3f).toInt64.toUInt64).toInt64)), (.ref ba)]))
  rw [show (((1 : Int64).toUInt64 >>> ((16 : Int32) &&& 0x3f).toInt64.toUInt64).toInt64) = (0 : Int64) from by decide]
  show own_Ends p e below s _ _ _ (T39.setTop (mkF m 8 #[.val (.ref r), .val (.long (1 : Int64)), .second] [(.long (0 : Int64)), (.ref ba)]))
  refine own_step (fun _ kc_ => XS.l2i X39.here hx rfl (hb hby d5_8) rfl kc_) ?_
  show own_Ends p e below s _ _ _ (T39.setTop (mkF m 9 #[.val (.ref r), .val (.long (1 : Int64)), .second] [(.int ((0 : Int64).toInt32)), (.ref ba)]))
  rw [show ((0 : Int64).toInt32) = (0 : Int32) from by decide]
  show own_Ends p e below s _ _ _ (T39.setTop (mkF m 9 #[.val (.ref r), .val (.long (1 : Int64)), .second] [(.int (0 : Int32)), (.ref ba)]))
  refine own_step (fun _ kc_ => own_aaload X39 hx hZ e39 A0 rfl (j := (0 : Int32)) (by decide) (i := 0) rfl (v := (.ref bb)) rfl (hb hby d5_9) _ (XS.lloadN X39.here hx rfl (hb hby d5_10) rfl (XS.l2i X39.here hx rfl (hb hby d5_11) rfl kc_))) ?_
  show own_Ends p e below s _ _ _ (T39.setTop (mkF m 12 #[.val (.ref r), .val (.long (1 : Int64)), .second] [(.int ((1 : Int64).toInt32)), (.ref bb)]))
  rw [show ((1 : Int64).toInt32) = (1 : Int32) from by decide]
  show own_Ends p e below s _ _ _ (T39.setTop (mkF m 12 #[.val (.ref r), .val (.long (1 : Int64)), .second] [(.int (1 : Int32)), (.ref bb)]))
  refine own_step (fun _ kc_ => X39.ldcI hx hown (mvT hZ (hw _ (List.mem_of_getElem? (i := 20) rfl))) rfl (hb hby d5_12) (XS.iand X39.here hx rfl (hb hby d5_14) rfl kc_)) ?_
  show own_Ends p e below s _ _ _ (T39.setTop (mkF m 15 #[.val (.ref r), .val (.long (1 : Int64)), .second] [(.int ((1 : Int32) &&& (65535 : Int32))), (.ref bb)]))
  rw [show ((1 : Int32) &&& (65535 : Int32)) = (1 : Int32) from by decide]
  show own_Ends p e below s _ _ _ (T39.setTop (mkF m 15 #[.val (.ref r), .val (.long (1 : Int64)), .second] [(.int (1 : Int32)), (.ref bb)]))
  refine own_step (fun _ kc_ => own_iaload X39 hx hZ e39 A1 (j := (1 : Int32)) (by decide) (i := 1) rfl (v := (.int y)) hv (hb hby d5_15) _ kc_) ?_
  show own_Ends p e below s _ _ _ (T39.setTop (mkF m 16 #[.val (.ref r), .val (.long (1 : Int64)), .second] [(.int y)]))
  exact own_retI X39 hx hret hlk (hb hby d5_16) (by decide) (by decide) ⟨rfl, N0, e39⟩
theorem ef_rmG2 (m : MethodId) (r : Addr) : entryFrame m #[(.ref r), (.long (2 : Int64))] 3 = mkF m 0 #[.val (.ref r), .val (.long (2 : Int64)), .second] [] := by first | (simp [entryFrame, mkF, argsToLocals, Value.category]; done) | rfl
def QG2 (Z : State) (r : Addr) (ba bb : Addr) (vs : List Value) (y : Int32) (h0 : Heap) (n0 : Nat) (v : Option Value) (h : Heap) (L : List Loc) : Prop := v = some (.int y) ∧ Fr n0 L ∧ h = h0
set_option maxRecDepth 65536 in
set_option maxHeartbeats 40000000 in
theorem rmG2 (l : Launch) (Z : State) (a0 : Array Value) (hw : ∀ d ∈ tables_1, d.before a0 Z = true) (ws : List Jvm.Cond) (r : Addr) (ba bb : Addr) (vs : List Value) (y : Int32) (h0 : Heap) (n0 : Nat) (Z0 : n0 ≤ h0.size) (FB0 : Fld Z h0 r "com/example/surfeit/surfeit/IntBlocks" "blocks" "[[I" (.ref ba)) (A0 : own_Ar Z h0 ba (.array .int) [.ref bb]) (A1 : own_Ar Z h0 bb .int vs) (hv : vs[2]? = some (.int y)) :
    MetFree l (⟨"com/example/surfeit/surfeit/IntBlocks", "get", "(J)I"⟩ : MethodName) (head1 (Jvm.Cond.code (⟨"com/example/surfeit/surfeit/IntBlocks", "get", "(J)I"⟩ : MethodName) prog_12_method_3_code 3 (some .int) :: ws) ({ frames := 0, cells := 0, slots := 0, locals := 0 } : Room)) (fun a U => a = #[(.ref r), (.long (2 : Int64))] ∧ Z.Warmed39 U.vm ∧ U.heap = h0) (fun _ _ _ _ _ => True) (fun _ U o U' => ∃ v L, o = .returned v ∧ QG2 Z r ba bb vs y h0 n0 v U'.heap L ∧ FrameEnd U o U' L ({ frames := 0, cells := 0, slots := 0, locals := 0 } : Room).cells ({ frames := 0, cells := 0, slots := 0, locals := 0 } : Room).slots) := by
  refine MetFree.of_bodySF (plainFor_of_name pn_0) hisR ?_
  intro p e s m args below meth c s₁ Bd hml0 hP hK
  obtain ⟨rfl, hZ, hh⟩ := hP
  have hx := Bd.exec
  have hby := Bd.bytes
  have hlk : meth.locks = false := BodyLoose.notSynchronized Bd
  have hret := Bd.returns
  have hml : c.maxLocals = 3 := hml0
  have hown : s.vm.findClass "com/example/surfeit/surfeit/IntBlocks" = some m.cls := findClass_of_methodNamed Bd.named
  have hnm := (name_of_methodNamed Bd.named Bd.method).1
  have X0 : Stand p l e ({ frames := 0, cells := 0, slots := 0, locals := 0 } : Room) s m #[(.ref r), (.long (2 : Int64))] below meth c s₁ [] 0 0 := Stand.of_body Bd
  have e0 : s₁.heap = h0 := by rw [← hh, Bd.state]; rfl
  have N0 := Fr.nil n0
  show own_Ends p e below s 0 0 (QG2 Z r ba bb vs y h0 n0) (s₁.setTop (entryFrame m #[(.ref r), (.long (2 : Int64))] 3))
  refine own_step (fun t k => castTop (ef_rmG2 m r) k) ?_
  show own_Ends p e below s _ _ _ (s₁.setTop (mkF m 0 #[.val (.ref r), .val (.long (2 : Int64)), .second] []))
  refine own_step (fun _ kc_ => XS.aloadN X0.here hx rfl (hb hby d5_0) rfl rfl kc_) ?_
  show own_Ends p e below s _ _ _ (s₁.setTop (mkF m 1 #[.val (.ref r), .val (.long (2 : Int64)), .second] [(.ref r)]))
  obtain ⟨T40, X40, e40, st40⟩ := getF X0 hx hZ hown (host := "") (Or.inl (hw _ (List.mem_of_getElem? (i := 11) rfl))) Via.refl e0 FB0 (g := (mkF m 1 #[.val (.ref r), .val (.long (2 : Int64)), .second] [(.ref r)])) rfl rfl (hb hby d5_1)
  refine own_step (fun _ kc_ => st40 _ kc_) ?_
  show own_Ends p e below s _ _ _ (T40.setTop (mkF m 4 #[.val (.ref r), .val (.long (2 : Int64)), .second] [(.ref ba)]))
  refine own_step (fun _ kc_ => XS.lloadN X40.here hx rfl (hb hby d5_4) rfl (XS.bipush X40.here hx rfl (hb hby d5_5) (XS.lushr X40.here hx rfl (hb hby d5_7) rfl kc_))) ?_
  show own_Ends p e below s _ _ _ (T40.setTop (mkF m 8 #[.val (.ref r), .val (.long (2 : Int64)), .second] [(.long (((2 : Int64).toUInt64 >>> ((16 : Int32) &&& 0x3f).toInt64.toUInt64).toInt64)), (.ref ba)]))
  rw [show (((2 : Int64).toUInt64 >>> ((16 : Int32) &&& 0x3f).toInt64.toUInt64).toInt64) = (0 : Int64) from by decide]
  show own_Ends p e below s _ _ _ (T40.setTop (mkF m 8 #[.val (.ref r), .val (.long (2 : Int64)), .second] [(.long (0 : Int64)), (.ref ba)]))
  refine own_step (fun _ kc_ => XS.l2i X40.here hx rfl (hb hby d5_8) rfl kc_) ?_
  show own_Ends p e below s _ _ _ (T40.setTop (mkF m 9 #[.val (.ref r), .val (.long (2 : Int64)), .second] [(.int ((0 : Int64).toInt32)), (.ref ba)]))
  rw [show ((0 : Int64).toInt32) = (0 : Int32) from by decide]
  show own_Ends p e below s _ _ _ (T40.setTop (mkF m 9 #[.val (.ref r), .val (.long (2 : Int64)), .second] [(.int (0 : Int32)), (.ref ba)]))
  refine own_step (fun _ kc_ => own_aaload X40 hx hZ e40 A0 rfl (j := (0 : Int32)) (by decide) (i := 0) rfl (v := (.ref bb)) rfl (hb hby d5_9) _ (XS.lloadN X40.here hx rfl (hb hby d5_10) rfl (XS.l2i X40.here hx rfl (hb hby d5_11) rfl kc_))) ?_
  show own_Ends p e below s _ _ _ (T40.setTop (mkF m 12 #[.val (.ref r), .val (.long (2 : Int64)), .second] [(.int ((2 : Int64).toInt32)), (.ref bb)]))
  rw [show ((2 : Int64).toInt32) = (2 : Int32) from by decide]
  show own_Ends p e below s _ _ _ (T40.setTop (mkF m 12 #[.val (.ref r), .val (.long (2 : Int64)), .second] [(.int (2 : Int32)), (.ref bb)]))
  refine own_step (fun _ kc_ => X40.ldcI hx hown (mvT hZ (hw _ (List.mem_of_getElem? (i := 20) rfl))) rfl (hb hby d5_12) (XS.iand X40.here hx rfl (hb hby d5_14) rfl kc_)) ?_
  show own_Ends p e below s _ _ _ (T40.setTop (mkF m 15 #[.val (.ref r), .val (.long (2 : Int64)), .second] [(.int ((2 : Int32) &&& (65535 : Int32))), (.ref bb)]))
  rw [show ((2 : Int32) &&& (65535 : Int32)) = (2 : Int32) from by decide]
  show own_Ends p e below s _ _ _ (T40.setTop (mkF m 15 #[.val (.ref r), .val (.long (2 : Int64)), .second] [(.int (2 : Int32)), (.ref bb)]))
  refine own_step (fun _ kc_ => own_iaload X40 hx hZ e40 A1 (j := (2 : Int32)) (by decide) (i := 2) rfl (v := (.int y)) hv (hb hby d5_15) _ kc_) ?_
  show own_Ends p e below s _ _ _ (T40.setTop (mkF m 16 #[.val (.ref r), .val (.long (2 : Int64)), .second] [(.int y)]))
  exact own_retI X40 hx hret hlk (hb hby d5_16) (by decide) (by decide) ⟨rfl, N0, e40⟩
theorem ef_rmG3 (m : MethodId) (r : Addr) : entryFrame m #[(.ref r), (.long (3 : Int64))] 3 = mkF m 0 #[.val (.ref r), .val (.long (3 : Int64)), .second] [] := by first | (simp [entryFrame, mkF, argsToLocals, Value.category]; done) | rfl
def QG3 (Z : State) (r : Addr) (ba bb : Addr) (vs : List Value) (y : Int32) (h0 : Heap) (n0 : Nat) (v : Option Value) (h : Heap) (L : List Loc) : Prop := v = some (.int y) ∧ Fr n0 L ∧ h = h0
set_option maxRecDepth 65536 in
set_option maxHeartbeats 40000000 in
theorem rmG3 (l : Launch) (Z : State) (a0 : Array Value) (hw : ∀ d ∈ tables_1, d.before a0 Z = true) (ws : List Jvm.Cond) (r : Addr) (ba bb : Addr) (vs : List Value) (y : Int32) (h0 : Heap) (n0 : Nat) (Z0 : n0 ≤ h0.size) (FB0 : Fld Z h0 r "com/example/surfeit/surfeit/IntBlocks" "blocks" "[[I" (.ref ba)) (A0 : own_Ar Z h0 ba (.array .int) [.ref bb]) (A1 : own_Ar Z h0 bb .int vs) (hv : vs[3]? = some (.int y)) :
    MetFree l (⟨"com/example/surfeit/surfeit/IntBlocks", "get", "(J)I"⟩ : MethodName) (head1 (Jvm.Cond.code (⟨"com/example/surfeit/surfeit/IntBlocks", "get", "(J)I"⟩ : MethodName) prog_12_method_3_code 3 (some .int) :: ws) ({ frames := 0, cells := 0, slots := 0, locals := 0 } : Room)) (fun a U => a = #[(.ref r), (.long (3 : Int64))] ∧ Z.Warmed39 U.vm ∧ U.heap = h0) (fun _ _ _ _ _ => True) (fun _ U o U' => ∃ v L, o = .returned v ∧ QG3 Z r ba bb vs y h0 n0 v U'.heap L ∧ FrameEnd U o U' L ({ frames := 0, cells := 0, slots := 0, locals := 0 } : Room).cells ({ frames := 0, cells := 0, slots := 0, locals := 0 } : Room).slots) := by
  refine MetFree.of_bodySF (plainFor_of_name pn_0) hisR ?_
  intro p e s m args below meth c s₁ Bd hml0 hP hK
  obtain ⟨rfl, hZ, hh⟩ := hP
  have hx := Bd.exec
  have hby := Bd.bytes
  have hlk : meth.locks = false := BodyLoose.notSynchronized Bd
  have hret := Bd.returns
  have hml : c.maxLocals = 3 := hml0
  have hown : s.vm.findClass "com/example/surfeit/surfeit/IntBlocks" = some m.cls := findClass_of_methodNamed Bd.named
  have hnm := (name_of_methodNamed Bd.named Bd.method).1
  have X0 : Stand p l e ({ frames := 0, cells := 0, slots := 0, locals := 0 } : Room) s m #[(.ref r), (.long (3 : Int64))] below meth c s₁ [] 0 0 := Stand.of_body Bd
  have e0 : s₁.heap = h0 := by rw [← hh, Bd.state]; rfl
  have N0 := Fr.nil n0
  show own_Ends p e below s 0 0 (QG3 Z r ba bb vs y h0 n0) (s₁.setTop (entryFrame m #[(.ref r), (.long (3 : Int64))] 3))
  refine own_step (fun t k => castTop (ef_rmG3 m r) k) ?_
  show own_Ends p e below s _ _ _ (s₁.setTop (mkF m 0 #[.val (.ref r), .val (.long (3 : Int64)), .second] []))
  refine own_step (fun _ kc_ => XS.aloadN X0.here hx rfl (hb hby d5_0) rfl rfl kc_) ?_
  show own_Ends p e below s _ _ _ (s₁.setTop (mkF m 1 #[.val (.ref r), .val (.long (3 : Int64)), .second] [(.ref r)]))
  obtain ⟨T41, X41, e41, st41⟩ := getF X0 hx hZ hown (host := "") (Or.inl (hw _ (List.mem_of_getElem? (i := 11) rfl))) Via.refl e0 FB0 (g := (mkF m 1 #[.val (.ref r), .val (.long (3 : Int64)), .second] [(.ref r)])) rfl rfl (hb hby d5_1)
  refine own_step (fun _ kc_ => st41 _ kc_) ?_
  show own_Ends p e below s _ _ _ (T41.setTop (mkF m 4 #[.val (.ref r), .val (.long (3 : Int64)), .second] [(.ref ba)]))
  refine own_step (fun _ kc_ => XS.lloadN X41.here hx rfl (hb hby d5_4) rfl (XS.bipush X41.here hx rfl (hb hby d5_5) (XS.lushr X41.here hx rfl (hb hby d5_7) rfl kc_))) ?_
  show own_Ends p e below s _ _ _ (T41.setTop (mkF m 8 #[.val (.ref r), .val (.long (3 : Int64)), .second] [(.long (((3 : Int64).toUInt64 >>> ((16 : Int32) &&& 0x3f).toInt64.toUInt64).toInt64)), (.ref ba)]))
  rw [show (((3 : Int64).toUInt64 >>> ((16 : Int32) &&& 0x3f).toInt64.toUInt64).toInt64) = (0 : Int64) from by decide]
  show own_Ends p e below s _ _ _ (T41.setTop (mkF m 8 #[.val (.ref r), .val (.long (3 : Int64)), .second] [(.long (0 : Int64)), (.ref ba)]))
  refine own_step (fun _ kc_ => XS.l2i X41.here hx rfl (hb hby d5_8) rfl kc_) ?_
  show own_Ends p e below s _ _ _ (T41.setTop (mkF m 9 #[.val (.ref r), .val (.long (3 : Int64)), .second] [(.int ((0 : Int64).toInt32)), (.ref ba)]))
  rw [show ((0 : Int64).toInt32) = (0 : Int32) from by decide]
  show own_Ends p e below s _ _ _ (T41.setTop (mkF m 9 #[.val (.ref r), .val (.long (3 : Int64)), .second] [(.int (0 : Int32)), (.ref ba)]))
  refine own_step (fun _ kc_ => own_aaload X41 hx hZ e41 A0 rfl (j := (0 : Int32)) (by decide) (i := 0) rfl (v := (.ref bb)) rfl (hb hby d5_9) _ (XS.lloadN X41.here hx rfl (hb hby d5_10) rfl (XS.l2i X41.here hx rfl (hb hby d5_11) rfl kc_))) ?_
  show own_Ends p e below s _ _ _ (T41.setTop (mkF m 12 #[.val (.ref r), .val (.long (3 : Int64)), .second] [(.int ((3 : Int64).toInt32)), (.ref bb)]))
  rw [show ((3 : Int64).toInt32) = (3 : Int32) from by decide]
  show own_Ends p e below s _ _ _ (T41.setTop (mkF m 12 #[.val (.ref r), .val (.long (3 : Int64)), .second] [(.int (3 : Int32)), (.ref bb)]))
  refine own_step (fun _ kc_ => X41.ldcI hx hown (mvT hZ (hw _ (List.mem_of_getElem? (i := 20) rfl))) rfl (hb hby d5_12) (XS.iand X41.here hx rfl (hb hby d5_14) rfl kc_)) ?_
  show own_Ends p e below s _ _ _ (T41.setTop (mkF m 15 #[.val (.ref r), .val (.long (3 : Int64)), .second] [(.int ((3 : Int32) &&& (65535 : Int32))), (.ref bb)]))
  rw [show ((3 : Int32) &&& (65535 : Int32)) = (3 : Int32) from by decide]
  show own_Ends p e below s _ _ _ (T41.setTop (mkF m 15 #[.val (.ref r), .val (.long (3 : Int64)), .second] [(.int (3 : Int32)), (.ref bb)]))
  refine own_step (fun _ kc_ => own_iaload X41 hx hZ e41 A1 (j := (3 : Int32)) (by decide) (i := 3) rfl (v := (.int y)) hv (hb hby d5_15) _ kc_) ?_
  show own_Ends p e below s _ _ _ (T41.setTop (mkF m 16 #[.val (.ref r), .val (.long (3 : Int64)), .second] [(.int y)]))
  exact own_retI X41 hx hret hlk (hb hby d5_16) (by decide) (by decide) ⟨rfl, N0, e41⟩
theorem pn_1 : plainName "com/example/surfeit/surfeit/IntBlocksSetPinLaw" = true := by first | (simp [plainName, overriddenIn]; done) | decide +kernel
theorem pd_1 : parseMethodDescriptor "(I)V" = some ⟨[.int], none⟩ := by decide +kernel
theorem pd_2 : parseMethodDescriptor "(JI)V" = some ⟨[.long, .int], none⟩ := by decide +kernel
theorem pd_3 : parseMethodDescriptor "(J)I" = some ⟨[.long], some .int⟩ := by decide +kernel
theorem ef_rm0 (m : MethodId) (p1 : Int64) (p2 : Int32) (p3 : Int32) (p4 : Int32) (p5 : Int32) : entryFrame m #[(.long p1), (.int p2), (.int p3), (.int p4), (.int p5)] maxLocals = mkF m 0 #[.val (.long p1), .second, .val (.int p2), .val (.int p3), .val (.int p4), .val (.int p5), .unset, .unset, .unset, .unset, .unset, .unset, .unset] [] := by first | (simp [entryFrame, mkF, argsToLocals, Value.category, maxLocals]; done) | rfl
def Q0 (Z : State) (p1 : Int64) (p2 : Int32) (p3 : Int32) (p4 : Int32) (p5 : Int32)  (h0 : Heap) (n0 : Nat) (v : Option Value) (h : Heap) (L : List Loc) : Prop := v = some (.int (1 : Int32)) ∧ Fr n0 L
set_option maxRecDepth 65536 in
set_option maxHeartbeats 40000000 in
theorem rm0 (l : Launch) (Z : State) (a0 : Array Value) (hw : ∀ d ∈ tables_1, d.before a0 Z = true) (ws : List Jvm.Cond) (p1 : Int64) (p2 : Int32) (p3 : Int32) (p4 : Int32) (p5 : Int32)  (h0 : Heap) (n0 : Nat) (Z0 : n0 ≤ h0.size)  :
    MetFree l x (head1 (Jvm.Cond.code x code maxLocals ret :: ws) room_1) (fun a U => a = #[(.long p1), (.int p2), (.int p3), (.int p4), (.int p5)] ∧ Z.Warmed39 U.vm ∧ U.heap = h0) (fun _ _ _ _ _ => True) (fun _ U o U' => ∃ v L, o = .returned v ∧ Q0 Z p1 p2 p3 p4 p5  h0 n0 v U'.heap L ∧ FrameEnd U o U' L room_1.cells room_1.slots) := by
  refine MetFree.of_bodySF (plainFor_of_name pn_1) hisR ?_
  intro p e s m args below meth c s₁ Bd hml0 hP hK
  obtain ⟨rfl, hZ, hh⟩ := hP
  have hx := Bd.exec
  have hby := Bd.bytes
  have hlk : meth.locks = false := BodyLoose.notSynchronized Bd
  have hret := Bd.returns
  have hml : c.maxLocals = 13 := hml0
  have hown : s.vm.findClass "com/example/surfeit/surfeit/IntBlocksSetPinLaw" = some m.cls := findClass_of_methodNamed Bd.named
  have hnm := (name_of_methodNamed Bd.named Bd.method).1
  have X0 : Stand p l e room_1 s m #[(.long p1), (.int p2), (.int p3), (.int p4), (.int p5)] below meth c s₁ [] 0 0 := Stand.of_body Bd
  have e0 : s₁.heap = h0 := by rw [← hh, Bd.state]; rfl
  have N0 := Fr.nil n0
  show own_Ends p e below s 16 131200 (Q0 Z p1 p2 p3 p4 p5  h0 n0) (s₁.setTop (entryFrame m #[(.long p1), (.int p2), (.int p3), (.int p4), (.int p5)] maxLocals))
  refine own_step (fun t k => castTop (ef_rm0 m p1 p2 p3 p4 p5) k) ?_
  show own_Ends p e below s _ _ _ (s₁.setTop (mkF m 0 #[.val (.long p1), .second, .val (.int p2), .val (.int p3), .val (.int p4), .val (.int p5), .unset, .unset, .unset, .unset, .unset, .unset, .unset] []))
  obtain ⟨T42, h42, X42, e42, E42, A42, D42, -, st42⟩ := newO X0 hx hZ hown (hw _ (List.mem_of_getElem? (i := 0) rfl)) (hw _ (List.mem_of_getElem? (i := 1) rfl)) (hw _ (List.mem_of_getElem? (i := 2) rfl)) e0 (g := (mkF m 0 #[.val (.long p1), .second, .val (.int p2), .val (.int p3), .val (.int p4), .val (.int p5), .unset, .unset, .unset, .unset, .unset, .unset, .unset] [])) rfl (hb hby at_0) (by decide : 0 + 1 ≤ _) (by decide : 0 + 2 ≤ _)
  obtain ⟨b42, g42⟩ : ∃ z, z = h0.size := ⟨_, rfl⟩
  rw [← g42] at A42 D42 st42
  have n0_b42 : n0 ≤ b42 := Nat.le_trans Z0 (Nat.le_of_eq g42.symm)
  have Zs42 := Nat.le_trans Z0 E42.1
  have F_blocks_b42 : Fld Z h42 b42 "com/example/surfeit/surfeit/IntBlocks" "blocks" "[[I" .null := D42 (Or.inl (hw _ (List.mem_of_getElem? (i := 12) rfl))) (ty := (.array (.array .int))) (by decide)
  have F_length_b42 : Fld Z h42 b42 "com/example/surfeit/surfeit/IntBlocks" "length" "J" (.long (0 : Int64)) := D42 (Or.inl (hw _ (List.mem_of_getElem? (i := 19) rfl))) (ty := .long) (by decide)
  refine own_step (fun _ kc_ => st42 _ kc_) ?_
  show own_Ends p e below s _ _ _ (T42.setTop (mkF m 3 #[.val (.long p1), .second, .val (.int p2), .val (.int p3), .val (.int p4), .val (.int p5), .unset, .unset, .unset, .unset, .unset, .unset, .unset] [(.ref b42)]))
  refine own_step (fun _ kc_ => XS.dup X42.here hx rfl (hb hby at_3) rfl rfl kc_) ?_
  show own_Ends p e below s _ _ _ (T42.setTop (mkF m 4 #[.val (.long p1), .second, .val (.int p2), .val (.int p3), .val (.int p4), .val (.int p5), .unset, .unset, .unset, .unset, .unset, .unset, .unset] [(.ref b42), (.ref b42)]))
  obtain ⟨_, _, ⟨T43, L43, k43, n43⟩, -, X43, ⟨Lc43, hQ43, l43, y43, z43⟩, st43⟩ := X42.specialBack hx (y := (⟨"com/example/surfeit/surfeit/IntBlocks", "<init>", "()V"⟩ : MethodName)) rfl hown (mvT hZ (hw _ (List.mem_of_getElem? (i := 3) rfl))) (mvT hZ (hw _ (List.mem_of_getElem? (i := 4) rfl))) (mvT hZ (hw _ (List.mem_of_getElem? (i := 5) rfl))) (by decide) (backOf (W := 1) (rm1 l Z a0 hw [] b42  h42 n0 Zs42 A42 F_blocks_b42 F_length_b42 n0_b42) hZ (hw _ (List.mem_of_getElem? (i := 5) rfl)) (hw _ (List.mem_of_getElem? (i := 2) rfl)) (by decide) (by decide)) (g := (mkF m 4 #[.val (.long p1), .second, .val (.int p2), .val (.int p3), .val (.int p4), .val (.int p5), .unset, .unset, .unset, .unset, .unset, .unset, .unset] [(.ref b42), (.ref b42)])) rfl (by rw [hml]; rfl) (Steps.refl _) (a := b42) (argsL := []) (rest := [(.ref b42)]) (lenOf pd_0 rfl) rfl (by show 2 * 0 + _ ≤ _; exact Nat.le_of_eq rfl) (hb hby at_4) (fun _ _ => ⟨rfl, e42, (by decide : 1 + 1 ≤ _), (by decide : 2 + 1 ≤ _)⟩)
  dsimp only [Pt.U, Pt.locs, Pt.cells, Pt.slots] at X43 l43 y43 z43 st43 hQ43
  subst l43 y43 z43
  obtain ⟨rfl, N43q, K43k, ba, hba, nrb, fB43, fL43, aB43, bB43⟩ := hQ43
  have E_b42_43 := (A42).keep K43k
  have Zs43 := Nat.le_trans Zs42 K43k.1
  have N43 := Fr.app N0 N43q
  refine own_step (fun _ kc_ => st43.trans kc_) ?_
  show own_Ends p e below s _ _ _ (T43.setTop (mkF m 7 #[.val (.long p1), .second, .val (.int p2), .val (.int p3), .val (.int p4), .val (.int p5), .unset, .unset, .unset, .unset, .unset, .unset, .unset] [(.ref b42)]))
  refine own_step (fun _ kc_ => XS.astore X43.here hx rfl (hb hby at_7) rfl rfl (l' := #[.val (.long p1), .second, .val (.int p2), .val (.int p3), .val (.int p4), .val (.int p5), .val (.ref b42), .unset, .unset, .unset, .unset, .unset, .unset]) rfl (XS.aload X43.here hx rfl (hb hby at_9) rfl rfl (XS.iloadN X43.here hx rfl (hb hby at_11) rfl kc_))) ?_
  show own_Ends p e below s _ _ _ (T43.setTop (mkF m 12 #[.val (.long p1), .second, .val (.int p2), .val (.int p3), .val (.int p4), .val (.int p5), .val (.ref b42), .unset, .unset, .unset, .unset, .unset, .unset] [(.int p3), (.ref b42)]))
  obtain ⟨cq44, kq44, q44a, q44b, q44c⟩ := isOf hZ rfl E_b42_43
  obtain ⟨_, _, ⟨T44, L44, k44, n44⟩, -, X44, ⟨Lc44, hQ44, l44, y44, z44⟩, st44⟩ := X43.virtualBack hx (y := (⟨"com/example/surfeit/surfeit/IntBlocks", "add", "(I)V"⟩ : MethodName)) (z := (⟨"com/example/surfeit/surfeit/IntBlocks", "add", "(I)V"⟩ : MethodName)) hown (mvT hZ (hw _ (List.mem_of_getElem? (i := 13) rfl))) (mvT hZ (hw _ (List.mem_of_getElem? (i := 14) rfl))) (notFace_of_selects (args := #[]) (mvT hZ (hw _ (List.mem_of_getElem? (i := 16) rfl)))) (mvT hZ (hw _ (List.mem_of_getElem? (i := 16) rfl))) (mvT hZ (hw _ (List.mem_of_getElem? (i := 15) rfl))) (by decide) (backOf (W := 0) (rmA0 l Z a0 hw [] b42 p3 ba T43.heap n0 Zs43 E_b42_43 fB43 fL43 aB43 bB43 n0_b42 (Nat.le_trans Zs42 hba) nrb) hZ (hw _ (List.mem_of_getElem? (i := 17) rfl)) (hw _ (List.mem_of_getElem? (i := 2) rfl)) (by decide) (by decide)) q44a q44c (g := (mkF m 12 #[.val (.long p1), .second, .val (.int p2), .val (.int p3), .val (.int p4), .val (.int p5), .val (.ref b42), .unset, .unset, .unset, .unset, .unset, .unset] [(.int p3), (.ref b42)])) rfl (by rw [hml]; rfl) (Steps.refl _) (argsL := [(.int p3)]) (rest := []) (lenOf pd_1 rfl) rfl (by show 2 * 0 + _ ≤ _; exact Nat.le_of_eq rfl) (hb hby at_12) (fun _ _ => ⟨rfl, rfl, (by decide : 2 + 1 ≤ _), (by decide : 3 + 65536 ≤ _)⟩)
  dsimp only [Pt.U, Pt.locs, Pt.cells, Pt.slots] at X44 l44 y44 z44 st44 hQ44
  subst l44 y44 z44
  obtain ⟨rfl, N44q, K44k, bb, hbb, nr2, n22, fB44, fL44, aB44, R0, hR0, cB44⟩ := hQ44
  have E_b42_44 := (E_b42_43).keep K44k
  have Zs44 := Nat.le_trans Zs43 K44k.1
  have N44 := Fr.app N43 N44q
  refine own_step (fun _ kc_ => st44.trans kc_) ?_
  show own_Ends p e below s _ _ _ (T44.setTop (mkF m 15 #[.val (.long p1), .second, .val (.int p2), .val (.int p3), .val (.int p4), .val (.int p5), .val (.ref b42), .unset, .unset, .unset, .unset, .unset, .unset] []))
  refine own_step (fun _ kc_ => XS.aload X44.here hx rfl (hb hby at_15) rfl rfl (XS.iload X44.here hx rfl (hb hby at_17) rfl kc_)) ?_
  show own_Ends p e below s _ _ _ (T44.setTop (mkF m 19 #[.val (.long p1), .second, .val (.int p2), .val (.int p3), .val (.int p4), .val (.int p5), .val (.ref b42), .unset, .unset, .unset, .unset, .unset, .unset] [(.int p4), (.ref b42)]))
  obtain ⟨cq45, kq45, q45a, q45b, q45c⟩ := isOf hZ rfl E_b42_44
  obtain ⟨_, _, ⟨T45, L45, k45, n45⟩, -, X45, ⟨Lc45, hQ45, l45, y45, z45⟩, st45⟩ := X44.virtualBack hx (y := (⟨"com/example/surfeit/surfeit/IntBlocks", "add", "(I)V"⟩ : MethodName)) (z := (⟨"com/example/surfeit/surfeit/IntBlocks", "add", "(I)V"⟩ : MethodName)) hown (mvT hZ (hw _ (List.mem_of_getElem? (i := 13) rfl))) (mvT hZ (hw _ (List.mem_of_getElem? (i := 14) rfl))) (notFace_of_selects (args := #[]) (mvT hZ (hw _ (List.mem_of_getElem? (i := 16) rfl)))) (mvT hZ (hw _ (List.mem_of_getElem? (i := 16) rfl))) (mvT hZ (hw _ (List.mem_of_getElem? (i := 15) rfl))) (by decide) (backOf (W := 0) (rmA1 l Z a0 hw [] b42 p4 ba bb (R0.set 0 (.int p3)) T44.heap n0 Zs44 E_b42_44 fB44 fL44 aB44 cB44 (own_ls hR0) n0_b42 (Nat.le_trans Zs43 hbb) nrb nr2 n22) hZ (hw _ (List.mem_of_getElem? (i := 17) rfl)) (hw _ (List.mem_of_getElem? (i := 2) rfl)) (by decide) (by decide)) q45a q45c (g := (mkF m 19 #[.val (.long p1), .second, .val (.int p2), .val (.int p3), .val (.int p4), .val (.int p5), .val (.ref b42), .unset, .unset, .unset, .unset, .unset, .unset] [(.int p4), (.ref b42)])) rfl (by rw [hml]; rfl) (Steps.refl _) (argsL := [(.int p4)]) (rest := []) (lenOf pd_1 rfl) rfl (by show 2 * 0 + _ ≤ _; exact Nat.le_of_eq rfl) (hb hby at_19) (fun _ _ => ⟨rfl, rfl, (by decide : 3 + 0 ≤ _), (by decide : 65539 + 0 ≤ _)⟩)
  dsimp only [Pt.U, Pt.locs, Pt.cells, Pt.slots] at X45 l45 y45 z45 st45 hQ45
  subst l45 y45 z45
  obtain ⟨rfl, N45q, K45k, fB45, fL45, cB45⟩ := hQ45
  have E_b42_45 := (E_b42_44).keep K45k
  have A_ba_45 := (aB44).keep K45k (ninS (Ne.symm nrb) (ninS n22 nin0))
  have Zs45 := Nat.le_trans Zs44 K45k.1
  have N45 := Fr.app N44 N45q
  refine own_step (fun _ kc_ => st45.trans kc_) ?_
  show own_Ends p e below s _ _ _ (T45.setTop (mkF m 22 #[.val (.long p1), .second, .val (.int p2), .val (.int p3), .val (.int p4), .val (.int p5), .val (.ref b42), .unset, .unset, .unset, .unset, .unset, .unset] []))
  refine own_step (fun _ kc_ => XS.aload X45.here hx rfl (hb hby at_22) rfl rfl (XS.iload X45.here hx rfl (hb hby at_24) rfl kc_)) ?_
  show own_Ends p e below s _ _ _ (T45.setTop (mkF m 26 #[.val (.long p1), .second, .val (.int p2), .val (.int p3), .val (.int p4), .val (.int p5), .val (.ref b42), .unset, .unset, .unset, .unset, .unset, .unset] [(.int p5), (.ref b42)]))
  obtain ⟨cq46, kq46, q46a, q46b, q46c⟩ := isOf hZ rfl E_b42_45
  obtain ⟨_, _, ⟨T46, L46, k46, n46⟩, -, X46, ⟨Lc46, hQ46, l46, y46, z46⟩, st46⟩ := X45.virtualBack hx (y := (⟨"com/example/surfeit/surfeit/IntBlocks", "add", "(I)V"⟩ : MethodName)) (z := (⟨"com/example/surfeit/surfeit/IntBlocks", "add", "(I)V"⟩ : MethodName)) hown (mvT hZ (hw _ (List.mem_of_getElem? (i := 13) rfl))) (mvT hZ (hw _ (List.mem_of_getElem? (i := 14) rfl))) (notFace_of_selects (args := #[]) (mvT hZ (hw _ (List.mem_of_getElem? (i := 16) rfl)))) (mvT hZ (hw _ (List.mem_of_getElem? (i := 16) rfl))) (mvT hZ (hw _ (List.mem_of_getElem? (i := 15) rfl))) (by decide) (backOf (W := 0) (rmA2 l Z a0 hw [] b42 p5 ba bb ((R0.set 0 (.int p3)).set 1 (.int p4)) T45.heap n0 Zs45 E_b42_45 fB45 fL45 A_ba_45 cB45 (own_ls (own_ls hR0)) n0_b42 (Nat.le_trans Zs43 hbb) nrb nr2 n22) hZ (hw _ (List.mem_of_getElem? (i := 17) rfl)) (hw _ (List.mem_of_getElem? (i := 2) rfl)) (by decide) (by decide)) q46a q46c (g := (mkF m 26 #[.val (.long p1), .second, .val (.int p2), .val (.int p3), .val (.int p4), .val (.int p5), .val (.ref b42), .unset, .unset, .unset, .unset, .unset, .unset] [(.int p5), (.ref b42)])) rfl (by rw [hml]; rfl) (Steps.refl _) (argsL := [(.int p5)]) (rest := []) (lenOf pd_1 rfl) rfl (by show 2 * 0 + _ ≤ _; exact Nat.le_of_eq rfl) (hb hby at_26) (fun _ _ => ⟨rfl, rfl, (by decide : 3 + 0 ≤ _), (by decide : 65539 + 0 ≤ _)⟩)
  dsimp only [Pt.U, Pt.locs, Pt.cells, Pt.slots] at X46 l46 y46 z46 st46 hQ46
  subst l46 y46 z46
  obtain ⟨rfl, N46q, K46k, fB46, fL46, cB46⟩ := hQ46
  have E_b42_46 := (E_b42_45).keep K46k
  have A_ba_46 := (A_ba_45).keep K46k (ninS (Ne.symm nrb) (ninS n22 nin0))
  have Zs46 := Nat.le_trans Zs45 K46k.1
  have N46 := Fr.app N45 N46q
  refine own_step (fun _ kc_ => st46.trans kc_) ?_
  show own_Ends p e below s _ _ _ (T46.setTop (mkF m 29 #[.val (.long p1), .second, .val (.int p2), .val (.int p3), .val (.int p4), .val (.int p5), .val (.ref b42), .unset, .unset, .unset, .unset, .unset, .unset] []))
  refine own_step (fun _ kc_ => XS.lloadN X46.here hx rfl (hb hby at_29) rfl (X46.ldc2J hx hown (mvT hZ (hw _ (List.mem_of_getElem? (i := 24) rfl))) rfl (hb hby at_30) (XS.land X46.here hx rfl (hb hby at_33) rfl (X46.ldc2J hx hown (mvT hZ (hw _ (List.mem_of_getElem? (i := 25) rfl))) rfl (hb hby at_34) (XS.lrem X46.here hx rfl (hb hby at_37) rfl (by decide) (XS.lstore X46.here hx rfl (hb hby at_38) rfl (l' := #[.val (.long p1), .second, .val (.int p2), .val (.int p3), .val (.int p4), .val (.int p5), .val (.ref b42), .val (.long ((p1 &&& (9223372036854775807 : Int64)) - ((p1 &&& (9223372036854775807 : Int64)) / (3 : Int64)) * (3 : Int64))), .second, .unset, .unset, .unset, .unset]) rfl kc_)))))) ?_
  show own_Ends p e below s _ _ _ (T46.setTop (mkF m 40 #[.val (.long p1), .second, .val (.int p2), .val (.int p3), .val (.int p4), .val (.int p5), .val (.ref b42), .val (.long ((p1 &&& (9223372036854775807 : Int64)) - ((p1 &&& (9223372036854775807 : Int64)) / (3 : Int64)) * (3 : Int64))), .second, .unset, .unset, .unset, .unset] []))
  rcases own_rem3 p1 with hi | hi | hi <;> rw [hi]
  · show own_Ends p e below s _ _ _ (T46.setTop (mkF m 40 #[.val (.long p1), .second, .val (.int p2), .val (.int p3), .val (.int p4), .val (.int p5), .val (.ref b42), .val (.long (0 : Int64)), .second, .unset, .unset, .unset, .unset] []))
    refine own_step (fun _ kc_ => XS.aload X46.here hx rfl (hb hby at_40) rfl rfl (XS.lload X46.here hx rfl (hb hby at_42) rfl (XS.iloadN X46.here hx rfl (hb hby at_44) rfl kc_))) ?_
    show own_Ends p e below s _ _ _ (T46.setTop (mkF m 45 #[.val (.long p1), .second, .val (.int p2), .val (.int p3), .val (.int p4), .val (.int p5), .val (.ref b42), .val (.long (0 : Int64)), .second, .unset, .unset, .unset, .unset] [(.int p2), (.long (0 : Int64)), (.ref b42)]))
    obtain ⟨cq47, kq47, q47a, q47b, q47c⟩ := isOf hZ rfl E_b42_46
    obtain ⟨_, _, ⟨T47, L47, k47, n47⟩, -, X47, ⟨Lc47, hQ47, l47, y47, z47⟩, st47⟩ := X46.virtualBack hx (y := (⟨"com/example/surfeit/surfeit/IntBlocks", "set", "(JI)V"⟩ : MethodName)) (z := (⟨"com/example/surfeit/surfeit/IntBlocks", "set", "(JI)V"⟩ : MethodName)) hown (mvT hZ (hw _ (List.mem_of_getElem? (i := 26) rfl))) (mvT hZ (hw _ (List.mem_of_getElem? (i := 27) rfl))) (notFace_of_selects (args := #[]) (mvT hZ (hw _ (List.mem_of_getElem? (i := 29) rfl)))) (mvT hZ (hw _ (List.mem_of_getElem? (i := 29) rfl))) (mvT hZ (hw _ (List.mem_of_getElem? (i := 28) rfl))) (by decide) (backOf (W := 0) (rmS0 l Z a0 hw [] b42 p2 ba bb (((R0.set 0 (.int p3)).set 1 (.int p4)).set 2 (.int p5)) T46.heap n0 Zs46 fB46 A_ba_46 cB46 (own_ls (own_ls (own_ls hR0))) (Nat.le_trans Zs43 hbb) nr2 n22) hZ (hw _ (List.mem_of_getElem? (i := 30) rfl)) (hw _ (List.mem_of_getElem? (i := 2) rfl)) (by decide) (by decide)) q47a q47c (g := (mkF m 45 #[.val (.long p1), .second, .val (.int p2), .val (.int p3), .val (.int p4), .val (.int p5), .val (.ref b42), .val (.long (0 : Int64)), .second, .unset, .unset, .unset, .unset] [(.int p2), (.long (0 : Int64)), (.ref b42)])) rfl (by rw [hml]; rfl) (Steps.refl _) (argsL := [(.long (0 : Int64)), (.int p2)]) (rest := []) (lenOf pd_2 rfl) rfl (by show 2 * 0 + _ ≤ _; exact Nat.le_of_eq rfl) (hb hby at_45) (fun _ _ => ⟨rfl, rfl, (by decide : 3 + 0 ≤ _), (by decide : 65539 + 0 ≤ _)⟩)
    dsimp only [Pt.U, Pt.locs, Pt.cells, Pt.slots] at X47 l47 y47 z47 st47 hQ47
    subst l47 y47 z47
    obtain ⟨rfl, N47q, K47k, cB47⟩ := hQ47
    have E_b42_47 := (E_b42_46).keep K47k
    have F_b42_blocks_47 := (fB46).keep K47k (ninS nr2 nin0)
    have F_b42_length_47 := (fL46).keep K47k (ninS nr2 nin0)
    have A_ba_47 := (A_ba_46).keep K47k (ninS n22 nin0)
    have Zs47 := Nat.le_trans Zs46 K47k.1
    have N47 := Fr.app N46 N47q
    refine own_step (fun _ kc_ => st47.trans kc_) ?_
    show own_Ends p e below s _ _ _ (T47.setTop (mkF m 48 #[.val (.long p1), .second, .val (.int p2), .val (.int p3), .val (.int p4), .val (.int p5), .val (.ref b42), .val (.long (0 : Int64)), .second, .unset, .unset, .unset, .unset] []))
    refine own_step (fun _ kc_ => XS.iloadN X47.here hx rfl (hb hby at_48) rfl (XS.iconst X47.here hx rfl (hb hby at_49) (XS.ixor X47.here hx rfl (hb hby at_50) rfl (XS.istore X47.here hx rfl (hb hby at_51) rfl (l' := #[.val (.long p1), .second, .val (.int p2), .val (.int p3), .val (.int p4), .val (.int p5), .val (.ref b42), .val (.long (0 : Int64)), .second, .val (.int (p2 ^^^ (-1 : Int32))), .unset, .unset, .unset]) rfl (XS.aload X47.here hx rfl (hb hby at_53) rfl rfl (XS.iload X47.here hx rfl (hb hby at_55) rfl kc_)))))) ?_
    show own_Ends p e below s _ _ _ (T47.setTop (mkF m 57 #[.val (.long p1), .second, .val (.int p2), .val (.int p3), .val (.int p4), .val (.int p5), .val (.ref b42), .val (.long (0 : Int64)), .second, .val (.int (p2 ^^^ (-1 : Int32))), .unset, .unset, .unset] [(.int (p2 ^^^ (-1 : Int32))), (.ref b42)]))
    obtain ⟨cq48, kq48, q48a, q48b, q48c⟩ := isOf hZ rfl E_b42_47
    obtain ⟨_, _, ⟨T48, L48, k48, n48⟩, -, X48, ⟨Lc48, hQ48, l48, y48, z48⟩, st48⟩ := X47.virtualBack hx (y := (⟨"com/example/surfeit/surfeit/IntBlocks", "add", "(I)V"⟩ : MethodName)) (z := (⟨"com/example/surfeit/surfeit/IntBlocks", "add", "(I)V"⟩ : MethodName)) hown (mvT hZ (hw _ (List.mem_of_getElem? (i := 13) rfl))) (mvT hZ (hw _ (List.mem_of_getElem? (i := 14) rfl))) (notFace_of_selects (args := #[]) (mvT hZ (hw _ (List.mem_of_getElem? (i := 16) rfl)))) (mvT hZ (hw _ (List.mem_of_getElem? (i := 16) rfl))) (mvT hZ (hw _ (List.mem_of_getElem? (i := 15) rfl))) (by decide) (backOf (W := 0) (rmA3 l Z a0 hw [] b42 (p2 ^^^ (-1 : Int32)) ba bb ((((R0.set 0 (.int p3)).set 1 (.int p4)).set 2 (.int p5)).set 0 (.int p2)) T47.heap n0 Zs47 E_b42_47 F_b42_blocks_47 F_b42_length_47 A_ba_47 cB47 (own_ls (own_ls (own_ls (own_ls hR0)))) n0_b42 (Nat.le_trans Zs43 hbb) nrb nr2 n22) hZ (hw _ (List.mem_of_getElem? (i := 17) rfl)) (hw _ (List.mem_of_getElem? (i := 2) rfl)) (by decide) (by decide)) q48a q48c (g := (mkF m 57 #[.val (.long p1), .second, .val (.int p2), .val (.int p3), .val (.int p4), .val (.int p5), .val (.ref b42), .val (.long (0 : Int64)), .second, .val (.int (p2 ^^^ (-1 : Int32))), .unset, .unset, .unset] [(.int (p2 ^^^ (-1 : Int32))), (.ref b42)])) rfl (by rw [hml]; rfl) (Steps.refl _) (argsL := [(.int (p2 ^^^ (-1 : Int32)))]) (rest := []) (lenOf pd_1 rfl) rfl (by show 2 * 0 + _ ≤ _; exact Nat.le_of_eq rfl) (hb hby at_57) (fun _ _ => ⟨rfl, rfl, (by decide : 3 + 0 ≤ _), (by decide : 65539 + 0 ≤ _)⟩)
    dsimp only [Pt.U, Pt.locs, Pt.cells, Pt.slots] at X48 l48 y48 z48 st48 hQ48
    subst l48 y48 z48
    obtain ⟨rfl, N48q, K48k, fB48, fL48, cB48⟩ := hQ48
    have E_b42_48 := (E_b42_47).keep K48k
    have A_ba_48 := (A_ba_47).keep K48k (ninS (Ne.symm nrb) (ninS n22 nin0))
    have Zs48 := Nat.le_trans Zs47 K48k.1
    have N48 := Fr.app N47 N48q
    refine own_step (fun _ kc_ => st48.trans kc_) ?_
    show own_Ends p e below s _ _ _ (T48.setTop (mkF m 60 #[.val (.long p1), .second, .val (.int p2), .val (.int p3), .val (.int p4), .val (.int p5), .val (.ref b42), .val (.long (0 : Int64)), .second, .val (.int (p2 ^^^ (-1 : Int32))), .unset, .unset, .unset] []))
    refine own_step (fun _ kc_ => XS.lload X48.here hx rfl (hb hby at_60) rfl (XS.lconst X48.here hx rfl (hb hby at_62) (XT.lcmp X48.here hx rfl (hb hby at_63) rfl (XS.ifNo X48.here hx rfl (hb hby at_64) rfl (XT.ll_ne_f (by decide : (0 : Int64) = (0 : Int64))) (XS.iloadN X48.here hx rfl (hb hby at_67) rfl (XS.goto X48.here hx rfl (pc0 := 68) (pc' := 72) rfl (hb hby at_68) (by decide) (by decide) (XS.istore X48.here hx rfl (hb hby at_72) rfl (l' := #[.val (.long p1), .second, .val (.int p2), .val (.int p3), .val (.int p4), .val (.int p5), .val (.ref b42), .val (.long (0 : Int64)), .second, .val (.int (p2 ^^^ (-1 : Int32))), .val (.int p2), .unset, .unset]) rfl (XS.lload X48.here hx rfl (hb hby at_74) rfl kc_)))))))) ?_
    show own_Ends p e below s _ _ _ (T48.setTop (mkF m 76 #[.val (.long p1), .second, .val (.int p2), .val (.int p3), .val (.int p4), .val (.int p5), .val (.ref b42), .val (.long (0 : Int64)), .second, .val (.int (p2 ^^^ (-1 : Int32))), .val (.int p2), .unset, .unset] [(.long (0 : Int64))]))
    refine own_step (fun _ kc_ => XS.lconst X48.here hx rfl (hb hby at_76) (XT.lcmp X48.here hx rfl (hb hby at_77) rfl (XS.ifYes X48.here hx rfl (pc0 := 78) (pc' := 85) rfl (hb hby at_78) rfl (XT.ll_ne_t (by decide : ¬ ((0 : Int64) = (1 : Int64)))) (by decide) (by decide) (XS.iload X48.here hx rfl (hb hby at_85) rfl (XS.istore X48.here hx rfl (hb hby at_87) rfl (l' := #[.val (.long p1), .second, .val (.int p2), .val (.int p3), .val (.int p4), .val (.int p5), .val (.ref b42), .val (.long (0 : Int64)), .second, .val (.int (p2 ^^^ (-1 : Int32))), .val (.int p2), .val (.int p4), .unset]) rfl (XS.lload X48.here hx rfl (hb hby at_89) rfl (X48.ldc2J hx hown (mvT hZ (hw _ (List.mem_of_getElem? (i := 31) rfl))) rfl (hb hby at_91) (XT.lcmp X48.here hx rfl (hb hby at_94) rfl kc_)))))))) ?_
    show own_Ends p e below s _ _ _ (T48.setTop (mkF m 95 #[.val (.long p1), .second, .val (.int p2), .val (.int p3), .val (.int p4), .val (.int p5), .val (.ref b42), .val (.long (0 : Int64)), .second, .val (.int (p2 ^^^ (-1 : Int32))), .val (.int p2), .val (.int p4), .unset] [(.int (XT.cmpL (0 : Int64) (2 : Int64)))]))
    refine own_step (fun _ kc_ => XS.ifYes X48.here hx rfl (pc0 := 95) (pc' := 102) rfl (hb hby at_95) rfl (XT.ll_ne_t (by decide : ¬ ((0 : Int64) = (2 : Int64)))) (by decide) (by decide) (XS.iload X48.here hx rfl (hb hby at_102) rfl (XS.istore X48.here hx rfl (hb hby at_104) rfl (l' := #[.val (.long p1), .second, .val (.int p2), .val (.int p3), .val (.int p4), .val (.int p5), .val (.ref b42), .val (.long (0 : Int64)), .second, .val (.int (p2 ^^^ (-1 : Int32))), .val (.int p2), .val (.int p4), .val (.int p5)]) rfl (XS.aload X48.here hx rfl (hb hby at_106) rfl rfl (XS.lconst X48.here hx rfl (hb hby at_108) kc_))))) ?_
    show own_Ends p e below s _ _ _ (T48.setTop (mkF m 109 #[.val (.long p1), .second, .val (.int p2), .val (.int p3), .val (.int p4), .val (.int p5), .val (.ref b42), .val (.long (0 : Int64)), .second, .val (.int (p2 ^^^ (-1 : Int32))), .val (.int p2), .val (.int p4), .val (.int p5)] [(.long (0 : Int64)), (.ref b42)]))
    obtain ⟨cq49, kq49, q49a, q49b, q49c⟩ := isOf hZ rfl E_b42_48
    obtain ⟨_, _, ⟨T49, L49, k49, n49⟩, -, X49, ⟨Lc49, hQ49, l49, y49, z49⟩, st49⟩ := X48.virtualBack hx (y := (⟨"com/example/surfeit/surfeit/IntBlocks", "get", "(J)I"⟩ : MethodName)) (z := (⟨"com/example/surfeit/surfeit/IntBlocks", "get", "(J)I"⟩ : MethodName)) hown (mvT hZ (hw _ (List.mem_of_getElem? (i := 32) rfl))) (mvT hZ (hw _ (List.mem_of_getElem? (i := 33) rfl))) (notFace_of_selects (args := #[]) (mvT hZ (hw _ (List.mem_of_getElem? (i := 35) rfl)))) (mvT hZ (hw _ (List.mem_of_getElem? (i := 35) rfl))) (mvT hZ (hw _ (List.mem_of_getElem? (i := 34) rfl))) (by decide) (backOf (W := 0) (rmG0 l Z a0 hw [] b42 ba bb (((((R0.set 0 (.int p3)).set 1 (.int p4)).set 2 (.int p5)).set 0 (.int p2)).set 3 (.int (p2 ^^^ (-1 : Int32)))) p2 T48.heap n0 Zs48 fB48 A_ba_48 cB48 (own_gn (by decide) (own_gs (own_ls (own_ls (own_ls hR0))) (by decide)))) hZ (hw _ (List.mem_of_getElem? (i := 36) rfl)) (hw _ (List.mem_of_getElem? (i := 2) rfl)) (by decide) (by decide)) q49a q49c (g := (mkF m 109 #[.val (.long p1), .second, .val (.int p2), .val (.int p3), .val (.int p4), .val (.int p5), .val (.ref b42), .val (.long (0 : Int64)), .second, .val (.int (p2 ^^^ (-1 : Int32))), .val (.int p2), .val (.int p4), .val (.int p5)] [(.long (0 : Int64)), (.ref b42)])) rfl (by rw [hml]; rfl) (Steps.refl _) (argsL := [(.long (0 : Int64))]) (rest := []) (lenOf pd_3 rfl) rfl (by show 2 * 0 + _ ≤ _; exact Nat.le_of_eq rfl) (hb hby at_109) (fun _ _ => ⟨rfl, rfl, (by decide : 3 + 0 ≤ _), (by decide : 65539 + 0 ≤ _)⟩)
    dsimp only [Pt.U, Pt.locs, Pt.cells, Pt.slots] at X49 l49 y49 z49 st49 hQ49
    subst l49 y49 z49
    obtain ⟨rfl, N49q, e49⟩ := hQ49
    have e49h : T49.heap = T48.heap := e49
    have N49 := Fr.app N48 N49q
    refine own_step (fun _ kc_ => st49.trans kc_) ?_
    show own_Ends p e below s _ _ _ (T49.setTop (mkF m 112 #[.val (.long p1), .second, .val (.int p2), .val (.int p3), .val (.int p4), .val (.int p5), .val (.ref b42), .val (.long (0 : Int64)), .second, .val (.int (p2 ^^^ (-1 : Int32))), .val (.int p2), .val (.int p4), .val (.int p5)] [(.int p2)]))
    refine own_step (fun _ kc_ => XS.iload X49.here hx rfl (hb hby at_112) rfl (XS.icmpNo X49.here hx rfl (hb hby at_114) rfl (XT.ii_ne_f (rfl : p2 = p2)) (XS.aload X49.here hx rfl (hb hby at_117) rfl rfl (XS.lconst X49.here hx rfl (hb hby at_119) kc_)))) ?_
    show own_Ends p e below s _ _ _ (T49.setTop (mkF m 120 #[.val (.long p1), .second, .val (.int p2), .val (.int p3), .val (.int p4), .val (.int p5), .val (.ref b42), .val (.long (0 : Int64)), .second, .val (.int (p2 ^^^ (-1 : Int32))), .val (.int p2), .val (.int p4), .val (.int p5)] [(.long (1 : Int64)), (.ref b42)]))
    obtain ⟨cq50, kq50, q50a, q50b, q50c⟩ := isOf hZ e49h E_b42_48
    obtain ⟨_, _, ⟨T50, L50, k50, n50⟩, -, X50, ⟨Lc50, hQ50, l50, y50, z50⟩, st50⟩ := X49.virtualBack hx (y := (⟨"com/example/surfeit/surfeit/IntBlocks", "get", "(J)I"⟩ : MethodName)) (z := (⟨"com/example/surfeit/surfeit/IntBlocks", "get", "(J)I"⟩ : MethodName)) hown (mvT hZ (hw _ (List.mem_of_getElem? (i := 32) rfl))) (mvT hZ (hw _ (List.mem_of_getElem? (i := 33) rfl))) (notFace_of_selects (args := #[]) (mvT hZ (hw _ (List.mem_of_getElem? (i := 35) rfl)))) (mvT hZ (hw _ (List.mem_of_getElem? (i := 35) rfl))) (mvT hZ (hw _ (List.mem_of_getElem? (i := 34) rfl))) (by decide) (backOf (W := 0) (rmG1 l Z a0 hw [] b42 ba bb (((((R0.set 0 (.int p3)).set 1 (.int p4)).set 2 (.int p5)).set 0 (.int p2)).set 3 (.int (p2 ^^^ (-1 : Int32)))) p4 T48.heap n0 Zs48 fB48 A_ba_48 cB48 (own_gn (by decide) (own_gn (by decide) (own_gn (by decide) (own_gs (own_ls hR0) (by decide)))))) hZ (hw _ (List.mem_of_getElem? (i := 36) rfl)) (hw _ (List.mem_of_getElem? (i := 2) rfl)) (by decide) (by decide)) q50a q50c (g := (mkF m 120 #[.val (.long p1), .second, .val (.int p2), .val (.int p3), .val (.int p4), .val (.int p5), .val (.ref b42), .val (.long (0 : Int64)), .second, .val (.int (p2 ^^^ (-1 : Int32))), .val (.int p2), .val (.int p4), .val (.int p5)] [(.long (1 : Int64)), (.ref b42)])) rfl (by rw [hml]; rfl) (Steps.refl _) (argsL := [(.long (1 : Int64))]) (rest := []) (lenOf pd_3 rfl) rfl (by show 2 * 0 + _ ≤ _; exact Nat.le_of_eq rfl) (hb hby at_120) (fun _ _ => ⟨rfl, e49h, (by decide : 3 + 0 ≤ _), (by decide : 65539 + 0 ≤ _)⟩)
    dsimp only [Pt.U, Pt.locs, Pt.cells, Pt.slots] at X50 l50 y50 z50 st50 hQ50
    subst l50 y50 z50
    obtain ⟨rfl, N50q, e50⟩ := hQ50
    have e50h : T50.heap = T48.heap := e50
    have N50 := Fr.app N49 N50q
    refine own_step (fun _ kc_ => st50.trans kc_) ?_
    show own_Ends p e below s _ _ _ (T50.setTop (mkF m 123 #[.val (.long p1), .second, .val (.int p2), .val (.int p3), .val (.int p4), .val (.int p5), .val (.ref b42), .val (.long (0 : Int64)), .second, .val (.int (p2 ^^^ (-1 : Int32))), .val (.int p2), .val (.int p4), .val (.int p5)] [(.int p4)]))
    refine own_step (fun _ kc_ => XS.iload X50.here hx rfl (hb hby at_123) rfl (XS.icmpNo X50.here hx rfl (hb hby at_125) rfl (XT.ii_ne_f (rfl : p4 = p4)) (XS.aload X50.here hx rfl (hb hby at_128) rfl rfl (X50.ldc2J hx hown (mvT hZ (hw _ (List.mem_of_getElem? (i := 31) rfl))) rfl (hb hby at_130) kc_)))) ?_
    show own_Ends p e below s _ _ _ (T50.setTop (mkF m 133 #[.val (.long p1), .second, .val (.int p2), .val (.int p3), .val (.int p4), .val (.int p5), .val (.ref b42), .val (.long (0 : Int64)), .second, .val (.int (p2 ^^^ (-1 : Int32))), .val (.int p2), .val (.int p4), .val (.int p5)] [(.long (2 : Int64)), (.ref b42)]))
    obtain ⟨cq51, kq51, q51a, q51b, q51c⟩ := isOf hZ e50h E_b42_48
    obtain ⟨_, _, ⟨T51, L51, k51, n51⟩, -, X51, ⟨Lc51, hQ51, l51, y51, z51⟩, st51⟩ := X50.virtualBack hx (y := (⟨"com/example/surfeit/surfeit/IntBlocks", "get", "(J)I"⟩ : MethodName)) (z := (⟨"com/example/surfeit/surfeit/IntBlocks", "get", "(J)I"⟩ : MethodName)) hown (mvT hZ (hw _ (List.mem_of_getElem? (i := 32) rfl))) (mvT hZ (hw _ (List.mem_of_getElem? (i := 33) rfl))) (notFace_of_selects (args := #[]) (mvT hZ (hw _ (List.mem_of_getElem? (i := 35) rfl)))) (mvT hZ (hw _ (List.mem_of_getElem? (i := 35) rfl))) (mvT hZ (hw _ (List.mem_of_getElem? (i := 34) rfl))) (by decide) (backOf (W := 0) (rmG2 l Z a0 hw [] b42 ba bb (((((R0.set 0 (.int p3)).set 1 (.int p4)).set 2 (.int p5)).set 0 (.int p2)).set 3 (.int (p2 ^^^ (-1 : Int32)))) p5 T48.heap n0 Zs48 fB48 A_ba_48 cB48 (own_gn (by decide) (own_gn (by decide) (own_gs (own_ls (own_ls hR0)) (by decide))))) hZ (hw _ (List.mem_of_getElem? (i := 36) rfl)) (hw _ (List.mem_of_getElem? (i := 2) rfl)) (by decide) (by decide)) q51a q51c (g := (mkF m 133 #[.val (.long p1), .second, .val (.int p2), .val (.int p3), .val (.int p4), .val (.int p5), .val (.ref b42), .val (.long (0 : Int64)), .second, .val (.int (p2 ^^^ (-1 : Int32))), .val (.int p2), .val (.int p4), .val (.int p5)] [(.long (2 : Int64)), (.ref b42)])) rfl (by rw [hml]; rfl) (Steps.refl _) (argsL := [(.long (2 : Int64))]) (rest := []) (lenOf pd_3 rfl) rfl (by show 2 * 0 + _ ≤ _; exact Nat.le_of_eq rfl) (hb hby at_133) (fun _ _ => ⟨rfl, e50h, (by decide : 3 + 0 ≤ _), (by decide : 65539 + 0 ≤ _)⟩)
    dsimp only [Pt.U, Pt.locs, Pt.cells, Pt.slots] at X51 l51 y51 z51 st51 hQ51
    subst l51 y51 z51
    obtain ⟨rfl, N51q, e51⟩ := hQ51
    have e51h : T51.heap = T48.heap := e51
    have N51 := Fr.app N50 N51q
    refine own_step (fun _ kc_ => st51.trans kc_) ?_
    show own_Ends p e below s _ _ _ (T51.setTop (mkF m 136 #[.val (.long p1), .second, .val (.int p2), .val (.int p3), .val (.int p4), .val (.int p5), .val (.ref b42), .val (.long (0 : Int64)), .second, .val (.int (p2 ^^^ (-1 : Int32))), .val (.int p2), .val (.int p4), .val (.int p5)] [(.int p5)]))
    refine own_step (fun _ kc_ => XS.iload X51.here hx rfl (hb hby at_136) rfl (XS.icmpNo X51.here hx rfl (hb hby at_138) rfl (XT.ii_ne_f (rfl : p5 = p5)) (XS.aload X51.here hx rfl (hb hby at_141) rfl rfl (X51.ldc2J hx hown (mvT hZ (hw _ (List.mem_of_getElem? (i := 25) rfl))) rfl (hb hby at_143) kc_)))) ?_
    show own_Ends p e below s _ _ _ (T51.setTop (mkF m 146 #[.val (.long p1), .second, .val (.int p2), .val (.int p3), .val (.int p4), .val (.int p5), .val (.ref b42), .val (.long (0 : Int64)), .second, .val (.int (p2 ^^^ (-1 : Int32))), .val (.int p2), .val (.int p4), .val (.int p5)] [(.long (3 : Int64)), (.ref b42)]))
    obtain ⟨cq52, kq52, q52a, q52b, q52c⟩ := isOf hZ e51h E_b42_48
    obtain ⟨_, _, ⟨T52, L52, k52, n52⟩, -, X52, ⟨Lc52, hQ52, l52, y52, z52⟩, st52⟩ := X51.virtualBack hx (y := (⟨"com/example/surfeit/surfeit/IntBlocks", "get", "(J)I"⟩ : MethodName)) (z := (⟨"com/example/surfeit/surfeit/IntBlocks", "get", "(J)I"⟩ : MethodName)) hown (mvT hZ (hw _ (List.mem_of_getElem? (i := 32) rfl))) (mvT hZ (hw _ (List.mem_of_getElem? (i := 33) rfl))) (notFace_of_selects (args := #[]) (mvT hZ (hw _ (List.mem_of_getElem? (i := 35) rfl)))) (mvT hZ (hw _ (List.mem_of_getElem? (i := 35) rfl))) (mvT hZ (hw _ (List.mem_of_getElem? (i := 34) rfl))) (by decide) (backOf (W := 0) (rmG3 l Z a0 hw [] b42 ba bb (((((R0.set 0 (.int p3)).set 1 (.int p4)).set 2 (.int p5)).set 0 (.int p2)).set 3 (.int (p2 ^^^ (-1 : Int32)))) (p2 ^^^ (-1 : Int32)) T48.heap n0 Zs48 fB48 A_ba_48 cB48 (own_gs (own_ls (own_ls (own_ls (own_ls hR0)))) (by decide))) hZ (hw _ (List.mem_of_getElem? (i := 36) rfl)) (hw _ (List.mem_of_getElem? (i := 2) rfl)) (by decide) (by decide)) q52a q52c (g := (mkF m 146 #[.val (.long p1), .second, .val (.int p2), .val (.int p3), .val (.int p4), .val (.int p5), .val (.ref b42), .val (.long (0 : Int64)), .second, .val (.int (p2 ^^^ (-1 : Int32))), .val (.int p2), .val (.int p4), .val (.int p5)] [(.long (3 : Int64)), (.ref b42)])) rfl (by rw [hml]; rfl) (Steps.refl _) (argsL := [(.long (3 : Int64))]) (rest := []) (lenOf pd_3 rfl) rfl (by show 2 * 0 + _ ≤ _; exact Nat.le_of_eq rfl) (hb hby at_146) (fun _ _ => ⟨rfl, e51h, (by decide : 3 + 0 ≤ _), (by decide : 65539 + 0 ≤ _)⟩)
    dsimp only [Pt.U, Pt.locs, Pt.cells, Pt.slots] at X52 l52 y52 z52 st52 hQ52
    subst l52 y52 z52
    obtain ⟨rfl, N52q, e52⟩ := hQ52
    have e52h : T52.heap = T48.heap := e52
    have N52 := Fr.app N51 N52q
    refine own_step (fun _ kc_ => st52.trans kc_) ?_
    show own_Ends p e below s _ _ _ (T52.setTop (mkF m 149 #[.val (.long p1), .second, .val (.int p2), .val (.int p3), .val (.int p4), .val (.int p5), .val (.ref b42), .val (.long (0 : Int64)), .second, .val (.int (p2 ^^^ (-1 : Int32))), .val (.int p2), .val (.int p4), .val (.int p5)] [(.int (p2 ^^^ (-1 : Int32)))]))
    refine own_step (fun _ kc_ => XS.iload X52.here hx rfl (hb hby at_149) rfl (XS.icmpNo X52.here hx rfl (hb hby at_151) rfl (XT.ii_ne_f (rfl : (p2 ^^^ (-1 : Int32)) = (p2 ^^^ (-1 : Int32)))) (XS.iconst X52.here hx rfl (hb hby at_154) (XS.goto X52.here hx rfl (pc0 := 155) (pc' := 159) rfl (hb hby at_155) (by decide) (by decide) kc_)))) ?_
    show own_Ends p e below s _ _ _ (T52.setTop (mkF m 159 #[.val (.long p1), .second, .val (.int p2), .val (.int p3), .val (.int p4), .val (.int p5), .val (.ref b42), .val (.long (0 : Int64)), .second, .val (.int (p2 ^^^ (-1 : Int32))), .val (.int p2), .val (.int p4), .val (.int p5)] [(.int (1 : Int32))]))
    exact own_retN X52 hx (t := .boolean) hret (by simp) hlk (hb hby at_159) (by decide) (by decide) rfl ⟨rfl, N52⟩
  · show own_Ends p e below s _ _ _ (T46.setTop (mkF m 40 #[.val (.long p1), .second, .val (.int p2), .val (.int p3), .val (.int p4), .val (.int p5), .val (.ref b42), .val (.long (1 : Int64)), .second, .unset, .unset, .unset, .unset] []))
    refine own_step (fun _ kc_ => XS.aload X46.here hx rfl (hb hby at_40) rfl rfl (XS.lload X46.here hx rfl (hb hby at_42) rfl (XS.iloadN X46.here hx rfl (hb hby at_44) rfl kc_))) ?_
    show own_Ends p e below s _ _ _ (T46.setTop (mkF m 45 #[.val (.long p1), .second, .val (.int p2), .val (.int p3), .val (.int p4), .val (.int p5), .val (.ref b42), .val (.long (1 : Int64)), .second, .unset, .unset, .unset, .unset] [(.int p2), (.long (1 : Int64)), (.ref b42)]))
    obtain ⟨cq53, kq53, q53a, q53b, q53c⟩ := isOf hZ rfl E_b42_46
    obtain ⟨_, _, ⟨T53, L53, k53, n53⟩, -, X53, ⟨Lc53, hQ53, l53, y53, z53⟩, st53⟩ := X46.virtualBack hx (y := (⟨"com/example/surfeit/surfeit/IntBlocks", "set", "(JI)V"⟩ : MethodName)) (z := (⟨"com/example/surfeit/surfeit/IntBlocks", "set", "(JI)V"⟩ : MethodName)) hown (mvT hZ (hw _ (List.mem_of_getElem? (i := 26) rfl))) (mvT hZ (hw _ (List.mem_of_getElem? (i := 27) rfl))) (notFace_of_selects (args := #[]) (mvT hZ (hw _ (List.mem_of_getElem? (i := 29) rfl)))) (mvT hZ (hw _ (List.mem_of_getElem? (i := 29) rfl))) (mvT hZ (hw _ (List.mem_of_getElem? (i := 28) rfl))) (by decide) (backOf (W := 0) (rmS1 l Z a0 hw [] b42 p2 ba bb (((R0.set 0 (.int p3)).set 1 (.int p4)).set 2 (.int p5)) T46.heap n0 Zs46 fB46 A_ba_46 cB46 (own_ls (own_ls (own_ls hR0))) (Nat.le_trans Zs43 hbb) nr2 n22) hZ (hw _ (List.mem_of_getElem? (i := 30) rfl)) (hw _ (List.mem_of_getElem? (i := 2) rfl)) (by decide) (by decide)) q53a q53c (g := (mkF m 45 #[.val (.long p1), .second, .val (.int p2), .val (.int p3), .val (.int p4), .val (.int p5), .val (.ref b42), .val (.long (1 : Int64)), .second, .unset, .unset, .unset, .unset] [(.int p2), (.long (1 : Int64)), (.ref b42)])) rfl (by rw [hml]; rfl) (Steps.refl _) (argsL := [(.long (1 : Int64)), (.int p2)]) (rest := []) (lenOf pd_2 rfl) rfl (by show 2 * 0 + _ ≤ _; exact Nat.le_of_eq rfl) (hb hby at_45) (fun _ _ => ⟨rfl, rfl, (by decide : 3 + 0 ≤ _), (by decide : 65539 + 0 ≤ _)⟩)
    dsimp only [Pt.U, Pt.locs, Pt.cells, Pt.slots] at X53 l53 y53 z53 st53 hQ53
    subst l53 y53 z53
    obtain ⟨rfl, N53q, K53k, cB53⟩ := hQ53
    have E_b42_53 := (E_b42_46).keep K53k
    have F_b42_blocks_53 := (fB46).keep K53k (ninS nr2 nin0)
    have F_b42_length_53 := (fL46).keep K53k (ninS nr2 nin0)
    have A_ba_53 := (A_ba_46).keep K53k (ninS n22 nin0)
    have Zs53 := Nat.le_trans Zs46 K53k.1
    have N53 := Fr.app N46 N53q
    refine own_step (fun _ kc_ => st53.trans kc_) ?_
    show own_Ends p e below s _ _ _ (T53.setTop (mkF m 48 #[.val (.long p1), .second, .val (.int p2), .val (.int p3), .val (.int p4), .val (.int p5), .val (.ref b42), .val (.long (1 : Int64)), .second, .unset, .unset, .unset, .unset] []))
    refine own_step (fun _ kc_ => XS.iloadN X53.here hx rfl (hb hby at_48) rfl (XS.iconst X53.here hx rfl (hb hby at_49) (XS.ixor X53.here hx rfl (hb hby at_50) rfl (XS.istore X53.here hx rfl (hb hby at_51) rfl (l' := #[.val (.long p1), .second, .val (.int p2), .val (.int p3), .val (.int p4), .val (.int p5), .val (.ref b42), .val (.long (1 : Int64)), .second, .val (.int (p2 ^^^ (-1 : Int32))), .unset, .unset, .unset]) rfl (XS.aload X53.here hx rfl (hb hby at_53) rfl rfl (XS.iload X53.here hx rfl (hb hby at_55) rfl kc_)))))) ?_
    show own_Ends p e below s _ _ _ (T53.setTop (mkF m 57 #[.val (.long p1), .second, .val (.int p2), .val (.int p3), .val (.int p4), .val (.int p5), .val (.ref b42), .val (.long (1 : Int64)), .second, .val (.int (p2 ^^^ (-1 : Int32))), .unset, .unset, .unset] [(.int (p2 ^^^ (-1 : Int32))), (.ref b42)]))
    obtain ⟨cq54, kq54, q54a, q54b, q54c⟩ := isOf hZ rfl E_b42_53
    obtain ⟨_, _, ⟨T54, L54, k54, n54⟩, -, X54, ⟨Lc54, hQ54, l54, y54, z54⟩, st54⟩ := X53.virtualBack hx (y := (⟨"com/example/surfeit/surfeit/IntBlocks", "add", "(I)V"⟩ : MethodName)) (z := (⟨"com/example/surfeit/surfeit/IntBlocks", "add", "(I)V"⟩ : MethodName)) hown (mvT hZ (hw _ (List.mem_of_getElem? (i := 13) rfl))) (mvT hZ (hw _ (List.mem_of_getElem? (i := 14) rfl))) (notFace_of_selects (args := #[]) (mvT hZ (hw _ (List.mem_of_getElem? (i := 16) rfl)))) (mvT hZ (hw _ (List.mem_of_getElem? (i := 16) rfl))) (mvT hZ (hw _ (List.mem_of_getElem? (i := 15) rfl))) (by decide) (backOf (W := 0) (rmA3 l Z a0 hw [] b42 (p2 ^^^ (-1 : Int32)) ba bb ((((R0.set 0 (.int p3)).set 1 (.int p4)).set 2 (.int p5)).set 1 (.int p2)) T53.heap n0 Zs53 E_b42_53 F_b42_blocks_53 F_b42_length_53 A_ba_53 cB53 (own_ls (own_ls (own_ls (own_ls hR0)))) n0_b42 (Nat.le_trans Zs43 hbb) nrb nr2 n22) hZ (hw _ (List.mem_of_getElem? (i := 17) rfl)) (hw _ (List.mem_of_getElem? (i := 2) rfl)) (by decide) (by decide)) q54a q54c (g := (mkF m 57 #[.val (.long p1), .second, .val (.int p2), .val (.int p3), .val (.int p4), .val (.int p5), .val (.ref b42), .val (.long (1 : Int64)), .second, .val (.int (p2 ^^^ (-1 : Int32))), .unset, .unset, .unset] [(.int (p2 ^^^ (-1 : Int32))), (.ref b42)])) rfl (by rw [hml]; rfl) (Steps.refl _) (argsL := [(.int (p2 ^^^ (-1 : Int32)))]) (rest := []) (lenOf pd_1 rfl) rfl (by show 2 * 0 + _ ≤ _; exact Nat.le_of_eq rfl) (hb hby at_57) (fun _ _ => ⟨rfl, rfl, (by decide : 3 + 0 ≤ _), (by decide : 65539 + 0 ≤ _)⟩)
    dsimp only [Pt.U, Pt.locs, Pt.cells, Pt.slots] at X54 l54 y54 z54 st54 hQ54
    subst l54 y54 z54
    obtain ⟨rfl, N54q, K54k, fB54, fL54, cB54⟩ := hQ54
    have E_b42_54 := (E_b42_53).keep K54k
    have A_ba_54 := (A_ba_53).keep K54k (ninS (Ne.symm nrb) (ninS n22 nin0))
    have Zs54 := Nat.le_trans Zs53 K54k.1
    have N54 := Fr.app N53 N54q
    refine own_step (fun _ kc_ => st54.trans kc_) ?_
    show own_Ends p e below s _ _ _ (T54.setTop (mkF m 60 #[.val (.long p1), .second, .val (.int p2), .val (.int p3), .val (.int p4), .val (.int p5), .val (.ref b42), .val (.long (1 : Int64)), .second, .val (.int (p2 ^^^ (-1 : Int32))), .unset, .unset, .unset] []))
    refine own_step (fun _ kc_ => XS.lload X54.here hx rfl (hb hby at_60) rfl (XS.lconst X54.here hx rfl (hb hby at_62) (XT.lcmp X54.here hx rfl (hb hby at_63) rfl (XS.ifYes X54.here hx rfl (pc0 := 64) (pc' := 71) rfl (hb hby at_64) rfl (XT.ll_ne_t (by decide : ¬ ((1 : Int64) = (0 : Int64)))) (by decide) (by decide) (XS.iloadN X54.here hx rfl (hb hby at_71) rfl (XS.istore X54.here hx rfl (hb hby at_72) rfl (l' := #[.val (.long p1), .second, .val (.int p2), .val (.int p3), .val (.int p4), .val (.int p5), .val (.ref b42), .val (.long (1 : Int64)), .second, .val (.int (p2 ^^^ (-1 : Int32))), .val (.int p3), .unset, .unset]) rfl (XS.lload X54.here hx rfl (hb hby at_74) rfl (XS.lconst X54.here hx rfl (hb hby at_76) kc_)))))))) ?_
    show own_Ends p e below s _ _ _ (T54.setTop (mkF m 77 #[.val (.long p1), .second, .val (.int p2), .val (.int p3), .val (.int p4), .val (.int p5), .val (.ref b42), .val (.long (1 : Int64)), .second, .val (.int (p2 ^^^ (-1 : Int32))), .val (.int p3), .unset, .unset] [(.long (1 : Int64)), (.long (1 : Int64))]))
    refine own_step (fun _ kc_ => XT.lcmp X54.here hx rfl (hb hby at_77) rfl (XS.ifNo X54.here hx rfl (hb hby at_78) rfl (XT.ll_ne_f (by decide : (1 : Int64) = (1 : Int64))) (XS.iloadN X54.here hx rfl (hb hby at_81) rfl (XS.goto X54.here hx rfl (pc0 := 82) (pc' := 87) rfl (hb hby at_82) (by decide) (by decide) (XS.istore X54.here hx rfl (hb hby at_87) rfl (l' := #[.val (.long p1), .second, .val (.int p2), .val (.int p3), .val (.int p4), .val (.int p5), .val (.ref b42), .val (.long (1 : Int64)), .second, .val (.int (p2 ^^^ (-1 : Int32))), .val (.int p3), .val (.int p2), .unset]) rfl (XS.lload X54.here hx rfl (hb hby at_89) rfl (X54.ldc2J hx hown (mvT hZ (hw _ (List.mem_of_getElem? (i := 31) rfl))) rfl (hb hby at_91) (XT.lcmp X54.here hx rfl (hb hby at_94) rfl kc_)))))))) ?_
    show own_Ends p e below s _ _ _ (T54.setTop (mkF m 95 #[.val (.long p1), .second, .val (.int p2), .val (.int p3), .val (.int p4), .val (.int p5), .val (.ref b42), .val (.long (1 : Int64)), .second, .val (.int (p2 ^^^ (-1 : Int32))), .val (.int p3), .val (.int p2), .unset] [(.int (XT.cmpL (1 : Int64) (2 : Int64)))]))
    refine own_step (fun _ kc_ => XS.ifYes X54.here hx rfl (pc0 := 95) (pc' := 102) rfl (hb hby at_95) rfl (XT.ll_ne_t (by decide : ¬ ((1 : Int64) = (2 : Int64)))) (by decide) (by decide) (XS.iload X54.here hx rfl (hb hby at_102) rfl (XS.istore X54.here hx rfl (hb hby at_104) rfl (l' := #[.val (.long p1), .second, .val (.int p2), .val (.int p3), .val (.int p4), .val (.int p5), .val (.ref b42), .val (.long (1 : Int64)), .second, .val (.int (p2 ^^^ (-1 : Int32))), .val (.int p3), .val (.int p2), .val (.int p5)]) rfl (XS.aload X54.here hx rfl (hb hby at_106) rfl rfl (XS.lconst X54.here hx rfl (hb hby at_108) kc_))))) ?_
    show own_Ends p e below s _ _ _ (T54.setTop (mkF m 109 #[.val (.long p1), .second, .val (.int p2), .val (.int p3), .val (.int p4), .val (.int p5), .val (.ref b42), .val (.long (1 : Int64)), .second, .val (.int (p2 ^^^ (-1 : Int32))), .val (.int p3), .val (.int p2), .val (.int p5)] [(.long (0 : Int64)), (.ref b42)]))
    obtain ⟨cq55, kq55, q55a, q55b, q55c⟩ := isOf hZ rfl E_b42_54
    obtain ⟨_, _, ⟨T55, L55, k55, n55⟩, -, X55, ⟨Lc55, hQ55, l55, y55, z55⟩, st55⟩ := X54.virtualBack hx (y := (⟨"com/example/surfeit/surfeit/IntBlocks", "get", "(J)I"⟩ : MethodName)) (z := (⟨"com/example/surfeit/surfeit/IntBlocks", "get", "(J)I"⟩ : MethodName)) hown (mvT hZ (hw _ (List.mem_of_getElem? (i := 32) rfl))) (mvT hZ (hw _ (List.mem_of_getElem? (i := 33) rfl))) (notFace_of_selects (args := #[]) (mvT hZ (hw _ (List.mem_of_getElem? (i := 35) rfl)))) (mvT hZ (hw _ (List.mem_of_getElem? (i := 35) rfl))) (mvT hZ (hw _ (List.mem_of_getElem? (i := 34) rfl))) (by decide) (backOf (W := 0) (rmG0 l Z a0 hw [] b42 ba bb (((((R0.set 0 (.int p3)).set 1 (.int p4)).set 2 (.int p5)).set 1 (.int p2)).set 3 (.int (p2 ^^^ (-1 : Int32)))) p3 T54.heap n0 Zs54 fB54 A_ba_54 cB54 (own_gn (by decide) (own_gn (by decide) (own_gn (by decide) (own_gn (by decide) (own_gs hR0 (by decide))))))) hZ (hw _ (List.mem_of_getElem? (i := 36) rfl)) (hw _ (List.mem_of_getElem? (i := 2) rfl)) (by decide) (by decide)) q55a q55c (g := (mkF m 109 #[.val (.long p1), .second, .val (.int p2), .val (.int p3), .val (.int p4), .val (.int p5), .val (.ref b42), .val (.long (1 : Int64)), .second, .val (.int (p2 ^^^ (-1 : Int32))), .val (.int p3), .val (.int p2), .val (.int p5)] [(.long (0 : Int64)), (.ref b42)])) rfl (by rw [hml]; rfl) (Steps.refl _) (argsL := [(.long (0 : Int64))]) (rest := []) (lenOf pd_3 rfl) rfl (by show 2 * 0 + _ ≤ _; exact Nat.le_of_eq rfl) (hb hby at_109) (fun _ _ => ⟨rfl, rfl, (by decide : 3 + 0 ≤ _), (by decide : 65539 + 0 ≤ _)⟩)
    dsimp only [Pt.U, Pt.locs, Pt.cells, Pt.slots] at X55 l55 y55 z55 st55 hQ55
    subst l55 y55 z55
    obtain ⟨rfl, N55q, e55⟩ := hQ55
    have e55h : T55.heap = T54.heap := e55
    have N55 := Fr.app N54 N55q
    refine own_step (fun _ kc_ => st55.trans kc_) ?_
    show own_Ends p e below s _ _ _ (T55.setTop (mkF m 112 #[.val (.long p1), .second, .val (.int p2), .val (.int p3), .val (.int p4), .val (.int p5), .val (.ref b42), .val (.long (1 : Int64)), .second, .val (.int (p2 ^^^ (-1 : Int32))), .val (.int p3), .val (.int p2), .val (.int p5)] [(.int p3)]))
    refine own_step (fun _ kc_ => XS.iload X55.here hx rfl (hb hby at_112) rfl (XS.icmpNo X55.here hx rfl (hb hby at_114) rfl (XT.ii_ne_f (rfl : p3 = p3)) (XS.aload X55.here hx rfl (hb hby at_117) rfl rfl (XS.lconst X55.here hx rfl (hb hby at_119) kc_)))) ?_
    show own_Ends p e below s _ _ _ (T55.setTop (mkF m 120 #[.val (.long p1), .second, .val (.int p2), .val (.int p3), .val (.int p4), .val (.int p5), .val (.ref b42), .val (.long (1 : Int64)), .second, .val (.int (p2 ^^^ (-1 : Int32))), .val (.int p3), .val (.int p2), .val (.int p5)] [(.long (1 : Int64)), (.ref b42)]))
    obtain ⟨cq56, kq56, q56a, q56b, q56c⟩ := isOf hZ e55h E_b42_54
    obtain ⟨_, _, ⟨T56, L56, k56, n56⟩, -, X56, ⟨Lc56, hQ56, l56, y56, z56⟩, st56⟩ := X55.virtualBack hx (y := (⟨"com/example/surfeit/surfeit/IntBlocks", "get", "(J)I"⟩ : MethodName)) (z := (⟨"com/example/surfeit/surfeit/IntBlocks", "get", "(J)I"⟩ : MethodName)) hown (mvT hZ (hw _ (List.mem_of_getElem? (i := 32) rfl))) (mvT hZ (hw _ (List.mem_of_getElem? (i := 33) rfl))) (notFace_of_selects (args := #[]) (mvT hZ (hw _ (List.mem_of_getElem? (i := 35) rfl)))) (mvT hZ (hw _ (List.mem_of_getElem? (i := 35) rfl))) (mvT hZ (hw _ (List.mem_of_getElem? (i := 34) rfl))) (by decide) (backOf (W := 0) (rmG1 l Z a0 hw [] b42 ba bb (((((R0.set 0 (.int p3)).set 1 (.int p4)).set 2 (.int p5)).set 1 (.int p2)).set 3 (.int (p2 ^^^ (-1 : Int32)))) p2 T54.heap n0 Zs54 fB54 A_ba_54 cB54 (own_gn (by decide) (own_gs (own_ls (own_ls (own_ls hR0))) (by decide)))) hZ (hw _ (List.mem_of_getElem? (i := 36) rfl)) (hw _ (List.mem_of_getElem? (i := 2) rfl)) (by decide) (by decide)) q56a q56c (g := (mkF m 120 #[.val (.long p1), .second, .val (.int p2), .val (.int p3), .val (.int p4), .val (.int p5), .val (.ref b42), .val (.long (1 : Int64)), .second, .val (.int (p2 ^^^ (-1 : Int32))), .val (.int p3), .val (.int p2), .val (.int p5)] [(.long (1 : Int64)), (.ref b42)])) rfl (by rw [hml]; rfl) (Steps.refl _) (argsL := [(.long (1 : Int64))]) (rest := []) (lenOf pd_3 rfl) rfl (by show 2 * 0 + _ ≤ _; exact Nat.le_of_eq rfl) (hb hby at_120) (fun _ _ => ⟨rfl, e55h, (by decide : 3 + 0 ≤ _), (by decide : 65539 + 0 ≤ _)⟩)
    dsimp only [Pt.U, Pt.locs, Pt.cells, Pt.slots] at X56 l56 y56 z56 st56 hQ56
    subst l56 y56 z56
    obtain ⟨rfl, N56q, e56⟩ := hQ56
    have e56h : T56.heap = T54.heap := e56
    have N56 := Fr.app N55 N56q
    refine own_step (fun _ kc_ => st56.trans kc_) ?_
    show own_Ends p e below s _ _ _ (T56.setTop (mkF m 123 #[.val (.long p1), .second, .val (.int p2), .val (.int p3), .val (.int p4), .val (.int p5), .val (.ref b42), .val (.long (1 : Int64)), .second, .val (.int (p2 ^^^ (-1 : Int32))), .val (.int p3), .val (.int p2), .val (.int p5)] [(.int p2)]))
    refine own_step (fun _ kc_ => XS.iload X56.here hx rfl (hb hby at_123) rfl (XS.icmpNo X56.here hx rfl (hb hby at_125) rfl (XT.ii_ne_f (rfl : p2 = p2)) (XS.aload X56.here hx rfl (hb hby at_128) rfl rfl (X56.ldc2J hx hown (mvT hZ (hw _ (List.mem_of_getElem? (i := 31) rfl))) rfl (hb hby at_130) kc_)))) ?_
    show own_Ends p e below s _ _ _ (T56.setTop (mkF m 133 #[.val (.long p1), .second, .val (.int p2), .val (.int p3), .val (.int p4), .val (.int p5), .val (.ref b42), .val (.long (1 : Int64)), .second, .val (.int (p2 ^^^ (-1 : Int32))), .val (.int p3), .val (.int p2), .val (.int p5)] [(.long (2 : Int64)), (.ref b42)]))
    obtain ⟨cq57, kq57, q57a, q57b, q57c⟩ := isOf hZ e56h E_b42_54
    obtain ⟨_, _, ⟨T57, L57, k57, n57⟩, -, X57, ⟨Lc57, hQ57, l57, y57, z57⟩, st57⟩ := X56.virtualBack hx (y := (⟨"com/example/surfeit/surfeit/IntBlocks", "get", "(J)I"⟩ : MethodName)) (z := (⟨"com/example/surfeit/surfeit/IntBlocks", "get", "(J)I"⟩ : MethodName)) hown (mvT hZ (hw _ (List.mem_of_getElem? (i := 32) rfl))) (mvT hZ (hw _ (List.mem_of_getElem? (i := 33) rfl))) (notFace_of_selects (args := #[]) (mvT hZ (hw _ (List.mem_of_getElem? (i := 35) rfl)))) (mvT hZ (hw _ (List.mem_of_getElem? (i := 35) rfl))) (mvT hZ (hw _ (List.mem_of_getElem? (i := 34) rfl))) (by decide) (backOf (W := 0) (rmG2 l Z a0 hw [] b42 ba bb (((((R0.set 0 (.int p3)).set 1 (.int p4)).set 2 (.int p5)).set 1 (.int p2)).set 3 (.int (p2 ^^^ (-1 : Int32)))) p5 T54.heap n0 Zs54 fB54 A_ba_54 cB54 (own_gn (by decide) (own_gn (by decide) (own_gs (own_ls (own_ls hR0)) (by decide))))) hZ (hw _ (List.mem_of_getElem? (i := 36) rfl)) (hw _ (List.mem_of_getElem? (i := 2) rfl)) (by decide) (by decide)) q57a q57c (g := (mkF m 133 #[.val (.long p1), .second, .val (.int p2), .val (.int p3), .val (.int p4), .val (.int p5), .val (.ref b42), .val (.long (1 : Int64)), .second, .val (.int (p2 ^^^ (-1 : Int32))), .val (.int p3), .val (.int p2), .val (.int p5)] [(.long (2 : Int64)), (.ref b42)])) rfl (by rw [hml]; rfl) (Steps.refl _) (argsL := [(.long (2 : Int64))]) (rest := []) (lenOf pd_3 rfl) rfl (by show 2 * 0 + _ ≤ _; exact Nat.le_of_eq rfl) (hb hby at_133) (fun _ _ => ⟨rfl, e56h, (by decide : 3 + 0 ≤ _), (by decide : 65539 + 0 ≤ _)⟩)
    dsimp only [Pt.U, Pt.locs, Pt.cells, Pt.slots] at X57 l57 y57 z57 st57 hQ57
    subst l57 y57 z57
    obtain ⟨rfl, N57q, e57⟩ := hQ57
    have e57h : T57.heap = T54.heap := e57
    have N57 := Fr.app N56 N57q
    refine own_step (fun _ kc_ => st57.trans kc_) ?_
    show own_Ends p e below s _ _ _ (T57.setTop (mkF m 136 #[.val (.long p1), .second, .val (.int p2), .val (.int p3), .val (.int p4), .val (.int p5), .val (.ref b42), .val (.long (1 : Int64)), .second, .val (.int (p2 ^^^ (-1 : Int32))), .val (.int p3), .val (.int p2), .val (.int p5)] [(.int p5)]))
    refine own_step (fun _ kc_ => XS.iload X57.here hx rfl (hb hby at_136) rfl (XS.icmpNo X57.here hx rfl (hb hby at_138) rfl (XT.ii_ne_f (rfl : p5 = p5)) (XS.aload X57.here hx rfl (hb hby at_141) rfl rfl (X57.ldc2J hx hown (mvT hZ (hw _ (List.mem_of_getElem? (i := 25) rfl))) rfl (hb hby at_143) kc_)))) ?_
    show own_Ends p e below s _ _ _ (T57.setTop (mkF m 146 #[.val (.long p1), .second, .val (.int p2), .val (.int p3), .val (.int p4), .val (.int p5), .val (.ref b42), .val (.long (1 : Int64)), .second, .val (.int (p2 ^^^ (-1 : Int32))), .val (.int p3), .val (.int p2), .val (.int p5)] [(.long (3 : Int64)), (.ref b42)]))
    obtain ⟨cq58, kq58, q58a, q58b, q58c⟩ := isOf hZ e57h E_b42_54
    obtain ⟨_, _, ⟨T58, L58, k58, n58⟩, -, X58, ⟨Lc58, hQ58, l58, y58, z58⟩, st58⟩ := X57.virtualBack hx (y := (⟨"com/example/surfeit/surfeit/IntBlocks", "get", "(J)I"⟩ : MethodName)) (z := (⟨"com/example/surfeit/surfeit/IntBlocks", "get", "(J)I"⟩ : MethodName)) hown (mvT hZ (hw _ (List.mem_of_getElem? (i := 32) rfl))) (mvT hZ (hw _ (List.mem_of_getElem? (i := 33) rfl))) (notFace_of_selects (args := #[]) (mvT hZ (hw _ (List.mem_of_getElem? (i := 35) rfl)))) (mvT hZ (hw _ (List.mem_of_getElem? (i := 35) rfl))) (mvT hZ (hw _ (List.mem_of_getElem? (i := 34) rfl))) (by decide) (backOf (W := 0) (rmG3 l Z a0 hw [] b42 ba bb (((((R0.set 0 (.int p3)).set 1 (.int p4)).set 2 (.int p5)).set 1 (.int p2)).set 3 (.int (p2 ^^^ (-1 : Int32)))) (p2 ^^^ (-1 : Int32)) T54.heap n0 Zs54 fB54 A_ba_54 cB54 (own_gs (own_ls (own_ls (own_ls (own_ls hR0)))) (by decide))) hZ (hw _ (List.mem_of_getElem? (i := 36) rfl)) (hw _ (List.mem_of_getElem? (i := 2) rfl)) (by decide) (by decide)) q58a q58c (g := (mkF m 146 #[.val (.long p1), .second, .val (.int p2), .val (.int p3), .val (.int p4), .val (.int p5), .val (.ref b42), .val (.long (1 : Int64)), .second, .val (.int (p2 ^^^ (-1 : Int32))), .val (.int p3), .val (.int p2), .val (.int p5)] [(.long (3 : Int64)), (.ref b42)])) rfl (by rw [hml]; rfl) (Steps.refl _) (argsL := [(.long (3 : Int64))]) (rest := []) (lenOf pd_3 rfl) rfl (by show 2 * 0 + _ ≤ _; exact Nat.le_of_eq rfl) (hb hby at_146) (fun _ _ => ⟨rfl, e57h, (by decide : 3 + 0 ≤ _), (by decide : 65539 + 0 ≤ _)⟩)
    dsimp only [Pt.U, Pt.locs, Pt.cells, Pt.slots] at X58 l58 y58 z58 st58 hQ58
    subst l58 y58 z58
    obtain ⟨rfl, N58q, e58⟩ := hQ58
    have e58h : T58.heap = T54.heap := e58
    have N58 := Fr.app N57 N58q
    refine own_step (fun _ kc_ => st58.trans kc_) ?_
    show own_Ends p e below s _ _ _ (T58.setTop (mkF m 149 #[.val (.long p1), .second, .val (.int p2), .val (.int p3), .val (.int p4), .val (.int p5), .val (.ref b42), .val (.long (1 : Int64)), .second, .val (.int (p2 ^^^ (-1 : Int32))), .val (.int p3), .val (.int p2), .val (.int p5)] [(.int (p2 ^^^ (-1 : Int32)))]))
    refine own_step (fun _ kc_ => XS.iload X58.here hx rfl (hb hby at_149) rfl (XS.icmpNo X58.here hx rfl (hb hby at_151) rfl (XT.ii_ne_f (rfl : (p2 ^^^ (-1 : Int32)) = (p2 ^^^ (-1 : Int32)))) (XS.iconst X58.here hx rfl (hb hby at_154) (XS.goto X58.here hx rfl (pc0 := 155) (pc' := 159) rfl (hb hby at_155) (by decide) (by decide) kc_)))) ?_
    show own_Ends p e below s _ _ _ (T58.setTop (mkF m 159 #[.val (.long p1), .second, .val (.int p2), .val (.int p3), .val (.int p4), .val (.int p5), .val (.ref b42), .val (.long (1 : Int64)), .second, .val (.int (p2 ^^^ (-1 : Int32))), .val (.int p3), .val (.int p2), .val (.int p5)] [(.int (1 : Int32))]))
    exact own_retN X58 hx (t := .boolean) hret (by simp) hlk (hb hby at_159) (by decide) (by decide) rfl ⟨rfl, N58⟩
  · show own_Ends p e below s _ _ _ (T46.setTop (mkF m 40 #[.val (.long p1), .second, .val (.int p2), .val (.int p3), .val (.int p4), .val (.int p5), .val (.ref b42), .val (.long (2 : Int64)), .second, .unset, .unset, .unset, .unset] []))
    refine own_step (fun _ kc_ => XS.aload X46.here hx rfl (hb hby at_40) rfl rfl (XS.lload X46.here hx rfl (hb hby at_42) rfl (XS.iloadN X46.here hx rfl (hb hby at_44) rfl kc_))) ?_
    show own_Ends p e below s _ _ _ (T46.setTop (mkF m 45 #[.val (.long p1), .second, .val (.int p2), .val (.int p3), .val (.int p4), .val (.int p5), .val (.ref b42), .val (.long (2 : Int64)), .second, .unset, .unset, .unset, .unset] [(.int p2), (.long (2 : Int64)), (.ref b42)]))
    obtain ⟨cq59, kq59, q59a, q59b, q59c⟩ := isOf hZ rfl E_b42_46
    obtain ⟨_, _, ⟨T59, L59, k59, n59⟩, -, X59, ⟨Lc59, hQ59, l59, y59, z59⟩, st59⟩ := X46.virtualBack hx (y := (⟨"com/example/surfeit/surfeit/IntBlocks", "set", "(JI)V"⟩ : MethodName)) (z := (⟨"com/example/surfeit/surfeit/IntBlocks", "set", "(JI)V"⟩ : MethodName)) hown (mvT hZ (hw _ (List.mem_of_getElem? (i := 26) rfl))) (mvT hZ (hw _ (List.mem_of_getElem? (i := 27) rfl))) (notFace_of_selects (args := #[]) (mvT hZ (hw _ (List.mem_of_getElem? (i := 29) rfl)))) (mvT hZ (hw _ (List.mem_of_getElem? (i := 29) rfl))) (mvT hZ (hw _ (List.mem_of_getElem? (i := 28) rfl))) (by decide) (backOf (W := 0) (rmS2 l Z a0 hw [] b42 p2 ba bb (((R0.set 0 (.int p3)).set 1 (.int p4)).set 2 (.int p5)) T46.heap n0 Zs46 fB46 A_ba_46 cB46 (own_ls (own_ls (own_ls hR0))) (Nat.le_trans Zs43 hbb) nr2 n22) hZ (hw _ (List.mem_of_getElem? (i := 30) rfl)) (hw _ (List.mem_of_getElem? (i := 2) rfl)) (by decide) (by decide)) q59a q59c (g := (mkF m 45 #[.val (.long p1), .second, .val (.int p2), .val (.int p3), .val (.int p4), .val (.int p5), .val (.ref b42), .val (.long (2 : Int64)), .second, .unset, .unset, .unset, .unset] [(.int p2), (.long (2 : Int64)), (.ref b42)])) rfl (by rw [hml]; rfl) (Steps.refl _) (argsL := [(.long (2 : Int64)), (.int p2)]) (rest := []) (lenOf pd_2 rfl) rfl (by show 2 * 0 + _ ≤ _; exact Nat.le_of_eq rfl) (hb hby at_45) (fun _ _ => ⟨rfl, rfl, (by decide : 3 + 0 ≤ _), (by decide : 65539 + 0 ≤ _)⟩)
    dsimp only [Pt.U, Pt.locs, Pt.cells, Pt.slots] at X59 l59 y59 z59 st59 hQ59
    subst l59 y59 z59
    obtain ⟨rfl, N59q, K59k, cB59⟩ := hQ59
    have E_b42_59 := (E_b42_46).keep K59k
    have F_b42_blocks_59 := (fB46).keep K59k (ninS nr2 nin0)
    have F_b42_length_59 := (fL46).keep K59k (ninS nr2 nin0)
    have A_ba_59 := (A_ba_46).keep K59k (ninS n22 nin0)
    have Zs59 := Nat.le_trans Zs46 K59k.1
    have N59 := Fr.app N46 N59q
    refine own_step (fun _ kc_ => st59.trans kc_) ?_
    show own_Ends p e below s _ _ _ (T59.setTop (mkF m 48 #[.val (.long p1), .second, .val (.int p2), .val (.int p3), .val (.int p4), .val (.int p5), .val (.ref b42), .val (.long (2 : Int64)), .second, .unset, .unset, .unset, .unset] []))
    refine own_step (fun _ kc_ => XS.iloadN X59.here hx rfl (hb hby at_48) rfl (XS.iconst X59.here hx rfl (hb hby at_49) (XS.ixor X59.here hx rfl (hb hby at_50) rfl (XS.istore X59.here hx rfl (hb hby at_51) rfl (l' := #[.val (.long p1), .second, .val (.int p2), .val (.int p3), .val (.int p4), .val (.int p5), .val (.ref b42), .val (.long (2 : Int64)), .second, .val (.int (p2 ^^^ (-1 : Int32))), .unset, .unset, .unset]) rfl (XS.aload X59.here hx rfl (hb hby at_53) rfl rfl (XS.iload X59.here hx rfl (hb hby at_55) rfl kc_)))))) ?_
    show own_Ends p e below s _ _ _ (T59.setTop (mkF m 57 #[.val (.long p1), .second, .val (.int p2), .val (.int p3), .val (.int p4), .val (.int p5), .val (.ref b42), .val (.long (2 : Int64)), .second, .val (.int (p2 ^^^ (-1 : Int32))), .unset, .unset, .unset] [(.int (p2 ^^^ (-1 : Int32))), (.ref b42)]))
    obtain ⟨cq60, kq60, q60a, q60b, q60c⟩ := isOf hZ rfl E_b42_59
    obtain ⟨_, _, ⟨T60, L60, k60, n60⟩, -, X60, ⟨Lc60, hQ60, l60, y60, z60⟩, st60⟩ := X59.virtualBack hx (y := (⟨"com/example/surfeit/surfeit/IntBlocks", "add", "(I)V"⟩ : MethodName)) (z := (⟨"com/example/surfeit/surfeit/IntBlocks", "add", "(I)V"⟩ : MethodName)) hown (mvT hZ (hw _ (List.mem_of_getElem? (i := 13) rfl))) (mvT hZ (hw _ (List.mem_of_getElem? (i := 14) rfl))) (notFace_of_selects (args := #[]) (mvT hZ (hw _ (List.mem_of_getElem? (i := 16) rfl)))) (mvT hZ (hw _ (List.mem_of_getElem? (i := 16) rfl))) (mvT hZ (hw _ (List.mem_of_getElem? (i := 15) rfl))) (by decide) (backOf (W := 0) (rmA3 l Z a0 hw [] b42 (p2 ^^^ (-1 : Int32)) ba bb ((((R0.set 0 (.int p3)).set 1 (.int p4)).set 2 (.int p5)).set 2 (.int p2)) T59.heap n0 Zs59 E_b42_59 F_b42_blocks_59 F_b42_length_59 A_ba_59 cB59 (own_ls (own_ls (own_ls (own_ls hR0)))) n0_b42 (Nat.le_trans Zs43 hbb) nrb nr2 n22) hZ (hw _ (List.mem_of_getElem? (i := 17) rfl)) (hw _ (List.mem_of_getElem? (i := 2) rfl)) (by decide) (by decide)) q60a q60c (g := (mkF m 57 #[.val (.long p1), .second, .val (.int p2), .val (.int p3), .val (.int p4), .val (.int p5), .val (.ref b42), .val (.long (2 : Int64)), .second, .val (.int (p2 ^^^ (-1 : Int32))), .unset, .unset, .unset] [(.int (p2 ^^^ (-1 : Int32))), (.ref b42)])) rfl (by rw [hml]; rfl) (Steps.refl _) (argsL := [(.int (p2 ^^^ (-1 : Int32)))]) (rest := []) (lenOf pd_1 rfl) rfl (by show 2 * 0 + _ ≤ _; exact Nat.le_of_eq rfl) (hb hby at_57) (fun _ _ => ⟨rfl, rfl, (by decide : 3 + 0 ≤ _), (by decide : 65539 + 0 ≤ _)⟩)
    dsimp only [Pt.U, Pt.locs, Pt.cells, Pt.slots] at X60 l60 y60 z60 st60 hQ60
    subst l60 y60 z60
    obtain ⟨rfl, N60q, K60k, fB60, fL60, cB60⟩ := hQ60
    have E_b42_60 := (E_b42_59).keep K60k
    have A_ba_60 := (A_ba_59).keep K60k (ninS (Ne.symm nrb) (ninS n22 nin0))
    have Zs60 := Nat.le_trans Zs59 K60k.1
    have N60 := Fr.app N59 N60q
    refine own_step (fun _ kc_ => st60.trans kc_) ?_
    show own_Ends p e below s _ _ _ (T60.setTop (mkF m 60 #[.val (.long p1), .second, .val (.int p2), .val (.int p3), .val (.int p4), .val (.int p5), .val (.ref b42), .val (.long (2 : Int64)), .second, .val (.int (p2 ^^^ (-1 : Int32))), .unset, .unset, .unset] []))
    refine own_step (fun _ kc_ => XS.lload X60.here hx rfl (hb hby at_60) rfl (XS.lconst X60.here hx rfl (hb hby at_62) (XT.lcmp X60.here hx rfl (hb hby at_63) rfl (XS.ifYes X60.here hx rfl (pc0 := 64) (pc' := 71) rfl (hb hby at_64) rfl (XT.ll_ne_t (by decide : ¬ ((2 : Int64) = (0 : Int64)))) (by decide) (by decide) (XS.iloadN X60.here hx rfl (hb hby at_71) rfl (XS.istore X60.here hx rfl (hb hby at_72) rfl (l' := #[.val (.long p1), .second, .val (.int p2), .val (.int p3), .val (.int p4), .val (.int p5), .val (.ref b42), .val (.long (2 : Int64)), .second, .val (.int (p2 ^^^ (-1 : Int32))), .val (.int p3), .unset, .unset]) rfl (XS.lload X60.here hx rfl (hb hby at_74) rfl (XS.lconst X60.here hx rfl (hb hby at_76) kc_)))))))) ?_
    show own_Ends p e below s _ _ _ (T60.setTop (mkF m 77 #[.val (.long p1), .second, .val (.int p2), .val (.int p3), .val (.int p4), .val (.int p5), .val (.ref b42), .val (.long (2 : Int64)), .second, .val (.int (p2 ^^^ (-1 : Int32))), .val (.int p3), .unset, .unset] [(.long (1 : Int64)), (.long (2 : Int64))]))
    refine own_step (fun _ kc_ => XT.lcmp X60.here hx rfl (hb hby at_77) rfl (XS.ifYes X60.here hx rfl (pc0 := 78) (pc' := 85) rfl (hb hby at_78) rfl (XT.ll_ne_t (by decide : ¬ ((2 : Int64) = (1 : Int64)))) (by decide) (by decide) (XS.iload X60.here hx rfl (hb hby at_85) rfl (XS.istore X60.here hx rfl (hb hby at_87) rfl (l' := #[.val (.long p1), .second, .val (.int p2), .val (.int p3), .val (.int p4), .val (.int p5), .val (.ref b42), .val (.long (2 : Int64)), .second, .val (.int (p2 ^^^ (-1 : Int32))), .val (.int p3), .val (.int p4), .unset]) rfl (XS.lload X60.here hx rfl (hb hby at_89) rfl (X60.ldc2J hx hown (mvT hZ (hw _ (List.mem_of_getElem? (i := 31) rfl))) rfl (hb hby at_91) (XT.lcmp X60.here hx rfl (hb hby at_94) rfl (XS.ifNo X60.here hx rfl (hb hby at_95) rfl (XT.ll_ne_f (by decide : (2 : Int64) = (2 : Int64))) kc_)))))))) ?_
    show own_Ends p e below s _ _ _ (T60.setTop (mkF m 98 #[.val (.long p1), .second, .val (.int p2), .val (.int p3), .val (.int p4), .val (.int p5), .val (.ref b42), .val (.long (2 : Int64)), .second, .val (.int (p2 ^^^ (-1 : Int32))), .val (.int p3), .val (.int p4), .unset] []))
    refine own_step (fun _ kc_ => XS.iloadN X60.here hx rfl (hb hby at_98) rfl (XS.goto X60.here hx rfl (pc0 := 99) (pc' := 104) rfl (hb hby at_99) (by decide) (by decide) (XS.istore X60.here hx rfl (hb hby at_104) rfl (l' := #[.val (.long p1), .second, .val (.int p2), .val (.int p3), .val (.int p4), .val (.int p5), .val (.ref b42), .val (.long (2 : Int64)), .second, .val (.int (p2 ^^^ (-1 : Int32))), .val (.int p3), .val (.int p4), .val (.int p2)]) rfl (XS.aload X60.here hx rfl (hb hby at_106) rfl rfl (XS.lconst X60.here hx rfl (hb hby at_108) kc_))))) ?_
    show own_Ends p e below s _ _ _ (T60.setTop (mkF m 109 #[.val (.long p1), .second, .val (.int p2), .val (.int p3), .val (.int p4), .val (.int p5), .val (.ref b42), .val (.long (2 : Int64)), .second, .val (.int (p2 ^^^ (-1 : Int32))), .val (.int p3), .val (.int p4), .val (.int p2)] [(.long (0 : Int64)), (.ref b42)]))
    obtain ⟨cq61, kq61, q61a, q61b, q61c⟩ := isOf hZ rfl E_b42_60
    obtain ⟨_, _, ⟨T61, L61, k61, n61⟩, -, X61, ⟨Lc61, hQ61, l61, y61, z61⟩, st61⟩ := X60.virtualBack hx (y := (⟨"com/example/surfeit/surfeit/IntBlocks", "get", "(J)I"⟩ : MethodName)) (z := (⟨"com/example/surfeit/surfeit/IntBlocks", "get", "(J)I"⟩ : MethodName)) hown (mvT hZ (hw _ (List.mem_of_getElem? (i := 32) rfl))) (mvT hZ (hw _ (List.mem_of_getElem? (i := 33) rfl))) (notFace_of_selects (args := #[]) (mvT hZ (hw _ (List.mem_of_getElem? (i := 35) rfl)))) (mvT hZ (hw _ (List.mem_of_getElem? (i := 35) rfl))) (mvT hZ (hw _ (List.mem_of_getElem? (i := 34) rfl))) (by decide) (backOf (W := 0) (rmG0 l Z a0 hw [] b42 ba bb (((((R0.set 0 (.int p3)).set 1 (.int p4)).set 2 (.int p5)).set 2 (.int p2)).set 3 (.int (p2 ^^^ (-1 : Int32)))) p3 T60.heap n0 Zs60 fB60 A_ba_60 cB60 (own_gn (by decide) (own_gn (by decide) (own_gn (by decide) (own_gn (by decide) (own_gs hR0 (by decide))))))) hZ (hw _ (List.mem_of_getElem? (i := 36) rfl)) (hw _ (List.mem_of_getElem? (i := 2) rfl)) (by decide) (by decide)) q61a q61c (g := (mkF m 109 #[.val (.long p1), .second, .val (.int p2), .val (.int p3), .val (.int p4), .val (.int p5), .val (.ref b42), .val (.long (2 : Int64)), .second, .val (.int (p2 ^^^ (-1 : Int32))), .val (.int p3), .val (.int p4), .val (.int p2)] [(.long (0 : Int64)), (.ref b42)])) rfl (by rw [hml]; rfl) (Steps.refl _) (argsL := [(.long (0 : Int64))]) (rest := []) (lenOf pd_3 rfl) rfl (by show 2 * 0 + _ ≤ _; exact Nat.le_of_eq rfl) (hb hby at_109) (fun _ _ => ⟨rfl, rfl, (by decide : 3 + 0 ≤ _), (by decide : 65539 + 0 ≤ _)⟩)
    dsimp only [Pt.U, Pt.locs, Pt.cells, Pt.slots] at X61 l61 y61 z61 st61 hQ61
    subst l61 y61 z61
    obtain ⟨rfl, N61q, e61⟩ := hQ61
    have e61h : T61.heap = T60.heap := e61
    have N61 := Fr.app N60 N61q
    refine own_step (fun _ kc_ => st61.trans kc_) ?_
    show own_Ends p e below s _ _ _ (T61.setTop (mkF m 112 #[.val (.long p1), .second, .val (.int p2), .val (.int p3), .val (.int p4), .val (.int p5), .val (.ref b42), .val (.long (2 : Int64)), .second, .val (.int (p2 ^^^ (-1 : Int32))), .val (.int p3), .val (.int p4), .val (.int p2)] [(.int p3)]))
    refine own_step (fun _ kc_ => XS.iload X61.here hx rfl (hb hby at_112) rfl (XS.icmpNo X61.here hx rfl (hb hby at_114) rfl (XT.ii_ne_f (rfl : p3 = p3)) (XS.aload X61.here hx rfl (hb hby at_117) rfl rfl (XS.lconst X61.here hx rfl (hb hby at_119) kc_)))) ?_
    show own_Ends p e below s _ _ _ (T61.setTop (mkF m 120 #[.val (.long p1), .second, .val (.int p2), .val (.int p3), .val (.int p4), .val (.int p5), .val (.ref b42), .val (.long (2 : Int64)), .second, .val (.int (p2 ^^^ (-1 : Int32))), .val (.int p3), .val (.int p4), .val (.int p2)] [(.long (1 : Int64)), (.ref b42)]))
    obtain ⟨cq62, kq62, q62a, q62b, q62c⟩ := isOf hZ e61h E_b42_60
    obtain ⟨_, _, ⟨T62, L62, k62, n62⟩, -, X62, ⟨Lc62, hQ62, l62, y62, z62⟩, st62⟩ := X61.virtualBack hx (y := (⟨"com/example/surfeit/surfeit/IntBlocks", "get", "(J)I"⟩ : MethodName)) (z := (⟨"com/example/surfeit/surfeit/IntBlocks", "get", "(J)I"⟩ : MethodName)) hown (mvT hZ (hw _ (List.mem_of_getElem? (i := 32) rfl))) (mvT hZ (hw _ (List.mem_of_getElem? (i := 33) rfl))) (notFace_of_selects (args := #[]) (mvT hZ (hw _ (List.mem_of_getElem? (i := 35) rfl)))) (mvT hZ (hw _ (List.mem_of_getElem? (i := 35) rfl))) (mvT hZ (hw _ (List.mem_of_getElem? (i := 34) rfl))) (by decide) (backOf (W := 0) (rmG1 l Z a0 hw [] b42 ba bb (((((R0.set 0 (.int p3)).set 1 (.int p4)).set 2 (.int p5)).set 2 (.int p2)).set 3 (.int (p2 ^^^ (-1 : Int32)))) p4 T60.heap n0 Zs60 fB60 A_ba_60 cB60 (own_gn (by decide) (own_gn (by decide) (own_gn (by decide) (own_gs (own_ls hR0) (by decide)))))) hZ (hw _ (List.mem_of_getElem? (i := 36) rfl)) (hw _ (List.mem_of_getElem? (i := 2) rfl)) (by decide) (by decide)) q62a q62c (g := (mkF m 120 #[.val (.long p1), .second, .val (.int p2), .val (.int p3), .val (.int p4), .val (.int p5), .val (.ref b42), .val (.long (2 : Int64)), .second, .val (.int (p2 ^^^ (-1 : Int32))), .val (.int p3), .val (.int p4), .val (.int p2)] [(.long (1 : Int64)), (.ref b42)])) rfl (by rw [hml]; rfl) (Steps.refl _) (argsL := [(.long (1 : Int64))]) (rest := []) (lenOf pd_3 rfl) rfl (by show 2 * 0 + _ ≤ _; exact Nat.le_of_eq rfl) (hb hby at_120) (fun _ _ => ⟨rfl, e61h, (by decide : 3 + 0 ≤ _), (by decide : 65539 + 0 ≤ _)⟩)
    dsimp only [Pt.U, Pt.locs, Pt.cells, Pt.slots] at X62 l62 y62 z62 st62 hQ62
    subst l62 y62 z62
    obtain ⟨rfl, N62q, e62⟩ := hQ62
    have e62h : T62.heap = T60.heap := e62
    have N62 := Fr.app N61 N62q
    refine own_step (fun _ kc_ => st62.trans kc_) ?_
    show own_Ends p e below s _ _ _ (T62.setTop (mkF m 123 #[.val (.long p1), .second, .val (.int p2), .val (.int p3), .val (.int p4), .val (.int p5), .val (.ref b42), .val (.long (2 : Int64)), .second, .val (.int (p2 ^^^ (-1 : Int32))), .val (.int p3), .val (.int p4), .val (.int p2)] [(.int p4)]))
    refine own_step (fun _ kc_ => XS.iload X62.here hx rfl (hb hby at_123) rfl (XS.icmpNo X62.here hx rfl (hb hby at_125) rfl (XT.ii_ne_f (rfl : p4 = p4)) (XS.aload X62.here hx rfl (hb hby at_128) rfl rfl (X62.ldc2J hx hown (mvT hZ (hw _ (List.mem_of_getElem? (i := 31) rfl))) rfl (hb hby at_130) kc_)))) ?_
    show own_Ends p e below s _ _ _ (T62.setTop (mkF m 133 #[.val (.long p1), .second, .val (.int p2), .val (.int p3), .val (.int p4), .val (.int p5), .val (.ref b42), .val (.long (2 : Int64)), .second, .val (.int (p2 ^^^ (-1 : Int32))), .val (.int p3), .val (.int p4), .val (.int p2)] [(.long (2 : Int64)), (.ref b42)]))
    obtain ⟨cq63, kq63, q63a, q63b, q63c⟩ := isOf hZ e62h E_b42_60
    obtain ⟨_, _, ⟨T63, L63, k63, n63⟩, -, X63, ⟨Lc63, hQ63, l63, y63, z63⟩, st63⟩ := X62.virtualBack hx (y := (⟨"com/example/surfeit/surfeit/IntBlocks", "get", "(J)I"⟩ : MethodName)) (z := (⟨"com/example/surfeit/surfeit/IntBlocks", "get", "(J)I"⟩ : MethodName)) hown (mvT hZ (hw _ (List.mem_of_getElem? (i := 32) rfl))) (mvT hZ (hw _ (List.mem_of_getElem? (i := 33) rfl))) (notFace_of_selects (args := #[]) (mvT hZ (hw _ (List.mem_of_getElem? (i := 35) rfl)))) (mvT hZ (hw _ (List.mem_of_getElem? (i := 35) rfl))) (mvT hZ (hw _ (List.mem_of_getElem? (i := 34) rfl))) (by decide) (backOf (W := 0) (rmG2 l Z a0 hw [] b42 ba bb (((((R0.set 0 (.int p3)).set 1 (.int p4)).set 2 (.int p5)).set 2 (.int p2)).set 3 (.int (p2 ^^^ (-1 : Int32)))) p2 T60.heap n0 Zs60 fB60 A_ba_60 cB60 (own_gn (by decide) (own_gs (own_ls (own_ls (own_ls hR0))) (by decide)))) hZ (hw _ (List.mem_of_getElem? (i := 36) rfl)) (hw _ (List.mem_of_getElem? (i := 2) rfl)) (by decide) (by decide)) q63a q63c (g := (mkF m 133 #[.val (.long p1), .second, .val (.int p2), .val (.int p3), .val (.int p4), .val (.int p5), .val (.ref b42), .val (.long (2 : Int64)), .second, .val (.int (p2 ^^^ (-1 : Int32))), .val (.int p3), .val (.int p4), .val (.int p2)] [(.long (2 : Int64)), (.ref b42)])) rfl (by rw [hml]; rfl) (Steps.refl _) (argsL := [(.long (2 : Int64))]) (rest := []) (lenOf pd_3 rfl) rfl (by show 2 * 0 + _ ≤ _; exact Nat.le_of_eq rfl) (hb hby at_133) (fun _ _ => ⟨rfl, e62h, (by decide : 3 + 0 ≤ _), (by decide : 65539 + 0 ≤ _)⟩)
    dsimp only [Pt.U, Pt.locs, Pt.cells, Pt.slots] at X63 l63 y63 z63 st63 hQ63
    subst l63 y63 z63
    obtain ⟨rfl, N63q, e63⟩ := hQ63
    have e63h : T63.heap = T60.heap := e63
    have N63 := Fr.app N62 N63q
    refine own_step (fun _ kc_ => st63.trans kc_) ?_
    show own_Ends p e below s _ _ _ (T63.setTop (mkF m 136 #[.val (.long p1), .second, .val (.int p2), .val (.int p3), .val (.int p4), .val (.int p5), .val (.ref b42), .val (.long (2 : Int64)), .second, .val (.int (p2 ^^^ (-1 : Int32))), .val (.int p3), .val (.int p4), .val (.int p2)] [(.int p2)]))
    refine own_step (fun _ kc_ => XS.iload X63.here hx rfl (hb hby at_136) rfl (XS.icmpNo X63.here hx rfl (hb hby at_138) rfl (XT.ii_ne_f (rfl : p2 = p2)) (XS.aload X63.here hx rfl (hb hby at_141) rfl rfl (X63.ldc2J hx hown (mvT hZ (hw _ (List.mem_of_getElem? (i := 25) rfl))) rfl (hb hby at_143) kc_)))) ?_
    show own_Ends p e below s _ _ _ (T63.setTop (mkF m 146 #[.val (.long p1), .second, .val (.int p2), .val (.int p3), .val (.int p4), .val (.int p5), .val (.ref b42), .val (.long (2 : Int64)), .second, .val (.int (p2 ^^^ (-1 : Int32))), .val (.int p3), .val (.int p4), .val (.int p2)] [(.long (3 : Int64)), (.ref b42)]))
    obtain ⟨cq64, kq64, q64a, q64b, q64c⟩ := isOf hZ e63h E_b42_60
    obtain ⟨_, _, ⟨T64, L64, k64, n64⟩, -, X64, ⟨Lc64, hQ64, l64, y64, z64⟩, st64⟩ := X63.virtualBack hx (y := (⟨"com/example/surfeit/surfeit/IntBlocks", "get", "(J)I"⟩ : MethodName)) (z := (⟨"com/example/surfeit/surfeit/IntBlocks", "get", "(J)I"⟩ : MethodName)) hown (mvT hZ (hw _ (List.mem_of_getElem? (i := 32) rfl))) (mvT hZ (hw _ (List.mem_of_getElem? (i := 33) rfl))) (notFace_of_selects (args := #[]) (mvT hZ (hw _ (List.mem_of_getElem? (i := 35) rfl)))) (mvT hZ (hw _ (List.mem_of_getElem? (i := 35) rfl))) (mvT hZ (hw _ (List.mem_of_getElem? (i := 34) rfl))) (by decide) (backOf (W := 0) (rmG3 l Z a0 hw [] b42 ba bb (((((R0.set 0 (.int p3)).set 1 (.int p4)).set 2 (.int p5)).set 2 (.int p2)).set 3 (.int (p2 ^^^ (-1 : Int32)))) (p2 ^^^ (-1 : Int32)) T60.heap n0 Zs60 fB60 A_ba_60 cB60 (own_gs (own_ls (own_ls (own_ls (own_ls hR0)))) (by decide))) hZ (hw _ (List.mem_of_getElem? (i := 36) rfl)) (hw _ (List.mem_of_getElem? (i := 2) rfl)) (by decide) (by decide)) q64a q64c (g := (mkF m 146 #[.val (.long p1), .second, .val (.int p2), .val (.int p3), .val (.int p4), .val (.int p5), .val (.ref b42), .val (.long (2 : Int64)), .second, .val (.int (p2 ^^^ (-1 : Int32))), .val (.int p3), .val (.int p4), .val (.int p2)] [(.long (3 : Int64)), (.ref b42)])) rfl (by rw [hml]; rfl) (Steps.refl _) (argsL := [(.long (3 : Int64))]) (rest := []) (lenOf pd_3 rfl) rfl (by show 2 * 0 + _ ≤ _; exact Nat.le_of_eq rfl) (hb hby at_146) (fun _ _ => ⟨rfl, e63h, (by decide : 3 + 0 ≤ _), (by decide : 65539 + 0 ≤ _)⟩)
    dsimp only [Pt.U, Pt.locs, Pt.cells, Pt.slots] at X64 l64 y64 z64 st64 hQ64
    subst l64 y64 z64
    obtain ⟨rfl, N64q, e64⟩ := hQ64
    have e64h : T64.heap = T60.heap := e64
    have N64 := Fr.app N63 N64q
    refine own_step (fun _ kc_ => st64.trans kc_) ?_
    show own_Ends p e below s _ _ _ (T64.setTop (mkF m 149 #[.val (.long p1), .second, .val (.int p2), .val (.int p3), .val (.int p4), .val (.int p5), .val (.ref b42), .val (.long (2 : Int64)), .second, .val (.int (p2 ^^^ (-1 : Int32))), .val (.int p3), .val (.int p4), .val (.int p2)] [(.int (p2 ^^^ (-1 : Int32)))]))
    refine own_step (fun _ kc_ => XS.iload X64.here hx rfl (hb hby at_149) rfl (XS.icmpNo X64.here hx rfl (hb hby at_151) rfl (XT.ii_ne_f (rfl : (p2 ^^^ (-1 : Int32)) = (p2 ^^^ (-1 : Int32)))) (XS.iconst X64.here hx rfl (hb hby at_154) (XS.goto X64.here hx rfl (pc0 := 155) (pc' := 159) rfl (hb hby at_155) (by decide) (by decide) kc_)))) ?_
    show own_Ends p e below s _ _ _ (T64.setTop (mkF m 159 #[.val (.long p1), .second, .val (.int p2), .val (.int p3), .val (.int p4), .val (.int p5), .val (.ref b42), .val (.long (2 : Int64)), .second, .val (.int (p2 ^^^ (-1 : Int32))), .val (.int p3), .val (.int p4), .val (.int p2)] [(.int (1 : Int32))]))
    exact own_retN X64 hx (t := .boolean) hret (by simp) hlk (hb hby at_159) (by decide) (by decide) rfl ⟨rfl, N64⟩
set_option maxRecDepth 65536 in
set_option maxHeartbeats 40000000 in
theorem comes_1 {Post : Tables → Env → Array Value → State → Outcome → State → Prop} (hpost : ∀ tb e args s v u, (limb_1_1.after args s (.returned v) u = true ∧ limb_1_2.after args s (.returned v) u = true ∧ True) → FrameEnd s (.returned v) u (Jvm.fieldLocs frame_1_writes args s ++ Jvm.arrayLocs frame_1_arrays args s ++ Jvm.staticLocs frame_1_statics s) 16 131200 → Post tb e args s (.returned v) u) :
    ArmFor flags0 classFile x code maxLocals ret World_1 tables_1 room_1 Calls_1 rest_1 Pre_1 Post := by
  intro l hfl _ _ p e ha hc hk s m args below hf hA hF happ hP
  obtain ⟨hcalls, hrest, hpre⟩ := hP
  obtain ⟨-, -, -, hnamed, -, -, -, hat⟩ := (Spec.applies_iff hf).mp happ
  obtain ⟨hg, hn⟩ := and_e (Cond.before_iff.mp (show (Jvm.Cond.and given_1 narrow_1).before args s = true from hpre))
  obtain ⟨g_c, g_0⟩ := and_e hg
  obtain ⟨w0, w1, w2, w3, w4, rfl⟩ : ∃ w0 w1 w2 w3 w4 : Value, args = #[w0, w1, w2, w3, w4] := by
    have hs : args.size = 5 := by simpa [Cond.value, given_1] using g_c
    obtain ⟨L⟩ := args
    match L, hs with
    | [w0, w1, w2, w3, w4], _ => exact ⟨w0, w1, w2, w3, w4, rfl⟩
  have hw := fun d (hd : d ∈ tables_1) => atoms_spec (ws := Jvm.Cond.code x code maxLocals ret :: tables_1) hat d (List.mem_cons_of_mem _ hd)
  obtain ⟨g_v0, g_1⟩ := and_e g_0
  obtain ⟨i0, ei0⟩ := isL_v g_v0
  obtain rfl : w0 = (.long i0) := Option.some.inj ei0
  obtain ⟨g_v1, g_2⟩ := and_e g_1
  obtain ⟨i1, ei1⟩ := is_v g_v1
  obtain rfl : w1 = (.int i1) := Option.some.inj ei1
  obtain ⟨g_v2, g_3⟩ := and_e g_2
  obtain ⟨i2, ei2⟩ := is_v g_v2
  obtain rfl : w2 = (.int i2) := Option.some.inj ei2
  obtain ⟨g_v3, g_4⟩ := and_e g_3
  obtain ⟨i3, ei3⟩ := is_v g_v3
  obtain rfl : w3 = (.int i3) := Option.some.inj ei3
  obtain ⟨i4, ei4⟩ := is_v g_4
  obtain rfl : w4 = (.int i4) := Option.some.inj ei4
  obtain ⟨n, o, h1, h2, h3, _, L, rfl, ⟨rfl, N⟩, hq⟩ := rm0 l s _ hw tables_1 i0 i1 i2 i3 i4  s.heap s.heap.size (Nat.le_refl _) p e ha hc hk s m _ below hf ((Spec.applies_iff_loose hf).mp happ).1 ⟨rfl, State.Warmed39.refl s, rfl⟩ trivial
  refine ⟨n, _, h1, h2, h3, hpost _ _ _ _ _ _ ⟨Cond.after_iff.mpr rfl, Cond.after_iff.mpr (eq_i res_at (Term.int_eval (1)) rfl), trivial⟩ ⟨hq.1, hq.2.1, (hq.2.2.sift fun y hy => Or.inr (N y hy)).mono (by decide) (by decide)⟩⟩
theorem main_1_1 : Claimed_1_1 := comes_1 fun _ _ _ _ _ _ h hF => ⟨h.1, hF⟩
theorem main_1_2 : Claimed_1_2 := comes_1 fun _ _ _ _ _ _ h hF => ⟨h.2.1, hF⟩
end Jvm.Pilot.@@N@@
namespace Jvm.Pilot.@@N@@
open Jvm Jvm.ClassFile Sem Op Lib Jvm.Free Jvm.Stand Jvm.Pilot.@@N@@.Jvm.D
/-! MADE BY PROGRAM (witnessworld.py) out of the Statement's table words and the real class files: 9 classes; the members and pool entries that the words name. The judged class is class 1, her method 1. -/
namespace start1
open Jvm.ClassFile
def u (s : String) : CpInfo := .utf8 (stringToUtf16 s)
/-- a pool by its gaps: so many unusable entries, then the entry; so many at the end -/
def gap : Nat → List CpInfo → List CpInfo
  | 0, r => r
  | n + 1, r => .unusable :: gap n r
def poolList (es : List (Nat × CpInfo)) (last : Nat) : List CpInfo := es.foldr (fun e r => gap e.1 (e.2 :: r)) (gap last [])
def pool (es : List (Nat × CpInfo)) (last : Nat) : Array CpInfo := ⟨poolList es last⟩
def fileOf (pool : Array CpInfo) (this : Nat) (attrs : Array Attribute := #[]) (ms : Array MethodInfo := #[]) (fl : Nat := 33) (sup : Nat := 0) (ifs : Array Nat := #[]) (fds : Array FieldInfo := #[]) : ClassFile where
  minorVersion := 0
  majorVersion := 65
  constantPool := pool
  accessFlags := fl
  thisClass := this
  superClass := sup
  interfaces := ifs
  fields := fds
  methods := ms
  attributes := attrs
def plain (name : String) (sup : Option ClassId) : Class where
  name := name
  kind := .ordinary
  loader := none
  accessFlags := 33
  super := sup
  interfaces := #[]
  cf := none
  fields := #[]
  methods := #[]
  instanceTypes := #[]
  staticTypes := #[]
  resolved := #[]
  callSites := []
  init := .initialized
  statics := none
  mirror := none

def pool0 : Array CpInfo := pool [(5, u "<init>"), (0, u "()V"), (1, .class_ 10), (1, u "java/lang/Object")] 113

def k0c0 : Code := { maxStack := 0, maxLocals := 1, code := object_method_1_code, exceptionTable := #[], attributes := #[] }
def k0m0 : Method := { name := "<init>", desc := "()V", sig := { parameters := [], returnType := none }, accessFlags := 1, code := some k0c0 }
/-- java/lang/Object -/
def k0 : Class := { plain "java/lang/Object" none with
  accessFlags := 33
  interfaces := #[]
  cf := some (fileOf pool0 8 #[] #[{ accessFlags := 1, nameIndex := 5, descriptorIndex := 6, attributes := #[] }] 33 0 #[] #[])
  fields := #[]
  methods := #[k0m0]
  instanceTypes := #[]
  staticTypes := #[]
  resolved := Array.replicate 124 none
  statics := none }

def pool1 : Array CpInfo := pool [(2, .class_ 4), (0, .nameAndType 5 6), (0, u "java/lang/Object"), (0, u "<init>"), (0, u "()V"), (0, .class_ 8), (0, u "com/example/surfeit/surfeit/IntBlocks"), (0, .methodref 7 3), (0, .methodref 7 11), (0, .nameAndType 12 13), (0, u "add"), (0, u "(I)V"), (0, .long 9223372036854775807), (1, .long 3), (1, .methodref 7 19), (0, .nameAndType 20 21), (0, u "set"), (0, u "(JI)V"), (0, .long 2), (1, .methodref 7 25), (0, .nameAndType 26 27), (0, u "get"), (0, u "(J)I"), (0, .class_ 29), (0, u "com/example/surfeit/surfeit/IntBlocksSetPinLaw"), (2, u "law"), (0, u "(JIIII)Z")] 3

def k1m0 : Method := { name := "<init>", desc := "()V", sig := { parameters := [], returnType := none }, accessFlags := 1, code := none }
def k1c1 : Code := { maxStack := 4, maxLocals := 13, code := code, exceptionTable := #[], attributes := #[] }
def k1m1 : Method := { name := "law", desc := "(JIIII)Z", sig := { parameters := [.long, .int, .int, .int, .int], returnType := some .boolean }, accessFlags := 9, code := some k1c1 }
/-- com/example/surfeit/surfeit/IntBlocksSetPinLaw -/
def k1 : Class := { plain "com/example/surfeit/surfeit/IntBlocksSetPinLaw" (some 0) with
  accessFlags := 49
  interfaces := #[]
  cf := some (fileOf pool1 28 #[] #[{ accessFlags := 1, nameIndex := 5, descriptorIndex := 6, attributes := #[] }, { accessFlags := 9, nameIndex := 32, descriptorIndex := 33, attributes := #[] }] 49 2 #[] #[])
  fields := #[]
  methods := #[k1m0, k1m1]
  instanceTypes := #[]
  staticTypes := #[]
  resolved := Array.replicate 37 none
  statics := none }

def pool2 : Array CpInfo := pool [(1, .class_ 2), (0, u "com/example/surfeit/surfeit/IntBlocks"), (0, .methodref 4 5), (0, .class_ 6), (0, .nameAndType 7 8), (0, u "java/lang/Object"), (0, u "<init>"), (0, u "()V"), (0, .class_ 10), (0, u "[I"), (0, .fieldref 1 12), (0, .nameAndType 13 14), (0, u "blocks"), (0, u "[[I"), (10, .fieldref 1 26), (0, .nameAndType 27 28), (0, u "length"), (0, u "J"), (0, .integer 65535), (7, .integer 65536), (0, u "BLOCK_BITS"), (0, u "I"), (2, u "BLOCK_SIZE"), (0, u "BLOCK_MASK"), (4, u "get"), (0, u "(J)I"), (0, u "set"), (0, u "(JI)V"), (0, u "add"), (0, u "(I)V")] 2

def k2c0 : Code := { maxStack := 2, maxLocals := 1, code := prog_12_method_1_code, exceptionTable := #[], attributes := #[] }
def k2m0 : Method := { name := "<init>", desc := "()V", sig := { parameters := [], returnType := none }, accessFlags := 0, code := some k2c0 }
def k2c1 : Code := { maxStack := 4, maxLocals := 3, code := prog_12_method_3_code, exceptionTable := #[], attributes := #[] }
def k2m1 : Method := { name := "get", desc := "(J)I", sig := { parameters := [.long], returnType := some .int }, accessFlags := 0, code := some k2c1 }
def k2c2 : Code := { maxStack := 4, maxLocals := 4, code := prog_12_method_4_code, exceptionTable := #[], attributes := #[] }
def k2m2 : Method := { name := "set", desc := "(JI)V", sig := { parameters := [.long, .int], returnType := none }, accessFlags := 0, code := some k2c2 }
def k2c3 : Code := { maxStack := 5, maxLocals := 4, code := prog_12_method_5_code, exceptionTable := #[], attributes := #[] }
def k2m3 : Method := { name := "add", desc := "(I)V", sig := { parameters := [.int], returnType := none }, accessFlags := 0, code := some k2c3 }
/-- com/example/surfeit/surfeit/IntBlocks -/
def k2 : Class := { plain "com/example/surfeit/surfeit/IntBlocks" (some 0) with
  accessFlags := 32
  interfaces := #[]
  cf := some (fileOf pool2 1 #[] #[{ accessFlags := 0, nameIndex := 7, descriptorIndex := 8, attributes := #[] }, { accessFlags := 0, nameIndex := 48, descriptorIndex := 49, attributes := #[] }, { accessFlags := 0, nameIndex := 50, descriptorIndex := 51, attributes := #[] }, { accessFlags := 0, nameIndex := 52, descriptorIndex := 53, attributes := #[] }] 32 4 #[] #[{ accessFlags := 26, nameIndex := 38, descriptorIndex := 39, attributes := #[] }, { accessFlags := 26, nameIndex := 42, descriptorIndex := 39, attributes := #[] }, { accessFlags := 26, nameIndex := 43, descriptorIndex := 39, attributes := #[] }, { accessFlags := 2, nameIndex := 13, descriptorIndex := 14, attributes := #[] }, { accessFlags := 2, nameIndex := 27, descriptorIndex := 28, attributes := #[] }])
  fields := #[{ name := "BLOCK_BITS", type := .int, accessFlags := 26, slot := 0, constantValue := 0 }, { name := "BLOCK_SIZE", type := .int, accessFlags := 26, slot := 1, constantValue := 0 }, { name := "BLOCK_MASK", type := .int, accessFlags := 26, slot := 2, constantValue := 0 }, { name := "blocks", type := (.array (.array .int)), accessFlags := 2, slot := 0, constantValue := 0 }, { name := "length", type := .long, accessFlags := 2, slot := 1, constantValue := 0 }]
  methods := #[k2m0, k2m1, k2m2, k2m3]
  instanceTypes := #[(.array (.array .int)), .long]
  staticTypes := #[.int, .int, .int]
  resolved := Array.replicate 56 none
  statics := none }

def pool3 : Array CpInfo := pool [(1, u "java/lang/Cloneable"), (0, .class_ 1), (0, u "java/lang/Object"), (0, .class_ 3)] 3

/-- java/lang/Cloneable -/
def k3 : Class := { plain "java/lang/Cloneable" (some 0) with
  accessFlags := 1537
  interfaces := #[]
  cf := some (fileOf pool3 2 #[] #[] 1537 4 #[] #[])
  fields := #[]
  methods := #[]
  instanceTypes := #[]
  staticTypes := #[]
  resolved := Array.replicate 8 none
  statics := none }

def pool4 : Array CpInfo := pool [(1, u "java/io/Serializable"), (0, .class_ 1), (0, u "java/lang/Object"), (0, .class_ 3)] 3

/-- java/io/Serializable -/
def k4 : Class := { plain "java/io/Serializable" (some 0) with
  accessFlags := 1537
  interfaces := #[]
  cf := some (fileOf pool4 2 #[] #[] 1537 4 #[] #[])
  fields := #[]
  methods := #[]
  instanceTypes := #[]
  staticTypes := #[]
  resolved := Array.replicate 8 none
  statics := none }

/-- the primitive byte -/
def k5 : Class := { plain "byte" none with kind := .primitive 'B', accessFlags := 0x411 }
/-- [B -/
def k6 : Class := { plain "[B" (some 0) with kind := .array 5 .byte, interfaces := #[3, 4], accessFlags := 1041 }

/-- the primitive int -/
def k7 : Class := { plain "int" none with kind := .primitive 'I', accessFlags := 0x411 }
/-- [I -/
def k8 : Class := { plain "[I" (some 0) with kind := .array 7 .int, interfaces := #[3, 4], accessFlags := 1041 }
/-- [[I -/
def k9 : Class := { plain "[[I" (some 0) with kind := .array 8 (.array .int), interfaces := #[3, 4], accessFlags := 1041 }

def heap : Heap := #[]
def classes : Array Class := #[k0, k1, k2, k3, k4, k5, k6, k7, k8, k9]
def interned : List (Array UInt16 × Addr) := []
def slotsUsed : Nat := 0
def theMethod : MethodId := ⟨1, 1⟩
def args0 : Array Value := #[.long 5, .int 7, .int 9, .int 10, .int 11]
def aboutOver (below : List Frame) : State where
  vm := { classes := classes, interned := interned.toArray }
  heap := heap
  slotsUsed := slotsUsed
  threads := #[{ frames := .invoking theMethod args0 :: below }]
def below0 : List Frame := [.native { method := ⟨0, 0⟩, args := #[] }]
def about1 : State := aboutOver below0
def p0 : Program := .bare "" "" ""
def e0 : Env := launch0.env 0 0 0
theorem w_frames : about1.frames = Frame.invoking theMethod args0 :: below0 := rfl
set_option maxRecDepth 65536 in
theorem w_args : argsFit about1.vm theMethod args0 = true := by decide +kernel
set_option maxRecDepth 65536 in
theorem w_heap : heapFits about1 = true := by decide +kernel
set_option maxRecDepth 65536 in
theorem w_runnable : about1.curStatus? = some .runnable := by decide +kernel
set_option maxRecDepth 65536 in
theorem w_alone : about1.alone = true := by decide +kernel
set_option maxRecDepth 65536 in
theorem w_named : about1.methodNamed? x = some theMethod := by decide +kernel
set_option maxRecDepth 65536 in
theorem w_hears : about1.hears theMethod below0 = true := by decide +kernel
set_option maxRecDepth 65536 in
theorem w_ripe : about1.ripe theMethod args0 below0 = true := by decide +kernel
theorem w_running : about1.status = .running := rfl
set_option maxRecDepth 65536 in
theorem w_room : about1.hasRoom e0.platform room_1 = true :=
  launch0.hasRoom_least _ room_1 (by decide +kernel) (by decide +kernel) (by decide +kernel) (by decide +kernel) (by decide +kernel) (by decide +kernel)
theorem allAtoms_all (ts : List Jvm.Cond) (a : Array Jvm.Value) (st : Jvm.State) : (allAtoms ts).before a st = ts.all (fun c => c.before a st) := by
  induction ts with
  | nil => rfl
  | cons c t ih =>
    show (Jvm.Cond.and c (allAtoms t)).before a st = _
    rw [Jvm.Cond.before_and, ih, List.all_cons]
def words1 : List Jvm.Cond := Jvm.Cond.code x code maxLocals ret :: tables_1
/-- a 'code' word, met by the world's own term for the bytes: nothing is compared byte by byte -/
theorem code_word {y : MethodName} {bytes : ByteArray} {mx : Nat} {rt : Option FieldType} {a : Array Value} {s : State} {m : MethodId} {meth : Method} {c : Code} (h1 : s.methodNamed? y = some m) (h2 : s.vm.method? m = some meth) (h3 : meth.code = some c) (h4 : c.code = bytes)
    (h5 : (c.maxLocals == mx && c.exceptionTable.isEmpty && decide (c.maxStack ≤ mostOperands) && decide (meth.sig.returnType = rt) && !meth.locks && decide (parseMethodDescriptor y.desc = some meth.sig)) = true) : (Jvm.Cond.code y bytes mx rt).before a s = true := by
  simp only [Bool.and_eq_true, beq_iff_eq, Bool.not_eq_true', decide_eq_true_eq] at h5
  obtain ⟨⟨⟨⟨⟨g1, g2⟩, g3⟩, g4⟩, g5⟩, g6⟩ := h5
  simp [Cond.before, Cond.holds, Cond.value, h1, h2, h3, h4, g1, g2, g3, g4, g5, g6]
def isCode : Jvm.Cond → Bool
  | .code _ _ _ _ => true
  | _ => false
theorem all_split {L : List Jvm.Cond} {P : Jvm.Cond → Bool} (h1 : L.all (fun c => isCode c || P c) = true) (h2 : ∀ c ∈ L.filter isCode, P c = true) : L.all P = true := by
  refine List.all_eq_true.mpr fun c hc => ?_
  have h := List.all_eq_true.mp h1 c hc
  rcases Bool.eq_false_or_eq_true (isCode c) with hi | hi
  · exact h2 c (List.mem_filter.mpr ⟨hc, hi⟩)
  · simpa [hi] using h
set_option maxRecDepth 65536 in
theorem w_c0 : (Jvm.Cond.code x code maxLocals ret).before args0 about1 = true := code_word (m := ⟨1, 1⟩) (meth := k1m1) (c := k1c1) (by decide +kernel) rfl rfl rfl (by decide +kernel)
set_option maxRecDepth 65536 in
theorem w_c1 : (Jvm.Cond.code ({ cls := "com/example/surfeit/surfeit/IntBlocks", name := "<init>", desc := "()V" } : Jvm.MethodName) prog_12_method_1_code (1 : Nat) (Option.none : Option Jvm.ClassFile.FieldType)).before args0 about1 = true := code_word (m := ⟨2, 0⟩) (meth := k2m0) (c := k2c0) (by decide +kernel) rfl rfl rfl (by decide +kernel)
set_option maxRecDepth 65536 in
theorem w_c2 : (Jvm.Cond.code ({ cls := "java/lang/Object", name := "<init>", desc := "()V" } : Jvm.MethodName) object_method_1_code (1 : Nat) (Option.none : Option Jvm.ClassFile.FieldType)).before args0 about1 = true := code_word (m := ⟨0, 0⟩) (meth := k0m0) (c := k0c0) (by decide +kernel) rfl rfl rfl (by decide +kernel)
set_option maxRecDepth 65536 in
theorem w_c3 : (Jvm.Cond.code ({ cls := "com/example/surfeit/surfeit/IntBlocks", name := "add", desc := "(I)V" } : Jvm.MethodName) prog_12_method_5_code (4 : Nat) (Option.none : Option Jvm.ClassFile.FieldType)).before args0 about1 = true := code_word (m := ⟨2, 3⟩) (meth := k2m3) (c := k2c3) (by decide +kernel) rfl rfl rfl (by decide +kernel)
set_option maxRecDepth 65536 in
theorem w_c4 : (Jvm.Cond.code ({ cls := "com/example/surfeit/surfeit/IntBlocks", name := "set", desc := "(JI)V" } : Jvm.MethodName) prog_12_method_4_code (4 : Nat) (Option.none : Option Jvm.ClassFile.FieldType)).before args0 about1 = true := code_word (m := ⟨2, 2⟩) (meth := k2m2) (c := k2c2) (by decide +kernel) rfl rfl rfl (by decide +kernel)
set_option maxRecDepth 65536 in
theorem w_c5 : (Jvm.Cond.code ({ cls := "com/example/surfeit/surfeit/IntBlocks", name := "get", desc := "(J)I" } : Jvm.MethodName) prog_12_method_3_code (3 : Nat) (Option.some Jvm.ClassFile.FieldType.int)).before args0 about1 = true := code_word (m := ⟨2, 1⟩) (meth := k2m1) (c := k2c1) (by decide +kernel) rfl rfl rfl (by decide +kernel)
def codes1 : List Jvm.Cond := [Jvm.Cond.code x code maxLocals ret, Jvm.Cond.code ({ cls := "com/example/surfeit/surfeit/IntBlocks", name := "<init>", desc := "()V" } : Jvm.MethodName) prog_12_method_1_code (1 : Nat) (Option.none : Option Jvm.ClassFile.FieldType), Jvm.Cond.code ({ cls := "java/lang/Object", name := "<init>", desc := "()V" } : Jvm.MethodName) object_method_1_code (1 : Nat) (Option.none : Option Jvm.ClassFile.FieldType), Jvm.Cond.code ({ cls := "com/example/surfeit/surfeit/IntBlocks", name := "add", desc := "(I)V" } : Jvm.MethodName) prog_12_method_5_code (4 : Nat) (Option.none : Option Jvm.ClassFile.FieldType), Jvm.Cond.code ({ cls := "com/example/surfeit/surfeit/IntBlocks", name := "set", desc := "(JI)V" } : Jvm.MethodName) prog_12_method_4_code (4 : Nat) (Option.none : Option Jvm.ClassFile.FieldType), Jvm.Cond.code ({ cls := "com/example/surfeit/surfeit/IntBlocks", name := "get", desc := "(J)I" } : Jvm.MethodName) prog_12_method_3_code (3 : Nat) (Option.some Jvm.ClassFile.FieldType.int)]
set_option maxRecDepth 65536 in
theorem codes_eq : words1.filter isCode = codes1 := rfl
theorem w_codes : ∀ c ∈ words1.filter isCode, c.before args0 about1 = true := by
  rw [codes_eq]
  intro c hc
  simp only [codes1, List.mem_cons, List.not_mem_nil, or_false] at hc
  rcases hc with rfl | rfl | rfl | rfl | rfl | rfl
  · exact w_c0
  · exact w_c1
  · exact w_c2
  · exact w_c3
  · exact w_c4
  · exact w_c5
set_option maxRecDepth 65536 in
theorem w_t1 : (words1.take 24).all (fun c => isCode c || c.before args0 about1) = true := by decide +kernel
set_option maxRecDepth 65536 in
theorem w_t2 : (words1.drop 24).all (fun c => isCode c || c.before args0 about1) = true := by decide +kernel
theorem w_tables : (allAtoms (Jvm.Cond.code x code maxLocals ret :: tables_1)).before args0 about1 = true := by
  rw [allAtoms_all]
  show words1.all (fun c => c.before args0 about1) = true
  refine all_split ?_ w_codes
  rw [← List.take_append_drop 24 words1, List.all_append, w_t1, w_t2]
  rfl
set_option maxRecDepth 65536 in
theorem w_case : (Jvm.Cond.and given_1 narrow_1).before args0 about1 = true := by decide +kernel
theorem w_applies : (headSpec (Jvm.Cond.code x code maxLocals ret :: tables_1) room_1).applies x e0.platform about1 = true :=
  (Spec.applies_iff w_frames).mpr ⟨w_running, w_runnable, w_alone, w_named, w_hears, w_ripe, w_room, w_tables⟩
theorem atStart : AtStart classFile x code maxLocals ret World_1 tables_1 room_1 Calls_1 rest_1 Pre_1 launch0 p0 e0 about1 theMethod args0 below0 :=
  ⟨lists_1, trivial, launch0.admits_env _ _ _, launch0.least_env, fairChoices_fair.cas, fairChoices_fair.clock, w_frames, w_args, w_heap, w_applies, trivial, trivial, w_case⟩
end start1
theorem witness_1 : WitnessClaimed_1 := ⟨start1.p0, start1.e0, start1.about1, start1.theMethod, start1.args0, start1.below0, start1.atStart⟩
end Jvm.Pilot.@@N@@
