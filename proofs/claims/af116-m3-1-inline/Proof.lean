import JvmDerived
import JvmDerived.Pilot.@@N@@Statement
import JvmDerived.Pilot.@@N@@Code
set_option linter.unusedVariables false
set_option linter.unusedSimpArgs false
@@BLOCK:NumsL.lean.txt@@
namespace Jvm.RoadKit
open Sem ClassFile Op Lib Jvm.Stand Jvm.Free Jvm.LawKit
section New
variable {p : Program} {l : Launch} {e : Env} {R : Room} {s : State} {m : MethodId} {args : Array Value} {below : List Frame} {meth : Method} {c : Code} {T : State} {locs : List Loc} {cells slots : Nat}
theorem retI (X : Stand p l e R s m args below meth c T locs cells slots) (hx : p.tables.exec = Jvm.exec) {pc : Nat} {Ls : Array Slot} {z : Int32} {rest : List Value} (hret : meth.sig.returnType = some .int) (hd : decode c.code pc = .ok (.ireturn, 1)) {fs : List Frame}
    (hl : ∀ (f : JFrame) (acts : List Action), f.method = m → f.locked = none → f.entered = [] → (doReturn e (T.setTop f) acts (some (.int z))).1 = T.setFrames fs) : Steps p.tables e below (T.setTop (mkF m pc Ls (.int z :: rest))) (T.setFrames fs) := by
  have hm' : T.vm.method? m = some meth := X.method'
  have hn : narrow .int (.int z) = .int z := rfl
  show Steps p.tables e below (T.setTop { method := m, pc := pc, locals := Ls, stack := _ :: rest, locked := none }) _
  jvm_step X.here [X.here.top, hx, hd, hm', hret, hn]
  first | (intro acts; rw [hl _ acts rfl rfl rfl]) | rw [hl _ _ rfl rfl rfl]
  exact Steps.refl _
end New
end Jvm.RoadKit
namespace Jvm.Pilot.@@N@@
open Jvm Jvm.ClassFile Sem Op Lib Jvm.Free Jvm.Stand Jvm.LawKit Jvm.RoadKit Bundle Jvm.Pilot.@@N@@.Jvm.D
/-- from F the invocation ends: it returns, and Q holds of what it returned, the heap and the places written -/
def oE (p : Program) (e : Env) (below : List Frame) (s : State) (C S : Nat) (Q : Option Value → Heap → List Loc → Prop) (F : State) : Prop :=
  ∃ s₂ o, Steps p.tables e below F s₂ ∧ s₂.status = .running ∧ Ended s₂ below o ∧ ∃ v L, o = .returned v ∧ Q v s₂.heap L ∧ FrameEnd s o s₂ L C S
theorem oS {p : Program} {e : Env} {below : List Frame} {s : State} {C S : Nat} {Q : Option Value → Heap → List Loc → Prop} {F F' : State} (h : ∀ t, Steps p.tables e below F' t → Steps p.tables e below F t) (k : oE p e below s C S Q F') : oE p e below s C S Q F := by
  obtain ⟨s₂, o, st, r⟩ := k
  exact ⟨s₂, o, h _ st, r⟩
section OwnRet
variable {p : Program} {l : Launch} {e : Env} {R : Room} {s : State} {m : MethodId} {args : Array Value} {below : List Frame} {meth : Method} {c : Code} {T : State} {locs : List Loc} {cells slots : Nat} {C S : Nat} {Q : Option Value → Heap → List Loc → Prop}
theorem own_retI (X : Stand p l e R s m args below meth c T locs cells slots) (hx : p.tables.exec = Jvm.exec) {pc : Nat} {Ls : Array Slot} {z : Int32} {rest : List Value} (hret : meth.sig.returnType = some .int) (hlk : meth.locks = false) (hd : decode c.code pc = .ok (.ireturn, 1)) (hc : cells ≤ C) (hs : slots ≤ S)
    (hQ : Q (some (.int z)) T.heap locs) : oE p e below s C S Q (T.setTop (mkF m pc Ls (.int z :: rest))) := by
  obtain ⟨fs, hr, hrun, hended, hW, hsame⟩ := X.leave (v := some (.int z)) (fun h => by rw [hret] at h; cases h) hlk
  exact ⟨_, _, retI X hx hret hd hr, hrun, hended, _, _, rfl, hQ, ⟨_, rfl⟩, hW, hsame.mono hc hs⟩
theorem own_retN (X : Stand p l e R s m args below meth c T locs cells slots) (hx : p.tables.exec = Jvm.exec) {pc : Nat} {Ls : Array Slot} {z z' : Int32} {rest : List Value} {t : FieldType} (hret : meth.sig.returnType = some t) (ht : t = .boolean ∨ t = .byte ∨ t = .char ∨ t = .short) (hlk : meth.locks = false) (hd : decode c.code pc = .ok (.ireturn, 1)) (hc : cells ≤ C) (hs : slots ≤ S)
    (hz : nar t z = z') (hQ : Q (some (.int z')) T.heap locs) : oE p e below s C S Q (T.setTop (mkF m pc Ls (.int z :: rest))) := by
  subst hz
  obtain ⟨fs, hr, hrun, hended, hW, hsame⟩ := X.leave (v := some (.int (nar t z))) (fun h => by rw [hret] at h; cases h) hlk
  exact ⟨_, _, retN X hx hret ht hd hr, hrun, hended, _, _, rfl, hQ, ⟨_, rfl⟩, hW, hsame.mono hc hs⟩
theorem own_retJ (X : Stand p l e R s m args below meth c T locs cells slots) (hx : p.tables.exec = Jvm.exec) {pc : Nat} {Ls : Array Slot} {z : Int64} (hret : meth.sig.returnType = some .long) (hlk : meth.locks = false) (hd : decode c.code pc = .ok (.lreturn, 1)) (hc : cells ≤ C) (hs : slots ≤ S)
    (hQ : Q (some (.long z)) T.heap locs) : oE p e below s C S Q (T.setTop (mkF m pc Ls [.long z])) := by
  obtain ⟨fs, hr, hrun, hended, hW, hsame⟩ := X.leave (v := some (.long z)) (fun h => by rw [hret] at h; cases h) hlk
  exact ⟨_, _, X.lreturnOut hx hret hd hr, hrun, hended, _, _, rfl, hQ, ⟨_, rfl⟩, hW, hsame.mono hc hs⟩
theorem own_retV (X : Stand p l e R s m args below meth c T locs cells slots) (hx : p.tables.exec = Jvm.exec) {pc : Nat} {Ls : Array Slot} (hret : meth.sig.returnType = none) (hlk : meth.locks = false) (hd : decode c.code pc = .ok (.return_, 1)) (hc : cells ≤ C) (hs : slots ≤ S)
    (hQ : Q none T.heap locs) : oE p e below s C S Q (T.setTop (mkF m pc Ls [])) := by
  obtain ⟨fs, hr, hrun, hended, hW, hsame⟩ := X.leave (v := none) (fun _ => rfl) hlk
  exact ⟨_, _, X.returnOut hx hret hd hr, hrun, hended, _, _, rfl, hQ, ⟨_, rfl⟩, hW, hsame.mono hc hs⟩
theorem own_retR (X : Stand p l e R s m args below meth c T locs cells slots) (hx : p.tables.exec = Jvm.exec) {pc : Nat} {Ls : Array Slot} {w : Value} {t : FieldType} {rest : List Value} (hret : meth.sig.returnType = some t) (ht : t.isReference = true) (hw : w.isRef = true) (hn : narrow t w = w) (hlk : meth.locks = false) (hd : decode c.code pc = .ok (.areturn, 1)) (hc : cells ≤ C) (hs : slots ≤ S)
    (hQ : Q (some w) T.heap locs) : oE p e below s C S Q (T.setTop (mkF m pc Ls (w :: rest))) := by
  obtain ⟨fs, hr, hrun, hended, hW, hsame⟩ := X.leave (v := some w) (fun h => by rw [hret] at h; cases h) hlk
  exact ⟨_, _, retOut X hx hret hn (Or.inr (Or.inr (Or.inr (Or.inr ⟨rfl, ht, hw⟩)))) hd hr, hrun, hended, _, _, rfl, hQ, ⟨_, rfl⟩, hW, hsame.mono hc hs⟩
end OwnRet
/-- the array at a holds just vs -/
def own_Ar (Z : State) (h : Heap) (a : Addr) (ty : FieldType) (vs : List Value) : Prop :=
  vs.length < 2 ^ 31 ∧ ∃ cl : Cell, Arr Z h a cl ty ∧ cl.slots.toList = vs
section OwnArr
variable {p : Program} {l : Launch} {e : Env} {R : Room} {s : State} {m : MethodId} {args : Array Value} {below : List Frame} {meth : Method} {c : Code} {T : State} {locs : List Loc} {cells slots : Nat} {Z : State} {h h' : Heap} {a b : Addr} {ty : FieldType} {vs : List Value} {ws : List Addr} {sl : Nat} {w : Value}
theorem own_Ar.lt (A : own_Ar Z h a ty vs) : a < h.size := by obtain ⟨_, cl, h1, _⟩ := A; exact h1.lt
theorem own_Ar.ext (A : own_Ar Z h a ty vs) (E : Ext h h') : own_Ar Z h' a ty vs := by obtain ⟨q, cl, h1, r⟩ := A; exact ⟨q, cl, h1.ext E, r⟩
theorem own_Ar.other (A : own_Ar Z h a ty vs) (W : Wr h h' b sl w) (q : a ≠ b) : own_Ar Z h' a ty vs := by obtain ⟨z, cl, h1, r⟩ := A; exact ⟨z, cl, h1.other W q, r⟩
theorem own_Ar.keep (A : own_Ar Z h a ty vs) (K : Keep h h' ws) (q : a ∉ ws) : own_Ar Z h' a ty vs := by obtain ⟨z, cl, h1, r⟩ := A; exact ⟨z, cl, ⟨K.2.1 a cl h1.1 q, h1.2⟩, r⟩
theorem own_Ar.set (A : own_Ar Z h a ty vs) {i : Nat} (W : Wr h h' a i w) : own_Ar Z h' a ty (vs.set i w) := by
  obtain ⟨z, cl, h1, r⟩ := A
  refine ⟨by rw [List.length_set]; exact z, cl.setSlot i w, h1.same W, ?_⟩
  rw [← r]; simp [Cell.setSlot]
theorem own_Ar.new {k : ClassId} {z : Int32} (A : Arr Z h a (newA k ty z) ty) (q : ¬ z < 0) : own_Ar Z h a ty (List.replicate z.toNatClampNeg (defaultValue ty)) :=
  ⟨by rw [List.length_replicate]; exact (back32 q).2, _, A, by simp [newA]⟩
theorem own_Ar.cast {us : List Value} (A : own_Ar Z h a ty vs) (q : vs = us) : own_Ar Z h a ty us := q ▸ A
theorem own_Ar.ne {C : String} {a0 : Array Value} {k : Nat} (A : own_Ar Z h b ty vs) (F : Exa Z h a C) (wi : (Cond.instantiable C k).before a0 Z = true) : a ≠ b := by obtain ⟨_, cl, h1, _⟩ := A; exact ne_arr F wi h1
theorem own_in {cl : Cell} (r : cl.slots.toList = vs) {j : Int32} {i : Nat} (h0 : ¬ j < 0) (hj : j.toNatClampNeg = i) (hi : i < vs.length) : ¬ (j < 0 ∨ cl.slots.size ≤ j.toNatClampNeg) := by
  have : cl.slots.size = vs.length := by rw [← r]; simp
  rintro (q | q)
  · exact h0 q
  · omega
theorem own_at {cl : Cell} (r : cl.slots.toList = vs) {j : Int32} {i : Nat} (hj : j.toNatClampNeg = i) {v : Value} (hv : vs[i]? = some v) : cl.slots[j.toNatClampNeg]? = some v := by
  rw [hj, ← Array.getElem?_toList, r]; exact hv
theorem own_alen (X : Stand p l e R s m args below meth c T locs cells slots) (hx : p.tables.exec = Jvm.exec) (hZ : Z.Warmed39 s.vm) (eT : T.heap = h) (A : own_Ar Z h a ty vs) {n : Nat} {z : Int32} (hn : vs.length = n) (hz : Int32.ofNat n = z) {pc : Nat} {Ls : Array Slot} {st : List Value} (hd : decode c.code pc = .ok (.arraylength, 1)) (t : State)
    (k : Steps p.tables e below (T.setTop (mkF m (pc + 1) Ls (.int z :: st))) t) : Steps p.tables e below (T.setTop (mkF m pc Ls (.ref a :: st))) t := by
  obtain ⟨_, cl, h1, r⟩ := A
  refine X.arraylength hx (by rw [eT]; exact h1.1) (State.isArrayOf_alike hZ.alike h1.2.1) (g := mkF m pc Ls (.ref a :: st)) rfl rfl hd _ ?_
  have : cl.slots.size = n := by rw [← hn, ← r]; simp
  rw [this, show n.toInt32 = z from hz]; exact k
theorem own_iaload (X : Stand p l e R s m args below meth c T locs cells slots) (hx : p.tables.exec = Jvm.exec) (hZ : Z.Warmed39 s.vm) (eT : T.heap = h) (A : own_Ar Z h a .int vs) {j : Int32} {i : Nat} {v : Value} (h0 : ¬ j < 0) (hj : j.toNatClampNeg = i) (hv : vs[i]? = some v) {pc : Nat} {Ls : Array Slot} {st : List Value} (hd : decode c.code pc = .ok (.iaload, 1)) (t : State)
    (k : Steps p.tables e below (T.setTop (mkF m (pc + 1) Ls (v :: st))) t) : Steps p.tables e below (T.setTop (mkF m pc Ls (.int j :: .ref a :: st))) t := by
  obtain ⟨z, cl, h1, r⟩ := A
  exact X.iaload hx (by rw [eT]; exact h1.1) (State.isArrayOf_alike hZ.alike h1.2.1) h1.2.2 (own_in r h0 hj (List.getElem?_eq_some_iff.mp hv).1) (own_at r hj hv) (g := mkF m pc Ls (.int j :: .ref a :: st)) rfl rfl hd _ k
theorem own_laload (X : Stand p l e R s m args below meth c T locs cells slots) (hx : p.tables.exec = Jvm.exec) (hZ : Z.Warmed39 s.vm) (eT : T.heap = h) (A : own_Ar Z h a .long vs) {j : Int32} {i : Nat} {v : Value} (h0 : ¬ j < 0) (hj : j.toNatClampNeg = i) (hv : vs[i]? = some v) {pc : Nat} {Ls : Array Slot} {st : List Value} (hd : decode c.code pc = .ok (.laload, 1)) (t : State)
    (k : Steps p.tables e below (T.setTop (mkF m (pc + 1) Ls (v :: st))) t) : Steps p.tables e below (T.setTop (mkF m pc Ls (.int j :: .ref a :: st))) t := by
  obtain ⟨z, cl, h1, r⟩ := A
  exact X.laload hx (by rw [eT]; exact h1.1) (State.isArrayOf_alike hZ.alike h1.2.1) h1.2.2 (own_in r h0 hj (List.getElem?_eq_some_iff.mp hv).1) (own_at r hj hv) (g := mkF m pc Ls (.int j :: .ref a :: st)) rfl rfl hd _ k
theorem own_baload (X : Stand p l e R s m args below meth c T locs cells slots) (hx : p.tables.exec = Jvm.exec) (hZ : Z.Warmed39 s.vm) (eT : T.heap = h) (A : own_Ar Z h a .byte vs) {j : Int32} {i : Nat} {v : Value} (h0 : ¬ j < 0) (hj : j.toNatClampNeg = i) (hv : vs[i]? = some v) {pc : Nat} {Ls : Array Slot} {st : List Value} (hd : decode c.code pc = .ok (.baload, 1)) (t : State)
    (k : Steps p.tables e below (T.setTop (mkF m (pc + 1) Ls (v :: st))) t) : Steps p.tables e below (T.setTop (mkF m pc Ls (.int j :: .ref a :: st))) t := by
  obtain ⟨z, cl, h1, r⟩ := A
  exact X.baloadBytes hx (by rw [eT]; exact h1.1) (State.isArrayOf_alike hZ.alike h1.2.1) h1.2.2 (own_in r h0 hj (List.getElem?_eq_some_iff.mp hv).1) (own_at r hj hv) (g := mkF m pc Ls (.int j :: .ref a :: st)) rfl rfl hd _ k
theorem own_aaload (X : Stand p l e R s m args below meth c T locs cells slots) (hx : p.tables.exec = Jvm.exec) (hZ : Z.Warmed39 s.vm) (eT : T.heap = h) (A : own_Ar Z h a ty vs) (hty : ty.isReference = true) {j : Int32} {i : Nat} {v : Value} (h0 : ¬ j < 0) (hj : j.toNatClampNeg = i) (hv : vs[i]? = some v) {pc : Nat} {Ls : Array Slot} {st : List Value} (hd : decode c.code pc = .ok (.aaload, 1)) (t : State)
    (k : Steps p.tables e below (T.setTop (mkF m (pc + 1) Ls (v :: st))) t) : Steps p.tables e below (T.setTop (mkF m pc Ls (.int j :: .ref a :: st))) t := by
  obtain ⟨z, cl, h1, r⟩ := A
  exact X.aaload hx (by rw [eT]; exact h1.1) (State.isArrayOf_alike hZ.alike h1.2.1) hty h1.2.2 (own_in r h0 hj (List.getElem?_eq_some_iff.mp hv).1) (own_at r hj hv) (g := mkF m pc Ls (.int j :: .ref a :: st)) rfl rfl hd _ k
theorem own_iastore (X : Stand p l e R s m args below meth c T locs cells slots) (hx : p.tables.exec = Jvm.exec) (hZ : Z.Warmed39 s.vm) (eT : T.heap = h) (A : own_Ar Z h a .int vs) {j x : Int32} {i : Nat} (h0 : ¬ j < 0) (hj : j.toNatClampNeg = i) (hi : i < vs.length) {pc : Nat} {Ls : Array Slot} {st : List Value} (hd : decode c.code pc = .ok (.iastore, 1)) :
    ∃ T' h', Stand p l e R s m args below meth c T' (locs ++ [⟨a, i⟩]) cells slots ∧ T'.heap = h' ∧ Wr h h' a i (.int x) ∧ own_Ar Z h' a .int (vs.set i (.int x)) ∧ ∀ t, Steps p.tables e below (T'.setTop (mkF m (pc + 1) Ls st)) t → Steps p.tables e below (T.setTop (mkF m pc Ls (.int x :: .int j :: .ref a :: st))) t := by
  have A' := A
  obtain ⟨z, cl, h1, r⟩ := A
  obtain ⟨T', h', X', e', W, k⟩ := stI X hx hZ eT h1 (j := j) (x := x) (own_in r h0 hj hi) (g := mkF m pc Ls (.int x :: .int j :: .ref a :: st)) rfl rfl hd
  rw [hj] at X' W
  exact ⟨T', h', X', e', W, A'.set W, k⟩
theorem own_lastore (X : Stand p l e R s m args below meth c T locs cells slots) (hx : p.tables.exec = Jvm.exec) (hZ : Z.Warmed39 s.vm) (eT : T.heap = h) (A : own_Ar Z h a .long vs) {j : Int32} {x : Int64} {i : Nat} (h0 : ¬ j < 0) (hj : j.toNatClampNeg = i) (hi : i < vs.length) {pc : Nat} {Ls : Array Slot} {st : List Value} (hd : decode c.code pc = .ok (.lastore, 1)) :
    ∃ T' h', Stand p l e R s m args below meth c T' (locs ++ [⟨a, i⟩]) cells slots ∧ T'.heap = h' ∧ Wr h h' a i (.long x) ∧ own_Ar Z h' a .long (vs.set i (.long x)) ∧ ∀ t, Steps p.tables e below (T'.setTop (mkF m (pc + 1) Ls st)) t → Steps p.tables e below (T.setTop (mkF m pc Ls (.long x :: .int j :: .ref a :: st))) t := by
  have A' := A
  obtain ⟨z, cl, h1, r⟩ := A
  obtain ⟨T', h', X', e', W, k⟩ := stJ X hx hZ eT h1 (j := j) (x := x) (own_in r h0 hj hi) (g := mkF m pc Ls (.long x :: .int j :: .ref a :: st)) rfl rfl hd
  rw [hj] at X' W
  exact ⟨T', h', X', e', W, A'.set W, k⟩
theorem own_bastore (X : Stand p l e R s m args below meth c T locs cells slots) (hx : p.tables.exec = Jvm.exec) (hZ : Z.Warmed39 s.vm) (eT : T.heap = h) (A : own_Ar Z h a .byte vs) {j x : Int32} {i : Nat} (h0 : ¬ j < 0) (hj : j.toNatClampNeg = i) (hi : i < vs.length) {pc : Nat} {Ls : Array Slot} {st : List Value} (hd : decode c.code pc = .ok (.bastore, 1)) :
    ∃ T' h', Stand p l e R s m args below meth c T' (locs ++ [⟨a, i⟩]) cells slots ∧ T'.heap = h' ∧ Wr h h' a i (.int (nar .byte x)) ∧ own_Ar Z h' a .byte (vs.set i (.int (nar .byte x))) ∧ ∀ t, Steps p.tables e below (T'.setTop (mkF m (pc + 1) Ls st)) t → Steps p.tables e below (T.setTop (mkF m pc Ls (.int x :: .int j :: .ref a :: st))) t := by
  have A' := A
  obtain ⟨z, cl, h1, r⟩ := A
  obtain ⟨T', h', X', e', W, k⟩ := stB X hx hZ eT h1 (j := j) (x := x) (own_in r h0 hj hi) (g := mkF m pc Ls (.int x :: .int j :: .ref a :: st)) rfl rfl hd
  rw [hj] at X' W
  exact ⟨T', h', X', e', W, A'.set W, k⟩
end OwnArr

theorem wd_ {Z : State} {a0 : Array Value} (hw : ∀ d ∈ tables_1, d.before a0 Z = true) (i : Nat) {d : Jvm.Cond} (h : tables_1[i]? = some d) : d.before a0 Z = true := hw _ (List.mem_of_getElem? h)
set_option maxRecDepth 65536
set_option maxHeartbeats 40000000
/-! bytes, Strings, builders -/
def own_V (bs : List Nat) : List Value := bs.map fun b => Value.int (Int32.ofNat b)
theorem own_V_len (bs : List Nat) : (own_V bs).length = bs.length := by simp [own_V]
theorem own_V_at {bs : List Nat} {i b : Nat} (h : bs[i]? = some b) : (own_V bs)[i]? = some (.int (Int32.ofNat b)) := by simp [own_V, h]
theorem own_V_app (xs ys : List Nat) : own_V (xs ++ ys) = own_V xs ++ own_V ys := by simp [own_V]
/-- the byte[] at a holds bs, each below 128 -/
def own_By (Z : State) (h : Heap) (a : Addr) (bs : List Nat) : Prop := own_Ar Z h a .byte (own_V bs) ∧ ∀ b ∈ bs, b < 128
section OwnBytes
variable {p : Program} {l : Launch} {e : Env} {R : Room} {s : State} {m : MethodId} {args : Array Value} {below : List Frame} {meth : Method} {c : Code} {T : State} {locs : List Loc} {cells slots : Nat} {Z : State} {h h' : Heap} {a b : Addr} {bs xs ys ps ms qs : List Nat} {ws : List Addr} {sl : Nat} {w : Value} {a0 : Array Value}
theorem own_By.lt (A : own_By Z h a bs) : a < h.size := A.1.lt
theorem own_By.ext (A : own_By Z h a bs) (E : Ext h h') : own_By Z h' a bs := ⟨A.1.ext E, A.2⟩
theorem own_By.other (A : own_By Z h a bs) (W : Wr h h' b sl w) (q : a ≠ b) : own_By Z h' a bs := ⟨A.1.other W q, A.2⟩
theorem own_By.keep (A : own_By Z h a bs) (K : Keep h h' ws) (q : a ∉ ws) : own_By Z h' a bs := ⟨A.1.keep K q, A.2⟩
theorem own_By.len (A : own_By Z h a bs) : bs.length < 2 ^ 31 := by have := A.1.1; rwa [own_V_len] at this
theorem own_By.cast (A : own_By Z h a xs) (q : xs = ys) : own_By Z h a ys := q ▸ A
theorem own_nn {i : Nat} (h : i < 2 ^ 31) : ¬ Int32.ofNat i < 0 := by
  rw [Int32.lt_iff_toInt_lt, Int32.toInt_ofNat_small h, show (0 : Int32).toInt = 0 from rfl]; omega
theorem own_nc {i : Nat} (h : i < 2 ^ 31) : (Int32.ofNat i).toNatClampNeg = i := by
  rw [Int32.toNatClampNeg, Int32.toInt_ofNat_small h]; rfl
theorem own_fitB {b : Nat} (h : b < 128) : fits .byte (.int (Int32.ofNat b)) = true := by
  have := Int32.toInt_ofNat_small (n := b) (by omega)
  simp only [fits, Bool.and_eq_true, decide_eq_true_eq, Int32.le_iff_toInt_le, this, show (-128 : Int32).toInt = -128 from rfl, show (127 : Int32).toInt = 127 from rfl]
  omega
theorem own_By.arv (A : own_By Z h a bs) : ∃ k, Arv Z h a k .byte (Int32.ofNat bs.length) (own_V bs) (.int 0) := by
  have hl := A.len
  obtain ⟨⟨_, cl, h1, r⟩, q⟩ := A
  have hs : cl.slots.size = bs.length := by rw [← own_V_len, ← r]; simp
  refine ⟨cl.cls, cl, h1, rfl, by rw [own_nc hl]; exact hs, own_nn hl, fun k hk => ?_, fun k hk => ?_⟩
  · have hk' : k < bs.length := by omega
    rw [← Array.getElem?_toList, r, List.getD_eq_getElem?_getD, List.getElem?_eq_getElem (by rw [own_V_len]; exact hk')]; rfl
  · have hk' : k < bs.length := by omega
    rw [List.getD_eq_getElem?_getD, own_V_at (List.getElem?_eq_getElem hk')]
    exact own_fitB (q _ (List.getElem_mem hk'))
theorem own_By.of {k : ClassId} {z : Int32} {d : Value} (F : Arv Z h a k .byte z (own_V bs) d) (hz : z = Int32.ofNat bs.length) (hl : bs.length < 2 ^ 31) (hb : ∀ b ∈ bs, b < 128) : own_By Z h a bs := by
  obtain ⟨cl, A, -, S, -, H, -⟩ := F
  subst hz
  rw [own_nc hl] at S
  refine ⟨⟨by rw [own_V_len]; exact hl, cl, A, ?_⟩, hb⟩
  apply List.ext_getElem?
  intro i
  rw [Array.getElem?_toList]
  by_cases hi : i < bs.length
  · rw [H i (by omega), List.getD_eq_getElem?_getD, List.getElem?_eq_getElem (by rw [own_V_len]; exact hi)]; rfl
  · rw [List.getElem?_eq_none (by rw [own_V_len]; omega), Array.getElem?_eq_none (by omega)]
theorem own_cp (X : Stand p l e R s m args below meth c T locs cells slots) (hx : p.tables.exec = Jvm.exec) (hZ : Z.Warmed39 s.vm) {own : String} {index : Nat} (hown : s.vm.findClass own = some m.cls)
    (w1 : (Cond.methodLink own index Jvm.Stand.acN).before a0 Z = true) (w2 : (Cond.native Jvm.Stand.acN).before a0 Z = true) (w3 : (Cond.static Jvm.Stand.acN).before a0 Z = true) (w4 : (Cond.initialized "java/lang/System").before a0 Z = true) (eT : T.heap = h)
    (A : own_By Z h a (xs ++ ys)) (B : own_By Z h b (ps ++ ms ++ qs)) (hl : ms.length = xs.length) {dp nn : Int32} (hdp : dp = Int32.ofNat ps.length) (hnn : nn = Int32.ofNat xs.length) {n0 : Nat} (N : Fr n0 locs) (ge : n0 ≤ b)
    {g : JFrame} (hg : g.method = m) (hsize : g.locals.size = c.maxLocals) {rest : List Value} (hs : g.stack = .int nn :: .int dp :: .ref b :: .int 0 :: .ref a :: rest) (hd : decode c.code g.pc = .ok (.invokestatic index, 3))
    (hf : 1 ≤ R.frames) {W : Nat} (hW : 2 * g.monitorRoom + (rest.map fun v => v.category).sum ≤ W) (hlo : W + (nativeFrameWords "java/lang/System" "arraycopy" 5 + 11) ≤ R.locals) :
    ∃ T' h' L, Stand p l e R s m args below meth c T' L cells slots ∧ T'.heap = h' ∧ Fr n0 L ∧ Keep h h' [b] ∧ own_By Z h' b (ps ++ xs ++ qs) ∧
      ∀ target, Steps p.tables e below (T'.setTop { g with pc := g.pc + 3, stack := rest }) target → Steps p.tables e below (T.setTop g) target := by
  have la := A.len
  have lb := B.len
  have qa := A.2
  have qb := B.2
  simp only [List.length_append] at la lb
  obtain ⟨ka, FA⟩ := A.arv
  obtain ⟨kb, FB⟩ := B.arv
  subst hdp hnn
  have e0 : (0 : Int32).toNatClampNeg = 0 := rfl
  obtain ⟨T', h', L, X', e', N', K, F, st⟩ := cpA X hx hZ hown w1 w2 w3 w4 eT (us := own_V xs) FA FB (Or.inl ⟨rfl, rfl⟩) (by decide) (own_nn (by omega)) (own_nn (by omega))
    (by rw [e0, own_nc (by omega), own_nc (by simp only [List.length_append]; omega)]; simp only [List.length_append]; omega)
    (by rw [own_nc (by omega), own_nc (by omega), own_nc (by simp only [List.length_append]; omega)]; simp only [List.length_append]; omega)
    (by
      rw [e0, own_nc (by omega)]
      apply List.ext_getElem?
      intro i
      by_cases hi : i < xs.length
      · rw [List.getElem?_map, List.getElem?_range hi, own_V_at (List.getElem?_eq_getElem hi), Option.map_some, List.getD_eq_getElem?_getD, Nat.zero_add, own_V_at (b := xs[i]) (by rw [List.getElem?_append_left hi, List.getElem?_eq_getElem hi])]; rfl
      · rw [List.getElem?_eq_none (by rw [own_V_len]; omega), List.getElem?_eq_none (by simp; omega)])
    (by rw [own_nc (by omega), own_nc (by omega), own_V_len]; simp only [List.length_append]; omega) N ge hg hsize hs hd hf hW hlo
  refine ⟨T', h', L, X', e', N', K, own_By.of (d := .int 0) (k := kb) (z := Int32.ofNat (ps ++ ms ++ qs).length) ?_ (by simp only [List.length_append]; rw [hl]) (by simp only [List.length_append]; omega) ?_, st⟩
  · rw [own_nc (by omega), own_nc (by omega)] at F
    have e2 : List.take ps.length (own_V (ps ++ ms ++ qs)) ++ own_V xs ++ List.drop (ps.length + xs.length) (own_V (ps ++ ms ++ qs)) = own_V (ps ++ xs ++ qs) := by
      simp only [own_V_app]
      rw [List.drop_left' (l₁ := own_V ps ++ own_V ms) (by rw [List.length_append, own_V_len, own_V_len, hl]), List.append_assoc (own_V ps) (own_V ms), List.take_left' (own_V_len ps)]
    rw [e2] at F
    exact F
  · intro y hy
    simp only [List.mem_append] at hy
    rcases hy with (hy | hy) | hy
    · exact qb y (by simp [hy])
    · exact qa y (by simp [hy])
    · exact qb y (by simp [hy])
end OwnBytes

theorem own_shr0 (x : Int32) : x >>> ((0 : Int32) &&& 31) = x := by
  apply Int32.toBitVec_inj.mp
  rw [show ((0 : Int32) &&& 31) = 0 from by decide, Int32.toBitVec_shiftRight]
  show x.toBitVec.sshiftRight 0 = _
  simp
theorem own_shl0 (x : Int32) : x <<< ((0 : Int32) &&& 31) = x := by
  apply Int32.toBitVec_inj.mp
  rw [show ((0 : Int32) &&& 31) = 0 from by decide, Int32.toBitVec_shiftLeft]
  show x.toBitVec <<< 0 = _
  simp
/-- what stands from the start -/
def own_Wd (Z : State) (cs : Int32) (fm : Value) (d1 d2 : Addr) : Prop :=
  ¬ cs = 0 ∧ (fm = .null ∨ ∃ a, fm = .ref a) ∧ Sta Z Z.heap "java/lang/String" "COMPACT_STRINGS" "Z" (.int cs) ∧ Sta Z Z.heap "jdk/internal/util/Preconditions" "SIOOBE_FORMATTER" "Ljava/util/function/BiFunction;" fm ∧
  Sta Z Z.heap "java/lang/Integer" "DigitOnes" "[B" (.ref d1) ∧ own_By Z Z.heap d1 ((List.range 100).map fun i => 48 + i % 10) ∧ Sta Z Z.heap "java/lang/Integer" "DigitTens" "[B" (.ref d2) ∧ own_By Z Z.heap d2 ((List.range 100).map fun i => 48 + i / 10)
theorem own_ltN {a b : Nat} (ha : a < 2 ^ 31) (hb : b < 2 ^ 31) : Int32.ofNat a < Int32.ofNat b ↔ a < b := by
  rw [Int32.lt_iff_toInt_lt, Int32.toInt_ofNat_small ha, Int32.toInt_ofNat_small hb]; omega
theorem own_eqN {a b : Nat} (ha : a < 2 ^ 31) (hb : b < 2 ^ 31) : Int32.ofNat a = Int32.ofNat b ↔ a = b := by
  constructor
  · intro q
    have := congrArg Int32.toInt q
    rw [Int32.toInt_ofNat_small ha, Int32.toInt_ofNat_small hb] at this; omega
  · rintro rfl; rfl
theorem own_c255 {b : Nat} (h : b < 128) : ((Int32.ofNat b &&& (255 : Int32)).toUInt32.toUInt16.toUInt32.toInt32) = Int32.ofNat b := by
  have key : ∀ n : Fin 128, ((Int32.ofNat n.val &&& (255 : Int32)).toUInt32.toUInt16.toUInt32.toInt32) = Int32.ofNat n.val := by decide
  exact key ⟨b, h⟩
theorem own_narC {b : Nat} (h : b < 128) : nar .char (Int32.ofNat b) = Int32.ofNat b := by
  have key : ∀ n : Fin 128, nar .char (Int32.ofNat n.val) = Int32.ofNat n.val := by decide
  exact key ⟨b, h⟩
theorem own_narB {b : Nat} (h : b < 128) : nar .byte (Int32.ofNat b) = Int32.ofNat b := by
  have key : ∀ n : Fin 128, nar .byte (Int32.ofNat n.val) = Int32.ofNat n.val := by decide
  exact key ⟨b, h⟩
theorem own_add (a b : Nat) : Int32.ofNat a + Int32.ofNat b = Int32.ofNat (a + b) := (Int32.ofNat_add a b).symm
theorem own_sub {a b : Nat} (h : b ≤ a) : Int32.ofNat a - Int32.ofNat b = Int32.ofNat (a - b) := by
  have e : Int32.ofNat (a - b) + Int32.ofNat b = Int32.ofNat a := by rw [own_add]; congr 1; omega
  rw [← e]; exact Int32.add_sub_cancel _ _
def own_gr (cap mn : Nat) : Nat := cap + max (mn - cap) (cap + 2)
theorem own_rep (n : Nat) : own_V (List.replicate n 0) = List.replicate n (.int 0) := by simp [own_V]
theorem own_By.zero {Z : State} {h : Heap} {a : Addr} {k : ClassId} {n : Nat} (hn : n < 2 ^ 31) (A : Arr Z h a (newA k .byte (Int32.ofNat n)) .byte) : own_By Z h a (List.replicate n 0) := by
  have q := own_Ar.new A (own_nn hn)
  rw [own_nc hn] at q
  refine ⟨q.cast (own_rep n).symm, fun b hb => ?_⟩
  rw [(List.mem_replicate.mp hb).2]; decide
theorem own_clone {p : Program} {l : Launch} {e : Env} {R : Room} {s : State} {m : MethodId} {args : Array Value} {below : List Frame} {meth : Method} {c : Code} {T : State} {locs : List Loc} {cells slots : Nat} {Z : State} {h : Heap} {a : Addr} {bs : List Nat} {a0 : Array Value} (X : Stand p l e R s m args below meth c T locs cells slots) (hx : p.tables.exec = Jvm.exec) (hZ : Z.Warmed39 s.vm) {own : String} {index : Nat} (hown : s.vm.findClass own = some m.cls)
    (w1 : (Cond.methodLink own index ⟨"[B", "clone", "()Ljava/lang/Object;"⟩).before a0 Z = true) (w2 : (Cond.sameMethod "[B" "java/lang/Object" "clone" "()Ljava/lang/Object;").before a0 Z = true) (w3 : (Cond.native ⟨"java/lang/Object", "clone", "()Ljava/lang/Object;"⟩).before a0 Z = true)
    (w4 : (Cond.instanceMethod ⟨"java/lang/Object", "clone", "()Ljava/lang/Object;"⟩).before a0 Z = true) (w5 : (Cond.selects "[B" ⟨"[B", "clone", "()Ljava/lang/Object;"⟩ ⟨"java/lang/Object", "clone", "()Ljava/lang/Object;"⟩).before a0 Z = true) (w6 : (Cond.castable "[B" "java/lang/Cloneable").before a0 Z = true)
    (eT : T.heap = h) (B : own_By Z h a bs) (E : Exa Z h a "[B") {g : JFrame} (hg : g.method = m) (hsize : g.locals.size = c.maxLocals) {rest : List Value} (hst : g.stack = .ref a :: rest) (hd : decode c.code g.pc = .ok (.invokevirtual index, 3))
    (hf : 1 ≤ R.frames) {W cap : Nat} (hW : 2 * g.monitorRoom + (rest.map fun v => v.category).sum ≤ W) (hl : W + 14 ≤ R.locals) (hcap : bs.length ≤ cap) (hc : cells + 1 ≤ R.cells) (hsl : slots + cap ≤ R.slots) :
    ∃ T' h', Stand p l e R s m args below meth c T' locs (cells + 1) (slots + cap) ∧ T'.heap = h' ∧ Ext h h' ∧ own_By Z h' h.size bs ∧ Exa Z h' h.size "[B" ∧
      ∀ target, Steps p.tables e below (T'.setTop { g with pc := g.pc + 3, stack := .ref h.size :: rest }) target → Steps p.tables e below (T.setTop g) target := by
  have lb := B.len
  obtain ⟨k, F⟩ := B.arv
  obtain ⟨T', h', X', e', ex, F', E', st⟩ := cloneH X hx hZ hown w1 w2 w3 w4 w5 w6 eT F.arh E hg hsize hst hd hf hW hl (by rw [own_nc lb]; exact hcap) hc hsl
  exact ⟨T', h', X', e', ex, own_By.of (show Arv Z h' h.size k .byte (Int32.ofNat bs.length) (own_V bs) (.int 0) from F') rfl lb B.2, E', st⟩
theorem own_subpos {a b : Nat} (ha : a < 1000) (hb : b < 1000) : 0 < Int32.ofNat a - Int32.ofNat b ↔ b < a := by
  by_cases h : b ≤ a
  · rw [own_sub h]
    exact (own_ltN (a := 0) (by omega) (by omega)).trans (by omega)
  · have e : Int32.ofNat a - Int32.ofNat b = -(Int32.ofNat (b - a)) := by
      rw [← own_sub (by omega : a ≤ b)]; exact Int32.neg_sub.symm
    rw [e]
    constructor
    · intro q
      rw [Int32.lt_iff_toInt_lt, Int32.toInt_neg, Int32.toInt_ofNat_small (by omega)] at q
      rw [Int.bmod_eq_of_le (by omega) (by omega), show (0 : Int32).toInt = 0 from rfl] at q
      omega
    · intro q; omega
theorem own_selUp {C : String} {y : MethodName} {s : State} {args : Array Value} (hy : y.cls ≠ "java/lang/invoke/MethodHandle" ∧ y.cls ≠ "java/lang/invoke/VarHandle") (hs : (Cond.selects C y y).before args s = true) (hp : (Cond.privateMethod y).before args s = true) (hi : (Cond.instanceMethod y).before args s = true) : (Cond.selects y.cls y y).before args s = true := by
  obtain ⟨c, r, m, -, -, hn, -, k, hk, hki⟩ := Cond.selects_spec hs
  exact selects_self_of_private (findClass_of_methodNamed hn) hk hki (Cond.privateMethod_at hp) hi hy
theorem own_FldN {Z : State} {h : Heap} {a : Addr} {C n d : String} {x y : Nat} (F : Fld Z h a C n d (.int (Int32.ofNat x))) (q : x = y) : Fld Z h a C n d (.int (Int32.ofNat y)) := q ▸ F
/-! decimal digits -/
def own_digs (m : Nat) : List Nat := if h : m < 10 then [48 + m] else own_digs (m / 10) ++ [48 + m % 10]
termination_by m
decreasing_by omega
theorem own_digs_lt {m : Nat} (h : m < 10) : own_digs m = [48 + m] := by rw [own_digs, dif_pos h]
theorem own_digs_ge {m : Nat} (h : ¬ m < 10) : own_digs m = own_digs (m / 10) ++ [48 + m % 10] := by rw [own_digs, dif_neg h]
theorem own_digs_100 {m : Nat} (h : 100 ≤ m) : own_digs m = own_digs (m / 100) ++ [48 + m % 100 / 10, 48 + m % 10] := by
  rw [own_digs_ge (by omega), own_digs_ge (m := m / 10) (by omega), Nat.div_div_eq_div_mul, show m / 10 % 10 = m % 100 / 10 from by omega, List.append_assoc]; rfl
theorem own_digs_2 {m : Nat} (h : 10 ≤ m) (h2 : m < 100) : own_digs m = [48 + m / 10, 48 + m % 10] := by
  rw [own_digs_ge (by omega), own_digs_lt (m := m / 10) (by omega)]; rfl
theorem own_digs_len {k : Nat} : ∀ {m : Nat}, 10 ^ (k + 1) ≤ m → m < 10 ^ (k + 2) → (own_digs m).length = k + 2 := by
  induction k with
  | zero => intro m h1 h2; rw [own_digs_2 (by omega) (by omega)]; rfl
  | succ k ih =>
    intro m h1 h2
    have e1 : 10 ^ (k + 1 + 1) = 10 ^ (k + 1) * 10 := Nat.pow_succ ..
    have e2 : 10 ^ (k + 1 + 2) = 10 ^ (k + 2) * 10 := Nat.pow_succ ..
    have e3 : 0 < 10 ^ (k + 1) := Nat.pow_pos (by omega)
    rw [own_digs_ge (by omega), List.length_append, ih (m := m / 10) (by omega) (by omega)]; rfl
theorem own_digs_len1 {m : Nat} (h : m < 10) : (own_digs m).length = 1 := by rw [own_digs_lt h]; rfl
theorem own_digs_pos (m : Nat) : 0 < (own_digs m).length := by
  by_cases h : m < 10
  · rw [own_digs_lt h]; exact Nat.one_pos
  · rw [own_digs_ge h]; simp
theorem own_digs_at : ∀ (n m : Nat), m ≤ n → ∀ k, k < (own_digs m).length → (own_digs m)[k]? = some (48 + m / 10 ^ ((own_digs m).length - 1 - k) % 10) := by
  intro n
  induction n with
  | zero =>
    intro m hm k hk
    rw [own_digs_lt (by omega)] at hk ⊢
    have : k = 0 := by simpa using hk
    subst this; simp; omega
  | succ n ih =>
    intro m hm k hk
    by_cases h : m < 10
    · rw [own_digs_lt h] at hk ⊢
      have : k = 0 := by simpa using hk
      subst this; simp; omega
    · rw [own_digs_ge h] at hk ⊢
      simp only [List.length_append, List.length_cons, List.length_nil] at hk ⊢
      by_cases hl : k < (own_digs (m / 10)).length
      · rw [List.getElem?_append_left hl, ih (m / 10) (by omega) k hl, show (own_digs (m / 10)).length + (0 + 1) - 1 - k = ((own_digs (m / 10)).length - 1 - k) + 1 from by omega, Nat.pow_succ, Nat.mul_comm, ← Nat.div_div_eq_div_mul]
      · have : k = (own_digs (m / 10)).length := by omega
        subst this
        rw [List.getElem?_append_right (Nat.le_refl _)]; simp
theorem own_digs_b {m : Nat} : ∀ b ∈ own_digs m, b < 128 := by
  intro b hb
  obtain ⟨k, hk⟩ := List.getElem?_of_mem hb
  rw [own_digs_at m m (Nat.le_refl _) k (List.getElem?_eq_some_iff.mp hk).1] at hk
  injection hk with hk; omega
def own_dec (x : Int32) : List Nat := if x < 0 then 45 :: own_digs x.toInt.natAbs else own_digs x.toInt.natAbs
theorem own_dec_neg {x : Int32} (h : x < 0) : own_dec x = 45 :: own_digs x.toInt.natAbs := if_pos h
theorem own_dec_pos {x : Int32} (h : ¬ x < 0) : own_dec x = own_digs x.toInt.natAbs := if_neg h
theorem own_dec_b (x : Int32) : ∀ b ∈ own_dec x, b < 128 := by
  intro b hb
  by_cases h : x < 0
  · rw [own_dec_neg h] at hb
    rcases List.mem_cons.mp hb with rfl | hb
    · decide
    · exact own_digs_b b hb
  · rw [own_dec_pos h] at hb; exact own_digs_b b hb
theorem own_abs (x : Int32) : x.toInt.natAbs ≤ 2147483648 := by
  have h1 := x.toInt_lt; have h2 := x.le_toInt; omega
theorem own_digs_10 {m : Nat} (h : m ≤ 2147483648) : (own_digs m).length ≤ 10 := by
  by_cases h0 : m < 10
  · rw [own_digs_len1 h0]; omega
  have go : ∀ k, 10 ^ (k + 1) ≤ m → m < 10 ^ (k + 2) → k ≤ 8 → (own_digs m).length ≤ 10 := fun k a b c => by rw [own_digs_len a b]; omega
  by_cases h1 : m < 100; exact go 0 (by omega) (by omega) (by omega)
  by_cases h2 : m < 1000; exact go 1 (by omega) (by omega) (by omega)
  by_cases h3 : m < 10000; exact go 2 (by omega) (by omega) (by omega)
  by_cases h4 : m < 100000; exact go 3 (by omega) (by omega) (by omega)
  by_cases h5 : m < 1000000; exact go 4 (by omega) (by omega) (by omega)
  by_cases h6 : m < 10000000; exact go 5 (by omega) (by omega) (by omega)
  by_cases h7 : m < 100000000; exact go 6 (by omega) (by omega) (by omega)
  by_cases h8 : m < 1000000000; exact go 7 (by omega) (by omega) (by omega)
  exact go 8 (by omega) (by omega) (by omega)
theorem own_dec_len (x : Int32) : (own_dec x).length ≤ 11 := by
  have := own_digs_10 (own_abs x)
  by_cases h : x < 0
  · rw [own_dec_neg h]; simp; omega
  · rw [own_dec_pos h]; omega
theorem own_dec_len1 (x : Int32) : 1 ≤ (own_dec x).length := by
  by_cases h : x < 0
  · rw [own_dec_neg h]; simp
  · rw [own_dec_pos h]; exact own_digs_pos _
/-- y = - |x| -/
theorem own_ny {x : Int32} (h : ¬ x < 0) : (-x).toInt = -(x.toInt.natAbs : Int) := by
  rw [Int32.lt_iff_toInt_lt, show (0 : Int32).toInt = 0 from rfl] at h
  have h1 := x.toInt_lt
  rw [Int32.toInt_neg, Int.bmod_eq_of_le (by omega) (by omega)]; omega
theorem own_yy {x : Int32} (h : x < 0) : x.toInt = -(x.toInt.natAbs : Int) := by
  rw [Int32.lt_iff_toInt_lt, show (0 : Int32).toInt = 0 from rfl] at h; omega
theorem own_same {C : String} {y y' : MethodName} {s : State} {args : Array Value} (hc : y'.cls = y.cls) (hy : y.cls ≠ "java/lang/invoke/MethodHandle" ∧ y.cls ≠ "java/lang/invoke/VarHandle") (hs : (Cond.selects C y' y').before args s = true) (hi : (Cond.instanceMethod y).before args s = true) : (Cond.sameMethod y.cls y.cls y.name y.desc).before args s = true := by
  obtain ⟨c, r, m, -, -, hn, -, k, hk, hki⟩ := Cond.selects_spec hs
  obtain ⟨mk, methM, hnamed, -⟩ := Cond.instanceMethod_spec hi
  have h1 := findClass_of_methodNamed hn
  have h2 := findClass_of_methodNamed hnamed
  rw [hc] at h1
  have e : m.cls = mk.cls := Option.some.inj (h1.symm.trans h2)
  have hf := State.methodFound?_of_named hnamed hy
  rw [e] at hk
  have hnamed' : s.methodNamed? ⟨y.cls, y.name, y.desc⟩ = some mk := hnamed
  simp [Cond.before, Cond.holds, Cond.value, h2, hf, hnamed', hk, hki]
theorem own_notFace {C : String} {y y' : MethodName} {s : State} {args : Array Value} (hc : y'.cls = y.cls) (hs : (Cond.selects C y' y').before args s = true) : NotFace s y := fun r0 h0 => by
  obtain ⟨c, r, m, -, -, hn, -, k, hk, hki⟩ := Cond.selects_spec hs
  have h1 := findClass_of_methodNamed hn
  have h2 := findClass_of_methodNamed h0
  rw [hc] at h1
  have e : m.cls = r0.cls := Option.some.inj (h1.symm.trans h2)
  rw [e] at hk
  exact ⟨k, hk, hki⟩
def own_one (a : Slot) : Prop := a = .unset ∨ ∃ w, a = .val w ∧ w.category = 1
theorem own_oneV {w : Value} (h : w.category = 1) : own_one (.val w) := Or.inr ⟨w, rfl, h⟩
section OwnPut
variable {p : Program} {l : Launch} {e : Env} {R : Room} {s : State} {m : MethodId} {args : Array Value} {below : List Frame} {meth : Method} {c : Code} {T : State} {locs : List Loc} {cells slots : Nat} {Z : State} {h h' : Heap} {a b : Addr} {xs ys : List Nat} {b0 v k : Nat}
theorem own_bput (X : Stand p l e R s m args below meth c T locs cells slots) (hx : p.tables.exec = Jvm.exec) (hZ : Z.Warmed39 s.vm) (eT : T.heap = h) (A : own_By Z h a (xs ++ b0 :: ys)) (hv : v < 128) (hk : k = xs.length) {pc : Nat} {Ls : Array Slot} {st : List Value} (hd : decode c.code pc = .ok (.bastore, 1)) :
    ∃ T' h' L w, Stand p l e R s m args below meth c T' (locs ++ L) cells slots ∧ L = [⟨a, k⟩] ∧ T'.heap = h' ∧ Wr h h' a k w ∧ own_By Z h' a (xs ++ v :: ys) ∧ ∀ t, Steps p.tables e below (T'.setTop (mkF m (pc + 1) Ls st)) t → Steps p.tables e below (T.setTop (mkF m pc Ls (.int (Int32.ofNat v) :: .int (Int32.ofNat k) :: .ref a :: st))) t := by
  have hl := A.len
  simp only [List.length_append, List.length_cons] at hl
  obtain ⟨T', h', X', e', W, A', st⟩ := own_bastore X hx hZ eT A.1 (j := Int32.ofNat k) (x := Int32.ofNat v) (i := k) (own_nn (by omega)) (own_nc (by omega)) (by rw [own_V_len, List.length_append, List.length_cons]; omega) (Ls := Ls) (st := st) hd
  refine ⟨T', h', _, _, X', rfl, e', W, ⟨A'.cast ?_, fun y hy => ?_⟩, st⟩
  · rw [own_narB hv, own_V_app, own_V_app, hk, ← own_V_len xs, List.set_append_right _ _ (Nat.le_refl _), Nat.sub_self]; rfl
  · simp only [List.mem_append, List.mem_cons] at hy
    rcases hy with hy | hy | hy
    · exact A.2 y (by simp [hy])
    · rw [hy]; exact hv
    · exact A.2 y (by simp [hy])
end OwnPut
theorem own_pred {n k : Nat} (h : n = k + 1) : Int32.ofNat n + (-1 : Int32) = Int32.ofNat k := by
  subst h
  rw [← own_add k 1, show (-1 : Int32) = -(1 : Int32) from by decide, ← Int32.sub_eq_add_neg]; exact Int32.add_sub_cancel _ _
theorem own_D1_at {i : Nat} (h : i < 100) : ((List.range 100).map fun i => 48 + i % 10)[i]? = some (48 + i % 10) := by simp [h]
theorem own_D2_at {i : Nat} (h : i < 100) : ((List.range 100).map fun i => 48 + i / 10)[i]? = some (48 + i / 10) := by simp [h]
theorem own_toN {x : Int32} {n : Nat} (h : x.toInt = (n : Int)) : x = Int32.ofNat n := by
  have h1 := x.toInt_lt
  apply Int32.toInt_inj.mp
  rw [h, Int32.toInt_ofNat_small (by omega)]
theorem own_negN {y : Int32} {m : Nat} (hm : m < 2147483648) (hy : y.toInt = -(m : Int)) : -y = Int32.ofNat m := by
  apply own_toN
  rw [Int32.toInt_neg, hy, Int.bmod_eq_of_le (by omega) (by omega)]; omega
theorem own_div100 {y : Int32} {m : Nat} (hm : m ≤ 2147483648) (hy : y.toInt = -(m : Int)) : (y / (100 : Int32)).toInt = -((m / 100 : Nat) : Int) := by
  rw [Int32.toInt_div, hy, show (100 : Int32).toInt = 100 from rfl, Int.neg_tdiv, show ((m : Int).tdiv 100) = ((m / 100 : Nat) : Int) from by rw [Int.tdiv_eq_ediv_of_nonneg (by omega)]; rfl, Int.bmod_eq_of_le (by omega) (by omega)]
theorem own_rem100 {y q : Int32} {m : Nat} (hm : m ≤ 2147483648) (hy : y.toInt = -(m : Int)) (hq : q.toInt = -((m / 100 : Nat) : Int)) : q * (100 : Int32) - y = Int32.ofNat (m % 100) := by
  apply own_toN
  rw [Int32.toInt_sub, Int32.toInt_mul, hq, hy, show (100 : Int32).toInt = 100 from rfl, Int.bmod_eq_of_le (n := -↑(m / 100) * 100) (by omega) (by omega), Int.bmod_eq_of_le (by omega) (by omega)]
  omega
theorem own_last1 {xs : List Nat} (h : xs.length = 1) : ∃ u, xs = [u] := by
  match xs, h with
  | [u], _ => exact ⟨u, rfl⟩
theorem own_last2 {xs : List Nat} (h : xs.length = 2) : ∃ u w, xs = [u, w] := by
  match xs, h with
  | [u, w], _ => exact ⟨u, w, rfl⟩
theorem own_last3 {xs : List Nat} (h : xs.length = 3) : ∃ z u w, xs = [z, u, w] := by
  match xs, h with
  | [z, u, w], _ => exact ⟨z, u, w, rfl⟩
theorem own_end2 {xs : List Nat} (h : 2 ≤ xs.length) : ∃ ys u w, xs = ys ++ [u, w] := by
  obtain ⟨u, w, e⟩ := own_last2 (xs := xs.drop (xs.length - 2)) (by rw [List.length_drop]; omega)
  exact ⟨xs.take (xs.length - 2), u, w, by rw [← e, List.take_append_drop]⟩
theorem own_abN {x : Int32} (h : x.toInt64 < (0 : Int64)) : -x.toInt64 = Int64.ofNat x.toInt.natAbs := by
  have h1 := x.toInt_lt; have h2 := x.le_toInt
  rw [Int64.lt_iff_toInt_lt, Int32.toInt_toInt64, show (0 : Int64).toInt = 0 from rfl] at h
  apply Int64.toInt_inj.mp
  rw [Int64.toInt_neg, Int32.toInt_toInt64, Int64.toInt_ofNat_of_lt (by omega), Int.bmod_eq_of_le (by omega) (by omega)]; omega
theorem own_abP {x : Int32} (h : ¬ x.toInt64 < (0 : Int64)) : x.toInt64 = Int64.ofNat x.toInt.natAbs := by
  have h1 := x.toInt_lt; have h2 := x.le_toInt
  rw [Int64.lt_iff_toInt_lt, Int32.toInt_toInt64, show (0 : Int64).toInt = 0 from rfl] at h
  apply Int64.toInt_inj.mp
  rw [Int32.toInt_toInt64, Int64.toInt_ofNat_of_lt (by omega)]; omega
theorem own_ltL {a b : Nat} (ha : a < 2 ^ 63) (hb : b < 2 ^ 63) : Int64.ofNat a < Int64.ofNat b ↔ a < b := by
  rw [Int64.lt_iff_toInt_lt, Int64.toInt_ofNat_of_lt ha, Int64.toInt_ofNat_of_lt hb]; omega
theorem own_divL {a b : Nat} (ha : a < 2 ^ 63) (hb : b < 2 ^ 63) : Int64.ofNat a / Int64.ofNat b = Int64.ofNat (a / b) := by
  have hd : a / b ≤ a := Nat.div_le_self ..
  have e : (a : Int).tdiv b = ((a / b : Nat) : Int) := by rw [Int.tdiv_eq_ediv_of_nonneg (by omega)]; rfl
  apply Int64.toInt_inj.mp
  rw [Int64.toInt_div, Int64.toInt_ofNat_of_lt ha, Int64.toInt_ofNat_of_lt hb, e]
  generalize a / b = q at hd
  rw [Int64.toInt_ofNat_of_lt (by omega), Int.bmod_eq_of_le (by omega) (by omega)]
theorem own_remL {a : Nat} (ha : a < 2 ^ 63) : Int64.ofNat a - Int64.ofNat a / (10 : Int64) * (10 : Int64) = Int64.ofNat (a % 10) := by
  rw [show (10 : Int64) = Int64.ofNat 10 from rfl, own_divL ha (by omega)]
  apply Int64.toInt_inj.mp
  rw [Int64.toInt_sub, Int64.toInt_mul, Int64.toInt_ofNat_of_lt ha, Int64.toInt_ofNat_of_lt (n := a / 10) (by omega), Int64.toInt_ofNat_of_lt (n := 10) (by omega), Int64.toInt_ofNat_of_lt (n := a % 10) (by omega), Int.bmod_eq_of_le (n := ((a / 10 : Nat) : Int) * ((10 : Nat) : Int)) (by omega) (by omega), Int.bmod_eq_of_le (by omega) (by omega)]; omega
theorem own_l2i {a : Nat} : (Int64.ofNat a).toInt32 = Int32.ofNat a := by
  exact Int64.toInt32_ofNat
theorem own_i2c {b : Nat} (h : b < 128) : (Int32.ofNat b).toUInt32.toUInt16.toUInt32.toInt32 = Int32.ofNat b := by
  have key : ∀ n : Fin 128, (Int32.ofNat n.val).toUInt32.toUInt16.toUInt32.toInt32 = Int32.ofNat n.val := by decide
  exact key ⟨b, h⟩
theorem own_nzL {k : Nat} (h : 0 < k) (h2 : k < 2 ^ 63) : ¬ Int64.ofNat k = 0 := by
  intro q
  have := congrArg Int64.toInt q
  rw [Int64.toInt_ofNat_of_lt h2, show (0 : Int64).toInt = 0 from rfl] at this; omega
theorem own_p10 {k : Nat} (h : k ≤ 9) : 10 ^ k < 2 ^ 63 := by
  have : (10 : Nat) ^ k ≤ 10 ^ 9 := Nat.pow_le_pow_right (by omega) h
  omega
theorem own_at1 {pre d suf : List Nat} {n j : Nat} (h : pre.length = n) : (pre ++ (d ++ suf))[n + d.length + j]? = suf[j]? := by
  subst h
  rw [List.getElem?_append_right (by omega), List.getElem?_append_right (by omega)]; congr 1; omega
theorem own_at0 {pre d suf : List Nat} {n j c : Nat} (h : pre.length = n) (hd : d[j]? = some c) : (pre ++ (d ++ suf))[n + j]? = some c := by
  subst h
  rw [List.getElem?_append_right (by omega), show pre.length + j - pre.length = j from by omega, List.getElem?_append_left (List.getElem?_eq_some_iff.mp hd).1, hd]
theorem own_at2 {pre d s1 mid s3 : List Nat} {k : Nat} (h1 : 1 ≤ k) (h : k ≤ s3.length) : (pre ++ (d ++ (s1 ++ mid ++ s3)))[(pre ++ (d ++ (s1 ++ mid ++ s3))).length - k]? = s3[s3.length - k]? := by
  simp only [List.length_append]
  rw [List.getElem?_append_right (by omega), List.getElem?_append_right (by omega), List.getElem?_append_right (by simp only [List.length_append]; omega)]; congr 1; simp only [List.length_append]; omega

variable {p : Program} {l : Launch} {e : Env} {R : Room} {s : State} {m : MethodId} {args : Array Value} {below : List Frame} {meth : Method} {c : Code} {T : State} {locs : List Loc} {cells slots : Nat} {Z : State} {a0 : Array Value} {own : String} {index kml pc : Nat} {Ls : Array Slot} {rest : List Value} {h0 : Heap} {n0 : Nat}
/-- a contract: at the arguments as' and the heap h0 the method returns, and Q holds -/
def own_MF (l : Launch) (y : MethodName) (bytes : ByteArray) (maxL : Nat) (ret : Option FieldType) (ws : List Jvm.Cond) (rm : Room) (as' : Array Value) (Z : State) (h0 : Heap) (Q : Option Value → Heap → List Loc → Prop) : Prop :=
  MetFree l y (head1 (Jvm.Cond.code y bytes maxL ret :: ws) rm) (fun a U => a = as' ∧ Z.Warmed39 U.vm ∧ U.heap = h0) (fun _ _ _ _ _ => True) (fun _ U o U' => ∃ v L, o = .returned v ∧ Q v U'.heap L ∧ FrameEnd U o U' L rm.cells rm.slots)
def own_rm (rm : Room) (ml : Nat) (R : Room) (rest : List Value) (cells slots : Nat) : Bool := Nat.ble (rm.frames + 1) R.frames && Nat.ble ((rest.map fun v => v.category).sum + (ml + 11) + rm.locals) R.locals && (Nat.ble (cells + rm.cells) R.cells && Nat.ble (slots + rm.slots) R.slots)
theorem own_rm_e {rm : Room} {ml : Nat} (h : own_rm rm ml R rest cells slots = true) : (rm.frames + 1 ≤ R.frames ∧ (rest.map fun v => v.category).sum + (ml + 11) + rm.locals ≤ R.locals) ∧ cells + rm.cells ≤ R.cells ∧ slots + rm.slots ≤ R.slots := by
  simpa only [own_rm, Bool.and_eq_true, Nat.ble_eq] using h
section OwnCalls
variable {y z : MethodName} {bytes : ByteArray} {maxL : Nat} {ret : Option FieldType} {rm : Room} {argsL : List Value} {Q : Option Value → Heap → List Loc → Prop} {ps : List FieldType} {r : Option FieldType} {a : Addr} {C K : String}
theorem own_cS (hM : own_MF l y bytes maxL ret [] rm argsL.toArray Z h0 Q) (pd : parseMethodDescriptor y.desc = some ⟨ps, r⟩) (hl : argsL.length = ps.length) (wc : (Cond.code y bytes maxL ret).before a0 Z = true) (wz : (Cond.initialized y.cls).before a0 Z = true) (w1 : (Cond.static y).before a0 Z = true) (hy : y.cls ≠ "java/lang/invoke/MethodHandle" ∧ y.cls ≠ "java/lang/invoke/VarHandle")
    (hZ : Z.Warmed39 s.vm) (hx : p.tables.exec = Jvm.exec) (hown : s.vm.findClass own = some m.cls) (X : Stand p l e R s m args below meth c T locs cells slots) (lk : (Cond.methodLink own index y).before a0 Z = true) (eT : T.heap = h0) (hml : c.maxLocals = kml) (hsz : Ls.size = kml) (hd : decode c.code pc = .ok (.invokestatic index, 3)) (hr : own_rm rm maxL R rest cells slots = true) :
    ∃ v T' L, Stand p l e R s m args below meth c T' (locs ++ L) (cells + rm.cells) (slots + rm.slots) ∧ Q v T'.heap L ∧ ∀ t, Steps p.tables e below (T'.setTop (mkF m (pc + 3) Ls (v.toList ++ rest))) t → Steps p.tables e below (T.setTop (mkF m pc Ls (argsL.reverse ++ rest))) t := by
  obtain ⟨⟨r1, r2⟩, r3, r4⟩ := own_rm_e hr
  obtain ⟨_, _, ⟨T', L', k', n'⟩, -, X', ⟨Lc, hQ, hl', hy', hz'⟩, st'⟩ := Jvm.LawKit.callS X hx (y := y) hown (mvT hZ lk) (mvT hZ w1) (mvT hZ wz) (mvT hZ wc) hy (backOf (W := (rest.map fun v => v.category).sum) hM hZ wc wz r1 r2) (g := mkF m pc Ls (argsL.reverse ++ rest)) rfl (hsz.trans hml.symm) (argsL := argsL) (rest := rest) (lenOf pd hl) rfl (by show 2 * 0 + _ ≤ _; exact Nat.le_of_eq (Nat.zero_add _)) hd (fun _ _ => ⟨rfl, eT, r3, r4⟩)
  dsimp only [Pt.U, Pt.locs, Pt.cells, Pt.slots] at X' hl' hy' hz' st' hQ
  subst hy' hz' hl'
  exact ⟨_, T', _, X', hQ, fun t k => st' _ k⟩
theorem own_cI (hM : own_MF l y bytes maxL none [] rm (.ref a :: argsL).toArray Z h0 Q) (pd : parseMethodDescriptor y.desc = some ⟨ps, r⟩) (hl : argsL.length = ps.length) (wc : (Cond.code y bytes maxL none).before a0 Z = true) (wz : (Cond.initialized y.cls).before a0 Z = true) (w1 : (Cond.instanceMethod y).before a0 Z = true) (hn : y.name = "<init>") (hy : y.cls ≠ "java/lang/invoke/MethodHandle" ∧ y.cls ≠ "java/lang/invoke/VarHandle")
    (hZ : Z.Warmed39 s.vm) (hx : p.tables.exec = Jvm.exec) (hown : s.vm.findClass own = some m.cls) (X : Stand p l e R s m args below meth c T locs cells slots) (lk : (Cond.methodLink own index y).before a0 Z = true) (eT : T.heap = h0) (hml : c.maxLocals = kml) (hsz : Ls.size = kml) (hd : decode c.code pc = .ok (.invokespecial index, 3)) (hr : own_rm rm maxL R rest cells slots = true) :
    ∃ v T' L, Stand p l e R s m args below meth c T' (locs ++ L) (cells + rm.cells) (slots + rm.slots) ∧ Q v T'.heap L ∧ ∀ t, Steps p.tables e below (T'.setTop (mkF m (pc + 3) Ls (v.toList ++ rest))) t → Steps p.tables e below (T.setTop (mkF m pc Ls (argsL.reverse ++ .ref a :: rest))) t := by
  obtain ⟨⟨r1, r2⟩, r3, r4⟩ := own_rm_e hr
  obtain ⟨_, _, ⟨T', L', k', n'⟩, -, X', ⟨Lc, hQ, hl', hy', hz'⟩, st'⟩ := X.specialBack hx (y := y) hn hown (mvT hZ lk) (mvT hZ w1) (mvT hZ wc) hy (backOf (W := (rest.map fun v => v.category).sum) hM hZ wc wz r1 r2) (g := mkF m pc Ls (argsL.reverse ++ .ref a :: rest)) rfl (hsz.trans hml.symm) (Steps.refl _) (a := a) (argsL := argsL) (rest := rest) (lenOf pd hl) rfl (by show 2 * 0 + _ ≤ _; exact Nat.le_of_eq (Nat.zero_add _)) hd (fun _ _ => ⟨rfl, eT, r3, r4⟩)
  dsimp only [Pt.U, Pt.locs, Pt.cells, Pt.slots] at X' hl' hy' hz' st' hQ
  subst hy' hz' hl'
  exact ⟨_, T', _, X', hQ, fun t k => st'.trans k⟩
theorem own_cV (hM : own_MF l z bytes maxL ret [] rm (.ref a :: argsL).toArray Z h0 Q) (pd : parseMethodDescriptor y.desc = some ⟨ps, r⟩) (hl : argsL.length = ps.length) (wc : (Cond.code z bytes maxL ret).before a0 Z = true) (wz : (Cond.initialized z.cls).before a0 Z = true) (w1 : (Cond.instanceMethod z).before a0 Z = true) (w2 : (Cond.declares y).before a0 Z = true) {y' : MethodName} (w3 : (Cond.selects K y' y').before a0 Z = true) (hc : y'.cls = y.cls) (w4 : (Cond.selects C y z).before a0 Z = true) (hy : y.cls ≠ "java/lang/invoke/MethodHandle" ∧ y.cls ≠ "java/lang/invoke/VarHandle")
    (hZ : Z.Warmed39 s.vm) (hx : p.tables.exec = Jvm.exec) (hown : s.vm.findClass own = some m.cls) (X : Stand p l e R s m args below meth c T locs cells slots) (lk : (Cond.methodLink own index y).before a0 Z = true) (eT : T.heap = h0) (E_ : Exa Z h0 a C) (hml : c.maxLocals = kml) (hsz : Ls.size = kml) (hd : decode c.code pc = .ok (.invokevirtual index, 3)) (hr : own_rm rm maxL R rest cells slots = true) :
    ∃ v T' L, Stand p l e R s m args below meth c T' (locs ++ L) (cells + rm.cells) (slots + rm.slots) ∧ Q v T'.heap L ∧ ∀ t, Steps p.tables e below (T'.setTop (mkF m (pc + 3) Ls (v.toList ++ rest))) t → Steps p.tables e below (T.setTop (mkF m pc Ls (argsL.reverse ++ .ref a :: rest))) t := by
  obtain ⟨⟨r1, r2⟩, r3, r4⟩ := own_rm_e hr
  obtain ⟨cq, kq, qa, qb, qc⟩ := isOf hZ eT E_
  obtain ⟨_, _, ⟨T', L', k', n'⟩, -, X', ⟨Lc, hQ, hl', hy', hz'⟩, st'⟩ := X.virtualBack hx (y := y) (z := z) hown (mvT hZ lk) (mvT hZ w2) (own_notFace (args := #[]) hc (mvT hZ w3)) (mvT hZ w4) (mvT hZ w1) hy (backOf (W := (rest.map fun v => v.category).sum) hM hZ wc wz r1 r2) qa qc (g := mkF m pc Ls (argsL.reverse ++ .ref a :: rest)) rfl (hsz.trans hml.symm) (Steps.refl _) (argsL := argsL) (rest := rest) (lenOf pd hl) rfl (by show 2 * 0 + _ ≤ _; exact Nat.le_of_eq (Nat.zero_add _)) hd (fun _ _ => ⟨rfl, eT, r3, r4⟩)
  dsimp only [Pt.U, Pt.locs, Pt.cells, Pt.slots] at X' hl' hy' hz' st' hQ
  subst hy' hz' hl'
  exact ⟨_, T', _, X', hQ, fun t k => st'.trans k⟩
theorem own_cP (hM : own_MF l y bytes maxL ret [] rm (.ref a :: argsL).toArray Z h0 Q) (pd : parseMethodDescriptor y.desc = some ⟨ps, r⟩) (hl : argsL.length = ps.length) (wc : (Cond.code y bytes maxL ret).before a0 Z = true) (wz : (Cond.initialized y.cls).before a0 Z = true) (w1 : (Cond.instanceMethod y).before a0 Z = true) (w2 : (Cond.privateMethod y).before a0 Z = true) (w3 : (Cond.selects C y y).before a0 Z = true) (hy : y.cls ≠ "java/lang/invoke/MethodHandle" ∧ y.cls ≠ "java/lang/invoke/VarHandle")
    (hZ : Z.Warmed39 s.vm) (hx : p.tables.exec = Jvm.exec) (hown : s.vm.findClass own = some m.cls) (X : Stand p l e R s m args below meth c T locs cells slots) (lk : (Cond.methodLink own index y).before a0 Z = true) (eT : T.heap = h0) (E_ : Exa Z h0 a K) (hml : c.maxLocals = kml) (hsz : Ls.size = kml) (hd : decode c.code pc = .ok (.invokevirtual index, 3)) (hr : own_rm rm maxL R rest cells slots = true) :
    ∃ v T' L, Stand p l e R s m args below meth c T' (locs ++ L) (cells + rm.cells) (slots + rm.slots) ∧ Q v T'.heap L ∧ ∀ t, Steps p.tables e below (T'.setTop (mkF m (pc + 3) Ls (v.toList ++ rest))) t → Steps p.tables e below (T.setTop (mkF m pc Ls (argsL.reverse ++ .ref a :: rest))) t := by
  obtain ⟨⟨r1, r2⟩, r3, r4⟩ := own_rm_e hr
  obtain ⟨cq, q1, q2⟩ := E_.cell
  obtain ⟨_, _, ⟨T', L', k', n'⟩, -, X', ⟨Lc, hQ, hl', hy', hz'⟩, st'⟩ := X.privateBack hx (y := y) hown (mvT hZ lk) (mvT hZ w1) (mvT hZ (own_selUp hy w3 w2 w1)) (Cond.privateMethod_at (mvP hZ w2 (args := #[]))) (mvT hZ wc) hy (backOf (W := (rest.map fun v => v.category).sum) hM hZ wc wz r1 r2) (g := mkF m pc Ls (argsL.reverse ++ .ref a :: rest)) rfl (hsz.trans hml.symm) (Steps.refl _) (a := a) (by rw [eT]; exact q1) q2 (argsL := argsL) (rest := rest) (lenOf pd hl) rfl (by show 2 * 0 + _ ≤ _; exact Nat.le_of_eq (Nat.zero_add _)) hd (fun _ _ => ⟨rfl, eT, r3, r4⟩)
  dsimp only [Pt.U, Pt.locs, Pt.cells, Pt.slots] at X' hl' hy' hz' st' hQ
  subst hy' hz' hl'
  exact ⟨_, T', _, X', hQ, fun t k => st'.trans k⟩
theorem own_cU (hM : own_MF l y bytes maxL ret [] rm (.ref a :: argsL).toArray Z h0 Q) (pd : parseMethodDescriptor y.desc = some ⟨ps, r⟩) (hl : argsL.length = ps.length) (wc : (Cond.code y bytes maxL ret).before a0 Z = true) (wz : (Cond.initialized y.cls).before a0 Z = true) (w1 : (Cond.instanceMethod y).before a0 Z = true) {y' : MethodName} (w3 : (Cond.selects C y' y').before a0 Z = true) (hc : y'.cls = y.cls) (hn : y.name ≠ "<init>") (hy : y.cls ≠ "java/lang/invoke/MethodHandle" ∧ y.cls ≠ "java/lang/invoke/VarHandle") (sup : (Cond.superclass own y.cls).before a0 Z = true)
    (hZ : Z.Warmed39 s.vm) (hx : p.tables.exec = Jvm.exec) (hown : s.vm.findClass own = some m.cls) (X : Stand p l e R s m args below meth c T locs cells slots) (lk : (Cond.methodLink own index y).before a0 Z = true) (eT : T.heap = h0) (E_ : Exa Z h0 a K) (hml : c.maxLocals = kml) (hsz : Ls.size = kml) (hd : decode c.code pc = .ok (.invokespecial index, 3)) (hr : own_rm rm maxL R rest cells slots = true) :
    ∃ v T' L, Stand p l e R s m args below meth c T' (locs ++ L) (cells + rm.cells) (slots + rm.slots) ∧ Q v T'.heap L ∧ ∀ t, Steps p.tables e below (T'.setTop (mkF m (pc + 3) Ls (v.toList ++ rest))) t → Steps p.tables e below (T.setTop (mkF m pc Ls (argsL.reverse ++ .ref a :: rest))) t := by
  obtain ⟨⟨r1, r2⟩, r3, r4⟩ := own_rm_e hr
  obtain ⟨_, _, ⟨T', L', k', n'⟩, -, X', ⟨Lc, hQ, hl', hy', hz'⟩, st'⟩ := superBack X hx hZ (y := y) hown lk (own_same hc hy w3 w1) w1 sup hn (backOf (W := (rest.map fun v => v.category).sum) hM hZ wc wz r1 r2) eT (Ins.self E_) (g := mkF m pc Ls (argsL.reverse ++ .ref a :: rest)) rfl (hsz.trans hml.symm) wc (argsL := argsL) (rest := rest) (lenOf pd hl) rfl (by show 2 * 0 + _ ≤ _; exact Nat.le_of_eq (Nat.zero_add _)) hd (fun _ _ => ⟨rfl, eT, r3, r4⟩)
  dsimp only [Pt.U, Pt.locs, Pt.cells, Pt.slots] at X' hl' hy' hz' st' hQ
  subst hy' hz' hl'
  exact ⟨_, T', _, X', hQ, fun t k => st'.trans k⟩
end OwnCalls

def b_15 := jdk_42_method_152_code
theorem d15_0 : decode b_15 0 = .ok (.getstatic 38, 3) := by decide +kernel
theorem d15_3 : decode b_15 3 = .ok (.ifCond .eq 10, 3) := by decide +kernel
theorem d15_6 : decode b_15 6 = .ok (.aload_n 0, 1) := by decide +kernel
theorem d15_7 : decode b_15 7 = .ok (.getfield 15, 3) := by decide +kernel
theorem d15_10 : decode b_15 10 = .ok (.goto 4, 3) := by decide +kernel
theorem d15_14 : decode b_15 14 = .ok (.ireturn, 1) := by decide +kernel
theorem pn_0 : plainName "java/lang/String" = true := by first | (simp [plainName, overriddenIn]; done) | decide +kernel
theorem ef_rmcod (m : MethodId) (st : Addr)  : entryFrame m #[(.ref st)] 1 = mkF m 0 #[.val (.ref st)] [] := by first | (simp [entryFrame, mkF, argsToLocals, Value.category]; done) | rfl
def Qcod (Z : State) (st : Addr) (cs : Int32) (fm : Value) (d1 d2 : Addr) (h0 : Heap) (n0 : Nat) (v : Option Value) (h : Heap) (L : List Loc) : Prop := v = some (.int (0 : Int32)) ∧ Fr n0 L ∧ h = h0
theorem rmcod (l : Launch) (Z : State) (a0 : Array Value) (hw : ∀ d ∈ tables_1, d.before a0 Z = true) (ws : List Jvm.Cond) (st : Addr) (cs : Int32) (fm : Value) (d1 d2 : Addr) (h0 : Heap) (n0 : Nat) (Z0 : n0 ≤ h0.size) (Wd : own_Wd Z cs fm d1 d2) (OZ : Old Z n0 h0) (C0 : Fld Z h0 st "java/lang/String" "coder" "B" (.int 0)) :
    own_MF l (⟨"java/lang/String", "coder", "()B"⟩ : MethodName) jdk_42_method_152_code 1 (some .byte) ws ({ frames := 0, cells := 0, slots := 0, locals := 0 } : Room) #[(.ref st)] Z h0 (Qcod Z st cs fm d1 d2 h0 n0) := by
  refine MetFree.of_bodySF (plainFor_of_name pn_0) hisR ?_
  intro p e s m args below meth c s₁ Bd hml0 hP hK
  obtain ⟨rfl, hZ, hh⟩ := hP
  have hx := Bd.exec
  have hby := Bd.bytes
  have hlk : meth.locks = false := BodyLoose.notSynchronized Bd
  have hret := Bd.returns
  have hml : c.maxLocals = 1 := hml0
  have hown : s.vm.findClass "java/lang/String" = some m.cls := findClass_of_methodNamed Bd.named
  have hnm := (name_of_methodNamed Bd.named Bd.method).1
  have X0 : Stand p l e ({ frames := 0, cells := 0, slots := 0, locals := 0 } : Room) s m #[(.ref st)] below meth c s₁ [] 0 0 := Stand.of_body Bd
  have e0 : s₁.heap = h0 := by rw [← hh, Bd.state]; rfl
  have N0 := Fr.nil n0
  show oE p e below s 0 0 (Qcod Z st cs fm d1 d2 h0 n0) (s₁.setTop (entryFrame m #[(.ref st)] 1))
  refine oS (fun t k => castTop (ef_rmcod m st ) k) ?_
  show oE p e below s _ _ _ (s₁.setTop (mkF m 0 #[.val (.ref st)] []))
  obtain ⟨T1, X1, e1, st1⟩ := getS2 X0 hx hZ hown (host := "") (Or.inl (wd_ hw 114 rfl)) Via.refl e0 (Sta.ext OZ.2 Wd.2.2.1) (g := (mkF m 0 #[.val (.ref st)] [])) rfl (hb hby d15_0)
  refine oS (fun _ k_ => st1 _ k_) ?_
  refine oS (fun _ k_ => XS.ifNo X1.here hx rfl (hb hby d15_3) rfl (XT.i0_eq_f (Wd.1 : ¬ (cs = 0))) (XS.aloadN X1.here hx rfl (hb hby d15_6) rfl rfl k_)) ?_
  obtain ⟨T2, X2, e2, st2⟩ := getF X1 hx hZ hown (host := "") (Or.inl (wd_ hw 115 rfl)) Via.refl e1 C0 (g := (mkF m 7 #[.val (.ref st)] [(.ref st)])) rfl rfl (hb hby d15_7)
  refine oS (fun _ k_ => st2 _ k_) ?_
  refine oS (fun _ k_ => XS.goto X2.here hx rfl (pc0 := 10) (pc' := 14) rfl (hb hby d15_10) (by decide) (by decide) k_) ?_
  exact own_retN X2 hx (t := .byte) hret (by simp) hlk (hb hby d15_14) (by decide) (by decide) rfl ⟨rfl, N0, e2⟩
def b_41 := jdk_42_method_154_code
theorem d41_0 : decode b_41 0 = .ok (.getstatic 38, 3) := by decide +kernel
theorem d41_3 : decode b_41 3 = .ok (.ifCond .eq 14, 3) := by decide +kernel
theorem d41_6 : decode b_41 6 = .ok (.aload_n 0, 1) := by decide +kernel
theorem d41_7 : decode b_41 7 = .ok (.getfield 15, 3) := by decide +kernel
theorem d41_10 : decode b_41 10 = .ok (.ifCond .ne 7, 3) := by decide +kernel
theorem d41_13 : decode b_41 13 = .ok (.iconst 1, 1) := by decide +kernel
theorem d41_14 : decode b_41 14 = .ok (.goto 4, 3) := by decide +kernel
theorem d41_18 : decode b_41 18 = .ok (.ireturn, 1) := by decide +kernel
theorem pd_0 : parseMethodDescriptor "()B" = some ⟨[], some .byte⟩ := by decide +kernel
theorem cl_rmcod (X : Stand p l e R s m args below meth c T locs cells slots) (hw : ∀ d ∈ tables_1, d.before a0 Z = true) (hZ : Z.Warmed39 s.vm) (hx : p.tables.exec = Jvm.exec) (hown : s.vm.findClass own = some m.cls) (lk : (Cond.methodLink own index (⟨"java/lang/String", "coder", "()B"⟩ : MethodName)).before a0 Z = true) (st : Addr) (cs : Int32) (fm : Value) (d1 d2 : Addr) (Z0 : n0 ≤ h0.size) (Wd : own_Wd Z cs fm d1 d2) (OZ : Old Z n0 h0) (C0 : Fld Z h0 st "java/lang/String" "coder" "B" (.int 0)) (eT : T.heap = h0) (E_ : Exa Z h0 st "java/lang/String") (N : Fr n0 locs) (hml : c.maxLocals = kml) (hsz : Ls.size = kml) (hd : decode c.code pc = .ok (.invokevirtual index, 3)) (hr : own_rm ({ frames := 0, cells := 0, slots := 0, locals := 0 } : Room) 1 R rest cells slots = true) :
    ∃ T' L', Stand p l e R s m args below meth c T' L' (cells + 0) (slots + 0) ∧ Fr n0 L' ∧ T'.heap = h0 ∧ ∀ t, Steps p.tables e below (T'.setTop (mkF m (pc + 3) Ls ((.int (0 : Int32)) :: rest))) t → Steps p.tables e below (T.setTop (mkF m pc Ls ((.ref st) :: rest))) t := by
  obtain ⟨v, T', L, X', hQ, sq⟩ := own_cV (argsL := []) (rest := rest) (rmcod l Z a0 hw [] st cs fm d1 d2 h0 n0 Z0 Wd OZ C0) pd_0 rfl (wd_ hw 113 rfl) (wd_ hw 28 rfl) (wd_ hw 111 rfl) (wd_ hw 110 rfl) (wd_ hw 112 rfl) rfl (wd_ hw 112 rfl) (by decide) hZ hx hown X lk eT E_ hml hsz hd hr
  obtain ⟨rfl, Nq, eq_⟩ := hQ
  exact ⟨T', _, X', Fr.app N Nq, eq_, sq⟩
theorem ef_rmlat (m : MethodId) (st : Addr)  : entryFrame m #[(.ref st)] 1 = mkF m 0 #[.val (.ref st)] [] := by first | (simp [entryFrame, mkF, argsToLocals, Value.category]; done) | rfl
def Qlat (Z : State) (st : Addr) (cs : Int32) (fm : Value) (d1 d2 : Addr) (h0 : Heap) (n0 : Nat) (v : Option Value) (h : Heap) (L : List Loc) : Prop := v = some (.int (1 : Int32)) ∧ Fr n0 L ∧ h = h0
theorem rmlat (l : Launch) (Z : State) (a0 : Array Value) (hw : ∀ d ∈ tables_1, d.before a0 Z = true) (ws : List Jvm.Cond) (st : Addr) (cs : Int32) (fm : Value) (d1 d2 : Addr) (h0 : Heap) (n0 : Nat) (Z0 : n0 ≤ h0.size) (Wd : own_Wd Z cs fm d1 d2) (OZ : Old Z n0 h0) (C0 : Fld Z h0 st "java/lang/String" "coder" "B" (.int 0)) :
    own_MF l (⟨"java/lang/String", "isLatin1", "()Z"⟩ : MethodName) jdk_42_method_154_code 1 (some .boolean) ws ({ frames := 0, cells := 0, slots := 0, locals := 0 } : Room) #[(.ref st)] Z h0 (Qlat Z st cs fm d1 d2 h0 n0) := by
  refine MetFree.of_bodySF (plainFor_of_name pn_0) hisR ?_
  intro p e s m args below meth c s₁ Bd hml0 hP hK
  obtain ⟨rfl, hZ, hh⟩ := hP
  have hx := Bd.exec
  have hby := Bd.bytes
  have hlk : meth.locks = false := BodyLoose.notSynchronized Bd
  have hret := Bd.returns
  have hml : c.maxLocals = 1 := hml0
  have hown : s.vm.findClass "java/lang/String" = some m.cls := findClass_of_methodNamed Bd.named
  have hnm := (name_of_methodNamed Bd.named Bd.method).1
  have X0 : Stand p l e ({ frames := 0, cells := 0, slots := 0, locals := 0 } : Room) s m #[(.ref st)] below meth c s₁ [] 0 0 := Stand.of_body Bd
  have e0 : s₁.heap = h0 := by rw [← hh, Bd.state]; rfl
  have N0 := Fr.nil n0
  show oE p e below s 0 0 (Qlat Z st cs fm d1 d2 h0 n0) (s₁.setTop (entryFrame m #[(.ref st)] 1))
  refine oS (fun t k => castTop (ef_rmlat m st ) k) ?_
  show oE p e below s _ _ _ (s₁.setTop (mkF m 0 #[.val (.ref st)] []))
  obtain ⟨T3, X3, e3, st3⟩ := getS2 X0 hx hZ hown (host := "") (Or.inl (wd_ hw 114 rfl)) Via.refl e0 (Sta.ext OZ.2 Wd.2.2.1) (g := (mkF m 0 #[.val (.ref st)] [])) rfl (hb hby d41_0)
  refine oS (fun _ k_ => st3 _ k_) ?_
  refine oS (fun _ k_ => XS.ifNo X3.here hx rfl (hb hby d41_3) rfl (XT.i0_eq_f (Wd.1 : ¬ (cs = 0))) (XS.aloadN X3.here hx rfl (hb hby d41_6) rfl rfl k_)) ?_
  obtain ⟨T4, X4, e4, st4⟩ := getF X3 hx hZ hown (host := "") (Or.inl (wd_ hw 115 rfl)) Via.refl e3 C0 (g := (mkF m 7 #[.val (.ref st)] [(.ref st)])) rfl rfl (hb hby d41_7)
  refine oS (fun _ k_ => st4 _ k_) ?_
  refine oS (fun _ k_ => XS.ifNo X4.here hx rfl (hb hby d41_10) rfl (XT.i0_ne_f (by decide : (0 : Int32) = 0)) (XS.iconst X4.here hx rfl (hb hby d41_13) (XS.goto X4.here hx rfl (pc0 := 14) (pc' := 18) rfl (hb hby d41_14) (by decide) (by decide) k_))) ?_
  exact own_retN X4 hx (t := .boolean) hret (by simp) hlk (hb hby d41_18) (by decide) (by decide) rfl ⟨rfl, N0, e4⟩
def b_14 := jdk_42_method_54_code
theorem d14_0 : decode b_14 0 = .ok (.aload_n 0, 1) := by decide +kernel
theorem d14_1 : decode b_14 1 = .ok (.getfield 9, 3) := by decide +kernel
theorem d14_4 : decode b_14 4 = .ok (.arraylength, 1) := by decide +kernel
theorem d14_5 : decode b_14 5 = .ok (.aload_n 0, 1) := by decide +kernel
theorem d14_6 : decode b_14 6 = .ok (.invokevirtual 335, 3) := by decide +kernel
theorem d14_9 : decode b_14 9 = .ok (.ishr, 1) := by decide +kernel
theorem d14_10 : decode b_14 10 = .ok (.ireturn, 1) := by decide +kernel
theorem pd_1 : parseMethodDescriptor "()Z" = some ⟨[], some .boolean⟩ := by decide +kernel
theorem cl_rmlat (X : Stand p l e R s m args below meth c T locs cells slots) (hw : ∀ d ∈ tables_1, d.before a0 Z = true) (hZ : Z.Warmed39 s.vm) (hx : p.tables.exec = Jvm.exec) (hown : s.vm.findClass own = some m.cls) (lk : (Cond.methodLink own index (⟨"java/lang/String", "isLatin1", "()Z"⟩ : MethodName)).before a0 Z = true) (st : Addr) (cs : Int32) (fm : Value) (d1 d2 : Addr) (Z0 : n0 ≤ h0.size) (Wd : own_Wd Z cs fm d1 d2) (OZ : Old Z n0 h0) (C0 : Fld Z h0 st "java/lang/String" "coder" "B" (.int 0)) (eT : T.heap = h0) (E_ : Exa Z h0 st "java/lang/String") (N : Fr n0 locs) (hml : c.maxLocals = kml) (hsz : Ls.size = kml) (hd : decode c.code pc = .ok (.invokevirtual index, 3)) (hr : own_rm ({ frames := 0, cells := 0, slots := 0, locals := 0 } : Room) 1 R rest cells slots = true) :
    ∃ T' L', Stand p l e R s m args below meth c T' L' (cells + 0) (slots + 0) ∧ Fr n0 L' ∧ T'.heap = h0 ∧ ∀ t, Steps p.tables e below (T'.setTop (mkF m (pc + 3) Ls ((.int (1 : Int32)) :: rest))) t → Steps p.tables e below (T.setTop (mkF m pc Ls ((.ref st) :: rest))) t := by
  obtain ⟨v, T', L, X', hQ, sq⟩ := own_cV (argsL := []) (rest := rest) (rmlat l Z a0 hw [] st cs fm d1 d2 h0 n0 Z0 Wd OZ C0) pd_1 rfl (wd_ hw 236 rfl) (wd_ hw 28 rfl) (wd_ hw 234 rfl) (wd_ hw 233 rfl) (wd_ hw 235 rfl) rfl (wd_ hw 235 rfl) (by decide) hZ hx hown X lk eT E_ hml hsz hd hr
  obtain ⟨rfl, Nq, eq_⟩ := hQ
  exact ⟨T', _, X', Fr.app N Nq, eq_, sq⟩
theorem ef_rmlen (m : MethodId) (st : Addr)  : entryFrame m #[(.ref st)] 1 = mkF m 0 #[.val (.ref st)] [] := by first | (simp [entryFrame, mkF, argsToLocals, Value.category]; done) | rfl
def Qlen (Z : State) (st : Addr) (cs : Int32) (fm : Value) (d1 d2 : Addr) (sa : Addr) (bs : List Nat) (h0 : Heap) (n0 : Nat) (v : Option Value) (h : Heap) (L : List Loc) : Prop := v = some (.int (Int32.ofNat bs.length)) ∧ Fr n0 L ∧ h = h0
theorem rmlen (l : Launch) (Z : State) (a0 : Array Value) (hw : ∀ d ∈ tables_1, d.before a0 Z = true) (ws : List Jvm.Cond) (st : Addr) (cs : Int32) (fm : Value) (d1 d2 : Addr) (sa : Addr) (bs : List Nat) (h0 : Heap) (n0 : Nat) (Z0 : n0 ≤ h0.size) (Wd : own_Wd Z cs fm d1 d2) (OZ : Old Z n0 h0) (E0 : Exa Z h0 st "java/lang/String") (V0 : Fld Z h0 st "java/lang/String" "value" "[B" (.ref sa)) (C0 : Fld Z h0 st "java/lang/String" "coder" "B" (.int 0)) (B0 : own_By Z h0 sa bs) :
    own_MF l (⟨"java/lang/String", "length", "()I"⟩ : MethodName) jdk_42_method_54_code 1 (some .int) ws ({ frames := 1, cells := 0, slots := 0, locals := 13 } : Room) #[(.ref st)] Z h0 (Qlen Z st cs fm d1 d2 sa bs h0 n0) := by
  refine MetFree.of_bodySF (plainFor_of_name pn_0) hisR ?_
  intro p e s m args below meth c s₁ Bd hml0 hP hK
  obtain ⟨rfl, hZ, hh⟩ := hP
  have hx := Bd.exec
  have hby := Bd.bytes
  have hlk : meth.locks = false := BodyLoose.notSynchronized Bd
  have hret := Bd.returns
  have hml : c.maxLocals = 1 := hml0
  have hown : s.vm.findClass "java/lang/String" = some m.cls := findClass_of_methodNamed Bd.named
  have hnm := (name_of_methodNamed Bd.named Bd.method).1
  have X0 : Stand p l e ({ frames := 1, cells := 0, slots := 0, locals := 13 } : Room) s m #[(.ref st)] below meth c s₁ [] 0 0 := Stand.of_body Bd
  have e0 : s₁.heap = h0 := by rw [← hh, Bd.state]; rfl
  have N0 := Fr.nil n0
  show oE p e below s 0 0 (Qlen Z st cs fm d1 d2 sa bs h0 n0) (s₁.setTop (entryFrame m #[(.ref st)] 1))
  refine oS (fun t k => castTop (ef_rmlen m st ) k) ?_
  show oE p e below s _ _ _ (s₁.setTop (mkF m 0 #[.val (.ref st)] []))
  refine oS (fun _ k_ => XS.aloadN X0.here hx rfl (hb hby d14_0) rfl rfl k_) ?_
  obtain ⟨T5, X5, e5, st5⟩ := getF X0 hx hZ hown (host := "") (Or.inl (wd_ hw 108 rfl)) Via.refl e0 V0 (g := (mkF m 1 #[.val (.ref st)] [(.ref st)])) rfl rfl (hb hby d14_1)
  refine oS (fun _ k_ => st5 _ k_) ?_
  refine oS (fun _ k_ => own_alen X5 hx hZ e5 (B0).1 (n := (bs).length) (z := (Int32.ofNat (bs).length)) (own_V_len _) rfl (hb hby d14_4) _ (XS.aloadN X5.here hx rfl (hb hby d14_5) rfl rfl k_)) ?_
  obtain ⟨T6, L6, X6, N6, e6, st6⟩ := cl_rmcod X5 hw hZ hx hown (wd_ hw 109 rfl) st cs fm d1 d2 Z0 Wd OZ C0 e5 E0 N0 hml rfl (hb hby d14_6) (Ls := #[.val (.ref st)]) (rest := [(.int (Int32.ofNat (bs).length))]) rfl
  refine oS (fun _ k_ => st6 _ k_) ?_
  refine oS (fun _ k_ => XS.ishr X6.here hx rfl (hb hby d14_9) rfl k_) ?_
  show oE p e below s _ _ _ (T6.setTop (mkF m 10 #[.val (.ref st)] [(.int ((Int32.ofNat (bs).length) >>> ((0 : Int32) &&& 31)))]))
  rw [own_shr0]
  exact own_retI X6 hx hret hlk (hb hby d14_10) (by decide) (by decide) ⟨rfl, N6, e6⟩
def b_44 := jdk_41_method_11_code
theorem d44_0 : decode b_44 0 = .ok (.iload_n 0, 1) := by decide +kernel
theorem d44_1 : decode b_44 1 = .ok (.ifCond .lt 8, 3) := by decide +kernel
theorem d44_4 : decode b_44 4 = .ok (.iload_n 0, 1) := by decide +kernel
theorem d44_5 : decode b_44 5 = .ok (.iload_n 1, 1) := by decide +kernel
theorem d44_6 : decode b_44 6 = .ok (.if_icmp .lt 10, 3) := by decide +kernel
theorem d44_16 : decode b_44 16 = .ok (.iload_n 0, 1) := by decide +kernel
theorem d44_17 : decode b_44 17 = .ok (.ireturn, 1) := by decide +kernel
theorem pn_1 : plainName "jdk/internal/util/Preconditions" = true := by first | (simp [plainName, overriddenIn]; done) | decide +kernel
theorem pd_2 : parseMethodDescriptor "()I" = some ⟨[], some .int⟩ := by decide +kernel
theorem cl_rmlen (X : Stand p l e R s m args below meth c T locs cells slots) (hw : ∀ d ∈ tables_1, d.before a0 Z = true) (hZ : Z.Warmed39 s.vm) (hx : p.tables.exec = Jvm.exec) (hown : s.vm.findClass own = some m.cls) (lk : (Cond.methodLink own index (⟨"java/lang/String", "length", "()I"⟩ : MethodName)).before a0 Z = true) (st : Addr) (cs : Int32) (fm : Value) (d1 d2 : Addr) (sa : Addr) (bs : List Nat) (Z0 : n0 ≤ h0.size) (Wd : own_Wd Z cs fm d1 d2) (OZ : Old Z n0 h0) (E0 : Exa Z h0 st "java/lang/String") (V0 : Fld Z h0 st "java/lang/String" "value" "[B" (.ref sa)) (C0 : Fld Z h0 st "java/lang/String" "coder" "B" (.int 0)) (B0 : own_By Z h0 sa bs) (eT : T.heap = h0) (E_ : Exa Z h0 st "java/lang/String") (N : Fr n0 locs) (hml : c.maxLocals = kml) (hsz : Ls.size = kml) (hd : decode c.code pc = .ok (.invokevirtual index, 3)) (hr : own_rm ({ frames := 1, cells := 0, slots := 0, locals := 13 } : Room) 1 R rest cells slots = true) :
    ∃ T' L', Stand p l e R s m args below meth c T' L' (cells + 0) (slots + 0) ∧ Fr n0 L' ∧ T'.heap = h0 ∧ ∀ t, Steps p.tables e below (T'.setTop (mkF m (pc + 3) Ls ((.int (Int32.ofNat bs.length)) :: rest))) t → Steps p.tables e below (T.setTop (mkF m pc Ls ((.ref st) :: rest))) t := by
  obtain ⟨v, T', L, X', hQ, sq⟩ := own_cV (argsL := []) (rest := rest) (rmlen l Z a0 hw [] st cs fm d1 d2 sa bs h0 n0 Z0 Wd OZ E0 V0 C0 B0) pd_2 rfl (wd_ hw 107 rfl) (wd_ hw 28 rfl) (wd_ hw 105 rfl) (wd_ hw 104 rfl) (wd_ hw 106 rfl) rfl (wd_ hw 106 rfl) (by decide) hZ hx hown X lk eT E_ hml hsz hd hr
  obtain ⟨rfl, Nq, eq_⟩ := hQ
  exact ⟨T', _, X', Fr.app N Nq, eq_, sq⟩
theorem ef_rmpc (m : MethodId) (i n : Nat) (fm : Value) (hfm : fm = .null ∨ ∃ a, fm = .ref a) : entryFrame m #[(.int (Int32.ofNat i)), (.int (Int32.ofNat n)), fm] 3 = mkF m 0 #[.val (.int (Int32.ofNat i)), .val (.int (Int32.ofNat n)), .val fm] [] := by rcases hfm with rfl | ⟨a, rfl⟩ <;> rfl
def Qpc (Z : State) (i n : Nat) (fm : Value) (h0 : Heap) (n0 : Nat) (v : Option Value) (h : Heap) (L : List Loc) : Prop := v = some (.int (Int32.ofNat i)) ∧ Fr n0 L ∧ h = h0
theorem rmpc (l : Launch) (Z : State) (a0 : Array Value) (hw : ∀ d ∈ tables_1, d.before a0 Z = true) (ws : List Jvm.Cond) (i n : Nat) (fm : Value) (h0 : Heap) (n0 : Nat) (Z0 : n0 ≤ h0.size) (hi : i < n) (hn : n < 2 ^ 31) (hfm : fm = .null ∨ ∃ a, fm = .ref a) :
    own_MF l (⟨"jdk/internal/util/Preconditions", "checkIndex", "(IILjava/util/function/BiFunction;)I"⟩ : MethodName) jdk_41_method_11_code 3 (some .int) ws ({ frames := 0, cells := 0, slots := 0, locals := 0 } : Room) #[(.int (Int32.ofNat i)), (.int (Int32.ofNat n)), fm] Z h0 (Qpc Z i n fm h0 n0) := by
  refine MetFree.of_bodySF (plainFor_of_name pn_1) hisR ?_
  intro p e s m args below meth c s₁ Bd hml0 hP hK
  obtain ⟨rfl, hZ, hh⟩ := hP
  have hx := Bd.exec
  have hby := Bd.bytes
  have hlk : meth.locks = false := BodyLoose.notSynchronized Bd
  have hret := Bd.returns
  have hml : c.maxLocals = 3 := hml0
  have hown : s.vm.findClass "jdk/internal/util/Preconditions" = some m.cls := findClass_of_methodNamed Bd.named
  have hnm := (name_of_methodNamed Bd.named Bd.method).1
  have X0 : Stand p l e ({ frames := 0, cells := 0, slots := 0, locals := 0 } : Room) s m #[(.int (Int32.ofNat i)), (.int (Int32.ofNat n)), fm] below meth c s₁ [] 0 0 := Stand.of_body Bd
  have e0 : s₁.heap = h0 := by rw [← hh, Bd.state]; rfl
  have N0 := Fr.nil n0
  show oE p e below s 0 0 (Qpc Z i n fm h0 n0) (s₁.setTop (entryFrame m #[(.int (Int32.ofNat i)), (.int (Int32.ofNat n)), fm] 3))
  refine oS (fun t k => castTop (ef_rmpc m i n fm hfm) k) ?_
  show oE p e below s _ _ _ (s₁.setTop (mkF m 0 #[.val (.int (Int32.ofNat i)), .val (.int (Int32.ofNat n)), .val fm] []))
  refine oS (fun _ k_ => XS.iloadN X0.here hx rfl (hb hby d44_0) rfl (XS.ifNo X0.here hx rfl (hb hby d44_1) rfl (XT.i0_lt_f (own_nn (by omega) : ¬ ((Int32.ofNat i) < 0))) (XS.iloadN X0.here hx rfl (hb hby d44_4) rfl (XS.iloadN X0.here hx rfl (hb hby d44_5) rfl (XS.icmpYes X0.here hx rfl (pc0 := 6) (pc' := 16) rfl (hb hby d44_6) rfl (XT.ii_lt_t ((own_ltN (by omega) hn).mpr hi : (Int32.ofNat i) < (Int32.ofNat n))) (by decide) (by decide) (XS.iloadN X0.here hx rfl (hb hby d44_16) rfl k_)))))) ?_
  exact own_retI X0 hx hret hlk (hb hby d44_17) (by decide) (by decide) ⟨rfl, N0, e0⟩
def b_43 := jdk_42_method_155_code
theorem d43_0 : decode b_43 0 = .ok (.iload_n 0, 1) := by decide +kernel
theorem d43_1 : decode b_43 1 = .ok (.iload_n 1, 1) := by decide +kernel
theorem d43_2 : decode b_43 2 = .ok (.getstatic 1053, 3) := by decide +kernel
theorem d43_5 : decode b_43 5 = .ok (.invokestatic 1059, 3) := by decide +kernel
theorem d43_8 : decode b_43 8 = .ok (.pop, 1) := by decide +kernel
theorem d43_9 : decode b_43 9 = .ok (.return_, 1) := by decide +kernel
theorem pd_3 : parseMethodDescriptor "(IILjava/util/function/BiFunction;)I" = some ⟨[.int, .int, (.object "java/util/function/BiFunction")], some .int⟩ := by decide +kernel
theorem cl_rmpc (X : Stand p l e R s m args below meth c T locs cells slots) (hw : ∀ d ∈ tables_1, d.before a0 Z = true) (hZ : Z.Warmed39 s.vm) (hx : p.tables.exec = Jvm.exec) (hown : s.vm.findClass own = some m.cls) (lk : (Cond.methodLink own index (⟨"jdk/internal/util/Preconditions", "checkIndex", "(IILjava/util/function/BiFunction;)I"⟩ : MethodName)).before a0 Z = true) (i n : Nat) (fm : Value) (Z0 : n0 ≤ h0.size) (hi : i < n) (hn : n < 2 ^ 31) (hfm : fm = .null ∨ ∃ a, fm = .ref a) (eT : T.heap = h0) (N : Fr n0 locs) (hml : c.maxLocals = kml) (hsz : Ls.size = kml) (hd : decode c.code pc = .ok (.invokestatic index, 3)) (hr : own_rm ({ frames := 0, cells := 0, slots := 0, locals := 0 } : Room) 3 R rest cells slots = true) :
    ∃ T' L', Stand p l e R s m args below meth c T' L' (cells + 0) (slots + 0) ∧ Fr n0 L' ∧ T'.heap = h0 ∧ ∀ t, Steps p.tables e below (T'.setTop (mkF m (pc + 3) Ls ((.int (Int32.ofNat i)) :: rest))) t → Steps p.tables e below (T.setTop (mkF m pc Ls (fm :: (.int (Int32.ofNat n)) :: (.int (Int32.ofNat i)) :: rest))) t := by
  obtain ⟨v, T', L, X', hQ, sq⟩ := own_cS (argsL := [(.int (Int32.ofNat i)), (.int (Int32.ofNat n)), fm]) (rest := rest) (rmpc l Z a0 hw [] i n fm h0 n0 Z0 hi hn hfm) pd_3 rfl (wd_ hw 248 rfl) (wd_ hw 245 rfl) (wd_ hw 247 rfl) (by decide) hZ hx hown X lk eT hml hsz hd hr
  obtain ⟨rfl, Nq, eq_⟩ := hQ
  exact ⟨T', _, X', Fr.app N Nq, eq_, sq⟩
theorem ef_rmsc (m : MethodId) (i n : Nat) : entryFrame m #[(.int (Int32.ofNat i)), (.int (Int32.ofNat n))] 2 = mkF m 0 #[.val (.int (Int32.ofNat i)), .val (.int (Int32.ofNat n))] [] := by first | (simp [entryFrame, mkF, argsToLocals, Value.category]; done) | rfl
def Qsc (Z : State) (cs : Int32) (fm : Value) (d1 d2 : Addr) (i n : Nat) (h0 : Heap) (n0 : Nat) (v : Option Value) (h : Heap) (L : List Loc) : Prop := v = none ∧ Fr n0 L ∧ h = h0
theorem rmsc (l : Launch) (Z : State) (a0 : Array Value) (hw : ∀ d ∈ tables_1, d.before a0 Z = true) (ws : List Jvm.Cond) (cs : Int32) (fm : Value) (d1 d2 : Addr) (i n : Nat) (h0 : Heap) (n0 : Nat) (Z0 : n0 ≤ h0.size) (Wd : own_Wd Z cs fm d1 d2) (OZ : Old Z n0 h0) (hi : i < n) (hn : n < 2 ^ 31) :
    own_MF l (⟨"java/lang/String", "checkIndex", "(II)V"⟩ : MethodName) jdk_42_method_155_code 2 none ws ({ frames := 1, cells := 0, slots := 0, locals := 14 } : Room) #[(.int (Int32.ofNat i)), (.int (Int32.ofNat n))] Z h0 (Qsc Z cs fm d1 d2 i n h0 n0) := by
  refine MetFree.of_bodySF (plainFor_of_name pn_0) hisR ?_
  intro p e s m args below meth c s₁ Bd hml0 hP hK
  obtain ⟨rfl, hZ, hh⟩ := hP
  have hx := Bd.exec
  have hby := Bd.bytes
  have hlk : meth.locks = false := BodyLoose.notSynchronized Bd
  have hret := Bd.returns
  have hml : c.maxLocals = 2 := hml0
  have hown : s.vm.findClass "java/lang/String" = some m.cls := findClass_of_methodNamed Bd.named
  have hnm := (name_of_methodNamed Bd.named Bd.method).1
  have X0 : Stand p l e ({ frames := 1, cells := 0, slots := 0, locals := 14 } : Room) s m #[(.int (Int32.ofNat i)), (.int (Int32.ofNat n))] below meth c s₁ [] 0 0 := Stand.of_body Bd
  have e0 : s₁.heap = h0 := by rw [← hh, Bd.state]; rfl
  have N0 := Fr.nil n0
  show oE p e below s 0 0 (Qsc Z cs fm d1 d2 i n h0 n0) (s₁.setTop (entryFrame m #[(.int (Int32.ofNat i)), (.int (Int32.ofNat n))] 2))
  refine oS (fun t k => castTop (ef_rmsc m i n) k) ?_
  show oE p e below s _ _ _ (s₁.setTop (mkF m 0 #[.val (.int (Int32.ofNat i)), .val (.int (Int32.ofNat n))] []))
  refine oS (fun _ k_ => XS.iloadN X0.here hx rfl (hb hby d43_0) rfl (XS.iloadN X0.here hx rfl (hb hby d43_1) rfl k_)) ?_
  obtain ⟨T7, X7, e7, st7⟩ := getS2 X0 hx hZ hown (host := "") (Or.inl (wd_ hw 244 rfl)) Via.refl e0 (Sta.ext OZ.2 Wd.2.2.2.1) (g := (mkF m 2 #[.val (.int (Int32.ofNat i)), .val (.int (Int32.ofNat n))] [(.int (Int32.ofNat n)), (.int (Int32.ofNat i))])) rfl (hb hby d43_2)
  refine oS (fun _ k_ => st7 _ k_) ?_
  obtain ⟨T8, L8, X8, N8, e8, st8⟩ := cl_rmpc X7 hw hZ hx hown (wd_ hw 246 rfl) i n fm Z0 hi hn Wd.2.1 e7 N0 hml rfl (hb hby d43_5) (Ls := #[.val (.int (Int32.ofNat i)), .val (.int (Int32.ofNat n))]) (rest := []) rfl
  refine oS (fun _ k_ => st8 _ k_) ?_
  refine oS (fun _ k_ => XS.pop X8.here hx rfl (hb hby d43_8) rfl rfl k_) ?_
  exact own_retV X8 hx hret hlk (hb hby d43_9) (by decide) (by decide) ⟨rfl, N8, e8⟩
def b_42 := jdk_43_method_2_code
theorem d42_0 : decode b_42 0 = .ok (.iload_n 1, 1) := by decide +kernel
theorem d42_1 : decode b_42 1 = .ok (.aload_n 0, 1) := by decide +kernel
theorem d42_2 : decode b_42 2 = .ok (.arraylength, 1) := by decide +kernel
theorem d42_3 : decode b_42 3 = .ok (.invokestatic 9, 3) := by decide +kernel
theorem d42_6 : decode b_42 6 = .ok (.aload_n 0, 1) := by decide +kernel
theorem d42_7 : decode b_42 7 = .ok (.iload_n 1, 1) := by decide +kernel
theorem d42_8 : decode b_42 8 = .ok (.baload, 1) := by decide +kernel
theorem d42_9 : decode b_42 9 = .ok (.sipush 255, 3) := by decide +kernel
theorem d42_12 : decode b_42 12 = .ok (.iand, 1) := by decide +kernel
theorem d42_13 : decode b_42 13 = .ok (.i2c, 1) := by decide +kernel
theorem d42_14 : decode b_42 14 = .ok (.ireturn, 1) := by decide +kernel
theorem pn_2 : plainName "java/lang/StringLatin1" = true := by first | (simp [plainName, overriddenIn]; done) | decide +kernel
theorem pd_4 : parseMethodDescriptor "(II)V" = some ⟨[.int, .int], none⟩ := by decide +kernel
theorem cl_rmsc (X : Stand p l e R s m args below meth c T locs cells slots) (hw : ∀ d ∈ tables_1, d.before a0 Z = true) (hZ : Z.Warmed39 s.vm) (hx : p.tables.exec = Jvm.exec) (hown : s.vm.findClass own = some m.cls) (lk : (Cond.methodLink own index (⟨"java/lang/String", "checkIndex", "(II)V"⟩ : MethodName)).before a0 Z = true) (cs : Int32) (fm : Value) (d1 d2 : Addr) (i n : Nat) (Z0 : n0 ≤ h0.size) (Wd : own_Wd Z cs fm d1 d2) (OZ : Old Z n0 h0) (hi : i < n) (hn : n < 2 ^ 31) (eT : T.heap = h0) (N : Fr n0 locs) (hml : c.maxLocals = kml) (hsz : Ls.size = kml) (hd : decode c.code pc = .ok (.invokestatic index, 3)) (hr : own_rm ({ frames := 1, cells := 0, slots := 0, locals := 14 } : Room) 2 R rest cells slots = true) :
    ∃ T' L', Stand p l e R s m args below meth c T' L' (cells + 0) (slots + 0) ∧ Fr n0 L' ∧ T'.heap = h0 ∧ ∀ t, Steps p.tables e below (T'.setTop (mkF m (pc + 3) Ls (rest))) t → Steps p.tables e below (T.setTop (mkF m pc Ls ((.int (Int32.ofNat n)) :: (.int (Int32.ofNat i)) :: rest))) t := by
  obtain ⟨v, T', L, X', hQ, sq⟩ := own_cS (argsL := [(.int (Int32.ofNat i)), (.int (Int32.ofNat n))]) (rest := rest) (rmsc l Z a0 hw [] cs fm d1 d2 i n h0 n0 Z0 Wd OZ hi hn) pd_4 rfl (wd_ hw 243 rfl) (wd_ hw 28 rfl) (wd_ hw 242 rfl) (by decide) hZ hx hown X lk eT hml hsz hd hr
  obtain ⟨rfl, Nq, eq_⟩ := hQ
  exact ⟨T', _, X', Fr.app N Nq, eq_, sq⟩
theorem ef_rml1 (m : MethodId) (sa : Addr) (i : Nat) : entryFrame m #[(.ref sa), (.int (Int32.ofNat i))] 2 = mkF m 0 #[.val (.ref sa), .val (.int (Int32.ofNat i))] [] := by first | (simp [entryFrame, mkF, argsToLocals, Value.category]; done) | rfl
def Ql1 (Z : State) (sa : Addr) (cs : Int32) (fm : Value) (d1 d2 : Addr) (bs : List Nat) (i x : Nat) (h0 : Heap) (n0 : Nat) (v : Option Value) (h : Heap) (L : List Loc) : Prop := v = some (.int (Int32.ofNat x)) ∧ Fr n0 L ∧ h = h0
theorem rml1 (l : Launch) (Z : State) (a0 : Array Value) (hw : ∀ d ∈ tables_1, d.before a0 Z = true) (ws : List Jvm.Cond) (sa : Addr) (cs : Int32) (fm : Value) (d1 d2 : Addr) (bs : List Nat) (i x : Nat) (h0 : Heap) (n0 : Nat) (Z0 : n0 ≤ h0.size) (Wd : own_Wd Z cs fm d1 d2) (OZ : Old Z n0 h0) (B0 : own_By Z h0 sa bs) (hi : bs[i]? = some x) :
    own_MF l (⟨"java/lang/StringLatin1", "charAt", "([BI)C"⟩ : MethodName) jdk_43_method_2_code 2 (some .char) ws ({ frames := 2, cells := 0, slots := 0, locals := 28 } : Room) #[(.ref sa), (.int (Int32.ofNat i))] Z h0 (Ql1 Z sa cs fm d1 d2 bs i x h0 n0) := by
  refine MetFree.of_bodySF (plainFor_of_name pn_2) hisR ?_
  intro p e s m args below meth c s₁ Bd hml0 hP hK
  obtain ⟨rfl, hZ, hh⟩ := hP
  have hx := Bd.exec
  have hby := Bd.bytes
  have hlk : meth.locks = false := BodyLoose.notSynchronized Bd
  have hret := Bd.returns
  have hml : c.maxLocals = 2 := hml0
  have hown : s.vm.findClass "java/lang/StringLatin1" = some m.cls := findClass_of_methodNamed Bd.named
  have hnm := (name_of_methodNamed Bd.named Bd.method).1
  have X0 : Stand p l e ({ frames := 2, cells := 0, slots := 0, locals := 28 } : Room) s m #[(.ref sa), (.int (Int32.ofNat i))] below meth c s₁ [] 0 0 := Stand.of_body Bd
  have e0 : s₁.heap = h0 := by rw [← hh, Bd.state]; rfl
  have N0 := Fr.nil n0
  show oE p e below s 0 0 (Ql1 Z sa cs fm d1 d2 bs i x h0 n0) (s₁.setTop (entryFrame m #[(.ref sa), (.int (Int32.ofNat i))] 2))
  refine oS (fun t k => castTop (ef_rml1 m sa i) k) ?_
  show oE p e below s _ _ _ (s₁.setTop (mkF m 0 #[.val (.ref sa), .val (.int (Int32.ofNat i))] []))
  have hlt := (List.getElem?_eq_some_iff.mp hi).1
  have hbl := B0.len
  have hx8 := B0.2 x (List.mem_of_getElem? hi)
  refine oS (fun _ k_ => XS.iloadN X0.here hx rfl (hb hby d42_0) rfl (XS.aloadN X0.here hx rfl (hb hby d42_1) rfl rfl (own_alen X0 hx hZ e0 (B0).1 (n := (bs).length) (z := (Int32.ofNat (bs).length)) (own_V_len _) rfl (hb hby d42_2) _ k_))) ?_
  obtain ⟨T9, L9, X9, N9, e9, st9⟩ := cl_rmsc X0 hw hZ hx hown (wd_ hw 241 rfl) cs fm d1 d2 i bs.length Z0 Wd OZ hlt hbl e0 N0 hml rfl (hb hby d42_3) (Ls := #[.val (.ref sa), .val (.int (Int32.ofNat i))]) (rest := []) rfl
  refine oS (fun _ k_ => st9 _ k_) ?_
  refine oS (fun _ k_ => XS.aloadN X9.here hx rfl (hb hby d42_6) rfl rfl (XS.iloadN X9.here hx rfl (hb hby d42_7) rfl (own_baload X9 hx hZ e9 (B0).1 (j := (Int32.ofNat i)) (own_nn (by omega)) (i := i) (own_nc (by omega)) (v := (.int (Int32.ofNat x))) (own_V_at hi) (hb hby d42_8) _ (XS.sipush X9.here hx rfl (hb hby d42_9) (XS.iand X9.here hx rfl (hb hby d42_12) rfl (XS.i2c X9.here hx rfl (hb hby d42_13) rfl k_)))))) ?_
  show oE p e below s _ _ _ (T9.setTop (mkF m 14 #[.val (.ref sa), .val (.int (Int32.ofNat i))] [(.int (((Int32.ofNat x) &&& (255 : Int32)).toUInt32.toUInt16.toUInt32.toInt32))]))
  rw [own_c255 hx8]
  exact own_retN X9 hx (t := .char) hret (by simp) hlk (hb hby d42_14) (by decide) (by decide) (own_narC hx8) ⟨rfl, N9, e9⟩
def b_40 := jdk_42_method_56_code
theorem d40_0 : decode b_40 0 = .ok (.aload_n 0, 1) := by decide +kernel
theorem d40_1 : decode b_40 1 = .ok (.invokevirtual 492, 3) := by decide +kernel
theorem d40_4 : decode b_40 4 = .ok (.ifCond .eq 12, 3) := by decide +kernel
theorem d40_7 : decode b_40 7 = .ok (.aload_n 0, 1) := by decide +kernel
theorem d40_8 : decode b_40 8 = .ok (.getfield 9, 3) := by decide +kernel
theorem d40_11 : decode b_40 11 = .ok (.iload_n 1, 1) := by decide +kernel
theorem d40_12 : decode b_40 12 = .ok (.invokestatic 495, 3) := by decide +kernel
theorem d40_15 : decode b_40 15 = .ok (.ireturn, 1) := by decide +kernel
theorem pd_5 : parseMethodDescriptor "([BI)C" = some ⟨[(.array .byte), .int], some .char⟩ := by decide +kernel
theorem cl_rml1 (X : Stand p l e R s m args below meth c T locs cells slots) (hw : ∀ d ∈ tables_1, d.before a0 Z = true) (hZ : Z.Warmed39 s.vm) (hx : p.tables.exec = Jvm.exec) (hown : s.vm.findClass own = some m.cls) (lk : (Cond.methodLink own index (⟨"java/lang/StringLatin1", "charAt", "([BI)C"⟩ : MethodName)).before a0 Z = true) (sa : Addr) (cs : Int32) (fm : Value) (d1 d2 : Addr) (bs : List Nat) (i x : Nat) (Z0 : n0 ≤ h0.size) (Wd : own_Wd Z cs fm d1 d2) (OZ : Old Z n0 h0) (B0 : own_By Z h0 sa bs) (hi : bs[i]? = some x) (eT : T.heap = h0) (N : Fr n0 locs) (hml : c.maxLocals = kml) (hsz : Ls.size = kml) (hd : decode c.code pc = .ok (.invokestatic index, 3)) (hr : own_rm ({ frames := 2, cells := 0, slots := 0, locals := 28 } : Room) 2 R rest cells slots = true) :
    ∃ T' L', Stand p l e R s m args below meth c T' L' (cells + 0) (slots + 0) ∧ Fr n0 L' ∧ T'.heap = h0 ∧ ∀ t, Steps p.tables e below (T'.setTop (mkF m (pc + 3) Ls ((.int (Int32.ofNat x)) :: rest))) t → Steps p.tables e below (T.setTop (mkF m pc Ls ((.int (Int32.ofNat i)) :: (.ref sa) :: rest))) t := by
  obtain ⟨v, T', L, X', hQ, sq⟩ := own_cS (argsL := [(.ref sa), (.int (Int32.ofNat i))]) (rest := rest) (rml1 l Z a0 hw [] sa cs fm d1 d2 bs i x h0 n0 Z0 Wd OZ B0 hi) pd_5 rfl (wd_ hw 240 rfl) (wd_ hw 239 rfl) (wd_ hw 238 rfl) (by decide) hZ hx hown X lk eT hml hsz hd hr
  obtain ⟨rfl, Nq, eq_⟩ := hQ
  exact ⟨T', _, X', Fr.app N Nq, eq_, sq⟩
theorem ef_rmch (m : MethodId) (st : Addr) (i : Nat) : entryFrame m #[(.ref st), (.int (Int32.ofNat i))] 2 = mkF m 0 #[.val (.ref st), .val (.int (Int32.ofNat i))] [] := by first | (simp [entryFrame, mkF, argsToLocals, Value.category]; done) | rfl
def Qch (Z : State) (st : Addr) (cs : Int32) (fm : Value) (d1 d2 : Addr) (sa : Addr) (bs : List Nat) (i x : Nat) (h0 : Heap) (n0 : Nat) (v : Option Value) (h : Heap) (L : List Loc) : Prop := v = some (.int (Int32.ofNat x)) ∧ Fr n0 L ∧ h = h0
theorem rmch (l : Launch) (Z : State) (a0 : Array Value) (hw : ∀ d ∈ tables_1, d.before a0 Z = true) (ws : List Jvm.Cond) (st : Addr) (cs : Int32) (fm : Value) (d1 d2 : Addr) (sa : Addr) (bs : List Nat) (i x : Nat) (h0 : Heap) (n0 : Nat) (Z0 : n0 ≤ h0.size) (Wd : own_Wd Z cs fm d1 d2) (OZ : Old Z n0 h0) (E0 : Exa Z h0 st "java/lang/String") (V0 : Fld Z h0 st "java/lang/String" "value" "[B" (.ref sa)) (C0 : Fld Z h0 st "java/lang/String" "coder" "B" (.int 0)) (B0 : own_By Z h0 sa bs) (hi : bs[i]? = some x) :
    own_MF l (⟨"java/lang/String", "charAt", "(I)C"⟩ : MethodName) jdk_42_method_56_code 2 (some .char) ws ({ frames := 3, cells := 0, slots := 0, locals := 42 } : Room) #[(.ref st), (.int (Int32.ofNat i))] Z h0 (Qch Z st cs fm d1 d2 sa bs i x h0 n0) := by
  refine MetFree.of_bodySF (plainFor_of_name pn_0) hisR ?_
  intro p e s m args below meth c s₁ Bd hml0 hP hK
  obtain ⟨rfl, hZ, hh⟩ := hP
  have hx := Bd.exec
  have hby := Bd.bytes
  have hlk : meth.locks = false := BodyLoose.notSynchronized Bd
  have hret := Bd.returns
  have hml : c.maxLocals = 2 := hml0
  have hown : s.vm.findClass "java/lang/String" = some m.cls := findClass_of_methodNamed Bd.named
  have hnm := (name_of_methodNamed Bd.named Bd.method).1
  have X0 : Stand p l e ({ frames := 3, cells := 0, slots := 0, locals := 42 } : Room) s m #[(.ref st), (.int (Int32.ofNat i))] below meth c s₁ [] 0 0 := Stand.of_body Bd
  have e0 : s₁.heap = h0 := by rw [← hh, Bd.state]; rfl
  have N0 := Fr.nil n0
  show oE p e below s 0 0 (Qch Z st cs fm d1 d2 sa bs i x h0 n0) (s₁.setTop (entryFrame m #[(.ref st), (.int (Int32.ofNat i))] 2))
  refine oS (fun t k => castTop (ef_rmch m st i) k) ?_
  show oE p e below s _ _ _ (s₁.setTop (mkF m 0 #[.val (.ref st), .val (.int (Int32.ofNat i))] []))
  have hx8 := B0.2 x (List.mem_of_getElem? hi)
  refine oS (fun _ k_ => XS.aloadN X0.here hx rfl (hb hby d40_0) rfl rfl k_) ?_
  obtain ⟨T10, L10, X10, N10, e10, st10⟩ := cl_rmlat X0 hw hZ hx hown (wd_ hw 232 rfl) st cs fm d1 d2 Z0 Wd OZ C0 e0 E0 N0 hml rfl (hb hby d40_1) (Ls := #[.val (.ref st), .val (.int (Int32.ofNat i))]) (rest := []) rfl
  refine oS (fun _ k_ => st10 _ k_) ?_
  refine oS (fun _ k_ => XS.ifNo X10.here hx rfl (hb hby d40_4) rfl (XT.i0_eq_f (by decide : ¬ ((1 : Int32) = 0))) (XS.aloadN X10.here hx rfl (hb hby d40_7) rfl rfl k_)) ?_
  obtain ⟨T11, X11, e11, st11⟩ := getF X10 hx hZ hown (host := "") (Or.inl (wd_ hw 108 rfl)) Via.refl e10 V0 (g := (mkF m 8 #[.val (.ref st), .val (.int (Int32.ofNat i))] [(.ref st)])) rfl rfl (hb hby d40_8)
  refine oS (fun _ k_ => st11 _ k_) ?_
  refine oS (fun _ k_ => XS.iloadN X11.here hx rfl (hb hby d40_11) rfl k_) ?_
  obtain ⟨T12, L12, X12, N12, e12, st12⟩ := cl_rml1 X11 hw hZ hx hown (wd_ hw 237 rfl) sa cs fm d1 d2 bs i x Z0 Wd OZ B0 hi e11 N10 hml rfl (hb hby d40_12) (Ls := #[.val (.ref st), .val (.int (Int32.ofNat i))]) (rest := []) rfl
  refine oS (fun _ k_ => st12 _ k_) ?_
  exact own_retN X12 hx (t := .char) hret (by simp) hlk (hb hby d40_15) (by decide) (by decide) (own_narC hx8) ⟨rfl, N12, e12⟩
def b_51 := jdk_29_method_65_code
theorem d51_0 : decode b_51 0 = .ok (.iload_n 0, 1) := by decide +kernel
theorem d51_1 : decode b_51 1 = .ok (.iload_n 1, 1) := by decide +kernel
theorem d51_2 : decode b_51 2 = .ok (.if_icmp .lt 7, 3) := by decide +kernel
theorem d51_5 : decode b_51 5 = .ok (.iload_n 0, 1) := by decide +kernel
theorem d51_6 : decode b_51 6 = .ok (.goto 4, 3) := by decide +kernel
theorem d51_9 : decode b_51 9 = .ok (.iload_n 1, 1) := by decide +kernel
theorem d51_10 : decode b_51 10 = .ok (.ireturn, 1) := by decide +kernel
theorem pd_6 : parseMethodDescriptor "(I)C" = some ⟨[.int], some .char⟩ := by decide +kernel
theorem cl_rmch (X : Stand p l e R s m args below meth c T locs cells slots) (hw : ∀ d ∈ tables_1, d.before a0 Z = true) (hZ : Z.Warmed39 s.vm) (hx : p.tables.exec = Jvm.exec) (hown : s.vm.findClass own = some m.cls) (lk : (Cond.methodLink own index (⟨"java/lang/String", "charAt", "(I)C"⟩ : MethodName)).before a0 Z = true) (st : Addr) (cs : Int32) (fm : Value) (d1 d2 : Addr) (sa : Addr) (bs : List Nat) (i x : Nat) (Z0 : n0 ≤ h0.size) (Wd : own_Wd Z cs fm d1 d2) (OZ : Old Z n0 h0) (E0 : Exa Z h0 st "java/lang/String") (V0 : Fld Z h0 st "java/lang/String" "value" "[B" (.ref sa)) (C0 : Fld Z h0 st "java/lang/String" "coder" "B" (.int 0)) (B0 : own_By Z h0 sa bs) (hi : bs[i]? = some x) (eT : T.heap = h0) (E_ : Exa Z h0 st "java/lang/String") (N : Fr n0 locs) (hml : c.maxLocals = kml) (hsz : Ls.size = kml) (hd : decode c.code pc = .ok (.invokevirtual index, 3)) (hr : own_rm ({ frames := 3, cells := 0, slots := 0, locals := 42 } : Room) 2 R rest cells slots = true) :
    ∃ T' L', Stand p l e R s m args below meth c T' L' (cells + 0) (slots + 0) ∧ Fr n0 L' ∧ T'.heap = h0 ∧ ∀ t, Steps p.tables e below (T'.setTop (mkF m (pc + 3) Ls ((.int (Int32.ofNat x)) :: rest))) t → Steps p.tables e below (T.setTop (mkF m pc Ls ((.int (Int32.ofNat i)) :: (.ref st) :: rest))) t := by
  obtain ⟨v, T', L, X', hQ, sq⟩ := own_cV (argsL := [(.int (Int32.ofNat i))]) (rest := rest) (rmch l Z a0 hw [] st cs fm d1 d2 sa bs i x h0 n0 Z0 Wd OZ E0 V0 C0 B0 hi) pd_6 rfl (wd_ hw 231 rfl) (wd_ hw 28 rfl) (wd_ hw 229 rfl) (wd_ hw 228 rfl) (wd_ hw 230 rfl) rfl (wd_ hw 230 rfl) (by decide) hZ hx hown X lk eT E_ hml hsz hd hr
  obtain ⟨rfl, Nq, eq_⟩ := hQ
  exact ⟨T', _, X', Fr.app N Nq, eq_, sq⟩
theorem ef_rmmax (m : MethodId) (xa xb : Nat) : entryFrame m #[(.int (Int32.ofNat xa)), (.int (Int32.ofNat xb))] 2 = mkF m 0 #[.val (.int (Int32.ofNat xa)), .val (.int (Int32.ofNat xb))] [] := by first | (simp [entryFrame, mkF, argsToLocals, Value.category]; done) | rfl
def Qmax (Z : State) (xa xb : Nat) (h0 : Heap) (n0 : Nat) (v : Option Value) (h : Heap) (L : List Loc) : Prop := v = some (.int (Int32.ofNat (max xa xb))) ∧ Fr n0 L ∧ h = h0
theorem rmmax (l : Launch) (Z : State) (a0 : Array Value) (hw : ∀ d ∈ tables_1, d.before a0 Z = true) (ws : List Jvm.Cond) (xa xb : Nat) (h0 : Heap) (n0 : Nat) (Z0 : n0 ≤ h0.size) (hxa : xa < 2 ^ 31) (hxb : xb < 2 ^ 31) :
    own_MF l (⟨"java/lang/Math", "max", "(II)I"⟩ : MethodName) jdk_29_method_65_code 2 (some .int) ws ({ frames := 0, cells := 0, slots := 0, locals := 0 } : Room) #[(.int (Int32.ofNat xa)), (.int (Int32.ofNat xb))] Z h0 (Qmax Z xa xb h0 n0) := by
  refine MetFree.of_bodySF (Jvm.Free.JP.mathPlain rfl (by decide)) hisR ?_
  intro p e s m args below meth c s₁ Bd hml0 hP hK
  obtain ⟨rfl, hZ, hh⟩ := hP
  have hx := Bd.exec
  have hby := Bd.bytes
  have hlk : meth.locks = false := BodyLoose.notSynchronized Bd
  have hret := Bd.returns
  have hml : c.maxLocals = 2 := hml0
  have hown : s.vm.findClass "java/lang/Math" = some m.cls := findClass_of_methodNamed Bd.named
  have hnm := (name_of_methodNamed Bd.named Bd.method).1
  have X0 : Stand p l e ({ frames := 0, cells := 0, slots := 0, locals := 0 } : Room) s m #[(.int (Int32.ofNat xa)), (.int (Int32.ofNat xb))] below meth c s₁ [] 0 0 := Stand.of_body Bd
  have e0 : s₁.heap = h0 := by rw [← hh, Bd.state]; rfl
  have N0 := Fr.nil n0
  show oE p e below s 0 0 (Qmax Z xa xb h0 n0) (s₁.setTop (entryFrame m #[(.int (Int32.ofNat xa)), (.int (Int32.ofNat xb))] 2))
  refine oS (fun t k => castTop (ef_rmmax m xa xb) k) ?_
  show oE p e below s _ _ _ (s₁.setTop (mkF m 0 #[.val (.int (Int32.ofNat xa)), .val (.int (Int32.ofNat xb))] []))
  refine oS (fun _ k_ => XS.iloadN X0.here hx rfl (hb hby d51_0) rfl (XS.iloadN X0.here hx rfl (hb hby d51_1) rfl k_)) ?_
  by_cases hc2 : (Int32.ofNat xa) < (Int32.ofNat xb)
  · refine oS (fun _ k_ => XS.icmpYes X0.here hx rfl (pc0 := 2) (pc' := 9) rfl (hb hby d51_2) rfl (XT.ii_lt_t hc2) (by decide) (by decide) (XS.iloadN X0.here hx rfl (hb hby d51_9) rfl k_)) ?_
    exact own_retI X0 hx hret hlk (hb hby d51_10) (by decide) (by decide) ⟨by (first | rw [own_ltN hxa hxb] at hc2 | rw [own_ltN hxb hxa] at hc2); congr 3; omega, N0, e0⟩
  · refine oS (fun _ k_ => XS.icmpNo X0.here hx rfl (hb hby d51_2) rfl (XT.ii_lt_f hc2) (XS.iloadN X0.here hx rfl (hb hby d51_5) rfl (XS.goto X0.here hx rfl (pc0 := 6) (pc' := 10) rfl (hb hby d51_6) (by decide) (by decide) k_))) ?_
    exact own_retI X0 hx hret hlk (hb hby d51_10) (by decide) (by decide) ⟨by (first | rw [own_ltN hxa hxb] at hc2 | rw [own_ltN hxb hxa] at hc2); congr 3; omega, N0, e0⟩
def b_34 := jdk_29_method_69_code
theorem d34_0 : decode b_34 0 = .ok (.iload_n 0, 1) := by decide +kernel
theorem d34_1 : decode b_34 1 = .ok (.iload_n 1, 1) := by decide +kernel
theorem d34_2 : decode b_34 2 = .ok (.if_icmp .gt 7, 3) := by decide +kernel
theorem d34_5 : decode b_34 5 = .ok (.iload_n 0, 1) := by decide +kernel
theorem d34_6 : decode b_34 6 = .ok (.goto 4, 3) := by decide +kernel
theorem d34_9 : decode b_34 9 = .ok (.iload_n 1, 1) := by decide +kernel
theorem d34_10 : decode b_34 10 = .ok (.ireturn, 1) := by decide +kernel
theorem pd_7 : parseMethodDescriptor "(II)I" = some ⟨[.int, .int], some .int⟩ := by decide +kernel
theorem cl_rmmax (X : Stand p l e R s m args below meth c T locs cells slots) (hw : ∀ d ∈ tables_1, d.before a0 Z = true) (hZ : Z.Warmed39 s.vm) (hx : p.tables.exec = Jvm.exec) (hown : s.vm.findClass own = some m.cls) (lk : (Cond.methodLink own index (⟨"java/lang/Math", "max", "(II)I"⟩ : MethodName)).before a0 Z = true) (xa xb : Nat) (Z0 : n0 ≤ h0.size) (hxa : xa < 2 ^ 31) (hxb : xb < 2 ^ 31) (eT : T.heap = h0) (N : Fr n0 locs) (hml : c.maxLocals = kml) (hsz : Ls.size = kml) (hd : decode c.code pc = .ok (.invokestatic index, 3)) (hr : own_rm ({ frames := 0, cells := 0, slots := 0, locals := 0 } : Room) 2 R rest cells slots = true) :
    ∃ T' L', Stand p l e R s m args below meth c T' L' (cells + 0) (slots + 0) ∧ Fr n0 L' ∧ T'.heap = h0 ∧ ∀ t, Steps p.tables e below (T'.setTop (mkF m (pc + 3) Ls ((.int (Int32.ofNat (max xa xb))) :: rest))) t → Steps p.tables e below (T.setTop (mkF m pc Ls ((.int (Int32.ofNat xb)) :: (.int (Int32.ofNat xa)) :: rest))) t := by
  obtain ⟨v, T', L, X', hQ, sq⟩ := own_cS (argsL := [(.int (Int32.ofNat xa)), (.int (Int32.ofNat xb))]) (rest := rest) (rmmax l Z a0 hw [] xa xb h0 n0 Z0 hxa hxb) pd_7 rfl (wd_ hw 286 rfl) (wd_ hw 206 rfl) (wd_ hw 285 rfl) (by decide) hZ hx hown X lk eT hml hsz hd hr
  obtain ⟨rfl, Nq, eq_⟩ := hQ
  exact ⟨T', _, X', Fr.app N Nq, eq_, sq⟩
theorem ef_rmmin (m : MethodId) (xa xb : Nat) : entryFrame m #[(.int (Int32.ofNat xa)), (.int (Int32.ofNat xb))] 2 = mkF m 0 #[.val (.int (Int32.ofNat xa)), .val (.int (Int32.ofNat xb))] [] := by first | (simp [entryFrame, mkF, argsToLocals, Value.category]; done) | rfl
def Qmin (Z : State) (xa xb : Nat) (h0 : Heap) (n0 : Nat) (v : Option Value) (h : Heap) (L : List Loc) : Prop := v = some (.int (Int32.ofNat (min xa xb))) ∧ Fr n0 L ∧ h = h0
theorem rmmin (l : Launch) (Z : State) (a0 : Array Value) (hw : ∀ d ∈ tables_1, d.before a0 Z = true) (ws : List Jvm.Cond) (xa xb : Nat) (h0 : Heap) (n0 : Nat) (Z0 : n0 ≤ h0.size) (hxa : xa < 2 ^ 31) (hxb : xb < 2 ^ 31) :
    own_MF l (⟨"java/lang/Math", "min", "(II)I"⟩ : MethodName) jdk_29_method_69_code 2 (some .int) ws ({ frames := 0, cells := 0, slots := 0, locals := 0 } : Room) #[(.int (Int32.ofNat xa)), (.int (Int32.ofNat xb))] Z h0 (Qmin Z xa xb h0 n0) := by
  refine MetFree.of_bodySF (Jvm.Free.JP.mathPlain rfl (by decide)) hisR ?_
  intro p e s m args below meth c s₁ Bd hml0 hP hK
  obtain ⟨rfl, hZ, hh⟩ := hP
  have hx := Bd.exec
  have hby := Bd.bytes
  have hlk : meth.locks = false := BodyLoose.notSynchronized Bd
  have hret := Bd.returns
  have hml : c.maxLocals = 2 := hml0
  have hown : s.vm.findClass "java/lang/Math" = some m.cls := findClass_of_methodNamed Bd.named
  have hnm := (name_of_methodNamed Bd.named Bd.method).1
  have X0 : Stand p l e ({ frames := 0, cells := 0, slots := 0, locals := 0 } : Room) s m #[(.int (Int32.ofNat xa)), (.int (Int32.ofNat xb))] below meth c s₁ [] 0 0 := Stand.of_body Bd
  have e0 : s₁.heap = h0 := by rw [← hh, Bd.state]; rfl
  have N0 := Fr.nil n0
  show oE p e below s 0 0 (Qmin Z xa xb h0 n0) (s₁.setTop (entryFrame m #[(.int (Int32.ofNat xa)), (.int (Int32.ofNat xb))] 2))
  refine oS (fun t k => castTop (ef_rmmin m xa xb) k) ?_
  show oE p e below s _ _ _ (s₁.setTop (mkF m 0 #[.val (.int (Int32.ofNat xa)), .val (.int (Int32.ofNat xb))] []))
  refine oS (fun _ k_ => XS.iloadN X0.here hx rfl (hb hby d34_0) rfl (XS.iloadN X0.here hx rfl (hb hby d34_1) rfl k_)) ?_
  by_cases hc2 : (Int32.ofNat xb) < (Int32.ofNat xa)
  · refine oS (fun _ k_ => XS.icmpYes X0.here hx rfl (pc0 := 2) (pc' := 9) rfl (hb hby d34_2) rfl (XT.ii_gt_t hc2) (by decide) (by decide) (XS.iloadN X0.here hx rfl (hb hby d34_9) rfl k_)) ?_
    exact own_retI X0 hx hret hlk (hb hby d34_10) (by decide) (by decide) ⟨by (first | rw [own_ltN hxa hxb] at hc2 | rw [own_ltN hxb hxa] at hc2); congr 3; omega, N0, e0⟩
  · refine oS (fun _ k_ => XS.icmpNo X0.here hx rfl (hb hby d34_2) rfl (XT.ii_gt_f hc2) (XS.iloadN X0.here hx rfl (hb hby d34_5) rfl (XS.goto X0.here hx rfl (pc0 := 6) (pc' := 10) rfl (hb hby d34_6) (by decide) (by decide) k_))) ?_
    exact own_retI X0 hx hret hlk (hb hby d34_10) (by decide) (by decide) ⟨by (first | rw [own_ltN hxa hxb] at hc2 | rw [own_ltN hxb hxa] at hc2); congr 3; omega, N0, e0⟩
def b_50 := jdk_48_method_27_code
theorem d50_0 : decode b_50 0 = .ok (.iload_n 0, 1) := by decide +kernel
theorem d50_1 : decode b_50 1 = .ok (.iload_n 1, 1) := by decide +kernel
theorem d50_2 : decode b_50 2 = .ok (.iload_n 2, 1) := by decide +kernel
theorem d50_3 : decode b_50 3 = .ok (.invokestatic 194, 3) := by decide +kernel
theorem d50_6 : decode b_50 6 = .ok (.iadd, 1) := by decide +kernel
theorem d50_7 : decode b_50 7 = .ok (.istore_n 3, 1) := by decide +kernel
theorem d50_8 : decode b_50 8 = .ok (.iconst 0, 1) := by decide +kernel
theorem d50_9 : decode b_50 9 = .ok (.iload_n 3, 1) := by decide +kernel
theorem d50_10 : decode b_50 10 = .ok (.if_icmp .ge 11, 3) := by decide +kernel
theorem d50_13 : decode b_50 13 = .ok (.iload_n 3, 1) := by decide +kernel
theorem d50_14 : decode b_50 14 = .ok (.ldc 200, 2) := by decide +kernel
theorem d50_16 : decode b_50 16 = .ok (.if_icmp .gt 5, 3) := by decide +kernel
theorem d50_19 : decode b_50 19 = .ok (.iload_n 3, 1) := by decide +kernel
theorem d50_20 : decode b_50 20 = .ok (.ireturn, 1) := by decide +kernel
theorem pn_3 : plainName "jdk/internal/util/ArraysSupport" = true := by first | (simp [plainName, overriddenIn]; done) | decide +kernel
theorem cl_rmmin (X : Stand p l e R s m args below meth c T locs cells slots) (hw : ∀ d ∈ tables_1, d.before a0 Z = true) (hZ : Z.Warmed39 s.vm) (hx : p.tables.exec = Jvm.exec) (hown : s.vm.findClass own = some m.cls) (lk : (Cond.methodLink own index (⟨"java/lang/Math", "min", "(II)I"⟩ : MethodName)).before a0 Z = true) (xa xb : Nat) (Z0 : n0 ≤ h0.size) (hxa : xa < 2 ^ 31) (hxb : xb < 2 ^ 31) (eT : T.heap = h0) (N : Fr n0 locs) (hml : c.maxLocals = kml) (hsz : Ls.size = kml) (hd : decode c.code pc = .ok (.invokestatic index, 3)) (hr : own_rm ({ frames := 0, cells := 0, slots := 0, locals := 0 } : Room) 2 R rest cells slots = true) :
    ∃ T' L', Stand p l e R s m args below meth c T' L' (cells + 0) (slots + 0) ∧ Fr n0 L' ∧ T'.heap = h0 ∧ ∀ t, Steps p.tables e below (T'.setTop (mkF m (pc + 3) Ls ((.int (Int32.ofNat (min xa xb))) :: rest))) t → Steps p.tables e below (T.setTop (mkF m pc Ls ((.int (Int32.ofNat xb)) :: (.int (Int32.ofNat xa)) :: rest))) t := by
  obtain ⟨v, T', L, X', hQ, sq⟩ := own_cS (argsL := [(.int (Int32.ofNat xa)), (.int (Int32.ofNat xb))]) (rest := rest) (rmmin l Z a0 hw [] xa xb h0 n0 Z0 hxa hxb) pd_7 rfl (wd_ hw 207 rfl) (wd_ hw 206 rfl) (wd_ hw 205 rfl) (by decide) hZ hx hown X lk eT hml hsz hd hr
  obtain ⟨rfl, Nq, eq_⟩ := hQ
  exact ⟨T', _, X', Fr.app N Nq, eq_, sq⟩
theorem ef_rmnl (m : MethodId) (xo xg xq : Nat) : entryFrame m #[(.int (Int32.ofNat xo)), (.int (Int32.ofNat xg)), (.int (Int32.ofNat xq))] 4 = mkF m 0 #[.val (.int (Int32.ofNat xo)), .val (.int (Int32.ofNat xg)), .val (.int (Int32.ofNat xq)), .unset] [] := by first | (simp [entryFrame, mkF, argsToLocals, Value.category]; done) | rfl
def Qnl (Z : State) (xo xg xq : Nat) (h0 : Heap) (n0 : Nat) (v : Option Value) (h : Heap) (L : List Loc) : Prop := v = some (.int (Int32.ofNat (xo + max xg xq))) ∧ Fr n0 L ∧ h = h0
theorem rmnl (l : Launch) (Z : State) (a0 : Array Value) (hw : ∀ d ∈ tables_1, d.before a0 Z = true) (ws : List Jvm.Cond) (xo xg xq : Nat) (h0 : Heap) (n0 : Nat) (Z0 : n0 ≤ h0.size) (ho : xo < 1000) (hg0 : 0 < xg) (hg : xg < 1000) (hq : xq < 1000) :
    own_MF l (⟨"jdk/internal/util/ArraysSupport", "newLength", "(III)I"⟩ : MethodName) jdk_48_method_27_code 4 (some .int) ws ({ frames := 1, cells := 0, slots := 0, locals := 14 } : Room) #[(.int (Int32.ofNat xo)), (.int (Int32.ofNat xg)), (.int (Int32.ofNat xq))] Z h0 (Qnl Z xo xg xq h0 n0) := by
  refine MetFree.of_bodySF (plainFor_of_name pn_3) hisR ?_
  intro p e s m args below meth c s₁ Bd hml0 hP hK
  obtain ⟨rfl, hZ, hh⟩ := hP
  have hx := Bd.exec
  have hby := Bd.bytes
  have hlk : meth.locks = false := BodyLoose.notSynchronized Bd
  have hret := Bd.returns
  have hml : c.maxLocals = 4 := hml0
  have hown : s.vm.findClass "jdk/internal/util/ArraysSupport" = some m.cls := findClass_of_methodNamed Bd.named
  have hnm := (name_of_methodNamed Bd.named Bd.method).1
  have X0 : Stand p l e ({ frames := 1, cells := 0, slots := 0, locals := 14 } : Room) s m #[(.int (Int32.ofNat xo)), (.int (Int32.ofNat xg)), (.int (Int32.ofNat xq))] below meth c s₁ [] 0 0 := Stand.of_body Bd
  have e0 : s₁.heap = h0 := by rw [← hh, Bd.state]; rfl
  have N0 := Fr.nil n0
  show oE p e below s 0 0 (Qnl Z xo xg xq h0 n0) (s₁.setTop (entryFrame m #[(.int (Int32.ofNat xo)), (.int (Int32.ofNat xg)), (.int (Int32.ofNat xq))] 4))
  refine oS (fun t k => castTop (ef_rmnl m xo xg xq) k) ?_
  show oE p e below s _ _ _ (s₁.setTop (mkF m 0 #[.val (.int (Int32.ofNat xo)), .val (.int (Int32.ofNat xg)), .val (.int (Int32.ofNat xq)), .unset] []))
  refine oS (fun _ k_ => XS.iloadN X0.here hx rfl (hb hby d50_0) rfl (XS.iloadN X0.here hx rfl (hb hby d50_1) rfl (XS.iloadN X0.here hx rfl (hb hby d50_2) rfl k_))) ?_
  obtain ⟨T13, L13, X13, N13, e13, st13⟩ := cl_rmmax X0 hw hZ hx hown (wd_ hw 284 rfl) xg xq Z0 (by omega) (by omega) e0 N0 hml rfl (hb hby d50_3) (Ls := #[.val (.int (Int32.ofNat xo)), .val (.int (Int32.ofNat xg)), .val (.int (Int32.ofNat xq)), .unset]) (rest := [(.int (Int32.ofNat xo))]) rfl
  refine oS (fun _ k_ => st13 _ k_) ?_
  refine oS (fun _ k_ => XS.iadd X13.here hx rfl (hb hby d50_6) rfl k_) ?_
  show oE p e below s _ _ _ (T13.setTop (mkF m 7 #[.val (.int (Int32.ofNat xo)), .val (.int (Int32.ofNat xg)), .val (.int (Int32.ofNat xq)), .unset] [(.int ((Int32.ofNat xo) + (Int32.ofNat (max xg xq))))]))
  rw [own_add]
  refine oS (fun _ k_ => XS.istoreN X13.here hx rfl (hb hby d50_7) rfl (l' := #[.val (.int (Int32.ofNat xo)), .val (.int (Int32.ofNat xg)), .val (.int (Int32.ofNat xq)), .val (.int (Int32.ofNat (xo + max xg xq)))]) rfl (XS.iconst X13.here hx rfl (hb hby d50_8) (XS.iloadN X13.here hx rfl (hb hby d50_9) rfl (XS.icmpNo X13.here hx rfl (hb hby d50_10) rfl (XT.ii_ge_f ((own_ltN (a := 0) (by omega) (by omega)).mpr (by omega) : (0 : Int32) < (Int32.ofNat (xo + max xg xq)))) (XS.iloadN X13.here hx rfl (hb hby d50_13) rfl (X13.ldcI hx hown (mvT hZ (wd_ hw 287 rfl)) rfl (hb hby d50_14) (XS.icmpNo X13.here hx rfl (hb hby d50_16) rfl (XT.ii_gt_f (fun z => absurd ((own_ltN (a := 2147483639) (by omega) (by omega)).mp z) (by omega) : ¬ ((2147483639 : Int32) < (Int32.ofNat (xo + max xg xq))))) (XS.iloadN X13.here hx rfl (hb hby d50_19) rfl k_)))))))) ?_
  exact own_retI X13 hx hret hlk (hb hby d50_20) (by decide) (by decide) ⟨rfl, N13, e13⟩
def b_49 := jdk_68_method_10_code
theorem d49_0 : decode b_49 0 = .ok (.aload_n 0, 1) := by decide +kernel
theorem d49_1 : decode b_49 1 = .ok (.getfield 15, 3) := by decide +kernel
theorem d49_4 : decode b_49 4 = .ok (.arraylength, 1) := by decide +kernel
theorem d49_5 : decode b_49 5 = .ok (.istore_n 2, 1) := by decide +kernel
theorem d49_6 : decode b_49 6 = .ok (.iload_n 1, 1) := by decide +kernel
theorem d49_7 : decode b_49 7 = .ok (.aload_n 0, 1) := by decide +kernel
theorem d49_8 : decode b_49 8 = .ok (.getfield 22, 3) := by decide +kernel
theorem d49_11 : decode b_49 11 = .ok (.ishl, 1) := by decide +kernel
theorem d49_12 : decode b_49 12 = .ok (.istore_n 3, 1) := by decide +kernel
theorem d49_13 : decode b_49 13 = .ok (.iload_n 3, 1) := by decide +kernel
theorem d49_14 : decode b_49 14 = .ok (.iload_n 2, 1) := by decide +kernel
theorem d49_15 : decode b_49 15 = .ok (.isub, 1) := by decide +kernel
theorem d49_16 : decode b_49 16 = .ok (.istore 4, 2) := by decide +kernel
theorem d49_18 : decode b_49 18 = .ok (.iload_n 2, 1) := by decide +kernel
theorem d49_19 : decode b_49 19 = .ok (.iload 4, 2) := by decide +kernel
theorem d49_21 : decode b_49 21 = .ok (.iload_n 2, 1) := by decide +kernel
theorem d49_22 : decode b_49 22 = .ok (.iconst 2, 1) := by decide +kernel
theorem d49_23 : decode b_49 23 = .ok (.aload_n 0, 1) := by decide +kernel
theorem d49_24 : decode b_49 24 = .ok (.getfield 22, 3) := by decide +kernel
theorem d49_27 : decode b_49 27 = .ok (.ishl, 1) := by decide +kernel
theorem d49_28 : decode b_49 28 = .ok (.iadd, 1) := by decide +kernel
theorem d49_29 : decode b_49 29 = .ok (.invokestatic 114, 3) := by decide +kernel
theorem d49_32 : decode b_49 32 = .ok (.istore 5, 2) := by decide +kernel
theorem d49_34 : decode b_49 34 = .ok (.iload 5, 2) := by decide +kernel
theorem d49_36 : decode b_49 36 = .ok (.ldc 39, 2) := by decide +kernel
theorem d49_38 : decode b_49 38 = .ok (.if_icmp .ne 13, 3) := by decide +kernel
theorem d49_51 : decode b_49 51 = .ok (.iload 5, 2) := by decide +kernel
theorem d49_53 : decode b_49 53 = .ok (.aload_n 0, 1) := by decide +kernel
theorem d49_54 : decode b_49 54 = .ok (.getfield 22, 3) := by decide +kernel
theorem d49_57 : decode b_49 57 = .ok (.ishr, 1) := by decide +kernel
theorem d49_58 : decode b_49 58 = .ok (.ireturn, 1) := by decide +kernel
theorem pn_4 : plainName "java/lang/AbstractStringBuilder" = true := by first | (simp [plainName, overriddenIn]; done) | decide +kernel
theorem pd_8 : parseMethodDescriptor "(III)I" = some ⟨[.int, .int, .int], some .int⟩ := by decide +kernel
theorem cl_rmnl (X : Stand p l e R s m args below meth c T locs cells slots) (hw : ∀ d ∈ tables_1, d.before a0 Z = true) (hZ : Z.Warmed39 s.vm) (hx : p.tables.exec = Jvm.exec) (hown : s.vm.findClass own = some m.cls) (lk : (Cond.methodLink own index (⟨"jdk/internal/util/ArraysSupport", "newLength", "(III)I"⟩ : MethodName)).before a0 Z = true) (xo xg xq : Nat) (Z0 : n0 ≤ h0.size) (ho : xo < 1000) (hg0 : 0 < xg) (hg : xg < 1000) (hq : xq < 1000) (eT : T.heap = h0) (N : Fr n0 locs) (hml : c.maxLocals = kml) (hsz : Ls.size = kml) (hd : decode c.code pc = .ok (.invokestatic index, 3)) (hr : own_rm ({ frames := 1, cells := 0, slots := 0, locals := 14 } : Room) 4 R rest cells slots = true) :
    ∃ T' L', Stand p l e R s m args below meth c T' L' (cells + 0) (slots + 0) ∧ Fr n0 L' ∧ T'.heap = h0 ∧ ∀ t, Steps p.tables e below (T'.setTop (mkF m (pc + 3) Ls ((.int (Int32.ofNat (xo + max xg xq))) :: rest))) t → Steps p.tables e below (T.setTop (mkF m pc Ls ((.int (Int32.ofNat xq)) :: (.int (Int32.ofNat xg)) :: (.int (Int32.ofNat xo)) :: rest))) t := by
  obtain ⟨v, T', L, X', hQ, sq⟩ := own_cS (argsL := [(.int (Int32.ofNat xo)), (.int (Int32.ofNat xg)), (.int (Int32.ofNat xq))]) (rest := rest) (rmnl l Z a0 hw [] xo xg xq h0 n0 Z0 ho hg0 hg hq) pd_8 rfl (wd_ hw 283 rfl) (wd_ hw 282 rfl) (wd_ hw 281 rfl) (by decide) hZ hx hown X lk eT hml hsz hd hr
  obtain ⟨rfl, Nq, eq_⟩ := hQ
  exact ⟨T', _, X', Fr.app N Nq, eq_, sq⟩
theorem ef_rmnc (m : MethodId) (sb : Addr) (mn : Nat) : entryFrame m #[(.ref sb), (.int (Int32.ofNat mn))] 6 = mkF m 0 #[.val (.ref sb), .val (.int (Int32.ofNat mn)), .unset, .unset, .unset, .unset] [] := by first | (simp [entryFrame, mkF, argsToLocals, Value.category]; done) | rfl
def Qnc (Z : State) (sb : Addr) (va : Addr) (ct : List Nat) (mn : Nat) (h0 : Heap) (n0 : Nat) (v : Option Value) (h : Heap) (L : List Loc) : Prop := v = some (.int (Int32.ofNat (own_gr ct.length mn))) ∧ Fr n0 L ∧ h = h0
theorem rmnc (l : Launch) (Z : State) (a0 : Array Value) (hw : ∀ d ∈ tables_1, d.before a0 Z = true) (ws : List Jvm.Cond) (sb : Addr) (va : Addr) (ct : List Nat) (mn : Nat) (h0 : Heap) (n0 : Nat) (Z0 : n0 ≤ h0.size) (V0 : Fld Z h0 sb "java/lang/AbstractStringBuilder" "value" "[B" (.ref va)) (C0 : Fld Z h0 sb "java/lang/AbstractStringBuilder" "coder" "B" (.int 0)) (B0 : own_By Z h0 va ct) (h1 : ct.length < mn) (h2 : mn ≤ 200) :
    own_MF l (⟨"java/lang/AbstractStringBuilder", "newCapacity", "(I)I"⟩ : MethodName) jdk_68_method_10_code 6 (some .int) ws ({ frames := 2, cells := 0, slots := 0, locals := 40 } : Room) #[(.ref sb), (.int (Int32.ofNat mn))] Z h0 (Qnc Z sb va ct mn h0 n0) := by
  refine MetFree.of_bodySF (plainFor_of_name pn_4) hisR ?_
  intro p e s m args below meth c s₁ Bd hml0 hP hK
  obtain ⟨rfl, hZ, hh⟩ := hP
  have hx := Bd.exec
  have hby := Bd.bytes
  have hlk : meth.locks = false := BodyLoose.notSynchronized Bd
  have hret := Bd.returns
  have hml : c.maxLocals = 6 := hml0
  have hown : s.vm.findClass "java/lang/AbstractStringBuilder" = some m.cls := findClass_of_methodNamed Bd.named
  have hnm := (name_of_methodNamed Bd.named Bd.method).1
  have X0 : Stand p l e ({ frames := 2, cells := 0, slots := 0, locals := 40 } : Room) s m #[(.ref sb), (.int (Int32.ofNat mn))] below meth c s₁ [] 0 0 := Stand.of_body Bd
  have e0 : s₁.heap = h0 := by rw [← hh, Bd.state]; rfl
  have N0 := Fr.nil n0
  show oE p e below s 0 0 (Qnc Z sb va ct mn h0 n0) (s₁.setTop (entryFrame m #[(.ref sb), (.int (Int32.ofNat mn))] 6))
  refine oS (fun t k => castTop (ef_rmnc m sb mn) k) ?_
  show oE p e below s _ _ _ (s₁.setTop (mkF m 0 #[.val (.ref sb), .val (.int (Int32.ofNat mn)), .unset, .unset, .unset, .unset] []))
  refine oS (fun _ k_ => XS.aloadN X0.here hx rfl (hb hby d49_0) rfl rfl k_) ?_
  obtain ⟨T14, X14, e14, st14⟩ := getF X0 hx hZ hown (host := "") (Or.inl (wd_ hw 88 rfl)) Via.refl e0 V0 (g := (mkF m 1 #[.val (.ref sb), .val (.int (Int32.ofNat mn)), .unset, .unset, .unset, .unset] [(.ref sb)])) rfl rfl (hb hby d49_1)
  refine oS (fun _ k_ => st14 _ k_) ?_
  refine oS (fun _ k_ => own_alen X14 hx hZ e14 (B0).1 (n := (ct).length) (z := (Int32.ofNat (ct).length)) (own_V_len _) rfl (hb hby d49_4) _ (XS.istoreN X14.here hx rfl (hb hby d49_5) rfl (l' := #[.val (.ref sb), .val (.int (Int32.ofNat mn)), .val (.int (Int32.ofNat (ct).length)), .unset, .unset, .unset]) rfl (XS.iloadN X14.here hx rfl (hb hby d49_6) rfl (XS.aloadN X14.here hx rfl (hb hby d49_7) rfl rfl k_)))) ?_
  obtain ⟨T15, X15, e15, st15⟩ := getF X14 hx hZ hown (host := "") (Or.inl (wd_ hw 90 rfl)) Via.refl e14 C0 (g := (mkF m 8 #[.val (.ref sb), .val (.int (Int32.ofNat mn)), .val (.int (Int32.ofNat (ct).length)), .unset, .unset, .unset] [(.ref sb), (.int (Int32.ofNat mn))])) rfl rfl (hb hby d49_8)
  refine oS (fun _ k_ => st15 _ k_) ?_
  refine oS (fun _ k_ => XS.ishl X15.here hx rfl (hb hby d49_11) rfl k_) ?_
  show oE p e below s _ _ _ (T15.setTop (mkF m 12 #[.val (.ref sb), .val (.int (Int32.ofNat mn)), .val (.int (Int32.ofNat (ct).length)), .unset, .unset, .unset] [(.int ((Int32.ofNat mn) <<< ((0 : Int32) &&& 31)))]))
  rw [own_shl0]
  refine oS (fun _ k_ => XS.istoreN X15.here hx rfl (hb hby d49_12) rfl (l' := #[.val (.ref sb), .val (.int (Int32.ofNat mn)), .val (.int (Int32.ofNat (ct).length)), .val (.int (Int32.ofNat mn)), .unset, .unset]) rfl (XS.iloadN X15.here hx rfl (hb hby d49_13) rfl (XS.iloadN X15.here hx rfl (hb hby d49_14) rfl (XS.isub X15.here hx rfl (hb hby d49_15) rfl k_)))) ?_
  show oE p e below s _ _ _ (T15.setTop (mkF m 16 #[.val (.ref sb), .val (.int (Int32.ofNat mn)), .val (.int (Int32.ofNat (ct).length)), .val (.int (Int32.ofNat mn)), .unset, .unset] [(.int ((Int32.ofNat mn) - (Int32.ofNat (ct).length)))]))
  rw [own_sub (Nat.le_of_lt h1)]
  refine oS (fun _ k_ => XS.istore X15.here hx rfl (hb hby d49_16) rfl (l' := #[.val (.ref sb), .val (.int (Int32.ofNat mn)), .val (.int (Int32.ofNat (ct).length)), .val (.int (Int32.ofNat mn)), .val (.int (Int32.ofNat (mn - ct.length))), .unset]) rfl (XS.iloadN X15.here hx rfl (hb hby d49_18) rfl (XS.iload X15.here hx rfl (hb hby d49_19) rfl (XS.iloadN X15.here hx rfl (hb hby d49_21) rfl (XS.iconst X15.here hx rfl (hb hby d49_22) (XS.aloadN X15.here hx rfl (hb hby d49_23) rfl rfl k_)))))) ?_
  obtain ⟨T16, X16, e16, st16⟩ := getF X15 hx hZ hown (host := "") (Or.inl (wd_ hw 90 rfl)) Via.refl e15 C0 (g := (mkF m 24 #[.val (.ref sb), .val (.int (Int32.ofNat mn)), .val (.int (Int32.ofNat (ct).length)), .val (.int (Int32.ofNat mn)), .val (.int (Int32.ofNat (mn - ct.length))), .unset] [(.ref sb), (.int (2 : Int32)), (.int (Int32.ofNat (ct).length)), (.int (Int32.ofNat (mn - ct.length))), (.int (Int32.ofNat (ct).length))])) rfl rfl (hb hby d49_24)
  refine oS (fun _ k_ => st16 _ k_) ?_
  refine oS (fun _ k_ => XS.ishl X16.here hx rfl (hb hby d49_27) rfl k_) ?_
  rw [show ((2 : Int32) <<< ((0 : Int32) &&& 31)) = (2 : Int32) from by decide]
  show oE p e below s _ _ _ (T16.setTop (mkF m 28 #[.val (.ref sb), .val (.int (Int32.ofNat mn)), .val (.int (Int32.ofNat (ct).length)), .val (.int (Int32.ofNat mn)), .val (.int (Int32.ofNat (mn - ct.length))), .unset] [(.int (2 : Int32)), (.int (Int32.ofNat (ct).length)), (.int (Int32.ofNat (mn - ct.length))), (.int (Int32.ofNat (ct).length))]))
  refine oS (fun _ k_ => XS.iadd X16.here hx rfl (hb hby d49_28) rfl k_) ?_
  show oE p e below s _ _ _ (T16.setTop (mkF m 29 #[.val (.ref sb), .val (.int (Int32.ofNat mn)), .val (.int (Int32.ofNat (ct).length)), .val (.int (Int32.ofNat mn)), .val (.int (Int32.ofNat (mn - ct.length))), .unset] [(.int ((Int32.ofNat (ct).length) + (2 : Int32))), (.int (Int32.ofNat (mn - ct.length))), (.int (Int32.ofNat (ct).length))]))
  rw [show Int32.ofNat ct.length + (2 : Int32) = Int32.ofNat (ct.length + 2) from own_add _ 2]
  obtain ⟨T17, L17, X17, N17, e17, st17⟩ := cl_rmnl X16 hw hZ hx hown (wd_ hw 280 rfl) ct.length (mn - ct.length) (ct.length + 2) Z0 (by omega) (by omega) (by omega) (by omega) e16 N0 hml rfl (hb hby d49_29) (Ls := #[.val (.ref sb), .val (.int (Int32.ofNat mn)), .val (.int (Int32.ofNat (ct).length)), .val (.int (Int32.ofNat mn)), .val (.int (Int32.ofNat (mn - ct.length))), .unset]) (rest := []) rfl
  refine oS (fun _ k_ => st17 _ k_) ?_
  refine oS (fun _ k_ => XS.istore X17.here hx rfl (hb hby d49_32) rfl (l' := #[.val (.ref sb), .val (.int (Int32.ofNat mn)), .val (.int (Int32.ofNat (ct).length)), .val (.int (Int32.ofNat mn)), .val (.int (Int32.ofNat (mn - ct.length))), .val (.int (Int32.ofNat (own_gr ct.length mn)))]) rfl (XS.iload X17.here hx rfl (hb hby d49_34) rfl (X17.ldcI hx hown (mvT hZ (wd_ hw 288 rfl)) rfl (hb hby d49_36) (XS.icmpYes X17.here hx rfl (pc0 := 38) (pc' := 51) rfl (hb hby d49_38) rfl (XT.ii_ne_t (fun z => absurd ((own_eqN (b := 2147483647) (by simp only [own_gr]; omega) (by omega)).mp z) (by simp only [own_gr]; omega) : ¬ ((Int32.ofNat (own_gr ct.length mn)) = (2147483647 : Int32)))) (by decide) (by decide) (XS.iload X17.here hx rfl (hb hby d49_51) rfl (XS.aloadN X17.here hx rfl (hb hby d49_53) rfl rfl k_)))))) ?_
  obtain ⟨T18, X18, e18, st18⟩ := getF X17 hx hZ hown (host := "") (Or.inl (wd_ hw 90 rfl)) Via.refl e17 C0 (g := (mkF m 54 #[.val (.ref sb), .val (.int (Int32.ofNat mn)), .val (.int (Int32.ofNat (ct).length)), .val (.int (Int32.ofNat mn)), .val (.int (Int32.ofNat (mn - ct.length))), .val (.int (Int32.ofNat (own_gr ct.length mn)))] [(.ref sb), (.int (Int32.ofNat (own_gr ct.length mn)))])) rfl rfl (hb hby d49_54)
  refine oS (fun _ k_ => st18 _ k_) ?_
  refine oS (fun _ k_ => XS.ishr X18.here hx rfl (hb hby d49_57) rfl k_) ?_
  show oE p e below s _ _ _ (T18.setTop (mkF m 58 #[.val (.ref sb), .val (.int (Int32.ofNat mn)), .val (.int (Int32.ofNat (ct).length)), .val (.int (Int32.ofNat mn)), .val (.int (Int32.ofNat (mn - ct.length))), .val (.int (Int32.ofNat (own_gr ct.length mn)))] [(.int ((Int32.ofNat (own_gr ct.length mn)) >>> ((0 : Int32) &&& 31)))]))
  rw [own_shr0]
  exact own_retI X18 hx hret hlk (hb hby d49_58) (by decide) (by decide) ⟨rfl, N17, e18⟩
def b_52 := jdk_65_method_121_code
theorem d52_0 : decode b_52 0 = .ok (.iload_n 1, 1) := by decide +kernel
theorem d52_1 : decode b_52 1 = .ok (.aload_n 0, 1) := by decide +kernel
theorem d52_2 : decode b_52 2 = .ok (.arraylength, 1) := by decide +kernel
theorem d52_3 : decode b_52 3 = .ok (.if_icmp .ne 11, 3) := by decide +kernel
theorem d52_14 : decode b_52 14 = .ok (.iload_n 1, 1) := by decide +kernel
theorem d52_15 : decode b_52 15 = .ok (.newarray .byte, 2) := by decide +kernel
theorem d52_17 : decode b_52 17 = .ok (.astore_n 2, 1) := by decide +kernel
theorem d52_18 : decode b_52 18 = .ok (.aload_n 0, 1) := by decide +kernel
theorem d52_19 : decode b_52 19 = .ok (.iconst 0, 1) := by decide +kernel
theorem d52_20 : decode b_52 20 = .ok (.aload_n 2, 1) := by decide +kernel
theorem d52_21 : decode b_52 21 = .ok (.iconst 0, 1) := by decide +kernel
theorem d52_22 : decode b_52 22 = .ok (.aload_n 0, 1) := by decide +kernel
theorem d52_23 : decode b_52 23 = .ok (.arraylength, 1) := by decide +kernel
theorem d52_24 : decode b_52 24 = .ok (.iload_n 1, 1) := by decide +kernel
theorem d52_25 : decode b_52 25 = .ok (.invokestatic 304, 3) := by decide +kernel
theorem d52_28 : decode b_52 28 = .ok (.invokestatic 150, 3) := by decide +kernel
theorem d52_31 : decode b_52 31 = .ok (.aload_n 2, 1) := by decide +kernel
theorem d52_32 : decode b_52 32 = .ok (.areturn, 1) := by decide +kernel
theorem pn_5 : plainName "java/util/Arrays" = true := by first | (simp [plainName, overriddenIn]; done) | decide +kernel
theorem pd_9 : parseMethodDescriptor "()Ljava/lang/Object;" = some ⟨[], some (.object "java/lang/Object")⟩ := by decide +kernel
theorem pd_10 : parseMethodDescriptor "(Ljava/lang/Object;ILjava/lang/Object;II)V" = some ⟨[(.object "java/lang/Object"), .int, (.object "java/lang/Object"), .int, .int], none⟩ := by decide +kernel
theorem pd_11 : parseMethodDescriptor "(I)I" = some ⟨[.int], some .int⟩ := by decide +kernel
theorem cl_rmnc (X : Stand p l e R s m args below meth c T locs cells slots) (hw : ∀ d ∈ tables_1, d.before a0 Z = true) (hZ : Z.Warmed39 s.vm) (hx : p.tables.exec = Jvm.exec) (hown : s.vm.findClass own = some m.cls) (lk : (Cond.methodLink own index (⟨"java/lang/AbstractStringBuilder", "newCapacity", "(I)I"⟩ : MethodName)).before a0 Z = true) (sb : Addr) (va : Addr) (ct : List Nat) (mn : Nat) (Z0 : n0 ≤ h0.size) (V0 : Fld Z h0 sb "java/lang/AbstractStringBuilder" "value" "[B" (.ref va)) (C0 : Fld Z h0 sb "java/lang/AbstractStringBuilder" "coder" "B" (.int 0)) (B0 : own_By Z h0 va ct) (h1 : ct.length < mn) (h2 : mn ≤ 200) (eT : T.heap = h0) {K_ : String} (E_ : Exa Z h0 sb K_) (N : Fr n0 locs) (hml : c.maxLocals = kml) (hsz : Ls.size = kml) (hd : decode c.code pc = .ok (.invokevirtual index, 3)) (hr : own_rm ({ frames := 2, cells := 0, slots := 0, locals := 40 } : Room) 6 R rest cells slots = true) :
    ∃ T' L', Stand p l e R s m args below meth c T' L' (cells + 0) (slots + 0) ∧ Fr n0 L' ∧ T'.heap = h0 ∧ ∀ t, Steps p.tables e below (T'.setTop (mkF m (pc + 3) Ls ((.int (Int32.ofNat (own_gr ct.length mn))) :: rest))) t → Steps p.tables e below (T.setTop (mkF m pc Ls ((.int (Int32.ofNat mn)) :: (.ref sb) :: rest))) t := by
  obtain ⟨v, T', L, X', hQ, sq⟩ := own_cP (argsL := [(.int (Int32.ofNat mn))]) (rest := rest) (rmnc l Z a0 hw [] sb va ct mn h0 n0 Z0 V0 C0 B0 h1 h2) pd_11 rfl (wd_ hw 279 rfl) (wd_ hw 84 rfl) (wd_ hw 276 rfl) (wd_ hw 277 rfl) (wd_ hw 278 rfl) (by decide) hZ hx hown X lk eT E_ hml hsz hd hr
  obtain ⟨rfl, Nq, eq_⟩ := hQ
  exact ⟨T', _, X', Fr.app N Nq, eq_, sq⟩
theorem ef_rmco (m : MethodId) (va : Addr) (nw : Nat) : entryFrame m #[(.ref va), (.int (Int32.ofNat nw))] 3 = mkF m 0 #[.val (.ref va), .val (.int (Int32.ofNat nw)), .unset] [] := by first | (simp [entryFrame, mkF, argsToLocals, Value.category]; done) | rfl
def Qco (Z : State) (va : Addr) (ct : List Nat) (nw : Nat) (h0 : Heap) (n0 : Nat) (v : Option Value) (h : Heap) (L : List Loc) : Prop := Fr n0 L ∧ Keep h0 h [] ∧ ∃ ra, v = some (.ref ra) ∧ h0.size ≤ ra ∧ own_By Z h ra (ct ++ List.replicate (nw - ct.length) 0) ∧ Exa Z h ra "[B"
theorem rmco (l : Launch) (Z : State) (a0 : Array Value) (hw : ∀ d ∈ tables_1, d.before a0 Z = true) (ws : List Jvm.Cond) (va : Addr) (ct : List Nat) (nw : Nat) (h0 : Heap) (n0 : Nat) (Z0 : n0 ≤ h0.size) (B0 : own_By Z h0 va ct) (h1 : ct.length < nw) (h2 : nw ≤ 420) :
    own_MF l (⟨"java/util/Arrays", "copyOf", "([BI)[B"⟩ : MethodName) jdk_65_method_121_code 3 (some (.array .byte)) ws ({ frames := 1, cells := 1, slots := 420, locals := 40 } : Room) #[(.ref va), (.int (Int32.ofNat nw))] Z h0 (Qco Z va ct nw h0 n0) := by
  refine MetFree.of_bodySF (plainFor_of_name pn_5) hisR ?_
  intro p e s m args below meth c s₁ Bd hml0 hP hK
  obtain ⟨rfl, hZ, hh⟩ := hP
  have hx := Bd.exec
  have hby := Bd.bytes
  have hlk : meth.locks = false := BodyLoose.notSynchronized Bd
  have hret := Bd.returns
  have hml : c.maxLocals = 3 := hml0
  have hown : s.vm.findClass "java/util/Arrays" = some m.cls := findClass_of_methodNamed Bd.named
  have hnm := (name_of_methodNamed Bd.named Bd.method).1
  have X0 : Stand p l e ({ frames := 1, cells := 1, slots := 420, locals := 40 } : Room) s m #[(.ref va), (.int (Int32.ofNat nw))] below meth c s₁ [] 0 0 := Stand.of_body Bd
  have e0 : s₁.heap = h0 := by rw [← hh, Bd.state]; rfl
  have N0 := Fr.nil n0
  show oE p e below s 1 420 (Qco Z va ct nw h0 n0) (s₁.setTop (entryFrame m #[(.ref va), (.int (Int32.ofNat nw))] 3))
  refine oS (fun t k => castTop (ef_rmco m va nw) k) ?_
  show oE p e below s _ _ _ (s₁.setTop (mkF m 0 #[.val (.ref va), .val (.int (Int32.ofNat nw)), .unset] []))
  have hbl := B0.len
  refine oS (fun _ k_ => XS.iloadN X0.here hx rfl (hb hby d52_0) rfl (XS.aloadN X0.here hx rfl (hb hby d52_1) rfl rfl (own_alen X0 hx hZ e0 (B0).1 (n := (ct).length) (z := (Int32.ofNat (ct).length)) (own_V_len _) rfl (hb hby d52_2) _ (XS.icmpYes X0.here hx rfl (pc0 := 3) (pc' := 14) rfl (hb hby d52_3) rfl (XT.ii_ne_t (fun z => absurd ((own_eqN (by omega) (by omega)).mp z) (by omega) : ¬ ((Int32.ofNat nw) = (Int32.ofNat (ct).length)))) (by decide) (by decide) (XS.iloadN X0.here hx rfl (hb hby d52_14) rfl k_))))) ?_
  obtain ⟨T19, h19, k19, X19, e19, E19, A19, Ex19, st19⟩ := newPE X0 hx hZ (wd_ hw 30 rfl) e0 (g := (mkF m 15 #[.val (.ref va), .val (.int (Int32.ofNat nw)), .unset] [(.int (Int32.ofNat nw))])) rfl (hb hby d52_15) rfl (own_nn (by omega)) (cap := 420) (by rw [own_nc (by omega)]; exact h2) (by decide) (by decide : 0 + 1 ≤ _) (by decide : 0 + 420 ≤ _) (ad := "[B") rfl
  obtain ⟨b19, g19⟩ : ∃ z, z = h0.size := ⟨_, rfl⟩
  rw [← g19] at A19 Ex19 st19
  have ne_va_b19 : va ≠ b19 := Nat.ne_of_lt (Nat.lt_of_lt_of_le (B0).lt (Nat.le_of_eq g19.symm))
  have n0_b19 : n0 ≤ b19 := Nat.le_trans Z0 (Nat.le_of_eq g19.symm)
  have h0_b19 : h0.size ≤ b19 := Nat.le_trans ((Keep.refl h0 [])).1 (Nat.le_of_eq g19.symm)
  have B_va_19 := (B0).ext E19
  have K19 := ((Keep.refl h0 [])).ext E19
  have Zs19 := Nat.le_trans Z0 E19.1
  have B_b19 : own_By Z h19 b19 (List.replicate nw 0) := own_By.zero (by omega) A19
  refine oS (fun _ k_ => st19 _ k_) ?_
  refine oS (fun _ k_ => XS.astoreN X19.here hx rfl (hb hby d52_17) rfl rfl (l' := #[.val (.ref va), .val (.int (Int32.ofNat nw)), .val (.ref b19)]) rfl (XS.aloadN X19.here hx rfl (hb hby d52_18) rfl rfl (XS.iconst X19.here hx rfl (hb hby d52_19) (XS.aloadN X19.here hx rfl (hb hby d52_20) rfl rfl (XS.iconst X19.here hx rfl (hb hby d52_21) (XS.aloadN X19.here hx rfl (hb hby d52_22) rfl rfl (own_alen X19 hx hZ e19 (B_va_19).1 (n := (ct).length) (z := (Int32.ofNat (ct).length)) (own_V_len _) rfl (hb hby d52_23) _ (XS.iloadN X19.here hx rfl (hb hby d52_24) rfl k_)))))))) ?_
  obtain ⟨T20, L20, X20, N20, e20, st20⟩ := cl_rmmin X19 hw hZ hx hown (wd_ hw 204 rfl) ct.length nw Zs19 (by omega) (by omega) e19 N0 hml rfl (hb hby d52_25) (Ls := #[.val (.ref va), .val (.int (Int32.ofNat nw)), .val (.ref b19)]) (rest := [(.int (0 : Int32)), (.ref b19), (.int (0 : Int32)), (.ref va)]) rfl
  refine oS (fun _ k_ => st20 _ k_) ?_
  obtain ⟨T21, _, L21, X21, rfl, N21, K21_, B21_, st21⟩ := own_cp X20 hx hZ hown (wd_ hw 208 rfl) (wd_ hw 142 rfl) (wd_ hw 140 rfl) (wd_ hw 141 rfl) e20 (xs := ct) (ys := []) (ps := []) (ms := (List.replicate ct.length 0)) (qs := (List.replicate (nw - ct.length) 0)) ((B_va_19).cast (List.append_nil ct).symm) ((B_b19).cast (by rw [List.nil_append, List.replicate_append_replicate]; congr 1; omega)) List.length_replicate rfl (by congr 1; omega) N20 n0_b19 (g := (mkF m 28 #[.val (.ref va), .val (.int (Int32.ofNat nw)), .val (.ref b19)] [(.int (Int32.ofNat (min ct.length nw))), (.int (0 : Int32)), (.ref b19), (.int (0 : Int32)), (.ref va)])) rfl (by rw [hml]; rfl) rfl (hb hby d52_28) (by decide) (W := 0) (by show 2 * 0 + _ ≤ _; exact Nat.le_of_eq rfl) (by decide)
  have C21_ := B21_.cast (ys := (ct ++ List.replicate (nw - ct.length) 0)) (by rw [List.nil_append])
  have B_va_21 := (B_va_19).keep K21_ (ninS ne_va_b19 nin0)
  have E_b19_21 := (Ex19).keep K21_
  have K21 := (K19).trans K21_ (allS (Or.inr h0_b19) all0)
  have Zs21 := Nat.le_trans Zs19 K21_.1
  refine oS (fun _ k_ => st21 _ k_) ?_
  refine oS (fun _ k_ => XS.aloadN X21.here hx rfl (hb hby d52_31) rfl rfl k_) ?_
  exact own_retR X21 hx hret rfl rfl rfl hlk (hb hby d52_32) (by decide) (by decide) (by exact ⟨N21, K21, _, rfl, h0_b19, C21_, E_b19_21⟩)
def b_16 := jdk_68_method_9_code
theorem d16_0 : decode b_16 0 = .ok (.aload_n 0, 1) := by decide +kernel
theorem d16_1 : decode b_16 1 = .ok (.getfield 15, 3) := by decide +kernel
theorem d16_4 : decode b_16 4 = .ok (.arraylength, 1) := by decide +kernel
theorem d16_5 : decode b_16 5 = .ok (.aload_n 0, 1) := by decide +kernel
theorem d16_6 : decode b_16 6 = .ok (.getfield 22, 3) := by decide +kernel
theorem d16_9 : decode b_16 9 = .ok (.ishr, 1) := by decide +kernel
theorem d16_10 : decode b_16 10 = .ok (.istore_n 2, 1) := by decide +kernel
theorem d16_11 : decode b_16 11 = .ok (.iload_n 1, 1) := by decide +kernel
theorem d16_12 : decode b_16 12 = .ok (.iload_n 2, 1) := by decide +kernel
theorem d16_13 : decode b_16 13 = .ok (.isub, 1) := by decide +kernel
theorem d16_14 : decode b_16 14 = .ok (.ifCond .le 24, 3) := by decide +kernel
theorem d16_17 : decode b_16 17 = .ok (.aload_n 0, 1) := by decide +kernel
theorem d16_18 : decode b_16 18 = .ok (.aload_n 0, 1) := by decide +kernel
theorem d16_19 : decode b_16 19 = .ok (.getfield 15, 3) := by decide +kernel
theorem d16_22 : decode b_16 22 = .ok (.aload_n 0, 1) := by decide +kernel
theorem d16_23 : decode b_16 23 = .ok (.iload_n 1, 1) := by decide +kernel
theorem d16_24 : decode b_16 24 = .ok (.invokevirtual 104, 3) := by decide +kernel
theorem d16_27 : decode b_16 27 = .ok (.aload_n 0, 1) := by decide +kernel
theorem d16_28 : decode b_16 28 = .ok (.getfield 22, 3) := by decide +kernel
theorem d16_31 : decode b_16 31 = .ok (.ishl, 1) := by decide +kernel
theorem d16_32 : decode b_16 32 = .ok (.invokestatic 108, 3) := by decide +kernel
theorem d16_35 : decode b_16 35 = .ok (.putfield 15, 3) := by decide +kernel
theorem d16_38 : decode b_16 38 = .ok (.return_, 1) := by decide +kernel
theorem pd_12 : parseMethodDescriptor "([BI)[B" = some ⟨[(.array .byte), .int], some (.array .byte)⟩ := by decide +kernel
theorem cl_rmco (X : Stand p l e R s m args below meth c T locs cells slots) (hw : ∀ d ∈ tables_1, d.before a0 Z = true) (hZ : Z.Warmed39 s.vm) (hx : p.tables.exec = Jvm.exec) (hown : s.vm.findClass own = some m.cls) (lk : (Cond.methodLink own index (⟨"java/util/Arrays", "copyOf", "([BI)[B"⟩ : MethodName)).before a0 Z = true) (va : Addr) (ct : List Nat) (nw : Nat) (Z0 : n0 ≤ h0.size) (B0 : own_By Z h0 va ct) (h1 : ct.length < nw) (h2 : nw ≤ 420) (eT : T.heap = h0) (hml : c.maxLocals = kml) (hsz : Ls.size = kml) (hd : decode c.code pc = .ok (.invokestatic index, 3)) (hr : own_rm ({ frames := 1, cells := 1, slots := 420, locals := 40 } : Room) 3 R rest cells slots = true) :
    ∃ v T' L, Stand p l e R s m args below meth c T' (locs ++ L) (cells + 1) (slots + 420) ∧ Qco Z va ct nw h0 n0 v T'.heap L ∧ ∀ t, Steps p.tables e below (T'.setTop (mkF m (pc + 3) Ls (v.toList ++ rest))) t → Steps p.tables e below (T.setTop (mkF m pc Ls ((.int (Int32.ofNat nw)) :: (.ref va) :: rest))) t := by
  obtain ⟨v, T', L, X', hQ, sq⟩ := own_cS (argsL := [(.ref va), (.int (Int32.ofNat nw))]) (rest := rest) (rmco l Z a0 hw [] va ct nw h0 n0 Z0 B0 h1 h2) pd_12 rfl (wd_ hw 291 rfl) (wd_ hw 196 rfl) (wd_ hw 290 rfl) (by decide) hZ hx hown X lk eT hml hsz hd hr
  exact ⟨v, T', L, X', hQ, sq⟩
theorem ef_rmec (m : MethodId) (sb : Addr) (mn : Nat) : entryFrame m #[(.ref sb), (.int (Int32.ofNat mn))] 3 = mkF m 0 #[.val (.ref sb), .val (.int (Int32.ofNat mn)), .unset] [] := by first | (simp [entryFrame, mkF, argsToLocals, Value.category]; done) | rfl
def Qec (Z : State) (sb : Addr) (va : Addr) (ct : List Nat) (cn : Int32) (mn : Nat) (h0 : Heap) (n0 : Nat) (v : Option Value) (h : Heap) (L : List Loc) : Prop := v = none ∧ Fr n0 L ∧ Keep h0 h [sb] ∧ ∃ va' k, (va' = va ∨ h0.size ≤ va') ∧ n0 ≤ va' ∧ Fld Z h sb "java/lang/AbstractStringBuilder" "value" "[B" (.ref va') ∧ Fld Z h sb "java/lang/AbstractStringBuilder" "count" "I" (.int cn) ∧ Fld Z h sb "java/lang/AbstractStringBuilder" "coder" "B" (.int 0) ∧ own_By Z h va' (ct ++ List.replicate k 0) ∧ Exa Z h va' "[B" ∧ mn ≤ ct.length + k ∧ ct.length + k ≤ 202
theorem rmec (l : Launch) (Z : State) (a0 : Array Value) (hw : ∀ d ∈ tables_1, d.before a0 Z = true) (ws : List Jvm.Cond) (sb : Addr) (va : Addr) (ct : List Nat) (cn : Int32) (mn : Nat) (h0 : Heap) (n0 : Nat) (Z0 : n0 ≤ h0.size) (E0 : Exa Z h0 sb "java/lang/StringBuilder") (V0 : Fld Z h0 sb "java/lang/AbstractStringBuilder" "value" "[B" (.ref va)) (M0 : Fld Z h0 sb "java/lang/AbstractStringBuilder" "count" "I" (.int cn)) (C0 : Fld Z h0 sb "java/lang/AbstractStringBuilder" "coder" "B" (.int 0)) (B0 : own_By Z h0 va ct) (Y0 : Exa Z h0 va "[B") (g0 : n0 ≤ sb) (g1 : n0 ≤ va) (h2 : mn ≤ 100) (h3 : ct.length ≤ 202) :
    own_MF l (⟨"java/lang/AbstractStringBuilder", "ensureCapacityInternal", "(I)V"⟩ : MethodName) jdk_68_method_9_code 3 none ws ({ frames := 3, cells := 1, slots := 420, locals := 60 } : Room) #[(.ref sb), (.int (Int32.ofNat mn))] Z h0 (Qec Z sb va ct cn mn h0 n0) := by
  refine MetFree.of_bodySF (plainFor_of_name pn_4) hisR ?_
  intro p e s m args below meth c s₁ Bd hml0 hP hK
  obtain ⟨rfl, hZ, hh⟩ := hP
  have hx := Bd.exec
  have hby := Bd.bytes
  have hlk : meth.locks = false := BodyLoose.notSynchronized Bd
  have hret := Bd.returns
  have hml : c.maxLocals = 3 := hml0
  have hown : s.vm.findClass "java/lang/AbstractStringBuilder" = some m.cls := findClass_of_methodNamed Bd.named
  have hnm := (name_of_methodNamed Bd.named Bd.method).1
  have X0 : Stand p l e ({ frames := 3, cells := 1, slots := 420, locals := 60 } : Room) s m #[(.ref sb), (.int (Int32.ofNat mn))] below meth c s₁ [] 0 0 := Stand.of_body Bd
  have e0 : s₁.heap = h0 := by rw [← hh, Bd.state]; rfl
  have N0 := Fr.nil n0
  show oE p e below s 1 420 (Qec Z sb va ct cn mn h0 n0) (s₁.setTop (entryFrame m #[(.ref sb), (.int (Int32.ofNat mn))] 3))
  refine oS (fun t k => castTop (ef_rmec m sb mn) k) ?_
  show oE p e below s _ _ _ (s₁.setTop (mkF m 0 #[.val (.ref sb), .val (.int (Int32.ofNat mn)), .unset] []))
  have ne0 : sb ≠ va := B0.1.ne E0 (wd_ hw 75 rfl)
  refine oS (fun _ k_ => XS.aloadN X0.here hx rfl (hb hby d16_0) rfl rfl k_) ?_
  obtain ⟨T22, X22, e22, st22⟩ := getF X0 hx hZ hown (host := "") (Or.inl (wd_ hw 88 rfl)) Via.refl e0 V0 (g := (mkF m 1 #[.val (.ref sb), .val (.int (Int32.ofNat mn)), .unset] [(.ref sb)])) rfl rfl (hb hby d16_1)
  refine oS (fun _ k_ => st22 _ k_) ?_
  refine oS (fun _ k_ => own_alen X22 hx hZ e22 (B0).1 (n := (ct).length) (z := (Int32.ofNat (ct).length)) (own_V_len _) rfl (hb hby d16_4) _ (XS.aloadN X22.here hx rfl (hb hby d16_5) rfl rfl k_)) ?_
  obtain ⟨T23, X23, e23, st23⟩ := getF X22 hx hZ hown (host := "") (Or.inl (wd_ hw 90 rfl)) Via.refl e22 C0 (g := (mkF m 6 #[.val (.ref sb), .val (.int (Int32.ofNat mn)), .unset] [(.ref sb), (.int (Int32.ofNat (ct).length))])) rfl rfl (hb hby d16_6)
  refine oS (fun _ k_ => st23 _ k_) ?_
  refine oS (fun _ k_ => XS.ishr X23.here hx rfl (hb hby d16_9) rfl k_) ?_
  show oE p e below s _ _ _ (T23.setTop (mkF m 10 #[.val (.ref sb), .val (.int (Int32.ofNat mn)), .unset] [(.int ((Int32.ofNat (ct).length) >>> ((0 : Int32) &&& 31)))]))
  rw [own_shr0]
  refine oS (fun _ k_ => XS.istoreN X23.here hx rfl (hb hby d16_10) rfl (l' := #[.val (.ref sb), .val (.int (Int32.ofNat mn)), .val (.int (Int32.ofNat ct.length))]) rfl (XS.iloadN X23.here hx rfl (hb hby d16_11) rfl (XS.iloadN X23.here hx rfl (hb hby d16_12) rfl (XS.isub X23.here hx rfl (hb hby d16_13) rfl k_)))) ?_
  by_cases hc14 : 0 < ((Int32.ofNat mn) - (Int32.ofNat ct.length))
  · refine oS (fun _ k_ => XS.ifNo X23.here hx rfl (hb hby d16_14) rfl (XT.i0_le_f hc14) k_) ?_
    rw [own_subpos (by omega) (by omega)] at hc14
    refine oS (fun _ k_ => XS.aloadN X23.here hx rfl (hb hby d16_17) rfl rfl (XS.aloadN X23.here hx rfl (hb hby d16_18) rfl rfl k_)) ?_
    obtain ⟨T24, X24, e24, st24⟩ := getF X23 hx hZ hown (host := "") (Or.inl (wd_ hw 88 rfl)) Via.refl e23 V0 (g := (mkF m 19 #[.val (.ref sb), .val (.int (Int32.ofNat mn)), .val (.int (Int32.ofNat ct.length))] [(.ref sb), (.ref sb)])) rfl rfl (hb hby d16_19)
    refine oS (fun _ k_ => st24 _ k_) ?_
    refine oS (fun _ k_ => XS.aloadN X24.here hx rfl (hb hby d16_22) rfl rfl (XS.iloadN X24.here hx rfl (hb hby d16_23) rfl k_)) ?_
    obtain ⟨T25, L25, X25, N25, e25, st25⟩ := cl_rmnc X24 hw hZ hx hown (wd_ hw 275 rfl) sb va ct mn Z0 V0 C0 B0 hc14 (by omega) e24 E0 N0 hml rfl (hb hby d16_24) (Ls := #[.val (.ref sb), .val (.int (Int32.ofNat mn)), .val (.int (Int32.ofNat ct.length))]) (rest := [(.ref va), (.ref sb)]) rfl
    refine oS (fun _ k_ => st25 _ k_) ?_
    refine oS (fun _ k_ => XS.aloadN X25.here hx rfl (hb hby d16_27) rfl rfl k_) ?_
    obtain ⟨T26, X26, e26, st26⟩ := getF X25 hx hZ hown (host := "") (Or.inl (wd_ hw 90 rfl)) Via.refl e25 C0 (g := (mkF m 28 #[.val (.ref sb), .val (.int (Int32.ofNat mn)), .val (.int (Int32.ofNat ct.length))] [(.ref sb), (.int (Int32.ofNat (own_gr ct.length mn))), (.ref va), (.ref sb)])) rfl rfl (hb hby d16_28)
    refine oS (fun _ k_ => st26 _ k_) ?_
    refine oS (fun _ k_ => XS.ishl X26.here hx rfl (hb hby d16_31) rfl k_) ?_
    show oE p e below s _ _ _ (T26.setTop (mkF m 32 #[.val (.ref sb), .val (.int (Int32.ofNat mn)), .val (.int (Int32.ofNat ct.length))] [(.int ((Int32.ofNat (own_gr ct.length mn)) <<< ((0 : Int32) &&& 31))), (.ref va), (.ref sb)]))
    rw [own_shl0]
    obtain ⟨v27, T27, L27, X27, hQ27, st27⟩ := cl_rmco X26 hw hZ hx hown (wd_ hw 289 rfl) va ct (own_gr ct.length mn) Z0 B0 (by simp only [own_gr]; omega) (by simp only [own_gr]; omega) e26 hml rfl (hb hby d16_32) (Ls := #[.val (.ref sb), .val (.int (Int32.ofNat mn)), .val (.int (Int32.ofNat ct.length))]) (rest := [(.ref sb)]) rfl
    obtain ⟨N27q, K27k, ra, rfl, hra, B27r, E27r⟩ := hQ27
    have n0ra : n0 ≤ ra := Nat.le_trans Z0 hra
    have h0ra : h0.size ≤ ra := Nat.le_trans ((Keep.refl h0 [sb])).1 hra
    have ne_sb_ra : sb ≠ ra := Nat.ne_of_lt (Nat.lt_of_lt_of_le (V0).lt hra)
    have ne_va_ra : va ≠ ra := Nat.ne_of_lt (Nat.lt_of_lt_of_le (B0).lt hra)
    have F_sb_value_27 := (V0).keep K27k nin0
    have F_sb_coder_27 := (C0).keep K27k nin0
    have B_va_27 := (B0).keep K27k nin0
    have E_sb_27 := (E0).keep K27k
    have F_sb_count_27 := (M0).keep K27k nin0
    have E_va_27 := (Y0).keep K27k
    have K27 := ((Keep.refl h0 [sb])).trans K27k all0
    have Zs27 := Nat.le_trans Z0 K27k.1
    have N27 := Fr.app N25 N27q
    refine oS (fun _ k_ => st27 _ k_) ?_
    show oE p e below s _ _ _ (T27.setTop (mkF m 35 #[.val (.ref sb), .val (.int (Int32.ofNat mn)), .val (.int (Int32.ofNat ct.length))] [(.ref ra), (.ref sb)]))
    obtain ⟨T28, h28, X28, e28, W28, st28⟩ := putF X27 hx hZ hown (host := "") (Or.inl (wd_ hw 88 rfl)) Via.refl rfl F_sb_value_27 E_sb_27 (Or.inl (wd_ hw 89 rfl)) (wd_ hw 75 rfl) (ty := (.array .byte)) (by decide) rfl rfl (g := (mkF m 35 #[.val (.ref sb), .val (.int (Int32.ofNat mn)), .val (.int (Int32.ofNat ct.length))] [(.ref ra), (.ref sb)])) rfl rfl (hb hby d16_35)
    have F_sb_value_28 := (F_sb_value_27).same W28
    have F_sb_coder_28 := (F_sb_coder_27).other W28 (Or.inr (slot_ne (Or.inl (wd_ hw 91 rfl)) (Or.inl (wd_ hw 89 rfl)) (by decide) (t := .byte) (t' := (.array .byte)) (by decide) (by decide)))
    have B_va_28 := (B_va_27).other W28 (Ne.symm ne0)
    have E_sb_28 := (E_sb_27).wr W28
    have F_sb_count_28 := (F_sb_count_27).other W28 (Or.inr (slot_ne (Or.inl (wd_ hw 117 rfl)) (Or.inl (wd_ hw 89 rfl)) (by decide) (t := .int) (t' := (.array .byte)) (by decide) (by decide)))
    have E_va_28 := (E_va_27).wr W28
    have B_ra_28 := (B27r).other W28 (Ne.symm ne_sb_ra)
    have E_ra_28 := (E27r).wr W28
    have K28 := (K27).wr W28 (Or.inl (List.mem_of_getElem? (i := 0) rfl))
    have Zs28 := Nat.le_trans Zs27 (Nat.le_of_eq W28.size.symm)
    have N28 := Fr.snoc X28 N27 g0
    refine oS (fun _ k_ => st28 _ k_) ?_
    exact own_retV X28 hx hret hlk (hb hby d16_38) (by decide) (by decide) (by rw [e28]; exact ⟨rfl, N28, K28, ra, (own_gr ct.length mn - ct.length), Or.inr h0ra, n0ra, F_sb_value_28, F_sb_count_28, F_sb_coder_28, B_ra_28, E_ra_28, by simp only [own_gr]; omega, by simp only [own_gr]; omega⟩)
  · refine oS (fun _ k_ => XS.ifYes X23.here hx rfl (pc0 := 14) (pc' := 38) rfl (hb hby d16_14) rfl (XT.i0_le_t hc14) (by decide) (by decide) k_) ?_
    rw [own_subpos (by omega) (by omega)] at hc14
    exact own_retV X23 hx hret hlk (hb hby d16_38) (by decide) (by decide) (by rw [e23]; exact ⟨rfl, N0, (Keep.refl h0 [sb]), va, 0, Or.inl rfl, g1, V0, M0, C0, (B0).cast (by simp), Y0, by omega, by omega⟩)
def b_19 := jdk_42_method_147_code
theorem d19_0 : decode b_19 0 = .ok (.aload_n 0, 1) := by decide +kernel
theorem d19_1 : decode b_19 1 = .ok (.invokevirtual 335, 3) := by decide +kernel
theorem d19_4 : decode b_19 4 = .ok (.iload_n 3, 1) := by decide +kernel
theorem d19_5 : decode b_19 5 = .ok (.if_icmp .ne 23, 3) := by decide +kernel
theorem d19_8 : decode b_19 8 = .ok (.aload_n 0, 1) := by decide +kernel
theorem d19_9 : decode b_19 9 = .ok (.getfield 9, 3) := by decide +kernel
theorem d19_12 : decode b_19 12 = .ok (.iconst 0, 1) := by decide +kernel
theorem d19_13 : decode b_19 13 = .ok (.aload_n 1, 1) := by decide +kernel
theorem d19_14 : decode b_19 14 = .ok (.iload_n 2, 1) := by decide +kernel
theorem d19_15 : decode b_19 15 = .ok (.iload_n 3, 1) := by decide +kernel
theorem d19_16 : decode b_19 16 = .ok (.ishl, 1) := by decide +kernel
theorem d19_17 : decode b_19 17 = .ok (.aload_n 0, 1) := by decide +kernel
theorem d19_18 : decode b_19 18 = .ok (.getfield 9, 3) := by decide +kernel
theorem d19_21 : decode b_19 21 = .ok (.arraylength, 1) := by decide +kernel
theorem d19_22 : decode b_19 22 = .ok (.invokestatic 212, 3) := by decide +kernel
theorem d19_25 : decode b_19 25 = .ok (.goto 18, 3) := by decide +kernel
theorem d19_43 : decode b_19 43 = .ok (.return_, 1) := by decide +kernel
theorem pd_13 : parseMethodDescriptor "(I)V" = some ⟨[.int], none⟩ := by decide +kernel
theorem cl_rmec (X : Stand p l e R s m args below meth c T locs cells slots) (hw : ∀ d ∈ tables_1, d.before a0 Z = true) (hZ : Z.Warmed39 s.vm) (hx : p.tables.exec = Jvm.exec) (hown : s.vm.findClass own = some m.cls) (lk : (Cond.methodLink own index (⟨"java/lang/AbstractStringBuilder", "ensureCapacityInternal", "(I)V"⟩ : MethodName)).before a0 Z = true) (sb : Addr) (va : Addr) (ct : List Nat) (cn : Int32) (mn : Nat) (Z0 : n0 ≤ h0.size) (E0 : Exa Z h0 sb "java/lang/StringBuilder") (V0 : Fld Z h0 sb "java/lang/AbstractStringBuilder" "value" "[B" (.ref va)) (M0 : Fld Z h0 sb "java/lang/AbstractStringBuilder" "count" "I" (.int cn)) (C0 : Fld Z h0 sb "java/lang/AbstractStringBuilder" "coder" "B" (.int 0)) (B0 : own_By Z h0 va ct) (Y0 : Exa Z h0 va "[B") (g0 : n0 ≤ sb) (g1 : n0 ≤ va) (h2 : mn ≤ 100) (h3 : ct.length ≤ 202) (eT : T.heap = h0) {K_ : String} (E_ : Exa Z h0 sb K_) (hml : c.maxLocals = kml) (hsz : Ls.size = kml) (hd : decode c.code pc = .ok (.invokevirtual index, 3)) (hr : own_rm ({ frames := 3, cells := 1, slots := 420, locals := 60 } : Room) 3 R rest cells slots = true) :
    ∃ v T' L, Stand p l e R s m args below meth c T' (locs ++ L) (cells + 1) (slots + 420) ∧ Qec Z sb va ct cn mn h0 n0 v T'.heap L ∧ ∀ t, Steps p.tables e below (T'.setTop (mkF m (pc + 3) Ls (v.toList ++ rest))) t → Steps p.tables e below (T.setTop (mkF m pc Ls ((.int (Int32.ofNat mn)) :: (.ref sb) :: rest))) t := by
  obtain ⟨v, T', L, X', hQ, sq⟩ := own_cP (argsL := [(.int (Int32.ofNat mn))]) (rest := rest) (rmec l Z a0 hw [] sb va ct cn mn h0 n0 Z0 E0 V0 M0 C0 B0 Y0 g0 g1 h2 h3) pd_13 rfl (wd_ hw 122 rfl) (wd_ hw 84 rfl) (wd_ hw 119 rfl) (wd_ hw 120 rfl) (wd_ hw 121 rfl) (by decide) hZ hx hown X lk eT E_ hml hsz hd hr
  exact ⟨v, T', L, X', hQ, sq⟩
theorem ef_rmgb (m : MethodId) (st : Addr) (va : Addr) (ps : List Nat) : entryFrame m #[(.ref st), (.ref va), (.int (Int32.ofNat ps.length)), (.int (0 : Int32))] 4 = mkF m 0 #[.val (.ref st), .val (.ref va), .val (.int (Int32.ofNat ps.length)), .val (.int (0 : Int32))] [] := by first | (simp [entryFrame, mkF, argsToLocals, Value.category]; done) | rfl
def Qgb (Z : State) (st : Addr) (va : Addr) (cs : Int32) (fm : Value) (d1 d2 : Addr) (sa : Addr) (bs : List Nat) (ps ms qs : List Nat) (h0 : Heap) (n0 : Nat) (v : Option Value) (h : Heap) (L : List Loc) : Prop := v = none ∧ Fr n0 L ∧ Keep h0 h [va] ∧ own_By Z h va (ps ++ bs ++ qs)
theorem rmgb (l : Launch) (Z : State) (a0 : Array Value) (hw : ∀ d ∈ tables_1, d.before a0 Z = true) (ws : List Jvm.Cond) (st : Addr) (va : Addr) (cs : Int32) (fm : Value) (d1 d2 : Addr) (sa : Addr) (bs : List Nat) (ps ms qs : List Nat) (h0 : Heap) (n0 : Nat) (Z0 : n0 ≤ h0.size) (Wd : own_Wd Z cs fm d1 d2) (OZ : Old Z n0 h0) (E0 : Exa Z h0 st "java/lang/String") (V0 : Fld Z h0 st "java/lang/String" "value" "[B" (.ref sa)) (C0 : Fld Z h0 st "java/lang/String" "coder" "B" (.int 0)) (B0 : own_By Z h0 sa bs) (B1 : own_By Z h0 va (ps ++ ms ++ qs)) (hm : ms.length = bs.length) (g1 : n0 ≤ va) (ne1 : sa ≠ va) :
    own_MF l (⟨"java/lang/String", "getBytes", "([BIB)V"⟩ : MethodName) jdk_42_method_147_code 4 none ws ({ frames := 1, cells := 0, slots := 0, locals := 40 } : Room) #[(.ref st), (.ref va), (.int (Int32.ofNat ps.length)), (.int (0 : Int32))] Z h0 (Qgb Z st va cs fm d1 d2 sa bs ps ms qs h0 n0) := by
  refine MetFree.of_bodySF (plainFor_of_name pn_0) hisR ?_
  intro p e s m args below meth c s₁ Bd hml0 hP hK
  obtain ⟨rfl, hZ, hh⟩ := hP
  have hx := Bd.exec
  have hby := Bd.bytes
  have hlk : meth.locks = false := BodyLoose.notSynchronized Bd
  have hret := Bd.returns
  have hml : c.maxLocals = 4 := hml0
  have hown : s.vm.findClass "java/lang/String" = some m.cls := findClass_of_methodNamed Bd.named
  have hnm := (name_of_methodNamed Bd.named Bd.method).1
  have X0 : Stand p l e ({ frames := 1, cells := 0, slots := 0, locals := 40 } : Room) s m #[(.ref st), (.ref va), (.int (Int32.ofNat ps.length)), (.int (0 : Int32))] below meth c s₁ [] 0 0 := Stand.of_body Bd
  have e0 : s₁.heap = h0 := by rw [← hh, Bd.state]; rfl
  have N0 := Fr.nil n0
  show oE p e below s 0 0 (Qgb Z st va cs fm d1 d2 sa bs ps ms qs h0 n0) (s₁.setTop (entryFrame m #[(.ref st), (.ref va), (.int (Int32.ofNat ps.length)), (.int (0 : Int32))] 4))
  refine oS (fun t k => castTop (ef_rmgb m st va ps) k) ?_
  show oE p e below s _ _ _ (s₁.setTop (mkF m 0 #[.val (.ref st), .val (.ref va), .val (.int (Int32.ofNat ps.length)), .val (.int (0 : Int32))] []))
  have ne2 : st ≠ va := B1.1.ne E0 (wd_ hw 29 rfl)
  refine oS (fun _ k_ => XS.aloadN X0.here hx rfl (hb hby d19_0) rfl rfl k_) ?_
  obtain ⟨T29, L29, X29, N29, e29, st29⟩ := cl_rmcod X0 hw hZ hx hown (wd_ hw 109 rfl) st cs fm d1 d2 Z0 Wd OZ C0 e0 E0 N0 hml rfl (hb hby d19_1) (Ls := #[.val (.ref st), .val (.ref va), .val (.int (Int32.ofNat ps.length)), .val (.int (0 : Int32))]) (rest := []) rfl
  refine oS (fun _ k_ => st29 _ k_) ?_
  refine oS (fun _ k_ => XS.iloadN X29.here hx rfl (hb hby d19_4) rfl (XS.icmpNo X29.here hx rfl (hb hby d19_5) rfl (XT.ii_ne_f (by decide : (0 : Int32) = (0 : Int32))) (XS.aloadN X29.here hx rfl (hb hby d19_8) rfl rfl k_))) ?_
  obtain ⟨T30, X30, e30, st30⟩ := getF X29 hx hZ hown (host := "") (Or.inl (wd_ hw 108 rfl)) Via.refl e29 V0 (g := (mkF m 9 #[.val (.ref st), .val (.ref va), .val (.int (Int32.ofNat ps.length)), .val (.int (0 : Int32))] [(.ref st)])) rfl rfl (hb hby d19_9)
  refine oS (fun _ k_ => st30 _ k_) ?_
  refine oS (fun _ k_ => XS.iconst X30.here hx rfl (hb hby d19_12) (XS.aloadN X30.here hx rfl (hb hby d19_13) rfl rfl (XS.iloadN X30.here hx rfl (hb hby d19_14) rfl (XS.iloadN X30.here hx rfl (hb hby d19_15) rfl (XS.ishl X30.here hx rfl (hb hby d19_16) rfl k_))))) ?_
  show oE p e below s _ _ _ (T30.setTop (mkF m 17 #[.val (.ref st), .val (.ref va), .val (.int (Int32.ofNat ps.length)), .val (.int (0 : Int32))] [(.int ((Int32.ofNat ps.length) <<< ((0 : Int32) &&& 31))), (.ref va), (.int (0 : Int32)), (.ref sa)]))
  rw [own_shl0]
  refine oS (fun _ k_ => XS.aloadN X30.here hx rfl (hb hby d19_17) rfl rfl k_) ?_
  obtain ⟨T31, X31, e31, st31⟩ := getF X30 hx hZ hown (host := "") (Or.inl (wd_ hw 108 rfl)) Via.refl e30 V0 (g := (mkF m 18 #[.val (.ref st), .val (.ref va), .val (.int (Int32.ofNat ps.length)), .val (.int (0 : Int32))] [(.ref st), (.int (Int32.ofNat ps.length)), (.ref va), (.int (0 : Int32)), (.ref sa)])) rfl rfl (hb hby d19_18)
  refine oS (fun _ k_ => st31 _ k_) ?_
  refine oS (fun _ k_ => own_alen X31 hx hZ e31 (B0).1 (n := (bs).length) (z := (Int32.ofNat (bs).length)) (own_V_len _) rfl (hb hby d19_21) _ k_) ?_
  obtain ⟨T32, _, L32, X32, rfl, N32, K32_, B32_, st32⟩ := own_cp X31 hx hZ hown (wd_ hw 139 rfl) (wd_ hw 142 rfl) (wd_ hw 140 rfl) (wd_ hw 141 rfl) e31 (xs := bs) (ys := []) (ps := ps) (ms := ms) (qs := qs) ((B0).cast (List.append_nil bs).symm) ((B1).cast rfl) hm rfl rfl N29 g1 (g := (mkF m 22 #[.val (.ref st), .val (.ref va), .val (.int (Int32.ofNat ps.length)), .val (.int (0 : Int32))] [(.int (Int32.ofNat (bs).length)), (.int (Int32.ofNat ps.length)), (.ref va), (.int (0 : Int32)), (.ref sa)])) rfl (by rw [hml]; rfl) rfl (hb hby d19_22) (by decide) (W := 0) (by show 2 * 0 + _ ≤ _; exact Nat.le_of_eq rfl) (by decide)
  have E_st_32 := (E0).keep K32_
  have F_st_value_32 := (V0).keep K32_ (ninS ne2 nin0)
  have F_st_coder_32 := (C0).keep K32_ (ninS ne2 nin0)
  have B_sa_32 := (B0).keep K32_ (ninS ne1 nin0)
  have K32 := ((Keep.refl h0 [va])).trans K32_ (allS (Or.inl (List.mem_of_getElem? (i := 0) rfl)) all0)
  have O32 := (OZ).keep K32_ (allS g1 all0)
  have Zs32 := Nat.le_trans Z0 K32_.1
  refine oS (fun _ k_ => st32 _ k_) ?_
  refine oS (fun _ k_ => XS.goto X32.here hx rfl (pc0 := 25) (pc' := 43) rfl (hb hby d19_25) (by decide) (by decide) k_) ?_
  exact own_retV X32 hx hret hlk (hb hby d19_43) (by decide) (by decide) ⟨rfl, N32, K32, B32_⟩
def b_18 := jdk_68_method_71_code
theorem d18_0 : decode b_18 0 = .ok (.getstatic 18, 3) := by decide +kernel
theorem d18_3 : decode b_18 3 = .ok (.ifCond .eq 18, 3) := by decide +kernel
theorem d18_6 : decode b_18 6 = .ok (.aload_n 0, 1) := by decide +kernel
theorem d18_7 : decode b_18 7 = .ok (.getfield 22, 3) := by decide +kernel
theorem d18_10 : decode b_18 10 = .ok (.aload_n 1, 1) := by decide +kernel
theorem d18_11 : decode b_18 11 = .ok (.invokevirtual 40, 3) := by decide +kernel
theorem d18_14 : decode b_18 14 = .ok (.if_icmp .eq 7, 3) := by decide +kernel
theorem d18_21 : decode b_18 21 = .ok (.return_, 1) := by decide +kernel
theorem pd_14 : parseMethodDescriptor "([BIB)V" = some ⟨[(.array .byte), .int, .byte], none⟩ := by decide +kernel
theorem cl_rmgb (X : Stand p l e R s m args below meth c T locs cells slots) (hw : ∀ d ∈ tables_1, d.before a0 Z = true) (hZ : Z.Warmed39 s.vm) (hx : p.tables.exec = Jvm.exec) (hown : s.vm.findClass own = some m.cls) (lk : (Cond.methodLink own index (⟨"java/lang/String", "getBytes", "([BIB)V"⟩ : MethodName)).before a0 Z = true) (st : Addr) (va : Addr) (cs : Int32) (fm : Value) (d1 d2 : Addr) (sa : Addr) (bs : List Nat) (ps ms qs : List Nat) (Z0 : n0 ≤ h0.size) (Wd : own_Wd Z cs fm d1 d2) (OZ : Old Z n0 h0) (E0 : Exa Z h0 st "java/lang/String") (V0 : Fld Z h0 st "java/lang/String" "value" "[B" (.ref sa)) (C0 : Fld Z h0 st "java/lang/String" "coder" "B" (.int 0)) (B0 : own_By Z h0 sa bs) (B1 : own_By Z h0 va (ps ++ ms ++ qs)) (hm : ms.length = bs.length) (g1 : n0 ≤ va) (ne1 : sa ≠ va) (eT : T.heap = h0) (E_ : Exa Z h0 st "java/lang/String") (hml : c.maxLocals = kml) (hsz : Ls.size = kml) (hd : decode c.code pc = .ok (.invokevirtual index, 3)) (hr : own_rm ({ frames := 1, cells := 0, slots := 0, locals := 40 } : Room) 4 R rest cells slots = true) :
    ∃ v T' L, Stand p l e R s m args below meth c T' (locs ++ L) (cells + 0) (slots + 0) ∧ Qgb Z st va cs fm d1 d2 sa bs ps ms qs h0 n0 v T'.heap L ∧ ∀ t, Steps p.tables e below (T'.setTop (mkF m (pc + 3) Ls (v.toList ++ rest))) t → Steps p.tables e below (T.setTop (mkF m pc Ls ((.int (0 : Int32)) :: (.int (Int32.ofNat ps.length)) :: (.ref va) :: (.ref st) :: rest))) t := by
  obtain ⟨v, T', L, X', hQ, sq⟩ := own_cV (argsL := [(.ref va), (.int (Int32.ofNat ps.length)), (.int (0 : Int32))]) (rest := rest) (rmgb l Z a0 hw [] st va cs fm d1 d2 sa bs ps ms qs h0 n0 Z0 Wd OZ E0 V0 C0 B0 B1 hm g1 ne1) pd_14 rfl (wd_ hw 138 rfl) (wd_ hw 28 rfl) (wd_ hw 136 rfl) (wd_ hw 135 rfl) (wd_ hw 137 rfl) rfl (wd_ hw 137 rfl) (by decide) hZ hx hown X lk eT E_ hml hsz hd hr
  exact ⟨v, T', L, X', hQ, sq⟩
theorem ef_rmif (m : MethodId) (sb : Addr) (st : Addr)  : entryFrame m #[(.ref sb), (.ref st)] 2 = mkF m 0 #[.val (.ref sb), .val (.ref st)] [] := by first | (simp [entryFrame, mkF, argsToLocals, Value.category]; done) | rfl
def Qif (Z : State) (sb : Addr) (st : Addr) (cs : Int32) (fm : Value) (d1 d2 : Addr) (h0 : Heap) (n0 : Nat) (v : Option Value) (h : Heap) (L : List Loc) : Prop := v = none ∧ Fr n0 L ∧ h = h0
theorem rmif (l : Launch) (Z : State) (a0 : Array Value) (hw : ∀ d ∈ tables_1, d.before a0 Z = true) (ws : List Jvm.Cond) (sb : Addr) (st : Addr) (cs : Int32) (fm : Value) (d1 d2 : Addr) (h0 : Heap) (n0 : Nat) (Z0 : n0 ≤ h0.size) (Wd : own_Wd Z cs fm d1 d2) (OZ : Old Z n0 h0) (Cs : Fld Z h0 sb "java/lang/AbstractStringBuilder" "coder" "B" (.int 0)) (E0 : Exa Z h0 st "java/lang/String") (C0 : Fld Z h0 st "java/lang/String" "coder" "B" (.int 0)) :
    own_MF l (⟨"java/lang/AbstractStringBuilder", "inflateIfNeededFor", "(Ljava/lang/String;)V"⟩ : MethodName) jdk_68_method_71_code 2 none ws ({ frames := 1, cells := 0, slots := 0, locals := 30 } : Room) #[(.ref sb), (.ref st)] Z h0 (Qif Z sb st cs fm d1 d2 h0 n0) := by
  refine MetFree.of_bodySF (plainFor_of_name pn_4) hisR ?_
  intro p e s m args below meth c s₁ Bd hml0 hP hK
  obtain ⟨rfl, hZ, hh⟩ := hP
  have hx := Bd.exec
  have hby := Bd.bytes
  have hlk : meth.locks = false := BodyLoose.notSynchronized Bd
  have hret := Bd.returns
  have hml : c.maxLocals = 2 := hml0
  have hown : s.vm.findClass "java/lang/AbstractStringBuilder" = some m.cls := findClass_of_methodNamed Bd.named
  have hnm := (name_of_methodNamed Bd.named Bd.method).1
  have X0 : Stand p l e ({ frames := 1, cells := 0, slots := 0, locals := 30 } : Room) s m #[(.ref sb), (.ref st)] below meth c s₁ [] 0 0 := Stand.of_body Bd
  have e0 : s₁.heap = h0 := by rw [← hh, Bd.state]; rfl
  have N0 := Fr.nil n0
  show oE p e below s 0 0 (Qif Z sb st cs fm d1 d2 h0 n0) (s₁.setTop (entryFrame m #[(.ref sb), (.ref st)] 2))
  refine oS (fun t k => castTop (ef_rmif m sb st ) k) ?_
  show oE p e below s _ _ _ (s₁.setTop (mkF m 0 #[.val (.ref sb), .val (.ref st)] []))
  obtain ⟨T33, X33, e33, st33⟩ := getS2 X0 hx hZ hown (host := "") (Or.inl (wd_ hw 87 rfl)) Via.refl e0 (Sta.ext OZ.2 Wd.2.2.1) (g := (mkF m 0 #[.val (.ref sb), .val (.ref st)] [])) rfl (hb hby d18_0)
  refine oS (fun _ k_ => st33 _ k_) ?_
  refine oS (fun _ k_ => XS.ifNo X33.here hx rfl (hb hby d18_3) rfl (XT.i0_eq_f (Wd.1 : ¬ (cs = 0))) (XS.aloadN X33.here hx rfl (hb hby d18_6) rfl rfl k_)) ?_
  obtain ⟨T34, X34, e34, st34⟩ := getF X33 hx hZ hown (host := "") (Or.inl (wd_ hw 90 rfl)) Via.refl e33 Cs (g := (mkF m 7 #[.val (.ref sb), .val (.ref st)] [(.ref sb)])) rfl rfl (hb hby d18_7)
  refine oS (fun _ k_ => st34 _ k_) ?_
  refine oS (fun _ k_ => XS.aloadN X34.here hx rfl (hb hby d18_10) rfl rfl k_) ?_
  obtain ⟨T35, L35, X35, N35, e35, st35⟩ := cl_rmcod X34 hw hZ hx hown (wd_ hw 133 rfl) st cs fm d1 d2 Z0 Wd OZ C0 e34 E0 N0 hml rfl (hb hby d18_11) (Ls := #[.val (.ref sb), .val (.ref st)]) (rest := [(.int (0 : Int32))]) rfl
  refine oS (fun _ k_ => st35 _ k_) ?_
  refine oS (fun _ k_ => XS.icmpYes X35.here hx rfl (pc0 := 14) (pc' := 21) rfl (hb hby d18_14) rfl (XT.ii_eq_t (by decide : (0 : Int32) = (0 : Int32))) (by decide) (by decide) k_) ?_
  exact own_retV X35 hx hret hlk (hb hby d18_21) (by decide) (by decide) ⟨rfl, N35, e35⟩
def b_17 := jdk_68_method_73_code
theorem d17_0 : decode b_17 0 = .ok (.aload_n 0, 1) := by decide +kernel
theorem d17_1 : decode b_17 1 = .ok (.aload_n 2, 1) := by decide +kernel
theorem d17_2 : decode b_17 2 = .ok (.invokevirtual 397, 3) := by decide +kernel
theorem d17_5 : decode b_17 5 = .ok (.aload_n 2, 1) := by decide +kernel
theorem d17_6 : decode b_17 6 = .ok (.aload_n 0, 1) := by decide +kernel
theorem d17_7 : decode b_17 7 = .ok (.getfield 15, 3) := by decide +kernel
theorem d17_10 : decode b_17 10 = .ok (.iload_n 1, 1) := by decide +kernel
theorem d17_11 : decode b_17 11 = .ok (.aload_n 0, 1) := by decide +kernel
theorem d17_12 : decode b_17 12 = .ok (.getfield 22, 3) := by decide +kernel
theorem d17_15 : decode b_17 15 = .ok (.invokevirtual 399, 3) := by decide +kernel
theorem d17_18 : decode b_17 18 = .ok (.return_, 1) := by decide +kernel
theorem pd_15 : parseMethodDescriptor "(Ljava/lang/String;)V" = some ⟨[(.object "java/lang/String")], none⟩ := by decide +kernel
theorem cl_rmif (X : Stand p l e R s m args below meth c T locs cells slots) (hw : ∀ d ∈ tables_1, d.before a0 Z = true) (hZ : Z.Warmed39 s.vm) (hx : p.tables.exec = Jvm.exec) (hown : s.vm.findClass own = some m.cls) (lk : (Cond.methodLink own index (⟨"java/lang/AbstractStringBuilder", "inflateIfNeededFor", "(Ljava/lang/String;)V"⟩ : MethodName)).before a0 Z = true) (sb : Addr) (st : Addr) (cs : Int32) (fm : Value) (d1 d2 : Addr) (Z0 : n0 ≤ h0.size) (Wd : own_Wd Z cs fm d1 d2) (OZ : Old Z n0 h0) (Cs : Fld Z h0 sb "java/lang/AbstractStringBuilder" "coder" "B" (.int 0)) (E0 : Exa Z h0 st "java/lang/String") (C0 : Fld Z h0 st "java/lang/String" "coder" "B" (.int 0)) (eT : T.heap = h0) {K_ : String} (E_ : Exa Z h0 sb K_) (N : Fr n0 locs) (hml : c.maxLocals = kml) (hsz : Ls.size = kml) (hd : decode c.code pc = .ok (.invokevirtual index, 3)) (hr : own_rm ({ frames := 1, cells := 0, slots := 0, locals := 30 } : Room) 2 R rest cells slots = true) :
    ∃ T' L', Stand p l e R s m args below meth c T' L' (cells + 0) (slots + 0) ∧ Fr n0 L' ∧ T'.heap = h0 ∧ ∀ t, Steps p.tables e below (T'.setTop (mkF m (pc + 3) Ls (rest))) t → Steps p.tables e below (T.setTop (mkF m pc Ls ((.ref st) :: (.ref sb) :: rest))) t := by
  obtain ⟨v, T', L, X', hQ, sq⟩ := own_cP (argsL := [(.ref st)]) (rest := rest) (rmif l Z a0 hw [] sb st cs fm d1 d2 h0 n0 Z0 Wd OZ Cs E0 C0) pd_15 rfl (wd_ hw 132 rfl) (wd_ hw 84 rfl) (wd_ hw 129 rfl) (wd_ hw 130 rfl) (wd_ hw 131 rfl) (by decide) hZ hx hown X lk eT E_ hml hsz hd hr
  obtain ⟨rfl, Nq, eq_⟩ := hQ
  exact ⟨T', _, X', Fr.app N Nq, eq_, sq⟩
theorem ef_rmps (m : MethodId) (sb : Addr) (st : Addr) (ps : List Nat) : entryFrame m #[(.ref sb), (.int (Int32.ofNat ps.length)), (.ref st)] 3 = mkF m 0 #[.val (.ref sb), .val (.int (Int32.ofNat ps.length)), .val (.ref st)] [] := by first | (simp [entryFrame, mkF, argsToLocals, Value.category]; done) | rfl
def Qps (Z : State) (sb : Addr) (st : Addr) (cs : Int32) (fm : Value) (d1 d2 : Addr) (sa : Addr) (bs : List Nat) (va : Addr) (ps ms qs : List Nat) (h0 : Heap) (n0 : Nat) (v : Option Value) (h : Heap) (L : List Loc) : Prop := v = none ∧ Fr n0 L ∧ Keep h0 h [va] ∧ own_By Z h va (ps ++ bs ++ qs)
theorem rmps (l : Launch) (Z : State) (a0 : Array Value) (hw : ∀ d ∈ tables_1, d.before a0 Z = true) (ws : List Jvm.Cond) (sb : Addr) (st : Addr) (cs : Int32) (fm : Value) (d1 d2 : Addr) (sa : Addr) (bs : List Nat) (va : Addr) (ps ms qs : List Nat) (h0 : Heap) (n0 : Nat) (Z0 : n0 ≤ h0.size) (Wd : own_Wd Z cs fm d1 d2) (OZ : Old Z n0 h0) (E0 : Exa Z h0 st "java/lang/String") (V0 : Fld Z h0 st "java/lang/String" "value" "[B" (.ref sa)) (C0 : Fld Z h0 st "java/lang/String" "coder" "B" (.int 0)) (B0 : own_By Z h0 sa bs) (Es : Exa Z h0 sb "java/lang/StringBuilder") (Vs : Fld Z h0 sb "java/lang/AbstractStringBuilder" "value" "[B" (.ref va)) (Cs : Fld Z h0 sb "java/lang/AbstractStringBuilder" "coder" "B" (.int 0)) (B1 : own_By Z h0 va (ps ++ ms ++ qs)) (hm : ms.length = bs.length) (g1 : n0 ≤ va) (ne1 : sa ≠ va) :
    own_MF l (⟨"java/lang/AbstractStringBuilder", "putStringAt", "(ILjava/lang/String;)V"⟩ : MethodName) jdk_68_method_73_code 3 none ws ({ frames := 2, cells := 0, slots := 0, locals := 60 } : Room) #[(.ref sb), (.int (Int32.ofNat ps.length)), (.ref st)] Z h0 (Qps Z sb st cs fm d1 d2 sa bs va ps ms qs h0 n0) := by
  refine MetFree.of_bodySF (plainFor_of_name pn_4) hisR ?_
  intro p e s m args below meth c s₁ Bd hml0 hP hK
  obtain ⟨rfl, hZ, hh⟩ := hP
  have hx := Bd.exec
  have hby := Bd.bytes
  have hlk : meth.locks = false := BodyLoose.notSynchronized Bd
  have hret := Bd.returns
  have hml : c.maxLocals = 3 := hml0
  have hown : s.vm.findClass "java/lang/AbstractStringBuilder" = some m.cls := findClass_of_methodNamed Bd.named
  have hnm := (name_of_methodNamed Bd.named Bd.method).1
  have X0 : Stand p l e ({ frames := 2, cells := 0, slots := 0, locals := 60 } : Room) s m #[(.ref sb), (.int (Int32.ofNat ps.length)), (.ref st)] below meth c s₁ [] 0 0 := Stand.of_body Bd
  have e0 : s₁.heap = h0 := by rw [← hh, Bd.state]; rfl
  have N0 := Fr.nil n0
  show oE p e below s 0 0 (Qps Z sb st cs fm d1 d2 sa bs va ps ms qs h0 n0) (s₁.setTop (entryFrame m #[(.ref sb), (.int (Int32.ofNat ps.length)), (.ref st)] 3))
  refine oS (fun t k => castTop (ef_rmps m sb st ps) k) ?_
  show oE p e below s _ _ _ (s₁.setTop (mkF m 0 #[.val (.ref sb), .val (.int (Int32.ofNat ps.length)), .val (.ref st)] []))
  have ne2 : st ≠ va := B1.1.ne E0 (wd_ hw 29 rfl)
  have ne3 : sb ≠ va := B1.1.ne Es (wd_ hw 75 rfl)
  refine oS (fun _ k_ => XS.aloadN X0.here hx rfl (hb hby d17_0) rfl rfl (XS.aloadN X0.here hx rfl (hb hby d17_1) rfl rfl k_)) ?_
  obtain ⟨T36, L36, X36, N36, e36, st36⟩ := cl_rmif X0 hw hZ hx hown (wd_ hw 128 rfl) sb st cs fm d1 d2 Z0 Wd OZ Cs E0 C0 e0 Es N0 hml rfl (hb hby d17_2) (Ls := #[.val (.ref sb), .val (.int (Int32.ofNat ps.length)), .val (.ref st)]) (rest := []) rfl
  refine oS (fun _ k_ => st36 _ k_) ?_
  refine oS (fun _ k_ => XS.aloadN X36.here hx rfl (hb hby d17_5) rfl rfl (XS.aloadN X36.here hx rfl (hb hby d17_6) rfl rfl k_)) ?_
  obtain ⟨T37, X37, e37, st37⟩ := getF X36 hx hZ hown (host := "") (Or.inl (wd_ hw 88 rfl)) Via.refl e36 Vs (g := (mkF m 7 #[.val (.ref sb), .val (.int (Int32.ofNat ps.length)), .val (.ref st)] [(.ref sb), (.ref st)])) rfl rfl (hb hby d17_7)
  refine oS (fun _ k_ => st37 _ k_) ?_
  refine oS (fun _ k_ => XS.iloadN X37.here hx rfl (hb hby d17_10) rfl (XS.aloadN X37.here hx rfl (hb hby d17_11) rfl rfl k_)) ?_
  obtain ⟨T38, X38, e38, st38⟩ := getF X37 hx hZ hown (host := "") (Or.inl (wd_ hw 90 rfl)) Via.refl e37 Cs (g := (mkF m 12 #[.val (.ref sb), .val (.int (Int32.ofNat ps.length)), .val (.ref st)] [(.ref sb), (.int (Int32.ofNat ps.length)), (.ref va), (.ref st)])) rfl rfl (hb hby d17_12)
  refine oS (fun _ k_ => st38 _ k_) ?_
  obtain ⟨v39, T39, L39, X39, hQ39, st39⟩ := cl_rmgb X38 hw hZ hx hown (wd_ hw 134 rfl) st va cs fm d1 d2 sa bs ps ms qs Z0 Wd OZ E0 V0 C0 B0 B1 hm g1 ne1 e38 E0 hml rfl (hb hby d17_15) (Ls := #[.val (.ref sb), .val (.int (Int32.ofNat ps.length)), .val (.ref st)]) (rest := []) rfl
  obtain ⟨rfl, N39q, K39k, B39k⟩ := hQ39
  have E_st_39 := (E0).keep K39k
  have F_st_value_39 := (V0).keep K39k (ninS ne2 nin0)
  have F_st_coder_39 := (C0).keep K39k (ninS ne2 nin0)
  have B_sa_39 := (B0).keep K39k (ninS ne1 nin0)
  have E_sb_39 := (Es).keep K39k
  have F_sb_value_39 := (Vs).keep K39k (ninS ne3 nin0)
  have F_sb_coder_39 := (Cs).keep K39k (ninS ne3 nin0)
  have K39 := ((Keep.refl h0 [va])).trans K39k (allS (Or.inl (List.mem_of_getElem? (i := 0) rfl)) all0)
  have O39 := (OZ).keep K39k (allS g1 all0)
  have Zs39 := Nat.le_trans Z0 K39k.1
  have N39 := Fr.app N36 N39q
  refine oS (fun _ k_ => st39 _ k_) ?_
  show oE p e below s _ _ _ (T39.setTop (mkF m 18 #[.val (.ref sb), .val (.int (Int32.ofNat ps.length)), .val (.ref st)] []))
  exact own_retV X39 hx hret hlk (hb hby d17_18) (by decide) (by decide) ⟨rfl, N39, K39, B39k⟩
def b_13 := jdk_68_method_22_code
theorem d13_0 : decode b_13 0 = .ok (.aload_n 1, 1) := by decide +kernel
theorem d13_1 : decode b_13 1 = .ok (.ifnonnull 8, 3) := by decide +kernel
theorem d13_9 : decode b_13 9 = .ok (.aload_n 1, 1) := by decide +kernel
theorem d13_10 : decode b_13 10 = .ok (.invokevirtual 32, 3) := by decide +kernel
theorem d13_13 : decode b_13 13 = .ok (.istore_n 2, 1) := by decide +kernel
theorem d13_14 : decode b_13 14 = .ok (.aload_n 0, 1) := by decide +kernel
theorem d13_15 : decode b_13 15 = .ok (.aload_n 0, 1) := by decide +kernel
theorem d13_16 : decode b_13 16 = .ok (.getfield 79, 3) := by decide +kernel
theorem d13_19 : decode b_13 19 = .ok (.iload_n 2, 1) := by decide +kernel
theorem d13_20 : decode b_13 20 = .ok (.iadd, 1) := by decide +kernel
theorem d13_21 : decode b_13 21 = .ok (.invokevirtual 100, 3) := by decide +kernel
theorem d13_24 : decode b_13 24 = .ok (.aload_n 0, 1) := by decide +kernel
theorem d13_25 : decode b_13 25 = .ok (.aload_n 0, 1) := by decide +kernel
theorem d13_26 : decode b_13 26 = .ok (.getfield 79, 3) := by decide +kernel
theorem d13_29 : decode b_13 29 = .ok (.aload_n 1, 1) := by decide +kernel
theorem d13_30 : decode b_13 30 = .ok (.invokevirtual 208, 3) := by decide +kernel
theorem d13_33 : decode b_13 33 = .ok (.aload_n 0, 1) := by decide +kernel
theorem d13_34 : decode b_13 34 = .ok (.dup, 1) := by decide +kernel
theorem d13_35 : decode b_13 35 = .ok (.getfield 79, 3) := by decide +kernel
theorem d13_38 : decode b_13 38 = .ok (.iload_n 2, 1) := by decide +kernel
theorem d13_39 : decode b_13 39 = .ok (.iadd, 1) := by decide +kernel
theorem d13_40 : decode b_13 40 = .ok (.putfield 79, 3) := by decide +kernel
theorem d13_43 : decode b_13 43 = .ok (.aload_n 0, 1) := by decide +kernel
theorem d13_44 : decode b_13 44 = .ok (.areturn, 1) := by decide +kernel
theorem pd_16 : parseMethodDescriptor "(ILjava/lang/String;)V" = some ⟨[.int, (.object "java/lang/String")], none⟩ := by decide +kernel
theorem cl_rmps (X : Stand p l e R s m args below meth c T locs cells slots) (hw : ∀ d ∈ tables_1, d.before a0 Z = true) (hZ : Z.Warmed39 s.vm) (hx : p.tables.exec = Jvm.exec) (hown : s.vm.findClass own = some m.cls) (lk : (Cond.methodLink own index (⟨"java/lang/AbstractStringBuilder", "putStringAt", "(ILjava/lang/String;)V"⟩ : MethodName)).before a0 Z = true) (sb : Addr) (st : Addr) (cs : Int32) (fm : Value) (d1 d2 : Addr) (sa : Addr) (bs : List Nat) (va : Addr) (ps ms qs : List Nat) (Z0 : n0 ≤ h0.size) (Wd : own_Wd Z cs fm d1 d2) (OZ : Old Z n0 h0) (E0 : Exa Z h0 st "java/lang/String") (V0 : Fld Z h0 st "java/lang/String" "value" "[B" (.ref sa)) (C0 : Fld Z h0 st "java/lang/String" "coder" "B" (.int 0)) (B0 : own_By Z h0 sa bs) (Es : Exa Z h0 sb "java/lang/StringBuilder") (Vs : Fld Z h0 sb "java/lang/AbstractStringBuilder" "value" "[B" (.ref va)) (Cs : Fld Z h0 sb "java/lang/AbstractStringBuilder" "coder" "B" (.int 0)) (B1 : own_By Z h0 va (ps ++ ms ++ qs)) (hm : ms.length = bs.length) (g1 : n0 ≤ va) (ne1 : sa ≠ va) (eT : T.heap = h0) {K_ : String} (E_ : Exa Z h0 sb K_) (hml : c.maxLocals = kml) (hsz : Ls.size = kml) (hd : decode c.code pc = .ok (.invokevirtual index, 3)) (hr : own_rm ({ frames := 2, cells := 0, slots := 0, locals := 60 } : Room) 3 R rest cells slots = true) :
    ∃ v T' L, Stand p l e R s m args below meth c T' (locs ++ L) (cells + 0) (slots + 0) ∧ Qps Z sb st cs fm d1 d2 sa bs va ps ms qs h0 n0 v T'.heap L ∧ ∀ t, Steps p.tables e below (T'.setTop (mkF m (pc + 3) Ls (v.toList ++ rest))) t → Steps p.tables e below (T.setTop (mkF m pc Ls ((.ref st) :: (.int (Int32.ofNat ps.length)) :: (.ref sb) :: rest))) t := by
  obtain ⟨v, T', L, X', hQ, sq⟩ := own_cP (argsL := [(.int (Int32.ofNat ps.length)), (.ref st)]) (rest := rest) (rmps l Z a0 hw [] sb st cs fm d1 d2 sa bs va ps ms qs h0 n0 Z0 Wd OZ E0 V0 C0 B0 Es Vs Cs B1 hm g1 ne1) pd_16 rfl (wd_ hw 127 rfl) (wd_ hw 84 rfl) (wd_ hw 124 rfl) (wd_ hw 125 rfl) (wd_ hw 126 rfl) (by decide) hZ hx hown X lk eT E_ hml hsz hd hr
  exact ⟨v, T', L, X', hQ, sq⟩
theorem ef_rmaa (m : MethodId) (sb : Addr) (st : Addr)  : entryFrame m #[(.ref sb), (.ref st)] 3 = mkF m 0 #[.val (.ref sb), .val (.ref st), .unset] [] := by first | (simp [entryFrame, mkF, argsToLocals, Value.category]; done) | rfl
def Qaa (Z : State) (sb : Addr) (st : Addr) (cs : Int32) (fm : Value) (d1 d2 : Addr) (sa : Addr) (bs : List Nat) (va : Addr) (ps js : List Nat) (h0 : Heap) (n0 : Nat) (v : Option Value) (h : Heap) (L : List Loc) : Prop := v = some (.ref sb) ∧ Fr n0 L ∧ Keep h0 h [sb, va] ∧ ∃ va' js', (va' = va ∨ h0.size ≤ va') ∧ n0 ≤ va' ∧ Fld Z h sb "java/lang/AbstractStringBuilder" "value" "[B" (.ref va') ∧ Fld Z h sb "java/lang/AbstractStringBuilder" "count" "I" (.int (Int32.ofNat (ps ++ bs).length)) ∧ Fld Z h sb "java/lang/AbstractStringBuilder" "coder" "B" (.int 0) ∧ own_By Z h va' ((ps ++ bs) ++ js') ∧ Exa Z h va' "[B" ∧ ((ps ++ bs) ++ js').length ≤ 202
theorem rmaa (l : Launch) (Z : State) (a0 : Array Value) (hw : ∀ d ∈ tables_1, d.before a0 Z = true) (ws : List Jvm.Cond) (sb : Addr) (st : Addr) (cs : Int32) (fm : Value) (d1 d2 : Addr) (sa : Addr) (bs : List Nat) (va : Addr) (ps js : List Nat) (h0 : Heap) (n0 : Nat) (Z0 : n0 ≤ h0.size) (Wd : own_Wd Z cs fm d1 d2) (OZ : Old Z n0 h0) (E0 : Exa Z h0 st "java/lang/String") (V0 : Fld Z h0 st "java/lang/String" "value" "[B" (.ref sa)) (C0 : Fld Z h0 st "java/lang/String" "coder" "B" (.int 0)) (B0 : own_By Z h0 sa bs) (Es : Exa Z h0 sb "java/lang/StringBuilder") (Vs : Fld Z h0 sb "java/lang/AbstractStringBuilder" "value" "[B" (.ref va)) (Ms : Fld Z h0 sb "java/lang/AbstractStringBuilder" "count" "I" (.int (Int32.ofNat ps.length))) (Cs : Fld Z h0 sb "java/lang/AbstractStringBuilder" "coder" "B" (.int 0)) (B1 : own_By Z h0 va (ps ++ js)) (Ys : Exa Z h0 va "[B") (gs : n0 ≤ sb) (g1 : n0 ≤ va) (hcap : (ps ++ js).length ≤ 202) (ne1 : sa ≠ va) (hlen : ps.length + bs.length ≤ 100) :
    own_MF l (⟨"java/lang/AbstractStringBuilder", "append", "(Ljava/lang/String;)Ljava/lang/AbstractStringBuilder;"⟩ : MethodName) jdk_68_method_22_code 3 (some (.object "java/lang/AbstractStringBuilder")) ws ({ frames := 4, cells := 1, slots := 420, locals := 110 } : Room) #[(.ref sb), (.ref st)] Z h0 (Qaa Z sb st cs fm d1 d2 sa bs va ps js h0 n0) := by
  refine MetFree.of_bodySF (plainFor_of_name pn_4) hisR ?_
  intro p e s m args below meth c s₁ Bd hml0 hP hK
  obtain ⟨rfl, hZ, hh⟩ := hP
  have hx := Bd.exec
  have hby := Bd.bytes
  have hlk : meth.locks = false := BodyLoose.notSynchronized Bd
  have hret := Bd.returns
  have hml : c.maxLocals = 3 := hml0
  have hown : s.vm.findClass "java/lang/AbstractStringBuilder" = some m.cls := findClass_of_methodNamed Bd.named
  have hnm := (name_of_methodNamed Bd.named Bd.method).1
  have X0 : Stand p l e ({ frames := 4, cells := 1, slots := 420, locals := 110 } : Room) s m #[(.ref sb), (.ref st)] below meth c s₁ [] 0 0 := Stand.of_body Bd
  have e0 : s₁.heap = h0 := by rw [← hh, Bd.state]; rfl
  have N0 := Fr.nil n0
  show oE p e below s 1 420 (Qaa Z sb st cs fm d1 d2 sa bs va ps js h0 n0) (s₁.setTop (entryFrame m #[(.ref sb), (.ref st)] 3))
  refine oS (fun t k => castTop (ef_rmaa m sb st ) k) ?_
  show oE p e below s _ _ _ (s₁.setTop (mkF m 0 #[.val (.ref sb), .val (.ref st), .unset] []))
  have ne2 : st ≠ va := B1.1.ne E0 (wd_ hw 29 rfl)
  have ne3 : sb ≠ va := B1.1.ne Es (wd_ hw 75 rfl)
  have ne4 : st ≠ sb := E0.ne Es (by decide)
  have ne5 : sb ≠ sa := B0.1.ne Es (wd_ hw 75 rfl)
  refine oS (fun _ k_ => XS.aloadN X0.here hx rfl (hb hby d13_0) rfl rfl (XS.ifnonnullYes X0.here hx rfl (pc0 := 1) (pc' := 9) rfl (hb hby d13_1) rfl (by decide) (by decide) (XS.aloadN X0.here hx rfl (hb hby d13_9) rfl rfl k_))) ?_
  obtain ⟨T40, L40, X40, N40, e40, st40⟩ := cl_rmlen X0 hw hZ hx hown (wd_ hw 103 rfl) st cs fm d1 d2 sa bs Z0 Wd OZ E0 V0 C0 B0 e0 E0 N0 hml rfl (hb hby d13_10) (Ls := #[.val (.ref sb), .val (.ref st), .unset]) (rest := []) rfl
  refine oS (fun _ k_ => st40 _ k_) ?_
  refine oS (fun _ k_ => XS.istoreN X40.here hx rfl (hb hby d13_13) rfl (l' := #[.val (.ref sb), .val (.ref st), .val (.int (Int32.ofNat bs.length))]) rfl (XS.aloadN X40.here hx rfl (hb hby d13_14) rfl rfl (XS.aloadN X40.here hx rfl (hb hby d13_15) rfl rfl k_))) ?_
  obtain ⟨T41, X41, e41, st41⟩ := getF X40 hx hZ hown (host := "") (Or.inl (wd_ hw 116 rfl)) Via.refl e40 Ms (g := (mkF m 16 #[.val (.ref sb), .val (.ref st), .val (.int (Int32.ofNat bs.length))] [(.ref sb), (.ref sb)])) rfl rfl (hb hby d13_16)
  refine oS (fun _ k_ => st41 _ k_) ?_
  refine oS (fun _ k_ => XS.iloadN X41.here hx rfl (hb hby d13_19) rfl (XS.iadd X41.here hx rfl (hb hby d13_20) rfl k_)) ?_
  show oE p e below s _ _ _ (T41.setTop (mkF m 21 #[.val (.ref sb), .val (.ref st), .val (.int (Int32.ofNat bs.length))] [(.int ((Int32.ofNat ps.length) + (Int32.ofNat bs.length))), (.ref sb)]))
  rw [own_add]
  obtain ⟨v42, T42, L42, X42, hQ42, st42⟩ := cl_rmec X41 hw hZ hx hown (wd_ hw 118 rfl) sb va (ps ++ js) (Int32.ofNat ps.length) (ps.length + bs.length) Z0 Es Vs Ms Cs B1 Ys gs g1 hlen hcap e41 Es hml rfl (hb hby d13_21) (Ls := #[.val (.ref sb), .val (.ref st), .val (.int (Int32.ofNat bs.length))]) (rest := []) rfl
  obtain ⟨rfl, N42q, K42k, va1, k1, wh1, g2, Vq, Mq, Cq, Bq, Yq, hk1, hk2⟩ := hQ42
  have ne6 : sb ≠ va1 := Bq.1.ne (Es.keep K42k) (wd_ hw 75 rfl)
  have ne7 : st ≠ va1 := wh1.elim (fun q => q ▸ ne2) (fun q => Nat.ne_of_lt (Nat.lt_of_lt_of_le (E0).lt q))
  have ne8 : sa ≠ va1 := wh1.elim (fun q => q ▸ ne1) (fun q => Nat.ne_of_lt (Nat.lt_of_lt_of_le (B0).lt q))
  have E_st_42 := (E0).keep K42k
  have F_st_value_42 := (V0).keep K42k (ninS ne4 nin0)
  have F_st_coder_42 := (C0).keep K42k (ninS ne4 nin0)
  have B_sa_42 := (B0).keep K42k (ninS (Ne.symm ne5) nin0)
  have E_sb_42 := (Es).keep K42k
  have K42 := ((Keep.refl h0 [sb, va])).trans K42k (allS (Or.inl (List.mem_of_getElem? (i := 0) rfl)) all0)
  have O42 := (OZ).keep K42k (allS gs all0)
  have Zs42 := Nat.le_trans Z0 K42k.1
  have N42 := Fr.app N40 N42q
  refine oS (fun _ k_ => st42 _ k_) ?_
  show oE p e below s _ _ _ (T42.setTop (mkF m 24 #[.val (.ref sb), .val (.ref st), .val (.int (Int32.ofNat bs.length))] []))
  refine oS (fun _ k_ => XS.aloadN X42.here hx rfl (hb hby d13_24) rfl rfl (XS.aloadN X42.here hx rfl (hb hby d13_25) rfl rfl k_)) ?_
  obtain ⟨T43, X43, e43, st43⟩ := getF X42 hx hZ hown (host := "") (Or.inl (wd_ hw 116 rfl)) Via.refl rfl Mq (g := (mkF m 26 #[.val (.ref sb), .val (.ref st), .val (.int (Int32.ofNat bs.length))] [(.ref sb), (.ref sb)])) rfl rfl (hb hby d13_26)
  refine oS (fun _ k_ => st43 _ k_) ?_
  refine oS (fun _ k_ => XS.aloadN X43.here hx rfl (hb hby d13_29) rfl rfl k_) ?_
  have hl9 : bs.length ≤ (js ++ List.replicate k1 0).length := by simp only [List.length_append, List.length_replicate] at hk1 ⊢; omega
  obtain ⟨v44, T44, L44, X44, hQ44, st44⟩ := cl_rmps X43 hw hZ hx hown (wd_ hw 123 rfl) sb st cs fm d1 d2 sa bs va1 ps ((js ++ List.replicate k1 0).take bs.length) ((js ++ List.replicate k1 0).drop bs.length) Zs42 Wd O42 E_st_42 F_st_value_42 F_st_coder_42 B_sa_42 E_sb_42 Vq Cq (Bq.cast (by rw [List.append_assoc ps, List.append_assoc ps, List.take_append_drop])) (by rw [List.length_take]; omega) g2 ne8 e43 E_sb_42 hml rfl (hb hby d13_30) (Ls := #[.val (.ref sb), .val (.ref st), .val (.int (Int32.ofNat bs.length))]) (rest := []) rfl
  obtain ⟨rfl, N44q, K44k, B44k⟩ := hQ44
  have E_st_44 := (E_st_42).keep K44k
  have F_st_value_44 := (F_st_value_42).keep K44k (ninS ne7 nin0)
  have F_st_coder_44 := (F_st_coder_42).keep K44k (ninS ne7 nin0)
  have B_sa_44 := (B_sa_42).keep K44k (ninS ne8 nin0)
  have E_sb_44 := (E_sb_42).keep K44k
  have F_sb_value_44 := (Vq).keep K44k (ninS ne6 nin0)
  have F_sb_count_44 := (Mq).keep K44k (ninS ne6 nin0)
  have F_sb_coder_44 := (Cq).keep K44k (ninS ne6 nin0)
  have E_va1_44 := (Yq).keep K44k
  have O44 := (O42).keep K44k (allS g2 all0)
  have Zs44 := Nat.le_trans Zs42 K44k.1
  have K44 : Keep h0 T44.heap [sb, va] := (K42).trans K44k (allS (wh1.elim (fun q => Or.inl (by rw [q]; exact List.mem_of_getElem? (i := 1) rfl)) (fun q => Or.inr (Nat.le_trans ((Keep.refl h0 [sb, va])).1 q))) all0)
  have N44 := Fr.app N42 N44q
  refine oS (fun _ k_ => st44 _ k_) ?_
  show oE p e below s _ _ _ (T44.setTop (mkF m 33 #[.val (.ref sb), .val (.ref st), .val (.int (Int32.ofNat bs.length))] []))
  refine oS (fun _ k_ => XS.aloadN X44.here hx rfl (hb hby d13_33) rfl rfl (XS.dup X44.here hx rfl (hb hby d13_34) rfl rfl k_)) ?_
  obtain ⟨T45, X45, e45, st45⟩ := getF X44 hx hZ hown (host := "") (Or.inl (wd_ hw 116 rfl)) Via.refl rfl F_sb_count_44 (g := (mkF m 35 #[.val (.ref sb), .val (.ref st), .val (.int (Int32.ofNat bs.length))] [(.ref sb), (.ref sb)])) rfl rfl (hb hby d13_35)
  refine oS (fun _ k_ => st45 _ k_) ?_
  refine oS (fun _ k_ => XS.iloadN X45.here hx rfl (hb hby d13_38) rfl (XS.iadd X45.here hx rfl (hb hby d13_39) rfl k_)) ?_
  show oE p e below s _ _ _ (T45.setTop (mkF m 40 #[.val (.ref sb), .val (.ref st), .val (.int (Int32.ofNat bs.length))] [(.int ((Int32.ofNat ps.length) + (Int32.ofNat bs.length))), (.ref sb)]))
  rw [own_add]
  obtain ⟨T46, h46, X46, e46, W46, st46⟩ := putF X45 hx hZ hown (host := "") (Or.inl (wd_ hw 116 rfl)) Via.refl e45 F_sb_count_44 E_sb_44 (Or.inl (wd_ hw 117 rfl)) (wd_ hw 75 rfl) (ty := .int) (by decide) rfl rfl (g := (mkF m 40 #[.val (.ref sb), .val (.ref st), .val (.int (Int32.ofNat bs.length))] [(.int (Int32.ofNat (ps.length + bs.length))), (.ref sb)])) rfl rfl (hb hby d13_40)
  have E_st_46 := (E_st_44).wr W46
  have F_st_value_46 := (F_st_value_44).other W46 (Or.inl ne4)
  have F_st_coder_46 := (F_st_coder_44).other W46 (Or.inl ne4)
  have B_sa_46 := (B_sa_44).other W46 (Ne.symm ne5)
  have E_sb_46 := (E_sb_44).wr W46
  have F_sb_value_46 := (F_sb_value_44).other W46 (Or.inr (slot_ne (Or.inl (wd_ hw 89 rfl)) (Or.inl (wd_ hw 117 rfl)) (by decide) (t := (.array .byte)) (t' := .int) (by decide) (by decide)))
  have F_sb_count_46 := (F_sb_count_44).same W46
  have F_sb_coder_46 := (F_sb_coder_44).other W46 (Or.inr (slot_ne (Or.inl (wd_ hw 91 rfl)) (Or.inl (wd_ hw 117 rfl)) (by decide) (t := .byte) (t' := .int) (by decide) (by decide)))
  have B_va1_46 := (B44k).other W46 (Ne.symm ne6)
  have E_va1_46 := (E_va1_44).wr W46
  have K46 := (K44).wr W46 (Or.inl (List.mem_of_getElem? (i := 0) rfl))
  have O46 := (O44).wr W46 gs
  have Zs46 := Nat.le_trans Zs44 (Nat.le_of_eq W46.size.symm)
  have N46 := Fr.snoc X46 N44 gs
  refine oS (fun _ k_ => st46 _ k_) ?_
  refine oS (fun _ k_ => XS.aloadN X46.here hx rfl (hb hby d13_43) rfl rfl k_) ?_
  exact own_retR X46 hx hret rfl rfl rfl hlk (hb hby d13_44) (by decide) (by decide) (by rw [e46]; exact ⟨rfl, N46, K46, va1, ((js ++ List.replicate k1 0).drop bs.length), wh1.imp id (fun q => Nat.le_trans ((Keep.refl h0 [sb, va])).1 q), g2, F_sb_value_46, own_FldN F_sb_count_46 (List.length_append).symm, F_sb_coder_46, B_va1_46, E_va1_46, by simp only [List.length_append, List.length_replicate, List.length_drop] at hk2 hl9 ⊢; omega⟩)
def b_12 := jdk_67_method_7_code
theorem d12_0 : decode b_12 0 = .ok (.aload_n 0, 1) := by decide +kernel
theorem d12_1 : decode b_12 1 = .ok (.aload_n 1, 1) := by decide +kernel
theorem d12_2 : decode b_12 2 = .ok (.invokespecial 29, 3) := by decide +kernel
theorem d12_5 : decode b_12 5 = .ok (.pop, 1) := by decide +kernel
theorem d12_6 : decode b_12 6 = .ok (.aload_n 0, 1) := by decide +kernel
theorem d12_7 : decode b_12 7 = .ok (.areturn, 1) := by decide +kernel
theorem pn_6 : plainName "java/lang/StringBuilder" = true := by first | (simp [plainName, overriddenIn]; done) | decide +kernel
theorem pd_17 : parseMethodDescriptor "(Ljava/lang/String;)Ljava/lang/AbstractStringBuilder;" = some ⟨[(.object "java/lang/String")], some (.object "java/lang/AbstractStringBuilder")⟩ := by decide +kernel
theorem cl_rmaa (X : Stand p l e R s m args below meth c T locs cells slots) (hw : ∀ d ∈ tables_1, d.before a0 Z = true) (hZ : Z.Warmed39 s.vm) (hx : p.tables.exec = Jvm.exec) (hown : s.vm.findClass own = some m.cls) (lk : (Cond.methodLink own index (⟨"java/lang/AbstractStringBuilder", "append", "(Ljava/lang/String;)Ljava/lang/AbstractStringBuilder;"⟩ : MethodName)).before a0 Z = true) (sb : Addr) (st : Addr) (cs : Int32) (fm : Value) (d1 d2 : Addr) (sa : Addr) (bs : List Nat) (va : Addr) (ps js : List Nat) (sup : (Cond.superclass own "java/lang/AbstractStringBuilder").before a0 Z = true) (Z0 : n0 ≤ h0.size) (Wd : own_Wd Z cs fm d1 d2) (OZ : Old Z n0 h0) (E0 : Exa Z h0 st "java/lang/String") (V0 : Fld Z h0 st "java/lang/String" "value" "[B" (.ref sa)) (C0 : Fld Z h0 st "java/lang/String" "coder" "B" (.int 0)) (B0 : own_By Z h0 sa bs) (Es : Exa Z h0 sb "java/lang/StringBuilder") (Vs : Fld Z h0 sb "java/lang/AbstractStringBuilder" "value" "[B" (.ref va)) (Ms : Fld Z h0 sb "java/lang/AbstractStringBuilder" "count" "I" (.int (Int32.ofNat ps.length))) (Cs : Fld Z h0 sb "java/lang/AbstractStringBuilder" "coder" "B" (.int 0)) (B1 : own_By Z h0 va (ps ++ js)) (Ys : Exa Z h0 va "[B") (gs : n0 ≤ sb) (g1 : n0 ≤ va) (hcap : (ps ++ js).length ≤ 202) (ne1 : sa ≠ va) (hlen : ps.length + bs.length ≤ 100) (eT : T.heap = h0) {K_ : String} (E_ : Exa Z h0 sb K_) (hml : c.maxLocals = kml) (hsz : Ls.size = kml) (hd : decode c.code pc = .ok (.invokespecial index, 3)) (hr : own_rm ({ frames := 4, cells := 1, slots := 420, locals := 110 } : Room) 3 R rest cells slots = true) :
    ∃ v T' L, Stand p l e R s m args below meth c T' (locs ++ L) (cells + 1) (slots + 420) ∧ Qaa Z sb st cs fm d1 d2 sa bs va ps js h0 n0 v T'.heap L ∧ ∀ t, Steps p.tables e below (T'.setTop (mkF m (pc + 3) Ls (v.toList ++ rest))) t → Steps p.tables e below (T.setTop (mkF m pc Ls ((.ref st) :: (.ref sb) :: rest))) t := by
  obtain ⟨v, T', L, X', hQ, sq⟩ := own_cU (argsL := [(.ref st)]) (rest := rest) (rmaa l Z a0 hw [] sb st cs fm d1 d2 sa bs va ps js h0 n0 Z0 Wd OZ E0 V0 C0 B0 Es Vs Ms Cs B1 Ys gs g1 hcap ne1 hlen) pd_17 rfl (wd_ hw 102 rfl) (wd_ hw 84 rfl) (wd_ hw 99 rfl) (wd_ hw 121 rfl) rfl (by decide) (by decide) sup hZ hx hown X lk eT E_ hml hsz hd hr
  exact ⟨v, T', L, X', hQ, sq⟩
theorem ef_rmas (m : MethodId) (sb : Addr) (st : Addr)  : entryFrame m #[(.ref sb), (.ref st)] 2 = mkF m 0 #[.val (.ref sb), .val (.ref st)] [] := by first | (simp [entryFrame, mkF, argsToLocals, Value.category]; done) | rfl
def Qas (Z : State) (sb : Addr) (st : Addr) (cs : Int32) (fm : Value) (d1 d2 : Addr) (sa : Addr) (bs : List Nat) (va : Addr) (ps js : List Nat) (h0 : Heap) (n0 : Nat) (v : Option Value) (h : Heap) (L : List Loc) : Prop := v = some (.ref sb) ∧ Fr n0 L ∧ Keep h0 h [sb, va] ∧ ∃ va' js', (va' = va ∨ h0.size ≤ va') ∧ n0 ≤ va' ∧ Fld Z h sb "java/lang/AbstractStringBuilder" "value" "[B" (.ref va') ∧ Fld Z h sb "java/lang/AbstractStringBuilder" "count" "I" (.int (Int32.ofNat (ps ++ bs).length)) ∧ Fld Z h sb "java/lang/AbstractStringBuilder" "coder" "B" (.int 0) ∧ own_By Z h va' ((ps ++ bs) ++ js') ∧ Exa Z h va' "[B" ∧ ((ps ++ bs) ++ js').length ≤ 202
theorem rmas (l : Launch) (Z : State) (a0 : Array Value) (hw : ∀ d ∈ tables_1, d.before a0 Z = true) (ws : List Jvm.Cond) (sb : Addr) (st : Addr) (cs : Int32) (fm : Value) (d1 d2 : Addr) (sa : Addr) (bs : List Nat) (va : Addr) (ps js : List Nat) (h0 : Heap) (n0 : Nat) (Z0 : n0 ≤ h0.size) (Wd : own_Wd Z cs fm d1 d2) (OZ : Old Z n0 h0) (E0 : Exa Z h0 st "java/lang/String") (V0 : Fld Z h0 st "java/lang/String" "value" "[B" (.ref sa)) (C0 : Fld Z h0 st "java/lang/String" "coder" "B" (.int 0)) (B0 : own_By Z h0 sa bs) (Es : Exa Z h0 sb "java/lang/StringBuilder") (Vs : Fld Z h0 sb "java/lang/AbstractStringBuilder" "value" "[B" (.ref va)) (Ms : Fld Z h0 sb "java/lang/AbstractStringBuilder" "count" "I" (.int (Int32.ofNat ps.length))) (Cs : Fld Z h0 sb "java/lang/AbstractStringBuilder" "coder" "B" (.int 0)) (B1 : own_By Z h0 va (ps ++ js)) (Ys : Exa Z h0 va "[B") (gs : n0 ≤ sb) (g1 : n0 ≤ va) (hcap : (ps ++ js).length ≤ 202) (ne1 : sa ≠ va) (hlen : ps.length + bs.length ≤ 100) :
    own_MF l (⟨"java/lang/StringBuilder", "append", "(Ljava/lang/String;)Ljava/lang/StringBuilder;"⟩ : MethodName) jdk_67_method_7_code 2 (some (.object "java/lang/StringBuilder")) ws ({ frames := 5, cells := 1, slots := 420, locals := 125 } : Room) #[(.ref sb), (.ref st)] Z h0 (Qas Z sb st cs fm d1 d2 sa bs va ps js h0 n0) := by
  refine MetFree.of_bodySF (plainFor_of_name pn_6) hisR ?_
  intro p e s m args below meth c s₁ Bd hml0 hP hK
  obtain ⟨rfl, hZ, hh⟩ := hP
  have hx := Bd.exec
  have hby := Bd.bytes
  have hlk : meth.locks = false := BodyLoose.notSynchronized Bd
  have hret := Bd.returns
  have hml : c.maxLocals = 2 := hml0
  have hown : s.vm.findClass "java/lang/StringBuilder" = some m.cls := findClass_of_methodNamed Bd.named
  have hnm := (name_of_methodNamed Bd.named Bd.method).1
  have X0 : Stand p l e ({ frames := 5, cells := 1, slots := 420, locals := 125 } : Room) s m #[(.ref sb), (.ref st)] below meth c s₁ [] 0 0 := Stand.of_body Bd
  have e0 : s₁.heap = h0 := by rw [← hh, Bd.state]; rfl
  have N0 := Fr.nil n0
  show oE p e below s 1 420 (Qas Z sb st cs fm d1 d2 sa bs va ps js h0 n0) (s₁.setTop (entryFrame m #[(.ref sb), (.ref st)] 2))
  refine oS (fun t k => castTop (ef_rmas m sb st ) k) ?_
  show oE p e below s _ _ _ (s₁.setTop (mkF m 0 #[.val (.ref sb), .val (.ref st)] []))
  refine oS (fun _ k_ => XS.aloadN X0.here hx rfl (hb hby d12_0) rfl rfl (XS.aloadN X0.here hx rfl (hb hby d12_1) rfl rfl k_)) ?_
  obtain ⟨v47, T47, L47, X47, hQ47, st47⟩ := cl_rmaa X0 hw hZ hx hown (wd_ hw 98 rfl) sb st cs fm d1 d2 sa bs va ps js (wd_ hw 100 rfl) Z0 Wd OZ E0 V0 C0 B0 Es Vs Ms Cs B1 Ys gs g1 hcap ne1 hlen e0 Es hml rfl (hb hby d12_2) (Ls := #[.val (.ref sb), .val (.ref st)]) (rest := []) rfl
  obtain ⟨rfl, N47q, K47k, R47k⟩ := hQ47
  have N47 := Fr.app N0 N47q
  refine oS (fun _ k_ => st47 _ k_) ?_
  show oE p e below s _ _ _ (T47.setTop (mkF m 5 #[.val (.ref sb), .val (.ref st)] [(.ref sb)]))
  refine oS (fun _ k_ => XS.pop X47.here hx rfl (hb hby d12_5) rfl rfl (XS.aloadN X47.here hx rfl (hb hby d12_6) rfl rfl k_)) ?_
  exact own_retR X47 hx hret rfl rfl rfl hlk (hb hby d12_7) (by decide) (by decide) ⟨rfl, N47, K47k, R47k⟩
def b_11 := jdk_68_method_2_code
theorem d11_0 : decode b_11 0 = .ok (.aload_n 0, 1) := by decide +kernel
theorem d11_1 : decode b_11 1 = .ok (.invokespecial 3, 3) := by decide +kernel
theorem d11_4 : decode b_11 4 = .ok (.getstatic 18, 3) := by decide +kernel
theorem d11_7 : decode b_11 7 = .ok (.ifCond .eq 18, 3) := by decide +kernel
theorem d11_10 : decode b_11 10 = .ok (.aload_n 0, 1) := by decide +kernel
theorem d11_11 : decode b_11 11 = .ok (.iload_n 1, 1) := by decide +kernel
theorem d11_12 : decode b_11 12 = .ok (.newarray .byte, 2) := by decide +kernel
theorem d11_14 : decode b_11 14 = .ok (.putfield 15, 3) := by decide +kernel
theorem d11_17 : decode b_11 17 = .ok (.aload_n 0, 1) := by decide +kernel
theorem d11_18 : decode b_11 18 = .ok (.iconst 0, 1) := by decide +kernel
theorem d11_19 : decode b_11 19 = .ok (.putfield 22, 3) := by decide +kernel
theorem d11_22 : decode b_11 22 = .ok (.goto 16, 3) := by decide +kernel
theorem d11_38 : decode b_11 38 = .ok (.return_, 1) := by decide +kernel
theorem pd_18 : parseMethodDescriptor "()V" = some ⟨[], none⟩ := by decide +kernel
theorem pd_19 : parseMethodDescriptor "(Ljava/lang/String;)Ljava/lang/StringBuilder;" = some ⟨[(.object "java/lang/String")], some (.object "java/lang/StringBuilder")⟩ := by decide +kernel
theorem cl_rmas (X : Stand p l e R s m args below meth c T locs cells slots) (hw : ∀ d ∈ tables_1, d.before a0 Z = true) (hZ : Z.Warmed39 s.vm) (hx : p.tables.exec = Jvm.exec) (hown : s.vm.findClass own = some m.cls) (lk : (Cond.methodLink own index (⟨"java/lang/StringBuilder", "append", "(Ljava/lang/String;)Ljava/lang/StringBuilder;"⟩ : MethodName)).before a0 Z = true) (sb : Addr) (st : Addr) (cs : Int32) (fm : Value) (d1 d2 : Addr) (sa : Addr) (bs : List Nat) (va : Addr) (ps js : List Nat) (Z0 : n0 ≤ h0.size) (Wd : own_Wd Z cs fm d1 d2) (OZ : Old Z n0 h0) (E0 : Exa Z h0 st "java/lang/String") (V0 : Fld Z h0 st "java/lang/String" "value" "[B" (.ref sa)) (C0 : Fld Z h0 st "java/lang/String" "coder" "B" (.int 0)) (B0 : own_By Z h0 sa bs) (Es : Exa Z h0 sb "java/lang/StringBuilder") (Vs : Fld Z h0 sb "java/lang/AbstractStringBuilder" "value" "[B" (.ref va)) (Ms : Fld Z h0 sb "java/lang/AbstractStringBuilder" "count" "I" (.int (Int32.ofNat ps.length))) (Cs : Fld Z h0 sb "java/lang/AbstractStringBuilder" "coder" "B" (.int 0)) (B1 : own_By Z h0 va (ps ++ js)) (Ys : Exa Z h0 va "[B") (gs : n0 ≤ sb) (g1 : n0 ≤ va) (hcap : (ps ++ js).length ≤ 202) (ne1 : sa ≠ va) (hlen : ps.length + bs.length ≤ 100) (eT : T.heap = h0) (E_ : Exa Z h0 sb "java/lang/StringBuilder") (hml : c.maxLocals = kml) (hsz : Ls.size = kml) (hd : decode c.code pc = .ok (.invokevirtual index, 3)) (hr : own_rm ({ frames := 5, cells := 1, slots := 420, locals := 125 } : Room) 2 R rest cells slots = true) :
    ∃ v T' L, Stand p l e R s m args below meth c T' (locs ++ L) (cells + 1) (slots + 420) ∧ Qas Z sb st cs fm d1 d2 sa bs va ps js h0 n0 v T'.heap L ∧ ∀ t, Steps p.tables e below (T'.setTop (mkF m (pc + 3) Ls (v.toList ++ rest))) t → Steps p.tables e below (T.setTop (mkF m pc Ls ((.ref st) :: (.ref sb) :: rest))) t := by
  obtain ⟨v, T', L, X', hQ, sq⟩ := own_cV (argsL := [(.ref st)]) (rest := rest) (rmas l Z a0 hw [] sb st cs fm d1 d2 sa bs va ps js h0 n0 Z0 Wd OZ E0 V0 C0 B0 Es Vs Ms Cs B1 Ys gs g1 hcap ne1 hlen) pd_19 rfl (wd_ hw 97 rfl) (wd_ hw 76 rfl) (wd_ hw 95 rfl) (wd_ hw 94 rfl) (wd_ hw 96 rfl) rfl (wd_ hw 96 rfl) (by decide) hZ hx hown X lk eT E_ hml hsz hd hr
  exact ⟨v, T', L, X', hQ, sq⟩
theorem ef_rmia (m : MethodId) (sb : Addr)  : entryFrame m #[(.ref sb), (.int (Int32.ofNat 16))] 2 = mkF m 0 #[.val (.ref sb), .val (.int (Int32.ofNat 16))] [] := by first | (simp [entryFrame, mkF, argsToLocals, Value.category]; done) | rfl
def Qia (Z : State) (sb : Addr) (cs : Int32) (fm : Value) (d1 d2 : Addr) (h0 : Heap) (n0 : Nat) (v : Option Value) (h : Heap) (L : List Loc) : Prop := v = none ∧ Fr n0 L ∧ Keep h0 h [sb] ∧ ∃ va, h0.size ≤ va ∧ Fld Z h sb "java/lang/AbstractStringBuilder" "value" "[B" (.ref va) ∧ Fld Z h sb "java/lang/AbstractStringBuilder" "count" "I" (.int 0) ∧ Fld Z h sb "java/lang/AbstractStringBuilder" "coder" "B" (.int 0) ∧ own_By Z h va (List.replicate 16 0) ∧ Exa Z h va "[B"
theorem rmia (l : Launch) (Z : State) (a0 : Array Value) (hw : ∀ d ∈ tables_1, d.before a0 Z = true) (ws : List Jvm.Cond) (sb : Addr) (cs : Int32) (fm : Value) (d1 d2 : Addr) (h0 : Heap) (n0 : Nat) (Z0 : n0 ≤ h0.size) (Wd : own_Wd Z cs fm d1 d2) (OZ : Old Z n0 h0) (Es : Exa Z h0 sb "java/lang/StringBuilder") (Vs : Fld Z h0 sb "java/lang/AbstractStringBuilder" "value" "[B" .null) (Ms : Fld Z h0 sb "java/lang/AbstractStringBuilder" "count" "I" (.int 0)) (Cs : Fld Z h0 sb "java/lang/AbstractStringBuilder" "coder" "B" (.int 0)) (gs : n0 ≤ sb) :
    own_MF l (⟨"java/lang/AbstractStringBuilder", "<init>", "(I)V"⟩ : MethodName) jdk_68_method_2_code 2 none ws ({ frames := 1, cells := 1, slots := 16, locals := 30 } : Room) #[(.ref sb), (.int (Int32.ofNat 16))] Z h0 (Qia Z sb cs fm d1 d2 h0 n0) := by
  refine MetFree.of_bodySF (plainFor_of_name pn_4) hisR ?_
  intro p e s m args below meth c s₁ Bd hml0 hP hK
  obtain ⟨rfl, hZ, hh⟩ := hP
  have hx := Bd.exec
  have hby := Bd.bytes
  have hlk : meth.locks = false := BodyLoose.notSynchronized Bd
  have hret := Bd.returns
  have hml : c.maxLocals = 2 := hml0
  have hown : s.vm.findClass "java/lang/AbstractStringBuilder" = some m.cls := findClass_of_methodNamed Bd.named
  have hnm := (name_of_methodNamed Bd.named Bd.method).1
  have X0 : Stand p l e ({ frames := 1, cells := 1, slots := 16, locals := 30 } : Room) s m #[(.ref sb), (.int (Int32.ofNat 16))] below meth c s₁ [] 0 0 := Stand.of_body Bd
  have e0 : s₁.heap = h0 := by rw [← hh, Bd.state]; rfl
  have N0 := Fr.nil n0
  show oE p e below s 1 16 (Qia Z sb cs fm d1 d2 h0 n0) (s₁.setTop (entryFrame m #[(.ref sb), (.int (Int32.ofNat 16))] 2))
  refine oS (fun t k => castTop (ef_rmia m sb ) k) ?_
  show oE p e below s _ _ _ (s₁.setTop (mkF m 0 #[.val (.ref sb), .val (.int (Int32.ofNat 16))] []))
  refine oS (fun _ k_ => XS.aloadN X0.here hx rfl (hb hby d11_0) rfl rfl k_) ?_
  obtain ⟨T48, X48, e48, st48⟩ := initO X0 hx hZ hown (wd_ hw 86 rfl) (wd_ hw 15 rfl) (wd_ hw 16 rfl) e0 (g := (mkF m 1 #[.val (.ref sb), .val (.int (Int32.ofNat 16))] [(.ref sb)])) rfl (by rw [hml]; rfl) rfl (hb hby d11_1) (by decide) (W := 0) (by show 2 * 0 + _ ≤ _; exact Nat.le_of_eq rfl) (by decide)
  refine oS (fun _ k_ => st48 _ k_) ?_
  obtain ⟨T49, X49, e49, st49⟩ := getS2 X48 hx hZ hown (host := "") (Or.inl (wd_ hw 87 rfl)) Via.refl e48 (Sta.ext OZ.2 Wd.2.2.1) (g := (mkF m 4 #[.val (.ref sb), .val (.int (Int32.ofNat 16))] [])) rfl (hb hby d11_4)
  refine oS (fun _ k_ => st49 _ k_) ?_
  refine oS (fun _ k_ => XS.ifNo X49.here hx rfl (hb hby d11_7) rfl (XT.i0_eq_f (Wd.1 : ¬ (cs = 0))) (XS.aloadN X49.here hx rfl (hb hby d11_10) rfl rfl (XS.iloadN X49.here hx rfl (hb hby d11_11) rfl k_))) ?_
  obtain ⟨T50, h50, k50, X50, e50, E50, A50, Ex50, st50⟩ := newPE X49 hx hZ (wd_ hw 30 rfl) e49 (g := (mkF m 12 #[.val (.ref sb), .val (.int (Int32.ofNat 16))] [(.int (Int32.ofNat 16)), (.ref sb)])) rfl (hb hby d11_12) rfl (own_nn (by omega)) (cap := 16) (by rw [own_nc (by omega)]; exact Nat.le_refl _) (by decide) (by decide : 0 + 1 ≤ _) (by decide : 0 + 16 ≤ _) (ad := "[B") rfl
  obtain ⟨b50, g50⟩ : ∃ z, z = h0.size := ⟨_, rfl⟩
  rw [← g50] at A50 Ex50 st50
  have ne_sb_b50 : sb ≠ b50 := Nat.ne_of_lt (Nat.lt_of_lt_of_le (Es).lt (Nat.le_of_eq g50.symm))
  have n0_b50 : n0 ≤ b50 := Nat.le_trans Z0 (Nat.le_of_eq g50.symm)
  have h0_b50 : h0.size ≤ b50 := Nat.le_trans ((Keep.refl h0 [sb])).1 (Nat.le_of_eq g50.symm)
  have E_sb_50 := (Es).ext E50
  have F_sb_value_50 := (Vs).ext E50
  have F_sb_count_50 := (Ms).ext E50
  have F_sb_coder_50 := (Cs).ext E50
  have K50 := ((Keep.refl h0 [sb])).ext E50
  have O50 := (OZ).ext E50
  have Zs50 := Nat.le_trans Z0 E50.1
  have B_b50 : own_By Z h50 b50 (List.replicate 16 0) := own_By.zero (by omega) A50
  refine oS (fun _ k_ => st50 _ k_) ?_
  obtain ⟨T51, h51, X51, e51, W51, st51⟩ := putF X50 hx hZ hown (host := "") (Or.inl (wd_ hw 88 rfl)) Via.refl e50 F_sb_value_50 E_sb_50 (Or.inl (wd_ hw 89 rfl)) (wd_ hw 75 rfl) (ty := (.array .byte)) (by decide) rfl rfl (g := (mkF m 14 #[.val (.ref sb), .val (.int (Int32.ofNat 16))] [(.ref b50), (.ref sb)])) rfl rfl (hb hby d11_14)
  have E_sb_51 := (E_sb_50).wr W51
  have F_sb_value_51 := (F_sb_value_50).same W51
  have F_sb_count_51 := (F_sb_count_50).other W51 (Or.inr (slot_ne (Or.inl (wd_ hw 117 rfl)) (Or.inl (wd_ hw 89 rfl)) (by decide) (t := .int) (t' := (.array .byte)) (by decide) (by decide)))
  have F_sb_coder_51 := (F_sb_coder_50).other W51 (Or.inr (slot_ne (Or.inl (wd_ hw 91 rfl)) (Or.inl (wd_ hw 89 rfl)) (by decide) (t := .byte) (t' := (.array .byte)) (by decide) (by decide)))
  have B_b50_51 := (B_b50).other W51 (Ne.symm ne_sb_b50)
  have E_b50_51 := (Ex50).wr W51
  have K51 := (K50).wr W51 (Or.inl (List.mem_of_getElem? (i := 0) rfl))
  have O51 := (O50).wr W51 gs
  have Zs51 := Nat.le_trans Zs50 (Nat.le_of_eq W51.size.symm)
  have N51 := Fr.snoc X51 N0 gs
  refine oS (fun _ k_ => st51 _ k_) ?_
  refine oS (fun _ k_ => XS.aloadN X51.here hx rfl (hb hby d11_17) rfl rfl (XS.iconst X51.here hx rfl (hb hby d11_18) k_)) ?_
  obtain ⟨T52, h52, X52, e52, W52, st52⟩ := putFN X51 hx hZ hown (wd_ hw 90 rfl) Via.refl e51 F_sb_coder_51 E_sb_51 (Or.inl (wd_ hw 91 rfl)) (wd_ hw 75 rfl) (ty := .byte) (v' := (.int (0 : Int32))) (by decide) rfl rfl (g := (mkF m 19 #[.val (.ref sb), .val (.int (Int32.ofNat 16))] [(.int (0 : Int32)), (.ref sb)])) rfl rfl (hb hby d11_19)
  have E_sb_52 := (E_sb_51).wr W52
  have F_sb_value_52 := (F_sb_value_51).other W52 (Or.inr (slot_ne (Or.inl (wd_ hw 89 rfl)) (Or.inl (wd_ hw 91 rfl)) (by decide) (t := (.array .byte)) (t' := .byte) (by decide) (by decide)))
  have F_sb_count_52 := (F_sb_count_51).other W52 (Or.inr (slot_ne (Or.inl (wd_ hw 117 rfl)) (Or.inl (wd_ hw 91 rfl)) (by decide) (t := .int) (t' := .byte) (by decide) (by decide)))
  have F_sb_coder_52 := (F_sb_coder_51).same W52
  have B_b50_52 := (B_b50_51).other W52 (Ne.symm ne_sb_b50)
  have E_b50_52 := (E_b50_51).wr W52
  have K52 := (K51).wr W52 (Or.inl (List.mem_of_getElem? (i := 0) rfl))
  have O52 := (O51).wr W52 gs
  have Zs52 := Nat.le_trans Zs51 (Nat.le_of_eq W52.size.symm)
  have N52 := Fr.snoc X52 N51 gs
  refine oS (fun _ k_ => st52 _ k_) ?_
  refine oS (fun _ k_ => XS.goto X52.here hx rfl (pc0 := 22) (pc' := 38) rfl (hb hby d11_22) (by decide) (by decide) k_) ?_
  exact own_retV X52 hx hret hlk (hb hby d11_38) (by decide) (by decide) (by rw [e52]; exact ⟨rfl, N52, K52, b50, h0_b50, F_sb_value_52, F_sb_count_52, F_sb_coder_52, B_b50_52, E_b50_52⟩)
def b_10 := jdk_67_method_1_code
theorem d10_0 : decode b_10 0 = .ok (.aload_n 0, 1) := by decide +kernel
theorem d10_1 : decode b_10 1 = .ok (.bipush 16, 2) := by decide +kernel
theorem d10_3 : decode b_10 3 = .ok (.invokespecial 1, 3) := by decide +kernel
theorem d10_6 : decode b_10 6 = .ok (.return_, 1) := by decide +kernel
theorem cl_rmia (X : Stand p l e R s m args below meth c T locs cells slots) (hw : ∀ d ∈ tables_1, d.before a0 Z = true) (hZ : Z.Warmed39 s.vm) (hx : p.tables.exec = Jvm.exec) (hown : s.vm.findClass own = some m.cls) (lk : (Cond.methodLink own index (⟨"java/lang/AbstractStringBuilder", "<init>", "(I)V"⟩ : MethodName)).before a0 Z = true) (sb : Addr) (cs : Int32) (fm : Value) (d1 d2 : Addr) (Z0 : n0 ≤ h0.size) (Wd : own_Wd Z cs fm d1 d2) (OZ : Old Z n0 h0) (Es : Exa Z h0 sb "java/lang/StringBuilder") (Vs : Fld Z h0 sb "java/lang/AbstractStringBuilder" "value" "[B" .null) (Ms : Fld Z h0 sb "java/lang/AbstractStringBuilder" "count" "I" (.int 0)) (Cs : Fld Z h0 sb "java/lang/AbstractStringBuilder" "coder" "B" (.int 0)) (gs : n0 ≤ sb) (eT : T.heap = h0) (hml : c.maxLocals = kml) (hsz : Ls.size = kml) (hd : decode c.code pc = .ok (.invokespecial index, 3)) (hr : own_rm ({ frames := 1, cells := 1, slots := 16, locals := 30 } : Room) 2 R rest cells slots = true) :
    ∃ v T' L, Stand p l e R s m args below meth c T' (locs ++ L) (cells + 1) (slots + 16) ∧ Qia Z sb cs fm d1 d2 h0 n0 v T'.heap L ∧ ∀ t, Steps p.tables e below (T'.setTop (mkF m (pc + 3) Ls (v.toList ++ rest))) t → Steps p.tables e below (T.setTop (mkF m pc Ls ((.int (Int32.ofNat 16)) :: (.ref sb) :: rest))) t := by
  obtain ⟨v, T', L, X', hQ, sq⟩ := own_cI (argsL := [(.int (Int32.ofNat 16))]) (rest := rest) (rmia l Z a0 hw [] sb cs fm d1 d2 h0 n0 Z0 Wd OZ Es Vs Ms Cs gs) pd_13 rfl (wd_ hw 85 rfl) (wd_ hw 84 rfl) (wd_ hw 81 rfl) rfl (by decide) hZ hx hown X lk eT hml hsz hd hr
  exact ⟨v, T', L, X', hQ, sq⟩
theorem ef_rmsi (m : MethodId) (sb : Addr)  : entryFrame m #[(.ref sb)] 1 = mkF m 0 #[.val (.ref sb)] [] := by first | (simp [entryFrame, mkF, argsToLocals, Value.category]; done) | rfl
def Qsi (Z : State) (sb : Addr) (cs : Int32) (fm : Value) (d1 d2 : Addr) (h0 : Heap) (n0 : Nat) (v : Option Value) (h : Heap) (L : List Loc) : Prop := v = none ∧ Fr n0 L ∧ Keep h0 h [sb] ∧ ∃ va, h0.size ≤ va ∧ Fld Z h sb "java/lang/AbstractStringBuilder" "value" "[B" (.ref va) ∧ Fld Z h sb "java/lang/AbstractStringBuilder" "count" "I" (.int 0) ∧ Fld Z h sb "java/lang/AbstractStringBuilder" "coder" "B" (.int 0) ∧ own_By Z h va (List.replicate 16 0) ∧ Exa Z h va "[B"
theorem rmsi (l : Launch) (Z : State) (a0 : Array Value) (hw : ∀ d ∈ tables_1, d.before a0 Z = true) (ws : List Jvm.Cond) (sb : Addr) (cs : Int32) (fm : Value) (d1 d2 : Addr) (h0 : Heap) (n0 : Nat) (Z0 : n0 ≤ h0.size) (Wd : own_Wd Z cs fm d1 d2) (OZ : Old Z n0 h0) (Es : Exa Z h0 sb "java/lang/StringBuilder") (Vs : Fld Z h0 sb "java/lang/AbstractStringBuilder" "value" "[B" .null) (Ms : Fld Z h0 sb "java/lang/AbstractStringBuilder" "count" "I" (.int 0)) (Cs : Fld Z h0 sb "java/lang/AbstractStringBuilder" "coder" "B" (.int 0)) (gs : n0 ≤ sb) :
    own_MF l (⟨"java/lang/StringBuilder", "<init>", "()V"⟩ : MethodName) jdk_67_method_1_code 1 none ws ({ frames := 2, cells := 1, slots := 16, locals := 44 } : Room) #[(.ref sb)] Z h0 (Qsi Z sb cs fm d1 d2 h0 n0) := by
  refine MetFree.of_bodySF (plainFor_of_name pn_6) hisR ?_
  intro p e s m args below meth c s₁ Bd hml0 hP hK
  obtain ⟨rfl, hZ, hh⟩ := hP
  have hx := Bd.exec
  have hby := Bd.bytes
  have hlk : meth.locks = false := BodyLoose.notSynchronized Bd
  have hret := Bd.returns
  have hml : c.maxLocals = 1 := hml0
  have hown : s.vm.findClass "java/lang/StringBuilder" = some m.cls := findClass_of_methodNamed Bd.named
  have hnm := (name_of_methodNamed Bd.named Bd.method).1
  have X0 : Stand p l e ({ frames := 2, cells := 1, slots := 16, locals := 44 } : Room) s m #[(.ref sb)] below meth c s₁ [] 0 0 := Stand.of_body Bd
  have e0 : s₁.heap = h0 := by rw [← hh, Bd.state]; rfl
  have N0 := Fr.nil n0
  show oE p e below s 1 16 (Qsi Z sb cs fm d1 d2 h0 n0) (s₁.setTop (entryFrame m #[(.ref sb)] 1))
  refine oS (fun t k => castTop (ef_rmsi m sb ) k) ?_
  show oE p e below s _ _ _ (s₁.setTop (mkF m 0 #[.val (.ref sb)] []))
  refine oS (fun _ k_ => XS.aloadN X0.here hx rfl (hb hby d10_0) rfl rfl (XS.bipush X0.here hx rfl (hb hby d10_1) k_)) ?_
  obtain ⟨v53, T53, L53, X53, hQ53, st53⟩ := cl_rmia X0 hw hZ hx hown (wd_ hw 80 rfl) sb cs fm d1 d2 Z0 Wd OZ Es Vs Ms Cs gs e0 hml rfl (hb hby d10_3) (Ls := #[.val (.ref sb)]) (rest := []) rfl
  obtain ⟨rfl, N53q, K53k, R53k⟩ := hQ53
  have N53 := Fr.app N0 N53q
  refine oS (fun _ k_ => st53 _ k_) ?_
  show oE p e below s _ _ _ (T53.setTop (mkF m 6 #[.val (.ref sb)] []))
  exact own_retV X53 hx hret hlk (hb hby d10_6) (by decide) (by decide) ⟨rfl, N53, K53k, R53k⟩
def b_22 := jdk_33_method_13_code
theorem d22_0 : decode b_22 0 = .ok (.iconst 1, 1) := by decide +kernel
theorem d22_1 : decode b_22 1 = .ok (.istore_n 1, 1) := by decide +kernel
theorem d22_2 : decode b_22 2 = .ok (.iload_n 0, 1) := by decide +kernel
theorem d22_3 : decode b_22 3 = .ok (.ifCond .lt 8, 3) := by decide +kernel
theorem d22_6 : decode b_22 6 = .ok (.iconst 0, 1) := by decide +kernel
theorem d22_7 : decode b_22 7 = .ok (.istore_n 1, 1) := by decide +kernel
theorem d22_8 : decode b_22 8 = .ok (.iload_n 0, 1) := by decide +kernel
theorem d22_9 : decode b_22 9 = .ok (.ineg, 1) := by decide +kernel
theorem d22_10 : decode b_22 10 = .ok (.istore_n 0, 1) := by decide +kernel
theorem d22_11 : decode b_22 11 = .ok (.bipush (-10), 2) := by decide +kernel
theorem d22_13 : decode b_22 13 = .ok (.istore_n 2, 1) := by decide +kernel
theorem d22_14 : decode b_22 14 = .ok (.iconst 1, 1) := by decide +kernel
theorem d22_15 : decode b_22 15 = .ok (.istore_n 3, 1) := by decide +kernel
theorem d22_16 : decode b_22 16 = .ok (.iload_n 3, 1) := by decide +kernel
theorem d22_17 : decode b_22 17 = .ok (.bipush 10, 2) := by decide +kernel
theorem d22_19 : decode b_22 19 = .ok (.if_icmp .ge 23, 3) := by decide +kernel
theorem d22_22 : decode b_22 22 = .ok (.iload_n 0, 1) := by decide +kernel
theorem d22_23 : decode b_22 23 = .ok (.iload_n 2, 1) := by decide +kernel
theorem d22_24 : decode b_22 24 = .ok (.if_icmp .le 7, 3) := by decide +kernel
theorem d22_27 : decode b_22 27 = .ok (.iload_n 3, 1) := by decide +kernel
theorem d22_28 : decode b_22 28 = .ok (.iload_n 1, 1) := by decide +kernel
theorem d22_29 : decode b_22 29 = .ok (.iadd, 1) := by decide +kernel
theorem d22_30 : decode b_22 30 = .ok (.ireturn, 1) := by decide +kernel
theorem d22_31 : decode b_22 31 = .ok (.bipush 10, 2) := by decide +kernel
theorem d22_33 : decode b_22 33 = .ok (.iload_n 2, 1) := by decide +kernel
theorem d22_34 : decode b_22 34 = .ok (.imul, 1) := by decide +kernel
theorem d22_35 : decode b_22 35 = .ok (.istore_n 2, 1) := by decide +kernel
theorem d22_36 : decode b_22 36 = .ok (.iinc 3 1, 3) := by decide +kernel
theorem d22_39 : decode b_22 39 = .ok (.goto (-23), 3) := by decide +kernel
theorem d22_42 : decode b_22 42 = .ok (.bipush 10, 2) := by decide +kernel
theorem d22_44 : decode b_22 44 = .ok (.iload_n 1, 1) := by decide +kernel
theorem d22_45 : decode b_22 45 = .ok (.iadd, 1) := by decide +kernel
theorem d22_46 : decode b_22 46 = .ok (.ireturn, 1) := by decide +kernel
theorem pn_7 : plainName "java/lang/Integer" = true := by first | (simp [plainName, overriddenIn]; done) | decide +kernel
def Qsz (Z : State) (x : Int32) (h0 : Heap) (n0 : Nat) (v : Option Value) (h : Heap) (L : List Loc) : Prop := v = some (.int (Int32.ofNat (own_dec x).length)) ∧ Fr n0 L ∧ h = h0
theorem own_sz (hx : p.tables.exec = Jvm.exec) (hby : c.code = jdk_33_method_13_code) (hlk : meth.locks = false) (hret : meth.sig.returnType = some .int) {x y : Int32} {dn mm : Nat} (hab : mm ≤ 2147483648) (hy : y.toInt = -(mm : Int)) (hdd : (own_dec x).length = (own_digs mm).length + dn) (X : Stand p l e ({ frames := 0, cells := 0, slots := 0, locals := 0 } : Room) s m #[.int x] below meth c T locs 0 0) (e0 : T.heap = h0) (N0 : Fr n0 locs) : oE p e below s 0 0 (Qsz Z x h0 n0) (T.setTop (mkF m 11 #[.val (.int y), .val (.int (Int32.ofNat dn)), .unset, .unset] [])) := by
  show oE p e below s _ _ _ (T.setTop (mkF m 11 #[.val (.int y), .val (.int (Int32.ofNat dn)), .unset, .unset] []))
  refine oS (fun _ k_ => XS.bipush X.here hx rfl (hb hby d22_11) (XS.istoreN X.here hx rfl (hb hby d22_13) rfl (l' := #[.val (.int y), .val (.int (Int32.ofNat dn)), .val (.int (-10 : Int32)), .unset]) rfl (XS.iconst X.here hx rfl (hb hby d22_14) (XS.istoreN X.here hx rfl (hb hby d22_15) rfl (l' := #[.val (.int y), .val (.int (Int32.ofNat dn)), .val (.int (-10 : Int32)), .val (.int (1 : Int32))]) rfl (XS.iloadN X.here hx rfl (hb hby d22_16) rfl (XS.bipush X.here hx rfl (hb hby d22_17) (XS.icmpNo X.here hx rfl (hb hby d22_19) rfl (XT.ii_ge_f (by decide : (1 : Int32) < (10 : Int32))) (XS.iloadN X.here hx rfl (hb hby d22_22) rfl k_)))))))) ?_
  refine oS (fun _ k_ => XS.iloadN X.here hx rfl (hb hby d22_23) rfl k_) ?_
  by_cases hq1 : (-10 : Int32) < y
  · refine oS (fun _ k_ => XS.icmpNo X.here hx rfl (hb hby d22_24) rfl (XT.ii_le_f hq1) k_) ?_
    show oE p e below s _ _ _ (T.setTop (mkF m 27 #[.val (.int y), .val (.int (Int32.ofNat dn)), .val (.int (-10 : Int32)), .val (.int (1 : Int32))] []))
    rw [Int32.lt_iff_toInt_lt, hy, show (-10 : Int32).toInt = -10 from rfl] at hq1
    refine oS (fun _ k_ => XS.iloadN X.here hx rfl (hb hby d22_27) rfl (XS.iloadN X.here hx rfl (hb hby d22_28) rfl (XS.iadd X.here hx rfl (hb hby d22_29) rfl k_))) ?_
    have ql : (own_dec x).length = 1 + dn := by rw [hdd, own_digs_len1 (by omega)]
    exact own_retI X hx hret hlk (hb hby d22_30) (by decide) (by decide) ⟨(congrArg (fun z => some (Value.int z)) (own_add 1 dn)).trans (congrArg (fun z => some (Value.int (Int32.ofNat z))) ql.symm), N0, e0⟩
  · refine oS (fun _ k_ => XS.icmpYes X.here hx rfl (pc0 := 24) (pc' := 31) rfl (hb hby d22_24) rfl (XT.ii_le_t hq1) (by decide) (by decide) k_) ?_
    show oE p e below s _ _ _ (T.setTop (mkF m 31 #[.val (.int y), .val (.int (Int32.ofNat dn)), .val (.int (-10 : Int32)), .val (.int (1 : Int32))] []))
    rw [Int32.lt_iff_toInt_lt, hy, show (-10 : Int32).toInt = -10 from rfl] at hq1
    refine oS (fun _ k_ => XS.bipush X.here hx rfl (hb hby d22_31) (XS.iloadN X.here hx rfl (hb hby d22_33) rfl (XS.imul X.here hx rfl (hb hby d22_34) rfl k_))) ?_
    show oE p e below s _ _ _ (T.setTop (mkF m 35 #[.val (.int y), .val (.int (Int32.ofNat dn)), .val (.int (-10 : Int32)), .val (.int (1 : Int32))] [(.int ((10 : Int32) * (-10 : Int32)))]))
    rw [show ((10 : Int32) * (-10 : Int32)) = (-100 : Int32) from by decide]
    refine oS (fun _ k_ => XS.istoreN X.here hx rfl (hb hby d22_35) rfl (l' := #[.val (.int y), .val (.int (Int32.ofNat dn)), .val (.int (-100 : Int32)), .val (.int (1 : Int32))]) rfl (XS.iinc X.here hx rfl (hb hby d22_36) rfl (l' := #[.val (.int y), .val (.int (Int32.ofNat dn)), .val (.int (-100 : Int32)), .val (.int ((1 : Int32) + (1 : Int32)))]) rfl k_)) ?_
    show oE p e below s _ _ _ (T.setTop (mkF m 39 #[.val (.int y), .val (.int (Int32.ofNat dn)), .val (.int (-100 : Int32)), .val (.int ((1 : Int32) + (1 : Int32)))] []))
    rw [show ((1 : Int32) + (1 : Int32)) = (2 : Int32) from by decide]
    refine oS (fun _ k_ => XS.goto X.here hx rfl (pc0 := 39) (pc' := 16) rfl (hb hby d22_39) (by decide) (by decide) (XS.iloadN X.here hx rfl (hb hby d22_16) rfl (XS.bipush X.here hx rfl (hb hby d22_17) (XS.icmpNo X.here hx rfl (hb hby d22_19) rfl (XT.ii_ge_f (by decide : (2 : Int32) < (10 : Int32))) (XS.iloadN X.here hx rfl (hb hby d22_22) rfl (XS.iloadN X.here hx rfl (hb hby d22_23) rfl k_)))))) ?_
    by_cases hq2 : (-100 : Int32) < y
    · refine oS (fun _ k_ => XS.icmpNo X.here hx rfl (hb hby d22_24) rfl (XT.ii_le_f hq2) k_) ?_
      show oE p e below s _ _ _ (T.setTop (mkF m 27 #[.val (.int y), .val (.int (Int32.ofNat dn)), .val (.int (-100 : Int32)), .val (.int (2 : Int32))] []))
      rw [Int32.lt_iff_toInt_lt, hy, show (-100 : Int32).toInt = -100 from rfl] at hq2
      refine oS (fun _ k_ => XS.iloadN X.here hx rfl (hb hby d22_27) rfl (XS.iloadN X.here hx rfl (hb hby d22_28) rfl (XS.iadd X.here hx rfl (hb hby d22_29) rfl k_))) ?_
      have ql : (own_dec x).length = 2 + dn := by rw [hdd, own_digs_len (k := 0) (by omega) (by omega)]
      exact own_retI X hx hret hlk (hb hby d22_30) (by decide) (by decide) ⟨(congrArg (fun z => some (Value.int z)) (own_add 2 dn)).trans (congrArg (fun z => some (Value.int (Int32.ofNat z))) ql.symm), N0, e0⟩
    · refine oS (fun _ k_ => XS.icmpYes X.here hx rfl (pc0 := 24) (pc' := 31) rfl (hb hby d22_24) rfl (XT.ii_le_t hq2) (by decide) (by decide) k_) ?_
      show oE p e below s _ _ _ (T.setTop (mkF m 31 #[.val (.int y), .val (.int (Int32.ofNat dn)), .val (.int (-100 : Int32)), .val (.int (2 : Int32))] []))
      rw [Int32.lt_iff_toInt_lt, hy, show (-100 : Int32).toInt = -100 from rfl] at hq2
      refine oS (fun _ k_ => XS.bipush X.here hx rfl (hb hby d22_31) (XS.iloadN X.here hx rfl (hb hby d22_33) rfl (XS.imul X.here hx rfl (hb hby d22_34) rfl k_))) ?_
      show oE p e below s _ _ _ (T.setTop (mkF m 35 #[.val (.int y), .val (.int (Int32.ofNat dn)), .val (.int (-100 : Int32)), .val (.int (2 : Int32))] [(.int ((10 : Int32) * (-100 : Int32)))]))
      rw [show ((10 : Int32) * (-100 : Int32)) = (-1000 : Int32) from by decide]
      refine oS (fun _ k_ => XS.istoreN X.here hx rfl (hb hby d22_35) rfl (l' := #[.val (.int y), .val (.int (Int32.ofNat dn)), .val (.int (-1000 : Int32)), .val (.int (2 : Int32))]) rfl (XS.iinc X.here hx rfl (hb hby d22_36) rfl (l' := #[.val (.int y), .val (.int (Int32.ofNat dn)), .val (.int (-1000 : Int32)), .val (.int ((2 : Int32) + (1 : Int32)))]) rfl k_)) ?_
      show oE p e below s _ _ _ (T.setTop (mkF m 39 #[.val (.int y), .val (.int (Int32.ofNat dn)), .val (.int (-1000 : Int32)), .val (.int ((2 : Int32) + (1 : Int32)))] []))
      rw [show ((2 : Int32) + (1 : Int32)) = (3 : Int32) from by decide]
      refine oS (fun _ k_ => XS.goto X.here hx rfl (pc0 := 39) (pc' := 16) rfl (hb hby d22_39) (by decide) (by decide) (XS.iloadN X.here hx rfl (hb hby d22_16) rfl (XS.bipush X.here hx rfl (hb hby d22_17) (XS.icmpNo X.here hx rfl (hb hby d22_19) rfl (XT.ii_ge_f (by decide : (3 : Int32) < (10 : Int32))) (XS.iloadN X.here hx rfl (hb hby d22_22) rfl (XS.iloadN X.here hx rfl (hb hby d22_23) rfl k_)))))) ?_
      by_cases hq3 : (-1000 : Int32) < y
      · refine oS (fun _ k_ => XS.icmpNo X.here hx rfl (hb hby d22_24) rfl (XT.ii_le_f hq3) k_) ?_
        show oE p e below s _ _ _ (T.setTop (mkF m 27 #[.val (.int y), .val (.int (Int32.ofNat dn)), .val (.int (-1000 : Int32)), .val (.int (3 : Int32))] []))
        rw [Int32.lt_iff_toInt_lt, hy, show (-1000 : Int32).toInt = -1000 from rfl] at hq3
        refine oS (fun _ k_ => XS.iloadN X.here hx rfl (hb hby d22_27) rfl (XS.iloadN X.here hx rfl (hb hby d22_28) rfl (XS.iadd X.here hx rfl (hb hby d22_29) rfl k_))) ?_
        have ql : (own_dec x).length = 3 + dn := by rw [hdd, own_digs_len (k := 1) (by omega) (by omega)]
        exact own_retI X hx hret hlk (hb hby d22_30) (by decide) (by decide) ⟨(congrArg (fun z => some (Value.int z)) (own_add 3 dn)).trans (congrArg (fun z => some (Value.int (Int32.ofNat z))) ql.symm), N0, e0⟩
      · refine oS (fun _ k_ => XS.icmpYes X.here hx rfl (pc0 := 24) (pc' := 31) rfl (hb hby d22_24) rfl (XT.ii_le_t hq3) (by decide) (by decide) k_) ?_
        show oE p e below s _ _ _ (T.setTop (mkF m 31 #[.val (.int y), .val (.int (Int32.ofNat dn)), .val (.int (-1000 : Int32)), .val (.int (3 : Int32))] []))
        rw [Int32.lt_iff_toInt_lt, hy, show (-1000 : Int32).toInt = -1000 from rfl] at hq3
        refine oS (fun _ k_ => XS.bipush X.here hx rfl (hb hby d22_31) (XS.iloadN X.here hx rfl (hb hby d22_33) rfl (XS.imul X.here hx rfl (hb hby d22_34) rfl k_))) ?_
        show oE p e below s _ _ _ (T.setTop (mkF m 35 #[.val (.int y), .val (.int (Int32.ofNat dn)), .val (.int (-1000 : Int32)), .val (.int (3 : Int32))] [(.int ((10 : Int32) * (-1000 : Int32)))]))
        rw [show ((10 : Int32) * (-1000 : Int32)) = (-10000 : Int32) from by decide]
        refine oS (fun _ k_ => XS.istoreN X.here hx rfl (hb hby d22_35) rfl (l' := #[.val (.int y), .val (.int (Int32.ofNat dn)), .val (.int (-10000 : Int32)), .val (.int (3 : Int32))]) rfl (XS.iinc X.here hx rfl (hb hby d22_36) rfl (l' := #[.val (.int y), .val (.int (Int32.ofNat dn)), .val (.int (-10000 : Int32)), .val (.int ((3 : Int32) + (1 : Int32)))]) rfl k_)) ?_
        show oE p e below s _ _ _ (T.setTop (mkF m 39 #[.val (.int y), .val (.int (Int32.ofNat dn)), .val (.int (-10000 : Int32)), .val (.int ((3 : Int32) + (1 : Int32)))] []))
        rw [show ((3 : Int32) + (1 : Int32)) = (4 : Int32) from by decide]
        refine oS (fun _ k_ => XS.goto X.here hx rfl (pc0 := 39) (pc' := 16) rfl (hb hby d22_39) (by decide) (by decide) (XS.iloadN X.here hx rfl (hb hby d22_16) rfl (XS.bipush X.here hx rfl (hb hby d22_17) (XS.icmpNo X.here hx rfl (hb hby d22_19) rfl (XT.ii_ge_f (by decide : (4 : Int32) < (10 : Int32))) (XS.iloadN X.here hx rfl (hb hby d22_22) rfl (XS.iloadN X.here hx rfl (hb hby d22_23) rfl k_)))))) ?_
        by_cases hq4 : (-10000 : Int32) < y
        · refine oS (fun _ k_ => XS.icmpNo X.here hx rfl (hb hby d22_24) rfl (XT.ii_le_f hq4) k_) ?_
          show oE p e below s _ _ _ (T.setTop (mkF m 27 #[.val (.int y), .val (.int (Int32.ofNat dn)), .val (.int (-10000 : Int32)), .val (.int (4 : Int32))] []))
          rw [Int32.lt_iff_toInt_lt, hy, show (-10000 : Int32).toInt = -10000 from rfl] at hq4
          refine oS (fun _ k_ => XS.iloadN X.here hx rfl (hb hby d22_27) rfl (XS.iloadN X.here hx rfl (hb hby d22_28) rfl (XS.iadd X.here hx rfl (hb hby d22_29) rfl k_))) ?_
          have ql : (own_dec x).length = 4 + dn := by rw [hdd, own_digs_len (k := 2) (by omega) (by omega)]
          exact own_retI X hx hret hlk (hb hby d22_30) (by decide) (by decide) ⟨(congrArg (fun z => some (Value.int z)) (own_add 4 dn)).trans (congrArg (fun z => some (Value.int (Int32.ofNat z))) ql.symm), N0, e0⟩
        · refine oS (fun _ k_ => XS.icmpYes X.here hx rfl (pc0 := 24) (pc' := 31) rfl (hb hby d22_24) rfl (XT.ii_le_t hq4) (by decide) (by decide) k_) ?_
          show oE p e below s _ _ _ (T.setTop (mkF m 31 #[.val (.int y), .val (.int (Int32.ofNat dn)), .val (.int (-10000 : Int32)), .val (.int (4 : Int32))] []))
          rw [Int32.lt_iff_toInt_lt, hy, show (-10000 : Int32).toInt = -10000 from rfl] at hq4
          refine oS (fun _ k_ => XS.bipush X.here hx rfl (hb hby d22_31) (XS.iloadN X.here hx rfl (hb hby d22_33) rfl (XS.imul X.here hx rfl (hb hby d22_34) rfl k_))) ?_
          show oE p e below s _ _ _ (T.setTop (mkF m 35 #[.val (.int y), .val (.int (Int32.ofNat dn)), .val (.int (-10000 : Int32)), .val (.int (4 : Int32))] [(.int ((10 : Int32) * (-10000 : Int32)))]))
          rw [show ((10 : Int32) * (-10000 : Int32)) = (-100000 : Int32) from by decide]
          refine oS (fun _ k_ => XS.istoreN X.here hx rfl (hb hby d22_35) rfl (l' := #[.val (.int y), .val (.int (Int32.ofNat dn)), .val (.int (-100000 : Int32)), .val (.int (4 : Int32))]) rfl (XS.iinc X.here hx rfl (hb hby d22_36) rfl (l' := #[.val (.int y), .val (.int (Int32.ofNat dn)), .val (.int (-100000 : Int32)), .val (.int ((4 : Int32) + (1 : Int32)))]) rfl k_)) ?_
          show oE p e below s _ _ _ (T.setTop (mkF m 39 #[.val (.int y), .val (.int (Int32.ofNat dn)), .val (.int (-100000 : Int32)), .val (.int ((4 : Int32) + (1 : Int32)))] []))
          rw [show ((4 : Int32) + (1 : Int32)) = (5 : Int32) from by decide]
          refine oS (fun _ k_ => XS.goto X.here hx rfl (pc0 := 39) (pc' := 16) rfl (hb hby d22_39) (by decide) (by decide) (XS.iloadN X.here hx rfl (hb hby d22_16) rfl (XS.bipush X.here hx rfl (hb hby d22_17) (XS.icmpNo X.here hx rfl (hb hby d22_19) rfl (XT.ii_ge_f (by decide : (5 : Int32) < (10 : Int32))) (XS.iloadN X.here hx rfl (hb hby d22_22) rfl (XS.iloadN X.here hx rfl (hb hby d22_23) rfl k_)))))) ?_
          by_cases hq5 : (-100000 : Int32) < y
          · refine oS (fun _ k_ => XS.icmpNo X.here hx rfl (hb hby d22_24) rfl (XT.ii_le_f hq5) k_) ?_
            show oE p e below s _ _ _ (T.setTop (mkF m 27 #[.val (.int y), .val (.int (Int32.ofNat dn)), .val (.int (-100000 : Int32)), .val (.int (5 : Int32))] []))
            rw [Int32.lt_iff_toInt_lt, hy, show (-100000 : Int32).toInt = -100000 from rfl] at hq5
            refine oS (fun _ k_ => XS.iloadN X.here hx rfl (hb hby d22_27) rfl (XS.iloadN X.here hx rfl (hb hby d22_28) rfl (XS.iadd X.here hx rfl (hb hby d22_29) rfl k_))) ?_
            have ql : (own_dec x).length = 5 + dn := by rw [hdd, own_digs_len (k := 3) (by omega) (by omega)]
            exact own_retI X hx hret hlk (hb hby d22_30) (by decide) (by decide) ⟨(congrArg (fun z => some (Value.int z)) (own_add 5 dn)).trans (congrArg (fun z => some (Value.int (Int32.ofNat z))) ql.symm), N0, e0⟩
          · refine oS (fun _ k_ => XS.icmpYes X.here hx rfl (pc0 := 24) (pc' := 31) rfl (hb hby d22_24) rfl (XT.ii_le_t hq5) (by decide) (by decide) k_) ?_
            show oE p e below s _ _ _ (T.setTop (mkF m 31 #[.val (.int y), .val (.int (Int32.ofNat dn)), .val (.int (-100000 : Int32)), .val (.int (5 : Int32))] []))
            rw [Int32.lt_iff_toInt_lt, hy, show (-100000 : Int32).toInt = -100000 from rfl] at hq5
            refine oS (fun _ k_ => XS.bipush X.here hx rfl (hb hby d22_31) (XS.iloadN X.here hx rfl (hb hby d22_33) rfl (XS.imul X.here hx rfl (hb hby d22_34) rfl k_))) ?_
            show oE p e below s _ _ _ (T.setTop (mkF m 35 #[.val (.int y), .val (.int (Int32.ofNat dn)), .val (.int (-100000 : Int32)), .val (.int (5 : Int32))] [(.int ((10 : Int32) * (-100000 : Int32)))]))
            rw [show ((10 : Int32) * (-100000 : Int32)) = (-1000000 : Int32) from by decide]
            refine oS (fun _ k_ => XS.istoreN X.here hx rfl (hb hby d22_35) rfl (l' := #[.val (.int y), .val (.int (Int32.ofNat dn)), .val (.int (-1000000 : Int32)), .val (.int (5 : Int32))]) rfl (XS.iinc X.here hx rfl (hb hby d22_36) rfl (l' := #[.val (.int y), .val (.int (Int32.ofNat dn)), .val (.int (-1000000 : Int32)), .val (.int ((5 : Int32) + (1 : Int32)))]) rfl k_)) ?_
            show oE p e below s _ _ _ (T.setTop (mkF m 39 #[.val (.int y), .val (.int (Int32.ofNat dn)), .val (.int (-1000000 : Int32)), .val (.int ((5 : Int32) + (1 : Int32)))] []))
            rw [show ((5 : Int32) + (1 : Int32)) = (6 : Int32) from by decide]
            refine oS (fun _ k_ => XS.goto X.here hx rfl (pc0 := 39) (pc' := 16) rfl (hb hby d22_39) (by decide) (by decide) (XS.iloadN X.here hx rfl (hb hby d22_16) rfl (XS.bipush X.here hx rfl (hb hby d22_17) (XS.icmpNo X.here hx rfl (hb hby d22_19) rfl (XT.ii_ge_f (by decide : (6 : Int32) < (10 : Int32))) (XS.iloadN X.here hx rfl (hb hby d22_22) rfl (XS.iloadN X.here hx rfl (hb hby d22_23) rfl k_)))))) ?_
            by_cases hq6 : (-1000000 : Int32) < y
            · refine oS (fun _ k_ => XS.icmpNo X.here hx rfl (hb hby d22_24) rfl (XT.ii_le_f hq6) k_) ?_
              show oE p e below s _ _ _ (T.setTop (mkF m 27 #[.val (.int y), .val (.int (Int32.ofNat dn)), .val (.int (-1000000 : Int32)), .val (.int (6 : Int32))] []))
              rw [Int32.lt_iff_toInt_lt, hy, show (-1000000 : Int32).toInt = -1000000 from rfl] at hq6
              refine oS (fun _ k_ => XS.iloadN X.here hx rfl (hb hby d22_27) rfl (XS.iloadN X.here hx rfl (hb hby d22_28) rfl (XS.iadd X.here hx rfl (hb hby d22_29) rfl k_))) ?_
              have ql : (own_dec x).length = 6 + dn := by rw [hdd, own_digs_len (k := 4) (by omega) (by omega)]
              exact own_retI X hx hret hlk (hb hby d22_30) (by decide) (by decide) ⟨(congrArg (fun z => some (Value.int z)) (own_add 6 dn)).trans (congrArg (fun z => some (Value.int (Int32.ofNat z))) ql.symm), N0, e0⟩
            · refine oS (fun _ k_ => XS.icmpYes X.here hx rfl (pc0 := 24) (pc' := 31) rfl (hb hby d22_24) rfl (XT.ii_le_t hq6) (by decide) (by decide) k_) ?_
              show oE p e below s _ _ _ (T.setTop (mkF m 31 #[.val (.int y), .val (.int (Int32.ofNat dn)), .val (.int (-1000000 : Int32)), .val (.int (6 : Int32))] []))
              rw [Int32.lt_iff_toInt_lt, hy, show (-1000000 : Int32).toInt = -1000000 from rfl] at hq6
              refine oS (fun _ k_ => XS.bipush X.here hx rfl (hb hby d22_31) (XS.iloadN X.here hx rfl (hb hby d22_33) rfl (XS.imul X.here hx rfl (hb hby d22_34) rfl k_))) ?_
              show oE p e below s _ _ _ (T.setTop (mkF m 35 #[.val (.int y), .val (.int (Int32.ofNat dn)), .val (.int (-1000000 : Int32)), .val (.int (6 : Int32))] [(.int ((10 : Int32) * (-1000000 : Int32)))]))
              rw [show ((10 : Int32) * (-1000000 : Int32)) = (-10000000 : Int32) from by decide]
              refine oS (fun _ k_ => XS.istoreN X.here hx rfl (hb hby d22_35) rfl (l' := #[.val (.int y), .val (.int (Int32.ofNat dn)), .val (.int (-10000000 : Int32)), .val (.int (6 : Int32))]) rfl (XS.iinc X.here hx rfl (hb hby d22_36) rfl (l' := #[.val (.int y), .val (.int (Int32.ofNat dn)), .val (.int (-10000000 : Int32)), .val (.int ((6 : Int32) + (1 : Int32)))]) rfl k_)) ?_
              show oE p e below s _ _ _ (T.setTop (mkF m 39 #[.val (.int y), .val (.int (Int32.ofNat dn)), .val (.int (-10000000 : Int32)), .val (.int ((6 : Int32) + (1 : Int32)))] []))
              rw [show ((6 : Int32) + (1 : Int32)) = (7 : Int32) from by decide]
              refine oS (fun _ k_ => XS.goto X.here hx rfl (pc0 := 39) (pc' := 16) rfl (hb hby d22_39) (by decide) (by decide) (XS.iloadN X.here hx rfl (hb hby d22_16) rfl (XS.bipush X.here hx rfl (hb hby d22_17) (XS.icmpNo X.here hx rfl (hb hby d22_19) rfl (XT.ii_ge_f (by decide : (7 : Int32) < (10 : Int32))) (XS.iloadN X.here hx rfl (hb hby d22_22) rfl (XS.iloadN X.here hx rfl (hb hby d22_23) rfl k_)))))) ?_
              by_cases hq7 : (-10000000 : Int32) < y
              · refine oS (fun _ k_ => XS.icmpNo X.here hx rfl (hb hby d22_24) rfl (XT.ii_le_f hq7) k_) ?_
                show oE p e below s _ _ _ (T.setTop (mkF m 27 #[.val (.int y), .val (.int (Int32.ofNat dn)), .val (.int (-10000000 : Int32)), .val (.int (7 : Int32))] []))
                rw [Int32.lt_iff_toInt_lt, hy, show (-10000000 : Int32).toInt = -10000000 from rfl] at hq7
                refine oS (fun _ k_ => XS.iloadN X.here hx rfl (hb hby d22_27) rfl (XS.iloadN X.here hx rfl (hb hby d22_28) rfl (XS.iadd X.here hx rfl (hb hby d22_29) rfl k_))) ?_
                have ql : (own_dec x).length = 7 + dn := by rw [hdd, own_digs_len (k := 5) (by omega) (by omega)]
                exact own_retI X hx hret hlk (hb hby d22_30) (by decide) (by decide) ⟨(congrArg (fun z => some (Value.int z)) (own_add 7 dn)).trans (congrArg (fun z => some (Value.int (Int32.ofNat z))) ql.symm), N0, e0⟩
              · refine oS (fun _ k_ => XS.icmpYes X.here hx rfl (pc0 := 24) (pc' := 31) rfl (hb hby d22_24) rfl (XT.ii_le_t hq7) (by decide) (by decide) k_) ?_
                show oE p e below s _ _ _ (T.setTop (mkF m 31 #[.val (.int y), .val (.int (Int32.ofNat dn)), .val (.int (-10000000 : Int32)), .val (.int (7 : Int32))] []))
                rw [Int32.lt_iff_toInt_lt, hy, show (-10000000 : Int32).toInt = -10000000 from rfl] at hq7
                refine oS (fun _ k_ => XS.bipush X.here hx rfl (hb hby d22_31) (XS.iloadN X.here hx rfl (hb hby d22_33) rfl (XS.imul X.here hx rfl (hb hby d22_34) rfl k_))) ?_
                show oE p e below s _ _ _ (T.setTop (mkF m 35 #[.val (.int y), .val (.int (Int32.ofNat dn)), .val (.int (-10000000 : Int32)), .val (.int (7 : Int32))] [(.int ((10 : Int32) * (-10000000 : Int32)))]))
                rw [show ((10 : Int32) * (-10000000 : Int32)) = (-100000000 : Int32) from by decide]
                refine oS (fun _ k_ => XS.istoreN X.here hx rfl (hb hby d22_35) rfl (l' := #[.val (.int y), .val (.int (Int32.ofNat dn)), .val (.int (-100000000 : Int32)), .val (.int (7 : Int32))]) rfl (XS.iinc X.here hx rfl (hb hby d22_36) rfl (l' := #[.val (.int y), .val (.int (Int32.ofNat dn)), .val (.int (-100000000 : Int32)), .val (.int ((7 : Int32) + (1 : Int32)))]) rfl k_)) ?_
                show oE p e below s _ _ _ (T.setTop (mkF m 39 #[.val (.int y), .val (.int (Int32.ofNat dn)), .val (.int (-100000000 : Int32)), .val (.int ((7 : Int32) + (1 : Int32)))] []))
                rw [show ((7 : Int32) + (1 : Int32)) = (8 : Int32) from by decide]
                refine oS (fun _ k_ => XS.goto X.here hx rfl (pc0 := 39) (pc' := 16) rfl (hb hby d22_39) (by decide) (by decide) (XS.iloadN X.here hx rfl (hb hby d22_16) rfl (XS.bipush X.here hx rfl (hb hby d22_17) (XS.icmpNo X.here hx rfl (hb hby d22_19) rfl (XT.ii_ge_f (by decide : (8 : Int32) < (10 : Int32))) (XS.iloadN X.here hx rfl (hb hby d22_22) rfl (XS.iloadN X.here hx rfl (hb hby d22_23) rfl k_)))))) ?_
                by_cases hq8 : (-100000000 : Int32) < y
                · refine oS (fun _ k_ => XS.icmpNo X.here hx rfl (hb hby d22_24) rfl (XT.ii_le_f hq8) k_) ?_
                  show oE p e below s _ _ _ (T.setTop (mkF m 27 #[.val (.int y), .val (.int (Int32.ofNat dn)), .val (.int (-100000000 : Int32)), .val (.int (8 : Int32))] []))
                  rw [Int32.lt_iff_toInt_lt, hy, show (-100000000 : Int32).toInt = -100000000 from rfl] at hq8
                  refine oS (fun _ k_ => XS.iloadN X.here hx rfl (hb hby d22_27) rfl (XS.iloadN X.here hx rfl (hb hby d22_28) rfl (XS.iadd X.here hx rfl (hb hby d22_29) rfl k_))) ?_
                  have ql : (own_dec x).length = 8 + dn := by rw [hdd, own_digs_len (k := 6) (by omega) (by omega)]
                  exact own_retI X hx hret hlk (hb hby d22_30) (by decide) (by decide) ⟨(congrArg (fun z => some (Value.int z)) (own_add 8 dn)).trans (congrArg (fun z => some (Value.int (Int32.ofNat z))) ql.symm), N0, e0⟩
                · refine oS (fun _ k_ => XS.icmpYes X.here hx rfl (pc0 := 24) (pc' := 31) rfl (hb hby d22_24) rfl (XT.ii_le_t hq8) (by decide) (by decide) k_) ?_
                  show oE p e below s _ _ _ (T.setTop (mkF m 31 #[.val (.int y), .val (.int (Int32.ofNat dn)), .val (.int (-100000000 : Int32)), .val (.int (8 : Int32))] []))
                  rw [Int32.lt_iff_toInt_lt, hy, show (-100000000 : Int32).toInt = -100000000 from rfl] at hq8
                  refine oS (fun _ k_ => XS.bipush X.here hx rfl (hb hby d22_31) (XS.iloadN X.here hx rfl (hb hby d22_33) rfl (XS.imul X.here hx rfl (hb hby d22_34) rfl k_))) ?_
                  show oE p e below s _ _ _ (T.setTop (mkF m 35 #[.val (.int y), .val (.int (Int32.ofNat dn)), .val (.int (-100000000 : Int32)), .val (.int (8 : Int32))] [(.int ((10 : Int32) * (-100000000 : Int32)))]))
                  rw [show ((10 : Int32) * (-100000000 : Int32)) = (-1000000000 : Int32) from by decide]
                  refine oS (fun _ k_ => XS.istoreN X.here hx rfl (hb hby d22_35) rfl (l' := #[.val (.int y), .val (.int (Int32.ofNat dn)), .val (.int (-1000000000 : Int32)), .val (.int (8 : Int32))]) rfl (XS.iinc X.here hx rfl (hb hby d22_36) rfl (l' := #[.val (.int y), .val (.int (Int32.ofNat dn)), .val (.int (-1000000000 : Int32)), .val (.int ((8 : Int32) + (1 : Int32)))]) rfl k_)) ?_
                  show oE p e below s _ _ _ (T.setTop (mkF m 39 #[.val (.int y), .val (.int (Int32.ofNat dn)), .val (.int (-1000000000 : Int32)), .val (.int ((8 : Int32) + (1 : Int32)))] []))
                  rw [show ((8 : Int32) + (1 : Int32)) = (9 : Int32) from by decide]
                  refine oS (fun _ k_ => XS.goto X.here hx rfl (pc0 := 39) (pc' := 16) rfl (hb hby d22_39) (by decide) (by decide) (XS.iloadN X.here hx rfl (hb hby d22_16) rfl (XS.bipush X.here hx rfl (hb hby d22_17) (XS.icmpNo X.here hx rfl (hb hby d22_19) rfl (XT.ii_ge_f (by decide : (9 : Int32) < (10 : Int32))) (XS.iloadN X.here hx rfl (hb hby d22_22) rfl (XS.iloadN X.here hx rfl (hb hby d22_23) rfl k_)))))) ?_
                  by_cases hq9 : (-1000000000 : Int32) < y
                  · refine oS (fun _ k_ => XS.icmpNo X.here hx rfl (hb hby d22_24) rfl (XT.ii_le_f hq9) k_) ?_
                    show oE p e below s _ _ _ (T.setTop (mkF m 27 #[.val (.int y), .val (.int (Int32.ofNat dn)), .val (.int (-1000000000 : Int32)), .val (.int (9 : Int32))] []))
                    rw [Int32.lt_iff_toInt_lt, hy, show (-1000000000 : Int32).toInt = -1000000000 from rfl] at hq9
                    refine oS (fun _ k_ => XS.iloadN X.here hx rfl (hb hby d22_27) rfl (XS.iloadN X.here hx rfl (hb hby d22_28) rfl (XS.iadd X.here hx rfl (hb hby d22_29) rfl k_))) ?_
                    have ql : (own_dec x).length = 9 + dn := by rw [hdd, own_digs_len (k := 7) (by omega) (by omega)]
                    exact own_retI X hx hret hlk (hb hby d22_30) (by decide) (by decide) ⟨(congrArg (fun z => some (Value.int z)) (own_add 9 dn)).trans (congrArg (fun z => some (Value.int (Int32.ofNat z))) ql.symm), N0, e0⟩
                  · refine oS (fun _ k_ => XS.icmpYes X.here hx rfl (pc0 := 24) (pc' := 31) rfl (hb hby d22_24) rfl (XT.ii_le_t hq9) (by decide) (by decide) k_) ?_
                    show oE p e below s _ _ _ (T.setTop (mkF m 31 #[.val (.int y), .val (.int (Int32.ofNat dn)), .val (.int (-1000000000 : Int32)), .val (.int (9 : Int32))] []))
                    rw [Int32.lt_iff_toInt_lt, hy, show (-1000000000 : Int32).toInt = -1000000000 from rfl] at hq9
                    refine oS (fun _ k_ => XS.bipush X.here hx rfl (hb hby d22_31) (XS.iloadN X.here hx rfl (hb hby d22_33) rfl (XS.imul X.here hx rfl (hb hby d22_34) rfl k_))) ?_
                    show oE p e below s _ _ _ (T.setTop (mkF m 35 #[.val (.int y), .val (.int (Int32.ofNat dn)), .val (.int (-1000000000 : Int32)), .val (.int (9 : Int32))] [(.int ((10 : Int32) * (-1000000000 : Int32)))]))
                    rw [show ((10 : Int32) * (-1000000000 : Int32)) = (-1410065408 : Int32) from by decide]
                    refine oS (fun _ k_ => XS.istoreN X.here hx rfl (hb hby d22_35) rfl (l' := #[.val (.int y), .val (.int (Int32.ofNat dn)), .val (.int (-1410065408 : Int32)), .val (.int (9 : Int32))]) rfl (XS.iinc X.here hx rfl (hb hby d22_36) rfl (l' := #[.val (.int y), .val (.int (Int32.ofNat dn)), .val (.int (-1410065408 : Int32)), .val (.int ((9 : Int32) + (1 : Int32)))]) rfl k_)) ?_
                    show oE p e below s _ _ _ (T.setTop (mkF m 39 #[.val (.int y), .val (.int (Int32.ofNat dn)), .val (.int (-1410065408 : Int32)), .val (.int ((9 : Int32) + (1 : Int32)))] []))
                    rw [show ((9 : Int32) + (1 : Int32)) = (10 : Int32) from by decide]
                    refine oS (fun _ k_ => XS.goto X.here hx rfl (pc0 := 39) (pc' := 16) rfl (hb hby d22_39) (by decide) (by decide) (XS.iloadN X.here hx rfl (hb hby d22_16) rfl (XS.bipush X.here hx rfl (hb hby d22_17) (XS.icmpYes X.here hx rfl (pc0 := 19) (pc' := 42) rfl (hb hby d22_19) rfl (XT.ii_ge_t (by decide : ¬ ((10 : Int32) < (10 : Int32)))) (by decide) (by decide) (XS.bipush X.here hx rfl (hb hby d22_42) (XS.iloadN X.here hx rfl (hb hby d22_44) rfl (XS.iadd X.here hx rfl (hb hby d22_45) rfl k_))))))) ?_
                    have ql : (own_dec x).length = 10 + dn := by rw [hdd, own_digs_len (k := 8) (by omega) (by omega)]
                    exact own_retI X hx hret hlk (hb hby d22_46) (by decide) (by decide) ⟨(congrArg (fun z => some (Value.int z)) (own_add 10 dn)).trans (congrArg (fun z => some (Value.int (Int32.ofNat z))) ql.symm), N0, e0⟩
theorem cl_rmsi (X : Stand p l e R s m args below meth c T locs cells slots) (hw : ∀ d ∈ tables_1, d.before a0 Z = true) (hZ : Z.Warmed39 s.vm) (hx : p.tables.exec = Jvm.exec) (hown : s.vm.findClass own = some m.cls) (lk : (Cond.methodLink own index (⟨"java/lang/StringBuilder", "<init>", "()V"⟩ : MethodName)).before a0 Z = true) (sb : Addr) (cs : Int32) (fm : Value) (d1 d2 : Addr) (Z0 : n0 ≤ h0.size) (Wd : own_Wd Z cs fm d1 d2) (OZ : Old Z n0 h0) (Es : Exa Z h0 sb "java/lang/StringBuilder") (Vs : Fld Z h0 sb "java/lang/AbstractStringBuilder" "value" "[B" .null) (Ms : Fld Z h0 sb "java/lang/AbstractStringBuilder" "count" "I" (.int 0)) (Cs : Fld Z h0 sb "java/lang/AbstractStringBuilder" "coder" "B" (.int 0)) (gs : n0 ≤ sb) (eT : T.heap = h0) (hml : c.maxLocals = kml) (hsz : Ls.size = kml) (hd : decode c.code pc = .ok (.invokespecial index, 3)) (hr : own_rm ({ frames := 2, cells := 1, slots := 16, locals := 44 } : Room) 1 R rest cells slots = true) :
    ∃ v T' L, Stand p l e R s m args below meth c T' (locs ++ L) (cells + 1) (slots + 16) ∧ Qsi Z sb cs fm d1 d2 h0 n0 v T'.heap L ∧ ∀ t, Steps p.tables e below (T'.setTop (mkF m (pc + 3) Ls (v.toList ++ rest))) t → Steps p.tables e below (T.setTop (mkF m pc Ls ((.ref sb) :: rest))) t := by
  obtain ⟨v, T', L, X', hQ, sq⟩ := own_cI (argsL := []) (rest := rest) (rmsi l Z a0 hw [] sb cs fm d1 d2 h0 n0 Z0 Wd OZ Es Vs Ms Cs gs) pd_18 rfl (wd_ hw 79 rfl) (wd_ hw 76 rfl) (wd_ hw 78 rfl) rfl (by decide) hZ hx hown X lk eT hml hsz hd hr
  exact ⟨v, T', L, X', hQ, sq⟩
theorem ef_rmsz (m : MethodId) (x : Int32)  : entryFrame m #[(.int x)] 4 = mkF m 0 #[.val (.int x), .unset, .unset, .unset] [] := by first | (simp [entryFrame, mkF, argsToLocals, Value.category]; done) | rfl
theorem rmsz (l : Launch) (Z : State) (a0 : Array Value) (hw : ∀ d ∈ tables_1, d.before a0 Z = true) (ws : List Jvm.Cond) (x : Int32) (h0 : Heap) (n0 : Nat) (Z0 : n0 ≤ h0.size)  :
    own_MF l (⟨"java/lang/Integer", "stringSize", "(I)I"⟩ : MethodName) jdk_33_method_13_code 4 (some .int) ws ({ frames := 0, cells := 0, slots := 0, locals := 0 } : Room) #[(.int x)] Z h0 (Qsz Z x h0 n0) := by
  refine MetFree.of_bodySF (plainFor_of_name pn_7) hisR ?_
  intro p e s m args below meth c s₁ Bd hml0 hP hK
  obtain ⟨rfl, hZ, hh⟩ := hP
  have hx := Bd.exec
  have hby := Bd.bytes
  have hlk : meth.locks = false := BodyLoose.notSynchronized Bd
  have hret := Bd.returns
  have hml : c.maxLocals = 4 := hml0
  have hown : s.vm.findClass "java/lang/Integer" = some m.cls := findClass_of_methodNamed Bd.named
  have hnm := (name_of_methodNamed Bd.named Bd.method).1
  have X0 : Stand p l e ({ frames := 0, cells := 0, slots := 0, locals := 0 } : Room) s m #[(.int x)] below meth c s₁ [] 0 0 := Stand.of_body Bd
  have e0 : s₁.heap = h0 := by rw [← hh, Bd.state]; rfl
  have N0 := Fr.nil n0
  show oE p e below s 0 0 (Qsz Z x h0 n0) (s₁.setTop (entryFrame m #[(.int x)] 4))
  refine oS (fun t k => castTop (ef_rmsz m x ) k) ?_
  show oE p e below s _ _ _ (s₁.setTop (mkF m 0 #[.val (.int x), .unset, .unset, .unset] []))
  have hab := own_abs x
  refine oS (fun _ k_ => XS.iconst X0.here hx rfl (hb hby d22_0) (XS.istoreN X0.here hx rfl (hb hby d22_1) rfl (l' := #[.val (.int x), .val (.int (1 : Int32)), .unset, .unset]) rfl (XS.iloadN X0.here hx rfl (hb hby d22_2) rfl k_))) ?_
  by_cases hc3 : x < 0
  · refine oS (fun _ k_ => XS.ifYes X0.here hx rfl (pc0 := 3) (pc' := 11) rfl (hb hby d22_3) rfl (XT.i0_lt_t hc3) (by decide) (by decide) k_) ?_
    show oE p e below s _ _ _ (s₁.setTop (mkF m 11 #[.val (.int x), .val (.int (1 : Int32)), .unset, .unset] []))
    exact own_sz (dn := 1) hx hby hlk hret hab (own_yy hc3) (by rw [own_dec_neg hc3]; rfl) X0 e0 N0
  · refine oS (fun _ k_ => XS.ifNo X0.here hx rfl (hb hby d22_3) rfl (XT.i0_lt_f hc3) (XS.iconst X0.here hx rfl (hb hby d22_6) (XS.istoreN X0.here hx rfl (hb hby d22_7) rfl (l' := #[.val (.int x), .val (.int (0 : Int32)), .unset, .unset]) rfl (XS.iloadN X0.here hx rfl (hb hby d22_8) rfl (XS.ineg X0.here hx rfl (hb hby d22_9) rfl (XS.istoreN X0.here hx rfl (hb hby d22_10) rfl (l' := #[.val (.int (-x)), .val (.int (0 : Int32)), .unset, .unset]) rfl k_)))))) ?_
    show oE p e below s _ _ _ (s₁.setTop (mkF m 11 #[.val (.int (-x)), .val (.int (0 : Int32)), .unset, .unset] []))
    exact own_sz (dn := 0) hx hby hlk hret hab (own_ny hc3) (by rw [own_dec_pos hc3]; rfl) X0 e0 N0
def b_24 := jdk_33_method_12_code
theorem d24_0 : decode b_24 0 = .ok (.iload_n 1, 1) := by decide +kernel
theorem d24_1 : decode b_24 1 = .ok (.istore 5, 2) := by decide +kernel
theorem d24_3 : decode b_24 3 = .ok (.iload_n 0, 1) := by decide +kernel
theorem d24_4 : decode b_24 4 = .ok (.ifCond .ge 7, 3) := by decide +kernel
theorem d24_7 : decode b_24 7 = .ok (.iconst 1, 1) := by decide +kernel
theorem d24_8 : decode b_24 8 = .ok (.goto 4, 3) := by decide +kernel
theorem d24_11 : decode b_24 11 = .ok (.iconst 0, 1) := by decide +kernel
theorem d24_12 : decode b_24 12 = .ok (.istore 6, 2) := by decide +kernel
theorem d24_14 : decode b_24 14 = .ok (.iload 6, 2) := by decide +kernel
theorem d24_16 : decode b_24 16 = .ok (.ifCond .ne 6, 3) := by decide +kernel
theorem d24_19 : decode b_24 19 = .ok (.iload_n 0, 1) := by decide +kernel
theorem d24_20 : decode b_24 20 = .ok (.ineg, 1) := by decide +kernel
theorem d24_21 : decode b_24 21 = .ok (.istore_n 0, 1) := by decide +kernel
theorem d24_22 : decode b_24 22 = .ok (.iload_n 0, 1) := by decide +kernel
theorem d24_23 : decode b_24 23 = .ok (.bipush (-100), 2) := by decide +kernel
theorem d24_25 : decode b_24 25 = .ok (.if_icmp .gt 47, 3) := by decide +kernel
theorem d24_28 : decode b_24 28 = .ok (.iload_n 0, 1) := by decide +kernel
theorem d24_29 : decode b_24 29 = .ok (.bipush 100, 2) := by decide +kernel
theorem d24_31 : decode b_24 31 = .ok (.idiv, 1) := by decide +kernel
theorem d24_32 : decode b_24 32 = .ok (.istore_n 3, 1) := by decide +kernel
theorem d24_33 : decode b_24 33 = .ok (.iload_n 3, 1) := by decide +kernel
theorem d24_34 : decode b_24 34 = .ok (.bipush 100, 2) := by decide +kernel
theorem d24_36 : decode b_24 36 = .ok (.imul, 1) := by decide +kernel
theorem d24_37 : decode b_24 37 = .ok (.iload_n 0, 1) := by decide +kernel
theorem d24_38 : decode b_24 38 = .ok (.isub, 1) := by decide +kernel
theorem d24_39 : decode b_24 39 = .ok (.istore 4, 2) := by decide +kernel
theorem d24_41 : decode b_24 41 = .ok (.iload_n 3, 1) := by decide +kernel
theorem d24_42 : decode b_24 42 = .ok (.istore_n 0, 1) := by decide +kernel
theorem d24_43 : decode b_24 43 = .ok (.aload_n 2, 1) := by decide +kernel
theorem d24_44 : decode b_24 44 = .ok (.iinc 5 (-1), 3) := by decide +kernel
theorem d24_47 : decode b_24 47 = .ok (.iload 5, 2) := by decide +kernel
theorem d24_49 : decode b_24 49 = .ok (.getstatic 83, 3) := by decide +kernel
theorem d24_52 : decode b_24 52 = .ok (.iload 4, 2) := by decide +kernel
theorem d24_54 : decode b_24 54 = .ok (.baload, 1) := by decide +kernel
theorem d24_55 : decode b_24 55 = .ok (.bastore, 1) := by decide +kernel
theorem d24_56 : decode b_24 56 = .ok (.aload_n 2, 1) := by decide +kernel
theorem d24_57 : decode b_24 57 = .ok (.iinc 5 (-1), 3) := by decide +kernel
theorem d24_60 : decode b_24 60 = .ok (.iload 5, 2) := by decide +kernel
theorem d24_62 : decode b_24 62 = .ok (.getstatic 87, 3) := by decide +kernel
theorem d24_65 : decode b_24 65 = .ok (.iload 4, 2) := by decide +kernel
theorem d24_67 : decode b_24 67 = .ok (.baload, 1) := by decide +kernel
theorem d24_68 : decode b_24 68 = .ok (.bastore, 1) := by decide +kernel
theorem d24_69 : decode b_24 69 = .ok (.goto (-47), 3) := by decide +kernel
theorem d24_72 : decode b_24 72 = .ok (.aload_n 2, 1) := by decide +kernel
theorem d24_73 : decode b_24 73 = .ok (.iinc 5 (-1), 3) := by decide +kernel
theorem d24_76 : decode b_24 76 = .ok (.iload 5, 2) := by decide +kernel
theorem d24_78 : decode b_24 78 = .ok (.getstatic 83, 3) := by decide +kernel
theorem d24_81 : decode b_24 81 = .ok (.iload_n 0, 1) := by decide +kernel
theorem d24_82 : decode b_24 82 = .ok (.ineg, 1) := by decide +kernel
theorem d24_83 : decode b_24 83 = .ok (.baload, 1) := by decide +kernel
theorem d24_84 : decode b_24 84 = .ok (.bastore, 1) := by decide +kernel
theorem d24_85 : decode b_24 85 = .ok (.iload_n 0, 1) := by decide +kernel
theorem d24_86 : decode b_24 86 = .ok (.bipush (-9), 2) := by decide +kernel
theorem d24_88 : decode b_24 88 = .ok (.if_icmp .ge 16, 3) := by decide +kernel
theorem d24_91 : decode b_24 91 = .ok (.aload_n 2, 1) := by decide +kernel
theorem d24_92 : decode b_24 92 = .ok (.iinc 5 (-1), 3) := by decide +kernel
theorem d24_95 : decode b_24 95 = .ok (.iload 5, 2) := by decide +kernel
theorem d24_97 : decode b_24 97 = .ok (.getstatic 87, 3) := by decide +kernel
theorem d24_100 : decode b_24 100 = .ok (.iload_n 0, 1) := by decide +kernel
theorem d24_101 : decode b_24 101 = .ok (.ineg, 1) := by decide +kernel
theorem d24_102 : decode b_24 102 = .ok (.baload, 1) := by decide +kernel
theorem d24_103 : decode b_24 103 = .ok (.bastore, 1) := by decide +kernel
theorem d24_104 : decode b_24 104 = .ok (.iload 6, 2) := by decide +kernel
theorem d24_106 : decode b_24 106 = .ok (.ifCond .eq 12, 3) := by decide +kernel
theorem d24_109 : decode b_24 109 = .ok (.aload_n 2, 1) := by decide +kernel
theorem d24_110 : decode b_24 110 = .ok (.iinc 5 (-1), 3) := by decide +kernel
theorem d24_113 : decode b_24 113 = .ok (.iload 5, 2) := by decide +kernel
theorem d24_115 : decode b_24 115 = .ok (.bipush 45, 2) := by decide +kernel
theorem d24_117 : decode b_24 117 = .ok (.bastore, 1) := by decide +kernel
theorem d24_118 : decode b_24 118 = .ok (.iload 5, 2) := by decide +kernel
theorem d24_120 : decode b_24 120 = .ok (.ireturn, 1) := by decide +kernel
def Qgc (Z : State) (x : Int32) (va : Addr) (cs : Int32) (fm : Value) (d1 d2 : Addr) (ps ms qs : List Nat) (h0 : Heap) (n0 : Nat) (v : Option Value) (h : Heap) (L : List Loc) : Prop := (∃ z, v = some (.int z)) ∧ Fr n0 L ∧ Keep h0 h [va] ∧ own_By Z h va (ps ++ own_dec x ++ qs)
theorem own_gcl0 {p : Program} {l : Launch} {e : Env} {s : State} {m : MethodId} {below : List Frame} {meth : Method} {c : Code} {Z : State} {a0 : Array Value} (hw : ∀ d ∈ tables_1, d.before a0 Z = true) (hZ : Z.Warmed39 s.vm) (hx : p.tables.exec = Jvm.exec) (hby : c.code = jdk_33_method_12_code) (hlk : meth.locks = false) (hret : meth.sig.returnType = some .int) (hml : c.maxLocals = 7) (hown : s.vm.findClass "java/lang/Integer" = some m.cls) {x : Int32} {va : Addr} {cs : Int32} {fm : Value} {d1 d2 : Addr} {ps ms qs : List Nat} {h0 : Heap} {n0 : Nat} (Wd : own_Wd Z cs fm d1 d2) (g1 : n0 ≤ va) (nd1 : d1 ≠ va) (nd2 : d2 ≠ va) {ix : Int32} :
    ∀ (n mm : Nat) (hmn : mm < n) (hmb : mm ≤ 2147483648) (y : Int32) (hy : y.toInt = -(mm : Int)) (hole dn : List Nat) (hl : hole.length = (([] : List Nat)).length + (own_digs mm).length) (hres : ps ++ ([] : List Nat) ++ own_digs mm ++ dn = ps ++ own_dec x ++ qs) (s3 s4 : Slot) (os3 : own_one s3) (os4 : own_one s4) (T : State) (locs : List Loc) (h : Heap) (X : Stand p l e ({ frames := 0, cells := 0, slots := 0, locals := 0 } : Room) s m #[.int x, .int (Int32.ofNat (ps.length + (own_dec x).length)), .ref va] below meth c T locs 0 0) (e0 : T.heap = h) (N0 : Fr n0 locs) (Z0 : n0 ≤ h.size) (OZ : Old Z n0 h) (K0 : Keep h0 h [va]) (B : own_By Z h va (ps ++ hole ++ dn)), oE p e below s 0 0 (Qgc Z x va cs fm d1 d2 ps ms qs h0 n0) (T.setTop (mkF m 22 #[.val (.int y), .val (.int ix), .val (.ref va), s3, s4, .val (.int (Int32.ofNat (ps.length + hole.length))), .val (.int (0 : Int32))] [])) := by
  intro n
  induction n with
  | zero => intro mm hmn; exact absurd hmn (Nat.not_lt_zero _)
  | succ n ih =>
    intro mm hmn hmb y hy hole dn hl hres s3 s4 os3 os4 T locs h X e0 N0 Z0 OZ K0 B
    have Bd1 := Wd.2.2.2.2.2.1.ext OZ.2
    have Bd2 := Wd.2.2.2.2.2.2.2.ext OZ.2
    show oE p e below s _ _ _ (T.setTop (mkF m 22 #[.val (.int y), .val (.int ix), .val (.ref va), s3, s4, .val (.int (Int32.ofNat (ps.length + hole.length))), .val (.int (0 : Int32))] []))
    refine oS (fun _ k_ => XS.iloadN X.here hx rfl (hb hby d24_22) rfl (XS.bipush X.here hx rfl (hb hby d24_23) k_)) ?_
    by_cases hc25 : (-100 : Int32) < y
    · refine oS (fun _ k_ => XS.icmpYes X.here hx rfl (pc0 := 25) (pc' := 72) rfl (hb hby d24_25) rfl (XT.ii_gt_t hc25) (by decide) (by decide) k_) ?_
      show oE p e below s _ _ _ (T.setTop (mkF m 72 #[.val (.int y), .val (.int ix), .val (.ref va), s3, s4, .val (.int (Int32.ofNat (ps.length + hole.length))), .val (.int (0 : Int32))] []))
      rw [Int32.lt_iff_toInt_lt, hy, show (-100 : Int32).toInt = -100 from rfl] at hc25
      by_cases hten : mm < 10
      · have hdg := own_digs_lt hten
        obtain ⟨w, rfl⟩ := own_last1 (xs := hole) (by rw [hl, hdg]; rfl)
        show oE p e below s _ _ _ (T.setTop (mkF m 72 #[.val (.int y), .val (.int ix), .val (.ref va), s3, s4, .val (.int (Int32.ofNat (ps.length + [w].length))), .val (.int (0 : Int32))] []))
        refine oS (fun _ k_ => XS.aloadN X.here hx rfl (hb hby d24_72) rfl rfl (XS.iinc X.here hx rfl (hb hby d24_73) rfl (l' := #[.val (.int y), .val (.int ix), .val (.ref va), s3, s4, .val (.int ((Int32.ofNat (ps.length + [w].length)) + (-1 : Int32))), .val (.int (0 : Int32))]) rfl k_)) ?_
        show oE p e below s _ _ _ (T.setTop (mkF m 76 #[.val (.int y), .val (.int ix), .val (.ref va), s3, s4, .val (.int ((Int32.ofNat (ps.length + [w].length)) + (-1 : Int32))), .val (.int (0 : Int32))] [(.ref va)]))
        rw [own_pred (n := (ps.length + [w].length)) (k := (ps.length + 0)) rfl]
        refine oS (fun _ k_ => XS.iload X.here hx rfl (hb hby d24_76) rfl k_) ?_
        obtain ⟨T54, X54, e54, st54⟩ := getS2 X hx hZ hown (host := "") (Or.inl (wd_ hw 164 rfl)) Via.refl e0 (Sta.ext OZ.2 Wd.2.2.2.2.1) (g := (mkF m 78 #[.val (.int y), .val (.int ix), .val (.ref va), s3, s4, .val (.int (Int32.ofNat (ps.length + 0))), .val (.int (0 : Int32))] [(.int (Int32.ofNat (ps.length + 0))), (.ref va)])) rfl (hb hby d24_78)
        refine oS (fun _ k_ => st54 _ k_) ?_
        refine oS (fun _ k_ => XS.iloadN X54.here hx rfl (hb hby d24_81) rfl (XS.ineg X54.here hx rfl (hb hby d24_82) rfl k_)) ?_
        show oE p e below s _ _ _ (T54.setTop (mkF m 83 #[.val (.int y), .val (.int ix), .val (.ref va), s3, s4, .val (.int (Int32.ofNat (ps.length + 0))), .val (.int (0 : Int32))] [(.int (-y)), (.ref d1), (.int (Int32.ofNat (ps.length + 0))), (.ref va)]))
        rw [own_negN (by omega) hy]
        refine oS (fun _ k_ => own_baload X54 hx hZ e54 (Bd1).1 (j := (Int32.ofNat mm)) (own_nn (by omega)) (i := mm) (own_nc (by omega)) (v := (.int (Int32.ofNat (48 + mm % 10)))) (own_V_at (own_D1_at (by omega))) (hb hby d24_83) _ k_) ?_
        obtain ⟨T55, h55, L55, w55, X55, rL55, e55, W55, B55, st55⟩ := own_bput X54 hx hZ e54 (xs := (ps ++ [])) (b0 := w) (ys := dn) (v := (48 + mm % 10)) (k := (ps.length + 0)) (B.cast (by simp)) (by omega) (by simp <;> omega) (Ls := #[.val (.int y), .val (.int ix), .val (.ref va), s3, s4, .val (.int (Int32.ofNat (ps.length + 0))), .val (.int (0 : Int32))]) (st := []) (hb hby d24_84)
        subst rL55
        have B_d1_55 := (Bd1).other W55 nd1
        have B_d2_55 := (Bd2).other W55 nd2
        have K55 := (K0).wr W55 (Or.inl (List.mem_of_getElem? (i := 0) rfl))
        have O55 := (OZ).wr W55 g1
        have Zs55 := Nat.le_trans Z0 (Nat.le_of_eq W55.size.symm)
        have N55 := Fr.snoc X55 N0 g1
        refine oS (fun _ k_ => st55 _ k_) ?_
        refine oS (fun _ k_ => XS.iloadN X55.here hx rfl (hb hby d24_85) rfl (XS.bipush X55.here hx rfl (hb hby d24_86) (XS.icmpYes X55.here hx rfl (pc0 := 88) (pc' := 104) rfl (hb hby d24_88) rfl (XT.ii_ge_t (by rw [Int32.lt_iff_toInt_lt, hy, show (-9 : Int32).toInt = -9 from rfl]; omega : ¬ (y < (-9 : Int32)))) (by decide) (by decide) (XS.iload X55.here hx rfl (hb hby d24_104) rfl (XS.ifYes X55.here hx rfl (pc0 := 106) (pc' := 118) rfl (hb hby d24_106) rfl (XT.i0_eq_t (by decide : (0 : Int32) = 0)) (by decide) (by decide) (XS.iload X55.here hx rfl (hb hby d24_118) rfl k_)))))) ?_
        exact own_retI X55 hx hret hlk (hb hby d24_120) (by decide) (by decide) (by rw [e55]; exact ⟨⟨_, rfl⟩, N55, K55, B55.cast (by rw [← hres, hdg]; simp <;> omega)⟩)
      · have hdg := own_digs_2 (m := mm) (by omega) (by omega)
        obtain ⟨u, w, rfl⟩ := own_last2 (xs := hole) (by rw [hl, hdg]; rfl)
        show oE p e below s _ _ _ (T.setTop (mkF m 72 #[.val (.int y), .val (.int ix), .val (.ref va), s3, s4, .val (.int (Int32.ofNat (ps.length + [u, w].length))), .val (.int (0 : Int32))] []))
        refine oS (fun _ k_ => XS.aloadN X.here hx rfl (hb hby d24_72) rfl rfl (XS.iinc X.here hx rfl (hb hby d24_73) rfl (l' := #[.val (.int y), .val (.int ix), .val (.ref va), s3, s4, .val (.int ((Int32.ofNat (ps.length + [u, w].length)) + (-1 : Int32))), .val (.int (0 : Int32))]) rfl k_)) ?_
        show oE p e below s _ _ _ (T.setTop (mkF m 76 #[.val (.int y), .val (.int ix), .val (.ref va), s3, s4, .val (.int ((Int32.ofNat (ps.length + [u, w].length)) + (-1 : Int32))), .val (.int (0 : Int32))] [(.ref va)]))
        rw [own_pred (n := (ps.length + [u, w].length)) (k := (ps.length + 1)) rfl]
        refine oS (fun _ k_ => XS.iload X.here hx rfl (hb hby d24_76) rfl k_) ?_
        obtain ⟨T56, X56, e56, st56⟩ := getS2 X hx hZ hown (host := "") (Or.inl (wd_ hw 164 rfl)) Via.refl e0 (Sta.ext OZ.2 Wd.2.2.2.2.1) (g := (mkF m 78 #[.val (.int y), .val (.int ix), .val (.ref va), s3, s4, .val (.int (Int32.ofNat (ps.length + 1))), .val (.int (0 : Int32))] [(.int (Int32.ofNat (ps.length + 1))), (.ref va)])) rfl (hb hby d24_78)
        refine oS (fun _ k_ => st56 _ k_) ?_
        refine oS (fun _ k_ => XS.iloadN X56.here hx rfl (hb hby d24_81) rfl (XS.ineg X56.here hx rfl (hb hby d24_82) rfl k_)) ?_
        show oE p e below s _ _ _ (T56.setTop (mkF m 83 #[.val (.int y), .val (.int ix), .val (.ref va), s3, s4, .val (.int (Int32.ofNat (ps.length + 1))), .val (.int (0 : Int32))] [(.int (-y)), (.ref d1), (.int (Int32.ofNat (ps.length + 1))), (.ref va)]))
        rw [own_negN (by omega) hy]
        refine oS (fun _ k_ => own_baload X56 hx hZ e56 (Bd1).1 (j := (Int32.ofNat mm)) (own_nn (by omega)) (i := mm) (own_nc (by omega)) (v := (.int (Int32.ofNat (48 + mm % 10)))) (own_V_at (own_D1_at (by omega))) (hb hby d24_83) _ k_) ?_
        obtain ⟨T57, h57, L57, w57, X57, rL57, e57, W57, B57, st57⟩ := own_bput X56 hx hZ e56 (xs := (ps ++ [u])) (b0 := w) (ys := dn) (v := (48 + mm % 10)) (k := (ps.length + 1)) (B.cast (by simp)) (by omega) (by simp <;> omega) (Ls := #[.val (.int y), .val (.int ix), .val (.ref va), s3, s4, .val (.int (Int32.ofNat (ps.length + 1))), .val (.int (0 : Int32))]) (st := []) (hb hby d24_84)
        subst rL57
        have B_d1_57 := (Bd1).other W57 nd1
        have B_d2_57 := (Bd2).other W57 nd2
        have K57 := (K0).wr W57 (Or.inl (List.mem_of_getElem? (i := 0) rfl))
        have O57 := (OZ).wr W57 g1
        have Zs57 := Nat.le_trans Z0 (Nat.le_of_eq W57.size.symm)
        have N57 := Fr.snoc X57 N0 g1
        refine oS (fun _ k_ => st57 _ k_) ?_
        refine oS (fun _ k_ => XS.iloadN X57.here hx rfl (hb hby d24_85) rfl (XS.bipush X57.here hx rfl (hb hby d24_86) (XS.icmpNo X57.here hx rfl (hb hby d24_88) rfl (XT.ii_ge_f (by rw [Int32.lt_iff_toInt_lt, hy, show (-9 : Int32).toInt = -9 from rfl]; omega : y < (-9 : Int32))) (XS.aloadN X57.here hx rfl (hb hby d24_91) rfl rfl (XS.iinc X57.here hx rfl (hb hby d24_92) rfl (l' := #[.val (.int y), .val (.int ix), .val (.ref va), s3, s4, .val (.int ((Int32.ofNat (ps.length + 1)) + (-1 : Int32))), .val (.int (0 : Int32))]) rfl k_))))) ?_
        show oE p e below s _ _ _ (T57.setTop (mkF m 95 #[.val (.int y), .val (.int ix), .val (.ref va), s3, s4, .val (.int ((Int32.ofNat (ps.length + 1)) + (-1 : Int32))), .val (.int (0 : Int32))] [(.ref va)]))
        rw [own_pred (n := (ps.length + 1)) (k := (ps.length + 0)) rfl]
        refine oS (fun _ k_ => XS.iload X57.here hx rfl (hb hby d24_95) rfl k_) ?_
        obtain ⟨T58, X58, e58, st58⟩ := getS2 X57 hx hZ hown (host := "") (Or.inl (wd_ hw 255 rfl)) Via.refl e57 (Sta.ext O57.2 Wd.2.2.2.2.2.2.1) (g := (mkF m 97 #[.val (.int y), .val (.int ix), .val (.ref va), s3, s4, .val (.int (Int32.ofNat (ps.length + 0))), .val (.int (0 : Int32))] [(.int (Int32.ofNat (ps.length + 0))), (.ref va)])) rfl (hb hby d24_97)
        refine oS (fun _ k_ => st58 _ k_) ?_
        refine oS (fun _ k_ => XS.iloadN X58.here hx rfl (hb hby d24_100) rfl (XS.ineg X58.here hx rfl (hb hby d24_101) rfl k_)) ?_
        show oE p e below s _ _ _ (T58.setTop (mkF m 102 #[.val (.int y), .val (.int ix), .val (.ref va), s3, s4, .val (.int (Int32.ofNat (ps.length + 0))), .val (.int (0 : Int32))] [(.int (-y)), (.ref d2), (.int (Int32.ofNat (ps.length + 0))), (.ref va)]))
        rw [own_negN (by omega) hy]
        refine oS (fun _ k_ => own_baload X58 hx hZ e58 (B_d2_57).1 (j := (Int32.ofNat mm)) (own_nn (by omega)) (i := mm) (own_nc (by omega)) (v := (.int (Int32.ofNat (48 + mm / 10)))) (own_V_at (own_D2_at (by omega))) (hb hby d24_102) _ k_) ?_
        obtain ⟨T59, h59, L59, w59, X59, rL59, e59, W59, B59, st59⟩ := own_bput X58 hx hZ e58 (xs := (ps ++ [])) (b0 := u) (ys := ((48 + mm % 10) :: dn)) (v := (48 + mm / 10)) (k := (ps.length + 0)) (B57.cast (by simp)) (by omega) (by simp <;> omega) (Ls := #[.val (.int y), .val (.int ix), .val (.ref va), s3, s4, .val (.int (Int32.ofNat (ps.length + 0))), .val (.int (0 : Int32))]) (st := []) (hb hby d24_103)
        subst rL59
        have B_d1_59 := (B_d1_57).other W59 nd1
        have B_d2_59 := (B_d2_57).other W59 nd2
        have K59 := (K57).wr W59 (Or.inl (List.mem_of_getElem? (i := 0) rfl))
        have O59 := (O57).wr W59 g1
        have Zs59 := Nat.le_trans Zs57 (Nat.le_of_eq W59.size.symm)
        have N59 := Fr.snoc X59 N57 g1
        refine oS (fun _ k_ => st59 _ k_) ?_
        refine oS (fun _ k_ => XS.iload X59.here hx rfl (hb hby d24_104) rfl (XS.ifYes X59.here hx rfl (pc0 := 106) (pc' := 118) rfl (hb hby d24_106) rfl (XT.i0_eq_t (by decide : (0 : Int32) = 0)) (by decide) (by decide) (XS.iload X59.here hx rfl (hb hby d24_118) rfl k_))) ?_
        exact own_retI X59 hx hret hlk (hb hby d24_120) (by decide) (by decide) (by rw [e59]; exact ⟨⟨_, rfl⟩, N59, K59, B59.cast (by rw [← hres, hdg]; simp)⟩)
    · refine oS (fun _ k_ => XS.icmpNo X.here hx rfl (hb hby d24_25) rfl (XT.ii_gt_f hc25) k_) ?_
      show oE p e below s _ _ _ (T.setTop (mkF m 28 #[.val (.int y), .val (.int ix), .val (.ref va), s3, s4, .val (.int (Int32.ofNat (ps.length + hole.length))), .val (.int (0 : Int32))] []))
      rw [Int32.lt_iff_toInt_lt, hy, show (-100 : Int32).toInt = -100 from rfl] at hc25
      have h100 : 100 ≤ mm := by omega
      have hdg := own_digs_100 h100
      have hpos := own_digs_pos (mm / 100)
      obtain ⟨hl', u, w, rfl⟩ := own_end2 (xs := hole) (by rw [hl, hdg]; simp <;> omega)
      have hl2 : hl'.length = (([] : List Nat)).length + (own_digs (mm / 100)).length := by rw [hdg] at hl; simp at hl ⊢; omega
      show oE p e below s _ _ _ (T.setTop (mkF m 28 #[.val (.int y), .val (.int ix), .val (.ref va), s3, s4, .val (.int (Int32.ofNat (ps.length + (hl' ++ [u, w]).length))), .val (.int (0 : Int32))] []))
      refine oS (fun _ k_ => XS.iloadN X.here hx rfl (hb hby d24_28) rfl (XS.bipush X.here hx rfl (hb hby d24_29) (XS.idiv X.here hx rfl (hb hby d24_31) rfl (by decide) (XS.istoreNS X.here hx rfl (hb hby d24_32) rfl rfl os3 k_)))) ?_
      show oE p e below s _ _ _ (T.setTop (mkF m 33 #[.val (.int y), .val (.int ix), .val (.ref va), .val (.int (y / (100 : Int32))), s4, .val (.int (Int32.ofNat (ps.length + (hl' ++ [u, w]).length))), .val (.int (0 : Int32))] []))
      generalize hq : (y / (100 : Int32)) = q
      show oE p e below s _ _ _ (T.setTop (mkF m 33 #[.val (.int y), .val (.int ix), .val (.ref va), .val (.int q), s4, .val (.int (Int32.ofNat (ps.length + (hl' ++ [u, w]).length))), .val (.int (0 : Int32))] []))
      have hq' : q.toInt = -((mm / 100 : Nat) : Int) := by rw [← hq]; exact own_div100 hmb hy
      refine oS (fun _ k_ => XS.iloadN X.here hx rfl (hb hby d24_33) rfl (XS.bipush X.here hx rfl (hb hby d24_34) (XS.imul X.here hx rfl (hb hby d24_36) rfl (XS.iloadN X.here hx rfl (hb hby d24_37) rfl (XS.isub X.here hx rfl (hb hby d24_38) rfl k_))))) ?_
      show oE p e below s _ _ _ (T.setTop (mkF m 39 #[.val (.int y), .val (.int ix), .val (.ref va), .val (.int q), s4, .val (.int (Int32.ofNat (ps.length + (hl' ++ [u, w]).length))), .val (.int (0 : Int32))] [(.int ((q * (100 : Int32)) - y))]))
      rw [own_rem100 hmb hy hq']
      refine oS (fun _ k_ => XS.istoreS X.here hx rfl (hb hby d24_39) rfl rfl os4 (XS.iloadN X.here hx rfl (hb hby d24_41) rfl (XS.istoreN X.here hx rfl (hb hby d24_42) rfl (l' := #[.val (.int q), .val (.int ix), .val (.ref va), .val (.int q), .val (.int (Int32.ofNat (mm % 100))), .val (.int (Int32.ofNat (ps.length + (hl' ++ [u, w]).length))), .val (.int (0 : Int32))]) rfl (XS.aloadN X.here hx rfl (hb hby d24_43) rfl rfl (XS.iinc X.here hx rfl (hb hby d24_44) rfl (l' := #[.val (.int q), .val (.int ix), .val (.ref va), .val (.int q), .val (.int (Int32.ofNat (mm % 100))), .val (.int ((Int32.ofNat (ps.length + (hl' ++ [u, w]).length)) + (-1 : Int32))), .val (.int (0 : Int32))]) rfl k_))))) ?_
      show oE p e below s _ _ _ (T.setTop (mkF m 47 #[.val (.int q), .val (.int ix), .val (.ref va), .val (.int q), .val (.int (Int32.ofNat (mm % 100))), .val (.int ((Int32.ofNat (ps.length + (hl' ++ [u, w]).length)) + (-1 : Int32))), .val (.int (0 : Int32))] [(.ref va)]))
      rw [own_pred (n := (ps.length + (hl' ++ [u, w]).length)) (k := (ps.length + hl'.length + 1)) (by simp <;> omega)]
      refine oS (fun _ k_ => XS.iload X.here hx rfl (hb hby d24_47) rfl k_) ?_
      obtain ⟨T60, X60, e60, st60⟩ := getS2 X hx hZ hown (host := "") (Or.inl (wd_ hw 164 rfl)) Via.refl e0 (Sta.ext OZ.2 Wd.2.2.2.2.1) (g := (mkF m 49 #[.val (.int q), .val (.int ix), .val (.ref va), .val (.int q), .val (.int (Int32.ofNat (mm % 100))), .val (.int (Int32.ofNat (ps.length + hl'.length + 1))), .val (.int (0 : Int32))] [(.int (Int32.ofNat (ps.length + hl'.length + 1))), (.ref va)])) rfl (hb hby d24_49)
      refine oS (fun _ k_ => st60 _ k_) ?_
      refine oS (fun _ k_ => XS.iload X60.here hx rfl (hb hby d24_52) rfl (own_baload X60 hx hZ e60 (Bd1).1 (j := (Int32.ofNat (mm % 100))) (own_nn (by omega)) (i := (mm % 100)) (own_nc (by omega)) (v := (.int (Int32.ofNat (48 + mm % 100 % 10)))) (own_V_at (own_D1_at (by omega))) (hb hby d24_54) _ k_)) ?_
      obtain ⟨T61, h61, L61, w61, X61, rL61, e61, W61, B61, st61⟩ := own_bput X60 hx hZ e60 (xs := (ps ++ hl' ++ [u])) (b0 := w) (ys := dn) (v := (48 + mm % 100 % 10)) (k := (ps.length + hl'.length + 1)) (B.cast (by simp)) (by omega) (by simp <;> omega) (Ls := #[.val (.int q), .val (.int ix), .val (.ref va), .val (.int q), .val (.int (Int32.ofNat (mm % 100))), .val (.int (Int32.ofNat (ps.length + hl'.length + 1))), .val (.int (0 : Int32))]) (st := []) (hb hby d24_55)
      subst rL61
      have B_d1_61 := (Bd1).other W61 nd1
      have B_d2_61 := (Bd2).other W61 nd2
      have K61 := (K0).wr W61 (Or.inl (List.mem_of_getElem? (i := 0) rfl))
      have O61 := (OZ).wr W61 g1
      have Zs61 := Nat.le_trans Z0 (Nat.le_of_eq W61.size.symm)
      have N61 := Fr.snoc X61 N0 g1
      refine oS (fun _ k_ => st61 _ k_) ?_
      refine oS (fun _ k_ => XS.aloadN X61.here hx rfl (hb hby d24_56) rfl rfl (XS.iinc X61.here hx rfl (hb hby d24_57) rfl (l' := #[.val (.int q), .val (.int ix), .val (.ref va), .val (.int q), .val (.int (Int32.ofNat (mm % 100))), .val (.int ((Int32.ofNat (ps.length + hl'.length + 1)) + (-1 : Int32))), .val (.int (0 : Int32))]) rfl k_)) ?_
      show oE p e below s _ _ _ (T61.setTop (mkF m 60 #[.val (.int q), .val (.int ix), .val (.ref va), .val (.int q), .val (.int (Int32.ofNat (mm % 100))), .val (.int ((Int32.ofNat (ps.length + hl'.length + 1)) + (-1 : Int32))), .val (.int (0 : Int32))] [(.ref va)]))
      rw [own_pred (n := (ps.length + hl'.length + 1)) (k := (ps.length + hl'.length)) rfl]
      refine oS (fun _ k_ => XS.iload X61.here hx rfl (hb hby d24_60) rfl k_) ?_
      obtain ⟨T62, X62, e62, st62⟩ := getS2 X61 hx hZ hown (host := "") (Or.inl (wd_ hw 255 rfl)) Via.refl e61 (Sta.ext O61.2 Wd.2.2.2.2.2.2.1) (g := (mkF m 62 #[.val (.int q), .val (.int ix), .val (.ref va), .val (.int q), .val (.int (Int32.ofNat (mm % 100))), .val (.int (Int32.ofNat (ps.length + hl'.length))), .val (.int (0 : Int32))] [(.int (Int32.ofNat (ps.length + hl'.length))), (.ref va)])) rfl (hb hby d24_62)
      refine oS (fun _ k_ => st62 _ k_) ?_
      refine oS (fun _ k_ => XS.iload X62.here hx rfl (hb hby d24_65) rfl (own_baload X62 hx hZ e62 (B_d2_61).1 (j := (Int32.ofNat (mm % 100))) (own_nn (by omega)) (i := (mm % 100)) (own_nc (by omega)) (v := (.int (Int32.ofNat (48 + mm % 100 / 10)))) (own_V_at (own_D2_at (by omega))) (hb hby d24_67) _ k_)) ?_
      obtain ⟨T63, h63, L63, w63, X63, rL63, e63, W63, B63, st63⟩ := own_bput X62 hx hZ e62 (xs := (ps ++ hl')) (b0 := u) (ys := ((48 + mm % 100 % 10) :: dn)) (v := (48 + mm % 100 / 10)) (k := (ps.length + hl'.length)) (B61.cast (by simp)) (by omega) (by simp <;> omega) (Ls := #[.val (.int q), .val (.int ix), .val (.ref va), .val (.int q), .val (.int (Int32.ofNat (mm % 100))), .val (.int (Int32.ofNat (ps.length + hl'.length))), .val (.int (0 : Int32))]) (st := []) (hb hby d24_68)
      subst rL63
      have B_d1_63 := (B_d1_61).other W63 nd1
      have B_d2_63 := (B_d2_61).other W63 nd2
      have K63 := (K61).wr W63 (Or.inl (List.mem_of_getElem? (i := 0) rfl))
      have O63 := (O61).wr W63 g1
      have Zs63 := Nat.le_trans Zs61 (Nat.le_of_eq W63.size.symm)
      have N63 := Fr.snoc X63 N61 g1
      refine oS (fun _ k_ => st63 _ k_) ?_
      refine oS (fun _ k_ => XS.goto X63.here hx rfl (pc0 := 69) (pc' := 22) rfl (hb hby d24_69) (by decide) (by decide) k_) ?_
      show oE p e below s _ _ _ (T63.setTop (mkF m 22 #[.val (.int q), .val (.int ix), .val (.ref va), .val (.int q), .val (.int (Int32.ofNat (mm % 100))), .val (.int (Int32.ofNat (ps.length + hl'.length))), .val (.int (0 : Int32))] []))
      exact ih (mm / 100) (by omega) (by omega) q hq' hl' ((48 + mm % 100 / 10) :: (48 + mm % 100 % 10) :: dn) hl2 (by rw [← hres, hdg, show mm % 100 % 10 = mm % 10 from by omega]; simp) _ _ (own_oneV rfl) (own_oneV rfl) _ _ _ X63 e63 N63 Zs63 O63 K63 B63
theorem own_gcl1 {p : Program} {l : Launch} {e : Env} {s : State} {m : MethodId} {below : List Frame} {meth : Method} {c : Code} {Z : State} {a0 : Array Value} (hw : ∀ d ∈ tables_1, d.before a0 Z = true) (hZ : Z.Warmed39 s.vm) (hx : p.tables.exec = Jvm.exec) (hby : c.code = jdk_33_method_12_code) (hlk : meth.locks = false) (hret : meth.sig.returnType = some .int) (hml : c.maxLocals = 7) (hown : s.vm.findClass "java/lang/Integer" = some m.cls) {x : Int32} {va : Addr} {cs : Int32} {fm : Value} {d1 d2 : Addr} {ps ms qs : List Nat} {h0 : Heap} {n0 : Nat} (Wd : own_Wd Z cs fm d1 d2) (g1 : n0 ≤ va) (nd1 : d1 ≠ va) (nd2 : d2 ≠ va) {ix : Int32} :
    ∀ (n mm : Nat) (hmn : mm < n) (hmb : mm ≤ 2147483648) (y : Int32) (hy : y.toInt = -(mm : Int)) (hole dn : List Nat) (hl : hole.length = ([45]).length + (own_digs mm).length) (hres : ps ++ [45] ++ own_digs mm ++ dn = ps ++ own_dec x ++ qs) (s3 s4 : Slot) (os3 : own_one s3) (os4 : own_one s4) (T : State) (locs : List Loc) (h : Heap) (X : Stand p l e ({ frames := 0, cells := 0, slots := 0, locals := 0 } : Room) s m #[.int x, .int (Int32.ofNat (ps.length + (own_dec x).length)), .ref va] below meth c T locs 0 0) (e0 : T.heap = h) (N0 : Fr n0 locs) (Z0 : n0 ≤ h.size) (OZ : Old Z n0 h) (K0 : Keep h0 h [va]) (B : own_By Z h va (ps ++ hole ++ dn)), oE p e below s 0 0 (Qgc Z x va cs fm d1 d2 ps ms qs h0 n0) (T.setTop (mkF m 22 #[.val (.int y), .val (.int ix), .val (.ref va), s3, s4, .val (.int (Int32.ofNat (ps.length + hole.length))), .val (.int (1 : Int32))] [])) := by
  intro n
  induction n with
  | zero => intro mm hmn; exact absurd hmn (Nat.not_lt_zero _)
  | succ n ih =>
    intro mm hmn hmb y hy hole dn hl hres s3 s4 os3 os4 T locs h X e0 N0 Z0 OZ K0 B
    have Bd1 := Wd.2.2.2.2.2.1.ext OZ.2
    have Bd2 := Wd.2.2.2.2.2.2.2.ext OZ.2
    show oE p e below s _ _ _ (T.setTop (mkF m 22 #[.val (.int y), .val (.int ix), .val (.ref va), s3, s4, .val (.int (Int32.ofNat (ps.length + hole.length))), .val (.int (1 : Int32))] []))
    refine oS (fun _ k_ => XS.iloadN X.here hx rfl (hb hby d24_22) rfl (XS.bipush X.here hx rfl (hb hby d24_23) k_)) ?_
    by_cases hc25 : (-100 : Int32) < y
    · refine oS (fun _ k_ => XS.icmpYes X.here hx rfl (pc0 := 25) (pc' := 72) rfl (hb hby d24_25) rfl (XT.ii_gt_t hc25) (by decide) (by decide) k_) ?_
      show oE p e below s _ _ _ (T.setTop (mkF m 72 #[.val (.int y), .val (.int ix), .val (.ref va), s3, s4, .val (.int (Int32.ofNat (ps.length + hole.length))), .val (.int (1 : Int32))] []))
      rw [Int32.lt_iff_toInt_lt, hy, show (-100 : Int32).toInt = -100 from rfl] at hc25
      by_cases hten : mm < 10
      · have hdg := own_digs_lt hten
        obtain ⟨z, w, rfl⟩ := own_last2 (xs := hole) (by rw [hl, hdg]; rfl)
        show oE p e below s _ _ _ (T.setTop (mkF m 72 #[.val (.int y), .val (.int ix), .val (.ref va), s3, s4, .val (.int (Int32.ofNat (ps.length + [z, w].length))), .val (.int (1 : Int32))] []))
        refine oS (fun _ k_ => XS.aloadN X.here hx rfl (hb hby d24_72) rfl rfl (XS.iinc X.here hx rfl (hb hby d24_73) rfl (l' := #[.val (.int y), .val (.int ix), .val (.ref va), s3, s4, .val (.int ((Int32.ofNat (ps.length + [z, w].length)) + (-1 : Int32))), .val (.int (1 : Int32))]) rfl k_)) ?_
        show oE p e below s _ _ _ (T.setTop (mkF m 76 #[.val (.int y), .val (.int ix), .val (.ref va), s3, s4, .val (.int ((Int32.ofNat (ps.length + [z, w].length)) + (-1 : Int32))), .val (.int (1 : Int32))] [(.ref va)]))
        rw [own_pred (n := (ps.length + [z, w].length)) (k := (ps.length + 1)) rfl]
        refine oS (fun _ k_ => XS.iload X.here hx rfl (hb hby d24_76) rfl k_) ?_
        obtain ⟨T64, X64, e64, st64⟩ := getS2 X hx hZ hown (host := "") (Or.inl (wd_ hw 164 rfl)) Via.refl e0 (Sta.ext OZ.2 Wd.2.2.2.2.1) (g := (mkF m 78 #[.val (.int y), .val (.int ix), .val (.ref va), s3, s4, .val (.int (Int32.ofNat (ps.length + 1))), .val (.int (1 : Int32))] [(.int (Int32.ofNat (ps.length + 1))), (.ref va)])) rfl (hb hby d24_78)
        refine oS (fun _ k_ => st64 _ k_) ?_
        refine oS (fun _ k_ => XS.iloadN X64.here hx rfl (hb hby d24_81) rfl (XS.ineg X64.here hx rfl (hb hby d24_82) rfl k_)) ?_
        show oE p e below s _ _ _ (T64.setTop (mkF m 83 #[.val (.int y), .val (.int ix), .val (.ref va), s3, s4, .val (.int (Int32.ofNat (ps.length + 1))), .val (.int (1 : Int32))] [(.int (-y)), (.ref d1), (.int (Int32.ofNat (ps.length + 1))), (.ref va)]))
        rw [own_negN (by omega) hy]
        refine oS (fun _ k_ => own_baload X64 hx hZ e64 (Bd1).1 (j := (Int32.ofNat mm)) (own_nn (by omega)) (i := mm) (own_nc (by omega)) (v := (.int (Int32.ofNat (48 + mm % 10)))) (own_V_at (own_D1_at (by omega))) (hb hby d24_83) _ k_) ?_
        obtain ⟨T65, h65, L65, w65, X65, rL65, e65, W65, B65, st65⟩ := own_bput X64 hx hZ e64 (xs := (ps ++ [z])) (b0 := w) (ys := dn) (v := (48 + mm % 10)) (k := (ps.length + 1)) (B.cast (by simp)) (by omega) (by simp <;> omega) (Ls := #[.val (.int y), .val (.int ix), .val (.ref va), s3, s4, .val (.int (Int32.ofNat (ps.length + 1))), .val (.int (1 : Int32))]) (st := []) (hb hby d24_84)
        subst rL65
        have B_d1_65 := (Bd1).other W65 nd1
        have B_d2_65 := (Bd2).other W65 nd2
        have K65 := (K0).wr W65 (Or.inl (List.mem_of_getElem? (i := 0) rfl))
        have O65 := (OZ).wr W65 g1
        have Zs65 := Nat.le_trans Z0 (Nat.le_of_eq W65.size.symm)
        have N65 := Fr.snoc X65 N0 g1
        refine oS (fun _ k_ => st65 _ k_) ?_
        refine oS (fun _ k_ => XS.iloadN X65.here hx rfl (hb hby d24_85) rfl (XS.bipush X65.here hx rfl (hb hby d24_86) (XS.icmpYes X65.here hx rfl (pc0 := 88) (pc' := 104) rfl (hb hby d24_88) rfl (XT.ii_ge_t (by rw [Int32.lt_iff_toInt_lt, hy, show (-9 : Int32).toInt = -9 from rfl]; omega : ¬ (y < (-9 : Int32)))) (by decide) (by decide) (XS.iload X65.here hx rfl (hb hby d24_104) rfl (XS.ifNo X65.here hx rfl (hb hby d24_106) rfl (XT.i0_eq_f (by decide : ¬ ((1 : Int32) = 0))) (XS.aloadN X65.here hx rfl (hb hby d24_109) rfl rfl (XS.iinc X65.here hx rfl (hb hby d24_110) rfl (l' := #[.val (.int y), .val (.int ix), .val (.ref va), s3, s4, .val (.int ((Int32.ofNat (ps.length + 1)) + (-1 : Int32))), .val (.int (1 : Int32))]) rfl k_))))))) ?_
        show oE p e below s _ _ _ (T65.setTop (mkF m 113 #[.val (.int y), .val (.int ix), .val (.ref va), s3, s4, .val (.int ((Int32.ofNat (ps.length + 1)) + (-1 : Int32))), .val (.int (1 : Int32))] [(.ref va)]))
        rw [own_pred (n := (ps.length + 1)) (k := ps.length) rfl]
        refine oS (fun _ k_ => XS.iload X65.here hx rfl (hb hby d24_113) rfl (XS.bipush X65.here hx rfl (hb hby d24_115) k_)) ?_
        obtain ⟨T66, h66, L66, w66, X66, rL66, e66, W66, B66, st66⟩ := own_bput X65 hx hZ e65 (xs := ps) (b0 := z) (ys := ((48 + mm % 10) :: dn)) (v := 45) (k := ps.length) (B65.cast (by simp)) (by omega) (by simp <;> omega) (Ls := #[.val (.int y), .val (.int ix), .val (.ref va), s3, s4, .val (.int (Int32.ofNat ps.length)), .val (.int (1 : Int32))]) (st := []) (hb hby d24_117)
        subst rL66
        have B_d1_66 := (B_d1_65).other W66 nd1
        have B_d2_66 := (B_d2_65).other W66 nd2
        have K66 := (K65).wr W66 (Or.inl (List.mem_of_getElem? (i := 0) rfl))
        have O66 := (O65).wr W66 g1
        have Zs66 := Nat.le_trans Zs65 (Nat.le_of_eq W66.size.symm)
        have N66 := Fr.snoc X66 N65 g1
        refine oS (fun _ k_ => st66 _ k_) ?_
        refine oS (fun _ k_ => XS.iload X66.here hx rfl (hb hby d24_118) rfl k_) ?_
        exact own_retI X66 hx hret hlk (hb hby d24_120) (by decide) (by decide) (by rw [e66]; exact ⟨⟨_, rfl⟩, N66, K66, B66.cast (by rw [← hres, hdg]; simp <;> omega)⟩)
      · have hdg := own_digs_2 (m := mm) (by omega) (by omega)
        obtain ⟨z, u, w, rfl⟩ := own_last3 (xs := hole) (by rw [hl, hdg]; rfl)
        show oE p e below s _ _ _ (T.setTop (mkF m 72 #[.val (.int y), .val (.int ix), .val (.ref va), s3, s4, .val (.int (Int32.ofNat (ps.length + [z, u, w].length))), .val (.int (1 : Int32))] []))
        refine oS (fun _ k_ => XS.aloadN X.here hx rfl (hb hby d24_72) rfl rfl (XS.iinc X.here hx rfl (hb hby d24_73) rfl (l' := #[.val (.int y), .val (.int ix), .val (.ref va), s3, s4, .val (.int ((Int32.ofNat (ps.length + [z, u, w].length)) + (-1 : Int32))), .val (.int (1 : Int32))]) rfl k_)) ?_
        show oE p e below s _ _ _ (T.setTop (mkF m 76 #[.val (.int y), .val (.int ix), .val (.ref va), s3, s4, .val (.int ((Int32.ofNat (ps.length + [z, u, w].length)) + (-1 : Int32))), .val (.int (1 : Int32))] [(.ref va)]))
        rw [own_pred (n := (ps.length + [z, u, w].length)) (k := (ps.length + 2)) rfl]
        refine oS (fun _ k_ => XS.iload X.here hx rfl (hb hby d24_76) rfl k_) ?_
        obtain ⟨T67, X67, e67, st67⟩ := getS2 X hx hZ hown (host := "") (Or.inl (wd_ hw 164 rfl)) Via.refl e0 (Sta.ext OZ.2 Wd.2.2.2.2.1) (g := (mkF m 78 #[.val (.int y), .val (.int ix), .val (.ref va), s3, s4, .val (.int (Int32.ofNat (ps.length + 2))), .val (.int (1 : Int32))] [(.int (Int32.ofNat (ps.length + 2))), (.ref va)])) rfl (hb hby d24_78)
        refine oS (fun _ k_ => st67 _ k_) ?_
        refine oS (fun _ k_ => XS.iloadN X67.here hx rfl (hb hby d24_81) rfl (XS.ineg X67.here hx rfl (hb hby d24_82) rfl k_)) ?_
        show oE p e below s _ _ _ (T67.setTop (mkF m 83 #[.val (.int y), .val (.int ix), .val (.ref va), s3, s4, .val (.int (Int32.ofNat (ps.length + 2))), .val (.int (1 : Int32))] [(.int (-y)), (.ref d1), (.int (Int32.ofNat (ps.length + 2))), (.ref va)]))
        rw [own_negN (by omega) hy]
        refine oS (fun _ k_ => own_baload X67 hx hZ e67 (Bd1).1 (j := (Int32.ofNat mm)) (own_nn (by omega)) (i := mm) (own_nc (by omega)) (v := (.int (Int32.ofNat (48 + mm % 10)))) (own_V_at (own_D1_at (by omega))) (hb hby d24_83) _ k_) ?_
        obtain ⟨T68, h68, L68, w68, X68, rL68, e68, W68, B68, st68⟩ := own_bput X67 hx hZ e67 (xs := (ps ++ [z, u])) (b0 := w) (ys := dn) (v := (48 + mm % 10)) (k := (ps.length + 2)) (B.cast (by simp)) (by omega) (by simp <;> omega) (Ls := #[.val (.int y), .val (.int ix), .val (.ref va), s3, s4, .val (.int (Int32.ofNat (ps.length + 2))), .val (.int (1 : Int32))]) (st := []) (hb hby d24_84)
        subst rL68
        have B_d1_68 := (Bd1).other W68 nd1
        have B_d2_68 := (Bd2).other W68 nd2
        have K68 := (K0).wr W68 (Or.inl (List.mem_of_getElem? (i := 0) rfl))
        have O68 := (OZ).wr W68 g1
        have Zs68 := Nat.le_trans Z0 (Nat.le_of_eq W68.size.symm)
        have N68 := Fr.snoc X68 N0 g1
        refine oS (fun _ k_ => st68 _ k_) ?_
        refine oS (fun _ k_ => XS.iloadN X68.here hx rfl (hb hby d24_85) rfl (XS.bipush X68.here hx rfl (hb hby d24_86) (XS.icmpNo X68.here hx rfl (hb hby d24_88) rfl (XT.ii_ge_f (by rw [Int32.lt_iff_toInt_lt, hy, show (-9 : Int32).toInt = -9 from rfl]; omega : y < (-9 : Int32))) (XS.aloadN X68.here hx rfl (hb hby d24_91) rfl rfl (XS.iinc X68.here hx rfl (hb hby d24_92) rfl (l' := #[.val (.int y), .val (.int ix), .val (.ref va), s3, s4, .val (.int ((Int32.ofNat (ps.length + 2)) + (-1 : Int32))), .val (.int (1 : Int32))]) rfl k_))))) ?_
        show oE p e below s _ _ _ (T68.setTop (mkF m 95 #[.val (.int y), .val (.int ix), .val (.ref va), s3, s4, .val (.int ((Int32.ofNat (ps.length + 2)) + (-1 : Int32))), .val (.int (1 : Int32))] [(.ref va)]))
        rw [own_pred (n := (ps.length + 2)) (k := (ps.length + 1)) rfl]
        refine oS (fun _ k_ => XS.iload X68.here hx rfl (hb hby d24_95) rfl k_) ?_
        obtain ⟨T69, X69, e69, st69⟩ := getS2 X68 hx hZ hown (host := "") (Or.inl (wd_ hw 255 rfl)) Via.refl e68 (Sta.ext O68.2 Wd.2.2.2.2.2.2.1) (g := (mkF m 97 #[.val (.int y), .val (.int ix), .val (.ref va), s3, s4, .val (.int (Int32.ofNat (ps.length + 1))), .val (.int (1 : Int32))] [(.int (Int32.ofNat (ps.length + 1))), (.ref va)])) rfl (hb hby d24_97)
        refine oS (fun _ k_ => st69 _ k_) ?_
        refine oS (fun _ k_ => XS.iloadN X69.here hx rfl (hb hby d24_100) rfl (XS.ineg X69.here hx rfl (hb hby d24_101) rfl k_)) ?_
        show oE p e below s _ _ _ (T69.setTop (mkF m 102 #[.val (.int y), .val (.int ix), .val (.ref va), s3, s4, .val (.int (Int32.ofNat (ps.length + 1))), .val (.int (1 : Int32))] [(.int (-y)), (.ref d2), (.int (Int32.ofNat (ps.length + 1))), (.ref va)]))
        rw [own_negN (by omega) hy]
        refine oS (fun _ k_ => own_baload X69 hx hZ e69 (B_d2_68).1 (j := (Int32.ofNat mm)) (own_nn (by omega)) (i := mm) (own_nc (by omega)) (v := (.int (Int32.ofNat (48 + mm / 10)))) (own_V_at (own_D2_at (by omega))) (hb hby d24_102) _ k_) ?_
        obtain ⟨T70, h70, L70, w70, X70, rL70, e70, W70, B70, st70⟩ := own_bput X69 hx hZ e69 (xs := (ps ++ [z])) (b0 := u) (ys := ((48 + mm % 10) :: dn)) (v := (48 + mm / 10)) (k := (ps.length + 1)) (B68.cast (by simp)) (by omega) (by simp <;> omega) (Ls := #[.val (.int y), .val (.int ix), .val (.ref va), s3, s4, .val (.int (Int32.ofNat (ps.length + 1))), .val (.int (1 : Int32))]) (st := []) (hb hby d24_103)
        subst rL70
        have B_d1_70 := (B_d1_68).other W70 nd1
        have B_d2_70 := (B_d2_68).other W70 nd2
        have K70 := (K68).wr W70 (Or.inl (List.mem_of_getElem? (i := 0) rfl))
        have O70 := (O68).wr W70 g1
        have Zs70 := Nat.le_trans Zs68 (Nat.le_of_eq W70.size.symm)
        have N70 := Fr.snoc X70 N68 g1
        refine oS (fun _ k_ => st70 _ k_) ?_
        refine oS (fun _ k_ => XS.iload X70.here hx rfl (hb hby d24_104) rfl (XS.ifNo X70.here hx rfl (hb hby d24_106) rfl (XT.i0_eq_f (by decide : ¬ ((1 : Int32) = 0))) (XS.aloadN X70.here hx rfl (hb hby d24_109) rfl rfl (XS.iinc X70.here hx rfl (hb hby d24_110) rfl (l' := #[.val (.int y), .val (.int ix), .val (.ref va), s3, s4, .val (.int ((Int32.ofNat (ps.length + 1)) + (-1 : Int32))), .val (.int (1 : Int32))]) rfl k_)))) ?_
        show oE p e below s _ _ _ (T70.setTop (mkF m 113 #[.val (.int y), .val (.int ix), .val (.ref va), s3, s4, .val (.int ((Int32.ofNat (ps.length + 1)) + (-1 : Int32))), .val (.int (1 : Int32))] [(.ref va)]))
        rw [own_pred (n := (ps.length + 1)) (k := ps.length) rfl]
        refine oS (fun _ k_ => XS.iload X70.here hx rfl (hb hby d24_113) rfl (XS.bipush X70.here hx rfl (hb hby d24_115) k_)) ?_
        obtain ⟨T71, h71, L71, w71, X71, rL71, e71, W71, B71, st71⟩ := own_bput X70 hx hZ e70 (xs := ps) (b0 := z) (ys := ((48 + mm / 10) :: ((48 + mm % 10) :: dn))) (v := 45) (k := ps.length) (B70.cast (by simp)) (by omega) (by simp <;> omega) (Ls := #[.val (.int y), .val (.int ix), .val (.ref va), s3, s4, .val (.int (Int32.ofNat ps.length)), .val (.int (1 : Int32))]) (st := []) (hb hby d24_117)
        subst rL71
        have B_d1_71 := (B_d1_70).other W71 nd1
        have B_d2_71 := (B_d2_70).other W71 nd2
        have K71 := (K70).wr W71 (Or.inl (List.mem_of_getElem? (i := 0) rfl))
        have O71 := (O70).wr W71 g1
        have Zs71 := Nat.le_trans Zs70 (Nat.le_of_eq W71.size.symm)
        have N71 := Fr.snoc X71 N70 g1
        refine oS (fun _ k_ => st71 _ k_) ?_
        refine oS (fun _ k_ => XS.iload X71.here hx rfl (hb hby d24_118) rfl k_) ?_
        exact own_retI X71 hx hret hlk (hb hby d24_120) (by decide) (by decide) (by rw [e71]; exact ⟨⟨_, rfl⟩, N71, K71, B71.cast (by rw [← hres, hdg]; simp)⟩)
    · refine oS (fun _ k_ => XS.icmpNo X.here hx rfl (hb hby d24_25) rfl (XT.ii_gt_f hc25) k_) ?_
      show oE p e below s _ _ _ (T.setTop (mkF m 28 #[.val (.int y), .val (.int ix), .val (.ref va), s3, s4, .val (.int (Int32.ofNat (ps.length + hole.length))), .val (.int (1 : Int32))] []))
      rw [Int32.lt_iff_toInt_lt, hy, show (-100 : Int32).toInt = -100 from rfl] at hc25
      have h100 : 100 ≤ mm := by omega
      have hdg := own_digs_100 h100
      have hpos := own_digs_pos (mm / 100)
      obtain ⟨hl', u, w, rfl⟩ := own_end2 (xs := hole) (by rw [hl, hdg]; simp <;> omega)
      have hl2 : hl'.length = ([45]).length + (own_digs (mm / 100)).length := by rw [hdg] at hl; simp at hl ⊢; omega
      show oE p e below s _ _ _ (T.setTop (mkF m 28 #[.val (.int y), .val (.int ix), .val (.ref va), s3, s4, .val (.int (Int32.ofNat (ps.length + (hl' ++ [u, w]).length))), .val (.int (1 : Int32))] []))
      refine oS (fun _ k_ => XS.iloadN X.here hx rfl (hb hby d24_28) rfl (XS.bipush X.here hx rfl (hb hby d24_29) (XS.idiv X.here hx rfl (hb hby d24_31) rfl (by decide) (XS.istoreNS X.here hx rfl (hb hby d24_32) rfl rfl os3 k_)))) ?_
      show oE p e below s _ _ _ (T.setTop (mkF m 33 #[.val (.int y), .val (.int ix), .val (.ref va), .val (.int (y / (100 : Int32))), s4, .val (.int (Int32.ofNat (ps.length + (hl' ++ [u, w]).length))), .val (.int (1 : Int32))] []))
      generalize hq : (y / (100 : Int32)) = q
      show oE p e below s _ _ _ (T.setTop (mkF m 33 #[.val (.int y), .val (.int ix), .val (.ref va), .val (.int q), s4, .val (.int (Int32.ofNat (ps.length + (hl' ++ [u, w]).length))), .val (.int (1 : Int32))] []))
      have hq' : q.toInt = -((mm / 100 : Nat) : Int) := by rw [← hq]; exact own_div100 hmb hy
      refine oS (fun _ k_ => XS.iloadN X.here hx rfl (hb hby d24_33) rfl (XS.bipush X.here hx rfl (hb hby d24_34) (XS.imul X.here hx rfl (hb hby d24_36) rfl (XS.iloadN X.here hx rfl (hb hby d24_37) rfl (XS.isub X.here hx rfl (hb hby d24_38) rfl k_))))) ?_
      show oE p e below s _ _ _ (T.setTop (mkF m 39 #[.val (.int y), .val (.int ix), .val (.ref va), .val (.int q), s4, .val (.int (Int32.ofNat (ps.length + (hl' ++ [u, w]).length))), .val (.int (1 : Int32))] [(.int ((q * (100 : Int32)) - y))]))
      rw [own_rem100 hmb hy hq']
      refine oS (fun _ k_ => XS.istoreS X.here hx rfl (hb hby d24_39) rfl rfl os4 (XS.iloadN X.here hx rfl (hb hby d24_41) rfl (XS.istoreN X.here hx rfl (hb hby d24_42) rfl (l' := #[.val (.int q), .val (.int ix), .val (.ref va), .val (.int q), .val (.int (Int32.ofNat (mm % 100))), .val (.int (Int32.ofNat (ps.length + (hl' ++ [u, w]).length))), .val (.int (1 : Int32))]) rfl (XS.aloadN X.here hx rfl (hb hby d24_43) rfl rfl (XS.iinc X.here hx rfl (hb hby d24_44) rfl (l' := #[.val (.int q), .val (.int ix), .val (.ref va), .val (.int q), .val (.int (Int32.ofNat (mm % 100))), .val (.int ((Int32.ofNat (ps.length + (hl' ++ [u, w]).length)) + (-1 : Int32))), .val (.int (1 : Int32))]) rfl k_))))) ?_
      show oE p e below s _ _ _ (T.setTop (mkF m 47 #[.val (.int q), .val (.int ix), .val (.ref va), .val (.int q), .val (.int (Int32.ofNat (mm % 100))), .val (.int ((Int32.ofNat (ps.length + (hl' ++ [u, w]).length)) + (-1 : Int32))), .val (.int (1 : Int32))] [(.ref va)]))
      rw [own_pred (n := (ps.length + (hl' ++ [u, w]).length)) (k := (ps.length + hl'.length + 1)) (by simp <;> omega)]
      refine oS (fun _ k_ => XS.iload X.here hx rfl (hb hby d24_47) rfl k_) ?_
      obtain ⟨T72, X72, e72, st72⟩ := getS2 X hx hZ hown (host := "") (Or.inl (wd_ hw 164 rfl)) Via.refl e0 (Sta.ext OZ.2 Wd.2.2.2.2.1) (g := (mkF m 49 #[.val (.int q), .val (.int ix), .val (.ref va), .val (.int q), .val (.int (Int32.ofNat (mm % 100))), .val (.int (Int32.ofNat (ps.length + hl'.length + 1))), .val (.int (1 : Int32))] [(.int (Int32.ofNat (ps.length + hl'.length + 1))), (.ref va)])) rfl (hb hby d24_49)
      refine oS (fun _ k_ => st72 _ k_) ?_
      refine oS (fun _ k_ => XS.iload X72.here hx rfl (hb hby d24_52) rfl (own_baload X72 hx hZ e72 (Bd1).1 (j := (Int32.ofNat (mm % 100))) (own_nn (by omega)) (i := (mm % 100)) (own_nc (by omega)) (v := (.int (Int32.ofNat (48 + mm % 100 % 10)))) (own_V_at (own_D1_at (by omega))) (hb hby d24_54) _ k_)) ?_
      obtain ⟨T73, h73, L73, w73, X73, rL73, e73, W73, B73, st73⟩ := own_bput X72 hx hZ e72 (xs := (ps ++ hl' ++ [u])) (b0 := w) (ys := dn) (v := (48 + mm % 100 % 10)) (k := (ps.length + hl'.length + 1)) (B.cast (by simp)) (by omega) (by simp <;> omega) (Ls := #[.val (.int q), .val (.int ix), .val (.ref va), .val (.int q), .val (.int (Int32.ofNat (mm % 100))), .val (.int (Int32.ofNat (ps.length + hl'.length + 1))), .val (.int (1 : Int32))]) (st := []) (hb hby d24_55)
      subst rL73
      have B_d1_73 := (Bd1).other W73 nd1
      have B_d2_73 := (Bd2).other W73 nd2
      have K73 := (K0).wr W73 (Or.inl (List.mem_of_getElem? (i := 0) rfl))
      have O73 := (OZ).wr W73 g1
      have Zs73 := Nat.le_trans Z0 (Nat.le_of_eq W73.size.symm)
      have N73 := Fr.snoc X73 N0 g1
      refine oS (fun _ k_ => st73 _ k_) ?_
      refine oS (fun _ k_ => XS.aloadN X73.here hx rfl (hb hby d24_56) rfl rfl (XS.iinc X73.here hx rfl (hb hby d24_57) rfl (l' := #[.val (.int q), .val (.int ix), .val (.ref va), .val (.int q), .val (.int (Int32.ofNat (mm % 100))), .val (.int ((Int32.ofNat (ps.length + hl'.length + 1)) + (-1 : Int32))), .val (.int (1 : Int32))]) rfl k_)) ?_
      show oE p e below s _ _ _ (T73.setTop (mkF m 60 #[.val (.int q), .val (.int ix), .val (.ref va), .val (.int q), .val (.int (Int32.ofNat (mm % 100))), .val (.int ((Int32.ofNat (ps.length + hl'.length + 1)) + (-1 : Int32))), .val (.int (1 : Int32))] [(.ref va)]))
      rw [own_pred (n := (ps.length + hl'.length + 1)) (k := (ps.length + hl'.length)) rfl]
      refine oS (fun _ k_ => XS.iload X73.here hx rfl (hb hby d24_60) rfl k_) ?_
      obtain ⟨T74, X74, e74, st74⟩ := getS2 X73 hx hZ hown (host := "") (Or.inl (wd_ hw 255 rfl)) Via.refl e73 (Sta.ext O73.2 Wd.2.2.2.2.2.2.1) (g := (mkF m 62 #[.val (.int q), .val (.int ix), .val (.ref va), .val (.int q), .val (.int (Int32.ofNat (mm % 100))), .val (.int (Int32.ofNat (ps.length + hl'.length))), .val (.int (1 : Int32))] [(.int (Int32.ofNat (ps.length + hl'.length))), (.ref va)])) rfl (hb hby d24_62)
      refine oS (fun _ k_ => st74 _ k_) ?_
      refine oS (fun _ k_ => XS.iload X74.here hx rfl (hb hby d24_65) rfl (own_baload X74 hx hZ e74 (B_d2_73).1 (j := (Int32.ofNat (mm % 100))) (own_nn (by omega)) (i := (mm % 100)) (own_nc (by omega)) (v := (.int (Int32.ofNat (48 + mm % 100 / 10)))) (own_V_at (own_D2_at (by omega))) (hb hby d24_67) _ k_)) ?_
      obtain ⟨T75, h75, L75, w75, X75, rL75, e75, W75, B75, st75⟩ := own_bput X74 hx hZ e74 (xs := (ps ++ hl')) (b0 := u) (ys := ((48 + mm % 100 % 10) :: dn)) (v := (48 + mm % 100 / 10)) (k := (ps.length + hl'.length)) (B73.cast (by simp)) (by omega) (by simp <;> omega) (Ls := #[.val (.int q), .val (.int ix), .val (.ref va), .val (.int q), .val (.int (Int32.ofNat (mm % 100))), .val (.int (Int32.ofNat (ps.length + hl'.length))), .val (.int (1 : Int32))]) (st := []) (hb hby d24_68)
      subst rL75
      have B_d1_75 := (B_d1_73).other W75 nd1
      have B_d2_75 := (B_d2_73).other W75 nd2
      have K75 := (K73).wr W75 (Or.inl (List.mem_of_getElem? (i := 0) rfl))
      have O75 := (O73).wr W75 g1
      have Zs75 := Nat.le_trans Zs73 (Nat.le_of_eq W75.size.symm)
      have N75 := Fr.snoc X75 N73 g1
      refine oS (fun _ k_ => st75 _ k_) ?_
      refine oS (fun _ k_ => XS.goto X75.here hx rfl (pc0 := 69) (pc' := 22) rfl (hb hby d24_69) (by decide) (by decide) k_) ?_
      show oE p e below s _ _ _ (T75.setTop (mkF m 22 #[.val (.int q), .val (.int ix), .val (.ref va), .val (.int q), .val (.int (Int32.ofNat (mm % 100))), .val (.int (Int32.ofNat (ps.length + hl'.length))), .val (.int (1 : Int32))] []))
      exact ih (mm / 100) (by omega) (by omega) q hq' hl' ((48 + mm % 100 / 10) :: (48 + mm % 100 % 10) :: dn) hl2 (by rw [← hres, hdg, show mm % 100 % 10 = mm % 10 from by omega]; simp) _ _ (own_oneV rfl) (own_oneV rfl) _ _ _ X75 e75 N75 Zs75 O75 K75 B75
theorem cl_rmsz (X : Stand p l e R s m args below meth c T locs cells slots) (hw : ∀ d ∈ tables_1, d.before a0 Z = true) (hZ : Z.Warmed39 s.vm) (hx : p.tables.exec = Jvm.exec) (hown : s.vm.findClass own = some m.cls) (lk : (Cond.methodLink own index (⟨"java/lang/Integer", "stringSize", "(I)I"⟩ : MethodName)).before a0 Z = true) (x : Int32) (Z0 : n0 ≤ h0.size) (eT : T.heap = h0) (N : Fr n0 locs) (hml : c.maxLocals = kml) (hsz : Ls.size = kml) (hd : decode c.code pc = .ok (.invokestatic index, 3)) (hr : own_rm ({ frames := 0, cells := 0, slots := 0, locals := 0 } : Room) 4 R rest cells slots = true) :
    ∃ T' L', Stand p l e R s m args below meth c T' L' (cells + 0) (slots + 0) ∧ Fr n0 L' ∧ T'.heap = h0 ∧ ∀ t, Steps p.tables e below (T'.setTop (mkF m (pc + 3) Ls ((.int (Int32.ofNat (own_dec x).length)) :: rest))) t → Steps p.tables e below (T.setTop (mkF m pc Ls ((.int x) :: rest))) t := by
  obtain ⟨v, T', L, X', hQ, sq⟩ := own_cS (argsL := [(.int x)]) (rest := rest) (rmsz l Z a0 hw [] x h0 n0 Z0 ) pd_11 rfl (wd_ hw 155 rfl) (wd_ hw 154 rfl) (wd_ hw 153 rfl) (by decide) hZ hx hown X lk eT hml hsz hd hr
  obtain ⟨rfl, Nq, eq_⟩ := hQ
  exact ⟨T', _, X', Fr.app N Nq, eq_, sq⟩
theorem ef_rmgc (m : MethodId) (x : Int32) (va : Addr) (ps : List Nat) : entryFrame m #[(.int x), (.int (Int32.ofNat (ps.length + (own_dec x).length))), (.ref va)] 7 = mkF m 0 #[.val (.int x), .val (.int (Int32.ofNat (ps.length + (own_dec x).length))), .val (.ref va), .unset, .unset, .unset, .unset] [] := by first | (simp [entryFrame, mkF, argsToLocals, Value.category]; done) | rfl
theorem rmgc (l : Launch) (Z : State) (a0 : Array Value) (hw : ∀ d ∈ tables_1, d.before a0 Z = true) (ws : List Jvm.Cond) (x : Int32) (va : Addr) (cs : Int32) (fm : Value) (d1 d2 : Addr) (ps ms qs : List Nat) (h0 : Heap) (n0 : Nat) (Z0 : n0 ≤ h0.size) (Wd : own_Wd Z cs fm d1 d2) (OZ : Old Z n0 h0) (B1 : own_By Z h0 va (ps ++ ms ++ qs)) (hm : ms.length = (own_dec x).length) (g1 : n0 ≤ va) :
    own_MF l (⟨"java/lang/Integer", "getChars", "(II[B)I"⟩ : MethodName) jdk_33_method_12_code 7 (some .int) ws ({ frames := 0, cells := 0, slots := 0, locals := 0 } : Room) #[(.int x), (.int (Int32.ofNat (ps.length + (own_dec x).length))), (.ref va)] Z h0 (Qgc Z x va cs fm d1 d2 ps ms qs h0 n0) := by
  refine MetFree.of_bodySF (plainFor_of_name pn_7) hisR ?_
  intro p e s m args below meth c s₁ Bd hml0 hP hK
  obtain ⟨rfl, hZ, hh⟩ := hP
  have hx := Bd.exec
  have hby := Bd.bytes
  have hlk : meth.locks = false := BodyLoose.notSynchronized Bd
  have hret := Bd.returns
  have hml : c.maxLocals = 7 := hml0
  have hown : s.vm.findClass "java/lang/Integer" = some m.cls := findClass_of_methodNamed Bd.named
  have hnm := (name_of_methodNamed Bd.named Bd.method).1
  have X0 : Stand p l e ({ frames := 0, cells := 0, slots := 0, locals := 0 } : Room) s m #[(.int x), (.int (Int32.ofNat (ps.length + (own_dec x).length))), (.ref va)] below meth c s₁ [] 0 0 := Stand.of_body Bd
  have e0 : s₁.heap = h0 := by rw [← hh, Bd.state]; rfl
  have N0 := Fr.nil n0
  show oE p e below s 0 0 (Qgc Z x va cs fm d1 d2 ps ms qs h0 n0) (s₁.setTop (entryFrame m #[(.int x), (.int (Int32.ofNat (ps.length + (own_dec x).length))), (.ref va)] 7))
  refine oS (fun t k => castTop (ef_rmgc m x va ps) k) ?_
  show oE p e below s _ _ _ (s₁.setTop (mkF m 0 #[.val (.int x), .val (.int (Int32.ofNat (ps.length + (own_dec x).length))), .val (.ref va), .unset, .unset, .unset, .unset] []))
  have hab := own_abs x
  refine oS (fun _ k_ => XS.iloadN X0.here hx rfl (hb hby d24_0) rfl (XS.istore X0.here hx rfl (hb hby d24_1) rfl (l' := #[.val (.int x), .val (.int (Int32.ofNat (ps.length + (own_dec x).length))), .val (.ref va), .unset, .unset, .val (.int (Int32.ofNat (ps.length + (own_dec x).length))), .unset]) rfl (XS.iloadN X0.here hx rfl (hb hby d24_3) rfl k_))) ?_
  by_cases hc4 : x < 0
  · refine oS (fun _ k_ => XS.ifNo X0.here hx rfl (hb hby d24_4) rfl (XT.i0_ge_f hc4) (XS.iconst X0.here hx rfl (hb hby d24_7) (XS.goto X0.here hx rfl (pc0 := 8) (pc' := 12) rfl (hb hby d24_8) (by decide) (by decide) (XS.istore X0.here hx rfl (hb hby d24_12) rfl (l' := #[.val (.int x), .val (.int (Int32.ofNat (ps.length + (own_dec x).length))), .val (.ref va), .unset, .unset, .val (.int (Int32.ofNat (ps.length + (own_dec x).length))), .val (.int (1 : Int32))]) rfl (XS.iload X0.here hx rfl (hb hby d24_14) rfl (XS.ifYes X0.here hx rfl (pc0 := 16) (pc' := 22) rfl (hb hby d24_16) rfl (XT.i0_ne_t (by decide : ¬ ((1 : Int32) = 0))) (by decide) (by decide) k_)))))) ?_
    show oE p e below s _ _ _ (s₁.setTop (mkF m 22 #[.val (.int x), .val (.int (Int32.ofNat (ps.length + (own_dec x).length))), .val (.ref va), .unset, .unset, .val (.int (Int32.ofNat (ps.length + (own_dec x).length))), .val (.int (1 : Int32))] []))
    have hml1 : ms.length = ([45]).length + (own_digs x.toInt.natAbs).length := by rw [hm, own_dec_neg hc4]; simp <;> omega
    have hm2 : ps.length + (own_dec x).length = ps.length + ms.length := by rw [hm]
    have q := own_gcl1 (x := x) (ps := ps) (qs := qs) (ms := ms) (ix := Int32.ofNat (ps.length + (own_dec x).length)) hw hZ hx hby hlk hret hml hown Wd g1 (OZ.ne Wd.2.2.2.2.2.1.lt g1) (OZ.ne Wd.2.2.2.2.2.2.2.lt g1) _ _ (Nat.lt_succ_self _) hab x (own_yy hc4) ms qs hml1 (by rw [own_dec_neg hc4]; simp) .unset .unset (Or.inl rfl) (Or.inl rfl) _ _ _ X0 e0 N0 Z0 OZ (Keep.refl h0 [va]) B1
    rw [← hm2] at q
    exact q
  · refine oS (fun _ k_ => XS.ifYes X0.here hx rfl (pc0 := 4) (pc' := 11) rfl (hb hby d24_4) rfl (XT.i0_ge_t hc4) (by decide) (by decide) (XS.iconst X0.here hx rfl (hb hby d24_11) (XS.istore X0.here hx rfl (hb hby d24_12) rfl (l' := #[.val (.int x), .val (.int (Int32.ofNat (ps.length + (own_dec x).length))), .val (.ref va), .unset, .unset, .val (.int (Int32.ofNat (ps.length + (own_dec x).length))), .val (.int (0 : Int32))]) rfl (XS.iload X0.here hx rfl (hb hby d24_14) rfl (XS.ifNo X0.here hx rfl (hb hby d24_16) rfl (XT.i0_ne_f (by decide : (0 : Int32) = 0)) (XS.iloadN X0.here hx rfl (hb hby d24_19) rfl (XS.ineg X0.here hx rfl (hb hby d24_20) rfl (XS.istoreN X0.here hx rfl (hb hby d24_21) rfl (l' := #[.val (.int (-x)), .val (.int (Int32.ofNat (ps.length + (own_dec x).length))), .val (.ref va), .unset, .unset, .val (.int (Int32.ofNat (ps.length + (own_dec x).length))), .val (.int (0 : Int32))]) rfl k_)))))))) ?_
    show oE p e below s _ _ _ (s₁.setTop (mkF m 22 #[.val (.int (-x)), .val (.int (Int32.ofNat (ps.length + (own_dec x).length))), .val (.ref va), .unset, .unset, .val (.int (Int32.ofNat (ps.length + (own_dec x).length))), .val (.int (0 : Int32))] []))
    have hml1 : ms.length = (([] : List Nat)).length + (own_digs x.toInt.natAbs).length := by rw [hm, own_dec_pos hc4]; simp
    have hm2 : ps.length + (own_dec x).length = ps.length + ms.length := by rw [hm]
    have q := own_gcl0 (x := x) (ps := ps) (qs := qs) (ms := ms) (ix := Int32.ofNat (ps.length + (own_dec x).length)) hw hZ hx hby hlk hret hml hown Wd g1 (OZ.ne Wd.2.2.2.2.2.1.lt g1) (OZ.ne Wd.2.2.2.2.2.2.2.lt g1) _ _ (Nat.lt_succ_self _) hab (-x) (own_ny hc4) ms qs hml1 (by rw [own_dec_pos hc4]; simp) .unset .unset (Or.inl rfl) (Or.inl rfl) _ _ _ X0 e0 N0 Z0 OZ (Keep.refl h0 [va]) B1
    rw [← hm2] at q
    exact q
def b_23 := jdk_68_method_68_code
theorem d23_0 : decode b_23 0 = .ok (.getstatic 18, 3) := by decide +kernel
theorem d23_3 : decode b_23 3 = .ok (.ifCond .eq 14, 3) := by decide +kernel
theorem d23_6 : decode b_23 6 = .ok (.aload_n 0, 1) := by decide +kernel
theorem d23_7 : decode b_23 7 = .ok (.getfield 22, 3) := by decide +kernel
theorem d23_10 : decode b_23 10 = .ok (.ifCond .ne 7, 3) := by decide +kernel
theorem d23_13 : decode b_23 13 = .ok (.iconst 1, 1) := by decide +kernel
theorem d23_14 : decode b_23 14 = .ok (.goto 4, 3) := by decide +kernel
theorem d23_18 : decode b_23 18 = .ok (.ireturn, 1) := by decide +kernel
theorem pd_20 : parseMethodDescriptor "(II[B)I" = some ⟨[.int, .int, (.array .byte)], some .int⟩ := by decide +kernel
theorem cl_rmgc (X : Stand p l e R s m args below meth c T locs cells slots) (hw : ∀ d ∈ tables_1, d.before a0 Z = true) (hZ : Z.Warmed39 s.vm) (hx : p.tables.exec = Jvm.exec) (hown : s.vm.findClass own = some m.cls) (lk : (Cond.methodLink own index (⟨"java/lang/Integer", "getChars", "(II[B)I"⟩ : MethodName)).before a0 Z = true) (x : Int32) (va : Addr) (cs : Int32) (fm : Value) (d1 d2 : Addr) (ps ms qs : List Nat) (Z0 : n0 ≤ h0.size) (Wd : own_Wd Z cs fm d1 d2) (OZ : Old Z n0 h0) (B1 : own_By Z h0 va (ps ++ ms ++ qs)) (hm : ms.length = (own_dec x).length) (g1 : n0 ≤ va) (eT : T.heap = h0) (hml : c.maxLocals = kml) (hsz : Ls.size = kml) (hd : decode c.code pc = .ok (.invokestatic index, 3)) (hr : own_rm ({ frames := 0, cells := 0, slots := 0, locals := 0 } : Room) 7 R rest cells slots = true) :
    ∃ v T' L, Stand p l e R s m args below meth c T' (locs ++ L) (cells + 0) (slots + 0) ∧ Qgc Z x va cs fm d1 d2 ps ms qs h0 n0 v T'.heap L ∧ ∀ t, Steps p.tables e below (T'.setTop (mkF m (pc + 3) Ls (v.toList ++ rest))) t → Steps p.tables e below (T.setTop (mkF m pc Ls ((.ref va) :: (.int (Int32.ofNat (ps.length + (own_dec x).length))) :: (.int x) :: rest))) t := by
  obtain ⟨v, T', L, X', hQ, sq⟩ := own_cS (argsL := [(.int x), (.int (Int32.ofNat (ps.length + (own_dec x).length))), (.ref va)]) (rest := rest) (rmgc l Z a0 hw [] x va cs fm d1 d2 ps ms qs h0 n0 Z0 Wd OZ B1 hm g1) pd_20 rfl (wd_ hw 163 rfl) (wd_ hw 154 rfl) (wd_ hw 162 rfl) (by decide) hZ hx hown X lk eT hml hsz hd hr
  exact ⟨v, T', L, X', hQ, sq⟩
theorem ef_rmal (m : MethodId) (sb : Addr)  : entryFrame m #[(.ref sb)] 1 = mkF m 0 #[.val (.ref sb)] [] := by first | (simp [entryFrame, mkF, argsToLocals, Value.category]; done) | rfl
def Qal (Z : State) (sb : Addr) (cs : Int32) (fm : Value) (d1 d2 : Addr) (h0 : Heap) (n0 : Nat) (v : Option Value) (h : Heap) (L : List Loc) : Prop := v = some (.int (1 : Int32)) ∧ Fr n0 L ∧ h = h0
theorem rmal (l : Launch) (Z : State) (a0 : Array Value) (hw : ∀ d ∈ tables_1, d.before a0 Z = true) (ws : List Jvm.Cond) (sb : Addr) (cs : Int32) (fm : Value) (d1 d2 : Addr) (h0 : Heap) (n0 : Nat) (Z0 : n0 ≤ h0.size) (Wd : own_Wd Z cs fm d1 d2) (OZ : Old Z n0 h0) (Cs : Fld Z h0 sb "java/lang/AbstractStringBuilder" "coder" "B" (.int 0)) :
    own_MF l (⟨"java/lang/AbstractStringBuilder", "isLatin1", "()Z"⟩ : MethodName) jdk_68_method_68_code 1 (some .boolean) ws ({ frames := 0, cells := 0, slots := 0, locals := 0 } : Room) #[(.ref sb)] Z h0 (Qal Z sb cs fm d1 d2 h0 n0) := by
  refine MetFree.of_bodySF (plainFor_of_name pn_4) hisR ?_
  intro p e s m args below meth c s₁ Bd hml0 hP hK
  obtain ⟨rfl, hZ, hh⟩ := hP
  have hx := Bd.exec
  have hby := Bd.bytes
  have hlk : meth.locks = false := BodyLoose.notSynchronized Bd
  have hret := Bd.returns
  have hml : c.maxLocals = 1 := hml0
  have hown : s.vm.findClass "java/lang/AbstractStringBuilder" = some m.cls := findClass_of_methodNamed Bd.named
  have hnm := (name_of_methodNamed Bd.named Bd.method).1
  have X0 : Stand p l e ({ frames := 0, cells := 0, slots := 0, locals := 0 } : Room) s m #[(.ref sb)] below meth c s₁ [] 0 0 := Stand.of_body Bd
  have e0 : s₁.heap = h0 := by rw [← hh, Bd.state]; rfl
  have N0 := Fr.nil n0
  show oE p e below s 0 0 (Qal Z sb cs fm d1 d2 h0 n0) (s₁.setTop (entryFrame m #[(.ref sb)] 1))
  refine oS (fun t k => castTop (ef_rmal m sb ) k) ?_
  show oE p e below s _ _ _ (s₁.setTop (mkF m 0 #[.val (.ref sb)] []))
  obtain ⟨T76, X76, e76, st76⟩ := getS2 X0 hx hZ hown (host := "") (Or.inl (wd_ hw 87 rfl)) Via.refl e0 (Sta.ext OZ.2 Wd.2.2.1) (g := (mkF m 0 #[.val (.ref sb)] [])) rfl (hb hby d23_0)
  refine oS (fun _ k_ => st76 _ k_) ?_
  refine oS (fun _ k_ => XS.ifNo X76.here hx rfl (hb hby d23_3) rfl (XT.i0_eq_f (Wd.1 : ¬ (cs = 0))) (XS.aloadN X76.here hx rfl (hb hby d23_6) rfl rfl k_)) ?_
  obtain ⟨T77, X77, e77, st77⟩ := getF X76 hx hZ hown (host := "") (Or.inl (wd_ hw 90 rfl)) Via.refl e76 Cs (g := (mkF m 7 #[.val (.ref sb)] [(.ref sb)])) rfl rfl (hb hby d23_7)
  refine oS (fun _ k_ => st77 _ k_) ?_
  refine oS (fun _ k_ => XS.ifNo X77.here hx rfl (hb hby d23_10) rfl (XT.i0_ne_f (by decide : (0 : Int32) = 0)) (XS.iconst X77.here hx rfl (hb hby d23_13) (XS.goto X77.here hx rfl (pc0 := 14) (pc' := 18) rfl (hb hby d23_14) (by decide) (by decide) k_))) ?_
  exact own_retN X77 hx (t := .boolean) hret (by simp) hlk (hb hby d23_18) (by decide) (by decide) rfl ⟨rfl, N0, e77⟩
def b_21 := jdk_68_method_32_code
theorem d21_0 : decode b_21 0 = .ok (.aload_n 0, 1) := by decide +kernel
theorem d21_1 : decode b_21 1 = .ok (.getfield 79, 3) := by decide +kernel
theorem d21_4 : decode b_21 4 = .ok (.istore_n 2, 1) := by decide +kernel
theorem d21_5 : decode b_21 5 = .ok (.iload_n 2, 1) := by decide +kernel
theorem d21_6 : decode b_21 6 = .ok (.iload_n 1, 1) := by decide +kernel
theorem d21_7 : decode b_21 7 = .ok (.invokestatic 245, 3) := by decide +kernel
theorem d21_10 : decode b_21 10 = .ok (.iadd, 1) := by decide +kernel
theorem d21_11 : decode b_21 11 = .ok (.istore_n 3, 1) := by decide +kernel
theorem d21_12 : decode b_21 12 = .ok (.aload_n 0, 1) := by decide +kernel
theorem d21_13 : decode b_21 13 = .ok (.iload_n 3, 1) := by decide +kernel
theorem d21_14 : decode b_21 14 = .ok (.invokevirtual 100, 3) := by decide +kernel
theorem d21_17 : decode b_21 17 = .ok (.aload_n 0, 1) := by decide +kernel
theorem d21_18 : decode b_21 18 = .ok (.invokevirtual 83, 3) := by decide +kernel
theorem d21_21 : decode b_21 21 = .ok (.ifCond .eq 16, 3) := by decide +kernel
theorem d21_24 : decode b_21 24 = .ok (.iload_n 1, 1) := by decide +kernel
theorem d21_25 : decode b_21 25 = .ok (.iload_n 3, 1) := by decide +kernel
theorem d21_26 : decode b_21 26 = .ok (.aload_n 0, 1) := by decide +kernel
theorem d21_27 : decode b_21 27 = .ok (.getfield 15, 3) := by decide +kernel
theorem d21_30 : decode b_21 30 = .ok (.invokestatic 248, 3) := by decide +kernel
theorem d21_33 : decode b_21 33 = .ok (.pop, 1) := by decide +kernel
theorem d21_34 : decode b_21 34 = .ok (.goto 14, 3) := by decide +kernel
theorem d21_48 : decode b_21 48 = .ok (.aload_n 0, 1) := by decide +kernel
theorem d21_49 : decode b_21 49 = .ok (.iload_n 3, 1) := by decide +kernel
theorem d21_50 : decode b_21 50 = .ok (.putfield 79, 3) := by decide +kernel
theorem d21_53 : decode b_21 53 = .ok (.aload_n 0, 1) := by decide +kernel
theorem d21_54 : decode b_21 54 = .ok (.areturn, 1) := by decide +kernel
theorem cl_rmal (X : Stand p l e R s m args below meth c T locs cells slots) (hw : ∀ d ∈ tables_1, d.before a0 Z = true) (hZ : Z.Warmed39 s.vm) (hx : p.tables.exec = Jvm.exec) (hown : s.vm.findClass own = some m.cls) (lk : (Cond.methodLink own index (⟨"java/lang/AbstractStringBuilder", "isLatin1", "()Z"⟩ : MethodName)).before a0 Z = true) (sb : Addr) (cs : Int32) (fm : Value) (d1 d2 : Addr) (Z0 : n0 ≤ h0.size) (Wd : own_Wd Z cs fm d1 d2) (OZ : Old Z n0 h0) (Cs : Fld Z h0 sb "java/lang/AbstractStringBuilder" "coder" "B" (.int 0)) (eT : T.heap = h0) (E_ : Exa Z h0 sb "java/lang/StringBuilder") (N : Fr n0 locs) (hml : c.maxLocals = kml) (hsz : Ls.size = kml) (hd : decode c.code pc = .ok (.invokevirtual index, 3)) (hr : own_rm ({ frames := 0, cells := 0, slots := 0, locals := 0 } : Room) 1 R rest cells slots = true) :
    ∃ T' L', Stand p l e R s m args below meth c T' L' (cells + 0) (slots + 0) ∧ Fr n0 L' ∧ T'.heap = h0 ∧ ∀ t, Steps p.tables e below (T'.setTop (mkF m (pc + 3) Ls ((.int (1 : Int32)) :: rest))) t → Steps p.tables e below (T.setTop (mkF m pc Ls ((.ref sb) :: rest))) t := by
  obtain ⟨v, T', L, X', hQ, sq⟩ := own_cV (argsL := []) (rest := rest) (rmal l Z a0 hw [] sb cs fm d1 d2 h0 n0 Z0 Wd OZ Cs) pd_1 rfl (wd_ hw 160 rfl) (wd_ hw 84 rfl) (wd_ hw 158 rfl) (wd_ hw 157 rfl) (wd_ hw 159 rfl) rfl (wd_ hw 159 rfl) (by decide) hZ hx hown X lk eT E_ hml hsz hd hr
  obtain ⟨rfl, Nq, eq_⟩ := hQ
  exact ⟨T', _, X', Fr.app N Nq, eq_, sq⟩
theorem ef_rmai (m : MethodId) (sb : Addr) (x : Int32)  : entryFrame m #[(.ref sb), (.int x)] 4 = mkF m 0 #[.val (.ref sb), .val (.int x), .unset, .unset] [] := by first | (simp [entryFrame, mkF, argsToLocals, Value.category]; done) | rfl
def Qai (Z : State) (sb : Addr) (x : Int32) (cs : Int32) (fm : Value) (d1 d2 : Addr) (va : Addr) (ps js : List Nat) (h0 : Heap) (n0 : Nat) (v : Option Value) (h : Heap) (L : List Loc) : Prop := v = some (.ref sb) ∧ Fr n0 L ∧ Keep h0 h [sb, va] ∧ ∃ va' js', (va' = va ∨ h0.size ≤ va') ∧ n0 ≤ va' ∧ Fld Z h sb "java/lang/AbstractStringBuilder" "value" "[B" (.ref va') ∧ Fld Z h sb "java/lang/AbstractStringBuilder" "count" "I" (.int (Int32.ofNat (ps ++ own_dec x).length)) ∧ Fld Z h sb "java/lang/AbstractStringBuilder" "coder" "B" (.int 0) ∧ own_By Z h va' ((ps ++ own_dec x) ++ js') ∧ Exa Z h va' "[B" ∧ ((ps ++ own_dec x) ++ js').length ≤ 202
theorem rmai (l : Launch) (Z : State) (a0 : Array Value) (hw : ∀ d ∈ tables_1, d.before a0 Z = true) (ws : List Jvm.Cond) (sb : Addr) (x : Int32) (cs : Int32) (fm : Value) (d1 d2 : Addr) (va : Addr) (ps js : List Nat) (h0 : Heap) (n0 : Nat) (Z0 : n0 ≤ h0.size) (Wd : own_Wd Z cs fm d1 d2) (OZ : Old Z n0 h0) (Es : Exa Z h0 sb "java/lang/StringBuilder") (Vs : Fld Z h0 sb "java/lang/AbstractStringBuilder" "value" "[B" (.ref va)) (Ms : Fld Z h0 sb "java/lang/AbstractStringBuilder" "count" "I" (.int (Int32.ofNat ps.length))) (Cs : Fld Z h0 sb "java/lang/AbstractStringBuilder" "coder" "B" (.int 0)) (B1 : own_By Z h0 va (ps ++ js)) (Ys : Exa Z h0 va "[B") (gs : n0 ≤ sb) (g1 : n0 ≤ va) (hcap : (ps ++ js).length ≤ 202) (hlen : ps.length + (own_dec x).length ≤ 100) :
    own_MF l (⟨"java/lang/AbstractStringBuilder", "append", "(I)Ljava/lang/AbstractStringBuilder;"⟩ : MethodName) jdk_68_method_32_code 4 (some (.object "java/lang/AbstractStringBuilder")) ws ({ frames := 4, cells := 1, slots := 420, locals := 110 } : Room) #[(.ref sb), (.int x)] Z h0 (Qai Z sb x cs fm d1 d2 va ps js h0 n0) := by
  refine MetFree.of_bodySF (plainFor_of_name pn_4) hisR ?_
  intro p e s m args below meth c s₁ Bd hml0 hP hK
  obtain ⟨rfl, hZ, hh⟩ := hP
  have hx := Bd.exec
  have hby := Bd.bytes
  have hlk : meth.locks = false := BodyLoose.notSynchronized Bd
  have hret := Bd.returns
  have hml : c.maxLocals = 4 := hml0
  have hown : s.vm.findClass "java/lang/AbstractStringBuilder" = some m.cls := findClass_of_methodNamed Bd.named
  have hnm := (name_of_methodNamed Bd.named Bd.method).1
  have X0 : Stand p l e ({ frames := 4, cells := 1, slots := 420, locals := 110 } : Room) s m #[(.ref sb), (.int x)] below meth c s₁ [] 0 0 := Stand.of_body Bd
  have e0 : s₁.heap = h0 := by rw [← hh, Bd.state]; rfl
  have N0 := Fr.nil n0
  show oE p e below s 1 420 (Qai Z sb x cs fm d1 d2 va ps js h0 n0) (s₁.setTop (entryFrame m #[(.ref sb), (.int x)] 4))
  refine oS (fun t k => castTop (ef_rmai m sb x ) k) ?_
  show oE p e below s _ _ _ (s₁.setTop (mkF m 0 #[.val (.ref sb), .val (.int x), .unset, .unset] []))
  have ne3 : sb ≠ va := B1.1.ne Es (wd_ hw 75 rfl)
  refine oS (fun _ k_ => XS.aloadN X0.here hx rfl (hb hby d21_0) rfl rfl k_) ?_
  obtain ⟨T78, X78, e78, st78⟩ := getF X0 hx hZ hown (host := "") (Or.inl (wd_ hw 116 rfl)) Via.refl e0 Ms (g := (mkF m 1 #[.val (.ref sb), .val (.int x), .unset, .unset] [(.ref sb)])) rfl rfl (hb hby d21_1)
  refine oS (fun _ k_ => st78 _ k_) ?_
  refine oS (fun _ k_ => XS.istoreN X78.here hx rfl (hb hby d21_4) rfl (l' := #[.val (.ref sb), .val (.int x), .val (.int (Int32.ofNat ps.length)), .unset]) rfl (XS.iloadN X78.here hx rfl (hb hby d21_5) rfl (XS.iloadN X78.here hx rfl (hb hby d21_6) rfl k_))) ?_
  obtain ⟨T79, L79, X79, N79, e79, st79⟩ := cl_rmsz X78 hw hZ hx hown (wd_ hw 152 rfl) x Z0 e78 N0 hml rfl (hb hby d21_7) (Ls := #[.val (.ref sb), .val (.int x), .val (.int (Int32.ofNat ps.length)), .unset]) (rest := [(.int (Int32.ofNat ps.length))]) rfl
  refine oS (fun _ k_ => st79 _ k_) ?_
  refine oS (fun _ k_ => XS.iadd X79.here hx rfl (hb hby d21_10) rfl k_) ?_
  show oE p e below s _ _ _ (T79.setTop (mkF m 11 #[.val (.ref sb), .val (.int x), .val (.int (Int32.ofNat ps.length)), .unset] [(.int ((Int32.ofNat ps.length) + (Int32.ofNat (own_dec x).length)))]))
  rw [own_add]
  refine oS (fun _ k_ => XS.istoreN X79.here hx rfl (hb hby d21_11) rfl (l' := #[.val (.ref sb), .val (.int x), .val (.int (Int32.ofNat ps.length)), .val (.int (Int32.ofNat (ps.length + (own_dec x).length)))]) rfl (XS.aloadN X79.here hx rfl (hb hby d21_12) rfl rfl (XS.iloadN X79.here hx rfl (hb hby d21_13) rfl k_))) ?_
  obtain ⟨v80, T80, L80, X80, hQ80, st80⟩ := cl_rmec X79 hw hZ hx hown (wd_ hw 118 rfl) sb va (ps ++ js) (Int32.ofNat ps.length) (ps.length + (own_dec x).length) Z0 Es Vs Ms Cs B1 Ys gs g1 hlen hcap e79 Es hml rfl (hb hby d21_14) (Ls := #[.val (.ref sb), .val (.int x), .val (.int (Int32.ofNat ps.length)), .val (.int (Int32.ofNat (ps.length + (own_dec x).length)))]) (rest := []) rfl
  obtain ⟨rfl, N80q, K80k, va1, k1, wh1, g2, Vq, Mq, Cq, Bq, Yq, hk1, hk2⟩ := hQ80
  have ne6 : sb ≠ va1 := Bq.1.ne (Es.keep K80k) (wd_ hw 75 rfl)
  have E_sb_80 := (Es).keep K80k
  have K80 := ((Keep.refl h0 [sb, va])).trans K80k (allS (Or.inl (List.mem_of_getElem? (i := 0) rfl)) all0)
  have O80 := (OZ).keep K80k (allS gs all0)
  have Zs80 := Nat.le_trans Z0 K80k.1
  have N80 := Fr.app N79 N80q
  refine oS (fun _ k_ => st80 _ k_) ?_
  show oE p e below s _ _ _ (T80.setTop (mkF m 17 #[.val (.ref sb), .val (.int x), .val (.int (Int32.ofNat ps.length)), .val (.int (Int32.ofNat (ps.length + (own_dec x).length)))] []))
  refine oS (fun _ k_ => XS.aloadN X80.here hx rfl (hb hby d21_17) rfl rfl k_) ?_
  obtain ⟨T81, L81, X81, N81, e81, st81⟩ := cl_rmal X80 hw hZ hx hown (wd_ hw 156 rfl) sb cs fm d1 d2 Zs80 Wd O80 Cq rfl E_sb_80 N80 hml rfl (hb hby d21_18) (Ls := #[.val (.ref sb), .val (.int x), .val (.int (Int32.ofNat ps.length)), .val (.int (Int32.ofNat (ps.length + (own_dec x).length)))]) (rest := []) rfl
  refine oS (fun _ k_ => st81 _ k_) ?_
  refine oS (fun _ k_ => XS.ifNo X81.here hx rfl (hb hby d21_21) rfl (XT.i0_eq_f (by decide : ¬ ((1 : Int32) = 0))) (XS.iloadN X81.here hx rfl (hb hby d21_24) rfl (XS.iloadN X81.here hx rfl (hb hby d21_25) rfl (XS.aloadN X81.here hx rfl (hb hby d21_26) rfl rfl k_)))) ?_
  obtain ⟨T82, X82, e82, st82⟩ := getF X81 hx hZ hown (host := "") (Or.inl (wd_ hw 88 rfl)) Via.refl e81 Vq (g := (mkF m 27 #[.val (.ref sb), .val (.int x), .val (.int (Int32.ofNat ps.length)), .val (.int (Int32.ofNat (ps.length + (own_dec x).length)))] [(.ref sb), (.int (Int32.ofNat (ps.length + (own_dec x).length))), (.int x)])) rfl rfl (hb hby d21_27)
  refine oS (fun _ k_ => st82 _ k_) ?_
  have hl9 : (own_dec x).length ≤ (js ++ List.replicate k1 0).length := by simp only [List.length_append, List.length_replicate] at hk1 ⊢; omega
  obtain ⟨v83, T83, L83, X83, hQ83, st83⟩ := cl_rmgc X82 hw hZ hx hown (wd_ hw 161 rfl) x va1 cs fm d1 d2 ps ((js ++ List.replicate k1 0).take (own_dec x).length) ((js ++ List.replicate k1 0).drop (own_dec x).length) Zs80 Wd O80 (Bq.cast (by rw [List.append_assoc ps, List.append_assoc ps, List.take_append_drop])) (by rw [List.length_take]; omega) g2 e82 hml rfl (hb hby d21_30) (Ls := #[.val (.ref sb), .val (.int x), .val (.int (Int32.ofNat ps.length)), .val (.int (Int32.ofNat (ps.length + (own_dec x).length)))]) (rest := []) rfl
  obtain ⟨⟨zz, rfl⟩, N83q, K83k, B83k⟩ := hQ83
  have E_sb_83 := (E_sb_80).keep K83k
  have F_sb_value_83 := (Vq).keep K83k (ninS ne6 nin0)
  have F_sb_count_83 := (Mq).keep K83k (ninS ne6 nin0)
  have F_sb_coder_83 := (Cq).keep K83k (ninS ne6 nin0)
  have E_va1_83 := (Yq).keep K83k
  have O83 := (O80).keep K83k (allS g2 all0)
  have Zs83 := Nat.le_trans Zs80 K83k.1
  have K83 : Keep h0 T83.heap [sb, va] := (K80).trans K83k (allS (wh1.elim (fun q => Or.inl (by rw [q]; exact List.mem_of_getElem? (i := 1) rfl)) (fun q => Or.inr (Nat.le_trans ((Keep.refl h0 [sb, va])).1 q))) all0)
  have N83 := Fr.app N81 N83q
  refine oS (fun _ k_ => st83 _ k_) ?_
  show oE p e below s _ _ _ (T83.setTop (mkF m 33 #[.val (.ref sb), .val (.int x), .val (.int (Int32.ofNat ps.length)), .val (.int (Int32.ofNat (ps.length + (own_dec x).length)))] [(.int zz)]))
  refine oS (fun _ k_ => XS.pop X83.here hx rfl (hb hby d21_33) rfl rfl (XS.goto X83.here hx rfl (pc0 := 34) (pc' := 48) rfl (hb hby d21_34) (by decide) (by decide) (XS.aloadN X83.here hx rfl (hb hby d21_48) rfl rfl (XS.iloadN X83.here hx rfl (hb hby d21_49) rfl k_)))) ?_
  obtain ⟨T84, h84, X84, e84, W84, st84⟩ := putF X83 hx hZ hown (host := "") (Or.inl (wd_ hw 116 rfl)) Via.refl rfl F_sb_count_83 E_sb_83 (Or.inl (wd_ hw 117 rfl)) (wd_ hw 75 rfl) (ty := .int) (by decide) rfl rfl (g := (mkF m 50 #[.val (.ref sb), .val (.int x), .val (.int (Int32.ofNat ps.length)), .val (.int (Int32.ofNat (ps.length + (own_dec x).length)))] [(.int (Int32.ofNat (ps.length + (own_dec x).length))), (.ref sb)])) rfl rfl (hb hby d21_50)
  have E_sb_84 := (E_sb_83).wr W84
  have F_sb_value_84 := (F_sb_value_83).other W84 (Or.inr (slot_ne (Or.inl (wd_ hw 89 rfl)) (Or.inl (wd_ hw 117 rfl)) (by decide) (t := (.array .byte)) (t' := .int) (by decide) (by decide)))
  have F_sb_count_84 := (F_sb_count_83).same W84
  have F_sb_coder_84 := (F_sb_coder_83).other W84 (Or.inr (slot_ne (Or.inl (wd_ hw 91 rfl)) (Or.inl (wd_ hw 117 rfl)) (by decide) (t := .byte) (t' := .int) (by decide) (by decide)))
  have B_va1_84 := (B83k).other W84 (Ne.symm ne6)
  have E_va1_84 := (E_va1_83).wr W84
  have K84 := (K83).wr W84 (Or.inl (List.mem_of_getElem? (i := 0) rfl))
  have O84 := (O83).wr W84 gs
  have Zs84 := Nat.le_trans Zs83 (Nat.le_of_eq W84.size.symm)
  have N84 := Fr.snoc X84 N83 gs
  refine oS (fun _ k_ => st84 _ k_) ?_
  refine oS (fun _ k_ => XS.aloadN X84.here hx rfl (hb hby d21_53) rfl rfl k_) ?_
  exact own_retR X84 hx hret rfl rfl rfl hlk (hb hby d21_54) (by decide) (by decide) (by rw [e84]; exact ⟨rfl, N84, K84, va1, ((js ++ List.replicate k1 0).drop (own_dec x).length), wh1.imp id (fun q => Nat.le_trans ((Keep.refl h0 [sb, va])).1 q), g2, F_sb_value_84, own_FldN F_sb_count_84 (List.length_append).symm, F_sb_coder_84, B_va1_84, E_va1_84, by simp only [List.length_append, List.length_replicate, List.length_drop] at hk2 hl9 ⊢; omega⟩)
def b_20 := jdk_67_method_15_code
theorem d20_0 : decode b_20 0 = .ok (.aload_n 0, 1) := by decide +kernel
theorem d20_1 : decode b_20 1 = .ok (.iload_n 1, 1) := by decide +kernel
theorem d20_2 : decode b_20 2 = .ok (.invokespecial 53, 3) := by decide +kernel
theorem d20_5 : decode b_20 5 = .ok (.pop, 1) := by decide +kernel
theorem d20_6 : decode b_20 6 = .ok (.aload_n 0, 1) := by decide +kernel
theorem d20_7 : decode b_20 7 = .ok (.areturn, 1) := by decide +kernel
theorem pd_21 : parseMethodDescriptor "(I)Ljava/lang/AbstractStringBuilder;" = some ⟨[.int], some (.object "java/lang/AbstractStringBuilder")⟩ := by decide +kernel
theorem cl_rmai (X : Stand p l e R s m args below meth c T locs cells slots) (hw : ∀ d ∈ tables_1, d.before a0 Z = true) (hZ : Z.Warmed39 s.vm) (hx : p.tables.exec = Jvm.exec) (hown : s.vm.findClass own = some m.cls) (lk : (Cond.methodLink own index (⟨"java/lang/AbstractStringBuilder", "append", "(I)Ljava/lang/AbstractStringBuilder;"⟩ : MethodName)).before a0 Z = true) (sb : Addr) (x : Int32) (cs : Int32) (fm : Value) (d1 d2 : Addr) (va : Addr) (ps js : List Nat) (sup : (Cond.superclass own "java/lang/AbstractStringBuilder").before a0 Z = true) (Z0 : n0 ≤ h0.size) (Wd : own_Wd Z cs fm d1 d2) (OZ : Old Z n0 h0) (Es : Exa Z h0 sb "java/lang/StringBuilder") (Vs : Fld Z h0 sb "java/lang/AbstractStringBuilder" "value" "[B" (.ref va)) (Ms : Fld Z h0 sb "java/lang/AbstractStringBuilder" "count" "I" (.int (Int32.ofNat ps.length))) (Cs : Fld Z h0 sb "java/lang/AbstractStringBuilder" "coder" "B" (.int 0)) (B1 : own_By Z h0 va (ps ++ js)) (Ys : Exa Z h0 va "[B") (gs : n0 ≤ sb) (g1 : n0 ≤ va) (hcap : (ps ++ js).length ≤ 202) (hlen : ps.length + (own_dec x).length ≤ 100) (eT : T.heap = h0) {K_ : String} (E_ : Exa Z h0 sb K_) (hml : c.maxLocals = kml) (hsz : Ls.size = kml) (hd : decode c.code pc = .ok (.invokespecial index, 3)) (hr : own_rm ({ frames := 4, cells := 1, slots := 420, locals := 110 } : Room) 4 R rest cells slots = true) :
    ∃ v T' L, Stand p l e R s m args below meth c T' (locs ++ L) (cells + 1) (slots + 420) ∧ Qai Z sb x cs fm d1 d2 va ps js h0 n0 v T'.heap L ∧ ∀ t, Steps p.tables e below (T'.setTop (mkF m (pc + 3) Ls (v.toList ++ rest))) t → Steps p.tables e below (T.setTop (mkF m pc Ls ((.int x) :: (.ref sb) :: rest))) t := by
  obtain ⟨v, T', L, X', hQ, sq⟩ := own_cU (argsL := [(.int x)]) (rest := rest) (rmai l Z a0 hw [] sb x cs fm d1 d2 va ps js h0 n0 Z0 Wd OZ Es Vs Ms Cs B1 Ys gs g1 hcap hlen) pd_21 rfl (wd_ hw 151 rfl) (wd_ hw 84 rfl) (wd_ hw 149 rfl) (wd_ hw 121 rfl) rfl (by decide) (by decide) sup hZ hx hown X lk eT E_ hml hsz hd hr
  exact ⟨v, T', L, X', hQ, sq⟩
theorem ef_rmsn (m : MethodId) (sb : Addr) (x : Int32)  : entryFrame m #[(.ref sb), (.int x)] 2 = mkF m 0 #[.val (.ref sb), .val (.int x)] [] := by first | (simp [entryFrame, mkF, argsToLocals, Value.category]; done) | rfl
def Qsn (Z : State) (sb : Addr) (x : Int32) (cs : Int32) (fm : Value) (d1 d2 : Addr) (va : Addr) (ps js : List Nat) (h0 : Heap) (n0 : Nat) (v : Option Value) (h : Heap) (L : List Loc) : Prop := v = some (.ref sb) ∧ Fr n0 L ∧ Keep h0 h [sb, va] ∧ ∃ va' js', (va' = va ∨ h0.size ≤ va') ∧ n0 ≤ va' ∧ Fld Z h sb "java/lang/AbstractStringBuilder" "value" "[B" (.ref va') ∧ Fld Z h sb "java/lang/AbstractStringBuilder" "count" "I" (.int (Int32.ofNat (ps ++ own_dec x).length)) ∧ Fld Z h sb "java/lang/AbstractStringBuilder" "coder" "B" (.int 0) ∧ own_By Z h va' ((ps ++ own_dec x) ++ js') ∧ Exa Z h va' "[B" ∧ ((ps ++ own_dec x) ++ js').length ≤ 202
theorem rmsn (l : Launch) (Z : State) (a0 : Array Value) (hw : ∀ d ∈ tables_1, d.before a0 Z = true) (ws : List Jvm.Cond) (sb : Addr) (x : Int32) (cs : Int32) (fm : Value) (d1 d2 : Addr) (va : Addr) (ps js : List Nat) (h0 : Heap) (n0 : Nat) (Z0 : n0 ≤ h0.size) (Wd : own_Wd Z cs fm d1 d2) (OZ : Old Z n0 h0) (Es : Exa Z h0 sb "java/lang/StringBuilder") (Vs : Fld Z h0 sb "java/lang/AbstractStringBuilder" "value" "[B" (.ref va)) (Ms : Fld Z h0 sb "java/lang/AbstractStringBuilder" "count" "I" (.int (Int32.ofNat ps.length))) (Cs : Fld Z h0 sb "java/lang/AbstractStringBuilder" "coder" "B" (.int 0)) (B1 : own_By Z h0 va (ps ++ js)) (Ys : Exa Z h0 va "[B") (gs : n0 ≤ sb) (g1 : n0 ≤ va) (hcap : (ps ++ js).length ≤ 202) (hlen : ps.length + (own_dec x).length ≤ 100) :
    own_MF l (⟨"java/lang/StringBuilder", "append", "(I)Ljava/lang/StringBuilder;"⟩ : MethodName) jdk_67_method_15_code 2 (some (.object "java/lang/StringBuilder")) ws ({ frames := 5, cells := 1, slots := 420, locals := 126 } : Room) #[(.ref sb), (.int x)] Z h0 (Qsn Z sb x cs fm d1 d2 va ps js h0 n0) := by
  refine MetFree.of_bodySF (plainFor_of_name pn_6) hisR ?_
  intro p e s m args below meth c s₁ Bd hml0 hP hK
  obtain ⟨rfl, hZ, hh⟩ := hP
  have hx := Bd.exec
  have hby := Bd.bytes
  have hlk : meth.locks = false := BodyLoose.notSynchronized Bd
  have hret := Bd.returns
  have hml : c.maxLocals = 2 := hml0
  have hown : s.vm.findClass "java/lang/StringBuilder" = some m.cls := findClass_of_methodNamed Bd.named
  have hnm := (name_of_methodNamed Bd.named Bd.method).1
  have X0 : Stand p l e ({ frames := 5, cells := 1, slots := 420, locals := 126 } : Room) s m #[(.ref sb), (.int x)] below meth c s₁ [] 0 0 := Stand.of_body Bd
  have e0 : s₁.heap = h0 := by rw [← hh, Bd.state]; rfl
  have N0 := Fr.nil n0
  show oE p e below s 1 420 (Qsn Z sb x cs fm d1 d2 va ps js h0 n0) (s₁.setTop (entryFrame m #[(.ref sb), (.int x)] 2))
  refine oS (fun t k => castTop (ef_rmsn m sb x ) k) ?_
  show oE p e below s _ _ _ (s₁.setTop (mkF m 0 #[.val (.ref sb), .val (.int x)] []))
  refine oS (fun _ k_ => XS.aloadN X0.here hx rfl (hb hby d20_0) rfl rfl (XS.iloadN X0.here hx rfl (hb hby d20_1) rfl k_)) ?_
  obtain ⟨v85, T85, L85, X85, hQ85, st85⟩ := cl_rmai X0 hw hZ hx hown (wd_ hw 148 rfl) sb x cs fm d1 d2 va ps js (wd_ hw 100 rfl) Z0 Wd OZ Es Vs Ms Cs B1 Ys gs g1 hcap hlen e0 Es hml rfl (hb hby d20_2) (Ls := #[.val (.ref sb), .val (.int x)]) (rest := []) rfl
  obtain ⟨rfl, N85q, K85k, R85k⟩ := hQ85
  have N85 := Fr.app N0 N85q
  refine oS (fun _ k_ => st85 _ k_) ?_
  show oE p e below s _ _ _ (T85.setTop (mkF m 5 #[.val (.ref sb), .val (.int x)] [(.ref sb)]))
  refine oS (fun _ k_ => XS.pop X85.here hx rfl (hb hby d20_5) rfl rfl (XS.aloadN X85.here hx rfl (hb hby d20_6) rfl rfl k_)) ?_
  exact own_retR X85 hx hret rfl rfl rfl hlk (hb hby d20_7) (by decide) (by decide) ⟨rfl, N85, K85k, R85k⟩
def b_28 := jdk_68_method_64_code
theorem d28_0 : decode b_28 0 = .ok (.aload_n 0, 1) := by decide +kernel
theorem d28_1 : decode b_28 1 = .ok (.getfield 15, 3) := by decide +kernel
theorem d28_4 : decode b_28 4 = .ok (.areturn, 1) := by decide +kernel
theorem pd_22 : parseMethodDescriptor "(I)Ljava/lang/StringBuilder;" = some ⟨[.int], some (.object "java/lang/StringBuilder")⟩ := by decide +kernel
theorem cl_rmsn (X : Stand p l e R s m args below meth c T locs cells slots) (hw : ∀ d ∈ tables_1, d.before a0 Z = true) (hZ : Z.Warmed39 s.vm) (hx : p.tables.exec = Jvm.exec) (hown : s.vm.findClass own = some m.cls) (lk : (Cond.methodLink own index (⟨"java/lang/StringBuilder", "append", "(I)Ljava/lang/StringBuilder;"⟩ : MethodName)).before a0 Z = true) (sb : Addr) (x : Int32) (cs : Int32) (fm : Value) (d1 d2 : Addr) (va : Addr) (ps js : List Nat) (Z0 : n0 ≤ h0.size) (Wd : own_Wd Z cs fm d1 d2) (OZ : Old Z n0 h0) (Es : Exa Z h0 sb "java/lang/StringBuilder") (Vs : Fld Z h0 sb "java/lang/AbstractStringBuilder" "value" "[B" (.ref va)) (Ms : Fld Z h0 sb "java/lang/AbstractStringBuilder" "count" "I" (.int (Int32.ofNat ps.length))) (Cs : Fld Z h0 sb "java/lang/AbstractStringBuilder" "coder" "B" (.int 0)) (B1 : own_By Z h0 va (ps ++ js)) (Ys : Exa Z h0 va "[B") (gs : n0 ≤ sb) (g1 : n0 ≤ va) (hcap : (ps ++ js).length ≤ 202) (hlen : ps.length + (own_dec x).length ≤ 100) (eT : T.heap = h0) (E_ : Exa Z h0 sb "java/lang/StringBuilder") (hml : c.maxLocals = kml) (hsz : Ls.size = kml) (hd : decode c.code pc = .ok (.invokevirtual index, 3)) (hr : own_rm ({ frames := 5, cells := 1, slots := 420, locals := 126 } : Room) 2 R rest cells slots = true) :
    ∃ v T' L, Stand p l e R s m args below meth c T' (locs ++ L) (cells + 1) (slots + 420) ∧ Qsn Z sb x cs fm d1 d2 va ps js h0 n0 v T'.heap L ∧ ∀ t, Steps p.tables e below (T'.setTop (mkF m (pc + 3) Ls (v.toList ++ rest))) t → Steps p.tables e below (T.setTop (mkF m pc Ls ((.int x) :: (.ref sb) :: rest))) t := by
  obtain ⟨v, T', L, X', hQ, sq⟩ := own_cV (argsL := [(.int x)]) (rest := rest) (rmsn l Z a0 hw [] sb x cs fm d1 d2 va ps js h0 n0 Z0 Wd OZ Es Vs Ms Cs B1 Ys gs g1 hcap hlen) pd_22 rfl (wd_ hw 147 rfl) (wd_ hw 76 rfl) (wd_ hw 145 rfl) (wd_ hw 144 rfl) (wd_ hw 146 rfl) rfl (wd_ hw 146 rfl) (by decide) hZ hx hown X lk eT E_ hml hsz hd hr
  exact ⟨v, T', L, X', hQ, sq⟩
theorem ef_rmgv (m : MethodId) (sb : Addr)  : entryFrame m #[(.ref sb)] 1 = mkF m 0 #[.val (.ref sb)] [] := by first | (simp [entryFrame, mkF, argsToLocals, Value.category]; done) | rfl
def Qgv (Z : State) (sb : Addr) (va : Addr) (h0 : Heap) (n0 : Nat) (v : Option Value) (h : Heap) (L : List Loc) : Prop := v = some (.ref va) ∧ Fr n0 L ∧ h = h0
theorem rmgv (l : Launch) (Z : State) (a0 : Array Value) (hw : ∀ d ∈ tables_1, d.before a0 Z = true) (ws : List Jvm.Cond) (sb : Addr) (va : Addr) (h0 : Heap) (n0 : Nat) (Z0 : n0 ≤ h0.size) (Vs : Fld Z h0 sb "java/lang/AbstractStringBuilder" "value" "[B" (.ref va)) :
    own_MF l (⟨"java/lang/AbstractStringBuilder", "getValue", "()[B"⟩ : MethodName) jdk_68_method_64_code 1 (some (.array .byte)) ws ({ frames := 0, cells := 0, slots := 0, locals := 0 } : Room) #[(.ref sb)] Z h0 (Qgv Z sb va h0 n0) := by
  refine MetFree.of_bodySF (plainFor_of_name pn_4) hisR ?_
  intro p e s m args below meth c s₁ Bd hml0 hP hK
  obtain ⟨rfl, hZ, hh⟩ := hP
  have hx := Bd.exec
  have hby := Bd.bytes
  have hlk : meth.locks = false := BodyLoose.notSynchronized Bd
  have hret := Bd.returns
  have hml : c.maxLocals = 1 := hml0
  have hown : s.vm.findClass "java/lang/AbstractStringBuilder" = some m.cls := findClass_of_methodNamed Bd.named
  have hnm := (name_of_methodNamed Bd.named Bd.method).1
  have X0 : Stand p l e ({ frames := 0, cells := 0, slots := 0, locals := 0 } : Room) s m #[(.ref sb)] below meth c s₁ [] 0 0 := Stand.of_body Bd
  have e0 : s₁.heap = h0 := by rw [← hh, Bd.state]; rfl
  have N0 := Fr.nil n0
  show oE p e below s 0 0 (Qgv Z sb va h0 n0) (s₁.setTop (entryFrame m #[(.ref sb)] 1))
  refine oS (fun t k => castTop (ef_rmgv m sb ) k) ?_
  show oE p e below s _ _ _ (s₁.setTop (mkF m 0 #[.val (.ref sb)] []))
  refine oS (fun _ k_ => XS.aloadN X0.here hx rfl (hb hby d28_0) rfl rfl k_) ?_
  obtain ⟨T86, X86, e86, st86⟩ := getF X0 hx hZ hown (host := "") (Or.inl (wd_ hw 88 rfl)) Via.refl e0 Vs (g := (mkF m 1 #[.val (.ref sb)] [(.ref sb)])) rfl rfl (hb hby d28_1)
  refine oS (fun _ k_ => st86 _ k_) ?_
  exact own_retR X86 hx hret rfl rfl rfl hlk (hb hby d28_4) (by decide) (by decide) ⟨rfl, N0, e86⟩
def b_30 := jdk_68_method_6_code
theorem d30_0 : decode b_30 0 = .ok (.aload_n 0, 1) := by decide +kernel
theorem d30_1 : decode b_30 1 = .ok (.getfield 79, 3) := by decide +kernel
theorem d30_4 : decode b_30 4 = .ok (.ireturn, 1) := by decide +kernel
theorem pd_23 : parseMethodDescriptor "()[B" = some ⟨[], some (.array .byte)⟩ := by decide +kernel
theorem cl_rmgv (X : Stand p l e R s m args below meth c T locs cells slots) (hw : ∀ d ∈ tables_1, d.before a0 Z = true) (hZ : Z.Warmed39 s.vm) (hx : p.tables.exec = Jvm.exec) (hown : s.vm.findClass own = some m.cls) (lk : (Cond.methodLink own index (⟨"java/lang/AbstractStringBuilder", "getValue", "()[B"⟩ : MethodName)).before a0 Z = true) (sb : Addr) (va : Addr) (Z0 : n0 ≤ h0.size) (Vs : Fld Z h0 sb "java/lang/AbstractStringBuilder" "value" "[B" (.ref va)) (eT : T.heap = h0) (E_ : Exa Z h0 sb "java/lang/StringBuilder") (N : Fr n0 locs) (hml : c.maxLocals = kml) (hsz : Ls.size = kml) (hd : decode c.code pc = .ok (.invokevirtual index, 3)) (hr : own_rm ({ frames := 0, cells := 0, slots := 0, locals := 0 } : Room) 1 R rest cells slots = true) :
    ∃ T' L', Stand p l e R s m args below meth c T' L' (cells + 0) (slots + 0) ∧ Fr n0 L' ∧ T'.heap = h0 ∧ ∀ t, Steps p.tables e below (T'.setTop (mkF m (pc + 3) Ls ((.ref va) :: rest))) t → Steps p.tables e below (T.setTop (mkF m pc Ls ((.ref sb) :: rest))) t := by
  obtain ⟨v, T', L, X', hQ, sq⟩ := own_cV (argsL := []) (rest := rest) (rmgv l Z a0 hw [] sb va h0 n0 Z0 Vs) pd_23 rfl (wd_ hw 184 rfl) (wd_ hw 84 rfl) (wd_ hw 182 rfl) (wd_ hw 181 rfl) (wd_ hw 183 rfl) rfl (wd_ hw 183 rfl) (by decide) hZ hx hown X lk eT E_ hml hsz hd hr
  obtain ⟨rfl, Nq, eq_⟩ := hQ
  exact ⟨T', _, X', Fr.app N Nq, eq_, sq⟩
theorem ef_rmlb (m : MethodId) (sb : Addr)  : entryFrame m #[(.ref sb)] 1 = mkF m 0 #[.val (.ref sb)] [] := by first | (simp [entryFrame, mkF, argsToLocals, Value.category]; done) | rfl
def Qlb (Z : State) (sb : Addr) (ct : Int32) (h0 : Heap) (n0 : Nat) (v : Option Value) (h : Heap) (L : List Loc) : Prop := v = some (.int ct) ∧ Fr n0 L ∧ h = h0
theorem rmlb (l : Launch) (Z : State) (a0 : Array Value) (hw : ∀ d ∈ tables_1, d.before a0 Z = true) (ws : List Jvm.Cond) (sb : Addr) (ct : Int32) (h0 : Heap) (n0 : Nat) (Z0 : n0 ≤ h0.size) (Ms : Fld Z h0 sb "java/lang/AbstractStringBuilder" "count" "I" (.int ct)) :
    own_MF l (⟨"java/lang/AbstractStringBuilder", "length", "()I"⟩ : MethodName) jdk_68_method_6_code 1 (some .int) ws ({ frames := 0, cells := 0, slots := 0, locals := 0 } : Room) #[(.ref sb)] Z h0 (Qlb Z sb ct h0 n0) := by
  refine MetFree.of_bodySF (plainFor_of_name pn_4) hisR ?_
  intro p e s m args below meth c s₁ Bd hml0 hP hK
  obtain ⟨rfl, hZ, hh⟩ := hP
  have hx := Bd.exec
  have hby := Bd.bytes
  have hlk : meth.locks = false := BodyLoose.notSynchronized Bd
  have hret := Bd.returns
  have hml : c.maxLocals = 1 := hml0
  have hown : s.vm.findClass "java/lang/AbstractStringBuilder" = some m.cls := findClass_of_methodNamed Bd.named
  have hnm := (name_of_methodNamed Bd.named Bd.method).1
  have X0 : Stand p l e ({ frames := 0, cells := 0, slots := 0, locals := 0 } : Room) s m #[(.ref sb)] below meth c s₁ [] 0 0 := Stand.of_body Bd
  have e0 : s₁.heap = h0 := by rw [← hh, Bd.state]; rfl
  have N0 := Fr.nil n0
  show oE p e below s 0 0 (Qlb Z sb ct h0 n0) (s₁.setTop (entryFrame m #[(.ref sb)] 1))
  refine oS (fun t k => castTop (ef_rmlb m sb ) k) ?_
  show oE p e below s _ _ _ (s₁.setTop (mkF m 0 #[.val (.ref sb)] []))
  refine oS (fun _ k_ => XS.aloadN X0.here hx rfl (hb hby d30_0) rfl rfl k_) ?_
  obtain ⟨T87, X87, e87, st87⟩ := getF X0 hx hZ hown (host := "") (Or.inl (wd_ hw 116 rfl)) Via.refl e0 Ms (g := (mkF m 1 #[.val (.ref sb)] [(.ref sb)])) rfl rfl (hb hby d30_1)
  refine oS (fun _ k_ => st87 _ k_) ?_
  exact own_retI X87 hx hret hlk (hb hby d30_4) (by decide) (by decide) ⟨rfl, N0, e87⟩
def b_29 := jdk_67_method_93_code
theorem d29_0 : decode b_29 0 = .ok (.aload_n 0, 1) := by decide +kernel
theorem d29_1 : decode b_29 1 = .ok (.invokespecial 343, 3) := by decide +kernel
theorem d29_4 : decode b_29 4 = .ok (.ireturn, 1) := by decide +kernel
theorem cl_rmlb (X : Stand p l e R s m args below meth c T locs cells slots) (hw : ∀ d ∈ tables_1, d.before a0 Z = true) (hZ : Z.Warmed39 s.vm) (hx : p.tables.exec = Jvm.exec) (hown : s.vm.findClass own = some m.cls) (lk : (Cond.methodLink own index (⟨"java/lang/AbstractStringBuilder", "length", "()I"⟩ : MethodName)).before a0 Z = true) (sb : Addr) (ct : Int32) (sup : (Cond.superclass own "java/lang/AbstractStringBuilder").before a0 Z = true) (Z0 : n0 ≤ h0.size) (Ms : Fld Z h0 sb "java/lang/AbstractStringBuilder" "count" "I" (.int ct)) (eT : T.heap = h0) {K_ : String} (E_ : Exa Z h0 sb K_) (N : Fr n0 locs) (hml : c.maxLocals = kml) (hsz : Ls.size = kml) (hd : decode c.code pc = .ok (.invokespecial index, 3)) (hr : own_rm ({ frames := 0, cells := 0, slots := 0, locals := 0 } : Room) 1 R rest cells slots = true) :
    ∃ T' L', Stand p l e R s m args below meth c T' L' (cells + 0) (slots + 0) ∧ Fr n0 L' ∧ T'.heap = h0 ∧ ∀ t, Steps p.tables e below (T'.setTop (mkF m (pc + 3) Ls ((.int ct) :: rest))) t → Steps p.tables e below (T.setTop (mkF m pc Ls ((.ref sb) :: rest))) t := by
  obtain ⟨v, T', L, X', hQ, sq⟩ := own_cU (argsL := []) (rest := rest) (rmlb l Z a0 hw [] sb ct h0 n0 Z0 Ms) pd_2 rfl (wd_ hw 192 rfl) (wd_ hw 84 rfl) (wd_ hw 187 rfl) (wd_ hw 121 rfl) rfl (by decide) (by decide) sup hZ hx hown X lk eT E_ hml hsz hd hr
  obtain ⟨rfl, Nq, eq_⟩ := hQ
  exact ⟨T', _, X', Fr.app N Nq, eq_, sq⟩
theorem ef_rmlc (m : MethodId) (sb : Addr)  : entryFrame m #[(.ref sb)] 1 = mkF m 0 #[.val (.ref sb)] [] := by first | (simp [entryFrame, mkF, argsToLocals, Value.category]; done) | rfl
def Qlc (Z : State) (sb : Addr) (ct : Int32) (h0 : Heap) (n0 : Nat) (v : Option Value) (h : Heap) (L : List Loc) : Prop := v = some (.int ct) ∧ Fr n0 L ∧ h = h0
theorem rmlc (l : Launch) (Z : State) (a0 : Array Value) (hw : ∀ d ∈ tables_1, d.before a0 Z = true) (ws : List Jvm.Cond) (sb : Addr) (ct : Int32) (h0 : Heap) (n0 : Nat) (Z0 : n0 ≤ h0.size) (Es : Exa Z h0 sb "java/lang/StringBuilder") (Ms : Fld Z h0 sb "java/lang/AbstractStringBuilder" "count" "I" (.int ct)) :
    own_MF l (⟨"java/lang/StringBuilder", "length", "()I"⟩ : MethodName) jdk_67_method_93_code 1 (some .int) ws ({ frames := 1, cells := 0, slots := 0, locals := 14 } : Room) #[(.ref sb)] Z h0 (Qlc Z sb ct h0 n0) := by
  refine MetFree.of_bodySF (plainFor_of_name pn_6) hisR ?_
  intro p e s m args below meth c s₁ Bd hml0 hP hK
  obtain ⟨rfl, hZ, hh⟩ := hP
  have hx := Bd.exec
  have hby := Bd.bytes
  have hlk : meth.locks = false := BodyLoose.notSynchronized Bd
  have hret := Bd.returns
  have hml : c.maxLocals = 1 := hml0
  have hown : s.vm.findClass "java/lang/StringBuilder" = some m.cls := findClass_of_methodNamed Bd.named
  have hnm := (name_of_methodNamed Bd.named Bd.method).1
  have X0 : Stand p l e ({ frames := 1, cells := 0, slots := 0, locals := 14 } : Room) s m #[(.ref sb)] below meth c s₁ [] 0 0 := Stand.of_body Bd
  have e0 : s₁.heap = h0 := by rw [← hh, Bd.state]; rfl
  have N0 := Fr.nil n0
  show oE p e below s 0 0 (Qlc Z sb ct h0 n0) (s₁.setTop (entryFrame m #[(.ref sb)] 1))
  refine oS (fun t k => castTop (ef_rmlc m sb ) k) ?_
  show oE p e below s _ _ _ (s₁.setTop (mkF m 0 #[.val (.ref sb)] []))
  refine oS (fun _ k_ => XS.aloadN X0.here hx rfl (hb hby d29_0) rfl rfl k_) ?_
  obtain ⟨T88, L88, X88, N88, e88, st88⟩ := cl_rmlb X0 hw hZ hx hown (wd_ hw 191 rfl) sb ct (wd_ hw 100 rfl) Z0 Ms e0 Es N0 hml rfl (hb hby d29_1) (Ls := #[.val (.ref sb)]) (rest := []) rfl
  refine oS (fun _ k_ => st88 _ k_) ?_
  exact own_retI X88 hx hret hlk (hb hby d29_4) (by decide) (by decide) ⟨rfl, N88, e88⟩
def b_33 := jdk_65_method_131_code
theorem d33_0 : decode b_33 0 = .ok (.iload_n 1, 1) := by decide +kernel
theorem d33_1 : decode b_33 1 = .ok (.iload_n 0, 1) := by decide +kernel
theorem d33_2 : decode b_33 2 = .ok (.if_icmp .ge 35, 3) := by decide +kernel
theorem d33_37 : decode b_33 37 = .ok (.return_, 1) := by decide +kernel
theorem cl_rmlc (X : Stand p l e R s m args below meth c T locs cells slots) (hw : ∀ d ∈ tables_1, d.before a0 Z = true) (hZ : Z.Warmed39 s.vm) (hx : p.tables.exec = Jvm.exec) (hown : s.vm.findClass own = some m.cls) (lk : (Cond.methodLink own index (⟨"java/lang/AbstractStringBuilder", "length", "()I"⟩ : MethodName)).before a0 Z = true) (sb : Addr) (ct : Int32) (Z0 : n0 ≤ h0.size) (Es : Exa Z h0 sb "java/lang/StringBuilder") (Ms : Fld Z h0 sb "java/lang/AbstractStringBuilder" "count" "I" (.int ct)) (eT : T.heap = h0) (E_ : Exa Z h0 sb "java/lang/StringBuilder") (N : Fr n0 locs) (hml : c.maxLocals = kml) (hsz : Ls.size = kml) (hd : decode c.code pc = .ok (.invokevirtual index, 3)) (hr : own_rm ({ frames := 1, cells := 0, slots := 0, locals := 14 } : Room) 1 R rest cells slots = true) :
    ∃ T' L', Stand p l e R s m args below meth c T' L' (cells + 0) (slots + 0) ∧ Fr n0 L' ∧ T'.heap = h0 ∧ ∀ t, Steps p.tables e below (T'.setTop (mkF m (pc + 3) Ls ((.int ct) :: rest))) t → Steps p.tables e below (T.setTop (mkF m pc Ls ((.ref sb) :: rest))) t := by
  obtain ⟨v, T', L, X', hQ, sq⟩ := own_cV (argsL := []) (rest := rest) (rmlc l Z a0 hw [] sb ct h0 n0 Z0 Es Ms) pd_2 rfl (wd_ hw 190 rfl) (wd_ hw 76 rfl) (wd_ hw 189 rfl) (wd_ hw 186 rfl) (wd_ hw 121 rfl) rfl (wd_ hw 188 rfl) (by decide) hZ hx hown X lk eT E_ hml hsz hd hr
  obtain ⟨rfl, Nq, eq_⟩ := hQ
  exact ⟨T', _, X', Fr.app N Nq, eq_, sq⟩
theorem ef_rmcl (m : MethodId) (nn : Nat) : entryFrame m #[(.int (Int32.ofNat 0)), (.int (Int32.ofNat nn))] 2 = mkF m 0 #[.val (.int (Int32.ofNat 0)), .val (.int (Int32.ofNat nn))] [] := by first | (simp [entryFrame, mkF, argsToLocals, Value.category]; done) | rfl
def Qcl (Z : State) (nn : Nat) (h0 : Heap) (n0 : Nat) (v : Option Value) (h : Heap) (L : List Loc) : Prop := v = none ∧ Fr n0 L ∧ h = h0
theorem rmcl (l : Launch) (Z : State) (a0 : Array Value) (hw : ∀ d ∈ tables_1, d.before a0 Z = true) (ws : List Jvm.Cond) (nn : Nat) (h0 : Heap) (n0 : Nat) (Z0 : n0 ≤ h0.size) (hnn : nn < 2 ^ 31) :
    own_MF l (⟨"java/util/Arrays", "checkLength", "(II)V"⟩ : MethodName) jdk_65_method_131_code 2 none ws ({ frames := 0, cells := 0, slots := 0, locals := 0 } : Room) #[(.int (Int32.ofNat 0)), (.int (Int32.ofNat nn))] Z h0 (Qcl Z nn h0 n0) := by
  refine MetFree.of_bodySF (plainFor_of_name pn_5) hisR ?_
  intro p e s m args below meth c s₁ Bd hml0 hP hK
  obtain ⟨rfl, hZ, hh⟩ := hP
  have hx := Bd.exec
  have hby := Bd.bytes
  have hlk : meth.locks = false := BodyLoose.notSynchronized Bd
  have hret := Bd.returns
  have hml : c.maxLocals = 2 := hml0
  have hown : s.vm.findClass "java/util/Arrays" = some m.cls := findClass_of_methodNamed Bd.named
  have hnm := (name_of_methodNamed Bd.named Bd.method).1
  have X0 : Stand p l e ({ frames := 0, cells := 0, slots := 0, locals := 0 } : Room) s m #[(.int (Int32.ofNat 0)), (.int (Int32.ofNat nn))] below meth c s₁ [] 0 0 := Stand.of_body Bd
  have e0 : s₁.heap = h0 := by rw [← hh, Bd.state]; rfl
  have N0 := Fr.nil n0
  show oE p e below s 0 0 (Qcl Z nn h0 n0) (s₁.setTop (entryFrame m #[(.int (Int32.ofNat 0)), (.int (Int32.ofNat nn))] 2))
  refine oS (fun t k => castTop (ef_rmcl m nn) k) ?_
  show oE p e below s _ _ _ (s₁.setTop (mkF m 0 #[.val (.int (Int32.ofNat 0)), .val (.int (Int32.ofNat nn))] []))
  refine oS (fun _ k_ => XS.iloadN X0.here hx rfl (hb hby d33_0) rfl (XS.iloadN X0.here hx rfl (hb hby d33_1) rfl (XS.icmpYes X0.here hx rfl (pc0 := 2) (pc' := 37) rfl (hb hby d33_2) rfl (XT.ii_ge_t (fun z => absurd ((own_ltN hnn (by omega)).mp z) (Nat.not_lt_zero _) : ¬ ((Int32.ofNat nn) < (Int32.ofNat 0)))) (by decide) (by decide) k_))) ?_
  exact own_retV X0 hx hret hlk (hb hby d33_37) (by decide) (by decide) ⟨rfl, N0, e0⟩
def b_32 := jdk_65_method_133_code
theorem d32_0 : decode b_32 0 = .ok (.iload_n 1, 1) := by decide +kernel
theorem d32_1 : decode b_32 1 = .ok (.iload_n 2, 1) := by decide +kernel
theorem d32_2 : decode b_32 2 = .ok (.invokestatic 343, 3) := by decide +kernel
theorem d32_5 : decode b_32 5 = .ok (.iload_n 2, 1) := by decide +kernel
theorem d32_6 : decode b_32 6 = .ok (.iload_n 1, 1) := by decide +kernel
theorem d32_7 : decode b_32 7 = .ok (.isub, 1) := by decide +kernel
theorem d32_8 : decode b_32 8 = .ok (.istore_n 3, 1) := by decide +kernel
theorem d32_9 : decode b_32 9 = .ok (.iload_n 3, 1) := by decide +kernel
theorem d32_10 : decode b_32 10 = .ok (.newarray .byte, 2) := by decide +kernel
theorem d32_12 : decode b_32 12 = .ok (.astore 4, 2) := by decide +kernel
theorem d32_14 : decode b_32 14 = .ok (.aload_n 0, 1) := by decide +kernel
theorem d32_15 : decode b_32 15 = .ok (.iload_n 1, 1) := by decide +kernel
theorem d32_16 : decode b_32 16 = .ok (.aload 4, 2) := by decide +kernel
theorem d32_18 : decode b_32 18 = .ok (.iconst 0, 1) := by decide +kernel
theorem d32_19 : decode b_32 19 = .ok (.aload_n 0, 1) := by decide +kernel
theorem d32_20 : decode b_32 20 = .ok (.arraylength, 1) := by decide +kernel
theorem d32_21 : decode b_32 21 = .ok (.iload_n 1, 1) := by decide +kernel
theorem d32_22 : decode b_32 22 = .ok (.isub, 1) := by decide +kernel
theorem d32_23 : decode b_32 23 = .ok (.iload_n 3, 1) := by decide +kernel
theorem d32_24 : decode b_32 24 = .ok (.invokestatic 304, 3) := by decide +kernel
theorem d32_27 : decode b_32 27 = .ok (.invokestatic 150, 3) := by decide +kernel
theorem d32_30 : decode b_32 30 = .ok (.aload 4, 2) := by decide +kernel
theorem d32_32 : decode b_32 32 = .ok (.areturn, 1) := by decide +kernel
theorem cl_rmcl (X : Stand p l e R s m args below meth c T locs cells slots) (hw : ∀ d ∈ tables_1, d.before a0 Z = true) (hZ : Z.Warmed39 s.vm) (hx : p.tables.exec = Jvm.exec) (hown : s.vm.findClass own = some m.cls) (lk : (Cond.methodLink own index (⟨"java/util/Arrays", "checkLength", "(II)V"⟩ : MethodName)).before a0 Z = true) (nn : Nat) (Z0 : n0 ≤ h0.size) (hnn : nn < 2 ^ 31) (eT : T.heap = h0) (N : Fr n0 locs) (hml : c.maxLocals = kml) (hsz : Ls.size = kml) (hd : decode c.code pc = .ok (.invokestatic index, 3)) (hr : own_rm ({ frames := 0, cells := 0, slots := 0, locals := 0 } : Room) 2 R rest cells slots = true) :
    ∃ T' L', Stand p l e R s m args below meth c T' L' (cells + 0) (slots + 0) ∧ Fr n0 L' ∧ T'.heap = h0 ∧ ∀ t, Steps p.tables e below (T'.setTop (mkF m (pc + 3) Ls (rest))) t → Steps p.tables e below (T.setTop (mkF m pc Ls ((.int (Int32.ofNat nn)) :: (.int (Int32.ofNat 0)) :: rest))) t := by
  obtain ⟨v, T', L, X', hQ, sq⟩ := own_cS (argsL := [(.int (Int32.ofNat 0)), (.int (Int32.ofNat nn))]) (rest := rest) (rmcl l Z a0 hw [] nn h0 n0 Z0 hnn) pd_4 rfl (wd_ hw 203 rfl) (wd_ hw 196 rfl) (wd_ hw 202 rfl) (by decide) hZ hx hown X lk eT hml hsz hd hr
  obtain ⟨rfl, Nq, eq_⟩ := hQ
  exact ⟨T', _, X', Fr.app N Nq, eq_, sq⟩
theorem ef_rmcb (m : MethodId) (va : Addr) (ps : List Nat) : entryFrame m #[(.ref va), (.int (Int32.ofNat 0)), (.int (Int32.ofNat ps.length))] 5 = mkF m 0 #[.val (.ref va), .val (.int (Int32.ofNat 0)), .val (.int (Int32.ofNat ps.length)), .unset, .unset] [] := by first | (simp [entryFrame, mkF, argsToLocals, Value.category]; done) | rfl
def Qcb (Z : State) (va : Addr) (ps js : List Nat) (h0 : Heap) (n0 : Nat) (v : Option Value) (h : Heap) (L : List Loc) : Prop := Fr n0 L ∧ Keep h0 h [] ∧ ∃ ra, v = some (.ref ra) ∧ h0.size ≤ ra ∧ own_By Z h ra ps ∧ Exa Z h ra "[B"
theorem rmcb (l : Launch) (Z : State) (a0 : Array Value) (hw : ∀ d ∈ tables_1, d.before a0 Z = true) (ws : List Jvm.Cond) (va : Addr) (ps js : List Nat) (h0 : Heap) (n0 : Nat) (Z0 : n0 ≤ h0.size) (B1 : own_By Z h0 va (ps ++ js)) (hcap : (ps ++ js).length ≤ 202) :
    own_MF l (⟨"java/util/Arrays", "copyOfRangeByte", "([BII)[B"⟩ : MethodName) jdk_65_method_133_code 5 (some (.array .byte)) ws ({ frames := 1, cells := 1, slots := 202, locals := 40 } : Room) #[(.ref va), (.int (Int32.ofNat 0)), (.int (Int32.ofNat ps.length))] Z h0 (Qcb Z va ps js h0 n0) := by
  refine MetFree.of_bodySF (plainFor_of_name pn_5) hisR ?_
  intro p e s m args below meth c s₁ Bd hml0 hP hK
  obtain ⟨rfl, hZ, hh⟩ := hP
  have hx := Bd.exec
  have hby := Bd.bytes
  have hlk : meth.locks = false := BodyLoose.notSynchronized Bd
  have hret := Bd.returns
  have hml : c.maxLocals = 5 := hml0
  have hown : s.vm.findClass "java/util/Arrays" = some m.cls := findClass_of_methodNamed Bd.named
  have hnm := (name_of_methodNamed Bd.named Bd.method).1
  have X0 : Stand p l e ({ frames := 1, cells := 1, slots := 202, locals := 40 } : Room) s m #[(.ref va), (.int (Int32.ofNat 0)), (.int (Int32.ofNat ps.length))] below meth c s₁ [] 0 0 := Stand.of_body Bd
  have e0 : s₁.heap = h0 := by rw [← hh, Bd.state]; rfl
  have N0 := Fr.nil n0
  show oE p e below s 1 202 (Qcb Z va ps js h0 n0) (s₁.setTop (entryFrame m #[(.ref va), (.int (Int32.ofNat 0)), (.int (Int32.ofNat ps.length))] 5))
  refine oS (fun t k => castTop (ef_rmcb m va ps) k) ?_
  show oE p e below s _ _ _ (s₁.setTop (mkF m 0 #[.val (.ref va), .val (.int (Int32.ofNat 0)), .val (.int (Int32.ofNat ps.length)), .unset, .unset] []))
  have hcl : ps.length + js.length ≤ 202 := by rw [← List.length_append]; exact hcap
  refine oS (fun _ k_ => XS.iloadN X0.here hx rfl (hb hby d32_0) rfl (XS.iloadN X0.here hx rfl (hb hby d32_1) rfl k_)) ?_
  obtain ⟨T89, L89, X89, N89, e89, st89⟩ := cl_rmcl X0 hw hZ hx hown (wd_ hw 201 rfl) ps.length Z0 (by omega) e0 N0 hml rfl (hb hby d32_2) (Ls := #[.val (.ref va), .val (.int (Int32.ofNat 0)), .val (.int (Int32.ofNat ps.length)), .unset, .unset]) (rest := []) rfl
  refine oS (fun _ k_ => st89 _ k_) ?_
  refine oS (fun _ k_ => XS.iloadN X89.here hx rfl (hb hby d32_5) rfl (XS.iloadN X89.here hx rfl (hb hby d32_6) rfl (XS.isub X89.here hx rfl (hb hby d32_7) rfl k_))) ?_
  show oE p e below s _ _ _ (T89.setTop (mkF m 8 #[.val (.ref va), .val (.int (Int32.ofNat 0)), .val (.int (Int32.ofNat ps.length)), .unset, .unset] [(.int ((Int32.ofNat ps.length) - (Int32.ofNat 0)))]))
  rw [show Int32.ofNat ps.length - Int32.ofNat 0 = Int32.ofNat ps.length from own_sub (b := 0) (Nat.zero_le _)]
  refine oS (fun _ k_ => XS.istoreN X89.here hx rfl (hb hby d32_8) rfl (l' := #[.val (.ref va), .val (.int (Int32.ofNat 0)), .val (.int (Int32.ofNat ps.length)), .val (.int (Int32.ofNat ps.length)), .unset]) rfl (XS.iloadN X89.here hx rfl (hb hby d32_9) rfl k_)) ?_
  obtain ⟨T90, h90, k90, X90, e90, E90, A90, Ex90, st90⟩ := newPE X89 hx hZ (wd_ hw 30 rfl) e89 (g := (mkF m 10 #[.val (.ref va), .val (.int (Int32.ofNat 0)), .val (.int (Int32.ofNat ps.length)), .val (.int (Int32.ofNat ps.length)), .unset] [(.int (Int32.ofNat ps.length))])) rfl (hb hby d32_10) rfl (own_nn (by omega)) (cap := 202) (by rw [own_nc (by omega)]; omega) (by decide) (by decide : 0 + 1 ≤ _) (by decide : 0 + 202 ≤ _) (ad := "[B") rfl
  obtain ⟨b90, g90⟩ : ∃ z, z = h0.size := ⟨_, rfl⟩
  rw [← g90] at A90 Ex90 st90
  have ne_va_b90 : va ≠ b90 := Nat.ne_of_lt (Nat.lt_of_lt_of_le (B1).lt (Nat.le_of_eq g90.symm))
  have n0_b90 : n0 ≤ b90 := Nat.le_trans Z0 (Nat.le_of_eq g90.symm)
  have h0_b90 : h0.size ≤ b90 := Nat.le_trans ((Keep.refl h0 [])).1 (Nat.le_of_eq g90.symm)
  have B_va_90 := (B1).ext E90
  have K90 := ((Keep.refl h0 [])).ext E90
  have Zs90 := Nat.le_trans Z0 E90.1
  have B_b90 : own_By Z h90 b90 (List.replicate ps.length 0) := own_By.zero (by omega) A90
  refine oS (fun _ k_ => st90 _ k_) ?_
  refine oS (fun _ k_ => XS.astore X90.here hx rfl (hb hby d32_12) rfl rfl (l' := #[.val (.ref va), .val (.int (Int32.ofNat 0)), .val (.int (Int32.ofNat ps.length)), .val (.int (Int32.ofNat ps.length)), .val (.ref b90)]) rfl (XS.aloadN X90.here hx rfl (hb hby d32_14) rfl rfl (XS.iloadN X90.here hx rfl (hb hby d32_15) rfl (XS.aload X90.here hx rfl (hb hby d32_16) rfl rfl (XS.iconst X90.here hx rfl (hb hby d32_18) (XS.aloadN X90.here hx rfl (hb hby d32_19) rfl rfl (own_alen X90 hx hZ e90 (B_va_90).1 (n := ((ps ++ js)).length) (z := (Int32.ofNat ((ps ++ js)).length)) (own_V_len _) rfl (hb hby d32_20) _ (XS.iloadN X90.here hx rfl (hb hby d32_21) rfl k_)))))))) ?_
  refine oS (fun _ k_ => XS.isub X90.here hx rfl (hb hby d32_22) rfl k_) ?_
  show oE p e below s _ _ _ (T90.setTop (mkF m 23 #[.val (.ref va), .val (.int (Int32.ofNat 0)), .val (.int (Int32.ofNat ps.length)), .val (.int (Int32.ofNat ps.length)), .val (.ref b90)] [(.int ((Int32.ofNat ((ps ++ js)).length) - (Int32.ofNat 0))), (.int (0 : Int32)), (.ref b90), (.int (Int32.ofNat 0)), (.ref va)]))
  rw [show Int32.ofNat (ps ++ js).length - Int32.ofNat 0 = Int32.ofNat (ps ++ js).length from own_sub (b := 0) (Nat.zero_le _)]
  refine oS (fun _ k_ => XS.iloadN X90.here hx rfl (hb hby d32_23) rfl k_) ?_
  obtain ⟨T91, L91, X91, N91, e91, st91⟩ := cl_rmmin X90 hw hZ hx hown (wd_ hw 204 rfl) (ps ++ js).length ps.length Zs90 (by omega) (by omega) e90 N89 hml rfl (hb hby d32_24) (Ls := #[.val (.ref va), .val (.int (Int32.ofNat 0)), .val (.int (Int32.ofNat ps.length)), .val (.int (Int32.ofNat ps.length)), .val (.ref b90)]) (rest := [(.int (0 : Int32)), (.ref b90), (.int (Int32.ofNat 0)), (.ref va)]) rfl
  refine oS (fun _ k_ => st91 _ k_) ?_
  obtain ⟨T92, _, L92, X92, rfl, N92, K92_, B92_, st92⟩ := own_cp X91 hx hZ hown (wd_ hw 208 rfl) (wd_ hw 142 rfl) (wd_ hw 140 rfl) (wd_ hw 141 rfl) e91 (xs := ps) (ys := js) (ps := []) (ms := (List.replicate ps.length 0)) (qs := []) ((B_va_90).cast rfl) ((B_b90).cast (by simp)) List.length_replicate rfl (by rw [List.length_append]; congr 1; omega) N91 n0_b90 (g := (mkF m 27 #[.val (.ref va), .val (.int (Int32.ofNat 0)), .val (.int (Int32.ofNat ps.length)), .val (.int (Int32.ofNat ps.length)), .val (.ref b90)] [(.int (Int32.ofNat (min (ps ++ js).length ps.length))), (.int (0 : Int32)), (.ref b90), (.int (Int32.ofNat 0)), (.ref va)])) rfl (by rw [hml]; rfl) rfl (hb hby d32_27) (by decide) (W := 0) (by show 2 * 0 + _ ≤ _; exact Nat.le_of_eq rfl) (by decide)
  have C92_ := B92_.cast (ys := ps) (by simp)
  have B_va_92 := (B_va_90).keep K92_ (ninS ne_va_b90 nin0)
  have E_b90_92 := (Ex90).keep K92_
  have K92 := (K90).trans K92_ (allS (Or.inr h0_b90) all0)
  have Zs92 := Nat.le_trans Zs90 K92_.1
  refine oS (fun _ k_ => st92 _ k_) ?_
  refine oS (fun _ k_ => XS.aload X92.here hx rfl (hb hby d32_30) rfl rfl k_) ?_
  exact own_retR X92 hx hret rfl rfl rfl hlk (hb hby d32_32) (by decide) (by decide) (by exact ⟨N92, K92, _, rfl, h0_b90, C92_, E_b90_92⟩)
def b_31 := jdk_65_method_132_code
theorem d31_0 : decode b_31 0 = .ok (.iload_n 1, 1) := by decide +kernel
theorem d31_1 : decode b_31 1 = .ok (.ifCond .ne 9, 3) := by decide +kernel
theorem d31_4 : decode b_31 4 = .ok (.iload_n 2, 1) := by decide +kernel
theorem d31_5 : decode b_31 5 = .ok (.aload_n 0, 1) := by decide +kernel
theorem d31_6 : decode b_31 6 = .ok (.arraylength, 1) := by decide +kernel
theorem d31_7 : decode b_31 7 = .ok (.if_icmp .eq 10, 3) := by decide +kernel
theorem d31_10 : decode b_31 10 = .ok (.aload_n 0, 1) := by decide +kernel
theorem d31_11 : decode b_31 11 = .ok (.iload_n 1, 1) := by decide +kernel
theorem d31_12 : decode b_31 12 = .ok (.iload_n 2, 1) := by decide +kernel
theorem d31_13 : decode b_31 13 = .ok (.invokestatic 339, 3) := by decide +kernel
theorem d31_16 : decode b_31 16 = .ok (.areturn, 1) := by decide +kernel
theorem d31_17 : decode b_31 17 = .ok (.aload_n 0, 1) := by decide +kernel
theorem d31_18 : decode b_31 18 = .ok (.invokevirtual 310, 3) := by decide +kernel
theorem d31_21 : decode b_31 21 = .ok (.checkcast 311, 3) := by decide +kernel
theorem d31_24 : decode b_31 24 = .ok (.areturn, 1) := by decide +kernel
theorem pd_24 : parseMethodDescriptor "([BII)[B" = some ⟨[(.array .byte), .int, .int], some (.array .byte)⟩ := by decide +kernel
theorem cl_rmcb (X : Stand p l e R s m args below meth c T locs cells slots) (hw : ∀ d ∈ tables_1, d.before a0 Z = true) (hZ : Z.Warmed39 s.vm) (hx : p.tables.exec = Jvm.exec) (hown : s.vm.findClass own = some m.cls) (lk : (Cond.methodLink own index (⟨"java/util/Arrays", "copyOfRangeByte", "([BII)[B"⟩ : MethodName)).before a0 Z = true) (va : Addr) (ps js : List Nat) (Z0 : n0 ≤ h0.size) (B1 : own_By Z h0 va (ps ++ js)) (hcap : (ps ++ js).length ≤ 202) (eT : T.heap = h0) (hml : c.maxLocals = kml) (hsz : Ls.size = kml) (hd : decode c.code pc = .ok (.invokestatic index, 3)) (hr : own_rm ({ frames := 1, cells := 1, slots := 202, locals := 40 } : Room) 5 R rest cells slots = true) :
    ∃ v T' L, Stand p l e R s m args below meth c T' (locs ++ L) (cells + 1) (slots + 202) ∧ Qcb Z va ps js h0 n0 v T'.heap L ∧ ∀ t, Steps p.tables e below (T'.setTop (mkF m (pc + 3) Ls (v.toList ++ rest))) t → Steps p.tables e below (T.setTop (mkF m pc Ls ((.int (Int32.ofNat ps.length)) :: (.int (Int32.ofNat 0)) :: (.ref va) :: rest))) t := by
  obtain ⟨v, T', L, X', hQ, sq⟩ := own_cS (argsL := [(.ref va), (.int (Int32.ofNat 0)), (.int (Int32.ofNat ps.length))]) (rest := rest) (rmcb l Z a0 hw [] va ps js h0 n0 Z0 B1 hcap) pd_24 rfl (wd_ hw 200 rfl) (wd_ hw 196 rfl) (wd_ hw 199 rfl) (by decide) hZ hx hown X lk eT hml hsz hd hr
  exact ⟨v, T', L, X', hQ, sq⟩
theorem ef_rmcr (m : MethodId) (va : Addr) (ps : List Nat) : entryFrame m #[(.ref va), (.int (Int32.ofNat 0)), (.int (Int32.ofNat ps.length))] 3 = mkF m 0 #[.val (.ref va), .val (.int (Int32.ofNat 0)), .val (.int (Int32.ofNat ps.length))] [] := by first | (simp [entryFrame, mkF, argsToLocals, Value.category]; done) | rfl
def Qcr (Z : State) (va : Addr) (ps js : List Nat) (h0 : Heap) (n0 : Nat) (v : Option Value) (h : Heap) (L : List Loc) : Prop := Fr n0 L ∧ Keep h0 h [] ∧ ∃ ra, v = some (.ref ra) ∧ h0.size ≤ ra ∧ own_By Z h ra ps ∧ Exa Z h ra "[B"
theorem rmcr (l : Launch) (Z : State) (a0 : Array Value) (hw : ∀ d ∈ tables_1, d.before a0 Z = true) (ws : List Jvm.Cond) (va : Addr) (ps js : List Nat) (h0 : Heap) (n0 : Nat) (Z0 : n0 ≤ h0.size) (B1 : own_By Z h0 va (ps ++ js)) (Ys : Exa Z h0 va "[B") (hcap : (ps ++ js).length ≤ 202) :
    own_MF l (⟨"java/util/Arrays", "copyOfRange", "([BII)[B"⟩ : MethodName) jdk_65_method_132_code 3 (some (.array .byte)) ws ({ frames := 2, cells := 1, slots := 202, locals := 60 } : Room) #[(.ref va), (.int (Int32.ofNat 0)), (.int (Int32.ofNat ps.length))] Z h0 (Qcr Z va ps js h0 n0) := by
  refine MetFree.of_bodySF (plainFor_of_name pn_5) hisR ?_
  intro p e s m args below meth c s₁ Bd hml0 hP hK
  obtain ⟨rfl, hZ, hh⟩ := hP
  have hx := Bd.exec
  have hby := Bd.bytes
  have hlk : meth.locks = false := BodyLoose.notSynchronized Bd
  have hret := Bd.returns
  have hml : c.maxLocals = 3 := hml0
  have hown : s.vm.findClass "java/util/Arrays" = some m.cls := findClass_of_methodNamed Bd.named
  have hnm := (name_of_methodNamed Bd.named Bd.method).1
  have X0 : Stand p l e ({ frames := 2, cells := 1, slots := 202, locals := 60 } : Room) s m #[(.ref va), (.int (Int32.ofNat 0)), (.int (Int32.ofNat ps.length))] below meth c s₁ [] 0 0 := Stand.of_body Bd
  have e0 : s₁.heap = h0 := by rw [← hh, Bd.state]; rfl
  have N0 := Fr.nil n0
  show oE p e below s 1 202 (Qcr Z va ps js h0 n0) (s₁.setTop (entryFrame m #[(.ref va), (.int (Int32.ofNat 0)), (.int (Int32.ofNat ps.length))] 3))
  refine oS (fun t k => castTop (ef_rmcr m va ps) k) ?_
  show oE p e below s _ _ _ (s₁.setTop (mkF m 0 #[.val (.ref va), .val (.int (Int32.ofNat 0)), .val (.int (Int32.ofNat ps.length))] []))
  have hcl : ps.length + js.length ≤ 202 := by rw [← List.length_append]; exact hcap
  refine oS (fun _ k_ => XS.iloadN X0.here hx rfl (hb hby d31_0) rfl (XS.ifNo X0.here hx rfl (hb hby d31_1) rfl (XT.i0_ne_f (rfl : (Int32.ofNat 0) = 0)) (XS.iloadN X0.here hx rfl (hb hby d31_4) rfl (XS.aloadN X0.here hx rfl (hb hby d31_5) rfl rfl (own_alen X0 hx hZ e0 (B1).1 (n := ((ps ++ js)).length) (z := (Int32.ofNat ((ps ++ js)).length)) (own_V_len _) rfl (hb hby d31_6) _ k_))))) ?_
  by_cases hc7 : (Int32.ofNat ps.length) = (Int32.ofNat ((ps ++ js)).length)
  · refine oS (fun _ k_ => XS.icmpYes X0.here hx rfl (pc0 := 7) (pc' := 17) rfl (hb hby d31_7) rfl (XT.ii_eq_t hc7) (by decide) (by decide) (XS.aloadN X0.here hx rfl (hb hby d31_17) rfl rfl k_)) ?_
    rw [own_eqN (by omega) (by rw [List.length_append]; omega), List.length_append] at hc7
    have hjs : js = [] := List.eq_nil_of_length_eq_zero (by omega)
    obtain ⟨T93, h93, X93, e93, E93, B93_, Ex93, st93⟩ := own_clone X0 hx hZ hown (wd_ hw 294 rfl) (wd_ hw 295 rfl) (wd_ hw 299 rfl) (wd_ hw 297 rfl) (wd_ hw 298 rfl) (wd_ hw 300 rfl) e0 (bs := ps) (B1.cast (by rw [hjs, List.append_nil])) Ys (g := (mkF m 18 #[.val (.ref va), .val (.int (Int32.ofNat 0)), .val (.int (Int32.ofNat ps.length))] [(.ref va)])) rfl (by rw [hml]; rfl) rfl (hb hby d31_18) (by decide) (W := 0) (by show 2 * 0 + _ ≤ _; exact Nat.le_of_eq rfl) (by decide) (cap := 202) (by omega) (by decide : 0 + 1 ≤ _) (by decide : 0 + 202 ≤ _)
    obtain ⟨b93, g93⟩ : ∃ z, z = h0.size := ⟨_, rfl⟩
    rw [← g93] at B93_ Ex93 st93
    have ne_va_b93 : va ≠ b93 := Nat.ne_of_lt (Nat.lt_of_lt_of_le (B1).lt (Nat.le_of_eq g93.symm))
    have n0_b93 : n0 ≤ b93 := Nat.le_trans Z0 (Nat.le_of_eq g93.symm)
    have h0_b93 : h0.size ≤ b93 := Nat.le_trans ((Keep.refl h0 [])).1 (Nat.le_of_eq g93.symm)
    have B_va_93 := (B1).ext E93
    have E_va_93 := (Ys).ext E93
    have K93 := ((Keep.refl h0 [])).ext E93
    have Zs93 := Nat.le_trans Z0 E93.1
    refine oS (fun _ k_ => st93 _ k_) ?_
    obtain ⟨T94, X94, e94, st94⟩ := castY X93 hx hZ hown (wd_ hw 301 rfl) e93 (Ins.self Ex93) (g := (mkF m 21 #[.val (.ref va), .val (.int (Int32.ofNat 0)), .val (.int (Int32.ofNat ps.length))] [(.ref b93)])) rfl rfl (hb hby d31_21)
    refine oS (fun _ k_ => st94 _ k_) ?_
    exact own_retR X94 hx hret rfl rfl rfl hlk (hb hby d31_24) (by decide) (by decide) (by rw [e94]; exact ⟨N0, K93, _, rfl, h0_b93, B93_, Ex93⟩)
  · refine oS (fun _ k_ => XS.icmpNo X0.here hx rfl (hb hby d31_7) rfl (XT.ii_eq_f hc7) (XS.aloadN X0.here hx rfl (hb hby d31_10) rfl rfl (XS.iloadN X0.here hx rfl (hb hby d31_11) rfl (XS.iloadN X0.here hx rfl (hb hby d31_12) rfl k_)))) ?_
    obtain ⟨v95, T95, L95, X95, hQ95, st95⟩ := cl_rmcb X0 hw hZ hx hown (wd_ hw 198 rfl) va ps js Z0 B1 hcap e0 hml rfl (hb hby d31_13) (Ls := #[.val (.ref va), .val (.int (Int32.ofNat 0)), .val (.int (Int32.ofNat ps.length))]) (rest := []) rfl
    obtain ⟨N95q, K95k, ra, rfl, hra, B95r, E95r⟩ := hQ95
    have B_va_95 := (B1).keep K95k nin0
    have E_va_95 := (Ys).keep K95k
    have K95 := ((Keep.refl h0 [])).trans K95k all0
    have Zs95 := Nat.le_trans Z0 K95k.1
    have N95 := Fr.app N0 N95q
    refine oS (fun _ k_ => st95 _ k_) ?_
    show oE p e below s _ _ _ (T95.setTop (mkF m 16 #[.val (.ref va), .val (.int (Int32.ofNat 0)), .val (.int (Int32.ofNat ps.length))] [(.ref ra)]))
    exact own_retR X95 hx hret rfl rfl rfl hlk (hb hby d31_16) (by decide) (by decide) (by exact ⟨N95, K95, _, rfl, hra, B95r, E95r⟩)
def b_27 := jdk_42_method_150_code
theorem d27_0 : decode b_27 0 = .ok (.aload_n 0, 1) := by decide +kernel
theorem d27_1 : decode b_27 1 = .ok (.invokespecial 1, 3) := by decide +kernel
theorem d27_4 : decode b_27 4 = .ok (.aload_n 1, 1) := by decide +kernel
theorem d27_5 : decode b_27 5 = .ok (.invokevirtual 552, 3) := by decide +kernel
theorem d27_8 : decode b_27 8 = .ok (.astore_n 3, 1) := by decide +kernel
theorem d27_9 : decode b_27 9 = .ok (.aload_n 1, 1) := by decide +kernel
theorem d27_10 : decode b_27 10 = .ok (.invokevirtual 549, 3) := by decide +kernel
theorem d27_13 : decode b_27 13 = .ok (.istore 4, 2) := by decide +kernel
theorem d27_15 : decode b_27 15 = .ok (.aload_n 1, 1) := by decide +kernel
theorem d27_16 : decode b_27 16 = .ok (.invokevirtual 1047, 3) := by decide +kernel
theorem d27_19 : decode b_27 19 = .ok (.ifCond .eq 22, 3) := by decide +kernel
theorem d27_22 : decode b_27 22 = .ok (.aload_n 0, 1) := by decide +kernel
theorem d27_23 : decode b_27 23 = .ok (.iconst 0, 1) := by decide +kernel
theorem d27_24 : decode b_27 24 = .ok (.putfield 15, 3) := by decide +kernel
theorem d27_27 : decode b_27 27 = .ok (.aload_n 0, 1) := by decide +kernel
theorem d27_28 : decode b_27 28 = .ok (.aload_n 3, 1) := by decide +kernel
theorem d27_29 : decode b_27 29 = .ok (.iconst 0, 1) := by decide +kernel
theorem d27_30 : decode b_27 30 = .ok (.iload 4, 2) := by decide +kernel
theorem d27_32 : decode b_27 32 = .ok (.invokestatic 54, 3) := by decide +kernel
theorem d27_35 : decode b_27 35 = .ok (.putfield 9, 3) := by decide +kernel
theorem d27_38 : decode b_27 38 = .ok (.goto 59, 3) := by decide +kernel
theorem d27_97 : decode b_27 97 = .ok (.return_, 1) := by decide +kernel
theorem cl_rmcr (X : Stand p l e R s m args below meth c T locs cells slots) (hw : ∀ d ∈ tables_1, d.before a0 Z = true) (hZ : Z.Warmed39 s.vm) (hx : p.tables.exec = Jvm.exec) (hown : s.vm.findClass own = some m.cls) (lk : (Cond.methodLink own index (⟨"java/util/Arrays", "copyOfRange", "([BII)[B"⟩ : MethodName)).before a0 Z = true) (va : Addr) (ps js : List Nat) (Z0 : n0 ≤ h0.size) (B1 : own_By Z h0 va (ps ++ js)) (Ys : Exa Z h0 va "[B") (hcap : (ps ++ js).length ≤ 202) (eT : T.heap = h0) (hml : c.maxLocals = kml) (hsz : Ls.size = kml) (hd : decode c.code pc = .ok (.invokestatic index, 3)) (hr : own_rm ({ frames := 2, cells := 1, slots := 202, locals := 60 } : Room) 3 R rest cells slots = true) :
    ∃ v T' L, Stand p l e R s m args below meth c T' (locs ++ L) (cells + 1) (slots + 202) ∧ Qcr Z va ps js h0 n0 v T'.heap L ∧ ∀ t, Steps p.tables e below (T'.setTop (mkF m (pc + 3) Ls (v.toList ++ rest))) t → Steps p.tables e below (T.setTop (mkF m pc Ls ((.int (Int32.ofNat ps.length)) :: (.int (Int32.ofNat 0)) :: (.ref va) :: rest))) t := by
  obtain ⟨v, T', L, X', hQ, sq⟩ := own_cS (argsL := [(.ref va), (.int (Int32.ofNat 0)), (.int (Int32.ofNat ps.length))]) (rest := rest) (rmcr l Z a0 hw [] va ps js h0 n0 Z0 B1 Ys hcap) pd_24 rfl (wd_ hw 197 rfl) (wd_ hw 196 rfl) (wd_ hw 195 rfl) (by decide) hZ hx hown X lk eT hml hsz hd hr
  exact ⟨v, T', L, X', hQ, sq⟩
theorem ef_rmvs (m : MethodId) (st : Addr) (sb : Addr)  : entryFrame m #[(.ref st), (.ref sb), .null] 5 = mkF m 0 #[.val (.ref st), .val (.ref sb), .val .null, .unset, .unset] [] := by first | (simp [entryFrame, mkF, argsToLocals, Value.category]; done) | rfl
def Qvs (Z : State) (st : Addr) (sb : Addr) (cs : Int32) (fm : Value) (d1 d2 : Addr) (va : Addr) (ps js : List Nat) (h0 : Heap) (n0 : Nat) (v : Option Value) (h : Heap) (L : List Loc) : Prop := v = none ∧ Fr n0 L ∧ Keep h0 h [st] ∧ ∃ sa, h0.size ≤ sa ∧ Fld Z h st "java/lang/String" "value" "[B" (.ref sa) ∧ Fld Z h st "java/lang/String" "coder" "B" (.int 0) ∧ own_By Z h sa ps
theorem rmvs (l : Launch) (Z : State) (a0 : Array Value) (hw : ∀ d ∈ tables_1, d.before a0 Z = true) (ws : List Jvm.Cond) (st : Addr) (sb : Addr) (cs : Int32) (fm : Value) (d1 d2 : Addr) (va : Addr) (ps js : List Nat) (h0 : Heap) (n0 : Nat) (Z0 : n0 ≤ h0.size) (Wd : own_Wd Z cs fm d1 d2) (OZ : Old Z n0 h0) (E0 : Exa Z h0 st "java/lang/String") (V0 : Fld Z h0 st "java/lang/String" "value" "[B" .null) (C0 : Fld Z h0 st "java/lang/String" "coder" "B" (.int 0)) (g0 : n0 ≤ st) (Es : Exa Z h0 sb "java/lang/StringBuilder") (Vs : Fld Z h0 sb "java/lang/AbstractStringBuilder" "value" "[B" (.ref va)) (Ms : Fld Z h0 sb "java/lang/AbstractStringBuilder" "count" "I" (.int (Int32.ofNat ps.length))) (Cs : Fld Z h0 sb "java/lang/AbstractStringBuilder" "coder" "B" (.int 0)) (B1 : own_By Z h0 va (ps ++ js)) (Ys : Exa Z h0 va "[B") (gs : n0 ≤ sb) (g1 : n0 ≤ va) (hcap : (ps ++ js).length ≤ 202) :
    own_MF l (⟨"java/lang/String", "<init>", "(Ljava/lang/AbstractStringBuilder;Ljava/lang/Void;)V"⟩ : MethodName) jdk_42_method_150_code 5 none ws ({ frames := 3, cells := 1, slots := 202, locals := 84 } : Room) #[(.ref st), (.ref sb), .null] Z h0 (Qvs Z st sb cs fm d1 d2 va ps js h0 n0) := by
  refine MetFree.of_bodySF (plainFor_of_name pn_0) hisR ?_
  intro p e s m args below meth c s₁ Bd hml0 hP hK
  obtain ⟨rfl, hZ, hh⟩ := hP
  have hx := Bd.exec
  have hby := Bd.bytes
  have hlk : meth.locks = false := BodyLoose.notSynchronized Bd
  have hret := Bd.returns
  have hml : c.maxLocals = 5 := hml0
  have hown : s.vm.findClass "java/lang/String" = some m.cls := findClass_of_methodNamed Bd.named
  have hnm := (name_of_methodNamed Bd.named Bd.method).1
  have X0 : Stand p l e ({ frames := 3, cells := 1, slots := 202, locals := 84 } : Room) s m #[(.ref st), (.ref sb), .null] below meth c s₁ [] 0 0 := Stand.of_body Bd
  have e0 : s₁.heap = h0 := by rw [← hh, Bd.state]; rfl
  have N0 := Fr.nil n0
  show oE p e below s 1 202 (Qvs Z st sb cs fm d1 d2 va ps js h0 n0) (s₁.setTop (entryFrame m #[(.ref st), (.ref sb), .null] 5))
  refine oS (fun t k => castTop (ef_rmvs m st sb ) k) ?_
  show oE p e below s _ _ _ (s₁.setTop (mkF m 0 #[.val (.ref st), .val (.ref sb), .val .null, .unset, .unset] []))
  have ne2 : st ≠ va := B1.1.ne E0 (wd_ hw 29 rfl)
  have ne3 : sb ≠ va := B1.1.ne Es (wd_ hw 75 rfl)
  have ne4 : st ≠ sb := E0.ne Es (by decide)
  refine oS (fun _ k_ => XS.aloadN X0.here hx rfl (hb hby d27_0) rfl rfl k_) ?_
  obtain ⟨T96, X96, e96, st96⟩ := initO X0 hx hZ hown (wd_ hw 179 rfl) (wd_ hw 15 rfl) (wd_ hw 16 rfl) e0 (g := (mkF m 1 #[.val (.ref st), .val (.ref sb), .val .null, .unset, .unset] [(.ref st)])) rfl (by rw [hml]; rfl) rfl (hb hby d27_1) (by decide) (W := 0) (by show 2 * 0 + _ ≤ _; exact Nat.le_of_eq rfl) (by decide)
  refine oS (fun _ k_ => st96 _ k_) ?_
  refine oS (fun _ k_ => XS.aloadN X96.here hx rfl (hb hby d27_4) rfl rfl k_) ?_
  obtain ⟨T97, L97, X97, N97, e97, st97⟩ := cl_rmgv X96 hw hZ hx hown (wd_ hw 180 rfl) sb va Z0 Vs e96 Es N0 hml rfl (hb hby d27_5) (Ls := #[.val (.ref st), .val (.ref sb), .val .null, .unset, .unset]) (rest := []) rfl
  refine oS (fun _ k_ => st97 _ k_) ?_
  refine oS (fun _ k_ => XS.astoreN X97.here hx rfl (hb hby d27_8) rfl rfl (l' := #[.val (.ref st), .val (.ref sb), .val .null, .val (.ref va), .unset]) rfl (XS.aloadN X97.here hx rfl (hb hby d27_9) rfl rfl k_)) ?_
  obtain ⟨T98, L98, X98, N98, e98, st98⟩ := cl_rmlc X97 hw hZ hx hown (wd_ hw 185 rfl) sb (Int32.ofNat ps.length) Z0 Es Ms e97 Es N97 hml rfl (hb hby d27_10) (Ls := #[.val (.ref st), .val (.ref sb), .val .null, .val (.ref va), .unset]) (rest := []) rfl
  refine oS (fun _ k_ => st98 _ k_) ?_
  refine oS (fun _ k_ => XS.istore X98.here hx rfl (hb hby d27_13) rfl (l' := #[.val (.ref st), .val (.ref sb), .val .null, .val (.ref va), .val (.int (Int32.ofNat ps.length))]) rfl (XS.aloadN X98.here hx rfl (hb hby d27_15) rfl rfl k_)) ?_
  obtain ⟨T99, L99, X99, N99, e99, st99⟩ := cl_rmal X98 hw hZ hx hown (wd_ hw 193 rfl) sb cs fm d1 d2 Z0 Wd OZ Cs e98 Es N98 hml rfl (hb hby d27_16) (Ls := #[.val (.ref st), .val (.ref sb), .val .null, .val (.ref va), .val (.int (Int32.ofNat ps.length))]) (rest := []) rfl
  refine oS (fun _ k_ => st99 _ k_) ?_
  refine oS (fun _ k_ => XS.ifNo X99.here hx rfl (hb hby d27_19) rfl (XT.i0_eq_f (by decide : ¬ ((1 : Int32) = 0))) (XS.aloadN X99.here hx rfl (hb hby d27_22) rfl rfl (XS.iconst X99.here hx rfl (hb hby d27_23) k_))) ?_
  obtain ⟨T100, h100, X100, e100, W100, st100⟩ := putFN X99 hx hZ hown (wd_ hw 115 rfl) Via.refl e99 C0 E0 (Or.inr ⟨(wd_ hw 32 rfl), rfl, hnm⟩) (wd_ hw 29 rfl) (ty := .byte) (v' := (.int (0 : Int32))) (by decide) rfl rfl (g := (mkF m 24 #[.val (.ref st), .val (.ref sb), .val .null, .val (.ref va), .val (.int (Int32.ofNat ps.length))] [(.int (0 : Int32)), (.ref st)])) rfl rfl (hb hby d27_24)
  have E_st_100 := (E0).wr W100
  have F_st_value_100 := (V0).other W100 (Or.inr (slot_ne (Or.inr (wd_ hw 31 rfl)) (Or.inr (wd_ hw 32 rfl)) (by decide) (t := (.array .byte)) (t' := .byte) (by decide) (by decide)))
  have F_st_coder_100 := (C0).same W100
  have E_sb_100 := (Es).wr W100
  have F_sb_value_100 := (Vs).other W100 (Or.inl (Ne.symm ne4))
  have F_sb_count_100 := (Ms).other W100 (Or.inl (Ne.symm ne4))
  have F_sb_coder_100 := (Cs).other W100 (Or.inl (Ne.symm ne4))
  have B_va_100 := (B1).other W100 (Ne.symm ne2)
  have E_va_100 := (Ys).wr W100
  have K100 := ((Keep.refl h0 [st])).wr W100 (Or.inl (List.mem_of_getElem? (i := 0) rfl))
  have O100 := (OZ).wr W100 g0
  have Zs100 := Nat.le_trans Z0 (Nat.le_of_eq W100.size.symm)
  have N100 := Fr.snoc X100 N99 g0
  refine oS (fun _ k_ => st100 _ k_) ?_
  refine oS (fun _ k_ => XS.aloadN X100.here hx rfl (hb hby d27_27) rfl rfl (XS.aloadN X100.here hx rfl (hb hby d27_28) rfl rfl (XS.iconst X100.here hx rfl (hb hby d27_29) (XS.iload X100.here hx rfl (hb hby d27_30) rfl k_)))) ?_
  obtain ⟨v101, T101, L101, X101, hQ101, st101⟩ := cl_rmcr X100 hw hZ hx hown (wd_ hw 194 rfl) va ps js Zs100 B_va_100 E_va_100 hcap e100 hml rfl (hb hby d27_32) (Ls := #[.val (.ref st), .val (.ref sb), .val .null, .val (.ref va), .val (.int (Int32.ofNat ps.length))]) (rest := [(.ref st)]) rfl
  obtain ⟨N101q, K101k, ra, rfl, hra, B101r, E101r⟩ := hQ101
  have h0ra : h0.size ≤ ra := Nat.le_trans (K100).1 hra
  have ne_st_ra : st ≠ ra := B101r.1.ne (E_st_100.keep K101k) (wd_ hw 29 rfl)
  have E_st_101 := (E_st_100).keep K101k
  have F_st_value_101 := (F_st_value_100).keep K101k nin0
  have F_st_coder_101 := (F_st_coder_100).keep K101k nin0
  have E_sb_101 := (E_sb_100).keep K101k
  have F_sb_value_101 := (F_sb_value_100).keep K101k nin0
  have F_sb_count_101 := (F_sb_count_100).keep K101k nin0
  have F_sb_coder_101 := (F_sb_coder_100).keep K101k nin0
  have B_va_101 := (B_va_100).keep K101k nin0
  have E_va_101 := (E_va_100).keep K101k
  have K101 := (K100).trans K101k all0
  have O101 := (O100).keep K101k all0
  have Zs101 := Nat.le_trans Zs100 K101k.1
  have N101 := Fr.app N100 N101q
  refine oS (fun _ k_ => st101 _ k_) ?_
  show oE p e below s _ _ _ (T101.setTop (mkF m 35 #[.val (.ref st), .val (.ref sb), .val .null, .val (.ref va), .val (.int (Int32.ofNat ps.length))] [(.ref ra), (.ref st)]))
  obtain ⟨T102, h102, X102, e102, W102, st102⟩ := putF X101 hx hZ hown (host := "") (Or.inl (wd_ hw 108 rfl)) Via.refl rfl F_st_value_101 E_st_101 (Or.inr ⟨(wd_ hw 31 rfl), rfl, hnm⟩) (wd_ hw 29 rfl) (ty := (.array .byte)) (by decide) rfl rfl (g := (mkF m 35 #[.val (.ref st), .val (.ref sb), .val .null, .val (.ref va), .val (.int (Int32.ofNat ps.length))] [(.ref ra), (.ref st)])) rfl rfl (hb hby d27_35)
  have E_st_102 := (E_st_101).wr W102
  have F_st_value_102 := (F_st_value_101).same W102
  have F_st_coder_102 := (F_st_coder_101).other W102 (Or.inr (slot_ne (Or.inr (wd_ hw 32 rfl)) (Or.inr (wd_ hw 31 rfl)) (by decide) (t := .byte) (t' := (.array .byte)) (by decide) (by decide)))
  have E_sb_102 := (E_sb_101).wr W102
  have F_sb_value_102 := (F_sb_value_101).other W102 (Or.inl (Ne.symm ne4))
  have F_sb_count_102 := (F_sb_count_101).other W102 (Or.inl (Ne.symm ne4))
  have F_sb_coder_102 := (F_sb_coder_101).other W102 (Or.inl (Ne.symm ne4))
  have B_va_102 := (B_va_101).other W102 (Ne.symm ne2)
  have E_va_102 := (E_va_101).wr W102
  have B_ra_102 := (B101r).other W102 (Ne.symm ne_st_ra)
  have K102 := (K101).wr W102 (Or.inl (List.mem_of_getElem? (i := 0) rfl))
  have O102 := (O101).wr W102 g0
  have Zs102 := Nat.le_trans Zs101 (Nat.le_of_eq W102.size.symm)
  have N102 := Fr.snoc X102 N101 g0
  refine oS (fun _ k_ => st102 _ k_) ?_
  refine oS (fun _ k_ => XS.goto X102.here hx rfl (pc0 := 38) (pc' := 97) rfl (hb hby d27_38) (by decide) (by decide) k_) ?_
  exact own_retV X102 hx hret hlk (hb hby d27_97) (by decide) (by decide) (by rw [e102]; exact ⟨rfl, N102, K102, _, h0ra, F_st_value_102, F_st_coder_102, B_ra_102⟩)
def b_26 := jdk_42_method_53_code
theorem d26_0 : decode b_26 0 = .ok (.aload_n 0, 1) := by decide +kernel
theorem d26_1 : decode b_26 1 = .ok (.aload_n 1, 1) := by decide +kernel
theorem d26_2 : decode b_26 2 = .ok (.aconst_null, 1) := by decide +kernel
theorem d26_3 : decode b_26 3 = .ok (.invokespecial 489, 3) := by decide +kernel
theorem d26_6 : decode b_26 6 = .ok (.return_, 1) := by decide +kernel
theorem pd_25 : parseMethodDescriptor "(Ljava/lang/AbstractStringBuilder;Ljava/lang/Void;)V" = some ⟨[(.object "java/lang/AbstractStringBuilder"), (.object "java/lang/Void")], none⟩ := by decide +kernel
theorem cl_rmvs (X : Stand p l e R s m args below meth c T locs cells slots) (hw : ∀ d ∈ tables_1, d.before a0 Z = true) (hZ : Z.Warmed39 s.vm) (hx : p.tables.exec = Jvm.exec) (hown : s.vm.findClass own = some m.cls) (lk : (Cond.methodLink own index (⟨"java/lang/String", "<init>", "(Ljava/lang/AbstractStringBuilder;Ljava/lang/Void;)V"⟩ : MethodName)).before a0 Z = true) (st : Addr) (sb : Addr) (cs : Int32) (fm : Value) (d1 d2 : Addr) (va : Addr) (ps js : List Nat) (Z0 : n0 ≤ h0.size) (Wd : own_Wd Z cs fm d1 d2) (OZ : Old Z n0 h0) (E0 : Exa Z h0 st "java/lang/String") (V0 : Fld Z h0 st "java/lang/String" "value" "[B" .null) (C0 : Fld Z h0 st "java/lang/String" "coder" "B" (.int 0)) (g0 : n0 ≤ st) (Es : Exa Z h0 sb "java/lang/StringBuilder") (Vs : Fld Z h0 sb "java/lang/AbstractStringBuilder" "value" "[B" (.ref va)) (Ms : Fld Z h0 sb "java/lang/AbstractStringBuilder" "count" "I" (.int (Int32.ofNat ps.length))) (Cs : Fld Z h0 sb "java/lang/AbstractStringBuilder" "coder" "B" (.int 0)) (B1 : own_By Z h0 va (ps ++ js)) (Ys : Exa Z h0 va "[B") (gs : n0 ≤ sb) (g1 : n0 ≤ va) (hcap : (ps ++ js).length ≤ 202) (eT : T.heap = h0) (hml : c.maxLocals = kml) (hsz : Ls.size = kml) (hd : decode c.code pc = .ok (.invokespecial index, 3)) (hr : own_rm ({ frames := 3, cells := 1, slots := 202, locals := 84 } : Room) 5 R rest cells slots = true) :
    ∃ v T' L, Stand p l e R s m args below meth c T' (locs ++ L) (cells + 1) (slots + 202) ∧ Qvs Z st sb cs fm d1 d2 va ps js h0 n0 v T'.heap L ∧ ∀ t, Steps p.tables e below (T'.setTop (mkF m (pc + 3) Ls (v.toList ++ rest))) t → Steps p.tables e below (T.setTop (mkF m pc Ls (.null :: (.ref sb) :: (.ref st) :: rest))) t := by
  obtain ⟨v, T', L, X', hQ, sq⟩ := own_cI (argsL := [(.ref sb), .null]) (rest := rest) (rmvs l Z a0 hw [] st sb cs fm d1 d2 va ps js h0 n0 Z0 Wd OZ E0 V0 C0 g0 Es Vs Ms Cs B1 Ys gs g1 hcap) pd_25 rfl (wd_ hw 178 rfl) (wd_ hw 28 rfl) (wd_ hw 177 rfl) rfl (by decide) hZ hx hown X lk eT hml hsz hd hr
  exact ⟨v, T', L, X', hQ, sq⟩
theorem ef_rmss (m : MethodId) (st : Addr) (sb : Addr)  : entryFrame m #[(.ref st), (.ref sb)] 2 = mkF m 0 #[.val (.ref st), .val (.ref sb)] [] := by first | (simp [entryFrame, mkF, argsToLocals, Value.category]; done) | rfl
def Qss (Z : State) (st : Addr) (sb : Addr) (cs : Int32) (fm : Value) (d1 d2 : Addr) (va : Addr) (ps js : List Nat) (h0 : Heap) (n0 : Nat) (v : Option Value) (h : Heap) (L : List Loc) : Prop := v = none ∧ Fr n0 L ∧ Keep h0 h [st] ∧ ∃ sa, h0.size ≤ sa ∧ Fld Z h st "java/lang/String" "value" "[B" (.ref sa) ∧ Fld Z h st "java/lang/String" "coder" "B" (.int 0) ∧ own_By Z h sa ps
theorem rmss (l : Launch) (Z : State) (a0 : Array Value) (hw : ∀ d ∈ tables_1, d.before a0 Z = true) (ws : List Jvm.Cond) (st : Addr) (sb : Addr) (cs : Int32) (fm : Value) (d1 d2 : Addr) (va : Addr) (ps js : List Nat) (h0 : Heap) (n0 : Nat) (Z0 : n0 ≤ h0.size) (Wd : own_Wd Z cs fm d1 d2) (OZ : Old Z n0 h0) (E0 : Exa Z h0 st "java/lang/String") (V0 : Fld Z h0 st "java/lang/String" "value" "[B" .null) (C0 : Fld Z h0 st "java/lang/String" "coder" "B" (.int 0)) (g0 : n0 ≤ st) (Es : Exa Z h0 sb "java/lang/StringBuilder") (Vs : Fld Z h0 sb "java/lang/AbstractStringBuilder" "value" "[B" (.ref va)) (Ms : Fld Z h0 sb "java/lang/AbstractStringBuilder" "count" "I" (.int (Int32.ofNat ps.length))) (Cs : Fld Z h0 sb "java/lang/AbstractStringBuilder" "coder" "B" (.int 0)) (B1 : own_By Z h0 va (ps ++ js)) (Ys : Exa Z h0 va "[B") (gs : n0 ≤ sb) (g1 : n0 ≤ va) (hcap : (ps ++ js).length ≤ 202) :
    own_MF l (⟨"java/lang/String", "<init>", "(Ljava/lang/StringBuilder;)V"⟩ : MethodName) jdk_42_method_53_code 2 none ws ({ frames := 4, cells := 1, slots := 202, locals := 100 } : Room) #[(.ref st), (.ref sb)] Z h0 (Qss Z st sb cs fm d1 d2 va ps js h0 n0) := by
  refine MetFree.of_bodySF (plainFor_of_name pn_0) hisR ?_
  intro p e s m args below meth c s₁ Bd hml0 hP hK
  obtain ⟨rfl, hZ, hh⟩ := hP
  have hx := Bd.exec
  have hby := Bd.bytes
  have hlk : meth.locks = false := BodyLoose.notSynchronized Bd
  have hret := Bd.returns
  have hml : c.maxLocals = 2 := hml0
  have hown : s.vm.findClass "java/lang/String" = some m.cls := findClass_of_methodNamed Bd.named
  have hnm := (name_of_methodNamed Bd.named Bd.method).1
  have X0 : Stand p l e ({ frames := 4, cells := 1, slots := 202, locals := 100 } : Room) s m #[(.ref st), (.ref sb)] below meth c s₁ [] 0 0 := Stand.of_body Bd
  have e0 : s₁.heap = h0 := by rw [← hh, Bd.state]; rfl
  have N0 := Fr.nil n0
  show oE p e below s 1 202 (Qss Z st sb cs fm d1 d2 va ps js h0 n0) (s₁.setTop (entryFrame m #[(.ref st), (.ref sb)] 2))
  refine oS (fun t k => castTop (ef_rmss m st sb ) k) ?_
  show oE p e below s _ _ _ (s₁.setTop (mkF m 0 #[.val (.ref st), .val (.ref sb)] []))
  refine oS (fun _ k_ => XS.aloadN X0.here hx rfl (hb hby d26_0) rfl rfl (XS.aloadN X0.here hx rfl (hb hby d26_1) rfl rfl (XS.aconstNull X0.here hx rfl (hb hby d26_2) k_))) ?_
  obtain ⟨v103, T103, L103, X103, hQ103, st103⟩ := cl_rmvs X0 hw hZ hx hown (wd_ hw 176 rfl) st sb cs fm d1 d2 va ps js Z0 Wd OZ E0 V0 C0 g0 Es Vs Ms Cs B1 Ys gs g1 hcap e0 hml rfl (hb hby d26_3) (Ls := #[.val (.ref st), .val (.ref sb)]) (rest := []) rfl
  obtain ⟨rfl, N103q, K103k, R103k⟩ := hQ103
  have N103 := Fr.app N0 N103q
  refine oS (fun _ k_ => st103 _ k_) ?_
  show oE p e below s _ _ _ (T103.setTop (mkF m 6 #[.val (.ref st), .val (.ref sb)] []))
  exact own_retV X103 hx hret hlk (hb hby d26_6) (by decide) (by decide) ⟨rfl, N103, K103k, R103k⟩
def b_25 := jdk_67_method_42_code
theorem d25_0 : decode b_25 0 = .ok (.new 18, 3) := by decide +kernel
theorem d25_3 : decode b_25 3 = .ok (.dup, 1) := by decide +kernel
theorem d25_4 : decode b_25 4 = .ok (.aload_n 0, 1) := by decide +kernel
theorem d25_5 : decode b_25 5 = .ok (.invokespecial 137, 3) := by decide +kernel
theorem d25_8 : decode b_25 8 = .ok (.areturn, 1) := by decide +kernel
theorem pd_26 : parseMethodDescriptor "(Ljava/lang/StringBuilder;)V" = some ⟨[(.object "java/lang/StringBuilder")], none⟩ := by decide +kernel
theorem cl_rmss (X : Stand p l e R s m args below meth c T locs cells slots) (hw : ∀ d ∈ tables_1, d.before a0 Z = true) (hZ : Z.Warmed39 s.vm) (hx : p.tables.exec = Jvm.exec) (hown : s.vm.findClass own = some m.cls) (lk : (Cond.methodLink own index (⟨"java/lang/String", "<init>", "(Ljava/lang/StringBuilder;)V"⟩ : MethodName)).before a0 Z = true) (st : Addr) (sb : Addr) (cs : Int32) (fm : Value) (d1 d2 : Addr) (va : Addr) (ps js : List Nat) (Z0 : n0 ≤ h0.size) (Wd : own_Wd Z cs fm d1 d2) (OZ : Old Z n0 h0) (E0 : Exa Z h0 st "java/lang/String") (V0 : Fld Z h0 st "java/lang/String" "value" "[B" .null) (C0 : Fld Z h0 st "java/lang/String" "coder" "B" (.int 0)) (g0 : n0 ≤ st) (Es : Exa Z h0 sb "java/lang/StringBuilder") (Vs : Fld Z h0 sb "java/lang/AbstractStringBuilder" "value" "[B" (.ref va)) (Ms : Fld Z h0 sb "java/lang/AbstractStringBuilder" "count" "I" (.int (Int32.ofNat ps.length))) (Cs : Fld Z h0 sb "java/lang/AbstractStringBuilder" "coder" "B" (.int 0)) (B1 : own_By Z h0 va (ps ++ js)) (Ys : Exa Z h0 va "[B") (gs : n0 ≤ sb) (g1 : n0 ≤ va) (hcap : (ps ++ js).length ≤ 202) (eT : T.heap = h0) (hml : c.maxLocals = kml) (hsz : Ls.size = kml) (hd : decode c.code pc = .ok (.invokespecial index, 3)) (hr : own_rm ({ frames := 4, cells := 1, slots := 202, locals := 100 } : Room) 2 R rest cells slots = true) :
    ∃ v T' L, Stand p l e R s m args below meth c T' (locs ++ L) (cells + 1) (slots + 202) ∧ Qss Z st sb cs fm d1 d2 va ps js h0 n0 v T'.heap L ∧ ∀ t, Steps p.tables e below (T'.setTop (mkF m (pc + 3) Ls (v.toList ++ rest))) t → Steps p.tables e below (T.setTop (mkF m pc Ls ((.ref sb) :: (.ref st) :: rest))) t := by
  obtain ⟨v, T', L, X', hQ, sq⟩ := own_cI (argsL := [(.ref sb)]) (rest := rest) (rmss l Z a0 hw [] st sb cs fm d1 d2 va ps js h0 n0 Z0 Wd OZ E0 V0 C0 g0 Es Vs Ms Cs B1 Ys gs g1 hcap) pd_26 rfl (wd_ hw 175 rfl) (wd_ hw 28 rfl) (wd_ hw 173 rfl) rfl (by decide) hZ hx hown X lk eT hml hsz hd hr
  exact ⟨v, T', L, X', hQ, sq⟩
theorem ef_rmts (m : MethodId) (sb : Addr)  : entryFrame m #[(.ref sb)] 1 = mkF m 0 #[.val (.ref sb)] [] := by first | (simp [entryFrame, mkF, argsToLocals, Value.category]; done) | rfl
def Qts (Z : State) (sb : Addr) (cs : Int32) (fm : Value) (d1 d2 : Addr) (va : Addr) (ps js : List Nat) (h0 : Heap) (n0 : Nat) (v : Option Value) (h : Heap) (L : List Loc) : Prop := Fr n0 L ∧ Keep h0 h [] ∧ ∃ st sa, v = some (.ref st) ∧ h0.size ≤ st ∧ h0.size ≤ sa ∧ Exa Z h st "java/lang/String" ∧ Fld Z h st "java/lang/String" "value" "[B" (.ref sa) ∧ Fld Z h st "java/lang/String" "coder" "B" (.int 0) ∧ own_By Z h sa ps
theorem rmts (l : Launch) (Z : State) (a0 : Array Value) (hw : ∀ d ∈ tables_1, d.before a0 Z = true) (ws : List Jvm.Cond) (sb : Addr) (cs : Int32) (fm : Value) (d1 d2 : Addr) (va : Addr) (ps js : List Nat) (h0 : Heap) (n0 : Nat) (Z0 : n0 ≤ h0.size) (Wd : own_Wd Z cs fm d1 d2) (OZ : Old Z n0 h0) (Es : Exa Z h0 sb "java/lang/StringBuilder") (Vs : Fld Z h0 sb "java/lang/AbstractStringBuilder" "value" "[B" (.ref va)) (Ms : Fld Z h0 sb "java/lang/AbstractStringBuilder" "count" "I" (.int (Int32.ofNat ps.length))) (Cs : Fld Z h0 sb "java/lang/AbstractStringBuilder" "coder" "B" (.int 0)) (B1 : own_By Z h0 va (ps ++ js)) (Ys : Exa Z h0 va "[B") (gs : n0 ≤ sb) (g1 : n0 ≤ va) (hcap : (ps ++ js).length ≤ 202) :
    own_MF l (⟨"java/lang/StringBuilder", "toString", "()Ljava/lang/String;"⟩ : MethodName) jdk_67_method_42_code 1 (some (.object "java/lang/String")) ws ({ frames := 5, cells := 2, slots := 206, locals := 114 } : Room) #[(.ref sb)] Z h0 (Qts Z sb cs fm d1 d2 va ps js h0 n0) := by
  refine MetFree.of_bodySF (plainFor_of_name pn_6) hisR ?_
  intro p e s m args below meth c s₁ Bd hml0 hP hK
  obtain ⟨rfl, hZ, hh⟩ := hP
  have hx := Bd.exec
  have hby := Bd.bytes
  have hlk : meth.locks = false := BodyLoose.notSynchronized Bd
  have hret := Bd.returns
  have hml : c.maxLocals = 1 := hml0
  have hown : s.vm.findClass "java/lang/StringBuilder" = some m.cls := findClass_of_methodNamed Bd.named
  have hnm := (name_of_methodNamed Bd.named Bd.method).1
  have X0 : Stand p l e ({ frames := 5, cells := 2, slots := 206, locals := 114 } : Room) s m #[(.ref sb)] below meth c s₁ [] 0 0 := Stand.of_body Bd
  have e0 : s₁.heap = h0 := by rw [← hh, Bd.state]; rfl
  have N0 := Fr.nil n0
  show oE p e below s 2 206 (Qts Z sb cs fm d1 d2 va ps js h0 n0) (s₁.setTop (entryFrame m #[(.ref sb)] 1))
  refine oS (fun t k => castTop (ef_rmts m sb ) k) ?_
  show oE p e below s _ _ _ (s₁.setTop (mkF m 0 #[.val (.ref sb)] []))
  have ne3 : sb ≠ va := B1.1.ne Es (wd_ hw 75 rfl)
  obtain ⟨T104, h104, X104, e104, E104, A104, D104, -, st104⟩ := newO X0 hx hZ hown (wd_ hw 171 rfl) (wd_ hw 29 rfl) (wd_ hw 28 rfl) e0 (g := (mkF m 0 #[.val (.ref sb)] [])) rfl (hb hby d25_0) (by decide : 0 + 1 ≤ _) (by decide : 0 + 4 ≤ _)
  obtain ⟨b104, g104⟩ : ∃ z, z = h0.size := ⟨_, rfl⟩
  rw [← g104] at A104 D104 st104
  have ne_sb_b104 : sb ≠ b104 := Nat.ne_of_lt (Nat.lt_of_lt_of_le (Es).lt (Nat.le_of_eq g104.symm))
  have ne_va_b104 : va ≠ b104 := Nat.ne_of_lt (Nat.lt_of_lt_of_le (B1).lt (Nat.le_of_eq g104.symm))
  have n0_b104 : n0 ≤ b104 := Nat.le_trans Z0 (Nat.le_of_eq g104.symm)
  have h0_b104 : h0.size ≤ b104 := Nat.le_trans ((Keep.refl h0 [])).1 (Nat.le_of_eq g104.symm)
  have E_sb_104 := (Es).ext E104
  have F_sb_value_104 := (Vs).ext E104
  have F_sb_count_104 := (Ms).ext E104
  have F_sb_coder_104 := (Cs).ext E104
  have B_va_104 := (B1).ext E104
  have E_va_104 := (Ys).ext E104
  have K104 := ((Keep.refl h0 [])).ext E104
  have O104 := (OZ).ext E104
  have Zs104 := Nat.le_trans Z0 E104.1
  have F_value_b104 : Fld Z h104 b104 "java/lang/String" "value" "[B" .null := D104 (Or.inr (wd_ hw 31 rfl)) (ty := (.array .byte)) (by decide)
  have F_coder_b104 : Fld Z h104 b104 "java/lang/String" "coder" "B" (.int (0 : Int32)) := D104 (Or.inr (wd_ hw 32 rfl)) (ty := .byte) (by decide)
  refine oS (fun _ k_ => st104 _ k_) ?_
  refine oS (fun _ k_ => XS.dup X104.here hx rfl (hb hby d25_3) rfl rfl (XS.aloadN X104.here hx rfl (hb hby d25_4) rfl rfl k_)) ?_
  obtain ⟨v105, T105, L105, X105, hQ105, st105⟩ := cl_rmss X104 hw hZ hx hown (wd_ hw 172 rfl) b104 sb cs fm d1 d2 va ps js Zs104 Wd O104 A104 F_value_b104 F_coder_b104 n0_b104 E_sb_104 F_sb_value_104 F_sb_count_104 F_sb_coder_104 B_va_104 E_va_104 gs g1 hcap e104 hml rfl (hb hby d25_5) (Ls := #[.val (.ref sb)]) (rest := [(.ref b104)]) rfl
  obtain ⟨rfl, N105q, K105k, ra, hra, Vr, Cr, Br⟩ := hQ105
  have h0ra : h0.size ≤ ra := Nat.le_trans (K104).1 hra
  have E_sb_105 := (E_sb_104).keep K105k
  have F_sb_value_105 := (F_sb_value_104).keep K105k (ninS ne_sb_b104 nin0)
  have F_sb_count_105 := (F_sb_count_104).keep K105k (ninS ne_sb_b104 nin0)
  have F_sb_coder_105 := (F_sb_coder_104).keep K105k (ninS ne_sb_b104 nin0)
  have B_va_105 := (B_va_104).keep K105k (ninS ne_va_b104 nin0)
  have E_va_105 := (E_va_104).keep K105k
  have E_b104_105 := (A104).keep K105k
  have K105 := (K104).trans K105k (allS (Or.inr h0_b104) all0)
  have O105 := (O104).keep K105k (allS n0_b104 all0)
  have Zs105 := Nat.le_trans Zs104 K105k.1
  have N105 := Fr.app N0 N105q
  refine oS (fun _ k_ => st105 _ k_) ?_
  show oE p e below s _ _ _ (T105.setTop (mkF m 8 #[.val (.ref sb)] [(.ref b104)]))
  exact own_retR X105 hx hret rfl rfl rfl hlk (hb hby d25_8) (by decide) (by decide) (by exact ⟨N105, K105, _, _, rfl, h0_b104, h0ra, E_b104_105, Vr, Cr, Br⟩)
def b_38 := jdk_29_method_61_code
theorem d38_0 : decode b_38 0 = .ok (.lload_n 0, 1) := by decide +kernel
theorem d38_1 : decode b_38 1 = .ok (.lconst 0, 1) := by decide +kernel
theorem d38_2 : decode b_38 2 = .ok (.lcmp, 1) := by decide +kernel
theorem d38_3 : decode b_38 3 = .ok (.ifCond .ge 8, 3) := by decide +kernel
theorem d38_6 : decode b_38 6 = .ok (.lload_n 0, 1) := by decide +kernel
theorem d38_7 : decode b_38 7 = .ok (.lneg, 1) := by decide +kernel
theorem d38_8 : decode b_38 8 = .ok (.goto 4, 3) := by decide +kernel
theorem d38_11 : decode b_38 11 = .ok (.lload_n 0, 1) := by decide +kernel
theorem d38_12 : decode b_38 12 = .ok (.lreturn, 1) := by decide +kernel
theorem pd_27 : parseMethodDescriptor "()Ljava/lang/String;" = some ⟨[], some (.object "java/lang/String")⟩ := by decide +kernel
theorem cl_rmts (X : Stand p l e R s m args below meth c T locs cells slots) (hw : ∀ d ∈ tables_1, d.before a0 Z = true) (hZ : Z.Warmed39 s.vm) (hx : p.tables.exec = Jvm.exec) (hown : s.vm.findClass own = some m.cls) (lk : (Cond.methodLink own index (⟨"java/lang/StringBuilder", "toString", "()Ljava/lang/String;"⟩ : MethodName)).before a0 Z = true) (sb : Addr) (cs : Int32) (fm : Value) (d1 d2 : Addr) (va : Addr) (ps js : List Nat) (Z0 : n0 ≤ h0.size) (Wd : own_Wd Z cs fm d1 d2) (OZ : Old Z n0 h0) (Es : Exa Z h0 sb "java/lang/StringBuilder") (Vs : Fld Z h0 sb "java/lang/AbstractStringBuilder" "value" "[B" (.ref va)) (Ms : Fld Z h0 sb "java/lang/AbstractStringBuilder" "count" "I" (.int (Int32.ofNat ps.length))) (Cs : Fld Z h0 sb "java/lang/AbstractStringBuilder" "coder" "B" (.int 0)) (B1 : own_By Z h0 va (ps ++ js)) (Ys : Exa Z h0 va "[B") (gs : n0 ≤ sb) (g1 : n0 ≤ va) (hcap : (ps ++ js).length ≤ 202) (eT : T.heap = h0) (E_ : Exa Z h0 sb "java/lang/StringBuilder") (hml : c.maxLocals = kml) (hsz : Ls.size = kml) (hd : decode c.code pc = .ok (.invokevirtual index, 3)) (hr : own_rm ({ frames := 5, cells := 2, slots := 206, locals := 114 } : Room) 1 R rest cells slots = true) :
    ∃ v T' L, Stand p l e R s m args below meth c T' (locs ++ L) (cells + 2) (slots + 206) ∧ Qts Z sb cs fm d1 d2 va ps js h0 n0 v T'.heap L ∧ ∀ t, Steps p.tables e below (T'.setTop (mkF m (pc + 3) Ls (v.toList ++ rest))) t → Steps p.tables e below (T.setTop (mkF m pc Ls ((.ref sb) :: rest))) t := by
  obtain ⟨v, T', L, X', hQ, sq⟩ := own_cV (argsL := []) (rest := rest) (rmts l Z a0 hw [] sb cs fm d1 d2 va ps js h0 n0 Z0 Wd OZ Es Vs Ms Cs B1 Ys gs g1 hcap) pd_27 rfl (wd_ hw 170 rfl) (wd_ hw 76 rfl) (wd_ hw 168 rfl) (wd_ hw 167 rfl) (wd_ hw 169 rfl) rfl (wd_ hw 169 rfl) (by decide) hZ hx hown X lk eT E_ hml hsz hd hr
  exact ⟨v, T', L, X', hQ, sq⟩
theorem ef_rmab (m : MethodId) (x : Int32) : entryFrame m #[(.long (x.toInt64))] 2 = mkF m 0 #[.val (.long (x.toInt64)), .second] [] := by first | (simp [entryFrame, mkF, argsToLocals, Value.category]; done) | rfl
def Qab (Z : State) (x : Int32) (h0 : Heap) (n0 : Nat) (v : Option Value) (h : Heap) (L : List Loc) : Prop := v = some (.long (Int64.ofNat x.toInt.natAbs)) ∧ Fr n0 L ∧ h = h0
theorem rmab (l : Launch) (Z : State) (a0 : Array Value) (hw : ∀ d ∈ tables_1, d.before a0 Z = true) (ws : List Jvm.Cond) (x : Int32) (h0 : Heap) (n0 : Nat) (Z0 : n0 ≤ h0.size)  :
    own_MF l (⟨"java/lang/Math", "abs", "(J)J"⟩ : MethodName) jdk_29_method_61_code 2 (some .long) ws ({ frames := 0, cells := 0, slots := 0, locals := 0 } : Room) #[(.long (x.toInt64))] Z h0 (Qab Z x h0 n0) := by
  refine MetFree.of_bodySF (Jvm.Free.JP.mathPlain rfl (by decide)) hisR ?_
  intro p e s m args below meth c s₁ Bd hml0 hP hK
  obtain ⟨rfl, hZ, hh⟩ := hP
  have hx := Bd.exec
  have hby := Bd.bytes
  have hlk : meth.locks = false := BodyLoose.notSynchronized Bd
  have hret := Bd.returns
  have hml : c.maxLocals = 2 := hml0
  have hown : s.vm.findClass "java/lang/Math" = some m.cls := findClass_of_methodNamed Bd.named
  have hnm := (name_of_methodNamed Bd.named Bd.method).1
  have X0 : Stand p l e ({ frames := 0, cells := 0, slots := 0, locals := 0 } : Room) s m #[(.long (x.toInt64))] below meth c s₁ [] 0 0 := Stand.of_body Bd
  have e0 : s₁.heap = h0 := by rw [← hh, Bd.state]; rfl
  have N0 := Fr.nil n0
  show oE p e below s 0 0 (Qab Z x h0 n0) (s₁.setTop (entryFrame m #[(.long (x.toInt64))] 2))
  refine oS (fun t k => castTop (ef_rmab m x) k) ?_
  show oE p e below s _ _ _ (s₁.setTop (mkF m 0 #[.val (.long (x.toInt64)), .second] []))
  refine oS (fun _ k_ => XS.lloadN X0.here hx rfl (hb hby d38_0) rfl (XS.lconst X0.here hx rfl (hb hby d38_1) (XT.lcmp X0.here hx rfl (hb hby d38_2) rfl k_))) ?_
  by_cases hc3 : (x.toInt64) < (0 : Int64)
  · refine oS (fun _ k_ => XS.ifNo X0.here hx rfl (hb hby d38_3) rfl (XT.ll_ge_f hc3) (XS.lloadN X0.here hx rfl (hb hby d38_6) rfl (XS.lneg X0.here hx rfl (hb hby d38_7) rfl (XS.goto X0.here hx rfl (pc0 := 8) (pc' := 12) rfl (hb hby d38_8) (by decide) (by decide) k_)))) ?_
    exact own_retJ X0 hx hret hlk (hb hby d38_12) (by decide) (by decide) ⟨congrArg (fun z => some (Value.long z)) (own_abN hc3), N0, e0⟩
  · refine oS (fun _ k_ => XS.ifYes X0.here hx rfl (pc0 := 3) (pc' := 11) rfl (hb hby d38_3) rfl (XT.ll_ge_t hc3) (by decide) (by decide) (XS.lloadN X0.here hx rfl (hb hby d38_11) rfl k_)) ?_
    exact own_retJ X0 hx hret hlk (hb hby d38_12) (by decide) (by decide) ⟨congrArg (fun z => some (Value.long z)) (own_abP hc3), N0, e0⟩
def b_39 := method_5_code
theorem d39_0 : decode b_39 0 = .ok (.lload_n 0, 1) := by decide +kernel
theorem d39_1 : decode b_39 1 = .ok (.ldc2_w 74, 3) := by decide +kernel
theorem d39_4 : decode b_39 4 = .ok (.lcmp, 1) := by decide +kernel
theorem d39_5 : decode b_39 5 = .ok (.ifCond .ge 5, 3) := by decide +kernel
theorem d39_8 : decode b_39 8 = .ok (.iconst 1, 1) := by decide +kernel
theorem d39_9 : decode b_39 9 = .ok (.ireturn, 1) := by decide +kernel
theorem d39_10 : decode b_39 10 = .ok (.lload_n 0, 1) := by decide +kernel
theorem d39_11 : decode b_39 11 = .ok (.ldc2_w 76, 3) := by decide +kernel
theorem d39_14 : decode b_39 14 = .ok (.lcmp, 1) := by decide +kernel
theorem d39_15 : decode b_39 15 = .ok (.ifCond .ge 5, 3) := by decide +kernel
theorem d39_18 : decode b_39 18 = .ok (.iconst 2, 1) := by decide +kernel
theorem d39_19 : decode b_39 19 = .ok (.ireturn, 1) := by decide +kernel
theorem d39_20 : decode b_39 20 = .ok (.lload_n 0, 1) := by decide +kernel
theorem d39_21 : decode b_39 21 = .ok (.ldc2_w 78, 3) := by decide +kernel
theorem d39_24 : decode b_39 24 = .ok (.lcmp, 1) := by decide +kernel
theorem d39_25 : decode b_39 25 = .ok (.ifCond .ge 5, 3) := by decide +kernel
theorem d39_28 : decode b_39 28 = .ok (.iconst 3, 1) := by decide +kernel
theorem d39_29 : decode b_39 29 = .ok (.ireturn, 1) := by decide +kernel
theorem d39_30 : decode b_39 30 = .ok (.lload_n 0, 1) := by decide +kernel
theorem d39_31 : decode b_39 31 = .ok (.ldc2_w 80, 3) := by decide +kernel
theorem d39_34 : decode b_39 34 = .ok (.lcmp, 1) := by decide +kernel
theorem d39_35 : decode b_39 35 = .ok (.ifCond .ge 5, 3) := by decide +kernel
theorem d39_38 : decode b_39 38 = .ok (.iconst 4, 1) := by decide +kernel
theorem d39_39 : decode b_39 39 = .ok (.ireturn, 1) := by decide +kernel
theorem d39_40 : decode b_39 40 = .ok (.lload_n 0, 1) := by decide +kernel
theorem d39_41 : decode b_39 41 = .ok (.ldc2_w 82, 3) := by decide +kernel
theorem d39_44 : decode b_39 44 = .ok (.lcmp, 1) := by decide +kernel
theorem d39_45 : decode b_39 45 = .ok (.ifCond .ge 5, 3) := by decide +kernel
theorem d39_48 : decode b_39 48 = .ok (.iconst 5, 1) := by decide +kernel
theorem d39_49 : decode b_39 49 = .ok (.ireturn, 1) := by decide +kernel
theorem d39_50 : decode b_39 50 = .ok (.lload_n 0, 1) := by decide +kernel
theorem d39_51 : decode b_39 51 = .ok (.ldc2_w 84, 3) := by decide +kernel
theorem d39_54 : decode b_39 54 = .ok (.lcmp, 1) := by decide +kernel
theorem d39_55 : decode b_39 55 = .ok (.ifCond .ge 6, 3) := by decide +kernel
theorem d39_58 : decode b_39 58 = .ok (.bipush 6, 2) := by decide +kernel
theorem d39_60 : decode b_39 60 = .ok (.ireturn, 1) := by decide +kernel
theorem d39_61 : decode b_39 61 = .ok (.lload_n 0, 1) := by decide +kernel
theorem d39_62 : decode b_39 62 = .ok (.ldc2_w 86, 3) := by decide +kernel
theorem d39_65 : decode b_39 65 = .ok (.lcmp, 1) := by decide +kernel
theorem d39_66 : decode b_39 66 = .ok (.ifCond .ge 6, 3) := by decide +kernel
theorem d39_69 : decode b_39 69 = .ok (.bipush 7, 2) := by decide +kernel
theorem d39_71 : decode b_39 71 = .ok (.ireturn, 1) := by decide +kernel
theorem d39_72 : decode b_39 72 = .ok (.lload_n 0, 1) := by decide +kernel
theorem d39_73 : decode b_39 73 = .ok (.ldc2_w 88, 3) := by decide +kernel
theorem d39_76 : decode b_39 76 = .ok (.lcmp, 1) := by decide +kernel
theorem d39_77 : decode b_39 77 = .ok (.ifCond .ge 6, 3) := by decide +kernel
theorem d39_80 : decode b_39 80 = .ok (.bipush 8, 2) := by decide +kernel
theorem d39_82 : decode b_39 82 = .ok (.ireturn, 1) := by decide +kernel
theorem d39_83 : decode b_39 83 = .ok (.lload_n 0, 1) := by decide +kernel
theorem d39_84 : decode b_39 84 = .ok (.ldc2_w 90, 3) := by decide +kernel
theorem d39_87 : decode b_39 87 = .ok (.lcmp, 1) := by decide +kernel
theorem d39_88 : decode b_39 88 = .ok (.ifCond .ge 6, 3) := by decide +kernel
theorem d39_91 : decode b_39 91 = .ok (.bipush 9, 2) := by decide +kernel
theorem d39_93 : decode b_39 93 = .ok (.ireturn, 1) := by decide +kernel
theorem d39_94 : decode b_39 94 = .ok (.bipush 10, 2) := by decide +kernel
theorem d39_96 : decode b_39 96 = .ok (.ireturn, 1) := by decide +kernel
theorem pn_8 : plainName "com/example/nalog/nalog/OrderCountAddPinLaw" = true := by first | (simp [plainName, overriddenIn]; done) | decide +kernel
theorem pd_28 : parseMethodDescriptor "(J)J" = some ⟨[.long], some .long⟩ := by decide +kernel
theorem cl_rmab (X : Stand p l e R s m args below meth c T locs cells slots) (hw : ∀ d ∈ tables_1, d.before a0 Z = true) (hZ : Z.Warmed39 s.vm) (hx : p.tables.exec = Jvm.exec) (hown : s.vm.findClass own = some m.cls) (lk : (Cond.methodLink own index (⟨"java/lang/Math", "abs", "(J)J"⟩ : MethodName)).before a0 Z = true) (x : Int32) (Z0 : n0 ≤ h0.size) (eT : T.heap = h0) (N : Fr n0 locs) (hml : c.maxLocals = kml) (hsz : Ls.size = kml) (hd : decode c.code pc = .ok (.invokestatic index, 3)) (hr : own_rm ({ frames := 0, cells := 0, slots := 0, locals := 0 } : Room) 2 R rest cells slots = true) :
    ∃ T' L', Stand p l e R s m args below meth c T' L' (cells + 0) (slots + 0) ∧ Fr n0 L' ∧ T'.heap = h0 ∧ ∀ t, Steps p.tables e below (T'.setTop (mkF m (pc + 3) Ls ((.long (Int64.ofNat x.toInt.natAbs)) :: rest))) t → Steps p.tables e below (T.setTop (mkF m pc Ls ((.long (x.toInt64)) :: rest))) t := by
  obtain ⟨v, T', L, X', hQ, sq⟩ := own_cS (argsL := [(.long (x.toInt64))]) (rest := rest) (rmab l Z a0 hw [] x h0 n0 Z0 ) pd_28 rfl (wd_ hw 221 rfl) (wd_ hw 206 rfl) (wd_ hw 220 rfl) (by decide) hZ hx hown X lk eT hml hsz hd hr
  obtain ⟨rfl, Nq, eq_⟩ := hQ
  exact ⟨T', _, X', Fr.app N Nq, eq_, sq⟩
theorem ef_rmdg (m : MethodId) (mm : Nat) : entryFrame m #[(.long (Int64.ofNat mm))] 2 = mkF m 0 #[.val (.long (Int64.ofNat mm)), .second] [] := by first | (simp [entryFrame, mkF, argsToLocals, Value.category]; done) | rfl
def Qdg (Z : State) (mm : Nat) (h0 : Heap) (n0 : Nat) (v : Option Value) (h : Heap) (L : List Loc) : Prop := v = some (.int (Int32.ofNat (own_digs mm).length)) ∧ Fr n0 L ∧ h = h0
theorem rmdg (l : Launch) (Z : State) (a0 : Array Value) (hw : ∀ d ∈ tables_1, d.before a0 Z = true) (ws : List Jvm.Cond) (mm : Nat) (h0 : Heap) (n0 : Nat) (Z0 : n0 ≤ h0.size) (hmm : mm ≤ 2147483648) :
    own_MF l (⟨"com/example/nalog/nalog/OrderCountAddPinLaw", "digits", "(J)I"⟩ : MethodName) method_5_code 2 (some .int) ws ({ frames := 0, cells := 0, slots := 0, locals := 0 } : Room) #[(.long (Int64.ofNat mm))] Z h0 (Qdg Z mm h0 n0) := by
  refine MetFree.of_bodySF (plainFor_of_name pn_8) hisR ?_
  intro p e s m args below meth c s₁ Bd hml0 hP hK
  obtain ⟨rfl, hZ, hh⟩ := hP
  have hx := Bd.exec
  have hby := Bd.bytes
  have hlk : meth.locks = false := BodyLoose.notSynchronized Bd
  have hret := Bd.returns
  have hml : c.maxLocals = 2 := hml0
  have hown : s.vm.findClass "com/example/nalog/nalog/OrderCountAddPinLaw" = some m.cls := findClass_of_methodNamed Bd.named
  have hnm := (name_of_methodNamed Bd.named Bd.method).1
  have X0 : Stand p l e ({ frames := 0, cells := 0, slots := 0, locals := 0 } : Room) s m #[(.long (Int64.ofNat mm))] below meth c s₁ [] 0 0 := Stand.of_body Bd
  have e0 : s₁.heap = h0 := by rw [← hh, Bd.state]; rfl
  have N0 := Fr.nil n0
  show oE p e below s 0 0 (Qdg Z mm h0 n0) (s₁.setTop (entryFrame m #[(.long (Int64.ofNat mm))] 2))
  refine oS (fun t k => castTop (ef_rmdg m mm) k) ?_
  show oE p e below s _ _ _ (s₁.setTop (mkF m 0 #[.val (.long (Int64.ofNat mm)), .second] []))
  refine oS (fun _ k_ => XS.lloadN X0.here hx rfl (hb hby d39_0) rfl (X0.ldc2J hx hown (mvT hZ (wd_ hw 225 rfl)) rfl (hb hby d39_1) (XT.lcmp X0.here hx rfl (hb hby d39_4) rfl k_))) ?_
  by_cases hc5 : (Int64.ofNat mm) < (10 : Int64)
  · refine oS (fun _ k_ => XS.ifNo X0.here hx rfl (hb hby d39_5) rfl (XT.ll_ge_f hc5) (XS.iconst X0.here hx rfl (hb hby d39_8) k_)) ?_
    have qhc5 : mm < 10 := (own_ltL (b := 10) (by omega) (by omega)).mp hc5
    have ql : (own_digs mm).length = 1 := own_digs_len1 (by omega)
    exact own_retI X0 hx hret hlk (hb hby d39_9) (by decide) (by decide) ⟨congrArg (fun z => some (Value.int (Int32.ofNat z))) ql.symm, N0, e0⟩
  · refine oS (fun _ k_ => XS.ifYes X0.here hx rfl (pc0 := 5) (pc' := 10) rfl (hb hby d39_5) rfl (XT.ll_ge_t hc5) (by decide) (by decide) (XS.lloadN X0.here hx rfl (hb hby d39_10) rfl (X0.ldc2J hx hown (mvT hZ (wd_ hw 305 rfl)) rfl (hb hby d39_11) (XT.lcmp X0.here hx rfl (hb hby d39_14) rfl k_)))) ?_
    by_cases hc15 : (Int64.ofNat mm) < (100 : Int64)
    · refine oS (fun _ k_ => XS.ifNo X0.here hx rfl (hb hby d39_15) rfl (XT.ll_ge_f hc15) (XS.iconst X0.here hx rfl (hb hby d39_18) k_)) ?_
      have qhc5 : ¬ mm < 10 := fun z => hc5 ((own_ltL (b := 10) (by omega) (by omega)).mpr z)
      have qhc15 : mm < 100 := (own_ltL (b := 100) (by omega) (by omega)).mp hc15
      have ql : (own_digs mm).length = 2 := own_digs_len (k := 0) (by omega) (by omega)
      exact own_retI X0 hx hret hlk (hb hby d39_19) (by decide) (by decide) ⟨congrArg (fun z => some (Value.int (Int32.ofNat z))) ql.symm, N0, e0⟩
    · refine oS (fun _ k_ => XS.ifYes X0.here hx rfl (pc0 := 15) (pc' := 20) rfl (hb hby d39_15) rfl (XT.ll_ge_t hc15) (by decide) (by decide) (XS.lloadN X0.here hx rfl (hb hby d39_20) rfl (X0.ldc2J hx hown (mvT hZ (wd_ hw 308 rfl)) rfl (hb hby d39_21) (XT.lcmp X0.here hx rfl (hb hby d39_24) rfl k_)))) ?_
      by_cases hc25 : (Int64.ofNat mm) < (1000 : Int64)
      · refine oS (fun _ k_ => XS.ifNo X0.here hx rfl (hb hby d39_25) rfl (XT.ll_ge_f hc25) (XS.iconst X0.here hx rfl (hb hby d39_28) k_)) ?_
        have qhc5 : ¬ mm < 10 := fun z => hc5 ((own_ltL (b := 10) (by omega) (by omega)).mpr z)
        have qhc15 : ¬ mm < 100 := fun z => hc15 ((own_ltL (b := 100) (by omega) (by omega)).mpr z)
        have qhc25 : mm < 1000 := (own_ltL (b := 1000) (by omega) (by omega)).mp hc25
        have ql : (own_digs mm).length = 3 := own_digs_len (k := 1) (by omega) (by omega)
        exact own_retI X0 hx hret hlk (hb hby d39_29) (by decide) (by decide) ⟨congrArg (fun z => some (Value.int (Int32.ofNat z))) ql.symm, N0, e0⟩
      · refine oS (fun _ k_ => XS.ifYes X0.here hx rfl (pc0 := 25) (pc' := 30) rfl (hb hby d39_25) rfl (XT.ll_ge_t hc25) (by decide) (by decide) (XS.lloadN X0.here hx rfl (hb hby d39_30) rfl (X0.ldc2J hx hown (mvT hZ (wd_ hw 309 rfl)) rfl (hb hby d39_31) (XT.lcmp X0.here hx rfl (hb hby d39_34) rfl k_)))) ?_
        by_cases hc35 : (Int64.ofNat mm) < (10000 : Int64)
        · refine oS (fun _ k_ => XS.ifNo X0.here hx rfl (hb hby d39_35) rfl (XT.ll_ge_f hc35) (XS.iconst X0.here hx rfl (hb hby d39_38) k_)) ?_
          have qhc5 : ¬ mm < 10 := fun z => hc5 ((own_ltL (b := 10) (by omega) (by omega)).mpr z)
          have qhc15 : ¬ mm < 100 := fun z => hc15 ((own_ltL (b := 100) (by omega) (by omega)).mpr z)
          have qhc25 : ¬ mm < 1000 := fun z => hc25 ((own_ltL (b := 1000) (by omega) (by omega)).mpr z)
          have qhc35 : mm < 10000 := (own_ltL (b := 10000) (by omega) (by omega)).mp hc35
          have ql : (own_digs mm).length = 4 := own_digs_len (k := 2) (by omega) (by omega)
          exact own_retI X0 hx hret hlk (hb hby d39_39) (by decide) (by decide) ⟨congrArg (fun z => some (Value.int (Int32.ofNat z))) ql.symm, N0, e0⟩
        · refine oS (fun _ k_ => XS.ifYes X0.here hx rfl (pc0 := 35) (pc' := 40) rfl (hb hby d39_35) rfl (XT.ll_ge_t hc35) (by decide) (by decide) (XS.lloadN X0.here hx rfl (hb hby d39_40) rfl (X0.ldc2J hx hown (mvT hZ (wd_ hw 310 rfl)) rfl (hb hby d39_41) (XT.lcmp X0.here hx rfl (hb hby d39_44) rfl k_)))) ?_
          by_cases hc45 : (Int64.ofNat mm) < (100000 : Int64)
          · refine oS (fun _ k_ => XS.ifNo X0.here hx rfl (hb hby d39_45) rfl (XT.ll_ge_f hc45) (XS.iconst X0.here hx rfl (hb hby d39_48) k_)) ?_
            have qhc5 : ¬ mm < 10 := fun z => hc5 ((own_ltL (b := 10) (by omega) (by omega)).mpr z)
            have qhc15 : ¬ mm < 100 := fun z => hc15 ((own_ltL (b := 100) (by omega) (by omega)).mpr z)
            have qhc25 : ¬ mm < 1000 := fun z => hc25 ((own_ltL (b := 1000) (by omega) (by omega)).mpr z)
            have qhc35 : ¬ mm < 10000 := fun z => hc35 ((own_ltL (b := 10000) (by omega) (by omega)).mpr z)
            have qhc45 : mm < 100000 := (own_ltL (b := 100000) (by omega) (by omega)).mp hc45
            have ql : (own_digs mm).length = 5 := own_digs_len (k := 3) (by omega) (by omega)
            exact own_retI X0 hx hret hlk (hb hby d39_49) (by decide) (by decide) ⟨congrArg (fun z => some (Value.int (Int32.ofNat z))) ql.symm, N0, e0⟩
          · refine oS (fun _ k_ => XS.ifYes X0.here hx rfl (pc0 := 45) (pc' := 50) rfl (hb hby d39_45) rfl (XT.ll_ge_t hc45) (by decide) (by decide) (XS.lloadN X0.here hx rfl (hb hby d39_50) rfl (X0.ldc2J hx hown (mvT hZ (wd_ hw 311 rfl)) rfl (hb hby d39_51) (XT.lcmp X0.here hx rfl (hb hby d39_54) rfl k_)))) ?_
            by_cases hc55 : (Int64.ofNat mm) < (1000000 : Int64)
            · refine oS (fun _ k_ => XS.ifNo X0.here hx rfl (hb hby d39_55) rfl (XT.ll_ge_f hc55) (XS.bipush X0.here hx rfl (hb hby d39_58) k_)) ?_
              have qhc5 : ¬ mm < 10 := fun z => hc5 ((own_ltL (b := 10) (by omega) (by omega)).mpr z)
              have qhc15 : ¬ mm < 100 := fun z => hc15 ((own_ltL (b := 100) (by omega) (by omega)).mpr z)
              have qhc25 : ¬ mm < 1000 := fun z => hc25 ((own_ltL (b := 1000) (by omega) (by omega)).mpr z)
              have qhc35 : ¬ mm < 10000 := fun z => hc35 ((own_ltL (b := 10000) (by omega) (by omega)).mpr z)
              have qhc45 : ¬ mm < 100000 := fun z => hc45 ((own_ltL (b := 100000) (by omega) (by omega)).mpr z)
              have qhc55 : mm < 1000000 := (own_ltL (b := 1000000) (by omega) (by omega)).mp hc55
              have ql : (own_digs mm).length = 6 := own_digs_len (k := 4) (by omega) (by omega)
              exact own_retI X0 hx hret hlk (hb hby d39_60) (by decide) (by decide) ⟨congrArg (fun z => some (Value.int (Int32.ofNat z))) ql.symm, N0, e0⟩
            · refine oS (fun _ k_ => XS.ifYes X0.here hx rfl (pc0 := 55) (pc' := 61) rfl (hb hby d39_55) rfl (XT.ll_ge_t hc55) (by decide) (by decide) (XS.lloadN X0.here hx rfl (hb hby d39_61) rfl (X0.ldc2J hx hown (mvT hZ (wd_ hw 312 rfl)) rfl (hb hby d39_62) (XT.lcmp X0.here hx rfl (hb hby d39_65) rfl k_)))) ?_
              by_cases hc66 : (Int64.ofNat mm) < (10000000 : Int64)
              · refine oS (fun _ k_ => XS.ifNo X0.here hx rfl (hb hby d39_66) rfl (XT.ll_ge_f hc66) (XS.bipush X0.here hx rfl (hb hby d39_69) k_)) ?_
                have qhc5 : ¬ mm < 10 := fun z => hc5 ((own_ltL (b := 10) (by omega) (by omega)).mpr z)
                have qhc15 : ¬ mm < 100 := fun z => hc15 ((own_ltL (b := 100) (by omega) (by omega)).mpr z)
                have qhc25 : ¬ mm < 1000 := fun z => hc25 ((own_ltL (b := 1000) (by omega) (by omega)).mpr z)
                have qhc35 : ¬ mm < 10000 := fun z => hc35 ((own_ltL (b := 10000) (by omega) (by omega)).mpr z)
                have qhc45 : ¬ mm < 100000 := fun z => hc45 ((own_ltL (b := 100000) (by omega) (by omega)).mpr z)
                have qhc55 : ¬ mm < 1000000 := fun z => hc55 ((own_ltL (b := 1000000) (by omega) (by omega)).mpr z)
                have qhc66 : mm < 10000000 := (own_ltL (b := 10000000) (by omega) (by omega)).mp hc66
                have ql : (own_digs mm).length = 7 := own_digs_len (k := 5) (by omega) (by omega)
                exact own_retI X0 hx hret hlk (hb hby d39_71) (by decide) (by decide) ⟨congrArg (fun z => some (Value.int (Int32.ofNat z))) ql.symm, N0, e0⟩
              · refine oS (fun _ k_ => XS.ifYes X0.here hx rfl (pc0 := 66) (pc' := 72) rfl (hb hby d39_66) rfl (XT.ll_ge_t hc66) (by decide) (by decide) (XS.lloadN X0.here hx rfl (hb hby d39_72) rfl (X0.ldc2J hx hown (mvT hZ (wd_ hw 313 rfl)) rfl (hb hby d39_73) (XT.lcmp X0.here hx rfl (hb hby d39_76) rfl k_)))) ?_
                by_cases hc77 : (Int64.ofNat mm) < (100000000 : Int64)
                · refine oS (fun _ k_ => XS.ifNo X0.here hx rfl (hb hby d39_77) rfl (XT.ll_ge_f hc77) (XS.bipush X0.here hx rfl (hb hby d39_80) k_)) ?_
                  have qhc5 : ¬ mm < 10 := fun z => hc5 ((own_ltL (b := 10) (by omega) (by omega)).mpr z)
                  have qhc15 : ¬ mm < 100 := fun z => hc15 ((own_ltL (b := 100) (by omega) (by omega)).mpr z)
                  have qhc25 : ¬ mm < 1000 := fun z => hc25 ((own_ltL (b := 1000) (by omega) (by omega)).mpr z)
                  have qhc35 : ¬ mm < 10000 := fun z => hc35 ((own_ltL (b := 10000) (by omega) (by omega)).mpr z)
                  have qhc45 : ¬ mm < 100000 := fun z => hc45 ((own_ltL (b := 100000) (by omega) (by omega)).mpr z)
                  have qhc55 : ¬ mm < 1000000 := fun z => hc55 ((own_ltL (b := 1000000) (by omega) (by omega)).mpr z)
                  have qhc66 : ¬ mm < 10000000 := fun z => hc66 ((own_ltL (b := 10000000) (by omega) (by omega)).mpr z)
                  have qhc77 : mm < 100000000 := (own_ltL (b := 100000000) (by omega) (by omega)).mp hc77
                  have ql : (own_digs mm).length = 8 := own_digs_len (k := 6) (by omega) (by omega)
                  exact own_retI X0 hx hret hlk (hb hby d39_82) (by decide) (by decide) ⟨congrArg (fun z => some (Value.int (Int32.ofNat z))) ql.symm, N0, e0⟩
                · refine oS (fun _ k_ => XS.ifYes X0.here hx rfl (pc0 := 77) (pc' := 83) rfl (hb hby d39_77) rfl (XT.ll_ge_t hc77) (by decide) (by decide) (XS.lloadN X0.here hx rfl (hb hby d39_83) rfl (X0.ldc2J hx hown (mvT hZ (wd_ hw 314 rfl)) rfl (hb hby d39_84) (XT.lcmp X0.here hx rfl (hb hby d39_87) rfl k_)))) ?_
                  by_cases hc88 : (Int64.ofNat mm) < (1000000000 : Int64)
                  · refine oS (fun _ k_ => XS.ifNo X0.here hx rfl (hb hby d39_88) rfl (XT.ll_ge_f hc88) (XS.bipush X0.here hx rfl (hb hby d39_91) k_)) ?_
                    have qhc5 : ¬ mm < 10 := fun z => hc5 ((own_ltL (b := 10) (by omega) (by omega)).mpr z)
                    have qhc15 : ¬ mm < 100 := fun z => hc15 ((own_ltL (b := 100) (by omega) (by omega)).mpr z)
                    have qhc25 : ¬ mm < 1000 := fun z => hc25 ((own_ltL (b := 1000) (by omega) (by omega)).mpr z)
                    have qhc35 : ¬ mm < 10000 := fun z => hc35 ((own_ltL (b := 10000) (by omega) (by omega)).mpr z)
                    have qhc45 : ¬ mm < 100000 := fun z => hc45 ((own_ltL (b := 100000) (by omega) (by omega)).mpr z)
                    have qhc55 : ¬ mm < 1000000 := fun z => hc55 ((own_ltL (b := 1000000) (by omega) (by omega)).mpr z)
                    have qhc66 : ¬ mm < 10000000 := fun z => hc66 ((own_ltL (b := 10000000) (by omega) (by omega)).mpr z)
                    have qhc77 : ¬ mm < 100000000 := fun z => hc77 ((own_ltL (b := 100000000) (by omega) (by omega)).mpr z)
                    have qhc88 : mm < 1000000000 := (own_ltL (b := 1000000000) (by omega) (by omega)).mp hc88
                    have ql : (own_digs mm).length = 9 := own_digs_len (k := 7) (by omega) (by omega)
                    exact own_retI X0 hx hret hlk (hb hby d39_93) (by decide) (by decide) ⟨congrArg (fun z => some (Value.int (Int32.ofNat z))) ql.symm, N0, e0⟩
                  · refine oS (fun _ k_ => XS.ifYes X0.here hx rfl (pc0 := 88) (pc' := 94) rfl (hb hby d39_88) rfl (XT.ll_ge_t hc88) (by decide) (by decide) (XS.bipush X0.here hx rfl (hb hby d39_94) k_)) ?_
                    have qhc5 : ¬ mm < 10 := fun z => hc5 ((own_ltL (b := 10) (by omega) (by omega)).mpr z)
                    have qhc15 : ¬ mm < 100 := fun z => hc15 ((own_ltL (b := 100) (by omega) (by omega)).mpr z)
                    have qhc25 : ¬ mm < 1000 := fun z => hc25 ((own_ltL (b := 1000) (by omega) (by omega)).mpr z)
                    have qhc35 : ¬ mm < 10000 := fun z => hc35 ((own_ltL (b := 10000) (by omega) (by omega)).mpr z)
                    have qhc45 : ¬ mm < 100000 := fun z => hc45 ((own_ltL (b := 100000) (by omega) (by omega)).mpr z)
                    have qhc55 : ¬ mm < 1000000 := fun z => hc55 ((own_ltL (b := 1000000) (by omega) (by omega)).mpr z)
                    have qhc66 : ¬ mm < 10000000 := fun z => hc66 ((own_ltL (b := 10000000) (by omega) (by omega)).mpr z)
                    have qhc77 : ¬ mm < 100000000 := fun z => hc77 ((own_ltL (b := 100000000) (by omega) (by omega)).mpr z)
                    have qhc88 : ¬ mm < 1000000000 := fun z => hc88 ((own_ltL (b := 1000000000) (by omega) (by omega)).mpr z)
                    have ql : (own_digs mm).length = 10 := own_digs_len (k := 8) (by omega) (by omega)
                    exact own_retI X0 hx hret hlk (hb hby d39_96) (by decide) (by decide) ⟨congrArg (fun z => some (Value.int (Int32.ofNat z))) ql.symm, N0, e0⟩
def b_37 := method_7_code
theorem d37_0 : decode b_37 0 = .ok (.iload_n 0, 1) := by decide +kernel
theorem d37_1 : decode b_37 1 = .ok (.i2l, 1) := by decide +kernel
theorem d37_2 : decode b_37 2 = .ok (.invokestatic 92, 3) := by decide +kernel
theorem d37_5 : decode b_37 5 = .ok (.invokestatic 98, 3) := by decide +kernel
theorem d37_8 : decode b_37 8 = .ok (.istore_n 1, 1) := by decide +kernel
theorem d37_9 : decode b_37 9 = .ok (.iload_n 0, 1) := by decide +kernel
theorem d37_10 : decode b_37 10 = .ok (.ifCond .ge 9, 3) := by decide +kernel
theorem d37_13 : decode b_37 13 = .ok (.iload_n 1, 1) := by decide +kernel
theorem d37_14 : decode b_37 14 = .ok (.iconst 1, 1) := by decide +kernel
theorem d37_15 : decode b_37 15 = .ok (.iadd, 1) := by decide +kernel
theorem d37_16 : decode b_37 16 = .ok (.goto 4, 3) := by decide +kernel
theorem d37_19 : decode b_37 19 = .ok (.iload_n 1, 1) := by decide +kernel
theorem d37_20 : decode b_37 20 = .ok (.ireturn, 1) := by decide +kernel
theorem pd_29 : parseMethodDescriptor "(J)I" = some ⟨[.long], some .int⟩ := by decide +kernel
theorem cl_rmdg (X : Stand p l e R s m args below meth c T locs cells slots) (hw : ∀ d ∈ tables_1, d.before a0 Z = true) (hZ : Z.Warmed39 s.vm) (hx : p.tables.exec = Jvm.exec) (hown : s.vm.findClass own = some m.cls) (lk : (Cond.methodLink own index (⟨"com/example/nalog/nalog/OrderCountAddPinLaw", "digits", "(J)I"⟩ : MethodName)).before a0 Z = true) (mm : Nat) (Z0 : n0 ≤ h0.size) (hmm : mm ≤ 2147483648) (eT : T.heap = h0) (N : Fr n0 locs) (hml : c.maxLocals = kml) (hsz : Ls.size = kml) (hd : decode c.code pc = .ok (.invokestatic index, 3)) (hr : own_rm ({ frames := 0, cells := 0, slots := 0, locals := 0 } : Room) 2 R rest cells slots = true) :
    ∃ T' L', Stand p l e R s m args below meth c T' L' (cells + 0) (slots + 0) ∧ Fr n0 L' ∧ T'.heap = h0 ∧ ∀ t, Steps p.tables e below (T'.setTop (mkF m (pc + 3) Ls ((.int (Int32.ofNat (own_digs mm).length)) :: rest))) t → Steps p.tables e below (T.setTop (mkF m pc Ls ((.long (Int64.ofNat mm)) :: rest))) t := by
  obtain ⟨v, T', L, X', hQ, sq⟩ := own_cS (argsL := [(.long (Int64.ofNat mm))]) (rest := rest) (rmdg l Z a0 hw [] mm h0 n0 Z0 hmm) pd_29 rfl (wd_ hw 224 rfl) (wd_ hw 37 rfl) (wd_ hw 223 rfl) (by decide) hZ hx hown X lk eT hml hsz hd hr
  obtain ⟨rfl, Nq, eq_⟩ := hQ
  exact ⟨T', _, X', Fr.app N Nq, eq_, sq⟩
theorem ef_rmdl (m : MethodId) (x : Int32)  : entryFrame m #[(.int x)] 2 = mkF m 0 #[.val (.int x), .unset] [] := by first | (simp [entryFrame, mkF, argsToLocals, Value.category]; done) | rfl
def Qdl (Z : State) (x : Int32) (h0 : Heap) (n0 : Nat) (v : Option Value) (h : Heap) (L : List Loc) : Prop := v = some (.int (Int32.ofNat (own_dec x).length)) ∧ Fr n0 L ∧ h = h0
theorem rmdl (l : Launch) (Z : State) (a0 : Array Value) (hw : ∀ d ∈ tables_1, d.before a0 Z = true) (ws : List Jvm.Cond) (x : Int32) (h0 : Heap) (n0 : Nat) (Z0 : n0 ≤ h0.size)  :
    own_MF l (⟨"com/example/nalog/nalog/OrderCountAddPinLaw", "decLen", "(I)I"⟩ : MethodName) method_7_code 2 (some .int) ws ({ frames := 1, cells := 0, slots := 0, locals := 20 } : Room) #[(.int x)] Z h0 (Qdl Z x h0 n0) := by
  refine MetFree.of_bodySF (plainFor_of_name pn_8) hisR ?_
  intro p e s m args below meth c s₁ Bd hml0 hP hK
  obtain ⟨rfl, hZ, hh⟩ := hP
  have hx := Bd.exec
  have hby := Bd.bytes
  have hlk : meth.locks = false := BodyLoose.notSynchronized Bd
  have hret := Bd.returns
  have hml : c.maxLocals = 2 := hml0
  have hown : s.vm.findClass "com/example/nalog/nalog/OrderCountAddPinLaw" = some m.cls := findClass_of_methodNamed Bd.named
  have hnm := (name_of_methodNamed Bd.named Bd.method).1
  have X0 : Stand p l e ({ frames := 1, cells := 0, slots := 0, locals := 20 } : Room) s m #[(.int x)] below meth c s₁ [] 0 0 := Stand.of_body Bd
  have e0 : s₁.heap = h0 := by rw [← hh, Bd.state]; rfl
  have N0 := Fr.nil n0
  show oE p e below s 0 0 (Qdl Z x h0 n0) (s₁.setTop (entryFrame m #[(.int x)] 2))
  refine oS (fun t k => castTop (ef_rmdl m x ) k) ?_
  show oE p e below s _ _ _ (s₁.setTop (mkF m 0 #[.val (.int x), .unset] []))
  refine oS (fun _ k_ => XS.iloadN X0.here hx rfl (hb hby d37_0) rfl (XS.i2l X0.here hx rfl (hb hby d37_1) rfl k_)) ?_
  obtain ⟨T106, L106, X106, N106, e106, st106⟩ := cl_rmab X0 hw hZ hx hown (wd_ hw 219 rfl) x Z0 e0 N0 hml rfl (hb hby d37_2) (Ls := #[.val (.int x), .unset]) (rest := []) rfl
  refine oS (fun _ k_ => st106 _ k_) ?_
  obtain ⟨T107, L107, X107, N107, e107, st107⟩ := cl_rmdg X106 hw hZ hx hown (wd_ hw 222 rfl) x.toInt.natAbs Z0 (own_abs x) e106 N106 hml rfl (hb hby d37_5) (Ls := #[.val (.int x), .unset]) (rest := []) rfl
  refine oS (fun _ k_ => st107 _ k_) ?_
  refine oS (fun _ k_ => XS.istoreN X107.here hx rfl (hb hby d37_8) rfl (l' := #[.val (.int x), .val (.int (Int32.ofNat (own_digs x.toInt.natAbs).length))]) rfl (XS.iloadN X107.here hx rfl (hb hby d37_9) rfl k_)) ?_
  by_cases hc10 : x < 0
  · refine oS (fun _ k_ => XS.ifNo X107.here hx rfl (hb hby d37_10) rfl (XT.i0_ge_f hc10) (XS.iloadN X107.here hx rfl (hb hby d37_13) rfl (XS.iconst X107.here hx rfl (hb hby d37_14) (XS.iadd X107.here hx rfl (hb hby d37_15) rfl k_)))) ?_
    show oE p e below s _ _ _ (T107.setTop (mkF m 16 #[.val (.int x), .val (.int (Int32.ofNat (own_digs x.toInt.natAbs).length))] [(.int ((Int32.ofNat (own_digs x.toInt.natAbs).length) + (1 : Int32)))]))
    rw [show Int32.ofNat (own_digs x.toInt.natAbs).length + (1 : Int32) = Int32.ofNat ((own_digs x.toInt.natAbs).length + 1) from own_add _ 1]
    refine oS (fun _ k_ => XS.goto X107.here hx rfl (pc0 := 16) (pc' := 20) rfl (hb hby d37_16) (by decide) (by decide) k_) ?_
    exact own_retI X107 hx hret hlk (hb hby d37_20) (by decide) (by decide) ⟨by rw [own_dec_neg hc10]; rfl, N107, e107⟩
  · refine oS (fun _ k_ => XS.ifYes X107.here hx rfl (pc0 := 10) (pc' := 19) rfl (hb hby d37_10) rfl (XT.i0_ge_t hc10) (by decide) (by decide) (XS.iloadN X107.here hx rfl (hb hby d37_19) rfl k_)) ?_
    exact own_retI X107 hx hret hlk (hb hby d37_20) (by decide) (by decide) ⟨by rw [own_dec_pos hc10], N107, e107⟩
def b_46 := method_6_code
theorem d46_0 : decode b_46 0 = .ok (.iload_n 0, 1) := by decide +kernel
theorem d46_1 : decode b_46 1 = .ok (.iconst 1, 1) := by decide +kernel
theorem d46_2 : decode b_46 2 = .ok (.if_icmp .ne 7, 3) := by decide +kernel
theorem d46_5 : decode b_46 5 = .ok (.ldc2_w 74, 3) := by decide +kernel
theorem d46_8 : decode b_46 8 = .ok (.lreturn, 1) := by decide +kernel
theorem d46_9 : decode b_46 9 = .ok (.iload_n 0, 1) := by decide +kernel
theorem d46_10 : decode b_46 10 = .ok (.iconst 2, 1) := by decide +kernel
theorem d46_11 : decode b_46 11 = .ok (.if_icmp .ne 7, 3) := by decide +kernel
theorem d46_14 : decode b_46 14 = .ok (.ldc2_w 76, 3) := by decide +kernel
theorem d46_17 : decode b_46 17 = .ok (.lreturn, 1) := by decide +kernel
theorem d46_18 : decode b_46 18 = .ok (.iload_n 0, 1) := by decide +kernel
theorem d46_19 : decode b_46 19 = .ok (.iconst 3, 1) := by decide +kernel
theorem d46_20 : decode b_46 20 = .ok (.if_icmp .ne 7, 3) := by decide +kernel
theorem d46_23 : decode b_46 23 = .ok (.ldc2_w 78, 3) := by decide +kernel
theorem d46_26 : decode b_46 26 = .ok (.lreturn, 1) := by decide +kernel
theorem d46_27 : decode b_46 27 = .ok (.iload_n 0, 1) := by decide +kernel
theorem d46_28 : decode b_46 28 = .ok (.iconst 4, 1) := by decide +kernel
theorem d46_29 : decode b_46 29 = .ok (.if_icmp .ne 7, 3) := by decide +kernel
theorem d46_32 : decode b_46 32 = .ok (.ldc2_w 80, 3) := by decide +kernel
theorem d46_35 : decode b_46 35 = .ok (.lreturn, 1) := by decide +kernel
theorem d46_36 : decode b_46 36 = .ok (.iload_n 0, 1) := by decide +kernel
theorem d46_37 : decode b_46 37 = .ok (.iconst 5, 1) := by decide +kernel
theorem d46_38 : decode b_46 38 = .ok (.if_icmp .ne 7, 3) := by decide +kernel
theorem d46_41 : decode b_46 41 = .ok (.ldc2_w 82, 3) := by decide +kernel
theorem d46_44 : decode b_46 44 = .ok (.lreturn, 1) := by decide +kernel
theorem d46_45 : decode b_46 45 = .ok (.iload_n 0, 1) := by decide +kernel
theorem d46_46 : decode b_46 46 = .ok (.bipush 6, 2) := by decide +kernel
theorem d46_48 : decode b_46 48 = .ok (.if_icmp .ne 7, 3) := by decide +kernel
theorem d46_51 : decode b_46 51 = .ok (.ldc2_w 84, 3) := by decide +kernel
theorem d46_54 : decode b_46 54 = .ok (.lreturn, 1) := by decide +kernel
theorem d46_55 : decode b_46 55 = .ok (.iload_n 0, 1) := by decide +kernel
theorem d46_56 : decode b_46 56 = .ok (.bipush 7, 2) := by decide +kernel
theorem d46_58 : decode b_46 58 = .ok (.if_icmp .ne 7, 3) := by decide +kernel
theorem d46_61 : decode b_46 61 = .ok (.ldc2_w 86, 3) := by decide +kernel
theorem d46_64 : decode b_46 64 = .ok (.lreturn, 1) := by decide +kernel
theorem d46_65 : decode b_46 65 = .ok (.iload_n 0, 1) := by decide +kernel
theorem d46_66 : decode b_46 66 = .ok (.bipush 8, 2) := by decide +kernel
theorem d46_68 : decode b_46 68 = .ok (.if_icmp .ne 7, 3) := by decide +kernel
theorem d46_71 : decode b_46 71 = .ok (.ldc2_w 88, 3) := by decide +kernel
theorem d46_74 : decode b_46 74 = .ok (.lreturn, 1) := by decide +kernel
theorem d46_75 : decode b_46 75 = .ok (.iload_n 0, 1) := by decide +kernel
theorem d46_76 : decode b_46 76 = .ok (.bipush 9, 2) := by decide +kernel
theorem d46_78 : decode b_46 78 = .ok (.if_icmp .ne 7, 3) := by decide +kernel
theorem d46_81 : decode b_46 81 = .ok (.ldc2_w 90, 3) := by decide +kernel
theorem d46_84 : decode b_46 84 = .ok (.lreturn, 1) := by decide +kernel
theorem d46_85 : decode b_46 85 = .ok (.lconst 1, 1) := by decide +kernel
theorem d46_86 : decode b_46 86 = .ok (.lreturn, 1) := by decide +kernel
theorem cl_rmdl (X : Stand p l e R s m args below meth c T locs cells slots) (hw : ∀ d ∈ tables_1, d.before a0 Z = true) (hZ : Z.Warmed39 s.vm) (hx : p.tables.exec = Jvm.exec) (hown : s.vm.findClass own = some m.cls) (lk : (Cond.methodLink own index (⟨"com/example/nalog/nalog/OrderCountAddPinLaw", "decLen", "(I)I"⟩ : MethodName)).before a0 Z = true) (x : Int32) (Z0 : n0 ≤ h0.size) (eT : T.heap = h0) (N : Fr n0 locs) (hml : c.maxLocals = kml) (hsz : Ls.size = kml) (hd : decode c.code pc = .ok (.invokestatic index, 3)) (hr : own_rm ({ frames := 1, cells := 0, slots := 0, locals := 20 } : Room) 2 R rest cells slots = true) :
    ∃ T' L', Stand p l e R s m args below meth c T' L' (cells + 0) (slots + 0) ∧ Fr n0 L' ∧ T'.heap = h0 ∧ ∀ t, Steps p.tables e below (T'.setTop (mkF m (pc + 3) Ls ((.int (Int32.ofNat (own_dec x).length)) :: rest))) t → Steps p.tables e below (T.setTop (mkF m pc Ls ((.int x) :: rest))) t := by
  obtain ⟨v, T', L, X', hQ, sq⟩ := own_cS (argsL := [(.int x)]) (rest := rest) (rmdl l Z a0 hw [] x h0 n0 Z0 ) pd_11 rfl (wd_ hw 218 rfl) (wd_ hw 37 rfl) (wd_ hw 217 rfl) (by decide) hZ hx hown X lk eT hml hsz hd hr
  obtain ⟨rfl, Nq, eq_⟩ := hQ
  exact ⟨T', _, X', Fr.app N Nq, eq_, sq⟩
theorem ef_rmp1 (m : MethodId) (kk : Nat) : entryFrame m #[(.int (Int32.ofNat kk))] 1 = mkF m 0 #[.val (.int (Int32.ofNat kk))] [] := by first | (simp [entryFrame, mkF, argsToLocals, Value.category]; done) | rfl
def Qp1 (Z : State) (kk : Nat) (h0 : Heap) (n0 : Nat) (v : Option Value) (h : Heap) (L : List Loc) : Prop := v = some (.long (Int64.ofNat (10 ^ kk))) ∧ Fr n0 L ∧ h = h0
theorem rmp1 (l : Launch) (Z : State) (a0 : Array Value) (hw : ∀ d ∈ tables_1, d.before a0 Z = true) (ws : List Jvm.Cond) (kk : Nat) (h0 : Heap) (n0 : Nat) (Z0 : n0 ≤ h0.size) (hk : kk ≤ 9) :
    own_MF l (⟨"com/example/nalog/nalog/OrderCountAddPinLaw", "pow10", "(I)J"⟩ : MethodName) method_6_code 1 (some .long) ws ({ frames := 0, cells := 0, slots := 0, locals := 0 } : Room) #[(.int (Int32.ofNat kk))] Z h0 (Qp1 Z kk h0 n0) := by
  refine MetFree.of_bodySF (plainFor_of_name pn_8) hisR ?_
  intro p e s m args below meth c s₁ Bd hml0 hP hK
  obtain ⟨rfl, hZ, hh⟩ := hP
  have hx := Bd.exec
  have hby := Bd.bytes
  have hlk : meth.locks = false := BodyLoose.notSynchronized Bd
  have hret := Bd.returns
  have hml : c.maxLocals = 1 := hml0
  have hown : s.vm.findClass "com/example/nalog/nalog/OrderCountAddPinLaw" = some m.cls := findClass_of_methodNamed Bd.named
  have hnm := (name_of_methodNamed Bd.named Bd.method).1
  have X0 : Stand p l e ({ frames := 0, cells := 0, slots := 0, locals := 0 } : Room) s m #[(.int (Int32.ofNat kk))] below meth c s₁ [] 0 0 := Stand.of_body Bd
  have e0 : s₁.heap = h0 := by rw [← hh, Bd.state]; rfl
  have N0 := Fr.nil n0
  show oE p e below s 0 0 (Qp1 Z kk h0 n0) (s₁.setTop (entryFrame m #[(.int (Int32.ofNat kk))] 1))
  refine oS (fun t k => castTop (ef_rmp1 m kk) k) ?_
  show oE p e below s _ _ _ (s₁.setTop (mkF m 0 #[.val (.int (Int32.ofNat kk))] []))
  refine oS (fun _ k_ => XS.iloadN X0.here hx rfl (hb hby d46_0) rfl (XS.iconst X0.here hx rfl (hb hby d46_1) k_)) ?_
  by_cases hc2 : (Int32.ofNat kk) = (1 : Int32)
  · refine oS (fun _ k_ => XS.icmpNo X0.here hx rfl (hb hby d46_2) rfl (XT.ii_ne_f hc2) (X0.ldc2J hx hown (mvT hZ (wd_ hw 225 rfl)) rfl (hb hby d46_5) k_)) ?_
    have qhc2 : kk = 1 := (own_eqN (b := 1) (by omega) (by omega)).mp hc2
    have qk : kk = 1 := by omega
    exact own_retJ X0 hx hret hlk (hb hby d46_8) (by decide) (by decide) ⟨congrArg (fun z => some (Value.long (Int64.ofNat (10 ^ z)))) qk.symm, N0, e0⟩
  · refine oS (fun _ k_ => XS.icmpYes X0.here hx rfl (pc0 := 2) (pc' := 9) rfl (hb hby d46_2) rfl (XT.ii_ne_t hc2) (by decide) (by decide) (XS.iloadN X0.here hx rfl (hb hby d46_9) rfl (XS.iconst X0.here hx rfl (hb hby d46_10) k_))) ?_
    by_cases hc11 : (Int32.ofNat kk) = (2 : Int32)
    · refine oS (fun _ k_ => XS.icmpNo X0.here hx rfl (hb hby d46_11) rfl (XT.ii_ne_f hc11) (X0.ldc2J hx hown (mvT hZ (wd_ hw 305 rfl)) rfl (hb hby d46_14) k_)) ?_
      have qhc2 : ¬ kk = 1 := fun z => hc2 ((own_eqN (b := 1) (by omega) (by omega)).mpr z)
      have qhc11 : kk = 2 := (own_eqN (b := 2) (by omega) (by omega)).mp hc11
      have qk : kk = 2 := by omega
      exact own_retJ X0 hx hret hlk (hb hby d46_17) (by decide) (by decide) ⟨congrArg (fun z => some (Value.long (Int64.ofNat (10 ^ z)))) qk.symm, N0, e0⟩
    · refine oS (fun _ k_ => XS.icmpYes X0.here hx rfl (pc0 := 11) (pc' := 18) rfl (hb hby d46_11) rfl (XT.ii_ne_t hc11) (by decide) (by decide) (XS.iloadN X0.here hx rfl (hb hby d46_18) rfl (XS.iconst X0.here hx rfl (hb hby d46_19) k_))) ?_
      by_cases hc20 : (Int32.ofNat kk) = (3 : Int32)
      · refine oS (fun _ k_ => XS.icmpNo X0.here hx rfl (hb hby d46_20) rfl (XT.ii_ne_f hc20) (X0.ldc2J hx hown (mvT hZ (wd_ hw 308 rfl)) rfl (hb hby d46_23) k_)) ?_
        have qhc2 : ¬ kk = 1 := fun z => hc2 ((own_eqN (b := 1) (by omega) (by omega)).mpr z)
        have qhc11 : ¬ kk = 2 := fun z => hc11 ((own_eqN (b := 2) (by omega) (by omega)).mpr z)
        have qhc20 : kk = 3 := (own_eqN (b := 3) (by omega) (by omega)).mp hc20
        have qk : kk = 3 := by omega
        exact own_retJ X0 hx hret hlk (hb hby d46_26) (by decide) (by decide) ⟨congrArg (fun z => some (Value.long (Int64.ofNat (10 ^ z)))) qk.symm, N0, e0⟩
      · refine oS (fun _ k_ => XS.icmpYes X0.here hx rfl (pc0 := 20) (pc' := 27) rfl (hb hby d46_20) rfl (XT.ii_ne_t hc20) (by decide) (by decide) (XS.iloadN X0.here hx rfl (hb hby d46_27) rfl (XS.iconst X0.here hx rfl (hb hby d46_28) k_))) ?_
        by_cases hc29 : (Int32.ofNat kk) = (4 : Int32)
        · refine oS (fun _ k_ => XS.icmpNo X0.here hx rfl (hb hby d46_29) rfl (XT.ii_ne_f hc29) (X0.ldc2J hx hown (mvT hZ (wd_ hw 309 rfl)) rfl (hb hby d46_32) k_)) ?_
          have qhc2 : ¬ kk = 1 := fun z => hc2 ((own_eqN (b := 1) (by omega) (by omega)).mpr z)
          have qhc11 : ¬ kk = 2 := fun z => hc11 ((own_eqN (b := 2) (by omega) (by omega)).mpr z)
          have qhc20 : ¬ kk = 3 := fun z => hc20 ((own_eqN (b := 3) (by omega) (by omega)).mpr z)
          have qhc29 : kk = 4 := (own_eqN (b := 4) (by omega) (by omega)).mp hc29
          have qk : kk = 4 := by omega
          exact own_retJ X0 hx hret hlk (hb hby d46_35) (by decide) (by decide) ⟨congrArg (fun z => some (Value.long (Int64.ofNat (10 ^ z)))) qk.symm, N0, e0⟩
        · refine oS (fun _ k_ => XS.icmpYes X0.here hx rfl (pc0 := 29) (pc' := 36) rfl (hb hby d46_29) rfl (XT.ii_ne_t hc29) (by decide) (by decide) (XS.iloadN X0.here hx rfl (hb hby d46_36) rfl (XS.iconst X0.here hx rfl (hb hby d46_37) k_))) ?_
          by_cases hc38 : (Int32.ofNat kk) = (5 : Int32)
          · refine oS (fun _ k_ => XS.icmpNo X0.here hx rfl (hb hby d46_38) rfl (XT.ii_ne_f hc38) (X0.ldc2J hx hown (mvT hZ (wd_ hw 310 rfl)) rfl (hb hby d46_41) k_)) ?_
            have qhc2 : ¬ kk = 1 := fun z => hc2 ((own_eqN (b := 1) (by omega) (by omega)).mpr z)
            have qhc11 : ¬ kk = 2 := fun z => hc11 ((own_eqN (b := 2) (by omega) (by omega)).mpr z)
            have qhc20 : ¬ kk = 3 := fun z => hc20 ((own_eqN (b := 3) (by omega) (by omega)).mpr z)
            have qhc29 : ¬ kk = 4 := fun z => hc29 ((own_eqN (b := 4) (by omega) (by omega)).mpr z)
            have qhc38 : kk = 5 := (own_eqN (b := 5) (by omega) (by omega)).mp hc38
            have qk : kk = 5 := by omega
            exact own_retJ X0 hx hret hlk (hb hby d46_44) (by decide) (by decide) ⟨congrArg (fun z => some (Value.long (Int64.ofNat (10 ^ z)))) qk.symm, N0, e0⟩
          · refine oS (fun _ k_ => XS.icmpYes X0.here hx rfl (pc0 := 38) (pc' := 45) rfl (hb hby d46_38) rfl (XT.ii_ne_t hc38) (by decide) (by decide) (XS.iloadN X0.here hx rfl (hb hby d46_45) rfl (XS.bipush X0.here hx rfl (hb hby d46_46) k_))) ?_
            by_cases hc48 : (Int32.ofNat kk) = (6 : Int32)
            · refine oS (fun _ k_ => XS.icmpNo X0.here hx rfl (hb hby d46_48) rfl (XT.ii_ne_f hc48) (X0.ldc2J hx hown (mvT hZ (wd_ hw 311 rfl)) rfl (hb hby d46_51) k_)) ?_
              have qhc2 : ¬ kk = 1 := fun z => hc2 ((own_eqN (b := 1) (by omega) (by omega)).mpr z)
              have qhc11 : ¬ kk = 2 := fun z => hc11 ((own_eqN (b := 2) (by omega) (by omega)).mpr z)
              have qhc20 : ¬ kk = 3 := fun z => hc20 ((own_eqN (b := 3) (by omega) (by omega)).mpr z)
              have qhc29 : ¬ kk = 4 := fun z => hc29 ((own_eqN (b := 4) (by omega) (by omega)).mpr z)
              have qhc38 : ¬ kk = 5 := fun z => hc38 ((own_eqN (b := 5) (by omega) (by omega)).mpr z)
              have qhc48 : kk = 6 := (own_eqN (b := 6) (by omega) (by omega)).mp hc48
              have qk : kk = 6 := by omega
              exact own_retJ X0 hx hret hlk (hb hby d46_54) (by decide) (by decide) ⟨congrArg (fun z => some (Value.long (Int64.ofNat (10 ^ z)))) qk.symm, N0, e0⟩
            · refine oS (fun _ k_ => XS.icmpYes X0.here hx rfl (pc0 := 48) (pc' := 55) rfl (hb hby d46_48) rfl (XT.ii_ne_t hc48) (by decide) (by decide) (XS.iloadN X0.here hx rfl (hb hby d46_55) rfl (XS.bipush X0.here hx rfl (hb hby d46_56) k_))) ?_
              by_cases hc58 : (Int32.ofNat kk) = (7 : Int32)
              · refine oS (fun _ k_ => XS.icmpNo X0.here hx rfl (hb hby d46_58) rfl (XT.ii_ne_f hc58) (X0.ldc2J hx hown (mvT hZ (wd_ hw 312 rfl)) rfl (hb hby d46_61) k_)) ?_
                have qhc2 : ¬ kk = 1 := fun z => hc2 ((own_eqN (b := 1) (by omega) (by omega)).mpr z)
                have qhc11 : ¬ kk = 2 := fun z => hc11 ((own_eqN (b := 2) (by omega) (by omega)).mpr z)
                have qhc20 : ¬ kk = 3 := fun z => hc20 ((own_eqN (b := 3) (by omega) (by omega)).mpr z)
                have qhc29 : ¬ kk = 4 := fun z => hc29 ((own_eqN (b := 4) (by omega) (by omega)).mpr z)
                have qhc38 : ¬ kk = 5 := fun z => hc38 ((own_eqN (b := 5) (by omega) (by omega)).mpr z)
                have qhc48 : ¬ kk = 6 := fun z => hc48 ((own_eqN (b := 6) (by omega) (by omega)).mpr z)
                have qhc58 : kk = 7 := (own_eqN (b := 7) (by omega) (by omega)).mp hc58
                have qk : kk = 7 := by omega
                exact own_retJ X0 hx hret hlk (hb hby d46_64) (by decide) (by decide) ⟨congrArg (fun z => some (Value.long (Int64.ofNat (10 ^ z)))) qk.symm, N0, e0⟩
              · refine oS (fun _ k_ => XS.icmpYes X0.here hx rfl (pc0 := 58) (pc' := 65) rfl (hb hby d46_58) rfl (XT.ii_ne_t hc58) (by decide) (by decide) (XS.iloadN X0.here hx rfl (hb hby d46_65) rfl (XS.bipush X0.here hx rfl (hb hby d46_66) k_))) ?_
                by_cases hc68 : (Int32.ofNat kk) = (8 : Int32)
                · refine oS (fun _ k_ => XS.icmpNo X0.here hx rfl (hb hby d46_68) rfl (XT.ii_ne_f hc68) (X0.ldc2J hx hown (mvT hZ (wd_ hw 313 rfl)) rfl (hb hby d46_71) k_)) ?_
                  have qhc2 : ¬ kk = 1 := fun z => hc2 ((own_eqN (b := 1) (by omega) (by omega)).mpr z)
                  have qhc11 : ¬ kk = 2 := fun z => hc11 ((own_eqN (b := 2) (by omega) (by omega)).mpr z)
                  have qhc20 : ¬ kk = 3 := fun z => hc20 ((own_eqN (b := 3) (by omega) (by omega)).mpr z)
                  have qhc29 : ¬ kk = 4 := fun z => hc29 ((own_eqN (b := 4) (by omega) (by omega)).mpr z)
                  have qhc38 : ¬ kk = 5 := fun z => hc38 ((own_eqN (b := 5) (by omega) (by omega)).mpr z)
                  have qhc48 : ¬ kk = 6 := fun z => hc48 ((own_eqN (b := 6) (by omega) (by omega)).mpr z)
                  have qhc58 : ¬ kk = 7 := fun z => hc58 ((own_eqN (b := 7) (by omega) (by omega)).mpr z)
                  have qhc68 : kk = 8 := (own_eqN (b := 8) (by omega) (by omega)).mp hc68
                  have qk : kk = 8 := by omega
                  exact own_retJ X0 hx hret hlk (hb hby d46_74) (by decide) (by decide) ⟨congrArg (fun z => some (Value.long (Int64.ofNat (10 ^ z)))) qk.symm, N0, e0⟩
                · refine oS (fun _ k_ => XS.icmpYes X0.here hx rfl (pc0 := 68) (pc' := 75) rfl (hb hby d46_68) rfl (XT.ii_ne_t hc68) (by decide) (by decide) (XS.iloadN X0.here hx rfl (hb hby d46_75) rfl (XS.bipush X0.here hx rfl (hb hby d46_76) k_))) ?_
                  by_cases hc78 : (Int32.ofNat kk) = (9 : Int32)
                  · refine oS (fun _ k_ => XS.icmpNo X0.here hx rfl (hb hby d46_78) rfl (XT.ii_ne_f hc78) (X0.ldc2J hx hown (mvT hZ (wd_ hw 314 rfl)) rfl (hb hby d46_81) k_)) ?_
                    have qhc2 : ¬ kk = 1 := fun z => hc2 ((own_eqN (b := 1) (by omega) (by omega)).mpr z)
                    have qhc11 : ¬ kk = 2 := fun z => hc11 ((own_eqN (b := 2) (by omega) (by omega)).mpr z)
                    have qhc20 : ¬ kk = 3 := fun z => hc20 ((own_eqN (b := 3) (by omega) (by omega)).mpr z)
                    have qhc29 : ¬ kk = 4 := fun z => hc29 ((own_eqN (b := 4) (by omega) (by omega)).mpr z)
                    have qhc38 : ¬ kk = 5 := fun z => hc38 ((own_eqN (b := 5) (by omega) (by omega)).mpr z)
                    have qhc48 : ¬ kk = 6 := fun z => hc48 ((own_eqN (b := 6) (by omega) (by omega)).mpr z)
                    have qhc58 : ¬ kk = 7 := fun z => hc58 ((own_eqN (b := 7) (by omega) (by omega)).mpr z)
                    have qhc68 : ¬ kk = 8 := fun z => hc68 ((own_eqN (b := 8) (by omega) (by omega)).mpr z)
                    have qhc78 : kk = 9 := (own_eqN (b := 9) (by omega) (by omega)).mp hc78
                    have qk : kk = 9 := by omega
                    exact own_retJ X0 hx hret hlk (hb hby d46_84) (by decide) (by decide) ⟨congrArg (fun z => some (Value.long (Int64.ofNat (10 ^ z)))) qk.symm, N0, e0⟩
                  · refine oS (fun _ k_ => XS.icmpYes X0.here hx rfl (pc0 := 78) (pc' := 85) rfl (hb hby d46_78) rfl (XT.ii_ne_t hc78) (by decide) (by decide) (XS.lconst X0.here hx rfl (hb hby d46_85) k_)) ?_
                    have qhc2 : ¬ kk = 1 := fun z => hc2 ((own_eqN (b := 1) (by omega) (by omega)).mpr z)
                    have qhc11 : ¬ kk = 2 := fun z => hc11 ((own_eqN (b := 2) (by omega) (by omega)).mpr z)
                    have qhc20 : ¬ kk = 3 := fun z => hc20 ((own_eqN (b := 3) (by omega) (by omega)).mpr z)
                    have qhc29 : ¬ kk = 4 := fun z => hc29 ((own_eqN (b := 4) (by omega) (by omega)).mpr z)
                    have qhc38 : ¬ kk = 5 := fun z => hc38 ((own_eqN (b := 5) (by omega) (by omega)).mpr z)
                    have qhc48 : ¬ kk = 6 := fun z => hc48 ((own_eqN (b := 6) (by omega) (by omega)).mpr z)
                    have qhc58 : ¬ kk = 7 := fun z => hc58 ((own_eqN (b := 7) (by omega) (by omega)).mpr z)
                    have qhc68 : ¬ kk = 8 := fun z => hc68 ((own_eqN (b := 8) (by omega) (by omega)).mpr z)
                    have qhc78 : ¬ kk = 9 := fun z => hc78 ((own_eqN (b := 9) (by omega) (by omega)).mpr z)
                    have qk : kk = 0 := by omega
                    exact own_retJ X0 hx hret hlk (hb hby d46_86) (by decide) (by decide) ⟨congrArg (fun z => some (Value.long (Int64.ofNat (10 ^ z)))) qk.symm, N0, e0⟩
def b_45 := method_8_code
theorem d45_0 : decode b_45 0 = .ok (.iload_n 0, 1) := by decide +kernel
theorem d45_1 : decode b_45 1 = .ok (.i2l, 1) := by decide +kernel
theorem d45_2 : decode b_45 2 = .ok (.invokestatic 92, 3) := by decide +kernel
theorem d45_5 : decode b_45 5 = .ok (.lstore_n 2, 1) := by decide +kernel
theorem d45_6 : decode b_45 6 = .ok (.lload_n 2, 1) := by decide +kernel
theorem d45_7 : decode b_45 7 = .ok (.invokestatic 98, 3) := by decide +kernel
theorem d45_10 : decode b_45 10 = .ok (.istore 4, 2) := by decide +kernel
theorem d45_12 : decode b_45 12 = .ok (.iload_n 1, 1) := by decide +kernel
theorem d45_13 : decode b_45 13 = .ok (.istore 5, 2) := by decide +kernel
theorem d45_15 : decode b_45 15 = .ok (.iload_n 0, 1) := by decide +kernel
theorem d45_16 : decode b_45 16 = .ok (.ifCond .ge 15, 3) := by decide +kernel
theorem d45_19 : decode b_45 19 = .ok (.iload_n 1, 1) := by decide +kernel
theorem d45_20 : decode b_45 20 = .ok (.ifCond .ne 6, 3) := by decide +kernel
theorem d45_23 : decode b_45 23 = .ok (.bipush 45, 2) := by decide +kernel
theorem d45_25 : decode b_45 25 = .ok (.ireturn, 1) := by decide +kernel
theorem d45_26 : decode b_45 26 = .ok (.iload_n 1, 1) := by decide +kernel
theorem d45_27 : decode b_45 27 = .ok (.iconst 1, 1) := by decide +kernel
theorem d45_28 : decode b_45 28 = .ok (.isub, 1) := by decide +kernel
theorem d45_29 : decode b_45 29 = .ok (.istore 5, 2) := by decide +kernel
theorem d45_31 : decode b_45 31 = .ok (.iload 4, 2) := by decide +kernel
theorem d45_33 : decode b_45 33 = .ok (.iconst 1, 1) := by decide +kernel
theorem d45_34 : decode b_45 34 = .ok (.isub, 1) := by decide +kernel
theorem d45_35 : decode b_45 35 = .ok (.iload 5, 2) := by decide +kernel
theorem d45_37 : decode b_45 37 = .ok (.isub, 1) := by decide +kernel
theorem d45_38 : decode b_45 38 = .ok (.invokestatic 102, 3) := by decide +kernel
theorem d45_41 : decode b_45 41 = .ok (.lstore 6, 2) := by decide +kernel
theorem d45_43 : decode b_45 43 = .ok (.bipush 48, 2) := by decide +kernel
theorem d45_45 : decode b_45 45 = .ok (.lload_n 2, 1) := by decide +kernel
theorem d45_46 : decode b_45 46 = .ok (.lload 6, 2) := by decide +kernel
theorem d45_48 : decode b_45 48 = .ok (.ldiv, 1) := by decide +kernel
theorem d45_49 : decode b_45 49 = .ok (.ldc2_w 74, 3) := by decide +kernel
theorem d45_52 : decode b_45 52 = .ok (.lrem, 1) := by decide +kernel
theorem d45_53 : decode b_45 53 = .ok (.l2i, 1) := by decide +kernel
theorem d45_54 : decode b_45 54 = .ok (.iadd, 1) := by decide +kernel
theorem d45_55 : decode b_45 55 = .ok (.i2c, 1) := by decide +kernel
theorem d45_56 : decode b_45 56 = .ok (.ireturn, 1) := by decide +kernel
theorem pd_30 : parseMethodDescriptor "(I)J" = some ⟨[.int], some .long⟩ := by decide +kernel
theorem cl_rmp1 (X : Stand p l e R s m args below meth c T locs cells slots) (hw : ∀ d ∈ tables_1, d.before a0 Z = true) (hZ : Z.Warmed39 s.vm) (hx : p.tables.exec = Jvm.exec) (hown : s.vm.findClass own = some m.cls) (lk : (Cond.methodLink own index (⟨"com/example/nalog/nalog/OrderCountAddPinLaw", "pow10", "(I)J"⟩ : MethodName)).before a0 Z = true) (kk : Nat) (Z0 : n0 ≤ h0.size) (hk : kk ≤ 9) (eT : T.heap = h0) (N : Fr n0 locs) (hml : c.maxLocals = kml) (hsz : Ls.size = kml) (hd : decode c.code pc = .ok (.invokestatic index, 3)) (hr : own_rm ({ frames := 0, cells := 0, slots := 0, locals := 0 } : Room) 1 R rest cells slots = true) :
    ∃ T' L', Stand p l e R s m args below meth c T' L' (cells + 0) (slots + 0) ∧ Fr n0 L' ∧ T'.heap = h0 ∧ ∀ t, Steps p.tables e below (T'.setTop (mkF m (pc + 3) Ls ((.long (Int64.ofNat (10 ^ kk))) :: rest))) t → Steps p.tables e below (T.setTop (mkF m pc Ls ((.int (Int32.ofNat kk)) :: rest))) t := by
  obtain ⟨v, T', L, X', hQ, sq⟩ := own_cS (argsL := [(.int (Int32.ofNat kk))]) (rest := rest) (rmp1 l Z a0 hw [] kk h0 n0 Z0 hk) pd_30 rfl (wd_ hw 254 rfl) (wd_ hw 37 rfl) (wd_ hw 253 rfl) (by decide) hZ hx hown X lk eT hml hsz hd hr
  obtain ⟨rfl, Nq, eq_⟩ := hQ
  exact ⟨T', _, X', Fr.app N Nq, eq_, sq⟩
theorem ef_rmdc (m : MethodId) (x : Int32) (kk : Nat) : entryFrame m #[(.int x), (.int (Int32.ofNat kk))] 8 = mkF m 0 #[.val (.int x), .val (.int (Int32.ofNat kk)), .unset, .unset, .unset, .unset, .unset, .unset] [] := by first | (simp [entryFrame, mkF, argsToLocals, Value.category]; done) | rfl
def Qdc (Z : State) (x : Int32) (kk cc : Nat) (h0 : Heap) (n0 : Nat) (v : Option Value) (h : Heap) (L : List Loc) : Prop := v = some (.int (Int32.ofNat cc)) ∧ Fr n0 L ∧ h = h0
theorem rmdc (l : Launch) (Z : State) (a0 : Array Value) (hw : ∀ d ∈ tables_1, d.before a0 Z = true) (ws : List Jvm.Cond) (x : Int32) (kk cc : Nat) (h0 : Heap) (n0 : Nat) (Z0 : n0 ≤ h0.size) (hk : (own_dec x)[kk]? = some cc) :
    own_MF l (⟨"com/example/nalog/nalog/OrderCountAddPinLaw", "decChar", "(II)C"⟩ : MethodName) method_8_code 8 (some .char) ws ({ frames := 1, cells := 0, slots := 0, locals := 22 } : Room) #[(.int x), (.int (Int32.ofNat kk))] Z h0 (Qdc Z x kk cc h0 n0) := by
  refine MetFree.of_bodySF (plainFor_of_name pn_8) hisR ?_
  intro p e s m args below meth c s₁ Bd hml0 hP hK
  obtain ⟨rfl, hZ, hh⟩ := hP
  have hx := Bd.exec
  have hby := Bd.bytes
  have hlk : meth.locks = false := BodyLoose.notSynchronized Bd
  have hret := Bd.returns
  have hml : c.maxLocals = 8 := hml0
  have hown : s.vm.findClass "com/example/nalog/nalog/OrderCountAddPinLaw" = some m.cls := findClass_of_methodNamed Bd.named
  have hnm := (name_of_methodNamed Bd.named Bd.method).1
  have X0 : Stand p l e ({ frames := 1, cells := 0, slots := 0, locals := 22 } : Room) s m #[(.int x), (.int (Int32.ofNat kk))] below meth c s₁ [] 0 0 := Stand.of_body Bd
  have e0 : s₁.heap = h0 := by rw [← hh, Bd.state]; rfl
  have N0 := Fr.nil n0
  show oE p e below s 0 0 (Qdc Z x kk cc h0 n0) (s₁.setTop (entryFrame m #[(.int x), (.int (Int32.ofNat kk))] 8))
  refine oS (fun t k => castTop (ef_rmdc m x kk) k) ?_
  show oE p e below s _ _ _ (s₁.setTop (mkF m 0 #[.val (.int x), .val (.int (Int32.ofNat kk)), .unset, .unset, .unset, .unset, .unset, .unset] []))
  have hab := own_abs x
  have h10 := own_digs_10 hab
  have hp1 := own_digs_pos x.toInt.natAbs
  have hkl := (List.getElem?_eq_some_iff.mp hk).1
  have hkm := own_dec_len x
  refine oS (fun _ k_ => XS.iloadN X0.here hx rfl (hb hby d45_0) rfl (XS.i2l X0.here hx rfl (hb hby d45_1) rfl k_)) ?_
  obtain ⟨T108, L108, X108, N108, e108, st108⟩ := cl_rmab X0 hw hZ hx hown (wd_ hw 219 rfl) x Z0 e0 N0 hml rfl (hb hby d45_2) (Ls := #[.val (.int x), .val (.int (Int32.ofNat kk)), .unset, .unset, .unset, .unset, .unset, .unset]) (rest := []) rfl
  refine oS (fun _ k_ => st108 _ k_) ?_
  refine oS (fun _ k_ => XS.lstoreN X108.here hx rfl (hb hby d45_5) rfl (l' := #[.val (.int x), .val (.int (Int32.ofNat kk)), .val (.long (Int64.ofNat x.toInt.natAbs)), .second, .unset, .unset, .unset, .unset]) rfl (XS.lloadN X108.here hx rfl (hb hby d45_6) rfl k_)) ?_
  obtain ⟨T109, L109, X109, N109, e109, st109⟩ := cl_rmdg X108 hw hZ hx hown (wd_ hw 222 rfl) x.toInt.natAbs Z0 (own_abs x) e108 N108 hml rfl (hb hby d45_7) (Ls := #[.val (.int x), .val (.int (Int32.ofNat kk)), .val (.long (Int64.ofNat x.toInt.natAbs)), .second, .unset, .unset, .unset, .unset]) (rest := []) rfl
  refine oS (fun _ k_ => st109 _ k_) ?_
  refine oS (fun _ k_ => XS.istore X109.here hx rfl (hb hby d45_10) rfl (l' := #[.val (.int x), .val (.int (Int32.ofNat kk)), .val (.long (Int64.ofNat x.toInt.natAbs)), .second, .val (.int (Int32.ofNat (own_digs x.toInt.natAbs).length)), .unset, .unset, .unset]) rfl (XS.iloadN X109.here hx rfl (hb hby d45_12) rfl (XS.istore X109.here hx rfl (hb hby d45_13) rfl (l' := #[.val (.int x), .val (.int (Int32.ofNat kk)), .val (.long (Int64.ofNat x.toInt.natAbs)), .second, .val (.int (Int32.ofNat (own_digs x.toInt.natAbs).length)), .val (.int (Int32.ofNat kk)), .unset, .unset]) rfl (XS.iloadN X109.here hx rfl (hb hby d45_15) rfl k_)))) ?_
  by_cases hc16 : x < 0
  · refine oS (fun _ k_ => XS.ifNo X109.here hx rfl (hb hby d45_16) rfl (XT.i0_ge_f hc16) (XS.iloadN X109.here hx rfl (hb hby d45_19) rfl k_)) ?_
    by_cases hc20 : (Int32.ofNat kk) = 0
    · refine oS (fun _ k_ => XS.ifNo X109.here hx rfl (hb hby d45_20) rfl (XT.i0_ne_f hc20) (XS.bipush X109.here hx rfl (hb hby d45_23) k_)) ?_
      have hk0 : kk = 0 := (own_eqN (b := 0) (by omega) (by omega)).mp hc20
      rw [hk0, own_dec_neg hc16] at hk
      have hc9 : 45 = cc := Option.some.inj hk
      exact own_retN X109 hx (t := .char) hret (by simp) hlk (hb hby d45_25) (by decide) (by decide) rfl ⟨congrArg (fun z => some (Value.int (Int32.ofNat z))) hc9, N109, e109⟩
    · refine oS (fun _ k_ => XS.ifYes X109.here hx rfl (pc0 := 20) (pc' := 26) rfl (hb hby d45_20) rfl (XT.i0_ne_t hc20) (by decide) (by decide) k_) ?_
      show oE p e below s _ _ _ (T109.setTop (mkF m 26 #[.val (.int x), .val (.int (Int32.ofNat kk)), .val (.long (Int64.ofNat x.toInt.natAbs)), .second, .val (.int (Int32.ofNat (own_digs x.toInt.natAbs).length)), .val (.int (Int32.ofNat kk)), .unset, .unset] []))
      have hk0 : kk ≠ 0 := fun z => hc20 (by rw [z]; rfl)
      refine oS (fun _ k_ => XS.iloadN X109.here hx rfl (hb hby d45_26) rfl (XS.iconst X109.here hx rfl (hb hby d45_27) (XS.isub X109.here hx rfl (hb hby d45_28) rfl k_))) ?_
      show oE p e below s _ _ _ (T109.setTop (mkF m 29 #[.val (.int x), .val (.int (Int32.ofNat kk)), .val (.long (Int64.ofNat x.toInt.natAbs)), .second, .val (.int (Int32.ofNat (own_digs x.toInt.natAbs).length)), .val (.int (Int32.ofNat kk)), .unset, .unset] [(.int ((Int32.ofNat kk) - (1 : Int32)))]))
      rw [show Int32.ofNat kk - (1 : Int32) = Int32.ofNat (kk - 1) from own_sub (b := 1) (by omega)]
      refine oS (fun _ k_ => XS.istore X109.here hx rfl (hb hby d45_29) rfl (l' := #[.val (.int x), .val (.int (Int32.ofNat kk)), .val (.long (Int64.ofNat x.toInt.natAbs)), .second, .val (.int (Int32.ofNat (own_digs x.toInt.natAbs).length)), .val (.int (Int32.ofNat (kk - 1))), .unset, .unset]) rfl k_) ?_
      show oE p e below s _ _ _ (T109.setTop (mkF m 31 #[.val (.int x), .val (.int (Int32.ofNat kk)), .val (.long (Int64.ofNat x.toInt.natAbs)), .second, .val (.int (Int32.ofNat (own_digs x.toInt.natAbs).length)), .val (.int (Int32.ofNat (kk - 1))), .unset, .unset] []))
      have hj : (kk - 1) < (own_digs x.toInt.natAbs).length := by rw [own_dec_neg hc16] at hkl; simp only [List.length_cons] at hkl; omega
      have hcc := own_digs_at _ _ (Nat.le_refl _) (kk - 1) hj
      rw [own_dec_neg hc16, show kk = (kk - 1) + 1 from by omega, List.getElem?_cons_succ] at hk
      have hc9 := Option.some.inj (hk.symm.trans hcc)
      refine oS (fun _ k_ => XS.iload X109.here hx rfl (hb hby d45_31) rfl (XS.iconst X109.here hx rfl (hb hby d45_33) (XS.isub X109.here hx rfl (hb hby d45_34) rfl k_))) ?_
      show oE p e below s _ _ _ (T109.setTop (mkF m 35 #[.val (.int x), .val (.int (Int32.ofNat kk)), .val (.long (Int64.ofNat x.toInt.natAbs)), .second, .val (.int (Int32.ofNat (own_digs x.toInt.natAbs).length)), .val (.int (Int32.ofNat (kk - 1))), .unset, .unset] [(.int ((Int32.ofNat (own_digs x.toInt.natAbs).length) - (1 : Int32)))]))
      rw [show Int32.ofNat (own_digs x.toInt.natAbs).length - (1 : Int32) = Int32.ofNat ((own_digs x.toInt.natAbs).length - 1) from own_sub (b := 1) (by omega)]
      refine oS (fun _ k_ => XS.iload X109.here hx rfl (hb hby d45_35) rfl (XS.isub X109.here hx rfl (hb hby d45_37) rfl k_)) ?_
      show oE p e below s _ _ _ (T109.setTop (mkF m 38 #[.val (.int x), .val (.int (Int32.ofNat kk)), .val (.long (Int64.ofNat x.toInt.natAbs)), .second, .val (.int (Int32.ofNat (own_digs x.toInt.natAbs).length)), .val (.int (Int32.ofNat (kk - 1))), .unset, .unset] [(.int ((Int32.ofNat ((own_digs x.toInt.natAbs).length - 1)) - (Int32.ofNat (kk - 1))))]))
      rw [own_sub (show (kk - 1) ≤ (own_digs x.toInt.natAbs).length - 1 from by omega)]
      show oE p e below s _ _ _ (T109.setTop (mkF m 38 #[.val (.int x), .val (.int (Int32.ofNat kk)), .val (.long (Int64.ofNat x.toInt.natAbs)), .second, .val (.int (Int32.ofNat (own_digs x.toInt.natAbs).length)), .val (.int (Int32.ofNat (kk - 1))), .unset, .unset] [(.int (Int32.ofNat ((own_digs x.toInt.natAbs).length - 1 - (kk - 1))))]))
      have hp10 := own_p10 (show ((own_digs x.toInt.natAbs).length - 1 - (kk - 1)) ≤ 9 from by omega)
      have hp0 : 0 < 10 ^ ((own_digs x.toInt.natAbs).length - 1 - (kk - 1)) := Nat.pow_pos (by omega)
      obtain ⟨T110, L110, X110, N110, e110, st110⟩ := cl_rmp1 X109 hw hZ hx hown (wd_ hw 252 rfl) ((own_digs x.toInt.natAbs).length - 1 - (kk - 1)) Z0 (by omega) e109 N109 hml rfl (hb hby d45_38) (Ls := #[.val (.int x), .val (.int (Int32.ofNat kk)), .val (.long (Int64.ofNat x.toInt.natAbs)), .second, .val (.int (Int32.ofNat (own_digs x.toInt.natAbs).length)), .val (.int (Int32.ofNat (kk - 1))), .unset, .unset]) (rest := []) rfl
      refine oS (fun _ k_ => st110 _ k_) ?_
      refine oS (fun _ k_ => XS.lstore X110.here hx rfl (hb hby d45_41) rfl (l' := #[.val (.int x), .val (.int (Int32.ofNat kk)), .val (.long (Int64.ofNat x.toInt.natAbs)), .second, .val (.int (Int32.ofNat (own_digs x.toInt.natAbs).length)), .val (.int (Int32.ofNat (kk - 1))), .val (.long (Int64.ofNat (10 ^ ((own_digs x.toInt.natAbs).length - 1 - (kk - 1))))), .second]) rfl (XS.bipush X110.here hx rfl (hb hby d45_43) (XS.lloadN X110.here hx rfl (hb hby d45_45) rfl (XS.lload X110.here hx rfl (hb hby d45_46) rfl (XS.ldiv X110.here hx rfl (hb hby d45_48) rfl (own_nzL hp0 hp10) k_))))) ?_
      show oE p e below s _ _ _ (T110.setTop (mkF m 49 #[.val (.int x), .val (.int (Int32.ofNat kk)), .val (.long (Int64.ofNat x.toInt.natAbs)), .second, .val (.int (Int32.ofNat (own_digs x.toInt.natAbs).length)), .val (.int (Int32.ofNat (kk - 1))), .val (.long (Int64.ofNat (10 ^ ((own_digs x.toInt.natAbs).length - 1 - (kk - 1))))), .second] [(.long ((Int64.ofNat x.toInt.natAbs) / (Int64.ofNat (10 ^ ((own_digs x.toInt.natAbs).length - 1 - (kk - 1)))))), (.int (48 : Int32))]))
      rw [own_divL (by omega) hp10]
      refine oS (fun _ k_ => X110.ldc2J hx hown (mvT hZ (wd_ hw 225 rfl)) rfl (hb hby d45_49) (XS.lrem X110.here hx rfl (hb hby d45_52) rfl (by decide) k_)) ?_
      show oE p e below s _ _ _ (T110.setTop (mkF m 53 #[.val (.int x), .val (.int (Int32.ofNat kk)), .val (.long (Int64.ofNat x.toInt.natAbs)), .second, .val (.int (Int32.ofNat (own_digs x.toInt.natAbs).length)), .val (.int (Int32.ofNat (kk - 1))), .val (.long (Int64.ofNat (10 ^ ((own_digs x.toInt.natAbs).length - 1 - (kk - 1))))), .second] [(.long ((Int64.ofNat (x.toInt.natAbs / 10 ^ ((own_digs x.toInt.natAbs).length - 1 - (kk - 1)))) - ((Int64.ofNat (x.toInt.natAbs / 10 ^ ((own_digs x.toInt.natAbs).length - 1 - (kk - 1)))) / (10 : Int64)) * (10 : Int64))), (.int (48 : Int32))]))
      rw [own_remL (Nat.lt_of_le_of_lt (Nat.div_le_self _ _) (by omega))]
      refine oS (fun _ k_ => XS.l2i X110.here hx rfl (hb hby d45_53) rfl k_) ?_
      show oE p e below s _ _ _ (T110.setTop (mkF m 54 #[.val (.int x), .val (.int (Int32.ofNat kk)), .val (.long (Int64.ofNat x.toInt.natAbs)), .second, .val (.int (Int32.ofNat (own_digs x.toInt.natAbs).length)), .val (.int (Int32.ofNat (kk - 1))), .val (.long (Int64.ofNat (10 ^ ((own_digs x.toInt.natAbs).length - 1 - (kk - 1))))), .second] [(.int ((Int64.ofNat ((x.toInt.natAbs / 10 ^ ((own_digs x.toInt.natAbs).length - 1 - (kk - 1))) % 10)).toInt32)), (.int (48 : Int32))]))
      rw [own_l2i]
      refine oS (fun _ k_ => XS.iadd X110.here hx rfl (hb hby d45_54) rfl k_) ?_
      show oE p e below s _ _ _ (T110.setTop (mkF m 55 #[.val (.int x), .val (.int (Int32.ofNat kk)), .val (.long (Int64.ofNat x.toInt.natAbs)), .second, .val (.int (Int32.ofNat (own_digs x.toInt.natAbs).length)), .val (.int (Int32.ofNat (kk - 1))), .val (.long (Int64.ofNat (10 ^ ((own_digs x.toInt.natAbs).length - 1 - (kk - 1))))), .second] [(.int ((48 : Int32) + (Int32.ofNat ((x.toInt.natAbs / 10 ^ ((own_digs x.toInt.natAbs).length - 1 - (kk - 1))) % 10))))]))
      rw [show (48 : Int32) + Int32.ofNat ((x.toInt.natAbs / 10 ^ ((own_digs x.toInt.natAbs).length - 1 - (kk - 1))) % 10) = Int32.ofNat (48 + (x.toInt.natAbs / 10 ^ ((own_digs x.toInt.natAbs).length - 1 - (kk - 1))) % 10) from own_add 48 _]
      refine oS (fun _ k_ => XS.i2c X110.here hx rfl (hb hby d45_55) rfl k_) ?_
      show oE p e below s _ _ _ (T110.setTop (mkF m 56 #[.val (.int x), .val (.int (Int32.ofNat kk)), .val (.long (Int64.ofNat x.toInt.natAbs)), .second, .val (.int (Int32.ofNat (own_digs x.toInt.natAbs).length)), .val (.int (Int32.ofNat (kk - 1))), .val (.long (Int64.ofNat (10 ^ ((own_digs x.toInt.natAbs).length - 1 - (kk - 1))))), .second] [(.int ((Int32.ofNat (48 + (x.toInt.natAbs / 10 ^ ((own_digs x.toInt.natAbs).length - 1 - (kk - 1))) % 10)).toUInt32.toUInt16.toUInt32.toInt32))]))
      rw [own_i2c (by omega)]
      exact own_retN X110 hx (t := .char) hret (by simp) hlk (hb hby d45_56) (by decide) (by decide) (own_narC (by omega)) ⟨congrArg (fun z => some (Value.int (Int32.ofNat z))) hc9.symm, N110, e110⟩
  · refine oS (fun _ k_ => XS.ifYes X109.here hx rfl (pc0 := 16) (pc' := 31) rfl (hb hby d45_16) rfl (XT.i0_ge_t hc16) (by decide) (by decide) k_) ?_
    show oE p e below s _ _ _ (T109.setTop (mkF m 31 #[.val (.int x), .val (.int (Int32.ofNat kk)), .val (.long (Int64.ofNat x.toInt.natAbs)), .second, .val (.int (Int32.ofNat (own_digs x.toInt.natAbs).length)), .val (.int (Int32.ofNat kk)), .unset, .unset] []))
    have hj : kk < (own_digs x.toInt.natAbs).length := by rw [own_dec_pos hc16] at hkl; exact hkl
    have hcc := own_digs_at _ _ (Nat.le_refl _) kk hj
    rw [own_dec_pos hc16] at hk
    have hc9 := Option.some.inj (hk.symm.trans hcc)
    refine oS (fun _ k_ => XS.iload X109.here hx rfl (hb hby d45_31) rfl (XS.iconst X109.here hx rfl (hb hby d45_33) (XS.isub X109.here hx rfl (hb hby d45_34) rfl k_))) ?_
    show oE p e below s _ _ _ (T109.setTop (mkF m 35 #[.val (.int x), .val (.int (Int32.ofNat kk)), .val (.long (Int64.ofNat x.toInt.natAbs)), .second, .val (.int (Int32.ofNat (own_digs x.toInt.natAbs).length)), .val (.int (Int32.ofNat kk)), .unset, .unset] [(.int ((Int32.ofNat (own_digs x.toInt.natAbs).length) - (1 : Int32)))]))
    rw [show Int32.ofNat (own_digs x.toInt.natAbs).length - (1 : Int32) = Int32.ofNat ((own_digs x.toInt.natAbs).length - 1) from own_sub (b := 1) (by omega)]
    refine oS (fun _ k_ => XS.iload X109.here hx rfl (hb hby d45_35) rfl (XS.isub X109.here hx rfl (hb hby d45_37) rfl k_)) ?_
    show oE p e below s _ _ _ (T109.setTop (mkF m 38 #[.val (.int x), .val (.int (Int32.ofNat kk)), .val (.long (Int64.ofNat x.toInt.natAbs)), .second, .val (.int (Int32.ofNat (own_digs x.toInt.natAbs).length)), .val (.int (Int32.ofNat kk)), .unset, .unset] [(.int ((Int32.ofNat ((own_digs x.toInt.natAbs).length - 1)) - (Int32.ofNat kk)))]))
    rw [own_sub (show kk ≤ (own_digs x.toInt.natAbs).length - 1 from by omega)]
    show oE p e below s _ _ _ (T109.setTop (mkF m 38 #[.val (.int x), .val (.int (Int32.ofNat kk)), .val (.long (Int64.ofNat x.toInt.natAbs)), .second, .val (.int (Int32.ofNat (own_digs x.toInt.natAbs).length)), .val (.int (Int32.ofNat kk)), .unset, .unset] [(.int (Int32.ofNat ((own_digs x.toInt.natAbs).length - 1 - kk)))]))
    have hp10 := own_p10 (show ((own_digs x.toInt.natAbs).length - 1 - kk) ≤ 9 from by omega)
    have hp0 : 0 < 10 ^ ((own_digs x.toInt.natAbs).length - 1 - kk) := Nat.pow_pos (by omega)
    obtain ⟨T111, L111, X111, N111, e111, st111⟩ := cl_rmp1 X109 hw hZ hx hown (wd_ hw 252 rfl) ((own_digs x.toInt.natAbs).length - 1 - kk) Z0 (by omega) e109 N109 hml rfl (hb hby d45_38) (Ls := #[.val (.int x), .val (.int (Int32.ofNat kk)), .val (.long (Int64.ofNat x.toInt.natAbs)), .second, .val (.int (Int32.ofNat (own_digs x.toInt.natAbs).length)), .val (.int (Int32.ofNat kk)), .unset, .unset]) (rest := []) rfl
    refine oS (fun _ k_ => st111 _ k_) ?_
    refine oS (fun _ k_ => XS.lstore X111.here hx rfl (hb hby d45_41) rfl (l' := #[.val (.int x), .val (.int (Int32.ofNat kk)), .val (.long (Int64.ofNat x.toInt.natAbs)), .second, .val (.int (Int32.ofNat (own_digs x.toInt.natAbs).length)), .val (.int (Int32.ofNat kk)), .val (.long (Int64.ofNat (10 ^ ((own_digs x.toInt.natAbs).length - 1 - kk)))), .second]) rfl (XS.bipush X111.here hx rfl (hb hby d45_43) (XS.lloadN X111.here hx rfl (hb hby d45_45) rfl (XS.lload X111.here hx rfl (hb hby d45_46) rfl (XS.ldiv X111.here hx rfl (hb hby d45_48) rfl (own_nzL hp0 hp10) k_))))) ?_
    show oE p e below s _ _ _ (T111.setTop (mkF m 49 #[.val (.int x), .val (.int (Int32.ofNat kk)), .val (.long (Int64.ofNat x.toInt.natAbs)), .second, .val (.int (Int32.ofNat (own_digs x.toInt.natAbs).length)), .val (.int (Int32.ofNat kk)), .val (.long (Int64.ofNat (10 ^ ((own_digs x.toInt.natAbs).length - 1 - kk)))), .second] [(.long ((Int64.ofNat x.toInt.natAbs) / (Int64.ofNat (10 ^ ((own_digs x.toInt.natAbs).length - 1 - kk))))), (.int (48 : Int32))]))
    rw [own_divL (by omega) hp10]
    refine oS (fun _ k_ => X111.ldc2J hx hown (mvT hZ (wd_ hw 225 rfl)) rfl (hb hby d45_49) (XS.lrem X111.here hx rfl (hb hby d45_52) rfl (by decide) k_)) ?_
    show oE p e below s _ _ _ (T111.setTop (mkF m 53 #[.val (.int x), .val (.int (Int32.ofNat kk)), .val (.long (Int64.ofNat x.toInt.natAbs)), .second, .val (.int (Int32.ofNat (own_digs x.toInt.natAbs).length)), .val (.int (Int32.ofNat kk)), .val (.long (Int64.ofNat (10 ^ ((own_digs x.toInt.natAbs).length - 1 - kk)))), .second] [(.long ((Int64.ofNat (x.toInt.natAbs / 10 ^ ((own_digs x.toInt.natAbs).length - 1 - kk))) - ((Int64.ofNat (x.toInt.natAbs / 10 ^ ((own_digs x.toInt.natAbs).length - 1 - kk))) / (10 : Int64)) * (10 : Int64))), (.int (48 : Int32))]))
    rw [own_remL (Nat.lt_of_le_of_lt (Nat.div_le_self _ _) (by omega))]
    refine oS (fun _ k_ => XS.l2i X111.here hx rfl (hb hby d45_53) rfl k_) ?_
    show oE p e below s _ _ _ (T111.setTop (mkF m 54 #[.val (.int x), .val (.int (Int32.ofNat kk)), .val (.long (Int64.ofNat x.toInt.natAbs)), .second, .val (.int (Int32.ofNat (own_digs x.toInt.natAbs).length)), .val (.int (Int32.ofNat kk)), .val (.long (Int64.ofNat (10 ^ ((own_digs x.toInt.natAbs).length - 1 - kk)))), .second] [(.int ((Int64.ofNat ((x.toInt.natAbs / 10 ^ ((own_digs x.toInt.natAbs).length - 1 - kk)) % 10)).toInt32)), (.int (48 : Int32))]))
    rw [own_l2i]
    refine oS (fun _ k_ => XS.iadd X111.here hx rfl (hb hby d45_54) rfl k_) ?_
    show oE p e below s _ _ _ (T111.setTop (mkF m 55 #[.val (.int x), .val (.int (Int32.ofNat kk)), .val (.long (Int64.ofNat x.toInt.natAbs)), .second, .val (.int (Int32.ofNat (own_digs x.toInt.natAbs).length)), .val (.int (Int32.ofNat kk)), .val (.long (Int64.ofNat (10 ^ ((own_digs x.toInt.natAbs).length - 1 - kk)))), .second] [(.int ((48 : Int32) + (Int32.ofNat ((x.toInt.natAbs / 10 ^ ((own_digs x.toInt.natAbs).length - 1 - kk)) % 10))))]))
    rw [show (48 : Int32) + Int32.ofNat ((x.toInt.natAbs / 10 ^ ((own_digs x.toInt.natAbs).length - 1 - kk)) % 10) = Int32.ofNat (48 + (x.toInt.natAbs / 10 ^ ((own_digs x.toInt.natAbs).length - 1 - kk)) % 10) from own_add 48 _]
    refine oS (fun _ k_ => XS.i2c X111.here hx rfl (hb hby d45_55) rfl k_) ?_
    show oE p e below s _ _ _ (T111.setTop (mkF m 56 #[.val (.int x), .val (.int (Int32.ofNat kk)), .val (.long (Int64.ofNat x.toInt.natAbs)), .second, .val (.int (Int32.ofNat (own_digs x.toInt.natAbs).length)), .val (.int (Int32.ofNat kk)), .val (.long (Int64.ofNat (10 ^ ((own_digs x.toInt.natAbs).length - 1 - kk)))), .second] [(.int ((Int32.ofNat (48 + (x.toInt.natAbs / 10 ^ ((own_digs x.toInt.natAbs).length - 1 - kk)) % 10)).toUInt32.toUInt16.toUInt32.toInt32))]))
    rw [own_i2c (by omega)]
    exact own_retN X111 hx (t := .char) hret (by simp) hlk (hb hby d45_56) (by decide) (by decide) (own_narC (by omega)) ⟨congrArg (fun z => some (Value.int (Int32.ofNat z))) hc9.symm, N111, e111⟩
def b_36 := method_9_code
theorem d36_0 : decode b_36 0 = .ok (.iload_n 2, 1) := by decide +kernel
theorem d36_1 : decode b_36 1 = .ok (.invokestatic 60, 3) := by decide +kernel
theorem d36_4 : decode b_36 4 = .ok (.istore_n 3, 1) := by decide +kernel
theorem d36_5 : decode b_36 5 = .ok (.aload_n 0, 1) := by decide +kernel
theorem d36_6 : decode b_36 6 = .ok (.invokevirtual 64, 3) := by decide +kernel
theorem d36_9 : decode b_36 9 = .ok (.iload_n 1, 1) := by decide +kernel
theorem d36_10 : decode b_36 10 = .ok (.iload_n 3, 1) := by decide +kernel
theorem d36_11 : decode b_36 11 = .ok (.iadd, 1) := by decide +kernel
theorem d36_12 : decode b_36 12 = .ok (.if_icmp .ge 5, 3) := by decide +kernel
theorem d36_17 : decode b_36 17 = .ok (.iconst 0, 1) := by decide +kernel
theorem d36_18 : decode b_36 18 = .ok (.iload_n 3, 1) := by decide +kernel
theorem d36_19 : decode b_36 19 = .ok (.if_icmp .ge 16, 3) := by decide +kernel
theorem d36_22 : decode b_36 22 = .ok (.aload_n 0, 1) := by decide +kernel
theorem d36_23 : decode b_36 23 = .ok (.iload_n 1, 1) := by decide +kernel
theorem d36_24 : decode b_36 24 = .ok (.invokevirtual 70, 3) := by decide +kernel
theorem d36_27 : decode b_36 27 = .ok (.iload_n 2, 1) := by decide +kernel
theorem d36_28 : decode b_36 28 = .ok (.iconst 0, 1) := by decide +kernel
theorem d36_29 : decode b_36 29 = .ok (.invokestatic 106, 3) := by decide +kernel
theorem d36_32 : decode b_36 32 = .ok (.if_icmp .ne 222, 3) := by decide +kernel
theorem d36_35 : decode b_36 35 = .ok (.iconst 1, 1) := by decide +kernel
theorem d36_36 : decode b_36 36 = .ok (.iload_n 3, 1) := by decide +kernel
theorem d36_37 : decode b_36 37 = .ok (.if_icmp .ge 18, 3) := by decide +kernel
theorem d36_40 : decode b_36 40 = .ok (.aload_n 0, 1) := by decide +kernel
theorem d36_41 : decode b_36 41 = .ok (.iload_n 1, 1) := by decide +kernel
theorem d36_42 : decode b_36 42 = .ok (.iconst 1, 1) := by decide +kernel
theorem d36_43 : decode b_36 43 = .ok (.iadd, 1) := by decide +kernel
theorem d36_44 : decode b_36 44 = .ok (.invokevirtual 70, 3) := by decide +kernel
theorem d36_47 : decode b_36 47 = .ok (.iload_n 2, 1) := by decide +kernel
theorem d36_48 : decode b_36 48 = .ok (.iconst 1, 1) := by decide +kernel
theorem d36_49 : decode b_36 49 = .ok (.invokestatic 106, 3) := by decide +kernel
theorem d36_52 : decode b_36 52 = .ok (.if_icmp .ne 202, 3) := by decide +kernel
theorem d36_55 : decode b_36 55 = .ok (.iconst 2, 1) := by decide +kernel
theorem d36_56 : decode b_36 56 = .ok (.iload_n 3, 1) := by decide +kernel
theorem d36_57 : decode b_36 57 = .ok (.if_icmp .ge 18, 3) := by decide +kernel
theorem d36_60 : decode b_36 60 = .ok (.aload_n 0, 1) := by decide +kernel
theorem d36_61 : decode b_36 61 = .ok (.iload_n 1, 1) := by decide +kernel
theorem d36_62 : decode b_36 62 = .ok (.iconst 2, 1) := by decide +kernel
theorem d36_63 : decode b_36 63 = .ok (.iadd, 1) := by decide +kernel
theorem d36_64 : decode b_36 64 = .ok (.invokevirtual 70, 3) := by decide +kernel
theorem d36_67 : decode b_36 67 = .ok (.iload_n 2, 1) := by decide +kernel
theorem d36_68 : decode b_36 68 = .ok (.iconst 2, 1) := by decide +kernel
theorem d36_69 : decode b_36 69 = .ok (.invokestatic 106, 3) := by decide +kernel
theorem d36_72 : decode b_36 72 = .ok (.if_icmp .ne 182, 3) := by decide +kernel
theorem d36_75 : decode b_36 75 = .ok (.iconst 3, 1) := by decide +kernel
theorem d36_76 : decode b_36 76 = .ok (.iload_n 3, 1) := by decide +kernel
theorem d36_77 : decode b_36 77 = .ok (.if_icmp .ge 18, 3) := by decide +kernel
theorem d36_80 : decode b_36 80 = .ok (.aload_n 0, 1) := by decide +kernel
theorem d36_81 : decode b_36 81 = .ok (.iload_n 1, 1) := by decide +kernel
theorem d36_82 : decode b_36 82 = .ok (.iconst 3, 1) := by decide +kernel
theorem d36_83 : decode b_36 83 = .ok (.iadd, 1) := by decide +kernel
theorem d36_84 : decode b_36 84 = .ok (.invokevirtual 70, 3) := by decide +kernel
theorem d36_87 : decode b_36 87 = .ok (.iload_n 2, 1) := by decide +kernel
theorem d36_88 : decode b_36 88 = .ok (.iconst 3, 1) := by decide +kernel
theorem d36_89 : decode b_36 89 = .ok (.invokestatic 106, 3) := by decide +kernel
theorem d36_92 : decode b_36 92 = .ok (.if_icmp .ne 162, 3) := by decide +kernel
theorem d36_95 : decode b_36 95 = .ok (.iconst 4, 1) := by decide +kernel
theorem d36_96 : decode b_36 96 = .ok (.iload_n 3, 1) := by decide +kernel
theorem d36_97 : decode b_36 97 = .ok (.if_icmp .ge 18, 3) := by decide +kernel
theorem d36_100 : decode b_36 100 = .ok (.aload_n 0, 1) := by decide +kernel
theorem d36_101 : decode b_36 101 = .ok (.iload_n 1, 1) := by decide +kernel
theorem d36_102 : decode b_36 102 = .ok (.iconst 4, 1) := by decide +kernel
theorem d36_103 : decode b_36 103 = .ok (.iadd, 1) := by decide +kernel
theorem d36_104 : decode b_36 104 = .ok (.invokevirtual 70, 3) := by decide +kernel
theorem d36_107 : decode b_36 107 = .ok (.iload_n 2, 1) := by decide +kernel
theorem d36_108 : decode b_36 108 = .ok (.iconst 4, 1) := by decide +kernel
theorem d36_109 : decode b_36 109 = .ok (.invokestatic 106, 3) := by decide +kernel
theorem d36_112 : decode b_36 112 = .ok (.if_icmp .ne 142, 3) := by decide +kernel
theorem d36_115 : decode b_36 115 = .ok (.iconst 5, 1) := by decide +kernel
theorem d36_116 : decode b_36 116 = .ok (.iload_n 3, 1) := by decide +kernel
theorem d36_117 : decode b_36 117 = .ok (.if_icmp .ge 18, 3) := by decide +kernel
theorem d36_120 : decode b_36 120 = .ok (.aload_n 0, 1) := by decide +kernel
theorem d36_121 : decode b_36 121 = .ok (.iload_n 1, 1) := by decide +kernel
theorem d36_122 : decode b_36 122 = .ok (.iconst 5, 1) := by decide +kernel
theorem d36_123 : decode b_36 123 = .ok (.iadd, 1) := by decide +kernel
theorem d36_124 : decode b_36 124 = .ok (.invokevirtual 70, 3) := by decide +kernel
theorem d36_127 : decode b_36 127 = .ok (.iload_n 2, 1) := by decide +kernel
theorem d36_128 : decode b_36 128 = .ok (.iconst 5, 1) := by decide +kernel
theorem d36_129 : decode b_36 129 = .ok (.invokestatic 106, 3) := by decide +kernel
theorem d36_132 : decode b_36 132 = .ok (.if_icmp .ne 122, 3) := by decide +kernel
theorem d36_135 : decode b_36 135 = .ok (.bipush 6, 2) := by decide +kernel
theorem d36_137 : decode b_36 137 = .ok (.iload_n 3, 1) := by decide +kernel
theorem d36_138 : decode b_36 138 = .ok (.if_icmp .ge 20, 3) := by decide +kernel
theorem d36_141 : decode b_36 141 = .ok (.aload_n 0, 1) := by decide +kernel
theorem d36_142 : decode b_36 142 = .ok (.iload_n 1, 1) := by decide +kernel
theorem d36_143 : decode b_36 143 = .ok (.bipush 6, 2) := by decide +kernel
theorem d36_145 : decode b_36 145 = .ok (.iadd, 1) := by decide +kernel
theorem d36_146 : decode b_36 146 = .ok (.invokevirtual 70, 3) := by decide +kernel
theorem d36_149 : decode b_36 149 = .ok (.iload_n 2, 1) := by decide +kernel
theorem d36_150 : decode b_36 150 = .ok (.bipush 6, 2) := by decide +kernel
theorem d36_152 : decode b_36 152 = .ok (.invokestatic 106, 3) := by decide +kernel
theorem d36_155 : decode b_36 155 = .ok (.if_icmp .ne 99, 3) := by decide +kernel
theorem d36_158 : decode b_36 158 = .ok (.bipush 7, 2) := by decide +kernel
theorem d36_160 : decode b_36 160 = .ok (.iload_n 3, 1) := by decide +kernel
theorem d36_161 : decode b_36 161 = .ok (.if_icmp .ge 20, 3) := by decide +kernel
theorem d36_164 : decode b_36 164 = .ok (.aload_n 0, 1) := by decide +kernel
theorem d36_165 : decode b_36 165 = .ok (.iload_n 1, 1) := by decide +kernel
theorem d36_166 : decode b_36 166 = .ok (.bipush 7, 2) := by decide +kernel
theorem d36_168 : decode b_36 168 = .ok (.iadd, 1) := by decide +kernel
theorem d36_169 : decode b_36 169 = .ok (.invokevirtual 70, 3) := by decide +kernel
theorem d36_172 : decode b_36 172 = .ok (.iload_n 2, 1) := by decide +kernel
theorem d36_173 : decode b_36 173 = .ok (.bipush 7, 2) := by decide +kernel
theorem d36_175 : decode b_36 175 = .ok (.invokestatic 106, 3) := by decide +kernel
theorem d36_178 : decode b_36 178 = .ok (.if_icmp .ne 76, 3) := by decide +kernel
theorem d36_181 : decode b_36 181 = .ok (.bipush 8, 2) := by decide +kernel
theorem d36_183 : decode b_36 183 = .ok (.iload_n 3, 1) := by decide +kernel
theorem d36_184 : decode b_36 184 = .ok (.if_icmp .ge 20, 3) := by decide +kernel
theorem d36_187 : decode b_36 187 = .ok (.aload_n 0, 1) := by decide +kernel
theorem d36_188 : decode b_36 188 = .ok (.iload_n 1, 1) := by decide +kernel
theorem d36_189 : decode b_36 189 = .ok (.bipush 8, 2) := by decide +kernel
theorem d36_191 : decode b_36 191 = .ok (.iadd, 1) := by decide +kernel
theorem d36_192 : decode b_36 192 = .ok (.invokevirtual 70, 3) := by decide +kernel
theorem d36_195 : decode b_36 195 = .ok (.iload_n 2, 1) := by decide +kernel
theorem d36_196 : decode b_36 196 = .ok (.bipush 8, 2) := by decide +kernel
theorem d36_198 : decode b_36 198 = .ok (.invokestatic 106, 3) := by decide +kernel
theorem d36_201 : decode b_36 201 = .ok (.if_icmp .ne 53, 3) := by decide +kernel
theorem d36_204 : decode b_36 204 = .ok (.bipush 9, 2) := by decide +kernel
theorem d36_206 : decode b_36 206 = .ok (.iload_n 3, 1) := by decide +kernel
theorem d36_207 : decode b_36 207 = .ok (.if_icmp .ge 20, 3) := by decide +kernel
theorem d36_210 : decode b_36 210 = .ok (.aload_n 0, 1) := by decide +kernel
theorem d36_211 : decode b_36 211 = .ok (.iload_n 1, 1) := by decide +kernel
theorem d36_212 : decode b_36 212 = .ok (.bipush 9, 2) := by decide +kernel
theorem d36_214 : decode b_36 214 = .ok (.iadd, 1) := by decide +kernel
theorem d36_215 : decode b_36 215 = .ok (.invokevirtual 70, 3) := by decide +kernel
theorem d36_218 : decode b_36 218 = .ok (.iload_n 2, 1) := by decide +kernel
theorem d36_219 : decode b_36 219 = .ok (.bipush 9, 2) := by decide +kernel
theorem d36_221 : decode b_36 221 = .ok (.invokestatic 106, 3) := by decide +kernel
theorem d36_224 : decode b_36 224 = .ok (.if_icmp .ne 30, 3) := by decide +kernel
theorem d36_227 : decode b_36 227 = .ok (.bipush 10, 2) := by decide +kernel
theorem d36_229 : decode b_36 229 = .ok (.iload_n 3, 1) := by decide +kernel
theorem d36_230 : decode b_36 230 = .ok (.if_icmp .ge 20, 3) := by decide +kernel
theorem d36_233 : decode b_36 233 = .ok (.aload_n 0, 1) := by decide +kernel
theorem d36_234 : decode b_36 234 = .ok (.iload_n 1, 1) := by decide +kernel
theorem d36_235 : decode b_36 235 = .ok (.bipush 10, 2) := by decide +kernel
theorem d36_237 : decode b_36 237 = .ok (.iadd, 1) := by decide +kernel
theorem d36_238 : decode b_36 238 = .ok (.invokevirtual 70, 3) := by decide +kernel
theorem d36_241 : decode b_36 241 = .ok (.iload_n 2, 1) := by decide +kernel
theorem d36_242 : decode b_36 242 = .ok (.bipush 10, 2) := by decide +kernel
theorem d36_244 : decode b_36 244 = .ok (.invokestatic 106, 3) := by decide +kernel
theorem d36_247 : decode b_36 247 = .ok (.if_icmp .ne 7, 3) := by decide +kernel
theorem d36_250 : decode b_36 250 = .ok (.iconst 1, 1) := by decide +kernel
theorem d36_251 : decode b_36 251 = .ok (.goto 4, 3) := by decide +kernel
theorem d36_255 : decode b_36 255 = .ok (.ireturn, 1) := by decide +kernel
theorem pd_31 : parseMethodDescriptor "(II)C" = some ⟨[.int, .int], some .char⟩ := by decide +kernel
def Qna (Z : State) (st : Addr) (x : Int32) (cs : Int32) (fm : Value) (d1 d2 : Addr) (sa : Addr) (bs : List Nat) (ap : Nat) (h0 : Heap) (n0 : Nat) (v : Option Value) (h : Heap) (L : List Loc) : Prop := v = some (.int (1 : Int32)) ∧ Fr n0 L ∧ h = h0
theorem cl_rmdc (X : Stand p l e R s m args below meth c T locs cells slots) (hw : ∀ d ∈ tables_1, d.before a0 Z = true) (hZ : Z.Warmed39 s.vm) (hx : p.tables.exec = Jvm.exec) (hown : s.vm.findClass own = some m.cls) (lk : (Cond.methodLink own index (⟨"com/example/nalog/nalog/OrderCountAddPinLaw", "decChar", "(II)C"⟩ : MethodName)).before a0 Z = true) (x : Int32) (kk cc : Nat) (Z0 : n0 ≤ h0.size) (hk : (own_dec x)[kk]? = some cc) (eT : T.heap = h0) (N : Fr n0 locs) (hml : c.maxLocals = kml) (hsz : Ls.size = kml) (hd : decode c.code pc = .ok (.invokestatic index, 3)) (hr : own_rm ({ frames := 1, cells := 0, slots := 0, locals := 22 } : Room) 8 R rest cells slots = true) :
    ∃ T' L', Stand p l e R s m args below meth c T' L' (cells + 0) (slots + 0) ∧ Fr n0 L' ∧ T'.heap = h0 ∧ ∀ t, Steps p.tables e below (T'.setTop (mkF m (pc + 3) Ls ((.int (Int32.ofNat cc)) :: rest))) t → Steps p.tables e below (T.setTop (mkF m pc Ls ((.int (Int32.ofNat kk)) :: (.int x) :: rest))) t := by
  obtain ⟨v, T', L, X', hQ, sq⟩ := own_cS (argsL := [(.int x), (.int (Int32.ofNat kk))]) (rest := rest) (rmdc l Z a0 hw [] x kk cc h0 n0 Z0 hk) pd_31 rfl (wd_ hw 251 rfl) (wd_ hw 37 rfl) (wd_ hw 250 rfl) (by decide) hZ hx hown X lk eT hml hsz hd hr
  obtain ⟨rfl, Nq, eq_⟩ := hQ
  exact ⟨T', _, X', Fr.app N Nq, eq_, sq⟩
theorem own_na11 {p : Program} {l : Launch} {e : Env} {s : State} {m : MethodId} {below : List Frame} {meth : Method} {c : Code} {Z : State} {a0 : Array Value} (hw : ∀ d ∈ tables_1, d.before a0 Z = true) (hZ : Z.Warmed39 s.vm) (hx : p.tables.exec = Jvm.exec) (hby : c.code = method_9_code) (hlk : meth.locks = false) (hret : meth.sig.returnType = some .boolean) (hml : c.maxLocals = 4) (hown : s.vm.findClass "com/example/nalog/nalog/OrderCountAddPinLaw" = some m.cls) {st : Addr} {x : Int32} {cs : Int32} {fm : Value} {d1 d2 : Addr} {sa : Addr} {bs : List Nat} {ap : Nat} {h0 : Heap} {n0 : Nat} (Z0 : n0 ≤ h0.size) (Wd : own_Wd Z cs fm d1 d2) (OZ : Old Z n0 h0) (E0 : Exa Z h0 st "java/lang/String") (V0 : Fld Z h0 st "java/lang/String" "value" "[B" (.ref sa)) (C0 : Fld Z h0 st "java/lang/String" "coder" "B" (.int 0)) (B0 : own_By Z h0 sa bs) (hat : ∀ k cc, (own_dec x)[k]? = some cc → bs[ap + k]? = some cc) (hln : ap + (own_dec x).length ≤ bs.length) (T : State) (locs : List Loc) (X : Stand p l e ({ frames := 4, cells := 0, slots := 0, locals := 70 } : Room) s m #[.ref st, .int (Int32.ofNat ap), .int x] below meth c T locs 0 0) (e0 : T.heap = h0) (N0 : Fr n0 locs) : oE p e below s 0 0 (Qna Z st x cs fm d1 d2 sa bs ap h0 n0) (T.setTop (mkF m 250 #[.val (.ref st), .val (.int (Int32.ofNat ap)), .val (.int x), .val (.int (Int32.ofNat (own_dec x).length))] [])) := by
  show oE p e below s _ _ _ (T.setTop (mkF m 250 #[.val (.ref st), .val (.int (Int32.ofNat ap)), .val (.int x), .val (.int (Int32.ofNat (own_dec x).length))] []))
  have hdl := own_dec_len x
  have hbl := B0.len
  refine oS (fun _ k_ => XS.iconst X.here hx rfl (hb hby d36_250) (XS.goto X.here hx rfl (pc0 := 251) (pc' := 255) rfl (hb hby d36_251) (by decide) (by decide) k_)) ?_
  exact own_retN X hx (t := .boolean) hret (by simp) hlk (hb hby d36_255) (by decide) (by decide) rfl ⟨rfl, N0, e0⟩
theorem own_na10 {p : Program} {l : Launch} {e : Env} {s : State} {m : MethodId} {below : List Frame} {meth : Method} {c : Code} {Z : State} {a0 : Array Value} (hw : ∀ d ∈ tables_1, d.before a0 Z = true) (hZ : Z.Warmed39 s.vm) (hx : p.tables.exec = Jvm.exec) (hby : c.code = method_9_code) (hlk : meth.locks = false) (hret : meth.sig.returnType = some .boolean) (hml : c.maxLocals = 4) (hown : s.vm.findClass "com/example/nalog/nalog/OrderCountAddPinLaw" = some m.cls) {st : Addr} {x : Int32} {cs : Int32} {fm : Value} {d1 d2 : Addr} {sa : Addr} {bs : List Nat} {ap : Nat} {h0 : Heap} {n0 : Nat} (Z0 : n0 ≤ h0.size) (Wd : own_Wd Z cs fm d1 d2) (OZ : Old Z n0 h0) (E0 : Exa Z h0 st "java/lang/String") (V0 : Fld Z h0 st "java/lang/String" "value" "[B" (.ref sa)) (C0 : Fld Z h0 st "java/lang/String" "coder" "B" (.int 0)) (B0 : own_By Z h0 sa bs) (hat : ∀ k cc, (own_dec x)[k]? = some cc → bs[ap + k]? = some cc) (hln : ap + (own_dec x).length ≤ bs.length) (T : State) (locs : List Loc) (X : Stand p l e ({ frames := 4, cells := 0, slots := 0, locals := 70 } : Room) s m #[.ref st, .int (Int32.ofNat ap), .int x] below meth c T locs 0 0) (e0 : T.heap = h0) (N0 : Fr n0 locs) : oE p e below s 0 0 (Qna Z st x cs fm d1 d2 sa bs ap h0 n0) (T.setTop (mkF m 227 #[.val (.ref st), .val (.int (Int32.ofNat ap)), .val (.int x), .val (.int (Int32.ofNat (own_dec x).length))] [])) := by
  show oE p e below s _ _ _ (T.setTop (mkF m 227 #[.val (.ref st), .val (.int (Int32.ofNat ap)), .val (.int x), .val (.int (Int32.ofNat (own_dec x).length))] []))
  have hdl := own_dec_len x
  have hbl := B0.len
  refine oS (fun _ k_ => XS.bipush X.here hx rfl (hb hby d36_227) (XS.iloadN X.here hx rfl (hb hby d36_229) rfl k_)) ?_
  by_cases hcL : (10 : Int32) < (Int32.ofNat (own_dec x).length)
  · refine oS (fun _ k_ => XS.icmpNo X.here hx rfl (hb hby d36_230) rfl (XT.ii_ge_f hcL) k_) ?_
    show oE p e below s _ _ _ (T.setTop (mkF m 233 #[.val (.ref st), .val (.int (Int32.ofNat ap)), .val (.int x), .val (.int (Int32.ofNat (own_dec x).length))] []))
    have hkl : 10 < (own_dec x).length := (own_ltN (a := 10) (by omega) (by omega)).mp hcL
    obtain ⟨cc, hcc⟩ : ∃ cc, (own_dec x)[10]? = some cc := ⟨_, List.getElem?_eq_getElem hkl⟩
    refine oS (fun _ k_ => XS.aloadN X.here hx rfl (hb hby d36_233) rfl rfl (XS.iloadN X.here hx rfl (hb hby d36_234) rfl (XS.bipush X.here hx rfl (hb hby d36_235) (XS.iadd X.here hx rfl (hb hby d36_237) rfl k_)))) ?_
    show oE p e below s _ _ _ (T.setTop (mkF m 238 #[.val (.ref st), .val (.int (Int32.ofNat ap)), .val (.int x), .val (.int (Int32.ofNat (own_dec x).length))] [(.int ((Int32.ofNat ap) + (10 : Int32))), (.ref st)]))
    rw [show Int32.ofNat ap + (10 : Int32) = Int32.ofNat (ap + 10) from own_add _ 10]
    obtain ⟨T112, L112, X112, N112, e112, st112⟩ := cl_rmch X hw hZ hx hown (wd_ hw 227 rfl) st cs fm d1 d2 sa bs (ap + 10) cc Z0 Wd OZ E0 V0 C0 B0 (hat 10 cc hcc) e0 E0 N0 hml rfl (hb hby d36_238) (Ls := #[.val (.ref st), .val (.int (Int32.ofNat ap)), .val (.int x), .val (.int (Int32.ofNat (own_dec x).length))]) (rest := []) rfl
    refine oS (fun _ k_ => st112 _ k_) ?_
    refine oS (fun _ k_ => XS.iloadN X112.here hx rfl (hb hby d36_241) rfl (XS.bipush X112.here hx rfl (hb hby d36_242) k_)) ?_
    obtain ⟨T113, L113, X113, N113, e113, st113⟩ := cl_rmdc X112 hw hZ hx hown (wd_ hw 249 rfl) x 10 cc Z0 hcc e112 N112 hml rfl (hb hby d36_244) (Ls := #[.val (.ref st), .val (.int (Int32.ofNat ap)), .val (.int x), .val (.int (Int32.ofNat (own_dec x).length))]) (rest := [(.int (Int32.ofNat cc))]) rfl
    refine oS (fun _ k_ => st113 _ k_) ?_
    refine oS (fun _ k_ => XS.icmpNo X113.here hx rfl (hb hby d36_247) rfl (XT.ii_ne_f (rfl : (Int32.ofNat cc) = (Int32.ofNat cc))) k_) ?_
    show oE p e below s _ _ _ (T113.setTop (mkF m 250 #[.val (.ref st), .val (.int (Int32.ofNat ap)), .val (.int x), .val (.int (Int32.ofNat (own_dec x).length))] []))
    exact own_na11 hw hZ hx hby hlk hret hml hown Z0 Wd OZ E0 V0 C0 B0 hat hln _ _ X113 e113 N113
  · refine oS (fun _ k_ => XS.icmpYes X.here hx rfl (pc0 := 230) (pc' := 250) rfl (hb hby d36_230) rfl (XT.ii_ge_t hcL) (by decide) (by decide) k_) ?_
    show oE p e below s _ _ _ (T.setTop (mkF m 250 #[.val (.ref st), .val (.int (Int32.ofNat ap)), .val (.int x), .val (.int (Int32.ofNat (own_dec x).length))] []))
    exact own_na11 hw hZ hx hby hlk hret hml hown Z0 Wd OZ E0 V0 C0 B0 hat hln _ _ X e0 N0
theorem own_na9 {p : Program} {l : Launch} {e : Env} {s : State} {m : MethodId} {below : List Frame} {meth : Method} {c : Code} {Z : State} {a0 : Array Value} (hw : ∀ d ∈ tables_1, d.before a0 Z = true) (hZ : Z.Warmed39 s.vm) (hx : p.tables.exec = Jvm.exec) (hby : c.code = method_9_code) (hlk : meth.locks = false) (hret : meth.sig.returnType = some .boolean) (hml : c.maxLocals = 4) (hown : s.vm.findClass "com/example/nalog/nalog/OrderCountAddPinLaw" = some m.cls) {st : Addr} {x : Int32} {cs : Int32} {fm : Value} {d1 d2 : Addr} {sa : Addr} {bs : List Nat} {ap : Nat} {h0 : Heap} {n0 : Nat} (Z0 : n0 ≤ h0.size) (Wd : own_Wd Z cs fm d1 d2) (OZ : Old Z n0 h0) (E0 : Exa Z h0 st "java/lang/String") (V0 : Fld Z h0 st "java/lang/String" "value" "[B" (.ref sa)) (C0 : Fld Z h0 st "java/lang/String" "coder" "B" (.int 0)) (B0 : own_By Z h0 sa bs) (hat : ∀ k cc, (own_dec x)[k]? = some cc → bs[ap + k]? = some cc) (hln : ap + (own_dec x).length ≤ bs.length) (T : State) (locs : List Loc) (X : Stand p l e ({ frames := 4, cells := 0, slots := 0, locals := 70 } : Room) s m #[.ref st, .int (Int32.ofNat ap), .int x] below meth c T locs 0 0) (e0 : T.heap = h0) (N0 : Fr n0 locs) : oE p e below s 0 0 (Qna Z st x cs fm d1 d2 sa bs ap h0 n0) (T.setTop (mkF m 204 #[.val (.ref st), .val (.int (Int32.ofNat ap)), .val (.int x), .val (.int (Int32.ofNat (own_dec x).length))] [])) := by
  show oE p e below s _ _ _ (T.setTop (mkF m 204 #[.val (.ref st), .val (.int (Int32.ofNat ap)), .val (.int x), .val (.int (Int32.ofNat (own_dec x).length))] []))
  have hdl := own_dec_len x
  have hbl := B0.len
  refine oS (fun _ k_ => XS.bipush X.here hx rfl (hb hby d36_204) (XS.iloadN X.here hx rfl (hb hby d36_206) rfl k_)) ?_
  by_cases hcL : (9 : Int32) < (Int32.ofNat (own_dec x).length)
  · refine oS (fun _ k_ => XS.icmpNo X.here hx rfl (hb hby d36_207) rfl (XT.ii_ge_f hcL) k_) ?_
    show oE p e below s _ _ _ (T.setTop (mkF m 210 #[.val (.ref st), .val (.int (Int32.ofNat ap)), .val (.int x), .val (.int (Int32.ofNat (own_dec x).length))] []))
    have hkl : 9 < (own_dec x).length := (own_ltN (a := 9) (by omega) (by omega)).mp hcL
    obtain ⟨cc, hcc⟩ : ∃ cc, (own_dec x)[9]? = some cc := ⟨_, List.getElem?_eq_getElem hkl⟩
    refine oS (fun _ k_ => XS.aloadN X.here hx rfl (hb hby d36_210) rfl rfl (XS.iloadN X.here hx rfl (hb hby d36_211) rfl (XS.bipush X.here hx rfl (hb hby d36_212) (XS.iadd X.here hx rfl (hb hby d36_214) rfl k_)))) ?_
    show oE p e below s _ _ _ (T.setTop (mkF m 215 #[.val (.ref st), .val (.int (Int32.ofNat ap)), .val (.int x), .val (.int (Int32.ofNat (own_dec x).length))] [(.int ((Int32.ofNat ap) + (9 : Int32))), (.ref st)]))
    rw [show Int32.ofNat ap + (9 : Int32) = Int32.ofNat (ap + 9) from own_add _ 9]
    obtain ⟨T114, L114, X114, N114, e114, st114⟩ := cl_rmch X hw hZ hx hown (wd_ hw 227 rfl) st cs fm d1 d2 sa bs (ap + 9) cc Z0 Wd OZ E0 V0 C0 B0 (hat 9 cc hcc) e0 E0 N0 hml rfl (hb hby d36_215) (Ls := #[.val (.ref st), .val (.int (Int32.ofNat ap)), .val (.int x), .val (.int (Int32.ofNat (own_dec x).length))]) (rest := []) rfl
    refine oS (fun _ k_ => st114 _ k_) ?_
    refine oS (fun _ k_ => XS.iloadN X114.here hx rfl (hb hby d36_218) rfl (XS.bipush X114.here hx rfl (hb hby d36_219) k_)) ?_
    obtain ⟨T115, L115, X115, N115, e115, st115⟩ := cl_rmdc X114 hw hZ hx hown (wd_ hw 249 rfl) x 9 cc Z0 hcc e114 N114 hml rfl (hb hby d36_221) (Ls := #[.val (.ref st), .val (.int (Int32.ofNat ap)), .val (.int x), .val (.int (Int32.ofNat (own_dec x).length))]) (rest := [(.int (Int32.ofNat cc))]) rfl
    refine oS (fun _ k_ => st115 _ k_) ?_
    refine oS (fun _ k_ => XS.icmpNo X115.here hx rfl (hb hby d36_224) rfl (XT.ii_ne_f (rfl : (Int32.ofNat cc) = (Int32.ofNat cc))) k_) ?_
    show oE p e below s _ _ _ (T115.setTop (mkF m 227 #[.val (.ref st), .val (.int (Int32.ofNat ap)), .val (.int x), .val (.int (Int32.ofNat (own_dec x).length))] []))
    exact own_na10 hw hZ hx hby hlk hret hml hown Z0 Wd OZ E0 V0 C0 B0 hat hln _ _ X115 e115 N115
  · refine oS (fun _ k_ => XS.icmpYes X.here hx rfl (pc0 := 207) (pc' := 227) rfl (hb hby d36_207) rfl (XT.ii_ge_t hcL) (by decide) (by decide) k_) ?_
    show oE p e below s _ _ _ (T.setTop (mkF m 227 #[.val (.ref st), .val (.int (Int32.ofNat ap)), .val (.int x), .val (.int (Int32.ofNat (own_dec x).length))] []))
    exact own_na10 hw hZ hx hby hlk hret hml hown Z0 Wd OZ E0 V0 C0 B0 hat hln _ _ X e0 N0
theorem own_na8 {p : Program} {l : Launch} {e : Env} {s : State} {m : MethodId} {below : List Frame} {meth : Method} {c : Code} {Z : State} {a0 : Array Value} (hw : ∀ d ∈ tables_1, d.before a0 Z = true) (hZ : Z.Warmed39 s.vm) (hx : p.tables.exec = Jvm.exec) (hby : c.code = method_9_code) (hlk : meth.locks = false) (hret : meth.sig.returnType = some .boolean) (hml : c.maxLocals = 4) (hown : s.vm.findClass "com/example/nalog/nalog/OrderCountAddPinLaw" = some m.cls) {st : Addr} {x : Int32} {cs : Int32} {fm : Value} {d1 d2 : Addr} {sa : Addr} {bs : List Nat} {ap : Nat} {h0 : Heap} {n0 : Nat} (Z0 : n0 ≤ h0.size) (Wd : own_Wd Z cs fm d1 d2) (OZ : Old Z n0 h0) (E0 : Exa Z h0 st "java/lang/String") (V0 : Fld Z h0 st "java/lang/String" "value" "[B" (.ref sa)) (C0 : Fld Z h0 st "java/lang/String" "coder" "B" (.int 0)) (B0 : own_By Z h0 sa bs) (hat : ∀ k cc, (own_dec x)[k]? = some cc → bs[ap + k]? = some cc) (hln : ap + (own_dec x).length ≤ bs.length) (T : State) (locs : List Loc) (X : Stand p l e ({ frames := 4, cells := 0, slots := 0, locals := 70 } : Room) s m #[.ref st, .int (Int32.ofNat ap), .int x] below meth c T locs 0 0) (e0 : T.heap = h0) (N0 : Fr n0 locs) : oE p e below s 0 0 (Qna Z st x cs fm d1 d2 sa bs ap h0 n0) (T.setTop (mkF m 181 #[.val (.ref st), .val (.int (Int32.ofNat ap)), .val (.int x), .val (.int (Int32.ofNat (own_dec x).length))] [])) := by
  show oE p e below s _ _ _ (T.setTop (mkF m 181 #[.val (.ref st), .val (.int (Int32.ofNat ap)), .val (.int x), .val (.int (Int32.ofNat (own_dec x).length))] []))
  have hdl := own_dec_len x
  have hbl := B0.len
  refine oS (fun _ k_ => XS.bipush X.here hx rfl (hb hby d36_181) (XS.iloadN X.here hx rfl (hb hby d36_183) rfl k_)) ?_
  by_cases hcL : (8 : Int32) < (Int32.ofNat (own_dec x).length)
  · refine oS (fun _ k_ => XS.icmpNo X.here hx rfl (hb hby d36_184) rfl (XT.ii_ge_f hcL) k_) ?_
    show oE p e below s _ _ _ (T.setTop (mkF m 187 #[.val (.ref st), .val (.int (Int32.ofNat ap)), .val (.int x), .val (.int (Int32.ofNat (own_dec x).length))] []))
    have hkl : 8 < (own_dec x).length := (own_ltN (a := 8) (by omega) (by omega)).mp hcL
    obtain ⟨cc, hcc⟩ : ∃ cc, (own_dec x)[8]? = some cc := ⟨_, List.getElem?_eq_getElem hkl⟩
    refine oS (fun _ k_ => XS.aloadN X.here hx rfl (hb hby d36_187) rfl rfl (XS.iloadN X.here hx rfl (hb hby d36_188) rfl (XS.bipush X.here hx rfl (hb hby d36_189) (XS.iadd X.here hx rfl (hb hby d36_191) rfl k_)))) ?_
    show oE p e below s _ _ _ (T.setTop (mkF m 192 #[.val (.ref st), .val (.int (Int32.ofNat ap)), .val (.int x), .val (.int (Int32.ofNat (own_dec x).length))] [(.int ((Int32.ofNat ap) + (8 : Int32))), (.ref st)]))
    rw [show Int32.ofNat ap + (8 : Int32) = Int32.ofNat (ap + 8) from own_add _ 8]
    obtain ⟨T116, L116, X116, N116, e116, st116⟩ := cl_rmch X hw hZ hx hown (wd_ hw 227 rfl) st cs fm d1 d2 sa bs (ap + 8) cc Z0 Wd OZ E0 V0 C0 B0 (hat 8 cc hcc) e0 E0 N0 hml rfl (hb hby d36_192) (Ls := #[.val (.ref st), .val (.int (Int32.ofNat ap)), .val (.int x), .val (.int (Int32.ofNat (own_dec x).length))]) (rest := []) rfl
    refine oS (fun _ k_ => st116 _ k_) ?_
    refine oS (fun _ k_ => XS.iloadN X116.here hx rfl (hb hby d36_195) rfl (XS.bipush X116.here hx rfl (hb hby d36_196) k_)) ?_
    obtain ⟨T117, L117, X117, N117, e117, st117⟩ := cl_rmdc X116 hw hZ hx hown (wd_ hw 249 rfl) x 8 cc Z0 hcc e116 N116 hml rfl (hb hby d36_198) (Ls := #[.val (.ref st), .val (.int (Int32.ofNat ap)), .val (.int x), .val (.int (Int32.ofNat (own_dec x).length))]) (rest := [(.int (Int32.ofNat cc))]) rfl
    refine oS (fun _ k_ => st117 _ k_) ?_
    refine oS (fun _ k_ => XS.icmpNo X117.here hx rfl (hb hby d36_201) rfl (XT.ii_ne_f (rfl : (Int32.ofNat cc) = (Int32.ofNat cc))) k_) ?_
    show oE p e below s _ _ _ (T117.setTop (mkF m 204 #[.val (.ref st), .val (.int (Int32.ofNat ap)), .val (.int x), .val (.int (Int32.ofNat (own_dec x).length))] []))
    exact own_na9 hw hZ hx hby hlk hret hml hown Z0 Wd OZ E0 V0 C0 B0 hat hln _ _ X117 e117 N117
  · refine oS (fun _ k_ => XS.icmpYes X.here hx rfl (pc0 := 184) (pc' := 204) rfl (hb hby d36_184) rfl (XT.ii_ge_t hcL) (by decide) (by decide) k_) ?_
    show oE p e below s _ _ _ (T.setTop (mkF m 204 #[.val (.ref st), .val (.int (Int32.ofNat ap)), .val (.int x), .val (.int (Int32.ofNat (own_dec x).length))] []))
    exact own_na9 hw hZ hx hby hlk hret hml hown Z0 Wd OZ E0 V0 C0 B0 hat hln _ _ X e0 N0
theorem own_na7 {p : Program} {l : Launch} {e : Env} {s : State} {m : MethodId} {below : List Frame} {meth : Method} {c : Code} {Z : State} {a0 : Array Value} (hw : ∀ d ∈ tables_1, d.before a0 Z = true) (hZ : Z.Warmed39 s.vm) (hx : p.tables.exec = Jvm.exec) (hby : c.code = method_9_code) (hlk : meth.locks = false) (hret : meth.sig.returnType = some .boolean) (hml : c.maxLocals = 4) (hown : s.vm.findClass "com/example/nalog/nalog/OrderCountAddPinLaw" = some m.cls) {st : Addr} {x : Int32} {cs : Int32} {fm : Value} {d1 d2 : Addr} {sa : Addr} {bs : List Nat} {ap : Nat} {h0 : Heap} {n0 : Nat} (Z0 : n0 ≤ h0.size) (Wd : own_Wd Z cs fm d1 d2) (OZ : Old Z n0 h0) (E0 : Exa Z h0 st "java/lang/String") (V0 : Fld Z h0 st "java/lang/String" "value" "[B" (.ref sa)) (C0 : Fld Z h0 st "java/lang/String" "coder" "B" (.int 0)) (B0 : own_By Z h0 sa bs) (hat : ∀ k cc, (own_dec x)[k]? = some cc → bs[ap + k]? = some cc) (hln : ap + (own_dec x).length ≤ bs.length) (T : State) (locs : List Loc) (X : Stand p l e ({ frames := 4, cells := 0, slots := 0, locals := 70 } : Room) s m #[.ref st, .int (Int32.ofNat ap), .int x] below meth c T locs 0 0) (e0 : T.heap = h0) (N0 : Fr n0 locs) : oE p e below s 0 0 (Qna Z st x cs fm d1 d2 sa bs ap h0 n0) (T.setTop (mkF m 158 #[.val (.ref st), .val (.int (Int32.ofNat ap)), .val (.int x), .val (.int (Int32.ofNat (own_dec x).length))] [])) := by
  show oE p e below s _ _ _ (T.setTop (mkF m 158 #[.val (.ref st), .val (.int (Int32.ofNat ap)), .val (.int x), .val (.int (Int32.ofNat (own_dec x).length))] []))
  have hdl := own_dec_len x
  have hbl := B0.len
  refine oS (fun _ k_ => XS.bipush X.here hx rfl (hb hby d36_158) (XS.iloadN X.here hx rfl (hb hby d36_160) rfl k_)) ?_
  by_cases hcL : (7 : Int32) < (Int32.ofNat (own_dec x).length)
  · refine oS (fun _ k_ => XS.icmpNo X.here hx rfl (hb hby d36_161) rfl (XT.ii_ge_f hcL) k_) ?_
    show oE p e below s _ _ _ (T.setTop (mkF m 164 #[.val (.ref st), .val (.int (Int32.ofNat ap)), .val (.int x), .val (.int (Int32.ofNat (own_dec x).length))] []))
    have hkl : 7 < (own_dec x).length := (own_ltN (a := 7) (by omega) (by omega)).mp hcL
    obtain ⟨cc, hcc⟩ : ∃ cc, (own_dec x)[7]? = some cc := ⟨_, List.getElem?_eq_getElem hkl⟩
    refine oS (fun _ k_ => XS.aloadN X.here hx rfl (hb hby d36_164) rfl rfl (XS.iloadN X.here hx rfl (hb hby d36_165) rfl (XS.bipush X.here hx rfl (hb hby d36_166) (XS.iadd X.here hx rfl (hb hby d36_168) rfl k_)))) ?_
    show oE p e below s _ _ _ (T.setTop (mkF m 169 #[.val (.ref st), .val (.int (Int32.ofNat ap)), .val (.int x), .val (.int (Int32.ofNat (own_dec x).length))] [(.int ((Int32.ofNat ap) + (7 : Int32))), (.ref st)]))
    rw [show Int32.ofNat ap + (7 : Int32) = Int32.ofNat (ap + 7) from own_add _ 7]
    obtain ⟨T118, L118, X118, N118, e118, st118⟩ := cl_rmch X hw hZ hx hown (wd_ hw 227 rfl) st cs fm d1 d2 sa bs (ap + 7) cc Z0 Wd OZ E0 V0 C0 B0 (hat 7 cc hcc) e0 E0 N0 hml rfl (hb hby d36_169) (Ls := #[.val (.ref st), .val (.int (Int32.ofNat ap)), .val (.int x), .val (.int (Int32.ofNat (own_dec x).length))]) (rest := []) rfl
    refine oS (fun _ k_ => st118 _ k_) ?_
    refine oS (fun _ k_ => XS.iloadN X118.here hx rfl (hb hby d36_172) rfl (XS.bipush X118.here hx rfl (hb hby d36_173) k_)) ?_
    obtain ⟨T119, L119, X119, N119, e119, st119⟩ := cl_rmdc X118 hw hZ hx hown (wd_ hw 249 rfl) x 7 cc Z0 hcc e118 N118 hml rfl (hb hby d36_175) (Ls := #[.val (.ref st), .val (.int (Int32.ofNat ap)), .val (.int x), .val (.int (Int32.ofNat (own_dec x).length))]) (rest := [(.int (Int32.ofNat cc))]) rfl
    refine oS (fun _ k_ => st119 _ k_) ?_
    refine oS (fun _ k_ => XS.icmpNo X119.here hx rfl (hb hby d36_178) rfl (XT.ii_ne_f (rfl : (Int32.ofNat cc) = (Int32.ofNat cc))) k_) ?_
    show oE p e below s _ _ _ (T119.setTop (mkF m 181 #[.val (.ref st), .val (.int (Int32.ofNat ap)), .val (.int x), .val (.int (Int32.ofNat (own_dec x).length))] []))
    exact own_na8 hw hZ hx hby hlk hret hml hown Z0 Wd OZ E0 V0 C0 B0 hat hln _ _ X119 e119 N119
  · refine oS (fun _ k_ => XS.icmpYes X.here hx rfl (pc0 := 161) (pc' := 181) rfl (hb hby d36_161) rfl (XT.ii_ge_t hcL) (by decide) (by decide) k_) ?_
    show oE p e below s _ _ _ (T.setTop (mkF m 181 #[.val (.ref st), .val (.int (Int32.ofNat ap)), .val (.int x), .val (.int (Int32.ofNat (own_dec x).length))] []))
    exact own_na8 hw hZ hx hby hlk hret hml hown Z0 Wd OZ E0 V0 C0 B0 hat hln _ _ X e0 N0
theorem own_na6 {p : Program} {l : Launch} {e : Env} {s : State} {m : MethodId} {below : List Frame} {meth : Method} {c : Code} {Z : State} {a0 : Array Value} (hw : ∀ d ∈ tables_1, d.before a0 Z = true) (hZ : Z.Warmed39 s.vm) (hx : p.tables.exec = Jvm.exec) (hby : c.code = method_9_code) (hlk : meth.locks = false) (hret : meth.sig.returnType = some .boolean) (hml : c.maxLocals = 4) (hown : s.vm.findClass "com/example/nalog/nalog/OrderCountAddPinLaw" = some m.cls) {st : Addr} {x : Int32} {cs : Int32} {fm : Value} {d1 d2 : Addr} {sa : Addr} {bs : List Nat} {ap : Nat} {h0 : Heap} {n0 : Nat} (Z0 : n0 ≤ h0.size) (Wd : own_Wd Z cs fm d1 d2) (OZ : Old Z n0 h0) (E0 : Exa Z h0 st "java/lang/String") (V0 : Fld Z h0 st "java/lang/String" "value" "[B" (.ref sa)) (C0 : Fld Z h0 st "java/lang/String" "coder" "B" (.int 0)) (B0 : own_By Z h0 sa bs) (hat : ∀ k cc, (own_dec x)[k]? = some cc → bs[ap + k]? = some cc) (hln : ap + (own_dec x).length ≤ bs.length) (T : State) (locs : List Loc) (X : Stand p l e ({ frames := 4, cells := 0, slots := 0, locals := 70 } : Room) s m #[.ref st, .int (Int32.ofNat ap), .int x] below meth c T locs 0 0) (e0 : T.heap = h0) (N0 : Fr n0 locs) : oE p e below s 0 0 (Qna Z st x cs fm d1 d2 sa bs ap h0 n0) (T.setTop (mkF m 135 #[.val (.ref st), .val (.int (Int32.ofNat ap)), .val (.int x), .val (.int (Int32.ofNat (own_dec x).length))] [])) := by
  show oE p e below s _ _ _ (T.setTop (mkF m 135 #[.val (.ref st), .val (.int (Int32.ofNat ap)), .val (.int x), .val (.int (Int32.ofNat (own_dec x).length))] []))
  have hdl := own_dec_len x
  have hbl := B0.len
  refine oS (fun _ k_ => XS.bipush X.here hx rfl (hb hby d36_135) (XS.iloadN X.here hx rfl (hb hby d36_137) rfl k_)) ?_
  by_cases hcL : (6 : Int32) < (Int32.ofNat (own_dec x).length)
  · refine oS (fun _ k_ => XS.icmpNo X.here hx rfl (hb hby d36_138) rfl (XT.ii_ge_f hcL) k_) ?_
    show oE p e below s _ _ _ (T.setTop (mkF m 141 #[.val (.ref st), .val (.int (Int32.ofNat ap)), .val (.int x), .val (.int (Int32.ofNat (own_dec x).length))] []))
    have hkl : 6 < (own_dec x).length := (own_ltN (a := 6) (by omega) (by omega)).mp hcL
    obtain ⟨cc, hcc⟩ : ∃ cc, (own_dec x)[6]? = some cc := ⟨_, List.getElem?_eq_getElem hkl⟩
    refine oS (fun _ k_ => XS.aloadN X.here hx rfl (hb hby d36_141) rfl rfl (XS.iloadN X.here hx rfl (hb hby d36_142) rfl (XS.bipush X.here hx rfl (hb hby d36_143) (XS.iadd X.here hx rfl (hb hby d36_145) rfl k_)))) ?_
    show oE p e below s _ _ _ (T.setTop (mkF m 146 #[.val (.ref st), .val (.int (Int32.ofNat ap)), .val (.int x), .val (.int (Int32.ofNat (own_dec x).length))] [(.int ((Int32.ofNat ap) + (6 : Int32))), (.ref st)]))
    rw [show Int32.ofNat ap + (6 : Int32) = Int32.ofNat (ap + 6) from own_add _ 6]
    obtain ⟨T120, L120, X120, N120, e120, st120⟩ := cl_rmch X hw hZ hx hown (wd_ hw 227 rfl) st cs fm d1 d2 sa bs (ap + 6) cc Z0 Wd OZ E0 V0 C0 B0 (hat 6 cc hcc) e0 E0 N0 hml rfl (hb hby d36_146) (Ls := #[.val (.ref st), .val (.int (Int32.ofNat ap)), .val (.int x), .val (.int (Int32.ofNat (own_dec x).length))]) (rest := []) rfl
    refine oS (fun _ k_ => st120 _ k_) ?_
    refine oS (fun _ k_ => XS.iloadN X120.here hx rfl (hb hby d36_149) rfl (XS.bipush X120.here hx rfl (hb hby d36_150) k_)) ?_
    obtain ⟨T121, L121, X121, N121, e121, st121⟩ := cl_rmdc X120 hw hZ hx hown (wd_ hw 249 rfl) x 6 cc Z0 hcc e120 N120 hml rfl (hb hby d36_152) (Ls := #[.val (.ref st), .val (.int (Int32.ofNat ap)), .val (.int x), .val (.int (Int32.ofNat (own_dec x).length))]) (rest := [(.int (Int32.ofNat cc))]) rfl
    refine oS (fun _ k_ => st121 _ k_) ?_
    refine oS (fun _ k_ => XS.icmpNo X121.here hx rfl (hb hby d36_155) rfl (XT.ii_ne_f (rfl : (Int32.ofNat cc) = (Int32.ofNat cc))) k_) ?_
    show oE p e below s _ _ _ (T121.setTop (mkF m 158 #[.val (.ref st), .val (.int (Int32.ofNat ap)), .val (.int x), .val (.int (Int32.ofNat (own_dec x).length))] []))
    exact own_na7 hw hZ hx hby hlk hret hml hown Z0 Wd OZ E0 V0 C0 B0 hat hln _ _ X121 e121 N121
  · refine oS (fun _ k_ => XS.icmpYes X.here hx rfl (pc0 := 138) (pc' := 158) rfl (hb hby d36_138) rfl (XT.ii_ge_t hcL) (by decide) (by decide) k_) ?_
    show oE p e below s _ _ _ (T.setTop (mkF m 158 #[.val (.ref st), .val (.int (Int32.ofNat ap)), .val (.int x), .val (.int (Int32.ofNat (own_dec x).length))] []))
    exact own_na7 hw hZ hx hby hlk hret hml hown Z0 Wd OZ E0 V0 C0 B0 hat hln _ _ X e0 N0
theorem own_na5 {p : Program} {l : Launch} {e : Env} {s : State} {m : MethodId} {below : List Frame} {meth : Method} {c : Code} {Z : State} {a0 : Array Value} (hw : ∀ d ∈ tables_1, d.before a0 Z = true) (hZ : Z.Warmed39 s.vm) (hx : p.tables.exec = Jvm.exec) (hby : c.code = method_9_code) (hlk : meth.locks = false) (hret : meth.sig.returnType = some .boolean) (hml : c.maxLocals = 4) (hown : s.vm.findClass "com/example/nalog/nalog/OrderCountAddPinLaw" = some m.cls) {st : Addr} {x : Int32} {cs : Int32} {fm : Value} {d1 d2 : Addr} {sa : Addr} {bs : List Nat} {ap : Nat} {h0 : Heap} {n0 : Nat} (Z0 : n0 ≤ h0.size) (Wd : own_Wd Z cs fm d1 d2) (OZ : Old Z n0 h0) (E0 : Exa Z h0 st "java/lang/String") (V0 : Fld Z h0 st "java/lang/String" "value" "[B" (.ref sa)) (C0 : Fld Z h0 st "java/lang/String" "coder" "B" (.int 0)) (B0 : own_By Z h0 sa bs) (hat : ∀ k cc, (own_dec x)[k]? = some cc → bs[ap + k]? = some cc) (hln : ap + (own_dec x).length ≤ bs.length) (T : State) (locs : List Loc) (X : Stand p l e ({ frames := 4, cells := 0, slots := 0, locals := 70 } : Room) s m #[.ref st, .int (Int32.ofNat ap), .int x] below meth c T locs 0 0) (e0 : T.heap = h0) (N0 : Fr n0 locs) : oE p e below s 0 0 (Qna Z st x cs fm d1 d2 sa bs ap h0 n0) (T.setTop (mkF m 115 #[.val (.ref st), .val (.int (Int32.ofNat ap)), .val (.int x), .val (.int (Int32.ofNat (own_dec x).length))] [])) := by
  show oE p e below s _ _ _ (T.setTop (mkF m 115 #[.val (.ref st), .val (.int (Int32.ofNat ap)), .val (.int x), .val (.int (Int32.ofNat (own_dec x).length))] []))
  have hdl := own_dec_len x
  have hbl := B0.len
  refine oS (fun _ k_ => XS.iconst X.here hx rfl (hb hby d36_115) (XS.iloadN X.here hx rfl (hb hby d36_116) rfl k_)) ?_
  by_cases hcL : (5 : Int32) < (Int32.ofNat (own_dec x).length)
  · refine oS (fun _ k_ => XS.icmpNo X.here hx rfl (hb hby d36_117) rfl (XT.ii_ge_f hcL) k_) ?_
    show oE p e below s _ _ _ (T.setTop (mkF m 120 #[.val (.ref st), .val (.int (Int32.ofNat ap)), .val (.int x), .val (.int (Int32.ofNat (own_dec x).length))] []))
    have hkl : 5 < (own_dec x).length := (own_ltN (a := 5) (by omega) (by omega)).mp hcL
    obtain ⟨cc, hcc⟩ : ∃ cc, (own_dec x)[5]? = some cc := ⟨_, List.getElem?_eq_getElem hkl⟩
    refine oS (fun _ k_ => XS.aloadN X.here hx rfl (hb hby d36_120) rfl rfl (XS.iloadN X.here hx rfl (hb hby d36_121) rfl (XS.iconst X.here hx rfl (hb hby d36_122) (XS.iadd X.here hx rfl (hb hby d36_123) rfl k_)))) ?_
    show oE p e below s _ _ _ (T.setTop (mkF m 124 #[.val (.ref st), .val (.int (Int32.ofNat ap)), .val (.int x), .val (.int (Int32.ofNat (own_dec x).length))] [(.int ((Int32.ofNat ap) + (5 : Int32))), (.ref st)]))
    rw [show Int32.ofNat ap + (5 : Int32) = Int32.ofNat (ap + 5) from own_add _ 5]
    obtain ⟨T122, L122, X122, N122, e122, st122⟩ := cl_rmch X hw hZ hx hown (wd_ hw 227 rfl) st cs fm d1 d2 sa bs (ap + 5) cc Z0 Wd OZ E0 V0 C0 B0 (hat 5 cc hcc) e0 E0 N0 hml rfl (hb hby d36_124) (Ls := #[.val (.ref st), .val (.int (Int32.ofNat ap)), .val (.int x), .val (.int (Int32.ofNat (own_dec x).length))]) (rest := []) rfl
    refine oS (fun _ k_ => st122 _ k_) ?_
    refine oS (fun _ k_ => XS.iloadN X122.here hx rfl (hb hby d36_127) rfl (XS.iconst X122.here hx rfl (hb hby d36_128) k_)) ?_
    obtain ⟨T123, L123, X123, N123, e123, st123⟩ := cl_rmdc X122 hw hZ hx hown (wd_ hw 249 rfl) x 5 cc Z0 hcc e122 N122 hml rfl (hb hby d36_129) (Ls := #[.val (.ref st), .val (.int (Int32.ofNat ap)), .val (.int x), .val (.int (Int32.ofNat (own_dec x).length))]) (rest := [(.int (Int32.ofNat cc))]) rfl
    refine oS (fun _ k_ => st123 _ k_) ?_
    refine oS (fun _ k_ => XS.icmpNo X123.here hx rfl (hb hby d36_132) rfl (XT.ii_ne_f (rfl : (Int32.ofNat cc) = (Int32.ofNat cc))) k_) ?_
    show oE p e below s _ _ _ (T123.setTop (mkF m 135 #[.val (.ref st), .val (.int (Int32.ofNat ap)), .val (.int x), .val (.int (Int32.ofNat (own_dec x).length))] []))
    exact own_na6 hw hZ hx hby hlk hret hml hown Z0 Wd OZ E0 V0 C0 B0 hat hln _ _ X123 e123 N123
  · refine oS (fun _ k_ => XS.icmpYes X.here hx rfl (pc0 := 117) (pc' := 135) rfl (hb hby d36_117) rfl (XT.ii_ge_t hcL) (by decide) (by decide) k_) ?_
    show oE p e below s _ _ _ (T.setTop (mkF m 135 #[.val (.ref st), .val (.int (Int32.ofNat ap)), .val (.int x), .val (.int (Int32.ofNat (own_dec x).length))] []))
    exact own_na6 hw hZ hx hby hlk hret hml hown Z0 Wd OZ E0 V0 C0 B0 hat hln _ _ X e0 N0
theorem own_na4 {p : Program} {l : Launch} {e : Env} {s : State} {m : MethodId} {below : List Frame} {meth : Method} {c : Code} {Z : State} {a0 : Array Value} (hw : ∀ d ∈ tables_1, d.before a0 Z = true) (hZ : Z.Warmed39 s.vm) (hx : p.tables.exec = Jvm.exec) (hby : c.code = method_9_code) (hlk : meth.locks = false) (hret : meth.sig.returnType = some .boolean) (hml : c.maxLocals = 4) (hown : s.vm.findClass "com/example/nalog/nalog/OrderCountAddPinLaw" = some m.cls) {st : Addr} {x : Int32} {cs : Int32} {fm : Value} {d1 d2 : Addr} {sa : Addr} {bs : List Nat} {ap : Nat} {h0 : Heap} {n0 : Nat} (Z0 : n0 ≤ h0.size) (Wd : own_Wd Z cs fm d1 d2) (OZ : Old Z n0 h0) (E0 : Exa Z h0 st "java/lang/String") (V0 : Fld Z h0 st "java/lang/String" "value" "[B" (.ref sa)) (C0 : Fld Z h0 st "java/lang/String" "coder" "B" (.int 0)) (B0 : own_By Z h0 sa bs) (hat : ∀ k cc, (own_dec x)[k]? = some cc → bs[ap + k]? = some cc) (hln : ap + (own_dec x).length ≤ bs.length) (T : State) (locs : List Loc) (X : Stand p l e ({ frames := 4, cells := 0, slots := 0, locals := 70 } : Room) s m #[.ref st, .int (Int32.ofNat ap), .int x] below meth c T locs 0 0) (e0 : T.heap = h0) (N0 : Fr n0 locs) : oE p e below s 0 0 (Qna Z st x cs fm d1 d2 sa bs ap h0 n0) (T.setTop (mkF m 95 #[.val (.ref st), .val (.int (Int32.ofNat ap)), .val (.int x), .val (.int (Int32.ofNat (own_dec x).length))] [])) := by
  show oE p e below s _ _ _ (T.setTop (mkF m 95 #[.val (.ref st), .val (.int (Int32.ofNat ap)), .val (.int x), .val (.int (Int32.ofNat (own_dec x).length))] []))
  have hdl := own_dec_len x
  have hbl := B0.len
  refine oS (fun _ k_ => XS.iconst X.here hx rfl (hb hby d36_95) (XS.iloadN X.here hx rfl (hb hby d36_96) rfl k_)) ?_
  by_cases hcL : (4 : Int32) < (Int32.ofNat (own_dec x).length)
  · refine oS (fun _ k_ => XS.icmpNo X.here hx rfl (hb hby d36_97) rfl (XT.ii_ge_f hcL) k_) ?_
    show oE p e below s _ _ _ (T.setTop (mkF m 100 #[.val (.ref st), .val (.int (Int32.ofNat ap)), .val (.int x), .val (.int (Int32.ofNat (own_dec x).length))] []))
    have hkl : 4 < (own_dec x).length := (own_ltN (a := 4) (by omega) (by omega)).mp hcL
    obtain ⟨cc, hcc⟩ : ∃ cc, (own_dec x)[4]? = some cc := ⟨_, List.getElem?_eq_getElem hkl⟩
    refine oS (fun _ k_ => XS.aloadN X.here hx rfl (hb hby d36_100) rfl rfl (XS.iloadN X.here hx rfl (hb hby d36_101) rfl (XS.iconst X.here hx rfl (hb hby d36_102) (XS.iadd X.here hx rfl (hb hby d36_103) rfl k_)))) ?_
    show oE p e below s _ _ _ (T.setTop (mkF m 104 #[.val (.ref st), .val (.int (Int32.ofNat ap)), .val (.int x), .val (.int (Int32.ofNat (own_dec x).length))] [(.int ((Int32.ofNat ap) + (4 : Int32))), (.ref st)]))
    rw [show Int32.ofNat ap + (4 : Int32) = Int32.ofNat (ap + 4) from own_add _ 4]
    obtain ⟨T124, L124, X124, N124, e124, st124⟩ := cl_rmch X hw hZ hx hown (wd_ hw 227 rfl) st cs fm d1 d2 sa bs (ap + 4) cc Z0 Wd OZ E0 V0 C0 B0 (hat 4 cc hcc) e0 E0 N0 hml rfl (hb hby d36_104) (Ls := #[.val (.ref st), .val (.int (Int32.ofNat ap)), .val (.int x), .val (.int (Int32.ofNat (own_dec x).length))]) (rest := []) rfl
    refine oS (fun _ k_ => st124 _ k_) ?_
    refine oS (fun _ k_ => XS.iloadN X124.here hx rfl (hb hby d36_107) rfl (XS.iconst X124.here hx rfl (hb hby d36_108) k_)) ?_
    obtain ⟨T125, L125, X125, N125, e125, st125⟩ := cl_rmdc X124 hw hZ hx hown (wd_ hw 249 rfl) x 4 cc Z0 hcc e124 N124 hml rfl (hb hby d36_109) (Ls := #[.val (.ref st), .val (.int (Int32.ofNat ap)), .val (.int x), .val (.int (Int32.ofNat (own_dec x).length))]) (rest := [(.int (Int32.ofNat cc))]) rfl
    refine oS (fun _ k_ => st125 _ k_) ?_
    refine oS (fun _ k_ => XS.icmpNo X125.here hx rfl (hb hby d36_112) rfl (XT.ii_ne_f (rfl : (Int32.ofNat cc) = (Int32.ofNat cc))) k_) ?_
    show oE p e below s _ _ _ (T125.setTop (mkF m 115 #[.val (.ref st), .val (.int (Int32.ofNat ap)), .val (.int x), .val (.int (Int32.ofNat (own_dec x).length))] []))
    exact own_na5 hw hZ hx hby hlk hret hml hown Z0 Wd OZ E0 V0 C0 B0 hat hln _ _ X125 e125 N125
  · refine oS (fun _ k_ => XS.icmpYes X.here hx rfl (pc0 := 97) (pc' := 115) rfl (hb hby d36_97) rfl (XT.ii_ge_t hcL) (by decide) (by decide) k_) ?_
    show oE p e below s _ _ _ (T.setTop (mkF m 115 #[.val (.ref st), .val (.int (Int32.ofNat ap)), .val (.int x), .val (.int (Int32.ofNat (own_dec x).length))] []))
    exact own_na5 hw hZ hx hby hlk hret hml hown Z0 Wd OZ E0 V0 C0 B0 hat hln _ _ X e0 N0
theorem own_na3 {p : Program} {l : Launch} {e : Env} {s : State} {m : MethodId} {below : List Frame} {meth : Method} {c : Code} {Z : State} {a0 : Array Value} (hw : ∀ d ∈ tables_1, d.before a0 Z = true) (hZ : Z.Warmed39 s.vm) (hx : p.tables.exec = Jvm.exec) (hby : c.code = method_9_code) (hlk : meth.locks = false) (hret : meth.sig.returnType = some .boolean) (hml : c.maxLocals = 4) (hown : s.vm.findClass "com/example/nalog/nalog/OrderCountAddPinLaw" = some m.cls) {st : Addr} {x : Int32} {cs : Int32} {fm : Value} {d1 d2 : Addr} {sa : Addr} {bs : List Nat} {ap : Nat} {h0 : Heap} {n0 : Nat} (Z0 : n0 ≤ h0.size) (Wd : own_Wd Z cs fm d1 d2) (OZ : Old Z n0 h0) (E0 : Exa Z h0 st "java/lang/String") (V0 : Fld Z h0 st "java/lang/String" "value" "[B" (.ref sa)) (C0 : Fld Z h0 st "java/lang/String" "coder" "B" (.int 0)) (B0 : own_By Z h0 sa bs) (hat : ∀ k cc, (own_dec x)[k]? = some cc → bs[ap + k]? = some cc) (hln : ap + (own_dec x).length ≤ bs.length) (T : State) (locs : List Loc) (X : Stand p l e ({ frames := 4, cells := 0, slots := 0, locals := 70 } : Room) s m #[.ref st, .int (Int32.ofNat ap), .int x] below meth c T locs 0 0) (e0 : T.heap = h0) (N0 : Fr n0 locs) : oE p e below s 0 0 (Qna Z st x cs fm d1 d2 sa bs ap h0 n0) (T.setTop (mkF m 75 #[.val (.ref st), .val (.int (Int32.ofNat ap)), .val (.int x), .val (.int (Int32.ofNat (own_dec x).length))] [])) := by
  show oE p e below s _ _ _ (T.setTop (mkF m 75 #[.val (.ref st), .val (.int (Int32.ofNat ap)), .val (.int x), .val (.int (Int32.ofNat (own_dec x).length))] []))
  have hdl := own_dec_len x
  have hbl := B0.len
  refine oS (fun _ k_ => XS.iconst X.here hx rfl (hb hby d36_75) (XS.iloadN X.here hx rfl (hb hby d36_76) rfl k_)) ?_
  by_cases hcL : (3 : Int32) < (Int32.ofNat (own_dec x).length)
  · refine oS (fun _ k_ => XS.icmpNo X.here hx rfl (hb hby d36_77) rfl (XT.ii_ge_f hcL) k_) ?_
    show oE p e below s _ _ _ (T.setTop (mkF m 80 #[.val (.ref st), .val (.int (Int32.ofNat ap)), .val (.int x), .val (.int (Int32.ofNat (own_dec x).length))] []))
    have hkl : 3 < (own_dec x).length := (own_ltN (a := 3) (by omega) (by omega)).mp hcL
    obtain ⟨cc, hcc⟩ : ∃ cc, (own_dec x)[3]? = some cc := ⟨_, List.getElem?_eq_getElem hkl⟩
    refine oS (fun _ k_ => XS.aloadN X.here hx rfl (hb hby d36_80) rfl rfl (XS.iloadN X.here hx rfl (hb hby d36_81) rfl (XS.iconst X.here hx rfl (hb hby d36_82) (XS.iadd X.here hx rfl (hb hby d36_83) rfl k_)))) ?_
    show oE p e below s _ _ _ (T.setTop (mkF m 84 #[.val (.ref st), .val (.int (Int32.ofNat ap)), .val (.int x), .val (.int (Int32.ofNat (own_dec x).length))] [(.int ((Int32.ofNat ap) + (3 : Int32))), (.ref st)]))
    rw [show Int32.ofNat ap + (3 : Int32) = Int32.ofNat (ap + 3) from own_add _ 3]
    obtain ⟨T126, L126, X126, N126, e126, st126⟩ := cl_rmch X hw hZ hx hown (wd_ hw 227 rfl) st cs fm d1 d2 sa bs (ap + 3) cc Z0 Wd OZ E0 V0 C0 B0 (hat 3 cc hcc) e0 E0 N0 hml rfl (hb hby d36_84) (Ls := #[.val (.ref st), .val (.int (Int32.ofNat ap)), .val (.int x), .val (.int (Int32.ofNat (own_dec x).length))]) (rest := []) rfl
    refine oS (fun _ k_ => st126 _ k_) ?_
    refine oS (fun _ k_ => XS.iloadN X126.here hx rfl (hb hby d36_87) rfl (XS.iconst X126.here hx rfl (hb hby d36_88) k_)) ?_
    obtain ⟨T127, L127, X127, N127, e127, st127⟩ := cl_rmdc X126 hw hZ hx hown (wd_ hw 249 rfl) x 3 cc Z0 hcc e126 N126 hml rfl (hb hby d36_89) (Ls := #[.val (.ref st), .val (.int (Int32.ofNat ap)), .val (.int x), .val (.int (Int32.ofNat (own_dec x).length))]) (rest := [(.int (Int32.ofNat cc))]) rfl
    refine oS (fun _ k_ => st127 _ k_) ?_
    refine oS (fun _ k_ => XS.icmpNo X127.here hx rfl (hb hby d36_92) rfl (XT.ii_ne_f (rfl : (Int32.ofNat cc) = (Int32.ofNat cc))) k_) ?_
    show oE p e below s _ _ _ (T127.setTop (mkF m 95 #[.val (.ref st), .val (.int (Int32.ofNat ap)), .val (.int x), .val (.int (Int32.ofNat (own_dec x).length))] []))
    exact own_na4 hw hZ hx hby hlk hret hml hown Z0 Wd OZ E0 V0 C0 B0 hat hln _ _ X127 e127 N127
  · refine oS (fun _ k_ => XS.icmpYes X.here hx rfl (pc0 := 77) (pc' := 95) rfl (hb hby d36_77) rfl (XT.ii_ge_t hcL) (by decide) (by decide) k_) ?_
    show oE p e below s _ _ _ (T.setTop (mkF m 95 #[.val (.ref st), .val (.int (Int32.ofNat ap)), .val (.int x), .val (.int (Int32.ofNat (own_dec x).length))] []))
    exact own_na4 hw hZ hx hby hlk hret hml hown Z0 Wd OZ E0 V0 C0 B0 hat hln _ _ X e0 N0
theorem own_na2 {p : Program} {l : Launch} {e : Env} {s : State} {m : MethodId} {below : List Frame} {meth : Method} {c : Code} {Z : State} {a0 : Array Value} (hw : ∀ d ∈ tables_1, d.before a0 Z = true) (hZ : Z.Warmed39 s.vm) (hx : p.tables.exec = Jvm.exec) (hby : c.code = method_9_code) (hlk : meth.locks = false) (hret : meth.sig.returnType = some .boolean) (hml : c.maxLocals = 4) (hown : s.vm.findClass "com/example/nalog/nalog/OrderCountAddPinLaw" = some m.cls) {st : Addr} {x : Int32} {cs : Int32} {fm : Value} {d1 d2 : Addr} {sa : Addr} {bs : List Nat} {ap : Nat} {h0 : Heap} {n0 : Nat} (Z0 : n0 ≤ h0.size) (Wd : own_Wd Z cs fm d1 d2) (OZ : Old Z n0 h0) (E0 : Exa Z h0 st "java/lang/String") (V0 : Fld Z h0 st "java/lang/String" "value" "[B" (.ref sa)) (C0 : Fld Z h0 st "java/lang/String" "coder" "B" (.int 0)) (B0 : own_By Z h0 sa bs) (hat : ∀ k cc, (own_dec x)[k]? = some cc → bs[ap + k]? = some cc) (hln : ap + (own_dec x).length ≤ bs.length) (T : State) (locs : List Loc) (X : Stand p l e ({ frames := 4, cells := 0, slots := 0, locals := 70 } : Room) s m #[.ref st, .int (Int32.ofNat ap), .int x] below meth c T locs 0 0) (e0 : T.heap = h0) (N0 : Fr n0 locs) : oE p e below s 0 0 (Qna Z st x cs fm d1 d2 sa bs ap h0 n0) (T.setTop (mkF m 55 #[.val (.ref st), .val (.int (Int32.ofNat ap)), .val (.int x), .val (.int (Int32.ofNat (own_dec x).length))] [])) := by
  show oE p e below s _ _ _ (T.setTop (mkF m 55 #[.val (.ref st), .val (.int (Int32.ofNat ap)), .val (.int x), .val (.int (Int32.ofNat (own_dec x).length))] []))
  have hdl := own_dec_len x
  have hbl := B0.len
  refine oS (fun _ k_ => XS.iconst X.here hx rfl (hb hby d36_55) (XS.iloadN X.here hx rfl (hb hby d36_56) rfl k_)) ?_
  by_cases hcL : (2 : Int32) < (Int32.ofNat (own_dec x).length)
  · refine oS (fun _ k_ => XS.icmpNo X.here hx rfl (hb hby d36_57) rfl (XT.ii_ge_f hcL) k_) ?_
    show oE p e below s _ _ _ (T.setTop (mkF m 60 #[.val (.ref st), .val (.int (Int32.ofNat ap)), .val (.int x), .val (.int (Int32.ofNat (own_dec x).length))] []))
    have hkl : 2 < (own_dec x).length := (own_ltN (a := 2) (by omega) (by omega)).mp hcL
    obtain ⟨cc, hcc⟩ : ∃ cc, (own_dec x)[2]? = some cc := ⟨_, List.getElem?_eq_getElem hkl⟩
    refine oS (fun _ k_ => XS.aloadN X.here hx rfl (hb hby d36_60) rfl rfl (XS.iloadN X.here hx rfl (hb hby d36_61) rfl (XS.iconst X.here hx rfl (hb hby d36_62) (XS.iadd X.here hx rfl (hb hby d36_63) rfl k_)))) ?_
    show oE p e below s _ _ _ (T.setTop (mkF m 64 #[.val (.ref st), .val (.int (Int32.ofNat ap)), .val (.int x), .val (.int (Int32.ofNat (own_dec x).length))] [(.int ((Int32.ofNat ap) + (2 : Int32))), (.ref st)]))
    rw [show Int32.ofNat ap + (2 : Int32) = Int32.ofNat (ap + 2) from own_add _ 2]
    obtain ⟨T128, L128, X128, N128, e128, st128⟩ := cl_rmch X hw hZ hx hown (wd_ hw 227 rfl) st cs fm d1 d2 sa bs (ap + 2) cc Z0 Wd OZ E0 V0 C0 B0 (hat 2 cc hcc) e0 E0 N0 hml rfl (hb hby d36_64) (Ls := #[.val (.ref st), .val (.int (Int32.ofNat ap)), .val (.int x), .val (.int (Int32.ofNat (own_dec x).length))]) (rest := []) rfl
    refine oS (fun _ k_ => st128 _ k_) ?_
    refine oS (fun _ k_ => XS.iloadN X128.here hx rfl (hb hby d36_67) rfl (XS.iconst X128.here hx rfl (hb hby d36_68) k_)) ?_
    obtain ⟨T129, L129, X129, N129, e129, st129⟩ := cl_rmdc X128 hw hZ hx hown (wd_ hw 249 rfl) x 2 cc Z0 hcc e128 N128 hml rfl (hb hby d36_69) (Ls := #[.val (.ref st), .val (.int (Int32.ofNat ap)), .val (.int x), .val (.int (Int32.ofNat (own_dec x).length))]) (rest := [(.int (Int32.ofNat cc))]) rfl
    refine oS (fun _ k_ => st129 _ k_) ?_
    refine oS (fun _ k_ => XS.icmpNo X129.here hx rfl (hb hby d36_72) rfl (XT.ii_ne_f (rfl : (Int32.ofNat cc) = (Int32.ofNat cc))) k_) ?_
    show oE p e below s _ _ _ (T129.setTop (mkF m 75 #[.val (.ref st), .val (.int (Int32.ofNat ap)), .val (.int x), .val (.int (Int32.ofNat (own_dec x).length))] []))
    exact own_na3 hw hZ hx hby hlk hret hml hown Z0 Wd OZ E0 V0 C0 B0 hat hln _ _ X129 e129 N129
  · refine oS (fun _ k_ => XS.icmpYes X.here hx rfl (pc0 := 57) (pc' := 75) rfl (hb hby d36_57) rfl (XT.ii_ge_t hcL) (by decide) (by decide) k_) ?_
    show oE p e below s _ _ _ (T.setTop (mkF m 75 #[.val (.ref st), .val (.int (Int32.ofNat ap)), .val (.int x), .val (.int (Int32.ofNat (own_dec x).length))] []))
    exact own_na3 hw hZ hx hby hlk hret hml hown Z0 Wd OZ E0 V0 C0 B0 hat hln _ _ X e0 N0
theorem own_na1 {p : Program} {l : Launch} {e : Env} {s : State} {m : MethodId} {below : List Frame} {meth : Method} {c : Code} {Z : State} {a0 : Array Value} (hw : ∀ d ∈ tables_1, d.before a0 Z = true) (hZ : Z.Warmed39 s.vm) (hx : p.tables.exec = Jvm.exec) (hby : c.code = method_9_code) (hlk : meth.locks = false) (hret : meth.sig.returnType = some .boolean) (hml : c.maxLocals = 4) (hown : s.vm.findClass "com/example/nalog/nalog/OrderCountAddPinLaw" = some m.cls) {st : Addr} {x : Int32} {cs : Int32} {fm : Value} {d1 d2 : Addr} {sa : Addr} {bs : List Nat} {ap : Nat} {h0 : Heap} {n0 : Nat} (Z0 : n0 ≤ h0.size) (Wd : own_Wd Z cs fm d1 d2) (OZ : Old Z n0 h0) (E0 : Exa Z h0 st "java/lang/String") (V0 : Fld Z h0 st "java/lang/String" "value" "[B" (.ref sa)) (C0 : Fld Z h0 st "java/lang/String" "coder" "B" (.int 0)) (B0 : own_By Z h0 sa bs) (hat : ∀ k cc, (own_dec x)[k]? = some cc → bs[ap + k]? = some cc) (hln : ap + (own_dec x).length ≤ bs.length) (T : State) (locs : List Loc) (X : Stand p l e ({ frames := 4, cells := 0, slots := 0, locals := 70 } : Room) s m #[.ref st, .int (Int32.ofNat ap), .int x] below meth c T locs 0 0) (e0 : T.heap = h0) (N0 : Fr n0 locs) : oE p e below s 0 0 (Qna Z st x cs fm d1 d2 sa bs ap h0 n0) (T.setTop (mkF m 35 #[.val (.ref st), .val (.int (Int32.ofNat ap)), .val (.int x), .val (.int (Int32.ofNat (own_dec x).length))] [])) := by
  show oE p e below s _ _ _ (T.setTop (mkF m 35 #[.val (.ref st), .val (.int (Int32.ofNat ap)), .val (.int x), .val (.int (Int32.ofNat (own_dec x).length))] []))
  have hdl := own_dec_len x
  have hbl := B0.len
  refine oS (fun _ k_ => XS.iconst X.here hx rfl (hb hby d36_35) (XS.iloadN X.here hx rfl (hb hby d36_36) rfl k_)) ?_
  by_cases hcL : (1 : Int32) < (Int32.ofNat (own_dec x).length)
  · refine oS (fun _ k_ => XS.icmpNo X.here hx rfl (hb hby d36_37) rfl (XT.ii_ge_f hcL) k_) ?_
    show oE p e below s _ _ _ (T.setTop (mkF m 40 #[.val (.ref st), .val (.int (Int32.ofNat ap)), .val (.int x), .val (.int (Int32.ofNat (own_dec x).length))] []))
    have hkl : 1 < (own_dec x).length := (own_ltN (a := 1) (by omega) (by omega)).mp hcL
    obtain ⟨cc, hcc⟩ : ∃ cc, (own_dec x)[1]? = some cc := ⟨_, List.getElem?_eq_getElem hkl⟩
    refine oS (fun _ k_ => XS.aloadN X.here hx rfl (hb hby d36_40) rfl rfl (XS.iloadN X.here hx rfl (hb hby d36_41) rfl (XS.iconst X.here hx rfl (hb hby d36_42) (XS.iadd X.here hx rfl (hb hby d36_43) rfl k_)))) ?_
    show oE p e below s _ _ _ (T.setTop (mkF m 44 #[.val (.ref st), .val (.int (Int32.ofNat ap)), .val (.int x), .val (.int (Int32.ofNat (own_dec x).length))] [(.int ((Int32.ofNat ap) + (1 : Int32))), (.ref st)]))
    rw [show Int32.ofNat ap + (1 : Int32) = Int32.ofNat (ap + 1) from own_add _ 1]
    obtain ⟨T130, L130, X130, N130, e130, st130⟩ := cl_rmch X hw hZ hx hown (wd_ hw 227 rfl) st cs fm d1 d2 sa bs (ap + 1) cc Z0 Wd OZ E0 V0 C0 B0 (hat 1 cc hcc) e0 E0 N0 hml rfl (hb hby d36_44) (Ls := #[.val (.ref st), .val (.int (Int32.ofNat ap)), .val (.int x), .val (.int (Int32.ofNat (own_dec x).length))]) (rest := []) rfl
    refine oS (fun _ k_ => st130 _ k_) ?_
    refine oS (fun _ k_ => XS.iloadN X130.here hx rfl (hb hby d36_47) rfl (XS.iconst X130.here hx rfl (hb hby d36_48) k_)) ?_
    obtain ⟨T131, L131, X131, N131, e131, st131⟩ := cl_rmdc X130 hw hZ hx hown (wd_ hw 249 rfl) x 1 cc Z0 hcc e130 N130 hml rfl (hb hby d36_49) (Ls := #[.val (.ref st), .val (.int (Int32.ofNat ap)), .val (.int x), .val (.int (Int32.ofNat (own_dec x).length))]) (rest := [(.int (Int32.ofNat cc))]) rfl
    refine oS (fun _ k_ => st131 _ k_) ?_
    refine oS (fun _ k_ => XS.icmpNo X131.here hx rfl (hb hby d36_52) rfl (XT.ii_ne_f (rfl : (Int32.ofNat cc) = (Int32.ofNat cc))) k_) ?_
    show oE p e below s _ _ _ (T131.setTop (mkF m 55 #[.val (.ref st), .val (.int (Int32.ofNat ap)), .val (.int x), .val (.int (Int32.ofNat (own_dec x).length))] []))
    exact own_na2 hw hZ hx hby hlk hret hml hown Z0 Wd OZ E0 V0 C0 B0 hat hln _ _ X131 e131 N131
  · refine oS (fun _ k_ => XS.icmpYes X.here hx rfl (pc0 := 37) (pc' := 55) rfl (hb hby d36_37) rfl (XT.ii_ge_t hcL) (by decide) (by decide) k_) ?_
    show oE p e below s _ _ _ (T.setTop (mkF m 55 #[.val (.ref st), .val (.int (Int32.ofNat ap)), .val (.int x), .val (.int (Int32.ofNat (own_dec x).length))] []))
    exact own_na2 hw hZ hx hby hlk hret hml hown Z0 Wd OZ E0 V0 C0 B0 hat hln _ _ X e0 N0
theorem own_na0 {p : Program} {l : Launch} {e : Env} {s : State} {m : MethodId} {below : List Frame} {meth : Method} {c : Code} {Z : State} {a0 : Array Value} (hw : ∀ d ∈ tables_1, d.before a0 Z = true) (hZ : Z.Warmed39 s.vm) (hx : p.tables.exec = Jvm.exec) (hby : c.code = method_9_code) (hlk : meth.locks = false) (hret : meth.sig.returnType = some .boolean) (hml : c.maxLocals = 4) (hown : s.vm.findClass "com/example/nalog/nalog/OrderCountAddPinLaw" = some m.cls) {st : Addr} {x : Int32} {cs : Int32} {fm : Value} {d1 d2 : Addr} {sa : Addr} {bs : List Nat} {ap : Nat} {h0 : Heap} {n0 : Nat} (Z0 : n0 ≤ h0.size) (Wd : own_Wd Z cs fm d1 d2) (OZ : Old Z n0 h0) (E0 : Exa Z h0 st "java/lang/String") (V0 : Fld Z h0 st "java/lang/String" "value" "[B" (.ref sa)) (C0 : Fld Z h0 st "java/lang/String" "coder" "B" (.int 0)) (B0 : own_By Z h0 sa bs) (hat : ∀ k cc, (own_dec x)[k]? = some cc → bs[ap + k]? = some cc) (hln : ap + (own_dec x).length ≤ bs.length) (T : State) (locs : List Loc) (X : Stand p l e ({ frames := 4, cells := 0, slots := 0, locals := 70 } : Room) s m #[.ref st, .int (Int32.ofNat ap), .int x] below meth c T locs 0 0) (e0 : T.heap = h0) (N0 : Fr n0 locs) : oE p e below s 0 0 (Qna Z st x cs fm d1 d2 sa bs ap h0 n0) (T.setTop (mkF m 17 #[.val (.ref st), .val (.int (Int32.ofNat ap)), .val (.int x), .val (.int (Int32.ofNat (own_dec x).length))] [])) := by
  show oE p e below s _ _ _ (T.setTop (mkF m 17 #[.val (.ref st), .val (.int (Int32.ofNat ap)), .val (.int x), .val (.int (Int32.ofNat (own_dec x).length))] []))
  have hdl := own_dec_len x
  have hbl := B0.len
  refine oS (fun _ k_ => XS.iconst X.here hx rfl (hb hby d36_17) (XS.iloadN X.here hx rfl (hb hby d36_18) rfl k_)) ?_
  by_cases hcL : (0 : Int32) < (Int32.ofNat (own_dec x).length)
  · refine oS (fun _ k_ => XS.icmpNo X.here hx rfl (hb hby d36_19) rfl (XT.ii_ge_f hcL) k_) ?_
    show oE p e below s _ _ _ (T.setTop (mkF m 22 #[.val (.ref st), .val (.int (Int32.ofNat ap)), .val (.int x), .val (.int (Int32.ofNat (own_dec x).length))] []))
    have hkl : 0 < (own_dec x).length := (own_ltN (a := 0) (by omega) (by omega)).mp hcL
    obtain ⟨cc, hcc⟩ : ∃ cc, (own_dec x)[0]? = some cc := ⟨_, List.getElem?_eq_getElem hkl⟩
    refine oS (fun _ k_ => XS.aloadN X.here hx rfl (hb hby d36_22) rfl rfl (XS.iloadN X.here hx rfl (hb hby d36_23) rfl k_)) ?_
    obtain ⟨T132, L132, X132, N132, e132, st132⟩ := cl_rmch X hw hZ hx hown (wd_ hw 227 rfl) st cs fm d1 d2 sa bs ap cc Z0 Wd OZ E0 V0 C0 B0 (hat 0 cc hcc) e0 E0 N0 hml rfl (hb hby d36_24) (Ls := #[.val (.ref st), .val (.int (Int32.ofNat ap)), .val (.int x), .val (.int (Int32.ofNat (own_dec x).length))]) (rest := []) rfl
    refine oS (fun _ k_ => st132 _ k_) ?_
    refine oS (fun _ k_ => XS.iloadN X132.here hx rfl (hb hby d36_27) rfl (XS.iconst X132.here hx rfl (hb hby d36_28) k_)) ?_
    obtain ⟨T133, L133, X133, N133, e133, st133⟩ := cl_rmdc X132 hw hZ hx hown (wd_ hw 249 rfl) x 0 cc Z0 hcc e132 N132 hml rfl (hb hby d36_29) (Ls := #[.val (.ref st), .val (.int (Int32.ofNat ap)), .val (.int x), .val (.int (Int32.ofNat (own_dec x).length))]) (rest := [(.int (Int32.ofNat cc))]) rfl
    refine oS (fun _ k_ => st133 _ k_) ?_
    refine oS (fun _ k_ => XS.icmpNo X133.here hx rfl (hb hby d36_32) rfl (XT.ii_ne_f (rfl : (Int32.ofNat cc) = (Int32.ofNat cc))) k_) ?_
    show oE p e below s _ _ _ (T133.setTop (mkF m 35 #[.val (.ref st), .val (.int (Int32.ofNat ap)), .val (.int x), .val (.int (Int32.ofNat (own_dec x).length))] []))
    exact own_na1 hw hZ hx hby hlk hret hml hown Z0 Wd OZ E0 V0 C0 B0 hat hln _ _ X133 e133 N133
  · refine oS (fun _ k_ => XS.icmpYes X.here hx rfl (pc0 := 19) (pc' := 35) rfl (hb hby d36_19) rfl (XT.ii_ge_t hcL) (by decide) (by decide) k_) ?_
    show oE p e below s _ _ _ (T.setTop (mkF m 35 #[.val (.ref st), .val (.int (Int32.ofNat ap)), .val (.int x), .val (.int (Int32.ofNat (own_dec x).length))] []))
    exact own_na1 hw hZ hx hby hlk hret hml hown Z0 Wd OZ E0 V0 C0 B0 hat hln _ _ X e0 N0
theorem ef_rmna (m : MethodId) (st : Addr) (x : Int32) (ap : Nat) : entryFrame m #[(.ref st), (.int (Int32.ofNat ap)), (.int x)] 4 = mkF m 0 #[.val (.ref st), .val (.int (Int32.ofNat ap)), .val (.int x), .unset] [] := by first | (simp [entryFrame, mkF, argsToLocals, Value.category]; done) | rfl
theorem rmna (l : Launch) (Z : State) (a0 : Array Value) (hw : ∀ d ∈ tables_1, d.before a0 Z = true) (ws : List Jvm.Cond) (st : Addr) (x : Int32) (cs : Int32) (fm : Value) (d1 d2 : Addr) (sa : Addr) (bs : List Nat) (ap : Nat) (h0 : Heap) (n0 : Nat) (Z0 : n0 ≤ h0.size) (Wd : own_Wd Z cs fm d1 d2) (OZ : Old Z n0 h0) (E0 : Exa Z h0 st "java/lang/String") (V0 : Fld Z h0 st "java/lang/String" "value" "[B" (.ref sa)) (C0 : Fld Z h0 st "java/lang/String" "coder" "B" (.int 0)) (B0 : own_By Z h0 sa bs) (hat : ∀ k cc, (own_dec x)[k]? = some cc → bs[ap + k]? = some cc) (hln : ap + (own_dec x).length ≤ bs.length) :
    own_MF l (⟨"com/example/nalog/nalog/OrderCountAddPinLaw", "numberAt", "(Ljava/lang/String;II)Z"⟩ : MethodName) method_9_code 4 (some .boolean) ws ({ frames := 4, cells := 0, slots := 0, locals := 70 } : Room) #[(.ref st), (.int (Int32.ofNat ap)), (.int x)] Z h0 (Qna Z st x cs fm d1 d2 sa bs ap h0 n0) := by
  refine MetFree.of_bodySF (plainFor_of_name pn_8) hisR ?_
  intro p e s m args below meth c s₁ Bd hml0 hP hK
  obtain ⟨rfl, hZ, hh⟩ := hP
  have hx := Bd.exec
  have hby := Bd.bytes
  have hlk : meth.locks = false := BodyLoose.notSynchronized Bd
  have hret := Bd.returns
  have hml : c.maxLocals = 4 := hml0
  have hown : s.vm.findClass "com/example/nalog/nalog/OrderCountAddPinLaw" = some m.cls := findClass_of_methodNamed Bd.named
  have hnm := (name_of_methodNamed Bd.named Bd.method).1
  have X0 : Stand p l e ({ frames := 4, cells := 0, slots := 0, locals := 70 } : Room) s m #[(.ref st), (.int (Int32.ofNat ap)), (.int x)] below meth c s₁ [] 0 0 := Stand.of_body Bd
  have e0 : s₁.heap = h0 := by rw [← hh, Bd.state]; rfl
  have N0 := Fr.nil n0
  show oE p e below s 0 0 (Qna Z st x cs fm d1 d2 sa bs ap h0 n0) (s₁.setTop (entryFrame m #[(.ref st), (.int (Int32.ofNat ap)), (.int x)] 4))
  refine oS (fun t k => castTop (ef_rmna m st x ap) k) ?_
  show oE p e below s _ _ _ (s₁.setTop (mkF m 0 #[.val (.ref st), .val (.int (Int32.ofNat ap)), .val (.int x), .unset] []))
  have hdl := own_dec_len x
  have hbl := B0.len
  refine oS (fun _ k_ => XS.iloadN X0.here hx rfl (hb hby d36_0) rfl k_) ?_
  obtain ⟨T134, L134, X134, N134, e134, st134⟩ := cl_rmdl X0 hw hZ hx hown (wd_ hw 216 rfl) x Z0 e0 N0 hml rfl (hb hby d36_1) (Ls := #[.val (.ref st), .val (.int (Int32.ofNat ap)), .val (.int x), .unset]) (rest := []) rfl
  refine oS (fun _ k_ => st134 _ k_) ?_
  refine oS (fun _ k_ => XS.istoreN X134.here hx rfl (hb hby d36_4) rfl (l' := #[.val (.ref st), .val (.int (Int32.ofNat ap)), .val (.int x), .val (.int (Int32.ofNat (own_dec x).length))]) rfl (XS.aloadN X134.here hx rfl (hb hby d36_5) rfl rfl k_)) ?_
  obtain ⟨T135, L135, X135, N135, e135, st135⟩ := cl_rmlen X134 hw hZ hx hown (wd_ hw 226 rfl) st cs fm d1 d2 sa bs Z0 Wd OZ E0 V0 C0 B0 e134 E0 N134 hml rfl (hb hby d36_6) (Ls := #[.val (.ref st), .val (.int (Int32.ofNat ap)), .val (.int x), .val (.int (Int32.ofNat (own_dec x).length))]) (rest := []) rfl
  refine oS (fun _ k_ => st135 _ k_) ?_
  refine oS (fun _ k_ => XS.iloadN X135.here hx rfl (hb hby d36_9) rfl (XS.iloadN X135.here hx rfl (hb hby d36_10) rfl (XS.iadd X135.here hx rfl (hb hby d36_11) rfl k_))) ?_
  show oE p e below s _ _ _ (T135.setTop (mkF m 12 #[.val (.ref st), .val (.int (Int32.ofNat ap)), .val (.int x), .val (.int (Int32.ofNat (own_dec x).length))] [(.int ((Int32.ofNat ap) + (Int32.ofNat (own_dec x).length))), (.int (Int32.ofNat bs.length))]))
  rw [own_add]
  refine oS (fun _ k_ => XS.icmpYes X135.here hx rfl (pc0 := 12) (pc' := 17) rfl (hb hby d36_12) rfl (XT.ii_ge_t (fun z => absurd ((own_ltN (by omega) (by omega)).mp z) (Nat.not_lt.mpr hln) : ¬ ((Int32.ofNat bs.length) < (Int32.ofNat (ap + (own_dec x).length))))) (by decide) (by decide) k_) ?_
  show oE p e below s _ _ _ (T135.setTop (mkF m 17 #[.val (.ref st), .val (.int (Int32.ofNat ap)), .val (.int x), .val (.int (Int32.ofNat (own_dec x).length))] []))
  exact own_na0 hw hZ hx hby hlk hret hml hown Z0 Wd OZ E0 V0 C0 B0 hat hln _ _ X135 e135 N135
def b_35 := method_4_code
theorem d35_0 : decode b_35 0 = .ok (.iload_n 1, 1) := by decide +kernel
theorem d35_1 : decode b_35 1 = .ok (.iconst 1, 1) := by decide +kernel
theorem d35_2 : decode b_35 2 = .ok (.if_icmp .ne 8, 3) := by decide +kernel
theorem d35_5 : decode b_35 5 = .ok (.bipush 6, 2) := by decide +kernel
theorem d35_7 : decode b_35 7 = .ok (.goto 5, 3) := by decide +kernel
theorem d35_10 : decode b_35 10 = .ok (.bipush 33, 2) := by decide +kernel
theorem d35_12 : decode b_35 12 = .ok (.istore 4, 2) := by decide +kernel
theorem d35_14 : decode b_35 14 = .ok (.aload_n 0, 1) := by decide +kernel
theorem d35_15 : decode b_35 15 = .ok (.iload 4, 2) := by decide +kernel
theorem d35_17 : decode b_35 17 = .ok (.iload_n 2, 1) := by decide +kernel
theorem d35_18 : decode b_35 18 = .ok (.invokestatic 56, 3) := by decide +kernel
theorem d35_21 : decode b_35 21 = .ok (.ifCond .ne 5, 3) := by decide +kernel
theorem d35_26 : decode b_35 26 = .ok (.iload 4, 2) := by decide +kernel
theorem d35_28 : decode b_35 28 = .ok (.iload_n 2, 1) := by decide +kernel
theorem d35_29 : decode b_35 29 = .ok (.invokestatic 60, 3) := by decide +kernel
theorem d35_32 : decode b_35 32 = .ok (.iadd, 1) := by decide +kernel
theorem d35_33 : decode b_35 33 = .ok (.istore 5, 2) := by decide +kernel
theorem d35_35 : decode b_35 35 = .ok (.aload_n 0, 1) := by decide +kernel
theorem d35_36 : decode b_35 36 = .ok (.invokevirtual 64, 3) := by decide +kernel
theorem d35_39 : decode b_35 39 = .ok (.istore 6, 2) := by decide +kernel
theorem d35_41 : decode b_35 41 = .ok (.iload_n 1, 1) := by decide +kernel
theorem d35_42 : decode b_35 42 = .ok (.iconst 1, 1) := by decide +kernel
theorem d35_43 : decode b_35 43 = .ok (.if_icmp .ne 31, 3) := by decide +kernel
theorem d35_46 : decode b_35 46 = .ok (.aload_n 0, 1) := by decide +kernel
theorem d35_47 : decode b_35 47 = .ok (.iconst 0, 1) := by decide +kernel
theorem d35_48 : decode b_35 48 = .ok (.invokevirtual 70, 3) := by decide +kernel
theorem d35_51 : decode b_35 51 = .ok (.bipush 111, 2) := by decide +kernel
theorem d35_53 : decode b_35 53 = .ok (.if_icmp .ne 17, 3) := by decide +kernel
theorem d35_56 : decode b_35 56 = .ok (.aload_n 0, 1) := by decide +kernel
theorem d35_57 : decode b_35 57 = .ok (.iconst 5, 1) := by decide +kernel
theorem d35_58 : decode b_35 58 = .ok (.invokevirtual 70, 3) := by decide +kernel
theorem d35_61 : decode b_35 61 = .ok (.bipush 32, 2) := by decide +kernel
theorem d35_63 : decode b_35 63 = .ok (.if_icmp .ne 7, 3) := by decide +kernel
theorem d35_66 : decode b_35 66 = .ok (.iconst 1, 1) := by decide +kernel
theorem d35_67 : decode b_35 67 = .ok (.goto 46, 3) := by decide +kernel
theorem d35_74 : decode b_35 74 = .ok (.aload_n 0, 1) := by decide +kernel
theorem d35_75 : decode b_35 75 = .ok (.iconst 0, 1) := by decide +kernel
theorem d35_76 : decode b_35 76 = .ok (.invokevirtual 70, 3) := by decide +kernel
theorem d35_79 : decode b_35 79 = .ok (.bipush 48, 2) := by decide +kernel
theorem d35_81 : decode b_35 81 = .ok (.iload_n 1, 1) := by decide +kernel
theorem d35_82 : decode b_35 82 = .ok (.iadd, 1) := by decide +kernel
theorem d35_83 : decode b_35 83 = .ok (.i2c, 1) := by decide +kernel
theorem d35_84 : decode b_35 84 = .ok (.if_icmp .ne 28, 3) := by decide +kernel
theorem d35_87 : decode b_35 87 = .ok (.aload_n 0, 1) := by decide +kernel
theorem d35_88 : decode b_35 88 = .ok (.iconst 1, 1) := by decide +kernel
theorem d35_89 : decode b_35 89 = .ok (.invokevirtual 70, 3) := by decide +kernel
theorem d35_92 : decode b_35 92 = .ok (.bipush 32, 2) := by decide +kernel
theorem d35_94 : decode b_35 94 = .ok (.if_icmp .ne 18, 3) := by decide +kernel
theorem d35_97 : decode b_35 97 = .ok (.aload_n 0, 1) := by decide +kernel
theorem d35_98 : decode b_35 98 = .ok (.bipush 32, 2) := by decide +kernel
theorem d35_100 : decode b_35 100 = .ok (.invokevirtual 70, 3) := by decide +kernel
theorem d35_103 : decode b_35 103 = .ok (.bipush 32, 2) := by decide +kernel
theorem d35_105 : decode b_35 105 = .ok (.if_icmp .ne 7, 3) := by decide +kernel
theorem d35_108 : decode b_35 108 = .ok (.iconst 1, 1) := by decide +kernel
theorem d35_109 : decode b_35 109 = .ok (.goto 4, 3) := by decide +kernel
theorem d35_113 : decode b_35 113 = .ok (.istore 7, 2) := by decide +kernel
theorem d35_115 : decode b_35 115 = .ok (.iload 7, 2) := by decide +kernel
theorem d35_117 : decode b_35 117 = .ok (.ifCond .ne 5, 3) := by decide +kernel
theorem d35_122 : decode b_35 122 = .ok (.iload_n 1, 1) := by decide +kernel
theorem d35_123 : decode b_35 123 = .ok (.iconst 1, 1) := by decide +kernel
theorem d35_124 : decode b_35 124 = .ok (.if_icmp .ne 8, 3) := by decide +kernel
theorem d35_127 : decode b_35 127 = .ok (.bipush 115, 2) := by decide +kernel
theorem d35_129 : decode b_35 129 = .ok (.goto 5, 3) := by decide +kernel
theorem d35_132 : decode b_35 132 = .ok (.bipush 112, 2) := by decide +kernel
theorem d35_134 : decode b_35 134 = .ok (.istore 8, 2) := by decide +kernel
theorem d35_136 : decode b_35 136 = .ok (.iload_n 3, 1) := by decide +kernel
theorem d35_137 : decode b_35 137 = .ok (.ifCond .ne 99, 3) := by decide +kernel
theorem d35_140 : decode b_35 140 = .ok (.iload_n 1, 1) := by decide +kernel
theorem d35_141 : decode b_35 141 = .ok (.iconst 1, 1) := by decide +kernel
theorem d35_142 : decode b_35 142 = .ok (.if_icmp .ne 42, 3) := by decide +kernel
theorem d35_145 : decode b_35 145 = .ok (.iload 6, 2) := by decide +kernel
theorem d35_147 : decode b_35 147 = .ok (.iload 5, 2) := by decide +kernel
theorem d35_149 : decode b_35 149 = .ok (.iconst 2, 1) := by decide +kernel
theorem d35_150 : decode b_35 150 = .ok (.iadd, 1) := by decide +kernel
theorem d35_151 : decode b_35 151 = .ok (.if_icmp .ne 31, 3) := by decide +kernel
theorem d35_154 : decode b_35 154 = .ok (.aload_n 0, 1) := by decide +kernel
theorem d35_155 : decode b_35 155 = .ok (.iload 5, 2) := by decide +kernel
theorem d35_157 : decode b_35 157 = .ok (.invokevirtual 70, 3) := by decide +kernel
theorem d35_160 : decode b_35 160 = .ok (.bipush 32, 2) := by decide +kernel
theorem d35_162 : decode b_35 162 = .ok (.if_icmp .ne 20, 3) := by decide +kernel
theorem d35_165 : decode b_35 165 = .ok (.aload_n 0, 1) := by decide +kernel
theorem d35_166 : decode b_35 166 = .ok (.iload 5, 2) := by decide +kernel
theorem d35_168 : decode b_35 168 = .ok (.iconst 1, 1) := by decide +kernel
theorem d35_169 : decode b_35 169 = .ok (.iadd, 1) := by decide +kernel
theorem d35_170 : decode b_35 170 = .ok (.invokevirtual 70, 3) := by decide +kernel
theorem d35_173 : decode b_35 173 = .ok (.iload 8, 2) := by decide +kernel
theorem d35_175 : decode b_35 175 = .ok (.if_icmp .ne 7, 3) := by decide +kernel
theorem d35_178 : decode b_35 178 = .ok (.iconst 1, 1) := by decide +kernel
theorem d35_179 : decode b_35 179 = .ok (.goto 4, 3) := by decide +kernel
theorem d35_183 : decode b_35 183 = .ok (.ireturn, 1) := by decide +kernel
theorem d35_184 : decode b_35 184 = .ok (.iload 6, 2) := by decide +kernel
theorem d35_186 : decode b_35 186 = .ok (.iload 5, 2) := by decide +kernel
theorem d35_188 : decode b_35 188 = .ok (.iconst 3, 1) := by decide +kernel
theorem d35_189 : decode b_35 189 = .ok (.iadd, 1) := by decide +kernel
theorem d35_190 : decode b_35 190 = .ok (.if_icmp .ne 44, 3) := by decide +kernel
theorem d35_193 : decode b_35 193 = .ok (.aload_n 0, 1) := by decide +kernel
theorem d35_194 : decode b_35 194 = .ok (.iload 5, 2) := by decide +kernel
theorem d35_196 : decode b_35 196 = .ok (.invokevirtual 70, 3) := by decide +kernel
theorem d35_199 : decode b_35 199 = .ok (.bipush 44, 2) := by decide +kernel
theorem d35_201 : decode b_35 201 = .ok (.if_icmp .ne 33, 3) := by decide +kernel
theorem d35_204 : decode b_35 204 = .ok (.aload_n 0, 1) := by decide +kernel
theorem d35_205 : decode b_35 205 = .ok (.iload 5, 2) := by decide +kernel
theorem d35_207 : decode b_35 207 = .ok (.iconst 1, 1) := by decide +kernel
theorem d35_208 : decode b_35 208 = .ok (.iadd, 1) := by decide +kernel
theorem d35_209 : decode b_35 209 = .ok (.invokevirtual 70, 3) := by decide +kernel
theorem d35_212 : decode b_35 212 = .ok (.bipush 32, 2) := by decide +kernel
theorem d35_214 : decode b_35 214 = .ok (.if_icmp .ne 20, 3) := by decide +kernel
theorem d35_217 : decode b_35 217 = .ok (.aload_n 0, 1) := by decide +kernel
theorem d35_218 : decode b_35 218 = .ok (.iload 5, 2) := by decide +kernel
theorem d35_220 : decode b_35 220 = .ok (.iconst 2, 1) := by decide +kernel
theorem d35_221 : decode b_35 221 = .ok (.iadd, 1) := by decide +kernel
theorem d35_222 : decode b_35 222 = .ok (.invokevirtual 70, 3) := by decide +kernel
theorem d35_225 : decode b_35 225 = .ok (.iload 8, 2) := by decide +kernel
theorem d35_227 : decode b_35 227 = .ok (.if_icmp .ne 7, 3) := by decide +kernel
theorem d35_230 : decode b_35 230 = .ok (.iconst 1, 1) := by decide +kernel
theorem d35_231 : decode b_35 231 = .ok (.goto 4, 3) := by decide +kernel
theorem d35_235 : decode b_35 235 = .ok (.ireturn, 1) := by decide +kernel
theorem d35_236 : decode b_35 236 = .ok (.iload 6, 2) := by decide +kernel
theorem d35_238 : decode b_35 238 = .ok (.iload 5, 2) := by decide +kernel
theorem d35_240 : decode b_35 240 = .ok (.bipush 6, 2) := by decide +kernel
theorem d35_242 : decode b_35 242 = .ok (.iadd, 1) := by decide +kernel
theorem d35_243 : decode b_35 243 = .ok (.if_icmp .ge 5, 3) := by decide +kernel
theorem d35_248 : decode b_35 248 = .ok (.aload_n 0, 1) := by decide +kernel
theorem d35_249 : decode b_35 249 = .ok (.iload 5, 2) := by decide +kernel
theorem d35_251 : decode b_35 251 = .ok (.invokevirtual 70, 3) := by decide +kernel
theorem d35_254 : decode b_35 254 = .ok (.bipush 32, 2) := by decide +kernel
theorem d35_256 : decode b_35 256 = .ok (.if_icmp .ne 20, 3) := by decide +kernel
theorem d35_259 : decode b_35 259 = .ok (.aload_n 0, 1) := by decide +kernel
theorem d35_260 : decode b_35 260 = .ok (.iload 5, 2) := by decide +kernel
theorem d35_262 : decode b_35 262 = .ok (.iconst 1, 1) := by decide +kernel
theorem d35_263 : decode b_35 263 = .ok (.iadd, 1) := by decide +kernel
theorem d35_264 : decode b_35 264 = .ok (.invokevirtual 70, 3) := by decide +kernel
theorem d35_267 : decode b_35 267 = .ok (.bipush 40, 2) := by decide +kernel
theorem d35_269 : decode b_35 269 = .ok (.if_icmp .ne 7, 3) := by decide +kernel
theorem d35_272 : decode b_35 272 = .ok (.iconst 1, 1) := by decide +kernel
theorem d35_273 : decode b_35 273 = .ok (.goto 4, 3) := by decide +kernel
theorem d35_277 : decode b_35 277 = .ok (.istore 9, 2) := by decide +kernel
theorem d35_279 : decode b_35 279 = .ok (.iload_n 1, 1) := by decide +kernel
theorem d35_280 : decode b_35 280 = .ok (.iconst 1, 1) := by decide +kernel
theorem d35_281 : decode b_35 281 = .ok (.if_icmp .ne 53, 3) := by decide +kernel
theorem d35_284 : decode b_35 284 = .ok (.iload 9, 2) := by decide +kernel
theorem d35_286 : decode b_35 286 = .ok (.ifCond .eq 46, 3) := by decide +kernel
theorem d35_289 : decode b_35 289 = .ok (.aload_n 0, 1) := by decide +kernel
theorem d35_290 : decode b_35 290 = .ok (.iload 6, 2) := by decide +kernel
theorem d35_292 : decode b_35 292 = .ok (.iconst 1, 1) := by decide +kernel
theorem d35_293 : decode b_35 293 = .ok (.isub, 1) := by decide +kernel
theorem d35_294 : decode b_35 294 = .ok (.invokevirtual 70, 3) := by decide +kernel
theorem d35_297 : decode b_35 297 = .ok (.iload 8, 2) := by decide +kernel
theorem d35_299 : decode b_35 299 = .ok (.if_icmp .ne 33, 3) := by decide +kernel
theorem d35_302 : decode b_35 302 = .ok (.aload_n 0, 1) := by decide +kernel
theorem d35_303 : decode b_35 303 = .ok (.iload 6, 2) := by decide +kernel
theorem d35_305 : decode b_35 305 = .ok (.iconst 2, 1) := by decide +kernel
theorem d35_306 : decode b_35 306 = .ok (.isub, 1) := by decide +kernel
theorem d35_307 : decode b_35 307 = .ok (.invokevirtual 70, 3) := by decide +kernel
theorem d35_310 : decode b_35 310 = .ok (.bipush 32, 2) := by decide +kernel
theorem d35_312 : decode b_35 312 = .ok (.if_icmp .ne 20, 3) := by decide +kernel
theorem d35_315 : decode b_35 315 = .ok (.aload_n 0, 1) := by decide +kernel
theorem d35_316 : decode b_35 316 = .ok (.iload 6, 2) := by decide +kernel
theorem d35_318 : decode b_35 318 = .ok (.iconst 3, 1) := by decide +kernel
theorem d35_319 : decode b_35 319 = .ok (.isub, 1) := by decide +kernel
theorem d35_320 : decode b_35 320 = .ok (.invokevirtual 70, 3) := by decide +kernel
theorem d35_323 : decode b_35 323 = .ok (.bipush 41, 2) := by decide +kernel
theorem d35_325 : decode b_35 325 = .ok (.if_icmp .ne 7, 3) := by decide +kernel
theorem d35_328 : decode b_35 328 = .ok (.iconst 1, 1) := by decide +kernel
theorem d35_329 : decode b_35 329 = .ok (.goto 4, 3) := by decide +kernel
theorem d35_333 : decode b_35 333 = .ok (.ireturn, 1) := by decide +kernel
theorem d35_334 : decode b_35 334 = .ok (.iload 9, 2) := by decide +kernel
theorem d35_336 : decode b_35 336 = .ok (.ifCond .eq 59, 3) := by decide +kernel
theorem d35_339 : decode b_35 339 = .ok (.aload_n 0, 1) := by decide +kernel
theorem d35_340 : decode b_35 340 = .ok (.iload 6, 2) := by decide +kernel
theorem d35_342 : decode b_35 342 = .ok (.iconst 1, 1) := by decide +kernel
theorem d35_343 : decode b_35 343 = .ok (.isub, 1) := by decide +kernel
theorem d35_344 : decode b_35 344 = .ok (.invokevirtual 70, 3) := by decide +kernel
theorem d35_347 : decode b_35 347 = .ok (.iload 8, 2) := by decide +kernel
theorem d35_349 : decode b_35 349 = .ok (.if_icmp .ne 46, 3) := by decide +kernel
theorem d35_352 : decode b_35 352 = .ok (.aload_n 0, 1) := by decide +kernel
theorem d35_353 : decode b_35 353 = .ok (.iload 6, 2) := by decide +kernel
theorem d35_355 : decode b_35 355 = .ok (.iconst 2, 1) := by decide +kernel
theorem d35_356 : decode b_35 356 = .ok (.isub, 1) := by decide +kernel
theorem d35_357 : decode b_35 357 = .ok (.invokevirtual 70, 3) := by decide +kernel
theorem d35_360 : decode b_35 360 = .ok (.bipush 32, 2) := by decide +kernel
theorem d35_362 : decode b_35 362 = .ok (.if_icmp .ne 33, 3) := by decide +kernel
theorem d35_365 : decode b_35 365 = .ok (.aload_n 0, 1) := by decide +kernel
theorem d35_366 : decode b_35 366 = .ok (.iload 6, 2) := by decide +kernel
theorem d35_368 : decode b_35 368 = .ok (.iconst 3, 1) := by decide +kernel
theorem d35_369 : decode b_35 369 = .ok (.isub, 1) := by decide +kernel
theorem d35_370 : decode b_35 370 = .ok (.invokevirtual 70, 3) := by decide +kernel
theorem d35_373 : decode b_35 373 = .ok (.bipush 44, 2) := by decide +kernel
theorem d35_375 : decode b_35 375 = .ok (.if_icmp .ne 20, 3) := by decide +kernel
theorem d35_378 : decode b_35 378 = .ok (.aload_n 0, 1) := by decide +kernel
theorem d35_379 : decode b_35 379 = .ok (.iload 6, 2) := by decide +kernel
theorem d35_381 : decode b_35 381 = .ok (.iconst 4, 1) := by decide +kernel
theorem d35_382 : decode b_35 382 = .ok (.isub, 1) := by decide +kernel
theorem d35_383 : decode b_35 383 = .ok (.invokevirtual 70, 3) := by decide +kernel
theorem d35_386 : decode b_35 386 = .ok (.bipush 41, 2) := by decide +kernel
theorem d35_388 : decode b_35 388 = .ok (.if_icmp .ne 7, 3) := by decide +kernel
theorem d35_391 : decode b_35 391 = .ok (.iconst 1, 1) := by decide +kernel
theorem d35_392 : decode b_35 392 = .ok (.goto 4, 3) := by decide +kernel
theorem d35_396 : decode b_35 396 = .ok (.ireturn, 1) := by decide +kernel
theorem pd_32 : parseMethodDescriptor "(Ljava/lang/String;II)Z" = some ⟨[(.object "java/lang/String"), .int, .int], some .boolean⟩ := by decide +kernel
theorem cl_rmna (X : Stand p l e R s m args below meth c T locs cells slots) (hw : ∀ d ∈ tables_1, d.before a0 Z = true) (hZ : Z.Warmed39 s.vm) (hx : p.tables.exec = Jvm.exec) (hown : s.vm.findClass own = some m.cls) (lk : (Cond.methodLink own index (⟨"com/example/nalog/nalog/OrderCountAddPinLaw", "numberAt", "(Ljava/lang/String;II)Z"⟩ : MethodName)).before a0 Z = true) (st : Addr) (x : Int32) (cs : Int32) (fm : Value) (d1 d2 : Addr) (sa : Addr) (bs : List Nat) (ap : Nat) (Z0 : n0 ≤ h0.size) (Wd : own_Wd Z cs fm d1 d2) (OZ : Old Z n0 h0) (E0 : Exa Z h0 st "java/lang/String") (V0 : Fld Z h0 st "java/lang/String" "value" "[B" (.ref sa)) (C0 : Fld Z h0 st "java/lang/String" "coder" "B" (.int 0)) (B0 : own_By Z h0 sa bs) (hat : ∀ k cc, (own_dec x)[k]? = some cc → bs[ap + k]? = some cc) (hln : ap + (own_dec x).length ≤ bs.length) (eT : T.heap = h0) (N : Fr n0 locs) (hml : c.maxLocals = kml) (hsz : Ls.size = kml) (hd : decode c.code pc = .ok (.invokestatic index, 3)) (hr : own_rm ({ frames := 4, cells := 0, slots := 0, locals := 70 } : Room) 4 R rest cells slots = true) :
    ∃ T' L', Stand p l e R s m args below meth c T' L' (cells + 0) (slots + 0) ∧ Fr n0 L' ∧ T'.heap = h0 ∧ ∀ t, Steps p.tables e below (T'.setTop (mkF m (pc + 3) Ls ((.int (1 : Int32)) :: rest))) t → Steps p.tables e below (T.setTop (mkF m pc Ls ((.int x) :: (.int (Int32.ofNat ap)) :: (.ref st) :: rest))) t := by
  obtain ⟨v, T', L, X', hQ, sq⟩ := own_cS (argsL := [(.ref st), (.int (Int32.ofNat ap)), (.int x)]) (rest := rest) (rmna l Z a0 hw [] st x cs fm d1 d2 sa bs ap h0 n0 Z0 Wd OZ E0 V0 C0 B0 hat hln) pd_32 rfl (wd_ hw 215 rfl) (wd_ hw 37 rfl) (wd_ hw 214 rfl) (by decide) hZ hx hown X lk eT hml hsz hd hr
  obtain ⟨rfl, Nq, eq_⟩ := hQ
  exact ⟨T', _, X', Fr.app N Nq, eq_, sq⟩
theorem ef_rmds10 (m : MethodId) (st : Addr) (x : Int32)  : entryFrame m #[(.ref st), (.int (1 : Int32)), (.int x), (.int (0 : Int32))] 10 = mkF m 0 #[.val (.ref st), .val (.int (1 : Int32)), .val (.int x), .val (.int (0 : Int32)), .unset, .unset, .unset, .unset, .unset, .unset] [] := by first | (simp [entryFrame, mkF, argsToLocals, Value.category]; done) | rfl
def Qds10 (Z : State) (st : Addr) (x : Int32) (cs : Int32) (fm : Value) (d1 d2 : Addr) (sa : Addr) (mid : List Nat) (h0 : Heap) (n0 : Nat) (v : Option Value) (h : Heap) (L : List Loc) : Prop := v = some (.int (1 : Int32)) ∧ Fr n0 L ∧ h = h0
theorem rmds10 (l : Launch) (Z : State) (a0 : Array Value) (hw : ∀ d ∈ tables_1, d.before a0 Z = true) (ws : List Jvm.Cond) (st : Addr) (x : Int32) (cs : Int32) (fm : Value) (d1 d2 : Addr) (sa : Addr) (mid : List Nat) (h0 : Heap) (n0 : Nat) (Z0 : n0 ≤ h0.size) (Wd : own_Wd Z cs fm d1 d2) (OZ : Old Z n0 h0) (E0 : Exa Z h0 st "java/lang/String") (V0 : Fld Z h0 st "java/lang/String" "value" "[B" (.ref sa)) (C0 : Fld Z h0 st "java/lang/String" "coder" "B" (.int 0)) (B0 : own_By Z h0 sa ([111, 114, 100, 101, 114, 32] ++ (own_dec x ++ [32, 115]))) (hmid : 1 ≤ mid.length) (hmx : mid.length ≤ 37) :
    own_MF l (⟨"com/example/nalog/nalog/OrderCountAddPinLaw", "describes", "(Ljava/lang/String;IIZ)Z"⟩ : MethodName) method_4_code 10 (some .boolean) ws ({ frames := 5, cells := 0, slots := 0, locals := 90 } : Room) #[(.ref st), (.int (1 : Int32)), (.int x), (.int (0 : Int32))] Z h0 (Qds10 Z st x cs fm d1 d2 sa mid h0 n0) := by
  refine MetFree.of_bodySF (plainFor_of_name pn_8) hisR ?_
  intro p e s m args below meth c s₁ Bd hml0 hP hK
  obtain ⟨rfl, hZ, hh⟩ := hP
  have hx := Bd.exec
  have hby := Bd.bytes
  have hlk : meth.locks = false := BodyLoose.notSynchronized Bd
  have hret := Bd.returns
  have hml : c.maxLocals = 10 := hml0
  have hown : s.vm.findClass "com/example/nalog/nalog/OrderCountAddPinLaw" = some m.cls := findClass_of_methodNamed Bd.named
  have hnm := (name_of_methodNamed Bd.named Bd.method).1
  have X0 : Stand p l e ({ frames := 5, cells := 0, slots := 0, locals := 90 } : Room) s m #[(.ref st), (.int (1 : Int32)), (.int x), (.int (0 : Int32))] below meth c s₁ [] 0 0 := Stand.of_body Bd
  have e0 : s₁.heap = h0 := by rw [← hh, Bd.state]; rfl
  have N0 := Fr.nil n0
  show oE p e below s 0 0 (Qds10 Z st x cs fm d1 d2 sa mid h0 n0) (s₁.setTop (entryFrame m #[(.ref st), (.int (1 : Int32)), (.int x), (.int (0 : Int32))] 10))
  refine oS (fun t k => castTop (ef_rmds10 m st x ) k) ?_
  show oE p e below s _ _ _ (s₁.setTop (mkF m 0 #[.val (.ref st), .val (.int (1 : Int32)), .val (.int x), .val (.int (0 : Int32)), .unset, .unset, .unset, .unset, .unset, .unset] []))
  have hdl := own_dec_len x
  have hdl1 := own_dec_len1 x
  obtain ⟨bs, hbs⟩ : ∃ bs, bs = ([111, 114, 100, 101, 114, 32] ++ (own_dec x ++ [32, 115])) := ⟨_, rfl⟩
  rw [← hbs] at B0
  have hbl := B0.len
  have hbn : bs.length = 6 + (own_dec x).length + 2 := by rw [hbs]; simp only [List.length_append, List.length_cons, List.length_nil]; omega
  refine oS (fun _ k_ => XS.iloadN X0.here hx rfl (hb hby d35_0) rfl (XS.iconst X0.here hx rfl (hb hby d35_1) (XS.icmpNo X0.here hx rfl (hb hby d35_2) rfl (XT.ii_ne_f (by decide : (1 : Int32) = (1 : Int32))) (XS.bipush X0.here hx rfl (hb hby d35_5) (XS.goto X0.here hx rfl (pc0 := 7) (pc' := 12) rfl (hb hby d35_7) (by decide) (by decide) (XS.istore X0.here hx rfl (hb hby d35_12) rfl (l' := #[.val (.ref st), .val (.int (1 : Int32)), .val (.int x), .val (.int (0 : Int32)), .val (.int (6 : Int32)), .unset, .unset, .unset, .unset, .unset]) rfl (XS.aloadN X0.here hx rfl (hb hby d35_14) rfl rfl (XS.iload X0.here hx rfl (hb hby d35_15) rfl k_)))))))) ?_
  show oE p e below s _ _ _ (s₁.setTop (mkF m 17 #[.val (.ref st), .val (.int (1 : Int32)), .val (.int x), .val (.int (0 : Int32)), .val (.int (6 : Int32)), .unset, .unset, .unset, .unset, .unset] [(.int (6 : Int32)), (.ref st)]))
  refine oS (fun _ k_ => XS.iloadN X0.here hx rfl (hb hby d35_17) rfl k_) ?_
  obtain ⟨T136, L136, X136, N136, e136, st136⟩ := cl_rmna X0 hw hZ hx hown (wd_ hw 213 rfl) st x cs fm d1 d2 sa bs 6 Z0 Wd OZ E0 V0 C0 B0 (fun k cc hq => by rw [hbs]; exact own_at0 rfl hq) (by omega) e0 N0 hml rfl (hb hby d35_18) (Ls := #[.val (.ref st), .val (.int (1 : Int32)), .val (.int x), .val (.int (0 : Int32)), .val (.int (6 : Int32)), .unset, .unset, .unset, .unset, .unset]) (rest := []) rfl
  refine oS (fun _ k_ => st136 _ k_) ?_
  refine oS (fun _ k_ => XS.ifYes X136.here hx rfl (pc0 := 21) (pc' := 26) rfl (hb hby d35_21) rfl (XT.i0_ne_t (by decide : ¬ ((1 : Int32) = 0))) (by decide) (by decide) (XS.iload X136.here hx rfl (hb hby d35_26) rfl (XS.iloadN X136.here hx rfl (hb hby d35_28) rfl k_))) ?_
  show oE p e below s _ _ _ (T136.setTop (mkF m 29 #[.val (.ref st), .val (.int (1 : Int32)), .val (.int x), .val (.int (0 : Int32)), .val (.int (6 : Int32)), .unset, .unset, .unset, .unset, .unset] [(.int x), (.int (6 : Int32))]))
  obtain ⟨T137, L137, X137, N137, e137, st137⟩ := cl_rmdl X136 hw hZ hx hown (wd_ hw 216 rfl) x Z0 e136 N136 hml rfl (hb hby d35_29) (Ls := #[.val (.ref st), .val (.int (1 : Int32)), .val (.int x), .val (.int (0 : Int32)), .val (.int (6 : Int32)), .unset, .unset, .unset, .unset, .unset]) (rest := [(.int (6 : Int32))]) rfl
  refine oS (fun _ k_ => st137 _ k_) ?_
  refine oS (fun _ k_ => XS.iadd X137.here hx rfl (hb hby d35_32) rfl k_) ?_
  show oE p e below s _ _ _ (T137.setTop (mkF m 33 #[.val (.ref st), .val (.int (1 : Int32)), .val (.int x), .val (.int (0 : Int32)), .val (.int (6 : Int32)), .unset, .unset, .unset, .unset, .unset] [(.int ((6 : Int32) + (Int32.ofNat (own_dec x).length)))]))
  rw [show (6 : Int32) + Int32.ofNat (own_dec x).length = Int32.ofNat (6 + (own_dec x).length) from own_add 6 _]
  refine oS (fun _ k_ => XS.istore X137.here hx rfl (hb hby d35_33) rfl (l' := #[.val (.ref st), .val (.int (1 : Int32)), .val (.int x), .val (.int (0 : Int32)), .val (.int (6 : Int32)), .val (.int (Int32.ofNat (6 + (own_dec x).length))), .unset, .unset, .unset, .unset]) rfl (XS.aloadN X137.here hx rfl (hb hby d35_35) rfl rfl k_)) ?_
  obtain ⟨T138, L138, X138, N138, e138, st138⟩ := cl_rmlen X137 hw hZ hx hown (wd_ hw 226 rfl) st cs fm d1 d2 sa bs Z0 Wd OZ E0 V0 C0 B0 e137 E0 N137 hml rfl (hb hby d35_36) (Ls := #[.val (.ref st), .val (.int (1 : Int32)), .val (.int x), .val (.int (0 : Int32)), .val (.int (6 : Int32)), .val (.int (Int32.ofNat (6 + (own_dec x).length))), .unset, .unset, .unset, .unset]) (rest := []) rfl
  refine oS (fun _ k_ => st138 _ k_) ?_
  refine oS (fun _ k_ => XS.istore X138.here hx rfl (hb hby d35_39) rfl (l' := #[.val (.ref st), .val (.int (1 : Int32)), .val (.int x), .val (.int (0 : Int32)), .val (.int (6 : Int32)), .val (.int (Int32.ofNat (6 + (own_dec x).length))), .val (.int (Int32.ofNat bs.length)), .unset, .unset, .unset]) rfl (XS.iloadN X138.here hx rfl (hb hby d35_41) rfl (XS.iconst X138.here hx rfl (hb hby d35_42) (XS.icmpNo X138.here hx rfl (hb hby d35_43) rfl (XT.ii_ne_f (by decide : (1 : Int32) = (1 : Int32))) (XS.aloadN X138.here hx rfl (hb hby d35_46) rfl rfl (XS.iconst X138.here hx rfl (hb hby d35_47) k_)))))) ?_
  show oE p e below s _ _ _ (T138.setTop (mkF m 48 #[.val (.ref st), .val (.int (1 : Int32)), .val (.int x), .val (.int (0 : Int32)), .val (.int (6 : Int32)), .val (.int (Int32.ofNat (6 + (own_dec x).length))), .val (.int (Int32.ofNat bs.length)), .unset, .unset, .unset] [(.int (0 : Int32)), (.ref st)]))
  obtain ⟨T139, L139, X139, N139, e139, st139⟩ := cl_rmch X138 hw hZ hx hown (wd_ hw 227 rfl) st cs fm d1 d2 sa bs 0 111 Z0 Wd OZ E0 V0 C0 B0 (by rw [hbs]; rfl) e138 E0 N138 hml rfl (hb hby d35_48) (Ls := #[.val (.ref st), .val (.int (1 : Int32)), .val (.int x), .val (.int (0 : Int32)), .val (.int (6 : Int32)), .val (.int (Int32.ofNat (6 + (own_dec x).length))), .val (.int (Int32.ofNat bs.length)), .unset, .unset, .unset]) (rest := []) rfl
  refine oS (fun _ k_ => st139 _ k_) ?_
  refine oS (fun _ k_ => XS.bipush X139.here hx rfl (hb hby d35_51) (XS.icmpNo X139.here hx rfl (hb hby d35_53) rfl (XT.ii_ne_f (rfl : (Int32.ofNat 111) = (111 : Int32))) (XS.aloadN X139.here hx rfl (hb hby d35_56) rfl rfl (XS.iconst X139.here hx rfl (hb hby d35_57) k_)))) ?_
  show oE p e below s _ _ _ (T139.setTop (mkF m 58 #[.val (.ref st), .val (.int (1 : Int32)), .val (.int x), .val (.int (0 : Int32)), .val (.int (6 : Int32)), .val (.int (Int32.ofNat (6 + (own_dec x).length))), .val (.int (Int32.ofNat bs.length)), .unset, .unset, .unset] [(.int (5 : Int32)), (.ref st)]))
  obtain ⟨T140, L140, X140, N140, e140, st140⟩ := cl_rmch X139 hw hZ hx hown (wd_ hw 227 rfl) st cs fm d1 d2 sa bs 5 32 Z0 Wd OZ E0 V0 C0 B0 (by rw [hbs]; rfl) e139 E0 N139 hml rfl (hb hby d35_58) (Ls := #[.val (.ref st), .val (.int (1 : Int32)), .val (.int x), .val (.int (0 : Int32)), .val (.int (6 : Int32)), .val (.int (Int32.ofNat (6 + (own_dec x).length))), .val (.int (Int32.ofNat bs.length)), .unset, .unset, .unset]) (rest := []) rfl
  refine oS (fun _ k_ => st140 _ k_) ?_
  refine oS (fun _ k_ => XS.bipush X140.here hx rfl (hb hby d35_61) (XS.icmpNo X140.here hx rfl (hb hby d35_63) rfl (XT.ii_ne_f (rfl : (Int32.ofNat 32) = (32 : Int32))) (XS.iconst X140.here hx rfl (hb hby d35_66) (XS.goto X140.here hx rfl (pc0 := 67) (pc' := 113) rfl (hb hby d35_67) (by decide) (by decide) (XS.istore X140.here hx rfl (hb hby d35_113) rfl (l' := #[.val (.ref st), .val (.int (1 : Int32)), .val (.int x), .val (.int (0 : Int32)), .val (.int (6 : Int32)), .val (.int (Int32.ofNat (6 + (own_dec x).length))), .val (.int (Int32.ofNat bs.length)), .val (.int (1 : Int32)), .unset, .unset]) rfl (XS.iload X140.here hx rfl (hb hby d35_115) rfl (XS.ifYes X140.here hx rfl (pc0 := 117) (pc' := 122) rfl (hb hby d35_117) rfl (XT.i0_ne_t (by decide : ¬ ((1 : Int32) = 0))) (by decide) (by decide) (XS.iloadN X140.here hx rfl (hb hby d35_122) rfl k_)))))))) ?_
  show oE p e below s _ _ _ (T140.setTop (mkF m 123 #[.val (.ref st), .val (.int (1 : Int32)), .val (.int x), .val (.int (0 : Int32)), .val (.int (6 : Int32)), .val (.int (Int32.ofNat (6 + (own_dec x).length))), .val (.int (Int32.ofNat bs.length)), .val (.int (1 : Int32)), .unset, .unset] [(.int (1 : Int32))]))
  refine oS (fun _ k_ => XS.iconst X140.here hx rfl (hb hby d35_123) (XS.icmpNo X140.here hx rfl (hb hby d35_124) rfl (XT.ii_ne_f (by decide : (1 : Int32) = (1 : Int32))) (XS.bipush X140.here hx rfl (hb hby d35_127) (XS.goto X140.here hx rfl (pc0 := 129) (pc' := 134) rfl (hb hby d35_129) (by decide) (by decide) (XS.istore X140.here hx rfl (hb hby d35_134) rfl (l' := #[.val (.ref st), .val (.int (1 : Int32)), .val (.int x), .val (.int (0 : Int32)), .val (.int (6 : Int32)), .val (.int (Int32.ofNat (6 + (own_dec x).length))), .val (.int (Int32.ofNat bs.length)), .val (.int (1 : Int32)), .val (.int (115 : Int32)), .unset]) rfl (XS.iloadN X140.here hx rfl (hb hby d35_136) rfl (XS.ifNo X140.here hx rfl (hb hby d35_137) rfl (XT.i0_ne_f (by decide : (0 : Int32) = 0)) (XS.iloadN X140.here hx rfl (hb hby d35_140) rfl k_)))))))) ?_
  show oE p e below s _ _ _ (T140.setTop (mkF m 141 #[.val (.ref st), .val (.int (1 : Int32)), .val (.int x), .val (.int (0 : Int32)), .val (.int (6 : Int32)), .val (.int (Int32.ofNat (6 + (own_dec x).length))), .val (.int (Int32.ofNat bs.length)), .val (.int (1 : Int32)), .val (.int (115 : Int32)), .unset] [(.int (1 : Int32))]))
  refine oS (fun _ k_ => XS.iconst X140.here hx rfl (hb hby d35_141) (XS.icmpNo X140.here hx rfl (hb hby d35_142) rfl (XT.ii_ne_f (by decide : (1 : Int32) = (1 : Int32))) (XS.iload X140.here hx rfl (hb hby d35_145) rfl (XS.iload X140.here hx rfl (hb hby d35_147) rfl (XS.iconst X140.here hx rfl (hb hby d35_149) (XS.iadd X140.here hx rfl (hb hby d35_150) rfl k_)))))) ?_
  show oE p e below s _ _ _ (T140.setTop (mkF m 151 #[.val (.ref st), .val (.int (1 : Int32)), .val (.int x), .val (.int (0 : Int32)), .val (.int (6 : Int32)), .val (.int (Int32.ofNat (6 + (own_dec x).length))), .val (.int (Int32.ofNat bs.length)), .val (.int (1 : Int32)), .val (.int (115 : Int32)), .unset] [(.int ((Int32.ofNat (6 + (own_dec x).length)) + (2 : Int32))), (.int (Int32.ofNat bs.length))]))
  rw [show Int32.ofNat (6 + (own_dec x).length) + (2 : Int32) = Int32.ofNat ((6 + (own_dec x).length) + 2) from own_add _ 2]
  refine oS (fun _ k_ => XS.icmpNo X140.here hx rfl (hb hby d35_151) rfl (XT.ii_ne_f ((own_eqN (by omega) (by omega)).mpr (by omega) : (Int32.ofNat bs.length) = (Int32.ofNat ((6 + (own_dec x).length) + 2)))) (XS.aloadN X140.here hx rfl (hb hby d35_154) rfl rfl (XS.iload X140.here hx rfl (hb hby d35_155) rfl k_))) ?_
  show oE p e below s _ _ _ (T140.setTop (mkF m 157 #[.val (.ref st), .val (.int (1 : Int32)), .val (.int x), .val (.int (0 : Int32)), .val (.int (6 : Int32)), .val (.int (Int32.ofNat (6 + (own_dec x).length))), .val (.int (Int32.ofNat bs.length)), .val (.int (1 : Int32)), .val (.int (115 : Int32)), .unset] [(.int (Int32.ofNat (6 + (own_dec x).length))), (.ref st)]))
  obtain ⟨T141, L141, X141, N141, e141, st141⟩ := cl_rmch X140 hw hZ hx hown (wd_ hw 227 rfl) st cs fm d1 d2 sa bs (6 + (own_dec x).length) 32 Z0 Wd OZ E0 V0 C0 B0 (by rw [hbs]; exact own_at1 (j := 0) rfl) e140 E0 N140 hml rfl (hb hby d35_157) (Ls := #[.val (.ref st), .val (.int (1 : Int32)), .val (.int x), .val (.int (0 : Int32)), .val (.int (6 : Int32)), .val (.int (Int32.ofNat (6 + (own_dec x).length))), .val (.int (Int32.ofNat bs.length)), .val (.int (1 : Int32)), .val (.int (115 : Int32)), .unset]) (rest := []) rfl
  refine oS (fun _ k_ => st141 _ k_) ?_
  refine oS (fun _ k_ => XS.bipush X141.here hx rfl (hb hby d35_160) (XS.icmpNo X141.here hx rfl (hb hby d35_162) rfl (XT.ii_ne_f (rfl : (Int32.ofNat 32) = (32 : Int32))) (XS.aloadN X141.here hx rfl (hb hby d35_165) rfl rfl (XS.iload X141.here hx rfl (hb hby d35_166) rfl (XS.iconst X141.here hx rfl (hb hby d35_168) (XS.iadd X141.here hx rfl (hb hby d35_169) rfl k_)))))) ?_
  show oE p e below s _ _ _ (T141.setTop (mkF m 170 #[.val (.ref st), .val (.int (1 : Int32)), .val (.int x), .val (.int (0 : Int32)), .val (.int (6 : Int32)), .val (.int (Int32.ofNat (6 + (own_dec x).length))), .val (.int (Int32.ofNat bs.length)), .val (.int (1 : Int32)), .val (.int (115 : Int32)), .unset] [(.int ((Int32.ofNat (6 + (own_dec x).length)) + (1 : Int32))), (.ref st)]))
  rw [show Int32.ofNat (6 + (own_dec x).length) + (1 : Int32) = Int32.ofNat ((6 + (own_dec x).length) + 1) from own_add _ 1]
  obtain ⟨T142, L142, X142, N142, e142, st142⟩ := cl_rmch X141 hw hZ hx hown (wd_ hw 227 rfl) st cs fm d1 d2 sa bs ((6 + (own_dec x).length) + 1) 115 Z0 Wd OZ E0 V0 C0 B0 (by rw [hbs]; exact own_at1 (j := 1) rfl) e141 E0 N141 hml rfl (hb hby d35_170) (Ls := #[.val (.ref st), .val (.int (1 : Int32)), .val (.int x), .val (.int (0 : Int32)), .val (.int (6 : Int32)), .val (.int (Int32.ofNat (6 + (own_dec x).length))), .val (.int (Int32.ofNat bs.length)), .val (.int (1 : Int32)), .val (.int (115 : Int32)), .unset]) (rest := []) rfl
  refine oS (fun _ k_ => st142 _ k_) ?_
  refine oS (fun _ k_ => XS.iload X142.here hx rfl (hb hby d35_173) rfl (XS.icmpNo X142.here hx rfl (hb hby d35_175) rfl (XT.ii_ne_f (rfl : (Int32.ofNat 115) = (115 : Int32))) (XS.iconst X142.here hx rfl (hb hby d35_178) (XS.goto X142.here hx rfl (pc0 := 179) (pc' := 183) rfl (hb hby d35_179) (by decide) (by decide) k_)))) ?_
  show oE p e below s _ _ _ (T142.setTop (mkF m 183 #[.val (.ref st), .val (.int (1 : Int32)), .val (.int x), .val (.int (0 : Int32)), .val (.int (6 : Int32)), .val (.int (Int32.ofNat (6 + (own_dec x).length))), .val (.int (Int32.ofNat bs.length)), .val (.int (1 : Int32)), .val (.int (115 : Int32)), .unset] [(.int (1 : Int32))]))
  exact own_retN X142 hx (t := .boolean) hret (by simp) hlk (hb hby d35_183) (by decide) (by decide) rfl ⟨rfl, N142, e142⟩
theorem ef_rmds11 (m : MethodId) (st : Addr) (x : Int32)  : entryFrame m #[(.ref st), (.int (1 : Int32)), (.int x), (.int (1 : Int32))] 10 = mkF m 0 #[.val (.ref st), .val (.int (1 : Int32)), .val (.int x), .val (.int (1 : Int32)), .unset, .unset, .unset, .unset, .unset, .unset] [] := by first | (simp [entryFrame, mkF, argsToLocals, Value.category]; done) | rfl
def Qds11 (Z : State) (st : Addr) (x : Int32) (cs : Int32) (fm : Value) (d1 d2 : Addr) (sa : Addr) (mid : List Nat) (h0 : Heap) (n0 : Nat) (v : Option Value) (h : Heap) (L : List Loc) : Prop := v = some (.int (1 : Int32)) ∧ Fr n0 L ∧ h = h0
theorem rmds11 (l : Launch) (Z : State) (a0 : Array Value) (hw : ∀ d ∈ tables_1, d.before a0 Z = true) (ws : List Jvm.Cond) (st : Addr) (x : Int32) (cs : Int32) (fm : Value) (d1 d2 : Addr) (sa : Addr) (mid : List Nat) (h0 : Heap) (n0 : Nat) (Z0 : n0 ≤ h0.size) (Wd : own_Wd Z cs fm d1 d2) (OZ : Old Z n0 h0) (E0 : Exa Z h0 st "java/lang/String") (V0 : Fld Z h0 st "java/lang/String" "value" "[B" (.ref sa)) (C0 : Fld Z h0 st "java/lang/String" "coder" "B" (.int 0)) (B0 : own_By Z h0 sa ([111, 114, 100, 101, 114, 32] ++ (own_dec x ++ ([32, 40] ++ mid ++ [41, 32, 115])))) (hmid : 1 ≤ mid.length) (hmx : mid.length ≤ 37) :
    own_MF l (⟨"com/example/nalog/nalog/OrderCountAddPinLaw", "describes", "(Ljava/lang/String;IIZ)Z"⟩ : MethodName) method_4_code 10 (some .boolean) ws ({ frames := 5, cells := 0, slots := 0, locals := 90 } : Room) #[(.ref st), (.int (1 : Int32)), (.int x), (.int (1 : Int32))] Z h0 (Qds11 Z st x cs fm d1 d2 sa mid h0 n0) := by
  refine MetFree.of_bodySF (plainFor_of_name pn_8) hisR ?_
  intro p e s m args below meth c s₁ Bd hml0 hP hK
  obtain ⟨rfl, hZ, hh⟩ := hP
  have hx := Bd.exec
  have hby := Bd.bytes
  have hlk : meth.locks = false := BodyLoose.notSynchronized Bd
  have hret := Bd.returns
  have hml : c.maxLocals = 10 := hml0
  have hown : s.vm.findClass "com/example/nalog/nalog/OrderCountAddPinLaw" = some m.cls := findClass_of_methodNamed Bd.named
  have hnm := (name_of_methodNamed Bd.named Bd.method).1
  have X0 : Stand p l e ({ frames := 5, cells := 0, slots := 0, locals := 90 } : Room) s m #[(.ref st), (.int (1 : Int32)), (.int x), (.int (1 : Int32))] below meth c s₁ [] 0 0 := Stand.of_body Bd
  have e0 : s₁.heap = h0 := by rw [← hh, Bd.state]; rfl
  have N0 := Fr.nil n0
  show oE p e below s 0 0 (Qds11 Z st x cs fm d1 d2 sa mid h0 n0) (s₁.setTop (entryFrame m #[(.ref st), (.int (1 : Int32)), (.int x), (.int (1 : Int32))] 10))
  refine oS (fun t k => castTop (ef_rmds11 m st x ) k) ?_
  show oE p e below s _ _ _ (s₁.setTop (mkF m 0 #[.val (.ref st), .val (.int (1 : Int32)), .val (.int x), .val (.int (1 : Int32)), .unset, .unset, .unset, .unset, .unset, .unset] []))
  have hdl := own_dec_len x
  have hdl1 := own_dec_len1 x
  obtain ⟨bs, hbs⟩ : ∃ bs, bs = ([111, 114, 100, 101, 114, 32] ++ (own_dec x ++ ([32, 40] ++ mid ++ [41, 32, 115]))) := ⟨_, rfl⟩
  rw [← hbs] at B0
  have hbl := B0.len
  have hbn : bs.length = 6 + (own_dec x).length + (2 + mid.length + 3) := by rw [hbs]; simp only [List.length_append, List.length_cons, List.length_nil]; omega
  refine oS (fun _ k_ => XS.iloadN X0.here hx rfl (hb hby d35_0) rfl (XS.iconst X0.here hx rfl (hb hby d35_1) (XS.icmpNo X0.here hx rfl (hb hby d35_2) rfl (XT.ii_ne_f (by decide : (1 : Int32) = (1 : Int32))) (XS.bipush X0.here hx rfl (hb hby d35_5) (XS.goto X0.here hx rfl (pc0 := 7) (pc' := 12) rfl (hb hby d35_7) (by decide) (by decide) (XS.istore X0.here hx rfl (hb hby d35_12) rfl (l' := #[.val (.ref st), .val (.int (1 : Int32)), .val (.int x), .val (.int (1 : Int32)), .val (.int (6 : Int32)), .unset, .unset, .unset, .unset, .unset]) rfl (XS.aloadN X0.here hx rfl (hb hby d35_14) rfl rfl (XS.iload X0.here hx rfl (hb hby d35_15) rfl k_)))))))) ?_
  show oE p e below s _ _ _ (s₁.setTop (mkF m 17 #[.val (.ref st), .val (.int (1 : Int32)), .val (.int x), .val (.int (1 : Int32)), .val (.int (6 : Int32)), .unset, .unset, .unset, .unset, .unset] [(.int (6 : Int32)), (.ref st)]))
  refine oS (fun _ k_ => XS.iloadN X0.here hx rfl (hb hby d35_17) rfl k_) ?_
  obtain ⟨T143, L143, X143, N143, e143, st143⟩ := cl_rmna X0 hw hZ hx hown (wd_ hw 213 rfl) st x cs fm d1 d2 sa bs 6 Z0 Wd OZ E0 V0 C0 B0 (fun k cc hq => by rw [hbs]; exact own_at0 rfl hq) (by omega) e0 N0 hml rfl (hb hby d35_18) (Ls := #[.val (.ref st), .val (.int (1 : Int32)), .val (.int x), .val (.int (1 : Int32)), .val (.int (6 : Int32)), .unset, .unset, .unset, .unset, .unset]) (rest := []) rfl
  refine oS (fun _ k_ => st143 _ k_) ?_
  refine oS (fun _ k_ => XS.ifYes X143.here hx rfl (pc0 := 21) (pc' := 26) rfl (hb hby d35_21) rfl (XT.i0_ne_t (by decide : ¬ ((1 : Int32) = 0))) (by decide) (by decide) (XS.iload X143.here hx rfl (hb hby d35_26) rfl (XS.iloadN X143.here hx rfl (hb hby d35_28) rfl k_))) ?_
  show oE p e below s _ _ _ (T143.setTop (mkF m 29 #[.val (.ref st), .val (.int (1 : Int32)), .val (.int x), .val (.int (1 : Int32)), .val (.int (6 : Int32)), .unset, .unset, .unset, .unset, .unset] [(.int x), (.int (6 : Int32))]))
  obtain ⟨T144, L144, X144, N144, e144, st144⟩ := cl_rmdl X143 hw hZ hx hown (wd_ hw 216 rfl) x Z0 e143 N143 hml rfl (hb hby d35_29) (Ls := #[.val (.ref st), .val (.int (1 : Int32)), .val (.int x), .val (.int (1 : Int32)), .val (.int (6 : Int32)), .unset, .unset, .unset, .unset, .unset]) (rest := [(.int (6 : Int32))]) rfl
  refine oS (fun _ k_ => st144 _ k_) ?_
  refine oS (fun _ k_ => XS.iadd X144.here hx rfl (hb hby d35_32) rfl k_) ?_
  show oE p e below s _ _ _ (T144.setTop (mkF m 33 #[.val (.ref st), .val (.int (1 : Int32)), .val (.int x), .val (.int (1 : Int32)), .val (.int (6 : Int32)), .unset, .unset, .unset, .unset, .unset] [(.int ((6 : Int32) + (Int32.ofNat (own_dec x).length)))]))
  rw [show (6 : Int32) + Int32.ofNat (own_dec x).length = Int32.ofNat (6 + (own_dec x).length) from own_add 6 _]
  refine oS (fun _ k_ => XS.istore X144.here hx rfl (hb hby d35_33) rfl (l' := #[.val (.ref st), .val (.int (1 : Int32)), .val (.int x), .val (.int (1 : Int32)), .val (.int (6 : Int32)), .val (.int (Int32.ofNat (6 + (own_dec x).length))), .unset, .unset, .unset, .unset]) rfl (XS.aloadN X144.here hx rfl (hb hby d35_35) rfl rfl k_)) ?_
  obtain ⟨T145, L145, X145, N145, e145, st145⟩ := cl_rmlen X144 hw hZ hx hown (wd_ hw 226 rfl) st cs fm d1 d2 sa bs Z0 Wd OZ E0 V0 C0 B0 e144 E0 N144 hml rfl (hb hby d35_36) (Ls := #[.val (.ref st), .val (.int (1 : Int32)), .val (.int x), .val (.int (1 : Int32)), .val (.int (6 : Int32)), .val (.int (Int32.ofNat (6 + (own_dec x).length))), .unset, .unset, .unset, .unset]) (rest := []) rfl
  refine oS (fun _ k_ => st145 _ k_) ?_
  refine oS (fun _ k_ => XS.istore X145.here hx rfl (hb hby d35_39) rfl (l' := #[.val (.ref st), .val (.int (1 : Int32)), .val (.int x), .val (.int (1 : Int32)), .val (.int (6 : Int32)), .val (.int (Int32.ofNat (6 + (own_dec x).length))), .val (.int (Int32.ofNat bs.length)), .unset, .unset, .unset]) rfl (XS.iloadN X145.here hx rfl (hb hby d35_41) rfl (XS.iconst X145.here hx rfl (hb hby d35_42) (XS.icmpNo X145.here hx rfl (hb hby d35_43) rfl (XT.ii_ne_f (by decide : (1 : Int32) = (1 : Int32))) (XS.aloadN X145.here hx rfl (hb hby d35_46) rfl rfl (XS.iconst X145.here hx rfl (hb hby d35_47) k_)))))) ?_
  show oE p e below s _ _ _ (T145.setTop (mkF m 48 #[.val (.ref st), .val (.int (1 : Int32)), .val (.int x), .val (.int (1 : Int32)), .val (.int (6 : Int32)), .val (.int (Int32.ofNat (6 + (own_dec x).length))), .val (.int (Int32.ofNat bs.length)), .unset, .unset, .unset] [(.int (0 : Int32)), (.ref st)]))
  obtain ⟨T146, L146, X146, N146, e146, st146⟩ := cl_rmch X145 hw hZ hx hown (wd_ hw 227 rfl) st cs fm d1 d2 sa bs 0 111 Z0 Wd OZ E0 V0 C0 B0 (by rw [hbs]; rfl) e145 E0 N145 hml rfl (hb hby d35_48) (Ls := #[.val (.ref st), .val (.int (1 : Int32)), .val (.int x), .val (.int (1 : Int32)), .val (.int (6 : Int32)), .val (.int (Int32.ofNat (6 + (own_dec x).length))), .val (.int (Int32.ofNat bs.length)), .unset, .unset, .unset]) (rest := []) rfl
  refine oS (fun _ k_ => st146 _ k_) ?_
  refine oS (fun _ k_ => XS.bipush X146.here hx rfl (hb hby d35_51) (XS.icmpNo X146.here hx rfl (hb hby d35_53) rfl (XT.ii_ne_f (rfl : (Int32.ofNat 111) = (111 : Int32))) (XS.aloadN X146.here hx rfl (hb hby d35_56) rfl rfl (XS.iconst X146.here hx rfl (hb hby d35_57) k_)))) ?_
  show oE p e below s _ _ _ (T146.setTop (mkF m 58 #[.val (.ref st), .val (.int (1 : Int32)), .val (.int x), .val (.int (1 : Int32)), .val (.int (6 : Int32)), .val (.int (Int32.ofNat (6 + (own_dec x).length))), .val (.int (Int32.ofNat bs.length)), .unset, .unset, .unset] [(.int (5 : Int32)), (.ref st)]))
  obtain ⟨T147, L147, X147, N147, e147, st147⟩ := cl_rmch X146 hw hZ hx hown (wd_ hw 227 rfl) st cs fm d1 d2 sa bs 5 32 Z0 Wd OZ E0 V0 C0 B0 (by rw [hbs]; rfl) e146 E0 N146 hml rfl (hb hby d35_58) (Ls := #[.val (.ref st), .val (.int (1 : Int32)), .val (.int x), .val (.int (1 : Int32)), .val (.int (6 : Int32)), .val (.int (Int32.ofNat (6 + (own_dec x).length))), .val (.int (Int32.ofNat bs.length)), .unset, .unset, .unset]) (rest := []) rfl
  refine oS (fun _ k_ => st147 _ k_) ?_
  refine oS (fun _ k_ => XS.bipush X147.here hx rfl (hb hby d35_61) (XS.icmpNo X147.here hx rfl (hb hby d35_63) rfl (XT.ii_ne_f (rfl : (Int32.ofNat 32) = (32 : Int32))) (XS.iconst X147.here hx rfl (hb hby d35_66) (XS.goto X147.here hx rfl (pc0 := 67) (pc' := 113) rfl (hb hby d35_67) (by decide) (by decide) (XS.istore X147.here hx rfl (hb hby d35_113) rfl (l' := #[.val (.ref st), .val (.int (1 : Int32)), .val (.int x), .val (.int (1 : Int32)), .val (.int (6 : Int32)), .val (.int (Int32.ofNat (6 + (own_dec x).length))), .val (.int (Int32.ofNat bs.length)), .val (.int (1 : Int32)), .unset, .unset]) rfl (XS.iload X147.here hx rfl (hb hby d35_115) rfl (XS.ifYes X147.here hx rfl (pc0 := 117) (pc' := 122) rfl (hb hby d35_117) rfl (XT.i0_ne_t (by decide : ¬ ((1 : Int32) = 0))) (by decide) (by decide) (XS.iloadN X147.here hx rfl (hb hby d35_122) rfl k_)))))))) ?_
  show oE p e below s _ _ _ (T147.setTop (mkF m 123 #[.val (.ref st), .val (.int (1 : Int32)), .val (.int x), .val (.int (1 : Int32)), .val (.int (6 : Int32)), .val (.int (Int32.ofNat (6 + (own_dec x).length))), .val (.int (Int32.ofNat bs.length)), .val (.int (1 : Int32)), .unset, .unset] [(.int (1 : Int32))]))
  refine oS (fun _ k_ => XS.iconst X147.here hx rfl (hb hby d35_123) (XS.icmpNo X147.here hx rfl (hb hby d35_124) rfl (XT.ii_ne_f (by decide : (1 : Int32) = (1 : Int32))) (XS.bipush X147.here hx rfl (hb hby d35_127) (XS.goto X147.here hx rfl (pc0 := 129) (pc' := 134) rfl (hb hby d35_129) (by decide) (by decide) (XS.istore X147.here hx rfl (hb hby d35_134) rfl (l' := #[.val (.ref st), .val (.int (1 : Int32)), .val (.int x), .val (.int (1 : Int32)), .val (.int (6 : Int32)), .val (.int (Int32.ofNat (6 + (own_dec x).length))), .val (.int (Int32.ofNat bs.length)), .val (.int (1 : Int32)), .val (.int (115 : Int32)), .unset]) rfl (XS.iloadN X147.here hx rfl (hb hby d35_136) rfl (XS.ifYes X147.here hx rfl (pc0 := 137) (pc' := 236) rfl (hb hby d35_137) rfl (XT.i0_ne_t (by decide : ¬ ((1 : Int32) = 0))) (by decide) (by decide) (XS.iload X147.here hx rfl (hb hby d35_236) rfl k_)))))))) ?_
  show oE p e below s _ _ _ (T147.setTop (mkF m 238 #[.val (.ref st), .val (.int (1 : Int32)), .val (.int x), .val (.int (1 : Int32)), .val (.int (6 : Int32)), .val (.int (Int32.ofNat (6 + (own_dec x).length))), .val (.int (Int32.ofNat bs.length)), .val (.int (1 : Int32)), .val (.int (115 : Int32)), .unset] [(.int (Int32.ofNat bs.length))]))
  refine oS (fun _ k_ => XS.iload X147.here hx rfl (hb hby d35_238) rfl (XS.bipush X147.here hx rfl (hb hby d35_240) (XS.iadd X147.here hx rfl (hb hby d35_242) rfl k_))) ?_
  show oE p e below s _ _ _ (T147.setTop (mkF m 243 #[.val (.ref st), .val (.int (1 : Int32)), .val (.int x), .val (.int (1 : Int32)), .val (.int (6 : Int32)), .val (.int (Int32.ofNat (6 + (own_dec x).length))), .val (.int (Int32.ofNat bs.length)), .val (.int (1 : Int32)), .val (.int (115 : Int32)), .unset] [(.int ((Int32.ofNat (6 + (own_dec x).length)) + (6 : Int32))), (.int (Int32.ofNat bs.length))]))
  rw [show Int32.ofNat (6 + (own_dec x).length) + (6 : Int32) = Int32.ofNat ((6 + (own_dec x).length) + 6) from own_add _ 6]
  refine oS (fun _ k_ => XS.icmpYes X147.here hx rfl (pc0 := 243) (pc' := 248) rfl (hb hby d35_243) rfl (XT.ii_ge_t (fun z => absurd ((own_ltN (by omega) (by omega)).mp z) (by omega) : ¬ ((Int32.ofNat bs.length) < (Int32.ofNat ((6 + (own_dec x).length) + 6))))) (by decide) (by decide) (XS.aloadN X147.here hx rfl (hb hby d35_248) rfl rfl (XS.iload X147.here hx rfl (hb hby d35_249) rfl k_))) ?_
  show oE p e below s _ _ _ (T147.setTop (mkF m 251 #[.val (.ref st), .val (.int (1 : Int32)), .val (.int x), .val (.int (1 : Int32)), .val (.int (6 : Int32)), .val (.int (Int32.ofNat (6 + (own_dec x).length))), .val (.int (Int32.ofNat bs.length)), .val (.int (1 : Int32)), .val (.int (115 : Int32)), .unset] [(.int (Int32.ofNat (6 + (own_dec x).length))), (.ref st)]))
  obtain ⟨T148, L148, X148, N148, e148, st148⟩ := cl_rmch X147 hw hZ hx hown (wd_ hw 227 rfl) st cs fm d1 d2 sa bs (6 + (own_dec x).length) 32 Z0 Wd OZ E0 V0 C0 B0 (by rw [hbs]; exact own_at1 (j := 0) rfl) e147 E0 N147 hml rfl (hb hby d35_251) (Ls := #[.val (.ref st), .val (.int (1 : Int32)), .val (.int x), .val (.int (1 : Int32)), .val (.int (6 : Int32)), .val (.int (Int32.ofNat (6 + (own_dec x).length))), .val (.int (Int32.ofNat bs.length)), .val (.int (1 : Int32)), .val (.int (115 : Int32)), .unset]) (rest := []) rfl
  refine oS (fun _ k_ => st148 _ k_) ?_
  refine oS (fun _ k_ => XS.bipush X148.here hx rfl (hb hby d35_254) (XS.icmpNo X148.here hx rfl (hb hby d35_256) rfl (XT.ii_ne_f (rfl : (Int32.ofNat 32) = (32 : Int32))) (XS.aloadN X148.here hx rfl (hb hby d35_259) rfl rfl (XS.iload X148.here hx rfl (hb hby d35_260) rfl (XS.iconst X148.here hx rfl (hb hby d35_262) (XS.iadd X148.here hx rfl (hb hby d35_263) rfl k_)))))) ?_
  show oE p e below s _ _ _ (T148.setTop (mkF m 264 #[.val (.ref st), .val (.int (1 : Int32)), .val (.int x), .val (.int (1 : Int32)), .val (.int (6 : Int32)), .val (.int (Int32.ofNat (6 + (own_dec x).length))), .val (.int (Int32.ofNat bs.length)), .val (.int (1 : Int32)), .val (.int (115 : Int32)), .unset] [(.int ((Int32.ofNat (6 + (own_dec x).length)) + (1 : Int32))), (.ref st)]))
  rw [show Int32.ofNat (6 + (own_dec x).length) + (1 : Int32) = Int32.ofNat ((6 + (own_dec x).length) + 1) from own_add _ 1]
  obtain ⟨T149, L149, X149, N149, e149, st149⟩ := cl_rmch X148 hw hZ hx hown (wd_ hw 227 rfl) st cs fm d1 d2 sa bs ((6 + (own_dec x).length) + 1) 40 Z0 Wd OZ E0 V0 C0 B0 (by rw [hbs]; exact own_at1 (j := 1) rfl) e148 E0 N148 hml rfl (hb hby d35_264) (Ls := #[.val (.ref st), .val (.int (1 : Int32)), .val (.int x), .val (.int (1 : Int32)), .val (.int (6 : Int32)), .val (.int (Int32.ofNat (6 + (own_dec x).length))), .val (.int (Int32.ofNat bs.length)), .val (.int (1 : Int32)), .val (.int (115 : Int32)), .unset]) (rest := []) rfl
  refine oS (fun _ k_ => st149 _ k_) ?_
  refine oS (fun _ k_ => XS.bipush X149.here hx rfl (hb hby d35_267) (XS.icmpNo X149.here hx rfl (hb hby d35_269) rfl (XT.ii_ne_f (rfl : (Int32.ofNat 40) = (40 : Int32))) (XS.iconst X149.here hx rfl (hb hby d35_272) (XS.goto X149.here hx rfl (pc0 := 273) (pc' := 277) rfl (hb hby d35_273) (by decide) (by decide) (XS.istore X149.here hx rfl (hb hby d35_277) rfl (l' := #[.val (.ref st), .val (.int (1 : Int32)), .val (.int x), .val (.int (1 : Int32)), .val (.int (6 : Int32)), .val (.int (Int32.ofNat (6 + (own_dec x).length))), .val (.int (Int32.ofNat bs.length)), .val (.int (1 : Int32)), .val (.int (115 : Int32)), .val (.int (1 : Int32))]) rfl (XS.iloadN X149.here hx rfl (hb hby d35_279) rfl (XS.iconst X149.here hx rfl (hb hby d35_280) (XS.icmpNo X149.here hx rfl (hb hby d35_281) rfl (XT.ii_ne_f (by decide : (1 : Int32) = (1 : Int32))) k_)))))))) ?_
  show oE p e below s _ _ _ (T149.setTop (mkF m 284 #[.val (.ref st), .val (.int (1 : Int32)), .val (.int x), .val (.int (1 : Int32)), .val (.int (6 : Int32)), .val (.int (Int32.ofNat (6 + (own_dec x).length))), .val (.int (Int32.ofNat bs.length)), .val (.int (1 : Int32)), .val (.int (115 : Int32)), .val (.int (1 : Int32))] []))
  refine oS (fun _ k_ => XS.iload X149.here hx rfl (hb hby d35_284) rfl (XS.ifNo X149.here hx rfl (hb hby d35_286) rfl (XT.i0_eq_f (by decide : ¬ ((1 : Int32) = 0))) (XS.aloadN X149.here hx rfl (hb hby d35_289) rfl rfl (XS.iload X149.here hx rfl (hb hby d35_290) rfl (XS.iconst X149.here hx rfl (hb hby d35_292) (XS.isub X149.here hx rfl (hb hby d35_293) rfl k_)))))) ?_
  show oE p e below s _ _ _ (T149.setTop (mkF m 294 #[.val (.ref st), .val (.int (1 : Int32)), .val (.int x), .val (.int (1 : Int32)), .val (.int (6 : Int32)), .val (.int (Int32.ofNat (6 + (own_dec x).length))), .val (.int (Int32.ofNat bs.length)), .val (.int (1 : Int32)), .val (.int (115 : Int32)), .val (.int (1 : Int32))] [(.int ((Int32.ofNat bs.length) - (1 : Int32))), (.ref st)]))
  rw [show Int32.ofNat bs.length - (1 : Int32) = Int32.ofNat (bs.length - 1) from own_sub (b := 1) (by omega)]
  obtain ⟨T150, L150, X150, N150, e150, st150⟩ := cl_rmch X149 hw hZ hx hown (wd_ hw 227 rfl) st cs fm d1 d2 sa bs (bs.length - 1) 115 Z0 Wd OZ E0 V0 C0 B0 (by rw [hbs]; exact own_at2 (k := 1) (by omega) (by decide)) e149 E0 N149 hml rfl (hb hby d35_294) (Ls := #[.val (.ref st), .val (.int (1 : Int32)), .val (.int x), .val (.int (1 : Int32)), .val (.int (6 : Int32)), .val (.int (Int32.ofNat (6 + (own_dec x).length))), .val (.int (Int32.ofNat bs.length)), .val (.int (1 : Int32)), .val (.int (115 : Int32)), .val (.int (1 : Int32))]) (rest := []) rfl
  refine oS (fun _ k_ => st150 _ k_) ?_
  refine oS (fun _ k_ => XS.iload X150.here hx rfl (hb hby d35_297) rfl (XS.icmpNo X150.here hx rfl (hb hby d35_299) rfl (XT.ii_ne_f (rfl : (Int32.ofNat 115) = (115 : Int32))) (XS.aloadN X150.here hx rfl (hb hby d35_302) rfl rfl (XS.iload X150.here hx rfl (hb hby d35_303) rfl (XS.iconst X150.here hx rfl (hb hby d35_305) (XS.isub X150.here hx rfl (hb hby d35_306) rfl k_)))))) ?_
  show oE p e below s _ _ _ (T150.setTop (mkF m 307 #[.val (.ref st), .val (.int (1 : Int32)), .val (.int x), .val (.int (1 : Int32)), .val (.int (6 : Int32)), .val (.int (Int32.ofNat (6 + (own_dec x).length))), .val (.int (Int32.ofNat bs.length)), .val (.int (1 : Int32)), .val (.int (115 : Int32)), .val (.int (1 : Int32))] [(.int ((Int32.ofNat bs.length) - (2 : Int32))), (.ref st)]))
  rw [show Int32.ofNat bs.length - (2 : Int32) = Int32.ofNat (bs.length - 2) from own_sub (b := 2) (by omega)]
  obtain ⟨T151, L151, X151, N151, e151, st151⟩ := cl_rmch X150 hw hZ hx hown (wd_ hw 227 rfl) st cs fm d1 d2 sa bs (bs.length - 2) 32 Z0 Wd OZ E0 V0 C0 B0 (by rw [hbs]; exact own_at2 (k := 2) (by omega) (by decide)) e150 E0 N150 hml rfl (hb hby d35_307) (Ls := #[.val (.ref st), .val (.int (1 : Int32)), .val (.int x), .val (.int (1 : Int32)), .val (.int (6 : Int32)), .val (.int (Int32.ofNat (6 + (own_dec x).length))), .val (.int (Int32.ofNat bs.length)), .val (.int (1 : Int32)), .val (.int (115 : Int32)), .val (.int (1 : Int32))]) (rest := []) rfl
  refine oS (fun _ k_ => st151 _ k_) ?_
  refine oS (fun _ k_ => XS.bipush X151.here hx rfl (hb hby d35_310) (XS.icmpNo X151.here hx rfl (hb hby d35_312) rfl (XT.ii_ne_f (rfl : (Int32.ofNat 32) = (32 : Int32))) (XS.aloadN X151.here hx rfl (hb hby d35_315) rfl rfl (XS.iload X151.here hx rfl (hb hby d35_316) rfl (XS.iconst X151.here hx rfl (hb hby d35_318) (XS.isub X151.here hx rfl (hb hby d35_319) rfl k_)))))) ?_
  show oE p e below s _ _ _ (T151.setTop (mkF m 320 #[.val (.ref st), .val (.int (1 : Int32)), .val (.int x), .val (.int (1 : Int32)), .val (.int (6 : Int32)), .val (.int (Int32.ofNat (6 + (own_dec x).length))), .val (.int (Int32.ofNat bs.length)), .val (.int (1 : Int32)), .val (.int (115 : Int32)), .val (.int (1 : Int32))] [(.int ((Int32.ofNat bs.length) - (3 : Int32))), (.ref st)]))
  rw [show Int32.ofNat bs.length - (3 : Int32) = Int32.ofNat (bs.length - 3) from own_sub (b := 3) (by omega)]
  obtain ⟨T152, L152, X152, N152, e152, st152⟩ := cl_rmch X151 hw hZ hx hown (wd_ hw 227 rfl) st cs fm d1 d2 sa bs (bs.length - 3) 41 Z0 Wd OZ E0 V0 C0 B0 (by rw [hbs]; exact own_at2 (k := 3) (by omega) (by decide)) e151 E0 N151 hml rfl (hb hby d35_320) (Ls := #[.val (.ref st), .val (.int (1 : Int32)), .val (.int x), .val (.int (1 : Int32)), .val (.int (6 : Int32)), .val (.int (Int32.ofNat (6 + (own_dec x).length))), .val (.int (Int32.ofNat bs.length)), .val (.int (1 : Int32)), .val (.int (115 : Int32)), .val (.int (1 : Int32))]) (rest := []) rfl
  refine oS (fun _ k_ => st152 _ k_) ?_
  refine oS (fun _ k_ => XS.bipush X152.here hx rfl (hb hby d35_323) (XS.icmpNo X152.here hx rfl (hb hby d35_325) rfl (XT.ii_ne_f (rfl : (Int32.ofNat 41) = (41 : Int32))) (XS.iconst X152.here hx rfl (hb hby d35_328) (XS.goto X152.here hx rfl (pc0 := 329) (pc' := 333) rfl (hb hby d35_329) (by decide) (by decide) k_)))) ?_
  show oE p e below s _ _ _ (T152.setTop (mkF m 333 #[.val (.ref st), .val (.int (1 : Int32)), .val (.int x), .val (.int (1 : Int32)), .val (.int (6 : Int32)), .val (.int (Int32.ofNat (6 + (own_dec x).length))), .val (.int (Int32.ofNat bs.length)), .val (.int (1 : Int32)), .val (.int (115 : Int32)), .val (.int (1 : Int32))] [(.int (1 : Int32))]))
  exact own_retN X152 hx (t := .boolean) hret (by simp) hlk (hb hby d35_333) (by decide) (by decide) rfl ⟨rfl, N152, e152⟩
theorem ef_rmds20 (m : MethodId) (st : Addr) (x : Int32) (N : Nat) : entryFrame m #[(.ref st), (.int (Int32.ofNat N)), (.int x), (.int (0 : Int32))] 10 = mkF m 0 #[.val (.ref st), .val (.int (Int32.ofNat N)), .val (.int x), .val (.int (0 : Int32)), .unset, .unset, .unset, .unset, .unset, .unset] [] := by first | (simp [entryFrame, mkF, argsToLocals, Value.category]; done) | rfl
def Qds20 (Z : State) (st : Addr) (x : Int32) (cs : Int32) (fm : Value) (d1 d2 : Addr) (sa : Addr) (mid : List Nat) (N : Nat) (h0 : Heap) (n0 : Nat) (v : Option Value) (h : Heap) (L : List Loc) : Prop := v = some (.int (1 : Int32)) ∧ Fr n0 L ∧ h = h0
theorem rmds20 (l : Launch) (Z : State) (a0 : Array Value) (hw : ∀ d ∈ tables_1, d.before a0 Z = true) (ws : List Jvm.Cond) (st : Addr) (x : Int32) (cs : Int32) (fm : Value) (d1 d2 : Addr) (sa : Addr) (mid : List Nat) (N : Nat) (h0 : Heap) (n0 : Nat) (Z0 : n0 ≤ h0.size) (Wd : own_Wd Z cs fm d1 d2) (OZ : Old Z n0 h0) (E0 : Exa Z h0 st "java/lang/String") (V0 : Fld Z h0 st "java/lang/String" "value" "[B" (.ref sa)) (C0 : Fld Z h0 st "java/lang/String" "coder" "B" (.int 0)) (B0 : own_By Z h0 sa (((48 + N) :: [32, 111, 102, 32, 105, 116, 115, 32, 111, 114, 100, 101, 114, 115, 44, 32, 116, 104, 101, 32, 102, 105, 114, 115, 116, 32, 111, 114, 100, 101, 114, 32]) ++ (own_dec x ++ [44, 32, 112]))) (hmid : 1 ≤ mid.length) (hmx : mid.length ≤ 37) (hN : 2 ≤ N) (hN3 : N ≤ 3) :
    own_MF l (⟨"com/example/nalog/nalog/OrderCountAddPinLaw", "describes", "(Ljava/lang/String;IIZ)Z"⟩ : MethodName) method_4_code 10 (some .boolean) ws ({ frames := 5, cells := 0, slots := 0, locals := 90 } : Room) #[(.ref st), (.int (Int32.ofNat N)), (.int x), (.int (0 : Int32))] Z h0 (Qds20 Z st x cs fm d1 d2 sa mid N h0 n0) := by
  refine MetFree.of_bodySF (plainFor_of_name pn_8) hisR ?_
  intro p e s m args below meth c s₁ Bd hml0 hP hK
  obtain ⟨rfl, hZ, hh⟩ := hP
  have hx := Bd.exec
  have hby := Bd.bytes
  have hlk : meth.locks = false := BodyLoose.notSynchronized Bd
  have hret := Bd.returns
  have hml : c.maxLocals = 10 := hml0
  have hown : s.vm.findClass "com/example/nalog/nalog/OrderCountAddPinLaw" = some m.cls := findClass_of_methodNamed Bd.named
  have hnm := (name_of_methodNamed Bd.named Bd.method).1
  have X0 : Stand p l e ({ frames := 5, cells := 0, slots := 0, locals := 90 } : Room) s m #[(.ref st), (.int (Int32.ofNat N)), (.int x), (.int (0 : Int32))] below meth c s₁ [] 0 0 := Stand.of_body Bd
  have e0 : s₁.heap = h0 := by rw [← hh, Bd.state]; rfl
  have N0 := Fr.nil n0
  show oE p e below s 0 0 (Qds20 Z st x cs fm d1 d2 sa mid N h0 n0) (s₁.setTop (entryFrame m #[(.ref st), (.int (Int32.ofNat N)), (.int x), (.int (0 : Int32))] 10))
  refine oS (fun t k => castTop (ef_rmds20 m st x N) k) ?_
  show oE p e below s _ _ _ (s₁.setTop (mkF m 0 #[.val (.ref st), .val (.int (Int32.ofNat N)), .val (.int x), .val (.int (0 : Int32)), .unset, .unset, .unset, .unset, .unset, .unset] []))
  have hdl := own_dec_len x
  have hdl1 := own_dec_len1 x
  obtain ⟨bs, hbs⟩ : ∃ bs, bs = (((48 + N) :: [32, 111, 102, 32, 105, 116, 115, 32, 111, 114, 100, 101, 114, 115, 44, 32, 116, 104, 101, 32, 102, 105, 114, 115, 116, 32, 111, 114, 100, 101, 114, 32]) ++ (own_dec x ++ [44, 32, 112])) := ⟨_, rfl⟩
  rw [← hbs] at B0
  have hbl := B0.len
  have hbn : bs.length = 33 + (own_dec x).length + 3 := by rw [hbs]; simp only [List.length_append, List.length_cons, List.length_nil]; omega
  refine oS (fun _ k_ => XS.iloadN X0.here hx rfl (hb hby d35_0) rfl (XS.iconst X0.here hx rfl (hb hby d35_1) (XS.icmpYes X0.here hx rfl (pc0 := 2) (pc' := 10) rfl (hb hby d35_2) rfl (XT.ii_ne_t (fun z => absurd ((own_eqN (b := 1) (by omega) (by omega)).mp z) (by omega) : ¬ ((Int32.ofNat N) = (1 : Int32)))) (by decide) (by decide) (XS.bipush X0.here hx rfl (hb hby d35_10) (XS.istore X0.here hx rfl (hb hby d35_12) rfl (l' := #[.val (.ref st), .val (.int (Int32.ofNat N)), .val (.int x), .val (.int (0 : Int32)), .val (.int (33 : Int32)), .unset, .unset, .unset, .unset, .unset]) rfl (XS.aloadN X0.here hx rfl (hb hby d35_14) rfl rfl (XS.iload X0.here hx rfl (hb hby d35_15) rfl (XS.iloadN X0.here hx rfl (hb hby d35_17) rfl k_)))))))) ?_
  show oE p e below s _ _ _ (s₁.setTop (mkF m 18 #[.val (.ref st), .val (.int (Int32.ofNat N)), .val (.int x), .val (.int (0 : Int32)), .val (.int (33 : Int32)), .unset, .unset, .unset, .unset, .unset] [(.int x), (.int (33 : Int32)), (.ref st)]))
  obtain ⟨T153, L153, X153, N153, e153, st153⟩ := cl_rmna X0 hw hZ hx hown (wd_ hw 213 rfl) st x cs fm d1 d2 sa bs 33 Z0 Wd OZ E0 V0 C0 B0 (fun k cc hq => by rw [hbs]; exact own_at0 rfl hq) (by omega) e0 N0 hml rfl (hb hby d35_18) (Ls := #[.val (.ref st), .val (.int (Int32.ofNat N)), .val (.int x), .val (.int (0 : Int32)), .val (.int (33 : Int32)), .unset, .unset, .unset, .unset, .unset]) (rest := []) rfl
  refine oS (fun _ k_ => st153 _ k_) ?_
  refine oS (fun _ k_ => XS.ifYes X153.here hx rfl (pc0 := 21) (pc' := 26) rfl (hb hby d35_21) rfl (XT.i0_ne_t (by decide : ¬ ((1 : Int32) = 0))) (by decide) (by decide) (XS.iload X153.here hx rfl (hb hby d35_26) rfl (XS.iloadN X153.here hx rfl (hb hby d35_28) rfl k_))) ?_
  show oE p e below s _ _ _ (T153.setTop (mkF m 29 #[.val (.ref st), .val (.int (Int32.ofNat N)), .val (.int x), .val (.int (0 : Int32)), .val (.int (33 : Int32)), .unset, .unset, .unset, .unset, .unset] [(.int x), (.int (33 : Int32))]))
  obtain ⟨T154, L154, X154, N154, e154, st154⟩ := cl_rmdl X153 hw hZ hx hown (wd_ hw 216 rfl) x Z0 e153 N153 hml rfl (hb hby d35_29) (Ls := #[.val (.ref st), .val (.int (Int32.ofNat N)), .val (.int x), .val (.int (0 : Int32)), .val (.int (33 : Int32)), .unset, .unset, .unset, .unset, .unset]) (rest := [(.int (33 : Int32))]) rfl
  refine oS (fun _ k_ => st154 _ k_) ?_
  refine oS (fun _ k_ => XS.iadd X154.here hx rfl (hb hby d35_32) rfl k_) ?_
  show oE p e below s _ _ _ (T154.setTop (mkF m 33 #[.val (.ref st), .val (.int (Int32.ofNat N)), .val (.int x), .val (.int (0 : Int32)), .val (.int (33 : Int32)), .unset, .unset, .unset, .unset, .unset] [(.int ((33 : Int32) + (Int32.ofNat (own_dec x).length)))]))
  rw [show (33 : Int32) + Int32.ofNat (own_dec x).length = Int32.ofNat (33 + (own_dec x).length) from own_add 33 _]
  refine oS (fun _ k_ => XS.istore X154.here hx rfl (hb hby d35_33) rfl (l' := #[.val (.ref st), .val (.int (Int32.ofNat N)), .val (.int x), .val (.int (0 : Int32)), .val (.int (33 : Int32)), .val (.int (Int32.ofNat (33 + (own_dec x).length))), .unset, .unset, .unset, .unset]) rfl (XS.aloadN X154.here hx rfl (hb hby d35_35) rfl rfl k_)) ?_
  obtain ⟨T155, L155, X155, N155, e155, st155⟩ := cl_rmlen X154 hw hZ hx hown (wd_ hw 226 rfl) st cs fm d1 d2 sa bs Z0 Wd OZ E0 V0 C0 B0 e154 E0 N154 hml rfl (hb hby d35_36) (Ls := #[.val (.ref st), .val (.int (Int32.ofNat N)), .val (.int x), .val (.int (0 : Int32)), .val (.int (33 : Int32)), .val (.int (Int32.ofNat (33 + (own_dec x).length))), .unset, .unset, .unset, .unset]) (rest := []) rfl
  refine oS (fun _ k_ => st155 _ k_) ?_
  refine oS (fun _ k_ => XS.istore X155.here hx rfl (hb hby d35_39) rfl (l' := #[.val (.ref st), .val (.int (Int32.ofNat N)), .val (.int x), .val (.int (0 : Int32)), .val (.int (33 : Int32)), .val (.int (Int32.ofNat (33 + (own_dec x).length))), .val (.int (Int32.ofNat bs.length)), .unset, .unset, .unset]) rfl (XS.iloadN X155.here hx rfl (hb hby d35_41) rfl (XS.iconst X155.here hx rfl (hb hby d35_42) (XS.icmpYes X155.here hx rfl (pc0 := 43) (pc' := 74) rfl (hb hby d35_43) rfl (XT.ii_ne_t (fun z => absurd ((own_eqN (b := 1) (by omega) (by omega)).mp z) (by omega) : ¬ ((Int32.ofNat N) = (1 : Int32)))) (by decide) (by decide) (XS.aloadN X155.here hx rfl (hb hby d35_74) rfl rfl (XS.iconst X155.here hx rfl (hb hby d35_75) k_)))))) ?_
  show oE p e below s _ _ _ (T155.setTop (mkF m 76 #[.val (.ref st), .val (.int (Int32.ofNat N)), .val (.int x), .val (.int (0 : Int32)), .val (.int (33 : Int32)), .val (.int (Int32.ofNat (33 + (own_dec x).length))), .val (.int (Int32.ofNat bs.length)), .unset, .unset, .unset] [(.int (0 : Int32)), (.ref st)]))
  obtain ⟨T156, L156, X156, N156, e156, st156⟩ := cl_rmch X155 hw hZ hx hown (wd_ hw 227 rfl) st cs fm d1 d2 sa bs 0 (48 + N) Z0 Wd OZ E0 V0 C0 B0 (by rw [hbs]; rfl) e155 E0 N155 hml rfl (hb hby d35_76) (Ls := #[.val (.ref st), .val (.int (Int32.ofNat N)), .val (.int x), .val (.int (0 : Int32)), .val (.int (33 : Int32)), .val (.int (Int32.ofNat (33 + (own_dec x).length))), .val (.int (Int32.ofNat bs.length)), .unset, .unset, .unset]) (rest := []) rfl
  refine oS (fun _ k_ => st156 _ k_) ?_
  refine oS (fun _ k_ => XS.bipush X156.here hx rfl (hb hby d35_79) (XS.iloadN X156.here hx rfl (hb hby d35_81) rfl (XS.iadd X156.here hx rfl (hb hby d35_82) rfl k_))) ?_
  show oE p e below s _ _ _ (T156.setTop (mkF m 83 #[.val (.ref st), .val (.int (Int32.ofNat N)), .val (.int x), .val (.int (0 : Int32)), .val (.int (33 : Int32)), .val (.int (Int32.ofNat (33 + (own_dec x).length))), .val (.int (Int32.ofNat bs.length)), .unset, .unset, .unset] [(.int ((48 : Int32) + (Int32.ofNat N))), (.int (Int32.ofNat (48 + N)))]))
  rw [show (48 : Int32) + Int32.ofNat N = Int32.ofNat (48 + N) from own_add 48 _]
  refine oS (fun _ k_ => XS.i2c X156.here hx rfl (hb hby d35_83) rfl k_) ?_
  show oE p e below s _ _ _ (T156.setTop (mkF m 84 #[.val (.ref st), .val (.int (Int32.ofNat N)), .val (.int x), .val (.int (0 : Int32)), .val (.int (33 : Int32)), .val (.int (Int32.ofNat (33 + (own_dec x).length))), .val (.int (Int32.ofNat bs.length)), .unset, .unset, .unset] [(.int ((Int32.ofNat (48 + N)).toUInt32.toUInt16.toUInt32.toInt32)), (.int (Int32.ofNat (48 + N)))]))
  rw [own_i2c (by omega)]
  refine oS (fun _ k_ => XS.icmpNo X156.here hx rfl (hb hby d35_84) rfl (XT.ii_ne_f (rfl : (Int32.ofNat (48 + N)) = (Int32.ofNat (48 + N)))) (XS.aloadN X156.here hx rfl (hb hby d35_87) rfl rfl (XS.iconst X156.here hx rfl (hb hby d35_88) k_))) ?_
  show oE p e below s _ _ _ (T156.setTop (mkF m 89 #[.val (.ref st), .val (.int (Int32.ofNat N)), .val (.int x), .val (.int (0 : Int32)), .val (.int (33 : Int32)), .val (.int (Int32.ofNat (33 + (own_dec x).length))), .val (.int (Int32.ofNat bs.length)), .unset, .unset, .unset] [(.int (1 : Int32)), (.ref st)]))
  obtain ⟨T157, L157, X157, N157, e157, st157⟩ := cl_rmch X156 hw hZ hx hown (wd_ hw 227 rfl) st cs fm d1 d2 sa bs 1 32 Z0 Wd OZ E0 V0 C0 B0 (by rw [hbs]; rfl) e156 E0 N156 hml rfl (hb hby d35_89) (Ls := #[.val (.ref st), .val (.int (Int32.ofNat N)), .val (.int x), .val (.int (0 : Int32)), .val (.int (33 : Int32)), .val (.int (Int32.ofNat (33 + (own_dec x).length))), .val (.int (Int32.ofNat bs.length)), .unset, .unset, .unset]) (rest := []) rfl
  refine oS (fun _ k_ => st157 _ k_) ?_
  refine oS (fun _ k_ => XS.bipush X157.here hx rfl (hb hby d35_92) (XS.icmpNo X157.here hx rfl (hb hby d35_94) rfl (XT.ii_ne_f (rfl : (Int32.ofNat 32) = (32 : Int32))) (XS.aloadN X157.here hx rfl (hb hby d35_97) rfl rfl (XS.bipush X157.here hx rfl (hb hby d35_98) k_)))) ?_
  show oE p e below s _ _ _ (T157.setTop (mkF m 100 #[.val (.ref st), .val (.int (Int32.ofNat N)), .val (.int x), .val (.int (0 : Int32)), .val (.int (33 : Int32)), .val (.int (Int32.ofNat (33 + (own_dec x).length))), .val (.int (Int32.ofNat bs.length)), .unset, .unset, .unset] [(.int (32 : Int32)), (.ref st)]))
  obtain ⟨T158, L158, X158, N158, e158, st158⟩ := cl_rmch X157 hw hZ hx hown (wd_ hw 227 rfl) st cs fm d1 d2 sa bs 32 32 Z0 Wd OZ E0 V0 C0 B0 (by rw [hbs]; rfl) e157 E0 N157 hml rfl (hb hby d35_100) (Ls := #[.val (.ref st), .val (.int (Int32.ofNat N)), .val (.int x), .val (.int (0 : Int32)), .val (.int (33 : Int32)), .val (.int (Int32.ofNat (33 + (own_dec x).length))), .val (.int (Int32.ofNat bs.length)), .unset, .unset, .unset]) (rest := []) rfl
  refine oS (fun _ k_ => st158 _ k_) ?_
  refine oS (fun _ k_ => XS.bipush X158.here hx rfl (hb hby d35_103) (XS.icmpNo X158.here hx rfl (hb hby d35_105) rfl (XT.ii_ne_f (rfl : (Int32.ofNat 32) = (32 : Int32))) (XS.iconst X158.here hx rfl (hb hby d35_108) (XS.goto X158.here hx rfl (pc0 := 109) (pc' := 113) rfl (hb hby d35_109) (by decide) (by decide) (XS.istore X158.here hx rfl (hb hby d35_113) rfl (l' := #[.val (.ref st), .val (.int (Int32.ofNat N)), .val (.int x), .val (.int (0 : Int32)), .val (.int (33 : Int32)), .val (.int (Int32.ofNat (33 + (own_dec x).length))), .val (.int (Int32.ofNat bs.length)), .val (.int (1 : Int32)), .unset, .unset]) rfl (XS.iload X158.here hx rfl (hb hby d35_115) rfl (XS.ifYes X158.here hx rfl (pc0 := 117) (pc' := 122) rfl (hb hby d35_117) rfl (XT.i0_ne_t (by decide : ¬ ((1 : Int32) = 0))) (by decide) (by decide) (XS.iloadN X158.here hx rfl (hb hby d35_122) rfl k_)))))))) ?_
  show oE p e below s _ _ _ (T158.setTop (mkF m 123 #[.val (.ref st), .val (.int (Int32.ofNat N)), .val (.int x), .val (.int (0 : Int32)), .val (.int (33 : Int32)), .val (.int (Int32.ofNat (33 + (own_dec x).length))), .val (.int (Int32.ofNat bs.length)), .val (.int (1 : Int32)), .unset, .unset] [(.int (Int32.ofNat N))]))
  refine oS (fun _ k_ => XS.iconst X158.here hx rfl (hb hby d35_123) (XS.icmpYes X158.here hx rfl (pc0 := 124) (pc' := 132) rfl (hb hby d35_124) rfl (XT.ii_ne_t (fun z => absurd ((own_eqN (b := 1) (by omega) (by omega)).mp z) (by omega) : ¬ ((Int32.ofNat N) = (1 : Int32)))) (by decide) (by decide) (XS.bipush X158.here hx rfl (hb hby d35_132) (XS.istore X158.here hx rfl (hb hby d35_134) rfl (l' := #[.val (.ref st), .val (.int (Int32.ofNat N)), .val (.int x), .val (.int (0 : Int32)), .val (.int (33 : Int32)), .val (.int (Int32.ofNat (33 + (own_dec x).length))), .val (.int (Int32.ofNat bs.length)), .val (.int (1 : Int32)), .val (.int (112 : Int32)), .unset]) rfl (XS.iloadN X158.here hx rfl (hb hby d35_136) rfl (XS.ifNo X158.here hx rfl (hb hby d35_137) rfl (XT.i0_ne_f (by decide : (0 : Int32) = 0)) (XS.iloadN X158.here hx rfl (hb hby d35_140) rfl (XS.iconst X158.here hx rfl (hb hby d35_141) k_)))))))) ?_
  show oE p e below s _ _ _ (T158.setTop (mkF m 142 #[.val (.ref st), .val (.int (Int32.ofNat N)), .val (.int x), .val (.int (0 : Int32)), .val (.int (33 : Int32)), .val (.int (Int32.ofNat (33 + (own_dec x).length))), .val (.int (Int32.ofNat bs.length)), .val (.int (1 : Int32)), .val (.int (112 : Int32)), .unset] [(.int (1 : Int32)), (.int (Int32.ofNat N))]))
  refine oS (fun _ k_ => XS.icmpYes X158.here hx rfl (pc0 := 142) (pc' := 184) rfl (hb hby d35_142) rfl (XT.ii_ne_t (fun z => absurd ((own_eqN (b := 1) (by omega) (by omega)).mp z) (by omega) : ¬ ((Int32.ofNat N) = (1 : Int32)))) (by decide) (by decide) (XS.iload X158.here hx rfl (hb hby d35_184) rfl (XS.iload X158.here hx rfl (hb hby d35_186) rfl (XS.iconst X158.here hx rfl (hb hby d35_188) (XS.iadd X158.here hx rfl (hb hby d35_189) rfl k_))))) ?_
  show oE p e below s _ _ _ (T158.setTop (mkF m 190 #[.val (.ref st), .val (.int (Int32.ofNat N)), .val (.int x), .val (.int (0 : Int32)), .val (.int (33 : Int32)), .val (.int (Int32.ofNat (33 + (own_dec x).length))), .val (.int (Int32.ofNat bs.length)), .val (.int (1 : Int32)), .val (.int (112 : Int32)), .unset] [(.int ((Int32.ofNat (33 + (own_dec x).length)) + (3 : Int32))), (.int (Int32.ofNat bs.length))]))
  rw [show Int32.ofNat (33 + (own_dec x).length) + (3 : Int32) = Int32.ofNat ((33 + (own_dec x).length) + 3) from own_add _ 3]
  refine oS (fun _ k_ => XS.icmpNo X158.here hx rfl (hb hby d35_190) rfl (XT.ii_ne_f ((own_eqN (by omega) (by omega)).mpr (by omega) : (Int32.ofNat bs.length) = (Int32.ofNat ((33 + (own_dec x).length) + 3)))) (XS.aloadN X158.here hx rfl (hb hby d35_193) rfl rfl (XS.iload X158.here hx rfl (hb hby d35_194) rfl k_))) ?_
  show oE p e below s _ _ _ (T158.setTop (mkF m 196 #[.val (.ref st), .val (.int (Int32.ofNat N)), .val (.int x), .val (.int (0 : Int32)), .val (.int (33 : Int32)), .val (.int (Int32.ofNat (33 + (own_dec x).length))), .val (.int (Int32.ofNat bs.length)), .val (.int (1 : Int32)), .val (.int (112 : Int32)), .unset] [(.int (Int32.ofNat (33 + (own_dec x).length))), (.ref st)]))
  obtain ⟨T159, L159, X159, N159, e159, st159⟩ := cl_rmch X158 hw hZ hx hown (wd_ hw 227 rfl) st cs fm d1 d2 sa bs (33 + (own_dec x).length) 44 Z0 Wd OZ E0 V0 C0 B0 (by rw [hbs]; exact own_at1 (j := 0) rfl) e158 E0 N158 hml rfl (hb hby d35_196) (Ls := #[.val (.ref st), .val (.int (Int32.ofNat N)), .val (.int x), .val (.int (0 : Int32)), .val (.int (33 : Int32)), .val (.int (Int32.ofNat (33 + (own_dec x).length))), .val (.int (Int32.ofNat bs.length)), .val (.int (1 : Int32)), .val (.int (112 : Int32)), .unset]) (rest := []) rfl
  refine oS (fun _ k_ => st159 _ k_) ?_
  refine oS (fun _ k_ => XS.bipush X159.here hx rfl (hb hby d35_199) (XS.icmpNo X159.here hx rfl (hb hby d35_201) rfl (XT.ii_ne_f (rfl : (Int32.ofNat 44) = (44 : Int32))) (XS.aloadN X159.here hx rfl (hb hby d35_204) rfl rfl (XS.iload X159.here hx rfl (hb hby d35_205) rfl (XS.iconst X159.here hx rfl (hb hby d35_207) (XS.iadd X159.here hx rfl (hb hby d35_208) rfl k_)))))) ?_
  show oE p e below s _ _ _ (T159.setTop (mkF m 209 #[.val (.ref st), .val (.int (Int32.ofNat N)), .val (.int x), .val (.int (0 : Int32)), .val (.int (33 : Int32)), .val (.int (Int32.ofNat (33 + (own_dec x).length))), .val (.int (Int32.ofNat bs.length)), .val (.int (1 : Int32)), .val (.int (112 : Int32)), .unset] [(.int ((Int32.ofNat (33 + (own_dec x).length)) + (1 : Int32))), (.ref st)]))
  rw [show Int32.ofNat (33 + (own_dec x).length) + (1 : Int32) = Int32.ofNat ((33 + (own_dec x).length) + 1) from own_add _ 1]
  obtain ⟨T160, L160, X160, N160, e160, st160⟩ := cl_rmch X159 hw hZ hx hown (wd_ hw 227 rfl) st cs fm d1 d2 sa bs ((33 + (own_dec x).length) + 1) 32 Z0 Wd OZ E0 V0 C0 B0 (by rw [hbs]; exact own_at1 (j := 1) rfl) e159 E0 N159 hml rfl (hb hby d35_209) (Ls := #[.val (.ref st), .val (.int (Int32.ofNat N)), .val (.int x), .val (.int (0 : Int32)), .val (.int (33 : Int32)), .val (.int (Int32.ofNat (33 + (own_dec x).length))), .val (.int (Int32.ofNat bs.length)), .val (.int (1 : Int32)), .val (.int (112 : Int32)), .unset]) (rest := []) rfl
  refine oS (fun _ k_ => st160 _ k_) ?_
  refine oS (fun _ k_ => XS.bipush X160.here hx rfl (hb hby d35_212) (XS.icmpNo X160.here hx rfl (hb hby d35_214) rfl (XT.ii_ne_f (rfl : (Int32.ofNat 32) = (32 : Int32))) (XS.aloadN X160.here hx rfl (hb hby d35_217) rfl rfl (XS.iload X160.here hx rfl (hb hby d35_218) rfl (XS.iconst X160.here hx rfl (hb hby d35_220) (XS.iadd X160.here hx rfl (hb hby d35_221) rfl k_)))))) ?_
  show oE p e below s _ _ _ (T160.setTop (mkF m 222 #[.val (.ref st), .val (.int (Int32.ofNat N)), .val (.int x), .val (.int (0 : Int32)), .val (.int (33 : Int32)), .val (.int (Int32.ofNat (33 + (own_dec x).length))), .val (.int (Int32.ofNat bs.length)), .val (.int (1 : Int32)), .val (.int (112 : Int32)), .unset] [(.int ((Int32.ofNat (33 + (own_dec x).length)) + (2 : Int32))), (.ref st)]))
  rw [show Int32.ofNat (33 + (own_dec x).length) + (2 : Int32) = Int32.ofNat ((33 + (own_dec x).length) + 2) from own_add _ 2]
  obtain ⟨T161, L161, X161, N161, e161, st161⟩ := cl_rmch X160 hw hZ hx hown (wd_ hw 227 rfl) st cs fm d1 d2 sa bs ((33 + (own_dec x).length) + 2) 112 Z0 Wd OZ E0 V0 C0 B0 (by rw [hbs]; exact own_at1 (j := 2) rfl) e160 E0 N160 hml rfl (hb hby d35_222) (Ls := #[.val (.ref st), .val (.int (Int32.ofNat N)), .val (.int x), .val (.int (0 : Int32)), .val (.int (33 : Int32)), .val (.int (Int32.ofNat (33 + (own_dec x).length))), .val (.int (Int32.ofNat bs.length)), .val (.int (1 : Int32)), .val (.int (112 : Int32)), .unset]) (rest := []) rfl
  refine oS (fun _ k_ => st161 _ k_) ?_
  refine oS (fun _ k_ => XS.iload X161.here hx rfl (hb hby d35_225) rfl (XS.icmpNo X161.here hx rfl (hb hby d35_227) rfl (XT.ii_ne_f (rfl : (Int32.ofNat 112) = (112 : Int32))) (XS.iconst X161.here hx rfl (hb hby d35_230) (XS.goto X161.here hx rfl (pc0 := 231) (pc' := 235) rfl (hb hby d35_231) (by decide) (by decide) k_)))) ?_
  show oE p e below s _ _ _ (T161.setTop (mkF m 235 #[.val (.ref st), .val (.int (Int32.ofNat N)), .val (.int x), .val (.int (0 : Int32)), .val (.int (33 : Int32)), .val (.int (Int32.ofNat (33 + (own_dec x).length))), .val (.int (Int32.ofNat bs.length)), .val (.int (1 : Int32)), .val (.int (112 : Int32)), .unset] [(.int (1 : Int32))]))
  exact own_retN X161 hx (t := .boolean) hret (by simp) hlk (hb hby d35_235) (by decide) (by decide) rfl ⟨rfl, N161, e161⟩
theorem ef_rmds21 (m : MethodId) (st : Addr) (x : Int32) (N : Nat) : entryFrame m #[(.ref st), (.int (Int32.ofNat N)), (.int x), (.int (1 : Int32))] 10 = mkF m 0 #[.val (.ref st), .val (.int (Int32.ofNat N)), .val (.int x), .val (.int (1 : Int32)), .unset, .unset, .unset, .unset, .unset, .unset] [] := by first | (simp [entryFrame, mkF, argsToLocals, Value.category]; done) | rfl
def Qds21 (Z : State) (st : Addr) (x : Int32) (cs : Int32) (fm : Value) (d1 d2 : Addr) (sa : Addr) (mid : List Nat) (N : Nat) (h0 : Heap) (n0 : Nat) (v : Option Value) (h : Heap) (L : List Loc) : Prop := v = some (.int (1 : Int32)) ∧ Fr n0 L ∧ h = h0
theorem rmds21 (l : Launch) (Z : State) (a0 : Array Value) (hw : ∀ d ∈ tables_1, d.before a0 Z = true) (ws : List Jvm.Cond) (st : Addr) (x : Int32) (cs : Int32) (fm : Value) (d1 d2 : Addr) (sa : Addr) (mid : List Nat) (N : Nat) (h0 : Heap) (n0 : Nat) (Z0 : n0 ≤ h0.size) (Wd : own_Wd Z cs fm d1 d2) (OZ : Old Z n0 h0) (E0 : Exa Z h0 st "java/lang/String") (V0 : Fld Z h0 st "java/lang/String" "value" "[B" (.ref sa)) (C0 : Fld Z h0 st "java/lang/String" "coder" "B" (.int 0)) (B0 : own_By Z h0 sa (((48 + N) :: [32, 111, 102, 32, 105, 116, 115, 32, 111, 114, 100, 101, 114, 115, 44, 32, 116, 104, 101, 32, 102, 105, 114, 115, 116, 32, 111, 114, 100, 101, 114, 32]) ++ (own_dec x ++ ([32, 40] ++ mid ++ [41, 44, 32, 112])))) (hmid : 1 ≤ mid.length) (hmx : mid.length ≤ 37) (hN : 2 ≤ N) (hN3 : N ≤ 3) :
    own_MF l (⟨"com/example/nalog/nalog/OrderCountAddPinLaw", "describes", "(Ljava/lang/String;IIZ)Z"⟩ : MethodName) method_4_code 10 (some .boolean) ws ({ frames := 5, cells := 0, slots := 0, locals := 90 } : Room) #[(.ref st), (.int (Int32.ofNat N)), (.int x), (.int (1 : Int32))] Z h0 (Qds21 Z st x cs fm d1 d2 sa mid N h0 n0) := by
  refine MetFree.of_bodySF (plainFor_of_name pn_8) hisR ?_
  intro p e s m args below meth c s₁ Bd hml0 hP hK
  obtain ⟨rfl, hZ, hh⟩ := hP
  have hx := Bd.exec
  have hby := Bd.bytes
  have hlk : meth.locks = false := BodyLoose.notSynchronized Bd
  have hret := Bd.returns
  have hml : c.maxLocals = 10 := hml0
  have hown : s.vm.findClass "com/example/nalog/nalog/OrderCountAddPinLaw" = some m.cls := findClass_of_methodNamed Bd.named
  have hnm := (name_of_methodNamed Bd.named Bd.method).1
  have X0 : Stand p l e ({ frames := 5, cells := 0, slots := 0, locals := 90 } : Room) s m #[(.ref st), (.int (Int32.ofNat N)), (.int x), (.int (1 : Int32))] below meth c s₁ [] 0 0 := Stand.of_body Bd
  have e0 : s₁.heap = h0 := by rw [← hh, Bd.state]; rfl
  have N0 := Fr.nil n0
  show oE p e below s 0 0 (Qds21 Z st x cs fm d1 d2 sa mid N h0 n0) (s₁.setTop (entryFrame m #[(.ref st), (.int (Int32.ofNat N)), (.int x), (.int (1 : Int32))] 10))
  refine oS (fun t k => castTop (ef_rmds21 m st x N) k) ?_
  show oE p e below s _ _ _ (s₁.setTop (mkF m 0 #[.val (.ref st), .val (.int (Int32.ofNat N)), .val (.int x), .val (.int (1 : Int32)), .unset, .unset, .unset, .unset, .unset, .unset] []))
  have hdl := own_dec_len x
  have hdl1 := own_dec_len1 x
  obtain ⟨bs, hbs⟩ : ∃ bs, bs = (((48 + N) :: [32, 111, 102, 32, 105, 116, 115, 32, 111, 114, 100, 101, 114, 115, 44, 32, 116, 104, 101, 32, 102, 105, 114, 115, 116, 32, 111, 114, 100, 101, 114, 32]) ++ (own_dec x ++ ([32, 40] ++ mid ++ [41, 44, 32, 112]))) := ⟨_, rfl⟩
  rw [← hbs] at B0
  have hbl := B0.len
  have hbn : bs.length = 33 + (own_dec x).length + (2 + mid.length + 4) := by rw [hbs]; simp only [List.length_append, List.length_cons, List.length_nil]; omega
  refine oS (fun _ k_ => XS.iloadN X0.here hx rfl (hb hby d35_0) rfl (XS.iconst X0.here hx rfl (hb hby d35_1) (XS.icmpYes X0.here hx rfl (pc0 := 2) (pc' := 10) rfl (hb hby d35_2) rfl (XT.ii_ne_t (fun z => absurd ((own_eqN (b := 1) (by omega) (by omega)).mp z) (by omega) : ¬ ((Int32.ofNat N) = (1 : Int32)))) (by decide) (by decide) (XS.bipush X0.here hx rfl (hb hby d35_10) (XS.istore X0.here hx rfl (hb hby d35_12) rfl (l' := #[.val (.ref st), .val (.int (Int32.ofNat N)), .val (.int x), .val (.int (1 : Int32)), .val (.int (33 : Int32)), .unset, .unset, .unset, .unset, .unset]) rfl (XS.aloadN X0.here hx rfl (hb hby d35_14) rfl rfl (XS.iload X0.here hx rfl (hb hby d35_15) rfl (XS.iloadN X0.here hx rfl (hb hby d35_17) rfl k_)))))))) ?_
  show oE p e below s _ _ _ (s₁.setTop (mkF m 18 #[.val (.ref st), .val (.int (Int32.ofNat N)), .val (.int x), .val (.int (1 : Int32)), .val (.int (33 : Int32)), .unset, .unset, .unset, .unset, .unset] [(.int x), (.int (33 : Int32)), (.ref st)]))
  obtain ⟨T162, L162, X162, N162, e162, st162⟩ := cl_rmna X0 hw hZ hx hown (wd_ hw 213 rfl) st x cs fm d1 d2 sa bs 33 Z0 Wd OZ E0 V0 C0 B0 (fun k cc hq => by rw [hbs]; exact own_at0 rfl hq) (by omega) e0 N0 hml rfl (hb hby d35_18) (Ls := #[.val (.ref st), .val (.int (Int32.ofNat N)), .val (.int x), .val (.int (1 : Int32)), .val (.int (33 : Int32)), .unset, .unset, .unset, .unset, .unset]) (rest := []) rfl
  refine oS (fun _ k_ => st162 _ k_) ?_
  refine oS (fun _ k_ => XS.ifYes X162.here hx rfl (pc0 := 21) (pc' := 26) rfl (hb hby d35_21) rfl (XT.i0_ne_t (by decide : ¬ ((1 : Int32) = 0))) (by decide) (by decide) (XS.iload X162.here hx rfl (hb hby d35_26) rfl (XS.iloadN X162.here hx rfl (hb hby d35_28) rfl k_))) ?_
  show oE p e below s _ _ _ (T162.setTop (mkF m 29 #[.val (.ref st), .val (.int (Int32.ofNat N)), .val (.int x), .val (.int (1 : Int32)), .val (.int (33 : Int32)), .unset, .unset, .unset, .unset, .unset] [(.int x), (.int (33 : Int32))]))
  obtain ⟨T163, L163, X163, N163, e163, st163⟩ := cl_rmdl X162 hw hZ hx hown (wd_ hw 216 rfl) x Z0 e162 N162 hml rfl (hb hby d35_29) (Ls := #[.val (.ref st), .val (.int (Int32.ofNat N)), .val (.int x), .val (.int (1 : Int32)), .val (.int (33 : Int32)), .unset, .unset, .unset, .unset, .unset]) (rest := [(.int (33 : Int32))]) rfl
  refine oS (fun _ k_ => st163 _ k_) ?_
  refine oS (fun _ k_ => XS.iadd X163.here hx rfl (hb hby d35_32) rfl k_) ?_
  show oE p e below s _ _ _ (T163.setTop (mkF m 33 #[.val (.ref st), .val (.int (Int32.ofNat N)), .val (.int x), .val (.int (1 : Int32)), .val (.int (33 : Int32)), .unset, .unset, .unset, .unset, .unset] [(.int ((33 : Int32) + (Int32.ofNat (own_dec x).length)))]))
  rw [show (33 : Int32) + Int32.ofNat (own_dec x).length = Int32.ofNat (33 + (own_dec x).length) from own_add 33 _]
  refine oS (fun _ k_ => XS.istore X163.here hx rfl (hb hby d35_33) rfl (l' := #[.val (.ref st), .val (.int (Int32.ofNat N)), .val (.int x), .val (.int (1 : Int32)), .val (.int (33 : Int32)), .val (.int (Int32.ofNat (33 + (own_dec x).length))), .unset, .unset, .unset, .unset]) rfl (XS.aloadN X163.here hx rfl (hb hby d35_35) rfl rfl k_)) ?_
  obtain ⟨T164, L164, X164, N164, e164, st164⟩ := cl_rmlen X163 hw hZ hx hown (wd_ hw 226 rfl) st cs fm d1 d2 sa bs Z0 Wd OZ E0 V0 C0 B0 e163 E0 N163 hml rfl (hb hby d35_36) (Ls := #[.val (.ref st), .val (.int (Int32.ofNat N)), .val (.int x), .val (.int (1 : Int32)), .val (.int (33 : Int32)), .val (.int (Int32.ofNat (33 + (own_dec x).length))), .unset, .unset, .unset, .unset]) (rest := []) rfl
  refine oS (fun _ k_ => st164 _ k_) ?_
  refine oS (fun _ k_ => XS.istore X164.here hx rfl (hb hby d35_39) rfl (l' := #[.val (.ref st), .val (.int (Int32.ofNat N)), .val (.int x), .val (.int (1 : Int32)), .val (.int (33 : Int32)), .val (.int (Int32.ofNat (33 + (own_dec x).length))), .val (.int (Int32.ofNat bs.length)), .unset, .unset, .unset]) rfl (XS.iloadN X164.here hx rfl (hb hby d35_41) rfl (XS.iconst X164.here hx rfl (hb hby d35_42) (XS.icmpYes X164.here hx rfl (pc0 := 43) (pc' := 74) rfl (hb hby d35_43) rfl (XT.ii_ne_t (fun z => absurd ((own_eqN (b := 1) (by omega) (by omega)).mp z) (by omega) : ¬ ((Int32.ofNat N) = (1 : Int32)))) (by decide) (by decide) (XS.aloadN X164.here hx rfl (hb hby d35_74) rfl rfl (XS.iconst X164.here hx rfl (hb hby d35_75) k_)))))) ?_
  show oE p e below s _ _ _ (T164.setTop (mkF m 76 #[.val (.ref st), .val (.int (Int32.ofNat N)), .val (.int x), .val (.int (1 : Int32)), .val (.int (33 : Int32)), .val (.int (Int32.ofNat (33 + (own_dec x).length))), .val (.int (Int32.ofNat bs.length)), .unset, .unset, .unset] [(.int (0 : Int32)), (.ref st)]))
  obtain ⟨T165, L165, X165, N165, e165, st165⟩ := cl_rmch X164 hw hZ hx hown (wd_ hw 227 rfl) st cs fm d1 d2 sa bs 0 (48 + N) Z0 Wd OZ E0 V0 C0 B0 (by rw [hbs]; rfl) e164 E0 N164 hml rfl (hb hby d35_76) (Ls := #[.val (.ref st), .val (.int (Int32.ofNat N)), .val (.int x), .val (.int (1 : Int32)), .val (.int (33 : Int32)), .val (.int (Int32.ofNat (33 + (own_dec x).length))), .val (.int (Int32.ofNat bs.length)), .unset, .unset, .unset]) (rest := []) rfl
  refine oS (fun _ k_ => st165 _ k_) ?_
  refine oS (fun _ k_ => XS.bipush X165.here hx rfl (hb hby d35_79) (XS.iloadN X165.here hx rfl (hb hby d35_81) rfl (XS.iadd X165.here hx rfl (hb hby d35_82) rfl k_))) ?_
  show oE p e below s _ _ _ (T165.setTop (mkF m 83 #[.val (.ref st), .val (.int (Int32.ofNat N)), .val (.int x), .val (.int (1 : Int32)), .val (.int (33 : Int32)), .val (.int (Int32.ofNat (33 + (own_dec x).length))), .val (.int (Int32.ofNat bs.length)), .unset, .unset, .unset] [(.int ((48 : Int32) + (Int32.ofNat N))), (.int (Int32.ofNat (48 + N)))]))
  rw [show (48 : Int32) + Int32.ofNat N = Int32.ofNat (48 + N) from own_add 48 _]
  refine oS (fun _ k_ => XS.i2c X165.here hx rfl (hb hby d35_83) rfl k_) ?_
  show oE p e below s _ _ _ (T165.setTop (mkF m 84 #[.val (.ref st), .val (.int (Int32.ofNat N)), .val (.int x), .val (.int (1 : Int32)), .val (.int (33 : Int32)), .val (.int (Int32.ofNat (33 + (own_dec x).length))), .val (.int (Int32.ofNat bs.length)), .unset, .unset, .unset] [(.int ((Int32.ofNat (48 + N)).toUInt32.toUInt16.toUInt32.toInt32)), (.int (Int32.ofNat (48 + N)))]))
  rw [own_i2c (by omega)]
  refine oS (fun _ k_ => XS.icmpNo X165.here hx rfl (hb hby d35_84) rfl (XT.ii_ne_f (rfl : (Int32.ofNat (48 + N)) = (Int32.ofNat (48 + N)))) (XS.aloadN X165.here hx rfl (hb hby d35_87) rfl rfl (XS.iconst X165.here hx rfl (hb hby d35_88) k_))) ?_
  show oE p e below s _ _ _ (T165.setTop (mkF m 89 #[.val (.ref st), .val (.int (Int32.ofNat N)), .val (.int x), .val (.int (1 : Int32)), .val (.int (33 : Int32)), .val (.int (Int32.ofNat (33 + (own_dec x).length))), .val (.int (Int32.ofNat bs.length)), .unset, .unset, .unset] [(.int (1 : Int32)), (.ref st)]))
  obtain ⟨T166, L166, X166, N166, e166, st166⟩ := cl_rmch X165 hw hZ hx hown (wd_ hw 227 rfl) st cs fm d1 d2 sa bs 1 32 Z0 Wd OZ E0 V0 C0 B0 (by rw [hbs]; rfl) e165 E0 N165 hml rfl (hb hby d35_89) (Ls := #[.val (.ref st), .val (.int (Int32.ofNat N)), .val (.int x), .val (.int (1 : Int32)), .val (.int (33 : Int32)), .val (.int (Int32.ofNat (33 + (own_dec x).length))), .val (.int (Int32.ofNat bs.length)), .unset, .unset, .unset]) (rest := []) rfl
  refine oS (fun _ k_ => st166 _ k_) ?_
  refine oS (fun _ k_ => XS.bipush X166.here hx rfl (hb hby d35_92) (XS.icmpNo X166.here hx rfl (hb hby d35_94) rfl (XT.ii_ne_f (rfl : (Int32.ofNat 32) = (32 : Int32))) (XS.aloadN X166.here hx rfl (hb hby d35_97) rfl rfl (XS.bipush X166.here hx rfl (hb hby d35_98) k_)))) ?_
  show oE p e below s _ _ _ (T166.setTop (mkF m 100 #[.val (.ref st), .val (.int (Int32.ofNat N)), .val (.int x), .val (.int (1 : Int32)), .val (.int (33 : Int32)), .val (.int (Int32.ofNat (33 + (own_dec x).length))), .val (.int (Int32.ofNat bs.length)), .unset, .unset, .unset] [(.int (32 : Int32)), (.ref st)]))
  obtain ⟨T167, L167, X167, N167, e167, st167⟩ := cl_rmch X166 hw hZ hx hown (wd_ hw 227 rfl) st cs fm d1 d2 sa bs 32 32 Z0 Wd OZ E0 V0 C0 B0 (by rw [hbs]; rfl) e166 E0 N166 hml rfl (hb hby d35_100) (Ls := #[.val (.ref st), .val (.int (Int32.ofNat N)), .val (.int x), .val (.int (1 : Int32)), .val (.int (33 : Int32)), .val (.int (Int32.ofNat (33 + (own_dec x).length))), .val (.int (Int32.ofNat bs.length)), .unset, .unset, .unset]) (rest := []) rfl
  refine oS (fun _ k_ => st167 _ k_) ?_
  refine oS (fun _ k_ => XS.bipush X167.here hx rfl (hb hby d35_103) (XS.icmpNo X167.here hx rfl (hb hby d35_105) rfl (XT.ii_ne_f (rfl : (Int32.ofNat 32) = (32 : Int32))) (XS.iconst X167.here hx rfl (hb hby d35_108) (XS.goto X167.here hx rfl (pc0 := 109) (pc' := 113) rfl (hb hby d35_109) (by decide) (by decide) (XS.istore X167.here hx rfl (hb hby d35_113) rfl (l' := #[.val (.ref st), .val (.int (Int32.ofNat N)), .val (.int x), .val (.int (1 : Int32)), .val (.int (33 : Int32)), .val (.int (Int32.ofNat (33 + (own_dec x).length))), .val (.int (Int32.ofNat bs.length)), .val (.int (1 : Int32)), .unset, .unset]) rfl (XS.iload X167.here hx rfl (hb hby d35_115) rfl (XS.ifYes X167.here hx rfl (pc0 := 117) (pc' := 122) rfl (hb hby d35_117) rfl (XT.i0_ne_t (by decide : ¬ ((1 : Int32) = 0))) (by decide) (by decide) (XS.iloadN X167.here hx rfl (hb hby d35_122) rfl k_)))))))) ?_
  show oE p e below s _ _ _ (T167.setTop (mkF m 123 #[.val (.ref st), .val (.int (Int32.ofNat N)), .val (.int x), .val (.int (1 : Int32)), .val (.int (33 : Int32)), .val (.int (Int32.ofNat (33 + (own_dec x).length))), .val (.int (Int32.ofNat bs.length)), .val (.int (1 : Int32)), .unset, .unset] [(.int (Int32.ofNat N))]))
  refine oS (fun _ k_ => XS.iconst X167.here hx rfl (hb hby d35_123) (XS.icmpYes X167.here hx rfl (pc0 := 124) (pc' := 132) rfl (hb hby d35_124) rfl (XT.ii_ne_t (fun z => absurd ((own_eqN (b := 1) (by omega) (by omega)).mp z) (by omega) : ¬ ((Int32.ofNat N) = (1 : Int32)))) (by decide) (by decide) (XS.bipush X167.here hx rfl (hb hby d35_132) (XS.istore X167.here hx rfl (hb hby d35_134) rfl (l' := #[.val (.ref st), .val (.int (Int32.ofNat N)), .val (.int x), .val (.int (1 : Int32)), .val (.int (33 : Int32)), .val (.int (Int32.ofNat (33 + (own_dec x).length))), .val (.int (Int32.ofNat bs.length)), .val (.int (1 : Int32)), .val (.int (112 : Int32)), .unset]) rfl (XS.iloadN X167.here hx rfl (hb hby d35_136) rfl (XS.ifYes X167.here hx rfl (pc0 := 137) (pc' := 236) rfl (hb hby d35_137) rfl (XT.i0_ne_t (by decide : ¬ ((1 : Int32) = 0))) (by decide) (by decide) (XS.iload X167.here hx rfl (hb hby d35_236) rfl (XS.iload X167.here hx rfl (hb hby d35_238) rfl k_)))))))) ?_
  show oE p e below s _ _ _ (T167.setTop (mkF m 240 #[.val (.ref st), .val (.int (Int32.ofNat N)), .val (.int x), .val (.int (1 : Int32)), .val (.int (33 : Int32)), .val (.int (Int32.ofNat (33 + (own_dec x).length))), .val (.int (Int32.ofNat bs.length)), .val (.int (1 : Int32)), .val (.int (112 : Int32)), .unset] [(.int (Int32.ofNat (33 + (own_dec x).length))), (.int (Int32.ofNat bs.length))]))
  refine oS (fun _ k_ => XS.bipush X167.here hx rfl (hb hby d35_240) (XS.iadd X167.here hx rfl (hb hby d35_242) rfl k_)) ?_
  show oE p e below s _ _ _ (T167.setTop (mkF m 243 #[.val (.ref st), .val (.int (Int32.ofNat N)), .val (.int x), .val (.int (1 : Int32)), .val (.int (33 : Int32)), .val (.int (Int32.ofNat (33 + (own_dec x).length))), .val (.int (Int32.ofNat bs.length)), .val (.int (1 : Int32)), .val (.int (112 : Int32)), .unset] [(.int ((Int32.ofNat (33 + (own_dec x).length)) + (6 : Int32))), (.int (Int32.ofNat bs.length))]))
  rw [show Int32.ofNat (33 + (own_dec x).length) + (6 : Int32) = Int32.ofNat ((33 + (own_dec x).length) + 6) from own_add _ 6]
  refine oS (fun _ k_ => XS.icmpYes X167.here hx rfl (pc0 := 243) (pc' := 248) rfl (hb hby d35_243) rfl (XT.ii_ge_t (fun z => absurd ((own_ltN (by omega) (by omega)).mp z) (by omega) : ¬ ((Int32.ofNat bs.length) < (Int32.ofNat ((33 + (own_dec x).length) + 6))))) (by decide) (by decide) (XS.aloadN X167.here hx rfl (hb hby d35_248) rfl rfl (XS.iload X167.here hx rfl (hb hby d35_249) rfl k_))) ?_
  show oE p e below s _ _ _ (T167.setTop (mkF m 251 #[.val (.ref st), .val (.int (Int32.ofNat N)), .val (.int x), .val (.int (1 : Int32)), .val (.int (33 : Int32)), .val (.int (Int32.ofNat (33 + (own_dec x).length))), .val (.int (Int32.ofNat bs.length)), .val (.int (1 : Int32)), .val (.int (112 : Int32)), .unset] [(.int (Int32.ofNat (33 + (own_dec x).length))), (.ref st)]))
  obtain ⟨T168, L168, X168, N168, e168, st168⟩ := cl_rmch X167 hw hZ hx hown (wd_ hw 227 rfl) st cs fm d1 d2 sa bs (33 + (own_dec x).length) 32 Z0 Wd OZ E0 V0 C0 B0 (by rw [hbs]; exact own_at1 (j := 0) rfl) e167 E0 N167 hml rfl (hb hby d35_251) (Ls := #[.val (.ref st), .val (.int (Int32.ofNat N)), .val (.int x), .val (.int (1 : Int32)), .val (.int (33 : Int32)), .val (.int (Int32.ofNat (33 + (own_dec x).length))), .val (.int (Int32.ofNat bs.length)), .val (.int (1 : Int32)), .val (.int (112 : Int32)), .unset]) (rest := []) rfl
  refine oS (fun _ k_ => st168 _ k_) ?_
  refine oS (fun _ k_ => XS.bipush X168.here hx rfl (hb hby d35_254) (XS.icmpNo X168.here hx rfl (hb hby d35_256) rfl (XT.ii_ne_f (rfl : (Int32.ofNat 32) = (32 : Int32))) (XS.aloadN X168.here hx rfl (hb hby d35_259) rfl rfl (XS.iload X168.here hx rfl (hb hby d35_260) rfl (XS.iconst X168.here hx rfl (hb hby d35_262) (XS.iadd X168.here hx rfl (hb hby d35_263) rfl k_)))))) ?_
  show oE p e below s _ _ _ (T168.setTop (mkF m 264 #[.val (.ref st), .val (.int (Int32.ofNat N)), .val (.int x), .val (.int (1 : Int32)), .val (.int (33 : Int32)), .val (.int (Int32.ofNat (33 + (own_dec x).length))), .val (.int (Int32.ofNat bs.length)), .val (.int (1 : Int32)), .val (.int (112 : Int32)), .unset] [(.int ((Int32.ofNat (33 + (own_dec x).length)) + (1 : Int32))), (.ref st)]))
  rw [show Int32.ofNat (33 + (own_dec x).length) + (1 : Int32) = Int32.ofNat ((33 + (own_dec x).length) + 1) from own_add _ 1]
  obtain ⟨T169, L169, X169, N169, e169, st169⟩ := cl_rmch X168 hw hZ hx hown (wd_ hw 227 rfl) st cs fm d1 d2 sa bs ((33 + (own_dec x).length) + 1) 40 Z0 Wd OZ E0 V0 C0 B0 (by rw [hbs]; exact own_at1 (j := 1) rfl) e168 E0 N168 hml rfl (hb hby d35_264) (Ls := #[.val (.ref st), .val (.int (Int32.ofNat N)), .val (.int x), .val (.int (1 : Int32)), .val (.int (33 : Int32)), .val (.int (Int32.ofNat (33 + (own_dec x).length))), .val (.int (Int32.ofNat bs.length)), .val (.int (1 : Int32)), .val (.int (112 : Int32)), .unset]) (rest := []) rfl
  refine oS (fun _ k_ => st169 _ k_) ?_
  refine oS (fun _ k_ => XS.bipush X169.here hx rfl (hb hby d35_267) (XS.icmpNo X169.here hx rfl (hb hby d35_269) rfl (XT.ii_ne_f (rfl : (Int32.ofNat 40) = (40 : Int32))) (XS.iconst X169.here hx rfl (hb hby d35_272) (XS.goto X169.here hx rfl (pc0 := 273) (pc' := 277) rfl (hb hby d35_273) (by decide) (by decide) (XS.istore X169.here hx rfl (hb hby d35_277) rfl (l' := #[.val (.ref st), .val (.int (Int32.ofNat N)), .val (.int x), .val (.int (1 : Int32)), .val (.int (33 : Int32)), .val (.int (Int32.ofNat (33 + (own_dec x).length))), .val (.int (Int32.ofNat bs.length)), .val (.int (1 : Int32)), .val (.int (112 : Int32)), .val (.int (1 : Int32))]) rfl (XS.iloadN X169.here hx rfl (hb hby d35_279) rfl (XS.iconst X169.here hx rfl (hb hby d35_280) (XS.icmpYes X169.here hx rfl (pc0 := 281) (pc' := 334) rfl (hb hby d35_281) rfl (XT.ii_ne_t (fun z => absurd ((own_eqN (b := 1) (by omega) (by omega)).mp z) (by omega) : ¬ ((Int32.ofNat N) = (1 : Int32)))) (by decide) (by decide) k_)))))))) ?_
  show oE p e below s _ _ _ (T169.setTop (mkF m 334 #[.val (.ref st), .val (.int (Int32.ofNat N)), .val (.int x), .val (.int (1 : Int32)), .val (.int (33 : Int32)), .val (.int (Int32.ofNat (33 + (own_dec x).length))), .val (.int (Int32.ofNat bs.length)), .val (.int (1 : Int32)), .val (.int (112 : Int32)), .val (.int (1 : Int32))] []))
  refine oS (fun _ k_ => XS.iload X169.here hx rfl (hb hby d35_334) rfl (XS.ifNo X169.here hx rfl (hb hby d35_336) rfl (XT.i0_eq_f (by decide : ¬ ((1 : Int32) = 0))) (XS.aloadN X169.here hx rfl (hb hby d35_339) rfl rfl (XS.iload X169.here hx rfl (hb hby d35_340) rfl (XS.iconst X169.here hx rfl (hb hby d35_342) (XS.isub X169.here hx rfl (hb hby d35_343) rfl k_)))))) ?_
  show oE p e below s _ _ _ (T169.setTop (mkF m 344 #[.val (.ref st), .val (.int (Int32.ofNat N)), .val (.int x), .val (.int (1 : Int32)), .val (.int (33 : Int32)), .val (.int (Int32.ofNat (33 + (own_dec x).length))), .val (.int (Int32.ofNat bs.length)), .val (.int (1 : Int32)), .val (.int (112 : Int32)), .val (.int (1 : Int32))] [(.int ((Int32.ofNat bs.length) - (1 : Int32))), (.ref st)]))
  rw [show Int32.ofNat bs.length - (1 : Int32) = Int32.ofNat (bs.length - 1) from own_sub (b := 1) (by omega)]
  obtain ⟨T170, L170, X170, N170, e170, st170⟩ := cl_rmch X169 hw hZ hx hown (wd_ hw 227 rfl) st cs fm d1 d2 sa bs (bs.length - 1) 112 Z0 Wd OZ E0 V0 C0 B0 (by rw [hbs]; exact own_at2 (k := 1) (by omega) (by decide)) e169 E0 N169 hml rfl (hb hby d35_344) (Ls := #[.val (.ref st), .val (.int (Int32.ofNat N)), .val (.int x), .val (.int (1 : Int32)), .val (.int (33 : Int32)), .val (.int (Int32.ofNat (33 + (own_dec x).length))), .val (.int (Int32.ofNat bs.length)), .val (.int (1 : Int32)), .val (.int (112 : Int32)), .val (.int (1 : Int32))]) (rest := []) rfl
  refine oS (fun _ k_ => st170 _ k_) ?_
  refine oS (fun _ k_ => XS.iload X170.here hx rfl (hb hby d35_347) rfl (XS.icmpNo X170.here hx rfl (hb hby d35_349) rfl (XT.ii_ne_f (rfl : (Int32.ofNat 112) = (112 : Int32))) (XS.aloadN X170.here hx rfl (hb hby d35_352) rfl rfl (XS.iload X170.here hx rfl (hb hby d35_353) rfl (XS.iconst X170.here hx rfl (hb hby d35_355) (XS.isub X170.here hx rfl (hb hby d35_356) rfl k_)))))) ?_
  show oE p e below s _ _ _ (T170.setTop (mkF m 357 #[.val (.ref st), .val (.int (Int32.ofNat N)), .val (.int x), .val (.int (1 : Int32)), .val (.int (33 : Int32)), .val (.int (Int32.ofNat (33 + (own_dec x).length))), .val (.int (Int32.ofNat bs.length)), .val (.int (1 : Int32)), .val (.int (112 : Int32)), .val (.int (1 : Int32))] [(.int ((Int32.ofNat bs.length) - (2 : Int32))), (.ref st)]))
  rw [show Int32.ofNat bs.length - (2 : Int32) = Int32.ofNat (bs.length - 2) from own_sub (b := 2) (by omega)]
  obtain ⟨T171, L171, X171, N171, e171, st171⟩ := cl_rmch X170 hw hZ hx hown (wd_ hw 227 rfl) st cs fm d1 d2 sa bs (bs.length - 2) 32 Z0 Wd OZ E0 V0 C0 B0 (by rw [hbs]; exact own_at2 (k := 2) (by omega) (by decide)) e170 E0 N170 hml rfl (hb hby d35_357) (Ls := #[.val (.ref st), .val (.int (Int32.ofNat N)), .val (.int x), .val (.int (1 : Int32)), .val (.int (33 : Int32)), .val (.int (Int32.ofNat (33 + (own_dec x).length))), .val (.int (Int32.ofNat bs.length)), .val (.int (1 : Int32)), .val (.int (112 : Int32)), .val (.int (1 : Int32))]) (rest := []) rfl
  refine oS (fun _ k_ => st171 _ k_) ?_
  refine oS (fun _ k_ => XS.bipush X171.here hx rfl (hb hby d35_360) (XS.icmpNo X171.here hx rfl (hb hby d35_362) rfl (XT.ii_ne_f (rfl : (Int32.ofNat 32) = (32 : Int32))) (XS.aloadN X171.here hx rfl (hb hby d35_365) rfl rfl (XS.iload X171.here hx rfl (hb hby d35_366) rfl (XS.iconst X171.here hx rfl (hb hby d35_368) (XS.isub X171.here hx rfl (hb hby d35_369) rfl k_)))))) ?_
  show oE p e below s _ _ _ (T171.setTop (mkF m 370 #[.val (.ref st), .val (.int (Int32.ofNat N)), .val (.int x), .val (.int (1 : Int32)), .val (.int (33 : Int32)), .val (.int (Int32.ofNat (33 + (own_dec x).length))), .val (.int (Int32.ofNat bs.length)), .val (.int (1 : Int32)), .val (.int (112 : Int32)), .val (.int (1 : Int32))] [(.int ((Int32.ofNat bs.length) - (3 : Int32))), (.ref st)]))
  rw [show Int32.ofNat bs.length - (3 : Int32) = Int32.ofNat (bs.length - 3) from own_sub (b := 3) (by omega)]
  obtain ⟨T172, L172, X172, N172, e172, st172⟩ := cl_rmch X171 hw hZ hx hown (wd_ hw 227 rfl) st cs fm d1 d2 sa bs (bs.length - 3) 44 Z0 Wd OZ E0 V0 C0 B0 (by rw [hbs]; exact own_at2 (k := 3) (by omega) (by decide)) e171 E0 N171 hml rfl (hb hby d35_370) (Ls := #[.val (.ref st), .val (.int (Int32.ofNat N)), .val (.int x), .val (.int (1 : Int32)), .val (.int (33 : Int32)), .val (.int (Int32.ofNat (33 + (own_dec x).length))), .val (.int (Int32.ofNat bs.length)), .val (.int (1 : Int32)), .val (.int (112 : Int32)), .val (.int (1 : Int32))]) (rest := []) rfl
  refine oS (fun _ k_ => st172 _ k_) ?_
  refine oS (fun _ k_ => XS.bipush X172.here hx rfl (hb hby d35_373) (XS.icmpNo X172.here hx rfl (hb hby d35_375) rfl (XT.ii_ne_f (rfl : (Int32.ofNat 44) = (44 : Int32))) (XS.aloadN X172.here hx rfl (hb hby d35_378) rfl rfl (XS.iload X172.here hx rfl (hb hby d35_379) rfl (XS.iconst X172.here hx rfl (hb hby d35_381) (XS.isub X172.here hx rfl (hb hby d35_382) rfl k_)))))) ?_
  show oE p e below s _ _ _ (T172.setTop (mkF m 383 #[.val (.ref st), .val (.int (Int32.ofNat N)), .val (.int x), .val (.int (1 : Int32)), .val (.int (33 : Int32)), .val (.int (Int32.ofNat (33 + (own_dec x).length))), .val (.int (Int32.ofNat bs.length)), .val (.int (1 : Int32)), .val (.int (112 : Int32)), .val (.int (1 : Int32))] [(.int ((Int32.ofNat bs.length) - (4 : Int32))), (.ref st)]))
  rw [show Int32.ofNat bs.length - (4 : Int32) = Int32.ofNat (bs.length - 4) from own_sub (b := 4) (by omega)]
  obtain ⟨T173, L173, X173, N173, e173, st173⟩ := cl_rmch X172 hw hZ hx hown (wd_ hw 227 rfl) st cs fm d1 d2 sa bs (bs.length - 4) 41 Z0 Wd OZ E0 V0 C0 B0 (by rw [hbs]; exact own_at2 (k := 4) (by omega) (by decide)) e172 E0 N172 hml rfl (hb hby d35_383) (Ls := #[.val (.ref st), .val (.int (Int32.ofNat N)), .val (.int x), .val (.int (1 : Int32)), .val (.int (33 : Int32)), .val (.int (Int32.ofNat (33 + (own_dec x).length))), .val (.int (Int32.ofNat bs.length)), .val (.int (1 : Int32)), .val (.int (112 : Int32)), .val (.int (1 : Int32))]) (rest := []) rfl
  refine oS (fun _ k_ => st173 _ k_) ?_
  refine oS (fun _ k_ => XS.bipush X173.here hx rfl (hb hby d35_386) (XS.icmpNo X173.here hx rfl (hb hby d35_388) rfl (XT.ii_ne_f (rfl : (Int32.ofNat 41) = (41 : Int32))) (XS.iconst X173.here hx rfl (hb hby d35_391) (XS.goto X173.here hx rfl (pc0 := 392) (pc' := 396) rfl (hb hby d35_392) (by decide) (by decide) k_)))) ?_
  show oE p e below s _ _ _ (T173.setTop (mkF m 396 #[.val (.ref st), .val (.int (Int32.ofNat N)), .val (.int x), .val (.int (1 : Int32)), .val (.int (33 : Int32)), .val (.int (Int32.ofNat (33 + (own_dec x).length))), .val (.int (Int32.ofNat bs.length)), .val (.int (1 : Int32)), .val (.int (112 : Int32)), .val (.int (1 : Int32))] [(.int (1 : Int32))]))
  exact own_retN X173 hx (t := .boolean) hret (by simp) hlk (hb hby d35_396) (by decide) (by decide) rfl ⟨rfl, N173, e173⟩
theorem own_dec2 : own_dec 2 = [50] := by rw [own_dec_pos (by decide)]; exact own_digs_lt (by decide)
theorem own_dec3 : own_dec 3 = [51] := by rw [own_dec_pos (by decide)]; exact own_digs_lt (by decide)
/-- the String st holds the bytes bs -/
def own_St (Z : State) (h : Heap) (st sa : Addr) (bs : List Nat) : Prop := Exa Z h st "java/lang/String" ∧ Fld Z h st "java/lang/String" "value" "[B" (.ref sa) ∧ Fld Z h st "java/lang/String" "coder" "B" (.int 0) ∧ own_By Z h sa bs
/-- the counter -/
def own_Q (Z : State) (h : Heap) (oq : Addr) (cn x : Int32) (fc : Value) : Prop := Exa Z h oq "com/example/nalog/nalog/OrderCount" ∧ Fld Z h oq "com/example/nalog/nalog/OrderCount" "count" "I" (.int cn) ∧ Fld Z h oq "com/example/nalog/nalog/OrderCount" "first" "I" (.int x) ∧ Fld Z h oq "com/example/nalog/nalog/OrderCount" "firstClass" "Lcom/example/nalog/nalog/OrderClass;" fc
/-- a class of orders -/
def own_A (Z : State) (h : Heap) (oc rr : Addr) (ob : Value) : Prop := Exa Z h oc "com/example/nalog/nalog/OrderClass" ∧ Fld Z h oc "com/example/nalog/nalog/OrderClass" "reach" "Lcom/example/nalog/nalog/OrderClass$Reach;" (.ref rr) ∧ Fld Z h oc "com/example/nalog/nalog/OrderClass" "otherBecause" "Ljava/lang/String;" ob
/-- the class oc, told as txt -/
def own_Kl (Z : State) (h : Heap) (oc rn ri : Addr) (txt : List Nat) : Prop := (own_A Z h oc rn .null ∧ txt = [97, 32, 110, 97, 116, 105, 111, 110, 97, 108, 32, 83, 69, 80, 65, 32, 111, 114, 100, 101, 114]) ∨ ((∃ ot ota, own_A Z h oc ri (.ref ot) ∧ own_St Z h ot ota [98]) ∧ txt = [97, 110, 32, 105, 110, 116, 101, 114, 110, 97, 116, 105, 111, 110, 97, 108, 32, 110, 111, 110, 45, 83, 69, 80, 65, 32, 111, 114, 100, 101, 114, 44, 32, 97, 115, 32, 98])
/-- the first order's class, and what describe lays behind the number -/
def own_Fc (Z : State) (h : Heap) (rn ri : Addr) (fc : Value) (cls : List Nat) : Prop := (fc = .null ∧ cls = []) ∨ ∃ oc txt, fc = .ref oc ∧ own_Kl Z h oc rn ri txt ∧ cls = [32, 40] ++ txt ++ [41]
def own_tx (cn x : Int32) (cls : List Nat) : List Nat := if cn = 1 then [111, 114, 100, 101, 114, 32] ++ (own_dec x ++ (cls ++ [32, 115])) else own_dec cn ++ ([32, 111, 102, 32, 105, 116, 115, 32, 111, 114, 100, 101, 114, 115, 44, 32, 116, 104, 101, 32, 102, 105, 114, 115, 116, 32] ++ ([111, 114, 100, 101, 114, 32] ++ (own_dec x ++ (cls ++ [44, 32, 112]))))
section OwnBundles
variable {Z : State} {h h' h0 hb : Heap} {st sa oq oc rr rn ri sb va b x : Addr} {bs cs txt cls ps : List Nat} {cn y : Int32} {fc ob : Value} {ws : List Addr} {vm vmb vm1 : Vm} {n0 : Nat} {s : State} {a0 : Array Value}
theorem own_St.ext (A : own_St Z h st sa bs) (E : Ext h h') : own_St Z h' st sa bs := ⟨A.1.ext E, A.2.1.ext E, A.2.2.1.ext E, A.2.2.2.ext E⟩
theorem own_St.keep (A : own_St Z h st sa bs) (K : Keep h h' []) : own_St Z h' st sa bs := ⟨A.1.keep K, A.2.1.keep K nin0, A.2.2.1.keep K nin0, A.2.2.2.keep K nin0⟩
theorem own_St.keep1 (A : own_St Z h st sa bs) (K : Keep h h' [x]) (q : st ≠ x) (r : sa ≠ x) : own_St Z h' st sa bs := ⟨A.1.keep K, A.2.1.keep K (ninS q nin0), A.2.2.1.keep K (ninS q nin0), A.2.2.2.keep K (ninS r nin0)⟩
theorem own_St.cast (A : own_St Z h st sa bs) (q : bs = cs) : own_St Z h st sa cs := q ▸ A
theorem own_Q.ext (A : own_Q Z h oq cn y fc) (E : Ext h h') : own_Q Z h' oq cn y fc := ⟨A.1.ext E, A.2.1.ext E, A.2.2.1.ext E, A.2.2.2.ext E⟩
theorem own_Q.keep (A : own_Q Z h oq cn y fc) (K : Keep h h' []) : own_Q Z h' oq cn y fc := ⟨A.1.keep K, A.2.1.keep K nin0, A.2.2.1.keep K nin0, A.2.2.2.keep K nin0⟩
theorem own_A.ext (A : own_A Z h oc rr ob) (E : Ext h h') : own_A Z h' oc rr ob := ⟨A.1.ext E, A.2.1.ext E, A.2.2.ext E⟩
theorem own_A.keep (A : own_A Z h oc rr ob) (K : Keep h h' []) : own_A Z h' oc rr ob := ⟨A.1.keep K, A.2.1.keep K nin0, A.2.2.keep K nin0⟩
theorem own_A.keep1 (A : own_A Z h oc rr ob) (K : Keep h h' [x]) (q : oc ≠ x) : own_A Z h' oc rr ob := ⟨A.1.keep K, A.2.1.keep K (ninS q nin0), A.2.2.keep K (ninS q nin0)⟩
theorem own_Kl.keep (A : own_Kl Z h oc rn ri txt) (K : Keep h h' []) : own_Kl Z h' oc rn ri txt := A.elim (fun q => Or.inl ⟨q.1.keep K, q.2⟩) (fun q => Or.inr ⟨let ⟨ot, ota, u, v⟩ := q.1; ⟨ot, ota, u.keep K, v.keep K⟩, q.2⟩)
theorem own_Fc.keep (A : own_Fc Z h rn ri fc cls) (K : Keep h h' []) : own_Fc Z h' rn ri fc cls := A.elim Or.inl (fun ⟨oc, t, u, v, w⟩ => Or.inr ⟨oc, t, u, v.keep K, w⟩)
theorem own_Kl.len (A : own_Kl Z h oc rn ri txt) : 1 ≤ txt.length ∧ txt.length ≤ 37 := by
  rcases A with ⟨-, rfl⟩ | ⟨-, rfl⟩ <;> decide
theorem own_Fc.ref (A : own_Fc Z h rn ri fc cls) : fc.isRef = true := by
  rcases A with ⟨rfl, -⟩ | ⟨oc, t, rfl, -⟩ <;> rfl
end OwnBundles
/-- the two constants of Reach, their words -/
def own_Rw (Z : State) (rn ri wn wna wi wia : Addr) : Prop :=
  Sta Z Z.heap "com/example/nalog/nalog/OrderClass$Reach" "NATIONAL" "Lcom/example/nalog/nalog/OrderClass$Reach;" (.ref rn) ∧ Sta Z Z.heap "com/example/nalog/nalog/OrderClass$Reach" "INTERNATIONAL" "Lcom/example/nalog/nalog/OrderClass$Reach;" (.ref ri) ∧ ¬ rn = ri ∧
  (Fld Z Z.heap rn "com/example/nalog/nalog/OrderClass$Reach" "word" "Ljava/lang/String;" (.ref wn) ∧ own_St Z Z.heap wn wna [110, 97, 116, 105, 111, 110, 97, 108]) ∧
  (Fld Z Z.heap ri "com/example/nalog/nalog/OrderClass$Reach" "word" "Ljava/lang/String;" (.ref wi) ∧ own_St Z Z.heap wi wia [105, 110, 116, 101, 114, 110, 97, 116, 105, 111, 110, 97, 108])
theorem own_narO {n : String} {v : Value} : narrow (.object n) v = v := by cases v <;> rfl
theorem own_fitO {n : String} {v : Value} (h : v.isRef = true) : fits (.object n) v = true := by cases v <;> first | rfl | cases h

def Qds (Z : State) (st : Addr) (cn : Int32) (x : Int32) (bb : Int32) (cs : Int32) (fm : Value) (d1 d2 : Addr) (sa : Addr) (cls : List Nat) (h0 : Heap) (n0 : Nat) (v : Option Value) (h : Heap) (L : List Loc) : Prop := v = some (.int (1 : Int32)) ∧ Fr n0 L ∧ h = h0
theorem rmds (l : Launch) (Z : State) (a0 : Array Value) (hw : ∀ d ∈ tables_1, d.before a0 Z = true) (ws : List Jvm.Cond) (st : Addr) (cn : Int32) (x : Int32) (bb : Int32) (cs : Int32) (fm : Value) (d1 d2 : Addr) (sa : Addr) (cls : List Nat) (h0 : Heap) (n0 : Nat) (Z0 : n0 ≤ h0.size) (Wd : own_Wd Z cs fm d1 d2) (OZ : Old Z n0 h0) (S0 : own_St Z h0 st sa (own_tx cn x cls)) (hcn : cn = 1 ∨ cn = 2 ∨ cn = 3) (hbb : (bb = 0 ∧ cls = []) ∨ (bb = 1 ∧ ∃ mid, (1 ≤ mid.length ∧ mid.length ≤ 37) ∧ cls = [32, 40] ++ mid ++ [41])) :
    own_MF l (⟨"com/example/nalog/nalog/OrderCountAddPinLaw", "describes", "(Ljava/lang/String;IIZ)Z"⟩ : MethodName) method_4_code 10 (some .boolean) ws ({ frames := 5, cells := 0, slots := 0, locals := 90 } : Room) #[(.ref st), (.int cn), (.int x), (.int bb)] Z h0 (Qds Z st cn x bb cs fm d1 d2 sa cls h0 n0) := by
  rcases hcn with rfl | rfl | rfl <;> rcases hbb with ⟨rfl, rfl⟩ | ⟨rfl, mid, ⟨hm1, hm2⟩, rfl⟩
  · exact rmds10 l Z a0 hw ws st x cs fm d1 d2 sa [0] h0 n0 Z0 Wd OZ S0.1 S0.2.1 S0.2.2.1 (S0.2.2.2.cast (by rw [own_tx, if_pos rfl]; simp)) (by decide) (by decide)
  · exact rmds11 l Z a0 hw ws st x cs fm d1 d2 sa mid h0 n0 Z0 Wd OZ S0.1 S0.2.1 S0.2.2.1 (S0.2.2.2.cast (by rw [own_tx, if_pos rfl]; simp)) hm1 hm2
  · exact rmds20 l Z a0 hw ws st x cs fm d1 d2 sa [0] 2 h0 n0 Z0 Wd OZ S0.1 S0.2.1 S0.2.2.1 (S0.2.2.2.cast (by rw [own_tx, if_neg (by decide), own_dec2]; simp)) (by decide) (by decide) (by decide) (by decide)
  · exact rmds21 l Z a0 hw ws st x cs fm d1 d2 sa mid 2 h0 n0 Z0 Wd OZ S0.1 S0.2.1 S0.2.2.1 (S0.2.2.2.cast (by rw [own_tx, if_neg (by decide), own_dec2]; simp)) hm1 hm2 (by decide) (by decide)
  · exact rmds20 l Z a0 hw ws st x cs fm d1 d2 sa [0] 3 h0 n0 Z0 Wd OZ S0.1 S0.2.1 S0.2.2.1 (S0.2.2.2.cast (by rw [own_tx, if_neg (by decide), own_dec3]; simp)) (by decide) (by decide) (by decide) (by decide)
  · exact rmds21 l Z a0 hw ws st x cs fm d1 d2 sa mid 3 h0 n0 Z0 Wd OZ S0.1 S0.2.1 S0.2.2.1 (S0.2.2.2.cast (by rw [own_tx, if_neg (by decide), own_dec3]; simp)) hm1 hm2 (by decide) (by decide)
theorem pd_33 : parseMethodDescriptor "(Ljava/lang/String;IIZ)Z" = some ⟨[(.object "java/lang/String"), .int, .int, .boolean], some .boolean⟩ := by decide +kernel
theorem cl_rmds (X : Stand p l e R s m args below meth c T locs cells slots) (hw : ∀ d ∈ tables_1, d.before a0 Z = true) (hZ : Z.Warmed39 s.vm) (hx : p.tables.exec = Jvm.exec) (hown : s.vm.findClass own = some m.cls) (lk : (Cond.methodLink own index (⟨"com/example/nalog/nalog/OrderCountAddPinLaw", "describes", "(Ljava/lang/String;IIZ)Z"⟩ : MethodName)).before a0 Z = true) (st : Addr) (cn : Int32) (x : Int32) (bb : Int32) (cs : Int32) (fm : Value) (d1 d2 : Addr) (sa : Addr) (cls : List Nat) (Z0 : n0 ≤ h0.size) (Wd : own_Wd Z cs fm d1 d2) (OZ : Old Z n0 h0) (S0 : own_St Z h0 st sa (own_tx cn x cls)) (hcn : cn = 1 ∨ cn = 2 ∨ cn = 3) (hbb : (bb = 0 ∧ cls = []) ∨ (bb = 1 ∧ ∃ mid, (1 ≤ mid.length ∧ mid.length ≤ 37) ∧ cls = [32, 40] ++ mid ++ [41])) (eT : T.heap = h0) (N : Fr n0 locs) (hml : c.maxLocals = kml) (hsz : Ls.size = kml) (hd : decode c.code pc = .ok (.invokestatic index, 3)) (hr : own_rm ({ frames := 5, cells := 0, slots := 0, locals := 90 } : Room) 10 R rest cells slots = true) :
    ∃ T' L', Stand p l e R s m args below meth c T' L' (cells + 0) (slots + 0) ∧ Fr n0 L' ∧ T'.heap = h0 ∧ ∀ t, Steps p.tables e below (T'.setTop (mkF m (pc + 3) Ls ((.int (1 : Int32)) :: rest))) t → Steps p.tables e below (T.setTop (mkF m pc Ls ((.int bb) :: (.int x) :: (.int cn) :: (.ref st) :: rest))) t := by
  obtain ⟨v, T', L, X', hQ, sq⟩ := own_cS (argsL := [(.ref st), (.int cn), (.int x), (.int bb)]) (rest := rest) (rmds l Z a0 hw [] st cn x bb cs fm d1 d2 sa cls h0 n0 Z0 Wd OZ S0 hcn hbb) pd_33 rfl (wd_ hw 212 rfl) (wd_ hw 37 rfl) (wd_ hw 211 rfl) (by decide) hZ hx hown X lk eT hml hsz hd hr
  obtain ⟨rfl, Nq, eq_⟩ := hQ
  exact ⟨T', _, X', Fr.app N Nq, eq_, sq⟩
def b_2 := jdk_30_method_1_code
theorem d2_0 : decode b_2 0 = .ok (.aload_n 0, 1) := by decide +kernel
theorem d2_1 : decode b_2 1 = .ok (.invokespecial 1, 3) := by decide +kernel
theorem d2_4 : decode b_2 4 = .ok (.return_, 1) := by decide +kernel
theorem pn_9 : plainName "java/lang/Record" = true := by first | (simp [plainName, overriddenIn]; done) | decide +kernel
theorem ef_rmrc (m : MethodId) (oc : Addr)  : entryFrame m #[(.ref oc)] 1 = mkF m 0 #[.val (.ref oc)] [] := by first | (simp [entryFrame, mkF, argsToLocals, Value.category]; done) | rfl
def Qrc (Z : State) (oc : Addr) (h0 : Heap) (n0 : Nat) (v : Option Value) (h : Heap) (L : List Loc) : Prop := v = none ∧ Fr n0 L ∧ h = h0
theorem rmrc (l : Launch) (Z : State) (a0 : Array Value) (hw : ∀ d ∈ tables_1, d.before a0 Z = true) (ws : List Jvm.Cond) (oc : Addr) (h0 : Heap) (n0 : Nat) (Z0 : n0 ≤ h0.size)  :
    own_MF l (⟨"java/lang/Record", "<init>", "()V"⟩ : MethodName) jdk_30_method_1_code 1 none ws ({ frames := 1, cells := 0, slots := 0, locals := 13 } : Room) #[(.ref oc)] Z h0 (Qrc Z oc h0 n0) := by
  refine MetFree.of_bodySF (plainFor_of_name pn_9) hisR ?_
  intro p e s m args below meth c s₁ Bd hml0 hP hK
  obtain ⟨rfl, hZ, hh⟩ := hP
  have hx := Bd.exec
  have hby := Bd.bytes
  have hlk : meth.locks = false := BodyLoose.notSynchronized Bd
  have hret := Bd.returns
  have hml : c.maxLocals = 1 := hml0
  have hown : s.vm.findClass "java/lang/Record" = some m.cls := findClass_of_methodNamed Bd.named
  have hnm := (name_of_methodNamed Bd.named Bd.method).1
  have X0 : Stand p l e ({ frames := 1, cells := 0, slots := 0, locals := 13 } : Room) s m #[(.ref oc)] below meth c s₁ [] 0 0 := Stand.of_body Bd
  have e0 : s₁.heap = h0 := by rw [← hh, Bd.state]; rfl
  have N0 := Fr.nil n0
  show oE p e below s 0 0 (Qrc Z oc h0 n0) (s₁.setTop (entryFrame m #[(.ref oc)] 1))
  refine oS (fun t k => castTop (ef_rmrc m oc ) k) ?_
  show oE p e below s _ _ _ (s₁.setTop (mkF m 0 #[.val (.ref oc)] []))
  refine oS (fun _ k_ => XS.aloadN X0.here hx rfl (hb hby d2_0) rfl rfl k_) ?_
  obtain ⟨T174, X174, e174, st174⟩ := initO X0 hx hZ hown (wd_ hw 14 rfl) (wd_ hw 15 rfl) (wd_ hw 16 rfl) e0 (g := (mkF m 1 #[.val (.ref oc)] [(.ref oc)])) rfl (by rw [hml]; rfl) rfl (hb hby d2_1) (by decide) (W := 0) (by show 2 * 0 + _ ≤ _; exact Nat.le_of_eq rfl) (by decide)
  refine oS (fun _ k_ => st174 _ k_) ?_
  exact own_retV X174 hx hret hlk (hb hby d2_4) (by decide) (by decide) ⟨rfl, N0, e174⟩
def b_1 := prog_76_method_1_code
theorem d1_0 : decode b_1 0 = .ok (.aload_n 0, 1) := by decide +kernel
theorem d1_1 : decode b_1 1 = .ok (.invokespecial 3, 3) := by decide +kernel
theorem d1_4 : decode b_1 4 = .ok (.aload_n 0, 1) := by decide +kernel
theorem d1_5 : decode b_1 5 = .ok (.aload_n 1, 1) := by decide +kernel
theorem d1_6 : decode b_1 6 = .ok (.putfield 9, 3) := by decide +kernel
theorem d1_9 : decode b_1 9 = .ok (.aload_n 0, 1) := by decide +kernel
theorem d1_10 : decode b_1 10 = .ok (.iload_n 2, 1) := by decide +kernel
theorem d1_11 : decode b_1 11 = .ok (.putfield 15, 3) := by decide +kernel
theorem d1_14 : decode b_1 14 = .ok (.aload_n 0, 1) := by decide +kernel
theorem d1_15 : decode b_1 15 = .ok (.iload_n 3, 1) := by decide +kernel
theorem d1_16 : decode b_1 16 = .ok (.putfield 19, 3) := by decide +kernel
theorem d1_19 : decode b_1 19 = .ok (.aload_n 0, 1) := by decide +kernel
theorem d1_20 : decode b_1 20 = .ok (.aload 4, 2) := by decide +kernel
theorem d1_22 : decode b_1 22 = .ok (.putfield 22, 3) := by decide +kernel
theorem d1_25 : decode b_1 25 = .ok (.return_, 1) := by decide +kernel
theorem pn_10 : plainName "com/example/nalog/nalog/OrderClass" = true := by first | (simp [plainName, overriddenIn]; done) | decide +kernel
theorem cl_rmrc (X : Stand p l e R s m args below meth c T locs cells slots) (hw : ∀ d ∈ tables_1, d.before a0 Z = true) (hZ : Z.Warmed39 s.vm) (hx : p.tables.exec = Jvm.exec) (hown : s.vm.findClass own = some m.cls) (lk : (Cond.methodLink own index (⟨"java/lang/Record", "<init>", "()V"⟩ : MethodName)).before a0 Z = true) (oc : Addr) (Z0 : n0 ≤ h0.size) (eT : T.heap = h0) (N : Fr n0 locs) (hml : c.maxLocals = kml) (hsz : Ls.size = kml) (hd : decode c.code pc = .ok (.invokespecial index, 3)) (hr : own_rm ({ frames := 1, cells := 0, slots := 0, locals := 13 } : Room) 1 R rest cells slots = true) :
    ∃ T' L', Stand p l e R s m args below meth c T' L' (cells + 0) (slots + 0) ∧ Fr n0 L' ∧ T'.heap = h0 ∧ ∀ t, Steps p.tables e below (T'.setTop (mkF m (pc + 3) Ls (rest))) t → Steps p.tables e below (T.setTop (mkF m pc Ls ((.ref oc) :: rest))) t := by
  obtain ⟨v, T', L, X', hQ, sq⟩ := own_cI (argsL := []) (rest := rest) (rmrc l Z a0 hw [] oc h0 n0 Z0 ) pd_18 rfl (wd_ hw 13 rfl) (wd_ hw 12 rfl) (wd_ hw 10 rfl) rfl (by decide) hZ hx hown X lk eT hml hsz hd hr
  obtain ⟨rfl, Nq, eq_⟩ := hQ
  exact ⟨T', _, X', Fr.app N Nq, eq_, sq⟩
theorem ef_rmocA (m : MethodId) (oc : Addr) (rr : Addr)  : entryFrame m #[(.ref oc), (.ref rr), (.int (0 : Int32)), (.int (1 : Int32)), .null] 5 = mkF m 0 #[.val (.ref oc), .val (.ref rr), .val (.int (0 : Int32)), .val (.int (1 : Int32)), .val .null] [] := by first | (simp [entryFrame, mkF, argsToLocals, Value.category]; done) | rfl
def QocA (Z : State) (oc : Addr) (rr : Addr) (h0 : Heap) (n0 : Nat) (v : Option Value) (h : Heap) (L : List Loc) : Prop := v = none ∧ Fr n0 L ∧ Keep h0 h [oc] ∧ own_A Z h oc rr .null
theorem rmocA (l : Launch) (Z : State) (a0 : Array Value) (hw : ∀ d ∈ tables_1, d.before a0 Z = true) (ws : List Jvm.Cond) (oc : Addr) (rr : Addr) (h0 : Heap) (n0 : Nat) (Z0 : n0 ≤ h0.size) (Eo : Exa Z h0 oc "com/example/nalog/nalog/OrderClass") (Fr_ : Fld Z h0 oc "com/example/nalog/nalog/OrderClass" "reach" "Lcom/example/nalog/nalog/OrderClass$Reach;" .null) (Fc_ : Fld Z h0 oc "com/example/nalog/nalog/OrderClass" "cheque" "Z" (.int 0)) (Fe_ : Fld Z h0 oc "com/example/nalog/nalog/OrderClass" "euro" "Z" (.int 0)) (Fb_ : Fld Z h0 oc "com/example/nalog/nalog/OrderClass" "otherBecause" "Ljava/lang/String;" .null) (go : n0 ≤ oc) :
    own_MF l (⟨"com/example/nalog/nalog/OrderClass", "<init>", "(Lcom/example/nalog/nalog/OrderClass$Reach;ZZLjava/lang/String;)V"⟩ : MethodName) prog_76_method_1_code 5 none ws ({ frames := 2, cells := 0, slots := 0, locals := 30 } : Room) #[(.ref oc), (.ref rr), (.int (0 : Int32)), (.int (1 : Int32)), .null] Z h0 (QocA Z oc rr h0 n0) := by
  refine MetFree.of_bodySF (plainFor_of_name pn_10) hisR ?_
  intro p e s m args below meth c s₁ Bd hml0 hP hK
  obtain ⟨rfl, hZ, hh⟩ := hP
  have hx := Bd.exec
  have hby := Bd.bytes
  have hlk : meth.locks = false := BodyLoose.notSynchronized Bd
  have hret := Bd.returns
  have hml : c.maxLocals = 5 := hml0
  have hown : s.vm.findClass "com/example/nalog/nalog/OrderClass" = some m.cls := findClass_of_methodNamed Bd.named
  have hnm := (name_of_methodNamed Bd.named Bd.method).1
  have X0 : Stand p l e ({ frames := 2, cells := 0, slots := 0, locals := 30 } : Room) s m #[(.ref oc), (.ref rr), (.int (0 : Int32)), (.int (1 : Int32)), .null] below meth c s₁ [] 0 0 := Stand.of_body Bd
  have e0 : s₁.heap = h0 := by rw [← hh, Bd.state]; rfl
  have N0 := Fr.nil n0
  show oE p e below s 0 0 (QocA Z oc rr h0 n0) (s₁.setTop (entryFrame m #[(.ref oc), (.ref rr), (.int (0 : Int32)), (.int (1 : Int32)), .null] 5))
  refine oS (fun t k => castTop (ef_rmocA m oc rr ) k) ?_
  show oE p e below s _ _ _ (s₁.setTop (mkF m 0 #[.val (.ref oc), .val (.ref rr), .val (.int (0 : Int32)), .val (.int (1 : Int32)), .val .null] []))
  refine oS (fun _ k_ => XS.aloadN X0.here hx rfl (hb hby d1_0) rfl rfl k_) ?_
  obtain ⟨T175, L175, X175, N175, e175, st175⟩ := cl_rmrc X0 hw hZ hx hown (wd_ hw 9 rfl) oc Z0 e0 N0 hml rfl (hb hby d1_1) (Ls := #[.val (.ref oc), .val (.ref rr), .val (.int (0 : Int32)), .val (.int (1 : Int32)), .val .null]) (rest := []) rfl
  refine oS (fun _ k_ => st175 _ k_) ?_
  refine oS (fun _ k_ => XS.aloadN X175.here hx rfl (hb hby d1_4) rfl rfl (XS.aloadN X175.here hx rfl (hb hby d1_5) rfl rfl k_)) ?_
  obtain ⟨T176, h176, X176, e176, W176, st176⟩ := putF X175 hx hZ hown (host := "") (Or.inl (wd_ hw 17 rfl)) Via.refl e175 Fr_ Eo (Or.inr ⟨(wd_ hw 18 rfl), rfl, hnm⟩) (wd_ hw 1 rfl) (ty := (.object "com/example/nalog/nalog/OrderClass$Reach")) (by decide) rfl rfl (g := (mkF m 6 #[.val (.ref oc), .val (.ref rr), .val (.int (0 : Int32)), .val (.int (1 : Int32)), .val .null] [(.ref rr), (.ref oc)])) rfl rfl (hb hby d1_6)
  have E_oc_176 := (Eo).wr W176
  have F_oc_reach_176 := (Fr_).same W176
  have F_oc_cheque_176 := (Fc_).other W176 (Or.inr (slot_ne (Or.inr (wd_ hw 20 rfl)) (Or.inr (wd_ hw 18 rfl)) (by decide) (t := .boolean) (t' := (.object "com/example/nalog/nalog/OrderClass$Reach")) (by decide) (by decide)))
  have F_oc_euro_176 := (Fe_).other W176 (Or.inr (slot_ne (Or.inr (wd_ hw 22 rfl)) (Or.inr (wd_ hw 18 rfl)) (by decide) (t := .boolean) (t' := (.object "com/example/nalog/nalog/OrderClass$Reach")) (by decide) (by decide)))
  have F_oc_otherBecause_176 := (Fb_).other W176 (Or.inr (slot_ne (Or.inr (wd_ hw 24 rfl)) (Or.inr (wd_ hw 18 rfl)) (by decide) (t := (.object "java/lang/String")) (t' := (.object "com/example/nalog/nalog/OrderClass$Reach")) (by decide) (by decide)))
  have K176 := ((Keep.refl h0 [oc])).wr W176 (Or.inl (List.mem_of_getElem? (i := 0) rfl))
  have Zs176 := Nat.le_trans Z0 (Nat.le_of_eq W176.size.symm)
  have N176 := Fr.snoc X176 N175 go
  refine oS (fun _ k_ => st176 _ k_) ?_
  refine oS (fun _ k_ => XS.aloadN X176.here hx rfl (hb hby d1_9) rfl rfl (XS.iloadN X176.here hx rfl (hb hby d1_10) rfl k_)) ?_
  obtain ⟨T177, h177, X177, e177, W177, st177⟩ := putFN X176 hx hZ hown (wd_ hw 19 rfl) Via.refl e176 F_oc_cheque_176 E_oc_176 (Or.inr ⟨(wd_ hw 20 rfl), rfl, hnm⟩) (wd_ hw 1 rfl) (ty := .boolean) (v' := (.int (0 : Int32))) (by decide) rfl rfl (g := (mkF m 11 #[.val (.ref oc), .val (.ref rr), .val (.int (0 : Int32)), .val (.int (1 : Int32)), .val .null] [(.int (0 : Int32)), (.ref oc)])) rfl rfl (hb hby d1_11)
  have E_oc_177 := (E_oc_176).wr W177
  have F_oc_reach_177 := (F_oc_reach_176).other W177 (Or.inr (slot_ne (Or.inr (wd_ hw 18 rfl)) (Or.inr (wd_ hw 20 rfl)) (by decide) (t := (.object "com/example/nalog/nalog/OrderClass$Reach")) (t' := .boolean) (by decide) (by decide)))
  have F_oc_cheque_177 := (F_oc_cheque_176).same W177
  have F_oc_euro_177 := (F_oc_euro_176).other W177 (Or.inr (slot_ne (Or.inr (wd_ hw 22 rfl)) (Or.inr (wd_ hw 20 rfl)) (by decide) (t := .boolean) (t' := .boolean) (by decide) (by decide)))
  have F_oc_otherBecause_177 := (F_oc_otherBecause_176).other W177 (Or.inr (slot_ne (Or.inr (wd_ hw 24 rfl)) (Or.inr (wd_ hw 20 rfl)) (by decide) (t := (.object "java/lang/String")) (t' := .boolean) (by decide) (by decide)))
  have K177 := (K176).wr W177 (Or.inl (List.mem_of_getElem? (i := 0) rfl))
  have Zs177 := Nat.le_trans Zs176 (Nat.le_of_eq W177.size.symm)
  have N177 := Fr.snoc X177 N176 go
  refine oS (fun _ k_ => st177 _ k_) ?_
  refine oS (fun _ k_ => XS.aloadN X177.here hx rfl (hb hby d1_14) rfl rfl (XS.iloadN X177.here hx rfl (hb hby d1_15) rfl k_)) ?_
  obtain ⟨T178, h178, X178, e178, W178, st178⟩ := putFN X177 hx hZ hown (wd_ hw 21 rfl) Via.refl e177 F_oc_euro_177 E_oc_177 (Or.inr ⟨(wd_ hw 22 rfl), rfl, hnm⟩) (wd_ hw 1 rfl) (ty := .boolean) (v' := (.int (1 : Int32))) (by decide) rfl rfl (g := (mkF m 16 #[.val (.ref oc), .val (.ref rr), .val (.int (0 : Int32)), .val (.int (1 : Int32)), .val .null] [(.int (1 : Int32)), (.ref oc)])) rfl rfl (hb hby d1_16)
  have E_oc_178 := (E_oc_177).wr W178
  have F_oc_reach_178 := (F_oc_reach_177).other W178 (Or.inr (slot_ne (Or.inr (wd_ hw 18 rfl)) (Or.inr (wd_ hw 22 rfl)) (by decide) (t := (.object "com/example/nalog/nalog/OrderClass$Reach")) (t' := .boolean) (by decide) (by decide)))
  have F_oc_cheque_178 := (F_oc_cheque_177).other W178 (Or.inr (slot_ne (Or.inr (wd_ hw 20 rfl)) (Or.inr (wd_ hw 22 rfl)) (by decide) (t := .boolean) (t' := .boolean) (by decide) (by decide)))
  have F_oc_euro_178 := (F_oc_euro_177).same W178
  have F_oc_otherBecause_178 := (F_oc_otherBecause_177).other W178 (Or.inr (slot_ne (Or.inr (wd_ hw 24 rfl)) (Or.inr (wd_ hw 22 rfl)) (by decide) (t := (.object "java/lang/String")) (t' := .boolean) (by decide) (by decide)))
  have K178 := (K177).wr W178 (Or.inl (List.mem_of_getElem? (i := 0) rfl))
  have Zs178 := Nat.le_trans Zs177 (Nat.le_of_eq W178.size.symm)
  have N178 := Fr.snoc X178 N177 go
  refine oS (fun _ k_ => st178 _ k_) ?_
  refine oS (fun _ k_ => XS.aloadN X178.here hx rfl (hb hby d1_19) rfl rfl (XS.aload X178.here hx rfl (hb hby d1_20) rfl rfl k_)) ?_
  obtain ⟨T179, h179, X179, e179, W179, st179⟩ := putF X178 hx hZ hown (host := "") (Or.inl (wd_ hw 23 rfl)) Via.refl e178 F_oc_otherBecause_178 E_oc_178 (Or.inr ⟨(wd_ hw 24 rfl), rfl, hnm⟩) (wd_ hw 1 rfl) (ty := (.object "java/lang/String")) (by decide) rfl rfl (g := (mkF m 22 #[.val (.ref oc), .val (.ref rr), .val (.int (0 : Int32)), .val (.int (1 : Int32)), .val .null] [.null, (.ref oc)])) rfl rfl (hb hby d1_22)
  have E_oc_179 := (E_oc_178).wr W179
  have F_oc_reach_179 := (F_oc_reach_178).other W179 (Or.inr (slot_ne (Or.inr (wd_ hw 18 rfl)) (Or.inr (wd_ hw 24 rfl)) (by decide) (t := (.object "com/example/nalog/nalog/OrderClass$Reach")) (t' := (.object "java/lang/String")) (by decide) (by decide)))
  have F_oc_cheque_179 := (F_oc_cheque_178).other W179 (Or.inr (slot_ne (Or.inr (wd_ hw 20 rfl)) (Or.inr (wd_ hw 24 rfl)) (by decide) (t := .boolean) (t' := (.object "java/lang/String")) (by decide) (by decide)))
  have F_oc_euro_179 := (F_oc_euro_178).other W179 (Or.inr (slot_ne (Or.inr (wd_ hw 22 rfl)) (Or.inr (wd_ hw 24 rfl)) (by decide) (t := .boolean) (t' := (.object "java/lang/String")) (by decide) (by decide)))
  have F_oc_otherBecause_179 := (F_oc_otherBecause_178).same W179
  have K179 := (K178).wr W179 (Or.inl (List.mem_of_getElem? (i := 0) rfl))
  have Zs179 := Nat.le_trans Zs178 (Nat.le_of_eq W179.size.symm)
  have N179 := Fr.snoc X179 N178 go
  refine oS (fun _ k_ => st179 _ k_) ?_
  exact own_retV X179 hx hret hlk (hb hby d1_25) (by decide) (by decide) (by rw [e179]; exact ⟨rfl, N179, K179, E_oc_179, F_oc_reach_179, F_oc_otherBecause_179⟩)
theorem pd_34 : parseMethodDescriptor "(Lcom/example/nalog/nalog/OrderClass$Reach;ZZLjava/lang/String;)V" = some ⟨[(.object "com/example/nalog/nalog/OrderClass$Reach"), .boolean, .boolean, (.object "java/lang/String")], none⟩ := by decide +kernel
theorem cl_rmocA (X : Stand p l e R s m args below meth c T locs cells slots) (hw : ∀ d ∈ tables_1, d.before a0 Z = true) (hZ : Z.Warmed39 s.vm) (hx : p.tables.exec = Jvm.exec) (hown : s.vm.findClass own = some m.cls) (lk : (Cond.methodLink own index (⟨"com/example/nalog/nalog/OrderClass", "<init>", "(Lcom/example/nalog/nalog/OrderClass$Reach;ZZLjava/lang/String;)V"⟩ : MethodName)).before a0 Z = true) (oc : Addr) (rr : Addr) (Z0 : n0 ≤ h0.size) (Eo : Exa Z h0 oc "com/example/nalog/nalog/OrderClass") (Fr_ : Fld Z h0 oc "com/example/nalog/nalog/OrderClass" "reach" "Lcom/example/nalog/nalog/OrderClass$Reach;" .null) (Fc_ : Fld Z h0 oc "com/example/nalog/nalog/OrderClass" "cheque" "Z" (.int 0)) (Fe_ : Fld Z h0 oc "com/example/nalog/nalog/OrderClass" "euro" "Z" (.int 0)) (Fb_ : Fld Z h0 oc "com/example/nalog/nalog/OrderClass" "otherBecause" "Ljava/lang/String;" .null) (go : n0 ≤ oc) (eT : T.heap = h0) (hml : c.maxLocals = kml) (hsz : Ls.size = kml) (hd : decode c.code pc = .ok (.invokespecial index, 3)) (hr : own_rm ({ frames := 2, cells := 0, slots := 0, locals := 30 } : Room) 5 R rest cells slots = true) :
    ∃ v T' L, Stand p l e R s m args below meth c T' (locs ++ L) (cells + 0) (slots + 0) ∧ QocA Z oc rr h0 n0 v T'.heap L ∧ ∀ t, Steps p.tables e below (T'.setTop (mkF m (pc + 3) Ls (v.toList ++ rest))) t → Steps p.tables e below (T.setTop (mkF m pc Ls (.null :: (.int (1 : Int32)) :: (.int (0 : Int32)) :: (.ref rr) :: (.ref oc) :: rest))) t := by
  obtain ⟨v, T', L, X', hQ, sq⟩ := own_cI (argsL := [(.ref rr), (.int (0 : Int32)), (.int (1 : Int32)), .null]) (rest := rest) (rmocA l Z a0 hw [] oc rr h0 n0 Z0 Eo Fr_ Fc_ Fe_ Fb_ go) pd_34 rfl (wd_ hw 8 rfl) (wd_ hw 2 rfl) (wd_ hw 7 rfl) rfl (by decide) hZ hx hown X lk eT hml hsz hd hr
  exact ⟨v, T', L, X', hQ, sq⟩
theorem ef_rmocB (m : MethodId) (oc : Addr) (rr : Addr) (ot : Addr)  : entryFrame m #[(.ref oc), (.ref rr), (.int (1 : Int32)), (.int (0 : Int32)), (.ref ot)] 5 = mkF m 0 #[.val (.ref oc), .val (.ref rr), .val (.int (1 : Int32)), .val (.int (0 : Int32)), .val (.ref ot)] [] := by first | (simp [entryFrame, mkF, argsToLocals, Value.category]; done) | rfl
def QocB (Z : State) (oc : Addr) (rr : Addr) (ot : Addr) (h0 : Heap) (n0 : Nat) (v : Option Value) (h : Heap) (L : List Loc) : Prop := v = none ∧ Fr n0 L ∧ Keep h0 h [oc] ∧ own_A Z h oc rr (.ref ot)
theorem rmocB (l : Launch) (Z : State) (a0 : Array Value) (hw : ∀ d ∈ tables_1, d.before a0 Z = true) (ws : List Jvm.Cond) (oc : Addr) (rr : Addr) (ot : Addr) (h0 : Heap) (n0 : Nat) (Z0 : n0 ≤ h0.size) (Eo : Exa Z h0 oc "com/example/nalog/nalog/OrderClass") (Fr_ : Fld Z h0 oc "com/example/nalog/nalog/OrderClass" "reach" "Lcom/example/nalog/nalog/OrderClass$Reach;" .null) (Fc_ : Fld Z h0 oc "com/example/nalog/nalog/OrderClass" "cheque" "Z" (.int 0)) (Fe_ : Fld Z h0 oc "com/example/nalog/nalog/OrderClass" "euro" "Z" (.int 0)) (Fb_ : Fld Z h0 oc "com/example/nalog/nalog/OrderClass" "otherBecause" "Ljava/lang/String;" .null) (go : n0 ≤ oc) :
    own_MF l (⟨"com/example/nalog/nalog/OrderClass", "<init>", "(Lcom/example/nalog/nalog/OrderClass$Reach;ZZLjava/lang/String;)V"⟩ : MethodName) prog_76_method_1_code 5 none ws ({ frames := 2, cells := 0, slots := 0, locals := 30 } : Room) #[(.ref oc), (.ref rr), (.int (1 : Int32)), (.int (0 : Int32)), (.ref ot)] Z h0 (QocB Z oc rr ot h0 n0) := by
  refine MetFree.of_bodySF (plainFor_of_name pn_10) hisR ?_
  intro p e s m args below meth c s₁ Bd hml0 hP hK
  obtain ⟨rfl, hZ, hh⟩ := hP
  have hx := Bd.exec
  have hby := Bd.bytes
  have hlk : meth.locks = false := BodyLoose.notSynchronized Bd
  have hret := Bd.returns
  have hml : c.maxLocals = 5 := hml0
  have hown : s.vm.findClass "com/example/nalog/nalog/OrderClass" = some m.cls := findClass_of_methodNamed Bd.named
  have hnm := (name_of_methodNamed Bd.named Bd.method).1
  have X0 : Stand p l e ({ frames := 2, cells := 0, slots := 0, locals := 30 } : Room) s m #[(.ref oc), (.ref rr), (.int (1 : Int32)), (.int (0 : Int32)), (.ref ot)] below meth c s₁ [] 0 0 := Stand.of_body Bd
  have e0 : s₁.heap = h0 := by rw [← hh, Bd.state]; rfl
  have N0 := Fr.nil n0
  show oE p e below s 0 0 (QocB Z oc rr ot h0 n0) (s₁.setTop (entryFrame m #[(.ref oc), (.ref rr), (.int (1 : Int32)), (.int (0 : Int32)), (.ref ot)] 5))
  refine oS (fun t k => castTop (ef_rmocB m oc rr ot ) k) ?_
  show oE p e below s _ _ _ (s₁.setTop (mkF m 0 #[.val (.ref oc), .val (.ref rr), .val (.int (1 : Int32)), .val (.int (0 : Int32)), .val (.ref ot)] []))
  refine oS (fun _ k_ => XS.aloadN X0.here hx rfl (hb hby d1_0) rfl rfl k_) ?_
  obtain ⟨T180, L180, X180, N180, e180, st180⟩ := cl_rmrc X0 hw hZ hx hown (wd_ hw 9 rfl) oc Z0 e0 N0 hml rfl (hb hby d1_1) (Ls := #[.val (.ref oc), .val (.ref rr), .val (.int (1 : Int32)), .val (.int (0 : Int32)), .val (.ref ot)]) (rest := []) rfl
  refine oS (fun _ k_ => st180 _ k_) ?_
  refine oS (fun _ k_ => XS.aloadN X180.here hx rfl (hb hby d1_4) rfl rfl (XS.aloadN X180.here hx rfl (hb hby d1_5) rfl rfl k_)) ?_
  obtain ⟨T181, h181, X181, e181, W181, st181⟩ := putF X180 hx hZ hown (host := "") (Or.inl (wd_ hw 17 rfl)) Via.refl e180 Fr_ Eo (Or.inr ⟨(wd_ hw 18 rfl), rfl, hnm⟩) (wd_ hw 1 rfl) (ty := (.object "com/example/nalog/nalog/OrderClass$Reach")) (by decide) rfl rfl (g := (mkF m 6 #[.val (.ref oc), .val (.ref rr), .val (.int (1 : Int32)), .val (.int (0 : Int32)), .val (.ref ot)] [(.ref rr), (.ref oc)])) rfl rfl (hb hby d1_6)
  have E_oc_181 := (Eo).wr W181
  have F_oc_reach_181 := (Fr_).same W181
  have F_oc_cheque_181 := (Fc_).other W181 (Or.inr (slot_ne (Or.inr (wd_ hw 20 rfl)) (Or.inr (wd_ hw 18 rfl)) (by decide) (t := .boolean) (t' := (.object "com/example/nalog/nalog/OrderClass$Reach")) (by decide) (by decide)))
  have F_oc_euro_181 := (Fe_).other W181 (Or.inr (slot_ne (Or.inr (wd_ hw 22 rfl)) (Or.inr (wd_ hw 18 rfl)) (by decide) (t := .boolean) (t' := (.object "com/example/nalog/nalog/OrderClass$Reach")) (by decide) (by decide)))
  have F_oc_otherBecause_181 := (Fb_).other W181 (Or.inr (slot_ne (Or.inr (wd_ hw 24 rfl)) (Or.inr (wd_ hw 18 rfl)) (by decide) (t := (.object "java/lang/String")) (t' := (.object "com/example/nalog/nalog/OrderClass$Reach")) (by decide) (by decide)))
  have K181 := ((Keep.refl h0 [oc])).wr W181 (Or.inl (List.mem_of_getElem? (i := 0) rfl))
  have Zs181 := Nat.le_trans Z0 (Nat.le_of_eq W181.size.symm)
  have N181 := Fr.snoc X181 N180 go
  refine oS (fun _ k_ => st181 _ k_) ?_
  refine oS (fun _ k_ => XS.aloadN X181.here hx rfl (hb hby d1_9) rfl rfl (XS.iloadN X181.here hx rfl (hb hby d1_10) rfl k_)) ?_
  obtain ⟨T182, h182, X182, e182, W182, st182⟩ := putFN X181 hx hZ hown (wd_ hw 19 rfl) Via.refl e181 F_oc_cheque_181 E_oc_181 (Or.inr ⟨(wd_ hw 20 rfl), rfl, hnm⟩) (wd_ hw 1 rfl) (ty := .boolean) (v' := (.int (1 : Int32))) (by decide) rfl rfl (g := (mkF m 11 #[.val (.ref oc), .val (.ref rr), .val (.int (1 : Int32)), .val (.int (0 : Int32)), .val (.ref ot)] [(.int (1 : Int32)), (.ref oc)])) rfl rfl (hb hby d1_11)
  have E_oc_182 := (E_oc_181).wr W182
  have F_oc_reach_182 := (F_oc_reach_181).other W182 (Or.inr (slot_ne (Or.inr (wd_ hw 18 rfl)) (Or.inr (wd_ hw 20 rfl)) (by decide) (t := (.object "com/example/nalog/nalog/OrderClass$Reach")) (t' := .boolean) (by decide) (by decide)))
  have F_oc_cheque_182 := (F_oc_cheque_181).same W182
  have F_oc_euro_182 := (F_oc_euro_181).other W182 (Or.inr (slot_ne (Or.inr (wd_ hw 22 rfl)) (Or.inr (wd_ hw 20 rfl)) (by decide) (t := .boolean) (t' := .boolean) (by decide) (by decide)))
  have F_oc_otherBecause_182 := (F_oc_otherBecause_181).other W182 (Or.inr (slot_ne (Or.inr (wd_ hw 24 rfl)) (Or.inr (wd_ hw 20 rfl)) (by decide) (t := (.object "java/lang/String")) (t' := .boolean) (by decide) (by decide)))
  have K182 := (K181).wr W182 (Or.inl (List.mem_of_getElem? (i := 0) rfl))
  have Zs182 := Nat.le_trans Zs181 (Nat.le_of_eq W182.size.symm)
  have N182 := Fr.snoc X182 N181 go
  refine oS (fun _ k_ => st182 _ k_) ?_
  refine oS (fun _ k_ => XS.aloadN X182.here hx rfl (hb hby d1_14) rfl rfl (XS.iloadN X182.here hx rfl (hb hby d1_15) rfl k_)) ?_
  obtain ⟨T183, h183, X183, e183, W183, st183⟩ := putFN X182 hx hZ hown (wd_ hw 21 rfl) Via.refl e182 F_oc_euro_182 E_oc_182 (Or.inr ⟨(wd_ hw 22 rfl), rfl, hnm⟩) (wd_ hw 1 rfl) (ty := .boolean) (v' := (.int (0 : Int32))) (by decide) rfl rfl (g := (mkF m 16 #[.val (.ref oc), .val (.ref rr), .val (.int (1 : Int32)), .val (.int (0 : Int32)), .val (.ref ot)] [(.int (0 : Int32)), (.ref oc)])) rfl rfl (hb hby d1_16)
  have E_oc_183 := (E_oc_182).wr W183
  have F_oc_reach_183 := (F_oc_reach_182).other W183 (Or.inr (slot_ne (Or.inr (wd_ hw 18 rfl)) (Or.inr (wd_ hw 22 rfl)) (by decide) (t := (.object "com/example/nalog/nalog/OrderClass$Reach")) (t' := .boolean) (by decide) (by decide)))
  have F_oc_cheque_183 := (F_oc_cheque_182).other W183 (Or.inr (slot_ne (Or.inr (wd_ hw 20 rfl)) (Or.inr (wd_ hw 22 rfl)) (by decide) (t := .boolean) (t' := .boolean) (by decide) (by decide)))
  have F_oc_euro_183 := (F_oc_euro_182).same W183
  have F_oc_otherBecause_183 := (F_oc_otherBecause_182).other W183 (Or.inr (slot_ne (Or.inr (wd_ hw 24 rfl)) (Or.inr (wd_ hw 22 rfl)) (by decide) (t := (.object "java/lang/String")) (t' := .boolean) (by decide) (by decide)))
  have K183 := (K182).wr W183 (Or.inl (List.mem_of_getElem? (i := 0) rfl))
  have Zs183 := Nat.le_trans Zs182 (Nat.le_of_eq W183.size.symm)
  have N183 := Fr.snoc X183 N182 go
  refine oS (fun _ k_ => st183 _ k_) ?_
  refine oS (fun _ k_ => XS.aloadN X183.here hx rfl (hb hby d1_19) rfl rfl (XS.aload X183.here hx rfl (hb hby d1_20) rfl rfl k_)) ?_
  obtain ⟨T184, h184, X184, e184, W184, st184⟩ := putF X183 hx hZ hown (host := "") (Or.inl (wd_ hw 23 rfl)) Via.refl e183 F_oc_otherBecause_183 E_oc_183 (Or.inr ⟨(wd_ hw 24 rfl), rfl, hnm⟩) (wd_ hw 1 rfl) (ty := (.object "java/lang/String")) (by decide) rfl rfl (g := (mkF m 22 #[.val (.ref oc), .val (.ref rr), .val (.int (1 : Int32)), .val (.int (0 : Int32)), .val (.ref ot)] [(.ref ot), (.ref oc)])) rfl rfl (hb hby d1_22)
  have E_oc_184 := (E_oc_183).wr W184
  have F_oc_reach_184 := (F_oc_reach_183).other W184 (Or.inr (slot_ne (Or.inr (wd_ hw 18 rfl)) (Or.inr (wd_ hw 24 rfl)) (by decide) (t := (.object "com/example/nalog/nalog/OrderClass$Reach")) (t' := (.object "java/lang/String")) (by decide) (by decide)))
  have F_oc_cheque_184 := (F_oc_cheque_183).other W184 (Or.inr (slot_ne (Or.inr (wd_ hw 20 rfl)) (Or.inr (wd_ hw 24 rfl)) (by decide) (t := .boolean) (t' := (.object "java/lang/String")) (by decide) (by decide)))
  have F_oc_euro_184 := (F_oc_euro_183).other W184 (Or.inr (slot_ne (Or.inr (wd_ hw 22 rfl)) (Or.inr (wd_ hw 24 rfl)) (by decide) (t := .boolean) (t' := (.object "java/lang/String")) (by decide) (by decide)))
  have F_oc_otherBecause_184 := (F_oc_otherBecause_183).same W184
  have K184 := (K183).wr W184 (Or.inl (List.mem_of_getElem? (i := 0) rfl))
  have Zs184 := Nat.le_trans Zs183 (Nat.le_of_eq W184.size.symm)
  have N184 := Fr.snoc X184 N183 go
  refine oS (fun _ k_ => st184 _ k_) ?_
  exact own_retV X184 hx hret hlk (hb hby d1_25) (by decide) (by decide) (by rw [e184]; exact ⟨rfl, N184, K184, E_oc_184, F_oc_reach_184, F_oc_otherBecause_184⟩)
def own_pick (z : Int32) (o1 o2 : Addr) : Value := if z = 1 then .ref o1 else if z = 2 then .ref o2 else .null
theorem own_pick_cases (z : Int32) (o1 o2 : Addr) : own_pick z o1 o2 = .ref o1 ∨ own_pick z o1 o2 = .ref o2 ∨ own_pick z o1 o2 = .null := by
  simp only [own_pick]
  split
  · exact Or.inl rfl
  · split
    · exact Or.inr (Or.inl rfl)
    · exact Or.inr (Or.inr rfl)
def b_4 := method_3_code
theorem d4_0 : decode b_4 0 = .ok (.iload_n 0, 1) := by decide +kernel
theorem d4_1 : decode b_4 1 = .ok (.iconst 1, 1) := by decide +kernel
theorem d4_2 : decode b_4 2 = .ok (.if_icmp .ne 5, 3) := by decide +kernel
theorem d4_5 : decode b_4 5 = .ok (.aload_n 1, 1) := by decide +kernel
theorem d4_6 : decode b_4 6 = .ok (.areturn, 1) := by decide +kernel
theorem d4_7 : decode b_4 7 = .ok (.iload_n 0, 1) := by decide +kernel
theorem d4_8 : decode b_4 8 = .ok (.iconst 2, 1) := by decide +kernel
theorem d4_9 : decode b_4 9 = .ok (.if_icmp .ne 5, 3) := by decide +kernel
theorem d4_12 : decode b_4 12 = .ok (.aload_n 2, 1) := by decide +kernel
theorem d4_13 : decode b_4 13 = .ok (.areturn, 1) := by decide +kernel
theorem d4_14 : decode b_4 14 = .ok (.aconst_null, 1) := by decide +kernel
theorem d4_15 : decode b_4 15 = .ok (.areturn, 1) := by decide +kernel
theorem cl_rmocB (X : Stand p l e R s m args below meth c T locs cells slots) (hw : ∀ d ∈ tables_1, d.before a0 Z = true) (hZ : Z.Warmed39 s.vm) (hx : p.tables.exec = Jvm.exec) (hown : s.vm.findClass own = some m.cls) (lk : (Cond.methodLink own index (⟨"com/example/nalog/nalog/OrderClass", "<init>", "(Lcom/example/nalog/nalog/OrderClass$Reach;ZZLjava/lang/String;)V"⟩ : MethodName)).before a0 Z = true) (oc : Addr) (rr : Addr) (ot : Addr) (Z0 : n0 ≤ h0.size) (Eo : Exa Z h0 oc "com/example/nalog/nalog/OrderClass") (Fr_ : Fld Z h0 oc "com/example/nalog/nalog/OrderClass" "reach" "Lcom/example/nalog/nalog/OrderClass$Reach;" .null) (Fc_ : Fld Z h0 oc "com/example/nalog/nalog/OrderClass" "cheque" "Z" (.int 0)) (Fe_ : Fld Z h0 oc "com/example/nalog/nalog/OrderClass" "euro" "Z" (.int 0)) (Fb_ : Fld Z h0 oc "com/example/nalog/nalog/OrderClass" "otherBecause" "Ljava/lang/String;" .null) (go : n0 ≤ oc) (eT : T.heap = h0) (hml : c.maxLocals = kml) (hsz : Ls.size = kml) (hd : decode c.code pc = .ok (.invokespecial index, 3)) (hr : own_rm ({ frames := 2, cells := 0, slots := 0, locals := 30 } : Room) 5 R rest cells slots = true) :
    ∃ v T' L, Stand p l e R s m args below meth c T' (locs ++ L) (cells + 0) (slots + 0) ∧ QocB Z oc rr ot h0 n0 v T'.heap L ∧ ∀ t, Steps p.tables e below (T'.setTop (mkF m (pc + 3) Ls (v.toList ++ rest))) t → Steps p.tables e below (T.setTop (mkF m pc Ls ((.ref ot) :: (.int (0 : Int32)) :: (.int (1 : Int32)) :: (.ref rr) :: (.ref oc) :: rest))) t := by
  obtain ⟨v, T', L, X', hQ, sq⟩ := own_cI (argsL := [(.ref rr), (.int (1 : Int32)), (.int (0 : Int32)), (.ref ot)]) (rest := rest) (rmocB l Z a0 hw [] oc rr ot h0 n0 Z0 Eo Fr_ Fc_ Fe_ Fb_ go) pd_34 rfl (wd_ hw 8 rfl) (wd_ hw 2 rfl) (wd_ hw 7 rfl) rfl (by decide) hZ hx hown X lk eT hml hsz hd hr
  exact ⟨v, T', L, X', hQ, sq⟩
theorem ef_rmpk (m : MethodId) (z : Int32) (o1 : Addr) (o2 : Addr)  : entryFrame m #[(.int z), (.ref o1), (.ref o2)] 3 = mkF m 0 #[.val (.int z), .val (.ref o1), .val (.ref o2)] [] := by first | (simp [entryFrame, mkF, argsToLocals, Value.category]; done) | rfl
def Qpk (Z : State) (z : Int32) (o1 : Addr) (o2 : Addr) (h0 : Heap) (n0 : Nat) (v : Option Value) (h : Heap) (L : List Loc) : Prop := v = some (own_pick z o1 o2) ∧ Fr n0 L ∧ h = h0
theorem rmpk (l : Launch) (Z : State) (a0 : Array Value) (hw : ∀ d ∈ tables_1, d.before a0 Z = true) (ws : List Jvm.Cond) (z : Int32) (o1 : Addr) (o2 : Addr) (h0 : Heap) (n0 : Nat) (Z0 : n0 ≤ h0.size)  :
    own_MF l (⟨"com/example/nalog/nalog/OrderCountAddPinLaw", "pick", "(ILcom/example/nalog/nalog/OrderClass;Lcom/example/nalog/nalog/OrderClass;)Lcom/example/nalog/nalog/OrderClass;"⟩ : MethodName) method_3_code 3 (some (.object "com/example/nalog/nalog/OrderClass")) ws ({ frames := 0, cells := 0, slots := 0, locals := 0 } : Room) #[(.int z), (.ref o1), (.ref o2)] Z h0 (Qpk Z z o1 o2 h0 n0) := by
  refine MetFree.of_bodySF (plainFor_of_name pn_8) hisR ?_
  intro p e s m args below meth c s₁ Bd hml0 hP hK
  obtain ⟨rfl, hZ, hh⟩ := hP
  have hx := Bd.exec
  have hby := Bd.bytes
  have hlk : meth.locks = false := BodyLoose.notSynchronized Bd
  have hret := Bd.returns
  have hml : c.maxLocals = 3 := hml0
  have hown : s.vm.findClass "com/example/nalog/nalog/OrderCountAddPinLaw" = some m.cls := findClass_of_methodNamed Bd.named
  have hnm := (name_of_methodNamed Bd.named Bd.method).1
  have X0 : Stand p l e ({ frames := 0, cells := 0, slots := 0, locals := 0 } : Room) s m #[(.int z), (.ref o1), (.ref o2)] below meth c s₁ [] 0 0 := Stand.of_body Bd
  have e0 : s₁.heap = h0 := by rw [← hh, Bd.state]; rfl
  have N0 := Fr.nil n0
  show oE p e below s 0 0 (Qpk Z z o1 o2 h0 n0) (s₁.setTop (entryFrame m #[(.int z), (.ref o1), (.ref o2)] 3))
  refine oS (fun t k => castTop (ef_rmpk m z o1 o2 ) k) ?_
  show oE p e below s _ _ _ (s₁.setTop (mkF m 0 #[.val (.int z), .val (.ref o1), .val (.ref o2)] []))
  refine oS (fun _ k_ => XS.iloadN X0.here hx rfl (hb hby d4_0) rfl (XS.iconst X0.here hx rfl (hb hby d4_1) k_)) ?_
  by_cases hc2 : z = (1 : Int32)
  · refine oS (fun _ k_ => XS.icmpNo X0.here hx rfl (hb hby d4_2) rfl (XT.ii_ne_f hc2) (XS.aloadN X0.here hx rfl (hb hby d4_5) rfl rfl k_)) ?_
    exact own_retR X0 hx hret rfl rfl rfl hlk (hb hby d4_6) (by decide) (by decide) ⟨by rw [own_pick, if_pos hc2], N0, e0⟩
  · refine oS (fun _ k_ => XS.icmpYes X0.here hx rfl (pc0 := 2) (pc' := 7) rfl (hb hby d4_2) rfl (XT.ii_ne_t hc2) (by decide) (by decide) (XS.iloadN X0.here hx rfl (hb hby d4_7) rfl (XS.iconst X0.here hx rfl (hb hby d4_8) k_))) ?_
    by_cases hc9 : z = (2 : Int32)
    · refine oS (fun _ k_ => XS.icmpNo X0.here hx rfl (hb hby d4_9) rfl (XT.ii_ne_f hc9) (XS.aloadN X0.here hx rfl (hb hby d4_12) rfl rfl k_)) ?_
      exact own_retR X0 hx hret rfl rfl rfl hlk (hb hby d4_13) (by decide) (by decide) ⟨by rw [own_pick, if_neg hc2, if_pos hc9], N0, e0⟩
    · refine oS (fun _ k_ => XS.icmpYes X0.here hx rfl (pc0 := 9) (pc' := 14) rfl (hb hby d4_9) rfl (XT.ii_ne_t hc9) (by decide) (by decide) (XS.aconstNull X0.here hx rfl (hb hby d4_14) k_)) ?_
      exact own_retR X0 hx hret rfl rfl rfl hlk (hb hby d4_15) (by decide) (by decide) ⟨by rw [own_pick, if_neg hc2, if_neg hc9], N0, e0⟩
def b_5 := prog_78_method_1_code
theorem d5_0 : decode b_5 0 = .ok (.aload_n 0, 1) := by decide +kernel
theorem d5_1 : decode b_5 1 = .ok (.invokespecial 1, 3) := by decide +kernel
theorem d5_4 : decode b_5 4 = .ok (.return_, 1) := by decide +kernel
theorem pn_11 : plainName "com/example/nalog/nalog/OrderCount" = true := by first | (simp [plainName, overriddenIn]; done) | decide +kernel
theorem pd_35 : parseMethodDescriptor "(ILcom/example/nalog/nalog/OrderClass;Lcom/example/nalog/nalog/OrderClass;)Lcom/example/nalog/nalog/OrderClass;" = some ⟨[.int, (.object "com/example/nalog/nalog/OrderClass"), (.object "com/example/nalog/nalog/OrderClass")], some (.object "com/example/nalog/nalog/OrderClass")⟩ := by decide +kernel
theorem cl_rmpk (X : Stand p l e R s m args below meth c T locs cells slots) (hw : ∀ d ∈ tables_1, d.before a0 Z = true) (hZ : Z.Warmed39 s.vm) (hx : p.tables.exec = Jvm.exec) (hown : s.vm.findClass own = some m.cls) (lk : (Cond.methodLink own index (⟨"com/example/nalog/nalog/OrderCountAddPinLaw", "pick", "(ILcom/example/nalog/nalog/OrderClass;Lcom/example/nalog/nalog/OrderClass;)Lcom/example/nalog/nalog/OrderClass;"⟩ : MethodName)).before a0 Z = true) (z : Int32) (o1 : Addr) (o2 : Addr) (Z0 : n0 ≤ h0.size) (eT : T.heap = h0) (N : Fr n0 locs) (hml : c.maxLocals = kml) (hsz : Ls.size = kml) (hd : decode c.code pc = .ok (.invokestatic index, 3)) (hr : own_rm ({ frames := 0, cells := 0, slots := 0, locals := 0 } : Room) 3 R rest cells slots = true) :
    ∃ T' L', Stand p l e R s m args below meth c T' L' (cells + 0) (slots + 0) ∧ Fr n0 L' ∧ T'.heap = h0 ∧ ∀ t, Steps p.tables e below (T'.setTop (mkF m (pc + 3) Ls ((own_pick z o1 o2) :: rest))) t → Steps p.tables e below (T.setTop (mkF m pc Ls ((.ref o2) :: (.ref o1) :: (.int z) :: rest))) t := by
  obtain ⟨v, T', L, X', hQ, sq⟩ := own_cS (argsL := [(.int z), (.ref o1), (.ref o2)]) (rest := rest) (rmpk l Z a0 hw [] z o1 o2 h0 n0 Z0 ) pd_35 rfl (wd_ hw 38 rfl) (wd_ hw 37 rfl) (wd_ hw 36 rfl) (by decide) hZ hx hown X lk eT hml hsz hd hr
  obtain ⟨rfl, Nq, eq_⟩ := hQ
  exact ⟨T', _, X', Fr.app N Nq, eq_, sq⟩
theorem ef_rmci (m : MethodId) (oq : Addr)  : entryFrame m #[(.ref oq)] 1 = mkF m 0 #[.val (.ref oq)] [] := by first | (simp [entryFrame, mkF, argsToLocals, Value.category]; done) | rfl
def Qci (Z : State) (oq : Addr) (h0 : Heap) (n0 : Nat) (v : Option Value) (h : Heap) (L : List Loc) : Prop := v = none ∧ Fr n0 L ∧ h = h0
theorem rmci (l : Launch) (Z : State) (a0 : Array Value) (hw : ∀ d ∈ tables_1, d.before a0 Z = true) (ws : List Jvm.Cond) (oq : Addr) (h0 : Heap) (n0 : Nat) (Z0 : n0 ≤ h0.size)  :
    own_MF l (⟨"com/example/nalog/nalog/OrderCount", "<init>", "()V"⟩ : MethodName) prog_78_method_1_code 1 none ws ({ frames := 1, cells := 0, slots := 0, locals := 13 } : Room) #[(.ref oq)] Z h0 (Qci Z oq h0 n0) := by
  refine MetFree.of_bodySF (plainFor_of_name pn_11) hisR ?_
  intro p e s m args below meth c s₁ Bd hml0 hP hK
  obtain ⟨rfl, hZ, hh⟩ := hP
  have hx := Bd.exec
  have hby := Bd.bytes
  have hlk : meth.locks = false := BodyLoose.notSynchronized Bd
  have hret := Bd.returns
  have hml : c.maxLocals = 1 := hml0
  have hown : s.vm.findClass "com/example/nalog/nalog/OrderCount" = some m.cls := findClass_of_methodNamed Bd.named
  have hnm := (name_of_methodNamed Bd.named Bd.method).1
  have X0 : Stand p l e ({ frames := 1, cells := 0, slots := 0, locals := 13 } : Room) s m #[(.ref oq)] below meth c s₁ [] 0 0 := Stand.of_body Bd
  have e0 : s₁.heap = h0 := by rw [← hh, Bd.state]; rfl
  have N0 := Fr.nil n0
  show oE p e below s 0 0 (Qci Z oq h0 n0) (s₁.setTop (entryFrame m #[(.ref oq)] 1))
  refine oS (fun t k => castTop (ef_rmci m oq ) k) ?_
  show oE p e below s _ _ _ (s₁.setTop (mkF m 0 #[.val (.ref oq)] []))
  refine oS (fun _ k_ => XS.aloadN X0.here hx rfl (hb hby d5_0) rfl rfl k_) ?_
  obtain ⟨T185, X185, e185, st185⟩ := initO X0 hx hZ hown (wd_ hw 45 rfl) (wd_ hw 15 rfl) (wd_ hw 16 rfl) e0 (g := (mkF m 1 #[.val (.ref oq)] [(.ref oq)])) rfl (by rw [hml]; rfl) rfl (hb hby d5_1) (by decide) (W := 0) (by show 2 * 0 + _ ≤ _; exact Nat.le_of_eq rfl) (by decide)
  refine oS (fun _ k_ => st185 _ k_) ?_
  exact own_retV X185 hx hret hlk (hb hby d5_4) (by decide) (by decide) ⟨rfl, N0, e185⟩
def b_6 := prog_78_method_3_code
theorem d6_0 : decode b_6 0 = .ok (.aload_n 0, 1) := by decide +kernel
theorem d6_1 : decode b_6 1 = .ok (.getfield 13, 3) := by decide +kernel
theorem d6_4 : decode b_6 4 = .ok (.ifCond .ne 13, 3) := by decide +kernel
theorem d6_7 : decode b_6 7 = .ok (.aload_n 0, 1) := by decide +kernel
theorem d6_8 : decode b_6 8 = .ok (.iload_n 1, 1) := by decide +kernel
theorem d6_9 : decode b_6 9 = .ok (.putfield 17, 3) := by decide +kernel
theorem d6_12 : decode b_6 12 = .ok (.aload_n 0, 1) := by decide +kernel
theorem d6_13 : decode b_6 13 = .ok (.aload_n 2, 1) := by decide +kernel
theorem d6_14 : decode b_6 14 = .ok (.putfield 20, 3) := by decide +kernel
theorem d6_17 : decode b_6 17 = .ok (.aload_n 0, 1) := by decide +kernel
theorem d6_18 : decode b_6 18 = .ok (.dup, 1) := by decide +kernel
theorem d6_19 : decode b_6 19 = .ok (.getfield 13, 3) := by decide +kernel
theorem d6_22 : decode b_6 22 = .ok (.iconst 1, 1) := by decide +kernel
theorem d6_23 : decode b_6 23 = .ok (.iadd, 1) := by decide +kernel
theorem d6_24 : decode b_6 24 = .ok (.putfield 13, 3) := by decide +kernel
theorem d6_27 : decode b_6 27 = .ok (.return_, 1) := by decide +kernel
theorem cl_rmci (X : Stand p l e R s m args below meth c T locs cells slots) (hw : ∀ d ∈ tables_1, d.before a0 Z = true) (hZ : Z.Warmed39 s.vm) (hx : p.tables.exec = Jvm.exec) (hown : s.vm.findClass own = some m.cls) (lk : (Cond.methodLink own index (⟨"com/example/nalog/nalog/OrderCount", "<init>", "()V"⟩ : MethodName)).before a0 Z = true) (oq : Addr) (Z0 : n0 ≤ h0.size) (eT : T.heap = h0) (N : Fr n0 locs) (hml : c.maxLocals = kml) (hsz : Ls.size = kml) (hd : decode c.code pc = .ok (.invokespecial index, 3)) (hr : own_rm ({ frames := 1, cells := 0, slots := 0, locals := 13 } : Room) 1 R rest cells slots = true) :
    ∃ T' L', Stand p l e R s m args below meth c T' L' (cells + 0) (slots + 0) ∧ Fr n0 L' ∧ T'.heap = h0 ∧ ∀ t, Steps p.tables e below (T'.setTop (mkF m (pc + 3) Ls (rest))) t → Steps p.tables e below (T.setTop (mkF m pc Ls ((.ref oq) :: rest))) t := by
  obtain ⟨v, T', L, X', hQ, sq⟩ := own_cI (argsL := []) (rest := rest) (rmci l Z a0 hw [] oq h0 n0 Z0 ) pd_18 rfl (wd_ hw 44 rfl) (wd_ hw 41 rfl) (wd_ hw 43 rfl) rfl (by decide) hZ hx hown X lk eT hml hsz hd hr
  obtain ⟨rfl, Nq, eq_⟩ := hQ
  exact ⟨T', _, X', Fr.app N Nq, eq_, sq⟩
theorem ef_rmad0 (m : MethodId) (oq : Addr) (x : Int32) (cc : Value) (hcc : cc.isRef = true) : entryFrame m #[(.ref oq), (.int x), cc] 3 = mkF m 0 #[.val (.ref oq), .val (.int x), .val cc] [] := by cases cc <;> first | rfl | cases hcc
def Qad0 (Z : State) (oq : Addr) (x : Int32) (cc : Value) (fx : Int32) (fc : Value) (h0 : Heap) (n0 : Nat) (v : Option Value) (h : Heap) (L : List Loc) : Prop := v = none ∧ Fr n0 L ∧ Keep h0 h [oq] ∧ own_Q Z h oq (1 : Int32) x cc
theorem rmad0 (l : Launch) (Z : State) (a0 : Array Value) (hw : ∀ d ∈ tables_1, d.before a0 Z = true) (ws : List Jvm.Cond) (oq : Addr) (x : Int32) (cc : Value) (fx : Int32) (fc : Value) (h0 : Heap) (n0 : Nat) (Z0 : n0 ≤ h0.size) (r_cc : cc.isRef = true) (Q0 : own_Q Z h0 oq (0 : Int32) fx fc) (gq : n0 ≤ oq) :
    own_MF l (⟨"com/example/nalog/nalog/OrderCount", "add", "(ILcom/example/nalog/nalog/OrderClass;)V"⟩ : MethodName) prog_78_method_3_code 3 none ws ({ frames := 0, cells := 0, slots := 0, locals := 0 } : Room) #[(.ref oq), (.int x), cc] Z h0 (Qad0 Z oq x cc fx fc h0 n0) := by
  refine MetFree.of_bodySF (plainFor_of_name pn_11) hisR ?_
  intro p e s m args below meth c s₁ Bd hml0 hP hK
  obtain ⟨rfl, hZ, hh⟩ := hP
  have hx := Bd.exec
  have hby := Bd.bytes
  have hlk : meth.locks = false := BodyLoose.notSynchronized Bd
  have hret := Bd.returns
  have hml : c.maxLocals = 3 := hml0
  have hown : s.vm.findClass "com/example/nalog/nalog/OrderCount" = some m.cls := findClass_of_methodNamed Bd.named
  have hnm := (name_of_methodNamed Bd.named Bd.method).1
  have X0 : Stand p l e ({ frames := 0, cells := 0, slots := 0, locals := 0 } : Room) s m #[(.ref oq), (.int x), cc] below meth c s₁ [] 0 0 := Stand.of_body Bd
  have e0 : s₁.heap = h0 := by rw [← hh, Bd.state]; rfl
  have N0 := Fr.nil n0
  show oE p e below s 0 0 (Qad0 Z oq x cc fx fc h0 n0) (s₁.setTop (entryFrame m #[(.ref oq), (.int x), cc] 3))
  refine oS (fun t k => castTop (ef_rmad0 m oq x cc r_cc) k) ?_
  show oE p e below s _ _ _ (s₁.setTop (mkF m 0 #[.val (.ref oq), .val (.int x), .val cc] []))
  refine oS (fun _ k_ => XS.aloadN X0.here hx rfl (hb hby d6_0) rfl rfl k_) ?_
  obtain ⟨T186, X186, e186, st186⟩ := getF X0 hx hZ hown (host := "") (Or.inl (wd_ hw 51 rfl)) Via.refl e0 Q0.2.1 (g := (mkF m 1 #[.val (.ref oq), .val (.int x), .val cc] [(.ref oq)])) rfl rfl (hb hby d6_1)
  refine oS (fun _ k_ => st186 _ k_) ?_
  refine oS (fun _ k_ => XS.ifNo X186.here hx rfl (hb hby d6_4) rfl (XT.i0_ne_f (by decide : (0 : Int32) = 0)) (XS.aloadN X186.here hx rfl (hb hby d6_7) rfl rfl (XS.iloadN X186.here hx rfl (hb hby d6_8) rfl k_))) ?_
  obtain ⟨T187, h187, X187, e187, W187, st187⟩ := putF X186 hx hZ hown (host := "") (Or.inl (wd_ hw 53 rfl)) Via.refl e186 Q0.2.2.1 Q0.1 (Or.inl (wd_ hw 54 rfl)) (wd_ hw 40 rfl) (ty := .int) (by decide) rfl rfl (g := (mkF m 9 #[.val (.ref oq), .val (.int x), .val cc] [(.int x), (.ref oq)])) rfl rfl (hb hby d6_9)
  have E_oq_187 := (Q0.1).wr W187
  have F_oq_count_187 := (Q0.2.1).other W187 (Or.inr (slot_ne (Or.inl (wd_ hw 52 rfl)) (Or.inl (wd_ hw 54 rfl)) (by decide) (t := .int) (t' := .int) (by decide) (by decide)))
  have F_oq_first_187 := (Q0.2.2.1).same W187
  have F_oq_firstClass_187 := (Q0.2.2.2).other W187 (Or.inr (slot_ne (Or.inl (wd_ hw 56 rfl)) (Or.inl (wd_ hw 54 rfl)) (by decide) (t := (.object "com/example/nalog/nalog/OrderClass")) (t' := .int) (by decide) (by decide)))
  have K187 := ((Keep.refl h0 [oq])).wr W187 (Or.inl (List.mem_of_getElem? (i := 0) rfl))
  have Zs187 := Nat.le_trans Z0 (Nat.le_of_eq W187.size.symm)
  have N187 := Fr.snoc X187 N0 gq
  refine oS (fun _ k_ => st187 _ k_) ?_
  refine oS (fun _ k_ => XS.aloadN X187.here hx rfl (hb hby d6_12) rfl rfl (XS.aloadN X187.here hx rfl (hb hby d6_13) rfl r_cc k_)) ?_
  obtain ⟨T188, h188, X188, e188, W188, st188⟩ := putF X187 hx hZ hown (host := "") (Or.inl (wd_ hw 55 rfl)) Via.refl e187 F_oq_firstClass_187 E_oq_187 (Or.inl (wd_ hw 56 rfl)) (wd_ hw 40 rfl) (ty := (.object "com/example/nalog/nalog/OrderClass")) (by decide) own_narO (own_fitO r_cc) (g := (mkF m 14 #[.val (.ref oq), .val (.int x), .val cc] [cc, (.ref oq)])) rfl rfl (hb hby d6_14)
  have E_oq_188 := (E_oq_187).wr W188
  have F_oq_count_188 := (F_oq_count_187).other W188 (Or.inr (slot_ne (Or.inl (wd_ hw 52 rfl)) (Or.inl (wd_ hw 56 rfl)) (by decide) (t := .int) (t' := (.object "com/example/nalog/nalog/OrderClass")) (by decide) (by decide)))
  have F_oq_first_188 := (F_oq_first_187).other W188 (Or.inr (slot_ne (Or.inl (wd_ hw 54 rfl)) (Or.inl (wd_ hw 56 rfl)) (by decide) (t := .int) (t' := (.object "com/example/nalog/nalog/OrderClass")) (by decide) (by decide)))
  have F_oq_firstClass_188 := (F_oq_firstClass_187).same W188
  have K188 := (K187).wr W188 (Or.inl (List.mem_of_getElem? (i := 0) rfl))
  have Zs188 := Nat.le_trans Zs187 (Nat.le_of_eq W188.size.symm)
  have N188 := Fr.snoc X188 N187 gq
  refine oS (fun _ k_ => st188 _ k_) ?_
  refine oS (fun _ k_ => XS.aloadN X188.here hx rfl (hb hby d6_17) rfl rfl (XS.dup X188.here hx rfl (hb hby d6_18) rfl rfl k_)) ?_
  obtain ⟨T189, X189, e189, st189⟩ := getF X188 hx hZ hown (host := "") (Or.inl (wd_ hw 51 rfl)) Via.refl e188 F_oq_count_188 (g := (mkF m 19 #[.val (.ref oq), .val (.int x), .val cc] [(.ref oq), (.ref oq)])) rfl rfl (hb hby d6_19)
  refine oS (fun _ k_ => st189 _ k_) ?_
  refine oS (fun _ k_ => XS.iconst X189.here hx rfl (hb hby d6_22) (XS.iadd X189.here hx rfl (hb hby d6_23) rfl k_)) ?_
  show oE p e below s _ _ _ (T189.setTop (mkF m 24 #[.val (.ref oq), .val (.int x), .val cc] [(.int ((0 : Int32) + (1 : Int32))), (.ref oq)]))
  rw [show ((0 : Int32) + (1 : Int32)) = (1 : Int32) from by decide]
  obtain ⟨T190, h190, X190, e190, W190, st190⟩ := putF X189 hx hZ hown (host := "") (Or.inl (wd_ hw 51 rfl)) Via.refl e189 F_oq_count_188 E_oq_188 (Or.inl (wd_ hw 52 rfl)) (wd_ hw 40 rfl) (ty := .int) (by decide) rfl rfl (g := (mkF m 24 #[.val (.ref oq), .val (.int x), .val cc] [(.int (1 : Int32)), (.ref oq)])) rfl rfl (hb hby d6_24)
  have E_oq_190 := (E_oq_188).wr W190
  have F_oq_count_190 := (F_oq_count_188).same W190
  have F_oq_first_190 := (F_oq_first_188).other W190 (Or.inr (slot_ne (Or.inl (wd_ hw 54 rfl)) (Or.inl (wd_ hw 52 rfl)) (by decide) (t := .int) (t' := .int) (by decide) (by decide)))
  have F_oq_firstClass_190 := (F_oq_firstClass_188).other W190 (Or.inr (slot_ne (Or.inl (wd_ hw 56 rfl)) (Or.inl (wd_ hw 52 rfl)) (by decide) (t := (.object "com/example/nalog/nalog/OrderClass")) (t' := .int) (by decide) (by decide)))
  have K190 := (K188).wr W190 (Or.inl (List.mem_of_getElem? (i := 0) rfl))
  have Zs190 := Nat.le_trans Zs188 (Nat.le_of_eq W190.size.symm)
  have N190 := Fr.snoc X190 N188 gq
  refine oS (fun _ k_ => st190 _ k_) ?_
  exact own_retV X190 hx hret hlk (hb hby d6_27) (by decide) (by decide) (by rw [e190]; exact ⟨rfl, N190, K190, E_oq_190, F_oq_count_190, F_oq_first_190, F_oq_firstClass_190⟩)
theorem pd_36 : parseMethodDescriptor "(ILcom/example/nalog/nalog/OrderClass;)V" = some ⟨[.int, (.object "com/example/nalog/nalog/OrderClass")], none⟩ := by decide +kernel
theorem cl_rmad0 (X : Stand p l e R s m args below meth c T locs cells slots) (hw : ∀ d ∈ tables_1, d.before a0 Z = true) (hZ : Z.Warmed39 s.vm) (hx : p.tables.exec = Jvm.exec) (hown : s.vm.findClass own = some m.cls) (lk : (Cond.methodLink own index (⟨"com/example/nalog/nalog/OrderCount", "add", "(ILcom/example/nalog/nalog/OrderClass;)V"⟩ : MethodName)).before a0 Z = true) (oq : Addr) (x : Int32) (cc : Value) (fx : Int32) (fc : Value) (Z0 : n0 ≤ h0.size) (r_cc : cc.isRef = true) (Q0 : own_Q Z h0 oq (0 : Int32) fx fc) (gq : n0 ≤ oq) (eT : T.heap = h0) (E_ : Exa Z h0 oq "com/example/nalog/nalog/OrderCount") (hml : c.maxLocals = kml) (hsz : Ls.size = kml) (hd : decode c.code pc = .ok (.invokevirtual index, 3)) (hr : own_rm ({ frames := 0, cells := 0, slots := 0, locals := 0 } : Room) 3 R rest cells slots = true) :
    ∃ v T' L, Stand p l e R s m args below meth c T' (locs ++ L) (cells + 0) (slots + 0) ∧ Qad0 Z oq x cc fx fc h0 n0 v T'.heap L ∧ ∀ t, Steps p.tables e below (T'.setTop (mkF m (pc + 3) Ls (v.toList ++ rest))) t → Steps p.tables e below (T.setTop (mkF m pc Ls (cc :: (.int x) :: (.ref oq) :: rest))) t := by
  obtain ⟨v, T', L, X', hQ, sq⟩ := own_cV (argsL := [(.int x), cc]) (rest := rest) (rmad0 l Z a0 hw [] oq x cc fx fc h0 n0 Z0 r_cc Q0 gq) pd_36 rfl (wd_ hw 50 rfl) (wd_ hw 41 rfl) (wd_ hw 48 rfl) (wd_ hw 47 rfl) (wd_ hw 49 rfl) rfl (wd_ hw 49 rfl) (by decide) hZ hx hown X lk eT E_ hml hsz hd hr
  exact ⟨v, T', L, X', hQ, sq⟩
theorem ef_rmad1 (m : MethodId) (oq : Addr) (x : Int32) (cc : Value) (hcc : cc.isRef = true) : entryFrame m #[(.ref oq), (.int x), cc] 3 = mkF m 0 #[.val (.ref oq), .val (.int x), .val cc] [] := by cases cc <;> first | rfl | cases hcc
def Qad1 (Z : State) (oq : Addr) (x : Int32) (cc : Value) (fx : Int32) (fc : Value) (h0 : Heap) (n0 : Nat) (v : Option Value) (h : Heap) (L : List Loc) : Prop := v = none ∧ Fr n0 L ∧ Keep h0 h [oq] ∧ own_Q Z h oq (2 : Int32) fx fc
theorem rmad1 (l : Launch) (Z : State) (a0 : Array Value) (hw : ∀ d ∈ tables_1, d.before a0 Z = true) (ws : List Jvm.Cond) (oq : Addr) (x : Int32) (cc : Value) (fx : Int32) (fc : Value) (h0 : Heap) (n0 : Nat) (Z0 : n0 ≤ h0.size) (r_cc : cc.isRef = true) (Q0 : own_Q Z h0 oq (1 : Int32) fx fc) (gq : n0 ≤ oq) :
    own_MF l (⟨"com/example/nalog/nalog/OrderCount", "add", "(ILcom/example/nalog/nalog/OrderClass;)V"⟩ : MethodName) prog_78_method_3_code 3 none ws ({ frames := 0, cells := 0, slots := 0, locals := 0 } : Room) #[(.ref oq), (.int x), cc] Z h0 (Qad1 Z oq x cc fx fc h0 n0) := by
  refine MetFree.of_bodySF (plainFor_of_name pn_11) hisR ?_
  intro p e s m args below meth c s₁ Bd hml0 hP hK
  obtain ⟨rfl, hZ, hh⟩ := hP
  have hx := Bd.exec
  have hby := Bd.bytes
  have hlk : meth.locks = false := BodyLoose.notSynchronized Bd
  have hret := Bd.returns
  have hml : c.maxLocals = 3 := hml0
  have hown : s.vm.findClass "com/example/nalog/nalog/OrderCount" = some m.cls := findClass_of_methodNamed Bd.named
  have hnm := (name_of_methodNamed Bd.named Bd.method).1
  have X0 : Stand p l e ({ frames := 0, cells := 0, slots := 0, locals := 0 } : Room) s m #[(.ref oq), (.int x), cc] below meth c s₁ [] 0 0 := Stand.of_body Bd
  have e0 : s₁.heap = h0 := by rw [← hh, Bd.state]; rfl
  have N0 := Fr.nil n0
  show oE p e below s 0 0 (Qad1 Z oq x cc fx fc h0 n0) (s₁.setTop (entryFrame m #[(.ref oq), (.int x), cc] 3))
  refine oS (fun t k => castTop (ef_rmad1 m oq x cc r_cc) k) ?_
  show oE p e below s _ _ _ (s₁.setTop (mkF m 0 #[.val (.ref oq), .val (.int x), .val cc] []))
  refine oS (fun _ k_ => XS.aloadN X0.here hx rfl (hb hby d6_0) rfl rfl k_) ?_
  obtain ⟨T191, X191, e191, st191⟩ := getF X0 hx hZ hown (host := "") (Or.inl (wd_ hw 51 rfl)) Via.refl e0 Q0.2.1 (g := (mkF m 1 #[.val (.ref oq), .val (.int x), .val cc] [(.ref oq)])) rfl rfl (hb hby d6_1)
  refine oS (fun _ k_ => st191 _ k_) ?_
  refine oS (fun _ k_ => XS.ifYes X191.here hx rfl (pc0 := 4) (pc' := 17) rfl (hb hby d6_4) rfl (XT.i0_ne_t (by decide : ¬ ((1 : Int32) = 0))) (by decide) (by decide) (XS.aloadN X191.here hx rfl (hb hby d6_17) rfl rfl (XS.dup X191.here hx rfl (hb hby d6_18) rfl rfl k_))) ?_
  obtain ⟨T192, X192, e192, st192⟩ := getF X191 hx hZ hown (host := "") (Or.inl (wd_ hw 51 rfl)) Via.refl e191 Q0.2.1 (g := (mkF m 19 #[.val (.ref oq), .val (.int x), .val cc] [(.ref oq), (.ref oq)])) rfl rfl (hb hby d6_19)
  refine oS (fun _ k_ => st192 _ k_) ?_
  refine oS (fun _ k_ => XS.iconst X192.here hx rfl (hb hby d6_22) (XS.iadd X192.here hx rfl (hb hby d6_23) rfl k_)) ?_
  show oE p e below s _ _ _ (T192.setTop (mkF m 24 #[.val (.ref oq), .val (.int x), .val cc] [(.int ((1 : Int32) + (1 : Int32))), (.ref oq)]))
  rw [show ((1 : Int32) + (1 : Int32)) = (2 : Int32) from by decide]
  obtain ⟨T193, h193, X193, e193, W193, st193⟩ := putF X192 hx hZ hown (host := "") (Or.inl (wd_ hw 51 rfl)) Via.refl e192 Q0.2.1 Q0.1 (Or.inl (wd_ hw 52 rfl)) (wd_ hw 40 rfl) (ty := .int) (by decide) rfl rfl (g := (mkF m 24 #[.val (.ref oq), .val (.int x), .val cc] [(.int (2 : Int32)), (.ref oq)])) rfl rfl (hb hby d6_24)
  have E_oq_193 := (Q0.1).wr W193
  have F_oq_count_193 := (Q0.2.1).same W193
  have F_oq_first_193 := (Q0.2.2.1).other W193 (Or.inr (slot_ne (Or.inl (wd_ hw 54 rfl)) (Or.inl (wd_ hw 52 rfl)) (by decide) (t := .int) (t' := .int) (by decide) (by decide)))
  have F_oq_firstClass_193 := (Q0.2.2.2).other W193 (Or.inr (slot_ne (Or.inl (wd_ hw 56 rfl)) (Or.inl (wd_ hw 52 rfl)) (by decide) (t := (.object "com/example/nalog/nalog/OrderClass")) (t' := .int) (by decide) (by decide)))
  have K193 := ((Keep.refl h0 [oq])).wr W193 (Or.inl (List.mem_of_getElem? (i := 0) rfl))
  have Zs193 := Nat.le_trans Z0 (Nat.le_of_eq W193.size.symm)
  have N193 := Fr.snoc X193 N0 gq
  refine oS (fun _ k_ => st193 _ k_) ?_
  exact own_retV X193 hx hret hlk (hb hby d6_27) (by decide) (by decide) (by rw [e193]; exact ⟨rfl, N193, K193, E_oq_193, F_oq_count_193, F_oq_first_193, F_oq_firstClass_193⟩)
theorem cl_rmad1 (X : Stand p l e R s m args below meth c T locs cells slots) (hw : ∀ d ∈ tables_1, d.before a0 Z = true) (hZ : Z.Warmed39 s.vm) (hx : p.tables.exec = Jvm.exec) (hown : s.vm.findClass own = some m.cls) (lk : (Cond.methodLink own index (⟨"com/example/nalog/nalog/OrderCount", "add", "(ILcom/example/nalog/nalog/OrderClass;)V"⟩ : MethodName)).before a0 Z = true) (oq : Addr) (x : Int32) (cc : Value) (fx : Int32) (fc : Value) (Z0 : n0 ≤ h0.size) (r_cc : cc.isRef = true) (Q0 : own_Q Z h0 oq (1 : Int32) fx fc) (gq : n0 ≤ oq) (eT : T.heap = h0) (E_ : Exa Z h0 oq "com/example/nalog/nalog/OrderCount") (hml : c.maxLocals = kml) (hsz : Ls.size = kml) (hd : decode c.code pc = .ok (.invokevirtual index, 3)) (hr : own_rm ({ frames := 0, cells := 0, slots := 0, locals := 0 } : Room) 3 R rest cells slots = true) :
    ∃ v T' L, Stand p l e R s m args below meth c T' (locs ++ L) (cells + 0) (slots + 0) ∧ Qad1 Z oq x cc fx fc h0 n0 v T'.heap L ∧ ∀ t, Steps p.tables e below (T'.setTop (mkF m (pc + 3) Ls (v.toList ++ rest))) t → Steps p.tables e below (T.setTop (mkF m pc Ls (cc :: (.int x) :: (.ref oq) :: rest))) t := by
  obtain ⟨v, T', L, X', hQ, sq⟩ := own_cV (argsL := [(.int x), cc]) (rest := rest) (rmad1 l Z a0 hw [] oq x cc fx fc h0 n0 Z0 r_cc Q0 gq) pd_36 rfl (wd_ hw 50 rfl) (wd_ hw 41 rfl) (wd_ hw 48 rfl) (wd_ hw 47 rfl) (wd_ hw 49 rfl) rfl (wd_ hw 49 rfl) (by decide) hZ hx hown X lk eT E_ hml hsz hd hr
  exact ⟨v, T', L, X', hQ, sq⟩
theorem ef_rmad2 (m : MethodId) (oq : Addr) (x : Int32) (cc : Value) (hcc : cc.isRef = true) : entryFrame m #[(.ref oq), (.int x), cc] 3 = mkF m 0 #[.val (.ref oq), .val (.int x), .val cc] [] := by cases cc <;> first | rfl | cases hcc
def Qad2 (Z : State) (oq : Addr) (x : Int32) (cc : Value) (fx : Int32) (fc : Value) (h0 : Heap) (n0 : Nat) (v : Option Value) (h : Heap) (L : List Loc) : Prop := v = none ∧ Fr n0 L ∧ Keep h0 h [oq] ∧ own_Q Z h oq (3 : Int32) fx fc
theorem rmad2 (l : Launch) (Z : State) (a0 : Array Value) (hw : ∀ d ∈ tables_1, d.before a0 Z = true) (ws : List Jvm.Cond) (oq : Addr) (x : Int32) (cc : Value) (fx : Int32) (fc : Value) (h0 : Heap) (n0 : Nat) (Z0 : n0 ≤ h0.size) (r_cc : cc.isRef = true) (Q0 : own_Q Z h0 oq (2 : Int32) fx fc) (gq : n0 ≤ oq) :
    own_MF l (⟨"com/example/nalog/nalog/OrderCount", "add", "(ILcom/example/nalog/nalog/OrderClass;)V"⟩ : MethodName) prog_78_method_3_code 3 none ws ({ frames := 0, cells := 0, slots := 0, locals := 0 } : Room) #[(.ref oq), (.int x), cc] Z h0 (Qad2 Z oq x cc fx fc h0 n0) := by
  refine MetFree.of_bodySF (plainFor_of_name pn_11) hisR ?_
  intro p e s m args below meth c s₁ Bd hml0 hP hK
  obtain ⟨rfl, hZ, hh⟩ := hP
  have hx := Bd.exec
  have hby := Bd.bytes
  have hlk : meth.locks = false := BodyLoose.notSynchronized Bd
  have hret := Bd.returns
  have hml : c.maxLocals = 3 := hml0
  have hown : s.vm.findClass "com/example/nalog/nalog/OrderCount" = some m.cls := findClass_of_methodNamed Bd.named
  have hnm := (name_of_methodNamed Bd.named Bd.method).1
  have X0 : Stand p l e ({ frames := 0, cells := 0, slots := 0, locals := 0 } : Room) s m #[(.ref oq), (.int x), cc] below meth c s₁ [] 0 0 := Stand.of_body Bd
  have e0 : s₁.heap = h0 := by rw [← hh, Bd.state]; rfl
  have N0 := Fr.nil n0
  show oE p e below s 0 0 (Qad2 Z oq x cc fx fc h0 n0) (s₁.setTop (entryFrame m #[(.ref oq), (.int x), cc] 3))
  refine oS (fun t k => castTop (ef_rmad2 m oq x cc r_cc) k) ?_
  show oE p e below s _ _ _ (s₁.setTop (mkF m 0 #[.val (.ref oq), .val (.int x), .val cc] []))
  refine oS (fun _ k_ => XS.aloadN X0.here hx rfl (hb hby d6_0) rfl rfl k_) ?_
  obtain ⟨T194, X194, e194, st194⟩ := getF X0 hx hZ hown (host := "") (Or.inl (wd_ hw 51 rfl)) Via.refl e0 Q0.2.1 (g := (mkF m 1 #[.val (.ref oq), .val (.int x), .val cc] [(.ref oq)])) rfl rfl (hb hby d6_1)
  refine oS (fun _ k_ => st194 _ k_) ?_
  refine oS (fun _ k_ => XS.ifYes X194.here hx rfl (pc0 := 4) (pc' := 17) rfl (hb hby d6_4) rfl (XT.i0_ne_t (by decide : ¬ ((2 : Int32) = 0))) (by decide) (by decide) (XS.aloadN X194.here hx rfl (hb hby d6_17) rfl rfl (XS.dup X194.here hx rfl (hb hby d6_18) rfl rfl k_))) ?_
  obtain ⟨T195, X195, e195, st195⟩ := getF X194 hx hZ hown (host := "") (Or.inl (wd_ hw 51 rfl)) Via.refl e194 Q0.2.1 (g := (mkF m 19 #[.val (.ref oq), .val (.int x), .val cc] [(.ref oq), (.ref oq)])) rfl rfl (hb hby d6_19)
  refine oS (fun _ k_ => st195 _ k_) ?_
  refine oS (fun _ k_ => XS.iconst X195.here hx rfl (hb hby d6_22) (XS.iadd X195.here hx rfl (hb hby d6_23) rfl k_)) ?_
  show oE p e below s _ _ _ (T195.setTop (mkF m 24 #[.val (.ref oq), .val (.int x), .val cc] [(.int ((2 : Int32) + (1 : Int32))), (.ref oq)]))
  rw [show ((2 : Int32) + (1 : Int32)) = (3 : Int32) from by decide]
  obtain ⟨T196, h196, X196, e196, W196, st196⟩ := putF X195 hx hZ hown (host := "") (Or.inl (wd_ hw 51 rfl)) Via.refl e195 Q0.2.1 Q0.1 (Or.inl (wd_ hw 52 rfl)) (wd_ hw 40 rfl) (ty := .int) (by decide) rfl rfl (g := (mkF m 24 #[.val (.ref oq), .val (.int x), .val cc] [(.int (3 : Int32)), (.ref oq)])) rfl rfl (hb hby d6_24)
  have E_oq_196 := (Q0.1).wr W196
  have F_oq_count_196 := (Q0.2.1).same W196
  have F_oq_first_196 := (Q0.2.2.1).other W196 (Or.inr (slot_ne (Or.inl (wd_ hw 54 rfl)) (Or.inl (wd_ hw 52 rfl)) (by decide) (t := .int) (t' := .int) (by decide) (by decide)))
  have F_oq_firstClass_196 := (Q0.2.2.2).other W196 (Or.inr (slot_ne (Or.inl (wd_ hw 56 rfl)) (Or.inl (wd_ hw 52 rfl)) (by decide) (t := (.object "com/example/nalog/nalog/OrderClass")) (t' := .int) (by decide) (by decide)))
  have K196 := ((Keep.refl h0 [oq])).wr W196 (Or.inl (List.mem_of_getElem? (i := 0) rfl))
  have Zs196 := Nat.le_trans Z0 (Nat.le_of_eq W196.size.symm)
  have N196 := Fr.snoc X196 N0 gq
  refine oS (fun _ k_ => st196 _ k_) ?_
  exact own_retV X196 hx hret hlk (hb hby d6_27) (by decide) (by decide) (by rw [e196]; exact ⟨rfl, N196, K196, E_oq_196, F_oq_count_196, F_oq_first_196, F_oq_firstClass_196⟩)
def b_7 := prog_78_method_4_code
theorem d7_0 : decode b_7 0 = .ok (.aload_n 0, 1) := by decide +kernel
theorem d7_1 : decode b_7 1 = .ok (.getfield 13, 3) := by decide +kernel
theorem d7_4 : decode b_7 4 = .ok (.ifCond .ne 7, 3) := by decide +kernel
theorem d7_7 : decode b_7 7 = .ok (.iconst 1, 1) := by decide +kernel
theorem d7_8 : decode b_7 8 = .ok (.goto 4, 3) := by decide +kernel
theorem d7_11 : decode b_7 11 = .ok (.iconst 0, 1) := by decide +kernel
theorem d7_12 : decode b_7 12 = .ok (.ireturn, 1) := by decide +kernel
theorem cl_rmad2 (X : Stand p l e R s m args below meth c T locs cells slots) (hw : ∀ d ∈ tables_1, d.before a0 Z = true) (hZ : Z.Warmed39 s.vm) (hx : p.tables.exec = Jvm.exec) (hown : s.vm.findClass own = some m.cls) (lk : (Cond.methodLink own index (⟨"com/example/nalog/nalog/OrderCount", "add", "(ILcom/example/nalog/nalog/OrderClass;)V"⟩ : MethodName)).before a0 Z = true) (oq : Addr) (x : Int32) (cc : Value) (fx : Int32) (fc : Value) (Z0 : n0 ≤ h0.size) (r_cc : cc.isRef = true) (Q0 : own_Q Z h0 oq (2 : Int32) fx fc) (gq : n0 ≤ oq) (eT : T.heap = h0) (E_ : Exa Z h0 oq "com/example/nalog/nalog/OrderCount") (hml : c.maxLocals = kml) (hsz : Ls.size = kml) (hd : decode c.code pc = .ok (.invokevirtual index, 3)) (hr : own_rm ({ frames := 0, cells := 0, slots := 0, locals := 0 } : Room) 3 R rest cells slots = true) :
    ∃ v T' L, Stand p l e R s m args below meth c T' (locs ++ L) (cells + 0) (slots + 0) ∧ Qad2 Z oq x cc fx fc h0 n0 v T'.heap L ∧ ∀ t, Steps p.tables e below (T'.setTop (mkF m (pc + 3) Ls (v.toList ++ rest))) t → Steps p.tables e below (T.setTop (mkF m pc Ls (cc :: (.int x) :: (.ref oq) :: rest))) t := by
  obtain ⟨v, T', L, X', hQ, sq⟩ := own_cV (argsL := [(.int x), cc]) (rest := rest) (rmad2 l Z a0 hw [] oq x cc fx fc h0 n0 Z0 r_cc Q0 gq) pd_36 rfl (wd_ hw 50 rfl) (wd_ hw 41 rfl) (wd_ hw 48 rfl) (wd_ hw 47 rfl) (wd_ hw 49 rfl) rfl (wd_ hw 49 rfl) (by decide) hZ hx hown X lk eT E_ hml hsz hd hr
  exact ⟨v, T', L, X', hQ, sq⟩
theorem ef_rmie0 (m : MethodId) (oq : Addr)  : entryFrame m #[(.ref oq)] 1 = mkF m 0 #[.val (.ref oq)] [] := by first | (simp [entryFrame, mkF, argsToLocals, Value.category]; done) | rfl
def Qie0 (Z : State) (oq : Addr) (cn fx : Int32) (fc : Value) (h0 : Heap) (n0 : Nat) (v : Option Value) (h : Heap) (L : List Loc) : Prop := v = some (.int (0 : Int32)) ∧ Fr n0 L ∧ h = h0
theorem rmie0 (l : Launch) (Z : State) (a0 : Array Value) (hw : ∀ d ∈ tables_1, d.before a0 Z = true) (ws : List Jvm.Cond) (oq : Addr) (cn fx : Int32) (fc : Value) (h0 : Heap) (n0 : Nat) (Z0 : n0 ≤ h0.size) (Q0 : own_Q Z h0 oq cn fx fc) (hcn : ¬ cn = 0) :
    own_MF l (⟨"com/example/nalog/nalog/OrderCount", "isEmpty", "()Z"⟩ : MethodName) prog_78_method_4_code 1 (some .boolean) ws ({ frames := 0, cells := 0, slots := 0, locals := 0 } : Room) #[(.ref oq)] Z h0 (Qie0 Z oq cn fx fc h0 n0) := by
  refine MetFree.of_bodySF (plainFor_of_name pn_11) hisR ?_
  intro p e s m args below meth c s₁ Bd hml0 hP hK
  obtain ⟨rfl, hZ, hh⟩ := hP
  have hx := Bd.exec
  have hby := Bd.bytes
  have hlk : meth.locks = false := BodyLoose.notSynchronized Bd
  have hret := Bd.returns
  have hml : c.maxLocals = 1 := hml0
  have hown : s.vm.findClass "com/example/nalog/nalog/OrderCount" = some m.cls := findClass_of_methodNamed Bd.named
  have hnm := (name_of_methodNamed Bd.named Bd.method).1
  have X0 : Stand p l e ({ frames := 0, cells := 0, slots := 0, locals := 0 } : Room) s m #[(.ref oq)] below meth c s₁ [] 0 0 := Stand.of_body Bd
  have e0 : s₁.heap = h0 := by rw [← hh, Bd.state]; rfl
  have N0 := Fr.nil n0
  show oE p e below s 0 0 (Qie0 Z oq cn fx fc h0 n0) (s₁.setTop (entryFrame m #[(.ref oq)] 1))
  refine oS (fun t k => castTop (ef_rmie0 m oq ) k) ?_
  show oE p e below s _ _ _ (s₁.setTop (mkF m 0 #[.val (.ref oq)] []))
  refine oS (fun _ k_ => XS.aloadN X0.here hx rfl (hb hby d7_0) rfl rfl k_) ?_
  obtain ⟨T197, X197, e197, st197⟩ := getF X0 hx hZ hown (host := "") (Or.inl (wd_ hw 51 rfl)) Via.refl e0 Q0.2.1 (g := (mkF m 1 #[.val (.ref oq)] [(.ref oq)])) rfl rfl (hb hby d7_1)
  refine oS (fun _ k_ => st197 _ k_) ?_
  refine oS (fun _ k_ => XS.ifYes X197.here hx rfl (pc0 := 4) (pc' := 11) rfl (hb hby d7_4) rfl (XT.i0_ne_t (hcn : ¬ (cn = 0))) (by decide) (by decide) (XS.iconst X197.here hx rfl (hb hby d7_11) k_)) ?_
  exact own_retN X197 hx (t := .boolean) hret (by simp) hlk (hb hby d7_12) (by decide) (by decide) rfl ⟨rfl, N0, e197⟩
theorem cl_rmie0 (X : Stand p l e R s m args below meth c T locs cells slots) (hw : ∀ d ∈ tables_1, d.before a0 Z = true) (hZ : Z.Warmed39 s.vm) (hx : p.tables.exec = Jvm.exec) (hown : s.vm.findClass own = some m.cls) (lk : (Cond.methodLink own index (⟨"com/example/nalog/nalog/OrderCount", "isEmpty", "()Z"⟩ : MethodName)).before a0 Z = true) (oq : Addr) (cn fx : Int32) (fc : Value) (Z0 : n0 ≤ h0.size) (Q0 : own_Q Z h0 oq cn fx fc) (hcn : ¬ cn = 0) (eT : T.heap = h0) (E_ : Exa Z h0 oq "com/example/nalog/nalog/OrderCount") (N : Fr n0 locs) (hml : c.maxLocals = kml) (hsz : Ls.size = kml) (hd : decode c.code pc = .ok (.invokevirtual index, 3)) (hr : own_rm ({ frames := 0, cells := 0, slots := 0, locals := 0 } : Room) 1 R rest cells slots = true) :
    ∃ T' L', Stand p l e R s m args below meth c T' L' (cells + 0) (slots + 0) ∧ Fr n0 L' ∧ T'.heap = h0 ∧ ∀ t, Steps p.tables e below (T'.setTop (mkF m (pc + 3) Ls ((.int (0 : Int32)) :: rest))) t → Steps p.tables e below (T.setTop (mkF m pc Ls ((.ref oq) :: rest))) t := by
  obtain ⟨v, T', L, X', hQ, sq⟩ := own_cV (argsL := []) (rest := rest) (rmie0 l Z a0 hw [] oq cn fx fc h0 n0 Z0 Q0 hcn) pd_1 rfl (wd_ hw 61 rfl) (wd_ hw 41 rfl) (wd_ hw 59 rfl) (wd_ hw 58 rfl) (wd_ hw 60 rfl) rfl (wd_ hw 60 rfl) (by decide) hZ hx hown X lk eT E_ hml hsz hd hr
  obtain ⟨rfl, Nq, eq_⟩ := hQ
  exact ⟨T', _, X', Fr.app N Nq, eq_, sq⟩
theorem ef_rmie1 (m : MethodId) (oq : Addr)  : entryFrame m #[(.ref oq)] 1 = mkF m 0 #[.val (.ref oq)] [] := by first | (simp [entryFrame, mkF, argsToLocals, Value.category]; done) | rfl
def Qie1 (Z : State) (oq : Addr) (cn fx : Int32) (fc : Value) (h0 : Heap) (n0 : Nat) (v : Option Value) (h : Heap) (L : List Loc) : Prop := v = some (.int (1 : Int32)) ∧ Fr n0 L ∧ h = h0
theorem rmie1 (l : Launch) (Z : State) (a0 : Array Value) (hw : ∀ d ∈ tables_1, d.before a0 Z = true) (ws : List Jvm.Cond) (oq : Addr) (cn fx : Int32) (fc : Value) (h0 : Heap) (n0 : Nat) (Z0 : n0 ≤ h0.size) (Q0 : own_Q Z h0 oq cn fx fc) (hcn : cn = 0) :
    own_MF l (⟨"com/example/nalog/nalog/OrderCount", "isEmpty", "()Z"⟩ : MethodName) prog_78_method_4_code 1 (some .boolean) ws ({ frames := 0, cells := 0, slots := 0, locals := 0 } : Room) #[(.ref oq)] Z h0 (Qie1 Z oq cn fx fc h0 n0) := by
  refine MetFree.of_bodySF (plainFor_of_name pn_11) hisR ?_
  intro p e s m args below meth c s₁ Bd hml0 hP hK
  obtain ⟨rfl, hZ, hh⟩ := hP
  have hx := Bd.exec
  have hby := Bd.bytes
  have hlk : meth.locks = false := BodyLoose.notSynchronized Bd
  have hret := Bd.returns
  have hml : c.maxLocals = 1 := hml0
  have hown : s.vm.findClass "com/example/nalog/nalog/OrderCount" = some m.cls := findClass_of_methodNamed Bd.named
  have hnm := (name_of_methodNamed Bd.named Bd.method).1
  have X0 : Stand p l e ({ frames := 0, cells := 0, slots := 0, locals := 0 } : Room) s m #[(.ref oq)] below meth c s₁ [] 0 0 := Stand.of_body Bd
  have e0 : s₁.heap = h0 := by rw [← hh, Bd.state]; rfl
  have N0 := Fr.nil n0
  show oE p e below s 0 0 (Qie1 Z oq cn fx fc h0 n0) (s₁.setTop (entryFrame m #[(.ref oq)] 1))
  refine oS (fun t k => castTop (ef_rmie1 m oq ) k) ?_
  show oE p e below s _ _ _ (s₁.setTop (mkF m 0 #[.val (.ref oq)] []))
  refine oS (fun _ k_ => XS.aloadN X0.here hx rfl (hb hby d7_0) rfl rfl k_) ?_
  obtain ⟨T198, X198, e198, st198⟩ := getF X0 hx hZ hown (host := "") (Or.inl (wd_ hw 51 rfl)) Via.refl e0 Q0.2.1 (g := (mkF m 1 #[.val (.ref oq)] [(.ref oq)])) rfl rfl (hb hby d7_1)
  refine oS (fun _ k_ => st198 _ k_) ?_
  refine oS (fun _ k_ => XS.ifNo X198.here hx rfl (hb hby d7_4) rfl (XT.i0_ne_f (hcn : cn = 0)) (XS.iconst X198.here hx rfl (hb hby d7_7) (XS.goto X198.here hx rfl (pc0 := 8) (pc' := 12) rfl (hb hby d7_8) (by decide) (by decide) k_))) ?_
  exact own_retN X198 hx (t := .boolean) hret (by simp) hlk (hb hby d7_12) (by decide) (by decide) rfl ⟨rfl, N0, e198⟩
def b_8 := prog_78_method_5_code
theorem d8_0 : decode b_8 0 = .ok (.aload_n 0, 1) := by decide +kernel
theorem d8_1 : decode b_8 1 = .ok (.getfield 20, 3) := by decide +kernel
theorem d8_4 : decode b_8 4 = .ok (.areturn, 1) := by decide +kernel
theorem cl_rmie1 (X : Stand p l e R s m args below meth c T locs cells slots) (hw : ∀ d ∈ tables_1, d.before a0 Z = true) (hZ : Z.Warmed39 s.vm) (hx : p.tables.exec = Jvm.exec) (hown : s.vm.findClass own = some m.cls) (lk : (Cond.methodLink own index (⟨"com/example/nalog/nalog/OrderCount", "isEmpty", "()Z"⟩ : MethodName)).before a0 Z = true) (oq : Addr) (cn fx : Int32) (fc : Value) (Z0 : n0 ≤ h0.size) (Q0 : own_Q Z h0 oq cn fx fc) (hcn : cn = 0) (eT : T.heap = h0) (E_ : Exa Z h0 oq "com/example/nalog/nalog/OrderCount") (N : Fr n0 locs) (hml : c.maxLocals = kml) (hsz : Ls.size = kml) (hd : decode c.code pc = .ok (.invokevirtual index, 3)) (hr : own_rm ({ frames := 0, cells := 0, slots := 0, locals := 0 } : Room) 1 R rest cells slots = true) :
    ∃ T' L', Stand p l e R s m args below meth c T' L' (cells + 0) (slots + 0) ∧ Fr n0 L' ∧ T'.heap = h0 ∧ ∀ t, Steps p.tables e below (T'.setTop (mkF m (pc + 3) Ls ((.int (1 : Int32)) :: rest))) t → Steps p.tables e below (T.setTop (mkF m pc Ls ((.ref oq) :: rest))) t := by
  obtain ⟨v, T', L, X', hQ, sq⟩ := own_cV (argsL := []) (rest := rest) (rmie1 l Z a0 hw [] oq cn fx fc h0 n0 Z0 Q0 hcn) pd_1 rfl (wd_ hw 61 rfl) (wd_ hw 41 rfl) (wd_ hw 59 rfl) (wd_ hw 58 rfl) (wd_ hw 60 rfl) rfl (wd_ hw 60 rfl) (by decide) hZ hx hown X lk eT E_ hml hsz hd hr
  obtain ⟨rfl, Nq, eq_⟩ := hQ
  exact ⟨T', _, X', Fr.app N Nq, eq_, sq⟩
theorem ef_rmfc (m : MethodId) (oq : Addr)  : entryFrame m #[(.ref oq)] 1 = mkF m 0 #[.val (.ref oq)] [] := by first | (simp [entryFrame, mkF, argsToLocals, Value.category]; done) | rfl
def Qfc (Z : State) (oq : Addr) (cn fx : Int32) (fc : Value) (h0 : Heap) (n0 : Nat) (v : Option Value) (h : Heap) (L : List Loc) : Prop := v = some fc ∧ Fr n0 L ∧ h = h0
theorem rmfc (l : Launch) (Z : State) (a0 : Array Value) (hw : ∀ d ∈ tables_1, d.before a0 Z = true) (ws : List Jvm.Cond) (oq : Addr) (cn fx : Int32) (fc : Value) (h0 : Heap) (n0 : Nat) (Z0 : n0 ≤ h0.size) (Q0 : own_Q Z h0 oq cn fx fc) (hfc : fc.isRef = true) :
    own_MF l (⟨"com/example/nalog/nalog/OrderCount", "firstClass", "()Lcom/example/nalog/nalog/OrderClass;"⟩ : MethodName) prog_78_method_5_code 1 (some (.object "com/example/nalog/nalog/OrderClass")) ws ({ frames := 0, cells := 0, slots := 0, locals := 0 } : Room) #[(.ref oq)] Z h0 (Qfc Z oq cn fx fc h0 n0) := by
  refine MetFree.of_bodySF (plainFor_of_name pn_11) hisR ?_
  intro p e s m args below meth c s₁ Bd hml0 hP hK
  obtain ⟨rfl, hZ, hh⟩ := hP
  have hx := Bd.exec
  have hby := Bd.bytes
  have hlk : meth.locks = false := BodyLoose.notSynchronized Bd
  have hret := Bd.returns
  have hml : c.maxLocals = 1 := hml0
  have hown : s.vm.findClass "com/example/nalog/nalog/OrderCount" = some m.cls := findClass_of_methodNamed Bd.named
  have hnm := (name_of_methodNamed Bd.named Bd.method).1
  have X0 : Stand p l e ({ frames := 0, cells := 0, slots := 0, locals := 0 } : Room) s m #[(.ref oq)] below meth c s₁ [] 0 0 := Stand.of_body Bd
  have e0 : s₁.heap = h0 := by rw [← hh, Bd.state]; rfl
  have N0 := Fr.nil n0
  show oE p e below s 0 0 (Qfc Z oq cn fx fc h0 n0) (s₁.setTop (entryFrame m #[(.ref oq)] 1))
  refine oS (fun t k => castTop (ef_rmfc m oq ) k) ?_
  show oE p e below s _ _ _ (s₁.setTop (mkF m 0 #[.val (.ref oq)] []))
  refine oS (fun _ k_ => XS.aloadN X0.here hx rfl (hb hby d8_0) rfl rfl k_) ?_
  obtain ⟨T199, X199, e199, st199⟩ := getF X0 hx hZ hown (host := "") (Or.inl (wd_ hw 55 rfl)) Via.refl e0 Q0.2.2.2 (g := (mkF m 1 #[.val (.ref oq)] [(.ref oq)])) rfl rfl (hb hby d8_1)
  refine oS (fun _ k_ => st199 _ k_) ?_
  exact own_retR X199 hx hret rfl hfc own_narO hlk (hb hby d8_4) (by decide) (by decide) ⟨rfl, N0, e199⟩
def b_48 := prog_76_method_7_code
theorem d48_0 : decode b_48 0 = .ok (.aload_n 0, 1) := by decide +kernel
theorem d48_1 : decode b_48 1 = .ok (.getfield 22, 3) := by decide +kernel
theorem d48_4 : decode b_48 4 = .ok (.ifnonnull 7, 3) := by decide +kernel
theorem d48_7 : decode b_48 7 = .ok (.iconst 1, 1) := by decide +kernel
theorem d48_8 : decode b_48 8 = .ok (.goto 4, 3) := by decide +kernel
theorem d48_11 : decode b_48 11 = .ok (.iconst 0, 1) := by decide +kernel
theorem d48_12 : decode b_48 12 = .ok (.ireturn, 1) := by decide +kernel
theorem pd_37 : parseMethodDescriptor "()Lcom/example/nalog/nalog/OrderClass;" = some ⟨[], some (.object "com/example/nalog/nalog/OrderClass")⟩ := by decide +kernel
theorem cl_rmfc (X : Stand p l e R s m args below meth c T locs cells slots) (hw : ∀ d ∈ tables_1, d.before a0 Z = true) (hZ : Z.Warmed39 s.vm) (hx : p.tables.exec = Jvm.exec) (hown : s.vm.findClass own = some m.cls) (lk : (Cond.methodLink own index (⟨"com/example/nalog/nalog/OrderCount", "firstClass", "()Lcom/example/nalog/nalog/OrderClass;"⟩ : MethodName)).before a0 Z = true) (oq : Addr) (cn fx : Int32) (fc : Value) (Z0 : n0 ≤ h0.size) (Q0 : own_Q Z h0 oq cn fx fc) (hfc : fc.isRef = true) (eT : T.heap = h0) (E_ : Exa Z h0 oq "com/example/nalog/nalog/OrderCount") (N : Fr n0 locs) (hml : c.maxLocals = kml) (hsz : Ls.size = kml) (hd : decode c.code pc = .ok (.invokevirtual index, 3)) (hr : own_rm ({ frames := 0, cells := 0, slots := 0, locals := 0 } : Room) 1 R rest cells slots = true) :
    ∃ T' L', Stand p l e R s m args below meth c T' L' (cells + 0) (slots + 0) ∧ Fr n0 L' ∧ T'.heap = h0 ∧ ∀ t, Steps p.tables e below (T'.setTop (mkF m (pc + 3) Ls (fc :: rest))) t → Steps p.tables e below (T.setTop (mkF m pc Ls ((.ref oq) :: rest))) t := by
  obtain ⟨v, T', L, X', hQ, sq⟩ := own_cV (argsL := []) (rest := rest) (rmfc l Z a0 hw [] oq cn fx fc h0 n0 Z0 Q0 hfc) pd_37 rfl (wd_ hw 66 rfl) (wd_ hw 41 rfl) (wd_ hw 64 rfl) (wd_ hw 63 rfl) (wd_ hw 65 rfl) rfl (wd_ hw 65 rfl) (by decide) hZ hx hown X lk eT E_ hml hsz hd hr
  obtain ⟨rfl, Nq, eq_⟩ := hQ
  exact ⟨T', _, X', Fr.app N Nq, eq_, sq⟩
theorem ef_rmseA (m : MethodId) (oc : Addr)  : entryFrame m #[(.ref oc)] 1 = mkF m 0 #[.val (.ref oc)] [] := by first | (simp [entryFrame, mkF, argsToLocals, Value.category]; done) | rfl
def QseA (Z : State) (oc : Addr) (rr : Addr) (h0 : Heap) (n0 : Nat) (v : Option Value) (h : Heap) (L : List Loc) : Prop := v = some (.int (1 : Int32)) ∧ Fr n0 L ∧ h = h0
theorem rmseA (l : Launch) (Z : State) (a0 : Array Value) (hw : ∀ d ∈ tables_1, d.before a0 Z = true) (ws : List Jvm.Cond) (oc : Addr) (rr : Addr) (h0 : Heap) (n0 : Nat) (Z0 : n0 ≤ h0.size) (A0 : own_A Z h0 oc rr .null) :
    own_MF l (⟨"com/example/nalog/nalog/OrderClass", "isSepa", "()Z"⟩ : MethodName) prog_76_method_7_code 1 (some .boolean) ws ({ frames := 0, cells := 0, slots := 0, locals := 0 } : Room) #[(.ref oc)] Z h0 (QseA Z oc rr h0 n0) := by
  refine MetFree.of_bodySF (plainFor_of_name pn_10) hisR ?_
  intro p e s m args below meth c s₁ Bd hml0 hP hK
  obtain ⟨rfl, hZ, hh⟩ := hP
  have hx := Bd.exec
  have hby := Bd.bytes
  have hlk : meth.locks = false := BodyLoose.notSynchronized Bd
  have hret := Bd.returns
  have hml : c.maxLocals = 1 := hml0
  have hown : s.vm.findClass "com/example/nalog/nalog/OrderClass" = some m.cls := findClass_of_methodNamed Bd.named
  have hnm := (name_of_methodNamed Bd.named Bd.method).1
  have X0 : Stand p l e ({ frames := 0, cells := 0, slots := 0, locals := 0 } : Room) s m #[(.ref oc)] below meth c s₁ [] 0 0 := Stand.of_body Bd
  have e0 : s₁.heap = h0 := by rw [← hh, Bd.state]; rfl
  have N0 := Fr.nil n0
  show oE p e below s 0 0 (QseA Z oc rr h0 n0) (s₁.setTop (entryFrame m #[(.ref oc)] 1))
  refine oS (fun t k => castTop (ef_rmseA m oc ) k) ?_
  show oE p e below s _ _ _ (s₁.setTop (mkF m 0 #[.val (.ref oc)] []))
  refine oS (fun _ k_ => XS.aloadN X0.here hx rfl (hb hby d48_0) rfl rfl k_) ?_
  obtain ⟨T200, X200, e200, st200⟩ := getF X0 hx hZ hown (host := "") (Or.inl (wd_ hw 23 rfl)) Via.refl e0 A0.2.2 (g := (mkF m 1 #[.val (.ref oc)] [(.ref oc)])) rfl rfl (hb hby d48_1)
  refine oS (fun _ k_ => st200 _ k_) ?_
  refine oS (fun _ k_ => XS.ifnonnullNo X200.here hx rfl (hb hby d48_4) rfl (XS.iconst X200.here hx rfl (hb hby d48_7) (XS.goto X200.here hx rfl (pc0 := 8) (pc' := 12) rfl (hb hby d48_8) (by decide) (by decide) k_))) ?_
  exact own_retN X200 hx (t := .boolean) hret (by simp) hlk (hb hby d48_12) (by decide) (by decide) rfl ⟨rfl, N0, e200⟩
theorem cl_rmseA (X : Stand p l e R s m args below meth c T locs cells slots) (hw : ∀ d ∈ tables_1, d.before a0 Z = true) (hZ : Z.Warmed39 s.vm) (hx : p.tables.exec = Jvm.exec) (hown : s.vm.findClass own = some m.cls) (lk : (Cond.methodLink own index (⟨"com/example/nalog/nalog/OrderClass", "isSepa", "()Z"⟩ : MethodName)).before a0 Z = true) (oc : Addr) (rr : Addr) (Z0 : n0 ≤ h0.size) (A0 : own_A Z h0 oc rr .null) (eT : T.heap = h0) (E_ : Exa Z h0 oc "com/example/nalog/nalog/OrderClass") (N : Fr n0 locs) (hml : c.maxLocals = kml) (hsz : Ls.size = kml) (hd : decode c.code pc = .ok (.invokevirtual index, 3)) (hr : own_rm ({ frames := 0, cells := 0, slots := 0, locals := 0 } : Room) 1 R rest cells slots = true) :
    ∃ T' L', Stand p l e R s m args below meth c T' L' (cells + 0) (slots + 0) ∧ Fr n0 L' ∧ T'.heap = h0 ∧ ∀ t, Steps p.tables e below (T'.setTop (mkF m (pc + 3) Ls ((.int (1 : Int32)) :: rest))) t → Steps p.tables e below (T.setTop (mkF m pc Ls ((.ref oc) :: rest))) t := by
  obtain ⟨v, T', L, X', hQ, sq⟩ := own_cV (argsL := []) (rest := rest) (rmseA l Z a0 hw [] oc rr h0 n0 Z0 A0) pd_1 rfl (wd_ hw 268 rfl) (wd_ hw 2 rfl) (wd_ hw 266 rfl) (wd_ hw 265 rfl) (wd_ hw 267 rfl) rfl (wd_ hw 267 rfl) (by decide) hZ hx hown X lk eT E_ hml hsz hd hr
  obtain ⟨rfl, Nq, eq_⟩ := hQ
  exact ⟨T', _, X', Fr.app N Nq, eq_, sq⟩
theorem ef_rmseB (m : MethodId) (oc : Addr)  : entryFrame m #[(.ref oc)] 1 = mkF m 0 #[.val (.ref oc)] [] := by first | (simp [entryFrame, mkF, argsToLocals, Value.category]; done) | rfl
def QseB (Z : State) (oc : Addr) (rr ot : Addr) (h0 : Heap) (n0 : Nat) (v : Option Value) (h : Heap) (L : List Loc) : Prop := v = some (.int (0 : Int32)) ∧ Fr n0 L ∧ h = h0
theorem rmseB (l : Launch) (Z : State) (a0 : Array Value) (hw : ∀ d ∈ tables_1, d.before a0 Z = true) (ws : List Jvm.Cond) (oc : Addr) (rr ot : Addr) (h0 : Heap) (n0 : Nat) (Z0 : n0 ≤ h0.size) (A0 : own_A Z h0 oc rr (.ref ot)) :
    own_MF l (⟨"com/example/nalog/nalog/OrderClass", "isSepa", "()Z"⟩ : MethodName) prog_76_method_7_code 1 (some .boolean) ws ({ frames := 0, cells := 0, slots := 0, locals := 0 } : Room) #[(.ref oc)] Z h0 (QseB Z oc rr ot h0 n0) := by
  refine MetFree.of_bodySF (plainFor_of_name pn_10) hisR ?_
  intro p e s m args below meth c s₁ Bd hml0 hP hK
  obtain ⟨rfl, hZ, hh⟩ := hP
  have hx := Bd.exec
  have hby := Bd.bytes
  have hlk : meth.locks = false := BodyLoose.notSynchronized Bd
  have hret := Bd.returns
  have hml : c.maxLocals = 1 := hml0
  have hown : s.vm.findClass "com/example/nalog/nalog/OrderClass" = some m.cls := findClass_of_methodNamed Bd.named
  have hnm := (name_of_methodNamed Bd.named Bd.method).1
  have X0 : Stand p l e ({ frames := 0, cells := 0, slots := 0, locals := 0 } : Room) s m #[(.ref oc)] below meth c s₁ [] 0 0 := Stand.of_body Bd
  have e0 : s₁.heap = h0 := by rw [← hh, Bd.state]; rfl
  have N0 := Fr.nil n0
  show oE p e below s 0 0 (QseB Z oc rr ot h0 n0) (s₁.setTop (entryFrame m #[(.ref oc)] 1))
  refine oS (fun t k => castTop (ef_rmseB m oc ) k) ?_
  show oE p e below s _ _ _ (s₁.setTop (mkF m 0 #[.val (.ref oc)] []))
  refine oS (fun _ k_ => XS.aloadN X0.here hx rfl (hb hby d48_0) rfl rfl k_) ?_
  obtain ⟨T201, X201, e201, st201⟩ := getF X0 hx hZ hown (host := "") (Or.inl (wd_ hw 23 rfl)) Via.refl e0 A0.2.2 (g := (mkF m 1 #[.val (.ref oc)] [(.ref oc)])) rfl rfl (hb hby d48_1)
  refine oS (fun _ k_ => st201 _ k_) ?_
  refine oS (fun _ k_ => XS.ifnonnullYes X201.here hx rfl (pc0 := 4) (pc' := 11) rfl (hb hby d48_4) rfl (by decide) (by decide) (XS.iconst X201.here hx rfl (hb hby d48_11) k_)) ?_
  exact own_retN X201 hx (t := .boolean) hret (by simp) hlk (hb hby d48_12) (by decide) (by decide) rfl ⟨rfl, N0, e201⟩
theorem cl_rmseB (X : Stand p l e R s m args below meth c T locs cells slots) (hw : ∀ d ∈ tables_1, d.before a0 Z = true) (hZ : Z.Warmed39 s.vm) (hx : p.tables.exec = Jvm.exec) (hown : s.vm.findClass own = some m.cls) (lk : (Cond.methodLink own index (⟨"com/example/nalog/nalog/OrderClass", "isSepa", "()Z"⟩ : MethodName)).before a0 Z = true) (oc : Addr) (rr ot : Addr) (Z0 : n0 ≤ h0.size) (A0 : own_A Z h0 oc rr (.ref ot)) (eT : T.heap = h0) (E_ : Exa Z h0 oc "com/example/nalog/nalog/OrderClass") (N : Fr n0 locs) (hml : c.maxLocals = kml) (hsz : Ls.size = kml) (hd : decode c.code pc = .ok (.invokevirtual index, 3)) (hr : own_rm ({ frames := 0, cells := 0, slots := 0, locals := 0 } : Room) 1 R rest cells slots = true) :
    ∃ T' L', Stand p l e R s m args below meth c T' L' (cells + 0) (slots + 0) ∧ Fr n0 L' ∧ T'.heap = h0 ∧ ∀ t, Steps p.tables e below (T'.setTop (mkF m (pc + 3) Ls ((.int (0 : Int32)) :: rest))) t → Steps p.tables e below (T.setTop (mkF m pc Ls ((.ref oc) :: rest))) t := by
  obtain ⟨v, T', L, X', hQ, sq⟩ := own_cV (argsL := []) (rest := rest) (rmseB l Z a0 hw [] oc rr ot h0 n0 Z0 A0) pd_1 rfl (wd_ hw 268 rfl) (wd_ hw 2 rfl) (wd_ hw 266 rfl) (wd_ hw 265 rfl) (wd_ hw 267 rfl) rfl (wd_ hw 267 rfl) (by decide) hZ hx hown X lk eT E_ hml hsz hd hr
  obtain ⟨rfl, Nq, eq_⟩ := hQ
  exact ⟨T', _, X', Fr.app N Nq, eq_, sq⟩
def own_EL : List (String × Nat) := [("com/example/nalog/nalog/OrderClass", 153), ("com/example/nalog/nalog/OrderClass", 155), ("com/example/nalog/nalog/OrderClass", 160), ("com/example/nalog/nalog/OrderClass", 162), ("com/example/nalog/nalog/OrderCount", 27), ("com/example/nalog/nalog/OrderCount", 36), ("com/example/nalog/nalog/OrderCount", 38), ("com/example/nalog/nalog/OrderCount", 46), ("com/example/nalog/nalog/OrderCount", 51), ("com/example/nalog/nalog/OrderCount", 53), ("com/example/nalog/nalog/OrderCount", 55), ("com/example/nalog/nalog/OrderCountAddPinLaw", 21), ("com/example/nalog/nalog/OrderCountAddPinLaw", 44), ("com/example/nalog/nalog/OrderCountAddPinLaw", 46)]
theorem own_EW {Z : State} {a0 : Array Value} (hw : ∀ d ∈ tables_1, d.before a0 Z = true) : EW Z a0 own_EL := EW.cons (wd_ hw 263 rfl) (by decide) (EW.cons (wd_ hw 306 rfl) (by decide) (EW.cons (wd_ hw 307 rfl) (by decide) (EW.cons (wd_ hw 274 rfl) (by decide) (EW.cons (wd_ hw 92 rfl) (by decide) (EW.cons (wd_ hw 165 rfl) (by decide) (EW.cons (wd_ hw 256 rfl) (by decide) (EW.cons (wd_ hw 293 rfl) (by decide) (EW.cons (wd_ hw 209 rfl) (by decide) (EW.cons (wd_ hw 303 rfl) (by decide) (EW.cons (wd_ hw 304 rfl) (by decide) (EW.cons (wd_ hw 27 rfl) (by decide) (EW.cons (wd_ hw 67 rfl) (by decide) (EW.cons (wd_ hw 68 rfl) (by decide) (EW.nil))))))))))))))
theorem own_wS {Z : State} {a0 : Array Value} (hw : ∀ d ∈ tables_1, d.before a0 Z = true) : ∀ a ∈ Bundle.stringAtoms, a.before a0 Z = true := by
  intro a ha
  simp only [Bundle.stringAtoms, List.mem_cons, List.not_mem_nil, or_false] at ha
  rcases ha with rfl | rfl | rfl | rfl | rfl | rfl | rfl
  · exact (wd_ hw 28 rfl)
  · exact (wd_ hw 29 rfl)
  · exact (wd_ hw 30 rfl)
  · exact (wd_ hw 31 rfl)
  · exact (wd_ hw 32 rfl)
  · exact (wd_ hw 33 rfl)
  · exact (wd_ hw 34 rfl)
/-- from F the invocation ends: it returns, Q holds, the constants are held, the frame is the wide one -/
def oEW (Z : State) (p : Program) (e : Env) (below : List Frame) (s : State) (C S : Nat) (Q : Option Value → Heap → List Loc → Prop) (F : State) : Prop :=
  ∃ s₂ o, Steps p.tables e below F s₂ ∧ s₂.status = .running ∧ Ended s₂ below o ∧ ∃ v L, o = .returned v ∧ Q v s₂.heap L ∧ CHr Z own_EL s.vm s.heap s₂.vm s₂.heap ∧ ReturnedEndW s o s₂ L C S
theorem oW {Z : State} {p : Program} {e : Env} {below : List Frame} {s : State} {C S : Nat} {Q : Option Value → Heap → List Loc → Prop} {F F' : State} (h : ∀ t, Steps p.tables e below F' t → Steps p.tables e below F t) (k : oEW Z p e below s C S Q F') : oEW Z p e below s C S Q F := by
  obtain ⟨s₂, o, st, r⟩ := k
  exact ⟨s₂, o, h _ st, r⟩
section OwnBundles2
variable {Z : State} {h h' h0 hb : Heap} {st sa sb va b x : Addr} {bs ps : List Nat} {ws : List Addr} {vm vmb vm1 : Vm} {n0 : Nat} {s : State} {a0 : Array Value}
/-- a builder of the walk's own: made since the heap had b cells -/
def own_Bw (Z : State) (vm : Vm) (h : Heap) (b : Nat) (sb va : Addr) (ps : List Nat) : Prop :=
  Exa Z h sb "java/lang/StringBuilder" ∧ Fld Z h sb "java/lang/AbstractStringBuilder" "value" "[B" (.ref va) ∧ Fld Z h sb "java/lang/AbstractStringBuilder" "count" "I" (.int (Int32.ofNat ps.length)) ∧ Fld Z h sb "java/lang/AbstractStringBuilder" "coder" "B" (.int 0) ∧
  (∃ js, own_By Z h va (ps ++ js) ∧ (ps ++ js).length ≤ 202) ∧ Exa Z h va "[B" ∧ b ≤ sb ∧ b ≤ va ∧ Safe Z own_EL vm h va
/-- where the walk stands: since its start (h0) and since hb -/
def own_Wk (Z : State) (n0 : Nat) (s : State) (h0 : Heap) (vmb : Vm) (hb : Heap) (vm : Vm) (h : Heap) : Prop :=
  (Old Z n0 h ∧ n0 ≤ h.size) ∧ (n0 ≤ h0.size ∧ h0.size ≤ hb.size) ∧ (∃ k, s.Since vm k ∧ k ≤ h.size) ∧ (CHr Z own_EL s.vm h0 vm h ∧ Keep h0 h []) ∧ CHr Z own_EL vmb hb vm h ∧ Keep hb h []
theorem own_Wk.old (W : own_Wk Z n0 s h0 vmb hb vm h) : Old Z n0 h := W.1.1
theorem own_Wk.n (W : own_Wk Z n0 s h0 vmb hb vm h) : n0 ≤ h.size := W.1.2
theorem own_Wk.K (W : own_Wk Z n0 s h0 vmb hb vm h) : Keep h0 h [] := W.2.2.2.1.2
theorem own_Wk.Kb (W : own_Wk Z n0 s h0 vmb hb vm h) : Keep hb h [] := W.2.2.2.2.2
theorem own_Wk.H (W : own_Wk Z n0 s h0 vmb hb vm h) : CHv Z own_EL vm h := W.2.2.2.1.1.1
theorem own_Wk.keep (W : own_Wk Z n0 s h0 vmb hb vm h) (K : Keep h h' ws) (hs : ∀ x ∈ ws, Safe Z own_EL vm h x) (hq : ∀ x ∈ ws, hb.size ≤ x) : own_Wk Z n0 s h0 vmb hb vm h' := by
  obtain ⟨⟨O, n⟩, ⟨z1, z2⟩, ⟨k, hS, hk⟩, ⟨H, K0⟩, Hb, Kb⟩ := W
  exact ⟨⟨O.keep K fun x q => Nat.le_trans z1 (Nat.le_trans z2 (hq x q)), Nat.le_trans n K.1⟩, ⟨z1, z2⟩, ⟨k, hS, Nat.le_trans hk K.1⟩, ⟨H.trans (CHr.keep K hs H.1), K0.trans K fun x q => Or.inr (Nat.le_trans z2 (hq x q))⟩, Hb.trans (CHr.keep K hs H.1), Kb.trans K fun x q => Or.inr (hq x q)⟩
theorem own_Wk.ext (W : own_Wk Z n0 s h0 vmb hb vm h) (E : Ext h h') : own_Wk Z n0 s h0 vmb hb vm h' := W.keep ((Keep.refl h []).ext E) sf0 all0
theorem own_Wk.later (W : own_Wk Z n0 s h0 vmb hb vm h) (K : Keep h h' []) (C : CHr Z own_EL vm h vm1 h') {k1 : Nat} (hS : s.Since vm1 k1) (hk : k1 ≤ h'.size) : own_Wk Z n0 s h0 vmb hb vm1 h' := by
  obtain ⟨⟨O, n⟩, z, -, ⟨H, K0⟩, Hb, Kb⟩ := W
  exact ⟨⟨O.keep K all0, Nat.le_trans n K.1⟩, z, ⟨k1, hS, hk⟩, ⟨H.trans C, K0.trans K all0⟩, Hb.trans C, Kb.trans K all0⟩
theorem own_Wk.rebase (W : own_Wk Z n0 s h0 vmb hb vm h) : own_Wk Z n0 s h0 vm h vm h := ⟨W.1, ⟨W.2.1.1, W.K.1⟩, W.2.2.1, W.2.2.2.1, CHr.refl W.H, Keep.refl h []⟩
theorem own_Wk.base0 (W : own_Wk Z n0 s h0 vmb hb vm h) : own_Wk Z n0 s h0 s.vm h0 vm h := ⟨W.1, ⟨W.2.1.1, Nat.le_refl _⟩, W.2.2.1, W.2.2.2.1, W.2.2.2.1⟩
theorem own_Bw.keep (B : own_Bw Z vm h b sb va ps) (K : Keep h h' []) (C : CHr Z own_EL vm h vm1 h') : own_Bw Z vm1 h' b sb va ps := by
  obtain ⟨E, V, M, Cd, ⟨js, By, cap⟩, Y, g1, g2, S⟩ := B
  exact ⟨E.keep K, V.keep K nin0, M.keep K nin0, Cd.keep K nin0, ⟨js, By.keep K nin0, cap⟩, Y.keep K, g1, g2, C.safe By.lt S⟩
end OwnBundles2
section OwnRetW
variable {C S : Nat} {Q : Option Value → Heap → List Loc → Prop} {vm vmb : Vm} {hb h : Heap}
theorem own_retRW (hw : ∀ d ∈ tables_1, d.before a0 Z = true) (X : Stand p l e R (s.setVm vm) m args below meth c T locs cells slots) (hZ : Z.Warmed39 vm) (hh : s.heap = h0) (W : own_Wk Z n0 s h0 vmb hb vm h) (eT : T.heap = h) (hx : p.tables.exec = Jvm.exec) {w : Value} {t : FieldType} (hret : meth.sig.returnType = some t) (ht : t.isReference = true) (hw' : w.isRef = true) (hnr : narrow t w = w) (hlk : meth.locks = false) (hd : decode c.code pc = .ok (.areturn, 1)) (hc : cells ≤ C) (hs : slots ≤ S)
    (hQ : Q (some w) h locs) : oEW Z p e below s C S Q (T.setTop (mkF m pc Ls (w :: rest))) := by
  obtain ⟨k, hS, hk⟩ := W.2.2.1
  obtain ⟨fs, hr, hrun, hended, -, hW, hp, hsame⟩ := X.leaveW hS (by rw [eT]; exact hk) (v := some w) (fun h => by rw [hret] at h; cases h) hlk
  have A := CHv.at X hZ (own_EW hw) W.H
  have B := W.2.2.2.1.1.trans A
  rw [← hh] at B
  subst eT
  exact ⟨_, _, retOut X hx hret hnr (Or.inr (Or.inr (Or.inr (Or.inr ⟨rfl, ht, hw'⟩)))) hd hr, hrun, hended, _, _, rfl, hQ, B, ⟨_, rfl⟩, hW, hp, hsame.mono hc hs⟩
theorem own_retNW (hw : ∀ d ∈ tables_1, d.before a0 Z = true) (X : Stand p l e R (s.setVm vm) m args below meth c T locs cells slots) (hZ : Z.Warmed39 vm) (hh : s.heap = h0) (W : own_Wk Z n0 s h0 vmb hb vm h) (eT : T.heap = h) (hx : p.tables.exec = Jvm.exec) {z z' : Int32} {t : FieldType} (hret : meth.sig.returnType = some t) (ht : t = .boolean ∨ t = .byte ∨ t = .char ∨ t = .short) (hlk : meth.locks = false) (hd : decode c.code pc = .ok (.ireturn, 1)) (hc : cells ≤ C) (hs : slots ≤ S)
    (hz : nar t z = z') (hQ : Q (some (.int z')) h locs) : oEW Z p e below s C S Q (T.setTop (mkF m pc Ls (.int z :: rest))) := by
  subst hz
  obtain ⟨k, hS, hk⟩ := W.2.2.1
  obtain ⟨fs, hr, hrun, hended, -, hW, hp, hsame⟩ := X.leaveW hS (by rw [eT]; exact hk) (v := some (.int (nar t z))) (fun h => by rw [hret] at h; cases h) hlk
  have A := CHv.at X hZ (own_EW hw) W.H
  have B := W.2.2.2.1.1.trans A
  rw [← hh] at B
  subst eT
  exact ⟨_, _, retN X hx hret ht hd hr, hrun, hended, _, _, rfl, hQ, B, ⟨_, rfl⟩, hW, hp, hsame.mono hc hs⟩
theorem own_getFR {C' nm d : String} (X : Stand p l e R s m args below meth c T locs cells slots) (hx : p.tables.exec = Jvm.exec) (hZ : Z.Warmed39 s.vm) (hown : s.vm.findClass own = some m.cls) (w : (Cond.fieldRef own index C' nm d).before a0 Z = true) (eT : T.heap = h) {a : Addr} {v : Value} (F : Fld Z h a C' nm d v) {g : JFrame} (hg : g.method = m) (hst : g.stack = .ref a :: rest) (hd : decode c.code g.pc = .ok (.getfield index, 3)) :
    ∀ target, Steps p.tables e below (T.setTop { g with pc := g.pc + 3, stack := v :: rest }) target → Steps p.tables e below (T.setTop g) target := by
  obtain ⟨cell, cf, k, i, f, h1, h2, h3, h4, -, -, h7⟩ := F
  have hT : Z.Warmed39 T.vm := wtrans hZ X.warmed
  have w2 : (Cond.fieldRef own index C' nm d).before a0 (Z.setVm T.vm) = true := Cond.fieldRef_warmed39 hT w
  have ho : (Z.setVm T.vm).vm.findClass own = some m.cls := (X.warmed.alike.findClass _ _).trans hown
  obtain ⟨c', k', i', f', e1, e2⟩ := Cond.fieldRef_spec (s := Z.setVm T.vm) ho w2
  obtain ⟨k'', hi, -⟩ := State.fieldFound?_setVm (s := Z) hT.alike h2
  cases hi.symm.trans e1
  intro target ht
  exact (X.getfieldR hx hg e2 h3 hst (by rw [eT]; exact h1) h4 h7 hd (Steps.refl _)).trans ht
variable {cs : Int32} {fm : Value} {d1 d2 : Addr}
/-- new StringBuilder(); dup; <init> -/
theorem own_wsb (hw : ∀ d ∈ tables_1, d.before a0 Z = true) (hZ : Z.Warmed39 vm) (hx : p.tables.exec = Jvm.exec) (hown : vm.findClass own = some m.cls) (X : Stand p l e R (s.setVm vm) m args below meth c T locs cells slots) {index2 : Nat} (lk : (Cond.classLink own index "java/lang/StringBuilder").before a0 Z = true) (lk2 : (Cond.methodLink own index2 (⟨"java/lang/StringBuilder", "<init>", "()V"⟩ : MethodName)).before a0 Z = true) (Wd : own_Wd Z cs fm d1 d2) (W : own_Wk Z n0 s h0 vmb hb vm h) (eT : T.heap = h) (N : Fr n0 locs) (hml : c.maxLocals = kml) (hsz : Ls.size = kml) (hd : decode c.code pc = .ok (.new index, 3)) (hd2 : decode c.code (pc + 3) = .ok (.dup, 1)) (hd3 : decode c.code (pc + 4) = .ok (.invokespecial index2, 3))
    (hr : (Nat.ble 3 R.frames && Nat.ble ((rest.map fun v => v.category).sum + 57) R.locals && (Nat.ble (cells + 2) R.cells && Nat.ble (slots + 20) R.slots)) = true) :
    ∃ T' L' sb va, Stand p l e R (s.setVm vm) m args below meth c T' L' (cells + 2) (slots + 20) ∧ Fr n0 L' ∧ own_Wk Z n0 s h0 vmb hb vm T'.heap ∧ own_Bw Z vm T'.heap hb.size sb va [] ∧ ∀ t, Steps p.tables e below (T'.setTop (mkF m (pc + 7) Ls (.ref sb :: rest))) t → Steps p.tables e below (T.setTop (mkF m pc Ls rest)) t := by
  simp only [Bool.and_eq_true, Nat.ble_eq] at hr
  obtain ⟨⟨r1, r2⟩, r3, r4⟩ := hr
  obtain ⟨T1, h1, X1, e1, E1, A1, D1, -, st1⟩ := newO X hx hZ hown lk (wd_ hw 75 rfl) (wd_ hw 76 rfl) eT (g := mkF m pc Ls rest) rfl hd (by omega) (by omega)
  have hn : n0 ≤ h.size := W.n
  have W1 := W.ext E1
  have Fv : Fld Z h1 h.size "java/lang/AbstractStringBuilder" "value" "[B" .null := D1 (Or.inl (wd_ hw 89 rfl)) (ty := .array .byte) (by decide)
  have Fn : Fld Z h1 h.size "java/lang/AbstractStringBuilder" "count" "I" (.int 0) := D1 (Or.inl (wd_ hw 117 rfl)) (ty := .int) (by decide)
  have Fc : Fld Z h1 h.size "java/lang/AbstractStringBuilder" "coder" "B" (.int 0) := D1 (Or.inl (wd_ hw 91 rfl)) (ty := .byte) (by decide)
  obtain ⟨v, T2, L2, X2, hQ, st2⟩ := cl_rmsi X1 hw hZ hx hown lk2 h.size cs fm d1 d2 W1.n Wd W1.old A1 Fv Fn Fc hn e1 hml hsz hd3 (Ls := Ls) (rest := .ref h.size :: rest) (by
    simp only [own_rm, Bool.and_eq_true, Nat.ble_eq, List.map_cons, List.sum_cons]
    exact ⟨⟨by omega, by show 1 + _ + _ + _ ≤ _; omega⟩, by omega, by omega⟩)
  obtain ⟨rfl, Nq, Kk, va, hva, Vq, Mq, Cq, Bq, Yq⟩ := hQ
  have hbh : hb.size ≤ h.size := W.Kb.1
  have Sv : Safe Z own_EL vm h1 va := Safe.new hva
  have Ss : Safe Z own_EL vm h1 h.size := Safe.exa hZ.alike A1 (by decide) (by decide)
  have hs : ∀ x ∈ [h.size], Safe Z own_EL vm h1 x := sfS Ss sf0
  refine ⟨T2, _, h.size, va, X2, Fr.app N Nq, W1.keep Kk hs (allS hbh all0), ⟨A1.keep Kk, Vq, Mq, Cq, ⟨List.replicate 16 0, Bq, by decide⟩, Yq, hbh, Nat.le_trans hbh (Nat.le_trans E1.1 hva), Safe.keep Kk hs W1.H Sv⟩, fun t k => ?_⟩
  refine st1 _ ?_
  show Steps p.tables e below (T1.setTop (mkF m (pc + 3) Ls (.ref h.size :: rest))) t
  refine XS.dup X1.here hx rfl hd2 rfl rfl ?_
  exact st2 _ k
/-- append(String) -/
theorem own_wapp (hw : ∀ d ∈ tables_1, d.before a0 Z = true) (hZ : Z.Warmed39 vm) (hx : p.tables.exec = Jvm.exec) (hown : vm.findClass own = some m.cls) (X : Stand p l e R (s.setVm vm) m args below meth c T locs cells slots) (lk : (Cond.methodLink own index (⟨"java/lang/StringBuilder", "append", "(Ljava/lang/String;)Ljava/lang/StringBuilder;"⟩ : MethodName)).before a0 Z = true) (Wd : own_Wd Z cs fm d1 d2) (W : own_Wk Z n0 s h0 vmb hb vm h) (eT : T.heap = h) (N : Fr n0 locs) {st sa sb va : Addr} {bs ps : List Nat} (A : own_St Z h st sa bs) (B : own_Bw Z vm h hb.size sb va ps) (ne1 : sa ≠ va) (hlen : ps.length + bs.length ≤ 100) (hml : c.maxLocals = kml) (hsz : Ls.size = kml) (hd : decode c.code pc = .ok (.invokevirtual index, 3))
    (hr : (Nat.ble 6 R.frames && Nat.ble ((rest.map fun v => v.category).sum + 138) R.locals && (Nat.ble (cells + 1) R.cells && Nat.ble (slots + 420) R.slots)) = true) :
    ∃ T' L' va', Stand p l e R (s.setVm vm) m args below meth c T' L' (cells + 1) (slots + 420) ∧ Fr n0 L' ∧ own_Wk Z n0 s h0 vmb hb vm T'.heap ∧ own_Bw Z vm T'.heap hb.size sb va' (ps ++ bs) ∧ ∀ t, Steps p.tables e below (T'.setTop (mkF m (pc + 3) Ls (.ref sb :: rest))) t → Steps p.tables e below (T.setTop (mkF m pc Ls (.ref st :: .ref sb :: rest))) t := by
  simp only [Bool.and_eq_true, Nat.ble_eq] at hr
  obtain ⟨⟨r1, r2⟩, r3, r4⟩ := hr
  obtain ⟨Es, Vs, Ms, Cs, ⟨js, By, cap⟩, Ys, g1, g2, Sv⟩ := B
  have hn : n0 ≤ hb.size := Nat.le_trans W.2.1.1 W.2.1.2
  obtain ⟨v, T2, L2, X2, hQ, st2⟩ := cl_rmas X hw hZ hx hown lk sb st cs fm d1 d2 sa bs va ps js W.n Wd W.old A.1 A.2.1 A.2.2.1 A.2.2.2 Es Vs Ms Cs By Ys (Nat.le_trans hn g1) (Nat.le_trans hn g2) cap ne1 hlen eT Es hml hsz hd (Ls := Ls) (rest := rest) (by
    simp only [own_rm, Bool.and_eq_true, Nat.ble_eq]; exact ⟨⟨by omega, by omega⟩, by omega, by omega⟩)
  obtain ⟨rfl, Nq, Kk, va', js', wh, -, Vq, Mq, Cq, Bq, Yq, cap'⟩ := hQ
  have hs : ∀ x ∈ [sb, va], Safe Z own_EL vm h x := sfS (Safe.exa hZ.alike Es (by decide) (by decide)) (sfS Sv sf0)
  refine ⟨T2, _, va', X2, Fr.app N Nq, W.keep Kk hs (allS g1 (allS g2 all0)), ⟨Es.keep Kk, Vq, Mq, Cq, ⟨js', Bq, cap'⟩, Yq, g1, ?_, ?_⟩, st2⟩
  · exact wh.elim (fun q => by rw [q]; exact g2) (fun q => Nat.le_trans W.Kb.1 q)
  · exact wh.elim (fun q => by rw [q]; exact Safe.keep Kk hs W.H Sv) (fun q => Safe.keep Kk hs W.H (Safe.new q))
/-- append(int) -/
theorem own_wapi (hw : ∀ d ∈ tables_1, d.before a0 Z = true) (hZ : Z.Warmed39 vm) (hx : p.tables.exec = Jvm.exec) (hown : vm.findClass own = some m.cls) (X : Stand p l e R (s.setVm vm) m args below meth c T locs cells slots) (lk : (Cond.methodLink own index (⟨"java/lang/StringBuilder", "append", "(I)Ljava/lang/StringBuilder;"⟩ : MethodName)).before a0 Z = true) (Wd : own_Wd Z cs fm d1 d2) (W : own_Wk Z n0 s h0 vmb hb vm h) (eT : T.heap = h) (N : Fr n0 locs) {x : Int32} {sb va : Addr} {ps : List Nat} (B : own_Bw Z vm h hb.size sb va ps) (hlen : ps.length + (own_dec x).length ≤ 100) (hml : c.maxLocals = kml) (hsz : Ls.size = kml) (hd : decode c.code pc = .ok (.invokevirtual index, 3))
    (hr : (Nat.ble 6 R.frames && Nat.ble ((rest.map fun v => v.category).sum + 139) R.locals && (Nat.ble (cells + 1) R.cells && Nat.ble (slots + 420) R.slots)) = true) :
    ∃ T' L' va', Stand p l e R (s.setVm vm) m args below meth c T' L' (cells + 1) (slots + 420) ∧ Fr n0 L' ∧ own_Wk Z n0 s h0 vmb hb vm T'.heap ∧ own_Bw Z vm T'.heap hb.size sb va' (ps ++ own_dec x) ∧ ∀ t, Steps p.tables e below (T'.setTop (mkF m (pc + 3) Ls (.ref sb :: rest))) t → Steps p.tables e below (T.setTop (mkF m pc Ls (.int x :: .ref sb :: rest))) t := by
  simp only [Bool.and_eq_true, Nat.ble_eq] at hr
  obtain ⟨⟨r1, r2⟩, r3, r4⟩ := hr
  obtain ⟨Es, Vs, Ms, Cs, ⟨js, By, cap⟩, Ys, g1, g2, Sv⟩ := B
  have hn : n0 ≤ hb.size := Nat.le_trans W.2.1.1 W.2.1.2
  obtain ⟨v, T2, L2, X2, hQ, st2⟩ := cl_rmsn X hw hZ hx hown lk sb x cs fm d1 d2 va ps js W.n Wd W.old Es Vs Ms Cs By Ys (Nat.le_trans hn g1) (Nat.le_trans hn g2) cap hlen eT Es hml hsz hd (Ls := Ls) (rest := rest) (by
    simp only [own_rm, Bool.and_eq_true, Nat.ble_eq]; exact ⟨⟨by omega, by omega⟩, by omega, by omega⟩)
  obtain ⟨rfl, Nq, Kk, va', js', wh, -, Vq, Mq, Cq, Bq, Yq, cap'⟩ := hQ
  have hs : ∀ x ∈ [sb, va], Safe Z own_EL vm h x := sfS (Safe.exa hZ.alike Es (by decide) (by decide)) (sfS Sv sf0)
  refine ⟨T2, _, va', X2, Fr.app N Nq, W.keep Kk hs (allS g1 (allS g2 all0)), ⟨Es.keep Kk, Vq, Mq, Cq, ⟨js', Bq, cap'⟩, Yq, g1, ?_, ?_⟩, st2⟩
  · exact wh.elim (fun q => by rw [q]; exact g2) (fun q => Nat.le_trans W.Kb.1 q)
  · exact wh.elim (fun q => by rw [q]; exact Safe.keep Kk hs W.H Sv) (fun q => Safe.keep Kk hs W.H (Safe.new q))
/-- toString -/
theorem own_wtos (hw : ∀ d ∈ tables_1, d.before a0 Z = true) (hZ : Z.Warmed39 vm) (hx : p.tables.exec = Jvm.exec) (hown : vm.findClass own = some m.cls) (X : Stand p l e R (s.setVm vm) m args below meth c T locs cells slots) (lk : (Cond.methodLink own index (⟨"java/lang/StringBuilder", "toString", "()Ljava/lang/String;"⟩ : MethodName)).before a0 Z = true) (Wd : own_Wd Z cs fm d1 d2) (W : own_Wk Z n0 s h0 vmb hb vm h) (eT : T.heap = h) (N : Fr n0 locs) {sb va : Addr} {ps : List Nat} (B : own_Bw Z vm h hb.size sb va ps) (hml : c.maxLocals = kml) (hsz : Ls.size = kml) (hd : decode c.code pc = .ok (.invokevirtual index, 3))
    (hr : (Nat.ble 6 R.frames && Nat.ble ((rest.map fun v => v.category).sum + 126) R.locals && (Nat.ble (cells + 2) R.cells && Nat.ble (slots + 206) R.slots)) = true) :
    ∃ T' L' st sa, Stand p l e R (s.setVm vm) m args below meth c T' L' (cells + 2) (slots + 206) ∧ Fr n0 L' ∧ own_Wk Z n0 s h0 vmb hb vm T'.heap ∧ (h.size ≤ st ∧ h.size ≤ sa) ∧ own_St Z T'.heap st sa ps ∧ ∀ t, Steps p.tables e below (T'.setTop (mkF m (pc + 3) Ls (.ref st :: rest))) t → Steps p.tables e below (T.setTop (mkF m pc Ls (.ref sb :: rest))) t := by
  simp only [Bool.and_eq_true, Nat.ble_eq] at hr
  obtain ⟨⟨r1, r2⟩, r3, r4⟩ := hr
  obtain ⟨Es, Vs, Ms, Cs, ⟨js, By, cap⟩, Ys, g1, g2, Sv⟩ := B
  have hn : n0 ≤ hb.size := Nat.le_trans W.2.1.1 W.2.1.2
  obtain ⟨v, T2, L2, X2, hQ, st2⟩ := cl_rmts X hw hZ hx hown lk sb cs fm d1 d2 va ps js W.n Wd W.old Es Vs Ms Cs By Ys (Nat.le_trans hn g1) (Nat.le_trans hn g2) cap eT Es hml hsz hd (Ls := Ls) (rest := rest) (by
    simp only [own_rm, Bool.and_eq_true, Nat.ble_eq]; exact ⟨⟨by omega, by omega⟩, by omega, by omega⟩)
  obtain ⟨Nq, Kk, st, sa, rfl, hr1, hr2, Er, Vr, Cr, Br⟩ := hQ
  exact ⟨T2, _, st, sa, X2, Fr.app N Nq, W.keep Kk sf0 all0, ⟨hr1, hr2⟩, ⟨Er, Vr, Cr, Br⟩, st2⟩
/-- ldc of a String constant -/
theorem own_wldc (hw : ∀ d ∈ tables_1, d.before a0 Z = true) (hZ : Z.Warmed39 vm) (hx : p.tables.exec = Jvm.exec) (hown : vm.findClass own = some m.cls) (X : Stand p l e R (s.setVm vm) m args below meth c T locs cells slots) {text : String} (lk : (Cond.stringLink own index text).before a0 Z = true) (hmem : (own, index) ∈ own_EL) (bs : List Nat) (hbs : (∀ c ∈ text.toList, c.toNat < 256) ∧ text.toList.map (fun c => Value.int (Jvm.Lit.byteI c.toNat.toUInt16)) = own_V bs) (hb8 : ∀ b ∈ bs, b < 128) (hbl : bs.length < 2 ^ 31) (n : Nat) (hn : 4 * text.toList.length ≤ n) (hbig : n ≤ 536870912) (W : own_Wk Z n0 s h0 vmb hb vm h) (eT : T.heap = h) (hd : decode c.code pc = .ok (.ldc index, 2))
    (hr : (Nat.ble (cells + 2) R.cells && Nat.ble (slots + (n + 4)) R.slots) = true) :
    ∃ vm1 T' st sa, Z.Warmed39 vm1 ∧ vm1.findClass own = some m.cls ∧ Stand p l e R (s.setVm vm1) m args below meth c T' locs (cells + 2) (slots + (n + 4)) ∧ own_Wk Z n0 s h0 vmb hb vm1 T'.heap ∧ Ext h T'.heap ∧ CHr Z own_EL vm h vm1 T'.heap ∧ own_St Z T'.heap st sa bs ∧ (∀ x, Safe Z own_EL vm1 T'.heap x → st ≠ x ∧ sa ≠ x) ∧ ∀ t, Steps p.tables e below (T'.setTop (mkF m (pc + 2) Ls (.ref st :: rest))) t → Steps p.tables e below (T.setTop (mkF m pc Ls rest)) t := by
  simp only [Bool.and_eq_true, Nat.ble_eq] at hr
  obtain ⟨k0, hS, hk⟩ := W.2.2.1
  obtain ⟨a, T', h', k1, b, kc, X', e', E, hS', hk', hZ', hown', Ea, Fc, Fv, Ab, -, -, C, -, nz, st⟩ := ldcCH X hx hZ hown lk (own_wS hw) eT hS hk (own_EW hw) hmem W.H (vs := own_V bs) (z := Int32.ofNat bs.length) hbs (own_nn hbl) (by rw [own_nc hbl]; exact (own_V_len _).symm) (g := mkF m pc Ls rest) rfl hd hn hbig hr.1 hr.2
  subst e'
  exact ⟨T'.vm, T', a, b, hZ', hown', X', W.later ((Keep.refl h []).ext E) C hS' hk', E, C, ⟨Ea, Fv, Fc, own_By.of Ab rfl hbl hb8⟩, fun x q => ⟨(nz x q).1.symm, (nz x q).2.symm⟩, st⟩
/-- ldc, append -/
theorem own_wla (hw : ∀ d ∈ tables_1, d.before a0 Z = true) (hZ : Z.Warmed39 vm) (hx : p.tables.exec = Jvm.exec) (hown : vm.findClass own = some m.cls) (X : Stand p l e R (s.setVm vm) m args below meth c T locs cells slots) {text : String} (lk : (Cond.stringLink own index text).before a0 Z = true) (hmem : (own, index) ∈ own_EL) (bs : List Nat) (hbs : (∀ c ∈ text.toList, c.toNat < 256) ∧ text.toList.map (fun c => Value.int (Jvm.Lit.byteI c.toNat.toUInt16)) = own_V bs) (hb8 : ∀ b ∈ bs, b < 128) (hbl : bs.length < 2 ^ 31) (n : Nat) (hn : 4 * text.toList.length ≤ n) (hbig : n ≤ 536870912) {index2 : Nat} (lk2 : (Cond.methodLink own index2 (⟨"java/lang/StringBuilder", "append", "(Ljava/lang/String;)Ljava/lang/StringBuilder;"⟩ : MethodName)).before a0 Z = true) (Wd : own_Wd Z cs fm d1 d2) (W : own_Wk Z n0 s h0 vmb hb vm h) (eT : T.heap = h) (N : Fr n0 locs) {sb va : Addr} {ps : List Nat} (B : own_Bw Z vm h hb.size sb va ps) (hlen : ps.length + bs.length ≤ 100) (hml : c.maxLocals = kml) (hsz : Ls.size = kml) (hd : decode c.code pc = .ok (.ldc index, 2)) (hd2 : decode c.code (pc + 2) = .ok (.invokevirtual index2, 3))
    (hr : (Nat.ble 6 R.frames && Nat.ble ((rest.map fun v => v.category).sum + 138) R.locals && (Nat.ble (cells + 3) R.cells && Nat.ble (slots + (n + 424)) R.slots)) = true) :
    ∃ vm1 T' L' va', Z.Warmed39 vm1 ∧ vm1.findClass own = some m.cls ∧ Stand p l e R (s.setVm vm1) m args below meth c T' L' (cells + 3) (slots + (n + 424)) ∧ Fr n0 L' ∧ own_Wk Z n0 s h0 vmb hb vm1 T'.heap ∧ own_Bw Z vm1 T'.heap hb.size sb va' (ps ++ bs) ∧ ∀ t, Steps p.tables e below (T'.setTop (mkF m (pc + 5) Ls (.ref sb :: rest))) t → Steps p.tables e below (T.setTop (mkF m pc Ls (.ref sb :: rest))) t := by
  simp only [Bool.and_eq_true, Nat.ble_eq] at hr
  obtain ⟨⟨r1, r2⟩, r3, r4⟩ := hr
  obtain ⟨vm1, T1, st, sa, hZ1, hown1, X1, W1, E1, C1, A1, nz, st1⟩ := own_wldc hw hZ hx hown X lk hmem bs hbs hb8 hbl n hn hbig W eT hd (Ls := Ls) (rest := .ref sb :: rest) (by
    simp only [Bool.and_eq_true, Nat.ble_eq]; exact ⟨by omega, by omega⟩)
  have B1 := B.keep ((Keep.refl h []).ext E1) C1
  obtain ⟨T2, L2, va', X2, N2, W2, B2, st2⟩ := own_wapp hw hZ1 hx hown1 X1 lk2 Wd W1 rfl N A1 B1 (nz _ B1.2.2.2.2.2.2.2.2).2 hlen hml hsz hd2 (Ls := Ls) (rest := rest) (by
    simp only [Bool.and_eq_true, Nat.ble_eq]; exact ⟨⟨r1, r2⟩, by omega, by omega⟩)
  refine ⟨vm1, T2, L2, va', hZ1, hown1, ?_, N2, W2, B2, fun t k => st1 _ (st2 _ k)⟩
  rw [show cells + 3 = cells + 2 + 1 from rfl, show slots + (n + 424) = slots + (n + 4) + 420 from by omega]
  exact X2
end OwnRetW

def b_47 := prog_76_method_22_code
theorem d47_0 : decode b_47 0 = .ok (.aload_n 0, 1) := by decide +kernel
theorem d47_1 : decode b_47 1 = .ok (.getfield 9, 3) := by decide +kernel
theorem d47_4 : decode b_47 4 = .ok (.getstatic 51, 3) := by decide +kernel
theorem d47_7 : decode b_47 7 = .ok (.if_acmp .ne 8, 3) := by decide +kernel
theorem d47_10 : decode b_47 10 = .ok (.ldc 153, 2) := by decide +kernel
theorem d47_12 : decode b_47 12 = .ok (.goto 5, 3) := by decide +kernel
theorem d47_15 : decode b_47 15 = .ok (.ldc 155, 2) := by decide +kernel
theorem d47_17 : decode b_47 17 = .ok (.astore_n 1, 1) := by decide +kernel
theorem d47_18 : decode b_47 18 = .ok (.aload_n 0, 1) := by decide +kernel
theorem d47_19 : decode b_47 19 = .ok (.invokevirtual 100, 3) := by decide +kernel
theorem d47_22 : decode b_47 22 = .ok (.ifCond .eq 35, 3) := by decide +kernel
theorem d47_25 : decode b_47 25 = .ok (.new 74, 3) := by decide +kernel
theorem d47_28 : decode b_47 28 = .ok (.dup, 1) := by decide +kernel
theorem d47_29 : decode b_47 29 = .ok (.invokespecial 76, 3) := by decide +kernel
theorem d47_32 : decode b_47 32 = .ok (.aload_n 1, 1) := by decide +kernel
theorem d47_33 : decode b_47 33 = .ok (.invokevirtual 79, 3) := by decide +kernel
theorem d47_36 : decode b_47 36 = .ok (.aload_n 0, 1) := by decide +kernel
theorem d47_37 : decode b_47 37 = .ok (.getfield 9, 3) := by decide +kernel
theorem d47_40 : decode b_47 40 = .ok (.getfield 157, 3) := by decide +kernel
theorem d47_43 : decode b_47 43 = .ok (.invokevirtual 79, 3) := by decide +kernel
theorem d47_46 : decode b_47 46 = .ok (.ldc 160, 2) := by decide +kernel
theorem d47_48 : decode b_47 48 = .ok (.invokevirtual 79, 3) := by decide +kernel
theorem d47_51 : decode b_47 51 = .ok (.invokevirtual 83, 3) := by decide +kernel
theorem d47_54 : decode b_47 54 = .ok (.goto 39, 3) := by decide +kernel
theorem d47_57 : decode b_47 57 = .ok (.new 74, 3) := by decide +kernel
theorem d47_60 : decode b_47 60 = .ok (.dup, 1) := by decide +kernel
theorem d47_61 : decode b_47 61 = .ok (.invokespecial 76, 3) := by decide +kernel
theorem d47_64 : decode b_47 64 = .ok (.aload_n 1, 1) := by decide +kernel
theorem d47_65 : decode b_47 65 = .ok (.invokevirtual 79, 3) := by decide +kernel
theorem d47_68 : decode b_47 68 = .ok (.aload_n 0, 1) := by decide +kernel
theorem d47_69 : decode b_47 69 = .ok (.getfield 9, 3) := by decide +kernel
theorem d47_72 : decode b_47 72 = .ok (.getfield 157, 3) := by decide +kernel
theorem d47_75 : decode b_47 75 = .ok (.invokevirtual 79, 3) := by decide +kernel
theorem d47_78 : decode b_47 78 = .ok (.ldc 162, 2) := by decide +kernel
theorem d47_80 : decode b_47 80 = .ok (.invokevirtual 79, 3) := by decide +kernel
theorem d47_83 : decode b_47 83 = .ok (.aload_n 0, 1) := by decide +kernel
theorem d47_84 : decode b_47 84 = .ok (.getfield 22, 3) := by decide +kernel
theorem d47_87 : decode b_47 87 = .ok (.invokevirtual 79, 3) := by decide +kernel
theorem d47_90 : decode b_47 90 = .ok (.invokevirtual 83, 3) := by decide +kernel
theorem d47_93 : decode b_47 93 = .ok (.areturn, 1) := by decide +kernel
theorem ef_rmodA (m : MethodId) (oc : Addr)  : entryFrame m #[(.ref oc)] 2 = mkF m 0 #[.val (.ref oc), .unset] [] := by first | (simp [entryFrame, mkF, argsToLocals, Value.category]; done) | rfl
def Qod (Z : State) (oc : Addr) (cs : Int32) (fm : Value) (d1 d2 : Addr) (rn ri wn wna wi wia : Addr) (txt : List Nat) (h0 : Heap) (n0 : Nat) (v : Option Value) (h : Heap) (L : List Loc) : Prop := Fr n0 L ∧ Keep h0 h [] ∧ ∃ st sa, v = some (.ref st) ∧ h0.size ≤ st ∧ h0.size ≤ sa ∧ own_St Z h st sa txt
theorem rmodA (l : Launch) (Z : State) (a0 : Array Value) (hw : ∀ d ∈ tables_1, d.before a0 Z = true) (ws : List Jvm.Cond) (oc : Addr) (cs : Int32) (fm : Value) (d1 d2 : Addr) (rn ri wn wna wi wia : Addr) (txt : List Nat) (h0 : Heap) (n0 : Nat) (Z0 : n0 ≤ h0.size) (Wd : own_Wd Z cs fm d1 d2) (OZ : Old Z n0 h0) (Rw : own_Rw Z rn ri wn wna wi wia) (A0 : own_A Z h0 oc rn .null) (htx : txt = [97, 32, 110, 97, 116, 105, 111, 110, 97, 108, 32, 83, 69, 80, 65, 32, 111, 114, 100, 101, 114]) :
    MetFree l (⟨"com/example/nalog/nalog/OrderClass", "describe", "()Ljava/lang/String;"⟩ : MethodName) (head1 (Jvm.Cond.code (⟨"com/example/nalog/nalog/OrderClass", "describe", "()Ljava/lang/String;"⟩ : MethodName) prog_76_method_22_code 2 (some (.object "java/lang/String")) :: ws) ({ frames := 6, cells := 12, slots := 2100, locals := 140 } : Room)) (fun a U => a = #[(.ref oc)] ∧ Z.Warmed39 U.vm ∧ U.heap = h0 ∧ CHv Z own_EL U.vm h0) (fun _ _ _ _ _ => True) (fun _ U o U' => ∃ v L, o = .returned v ∧ Qod Z oc cs fm d1 d2 rn ri wn wna wi wia txt h0 n0 v U'.heap L ∧ CHr Z own_EL U.vm U.heap U'.vm U'.heap ∧ ReturnedEndW U o U' L ({ frames := 6, cells := 12, slots := 2100, locals := 140 } : Room).cells ({ frames := 6, cells := 12, slots := 2100, locals := 140 } : Room).slots) := by
  refine MetFree.of_bodySF (plainFor_of_name pn_10) hisR ?_
  intro p e s m args below meth c s₁ Bd hml0 hP hK
  obtain ⟨rfl, hZ, hh, hCH⟩ := hP
  have hx := Bd.exec
  have hby := Bd.bytes
  have hlk : meth.locks = false := BodyLoose.notSynchronized Bd
  have hret := Bd.returns
  have hml : c.maxLocals = 2 := hml0
  have hown : s.vm.findClass "com/example/nalog/nalog/OrderClass" = some m.cls := findClass_of_methodNamed Bd.named
  have hnm := (name_of_methodNamed Bd.named Bd.method).1
  have X0 : Stand p l e ({ frames := 6, cells := 12, slots := 2100, locals := 140 } : Room) s m #[(.ref oc)] below meth c s₁ [] 0 0 := Stand.of_body Bd
  have e0 : s₁.heap = h0 := by rw [← hh, Bd.state]; rfl
  have N0 := Fr.nil n0
  have X0 : Stand p l e ({ frames := 6, cells := 12, slots := 2100, locals := 140 } : Room) (s.setVm s.vm) m #[(.ref oc)] below meth c s₁ [] 0 0 := X0
  have W0 : own_Wk Z n0 s h0 s.vm h0 s.vm h0 := ⟨⟨OZ, Z0⟩, ⟨Z0, Nat.le_refl _⟩, ⟨0, (State.WarmedH.refl s).since 0, Nat.zero_le _⟩, ⟨CHr.refl hCH, Keep.refl h0 []⟩, CHr.refl hCH, Keep.refl h0 []⟩
  show oEW Z p e below s 12 2100 (Qod Z oc cs fm d1 d2 rn ri wn wna wi wia txt h0 n0) (s₁.setTop (entryFrame m #[(.ref oc)] 2))
  refine oW (fun t k => castTop (ef_rmodA m oc ) k) ?_
  show oEW Z p e below s _ _ _ (s₁.setTop (mkF m 0 #[.val (.ref oc), .unset] []))
  refine oW (fun _ k_ => XS.aloadN X0.here hx rfl (hb hby d47_0) rfl rfl k_) ?_
  obtain ⟨T202, X202, e202, st202⟩ := getF X0 hx hZ hown (host := "") (Or.inl (wd_ hw 17 rfl)) Via.refl e0 (A0.keep W0.K).2.1 (g := (mkF m 1 #[.val (.ref oc), .unset] [(.ref oc)])) rfl rfl (hb hby d47_1)
  refine oW (fun _ k_ => st202 _ k_) ?_
  obtain ⟨T203, X203, e203, st203⟩ := getS2 X202 hx hZ hown (host := "") (Or.inl (wd_ hw 262 rfl)) Via.refl e202 (Sta.ext W0.old.2 Rw.2.1) (g := (mkF m 4 #[.val (.ref oc), .unset] [(.ref rn)])) rfl (hb hby d47_4)
  refine oW (fun _ k_ => st203 _ k_) ?_
  refine oW (fun _ k_ => Jvm.RoadKit.acmp (g := (mkF m 7 #[.val (.ref oc), .unset] [(.ref ri), (.ref rn)])) X203 hx rfl rfl rfl (pc0 := 7) (pc' := 15) (same := false) rfl (hb hby d47_7) rfl (decide_eq_false fun q => Rw.2.2.1 (Value.ref.inj q)) (by decide) (by decide) k_) ?_
  obtain ⟨vm204, T204, r204, ra204, hZ, hown, X204, W204, E204, C204, R204, nz204, st204⟩ := own_wldc hw hZ hx hown X203 (wd_ hw 306 rfl) (List.mem_of_getElem? (i := 1) rfl) [97, 32] ⟨by decide, rfl⟩ (by decide) (by decide) 8 (by decide) (by decide) W0 e203 (hb hby d47_15) (Ls := #[.val (.ref oc), .unset]) (rest := []) rfl
  refine oW (fun _ k_ => st204 _ k_) ?_
  refine oW (fun _ k_ => XS.astoreN X204.here hx rfl (hb hby d47_17) rfl rfl (l' := #[.val (.ref oc), .val (.ref r204)]) rfl (XS.aloadN X204.here hx rfl (hb hby d47_18) rfl rfl k_)) ?_
  obtain ⟨T205, L205, X205, N205, e205, st205⟩ := cl_rmseA X204 hw hZ hx hown (wd_ hw 264 rfl) oc rn W204.n (A0.keep W204.K) rfl (A0.keep W204.K).1 N0 hml rfl (hb hby d47_19) (Ls := #[.val (.ref oc), .val (.ref r204)]) (rest := []) rfl
  refine oW (fun _ k_ => st205 _ k_) ?_
  refine oW (fun _ k_ => XS.ifNo X205.here hx rfl (hb hby d47_22) rfl (XT.i0_eq_f (by decide : ¬ ((1 : Int32) = 0))) k_) ?_
  have W206 := W204.rebase
  obtain ⟨T207, L207, sb207, va207, X207, N207, W207, B207, st207⟩ := own_wsb hw hZ hx hown X205 (wd_ hw 269 rfl) (wd_ hw 270 rfl) Wd W206 e205 N205 hml rfl (hb hby d47_25) (hb hby d47_28) (hb hby d47_29) (Ls := #[.val (.ref oc), .val (.ref r204)]) (rest := []) rfl
  refine oW (fun _ k_ => st207 _ k_) ?_
  refine oW (fun _ k_ => XS.aloadN X207.here hx rfl (hb hby d47_32) rfl rfl k_) ?_
  obtain ⟨T208, L208, va208, X208, N208, W208, B208, st208⟩ := own_wapp hw hZ hx hown X207 (wd_ hw 271 rfl) Wd W207 rfl N207 (R204.keep W207.Kb) B207 (Nat.ne_of_lt (Nat.lt_of_lt_of_le R204.2.2.2.lt B207.2.2.2.2.2.2.2.1)) (by simp only [List.length_append, List.length_cons, List.length_nil]; omega) hml rfl (hb hby d47_33) (Ls := #[.val (.ref oc), .val (.ref r204)]) (rest := []) rfl
  refine oW (fun _ k_ => st208 _ k_) ?_
  refine oW (fun _ k_ => XS.aloadN X208.here hx rfl (hb hby d47_36) rfl rfl k_) ?_
  obtain ⟨T209, X209, e209, st209⟩ := getF X208 hx hZ hown (host := "") (Or.inl (wd_ hw 17 rfl)) Via.refl rfl (A0.keep W208.K).2.1 (g := (mkF m 37 #[.val (.ref oc), .val (.ref r204)] [(.ref oc), (.ref sb207)])) rfl rfl (hb hby d47_37)
  refine oW (fun _ k_ => st209 _ k_) ?_
  refine oW (fun _ k_ => own_getFR X209 hx hZ hown (wd_ hw 272 rfl) e209 ((Rw.2.2.2.1.1).ext W208.old.2) (g := (mkF m 40 #[.val (.ref oc), .val (.ref r204)] [(.ref rn), (.ref sb207)])) rfl rfl (hb hby d47_40) _ k_) ?_
  obtain ⟨T210, L210, va210, X210, N210, W210, B210, st210⟩ := own_wapp hw hZ hx hown X209 (wd_ hw 271 rfl) Wd W208 e209 N208 ((Rw.2.2.2.1.2).ext W208.old.2) B208 (W208.old.ne Rw.2.2.2.1.2.2.2.2.lt (Nat.le_trans (Nat.le_trans W208.2.1.1 W208.2.1.2) B208.2.2.2.2.2.2.2.1)) (by simp only [List.length_append, List.length_cons, List.length_nil]; omega) hml rfl (hb hby d47_43) (Ls := #[.val (.ref oc), .val (.ref r204)]) (rest := []) rfl
  refine oW (fun _ k_ => st210 _ k_) ?_
  obtain ⟨vm211, T211, L211, va211, hZ, hown, X211, N211, W211, B211, st211⟩ := own_wla hw hZ hx hown X210 (wd_ hw 307 rfl) (List.mem_of_getElem? (i := 2) rfl) [32, 83, 69, 80, 65, 32, 111, 114, 100, 101, 114] ⟨by decide, rfl⟩ (by decide) (by decide) 44 (by decide) (by decide) (wd_ hw 271 rfl) Wd W210 rfl N210 B210 (by simp only [List.length_append, List.length_cons, List.length_nil]; omega) hml rfl (hb hby d47_46) (hb hby d47_48) (Ls := #[.val (.ref oc), .val (.ref r204)]) (rest := []) rfl
  refine oW (fun _ k_ => st211 _ k_) ?_
  obtain ⟨T212, L212, r212, ra212, X212, N212, W212, hr212, R212, st212⟩ := own_wtos hw hZ hx hown X211 (wd_ hw 292 rfl) Wd W211 rfl N211 B211 hml rfl (hb hby d47_51) (Ls := #[.val (.ref oc), .val (.ref r204)]) (rest := []) rfl
  refine oW (fun _ k_ => st212 _ k_) ?_
  refine oW (fun _ k_ => XS.goto X212.here hx rfl (pc0 := 54) (pc' := 93) rfl (hb hby d47_54) (by decide) (by decide) k_) ?_
  exact own_retRW hw X212 hZ hh W212 rfl hx hret rfl rfl rfl hlk (hb hby d47_93) (by decide) (by decide) ⟨N212, W212.K, _, _, rfl, Nat.le_trans W211.K.1 hr212.1, Nat.le_trans W211.K.1 hr212.2, R212.cast (by rw [htx]; rfl)⟩
theorem ef_rmodB (m : MethodId) (oc : Addr)  : entryFrame m #[(.ref oc)] 2 = mkF m 0 #[.val (.ref oc), .unset] [] := by first | (simp [entryFrame, mkF, argsToLocals, Value.category]; done) | rfl
theorem rmodB (l : Launch) (Z : State) (a0 : Array Value) (hw : ∀ d ∈ tables_1, d.before a0 Z = true) (ws : List Jvm.Cond) (oc : Addr) (cs : Int32) (fm : Value) (d1 d2 : Addr) (rn ri wn wna wi wia : Addr) (txt : List Nat) (h0 : Heap) (n0 : Nat) (Z0 : n0 ≤ h0.size) (Wd : own_Wd Z cs fm d1 d2) (OZ : Old Z n0 h0) (Rw : own_Rw Z rn ri wn wna wi wia) (A1 : ∃ ot ota, own_A Z h0 oc ri (.ref ot) ∧ own_St Z h0 ot ota [98]) (htx : txt = [97, 110, 32, 105, 110, 116, 101, 114, 110, 97, 116, 105, 111, 110, 97, 108, 32, 110, 111, 110, 45, 83, 69, 80, 65, 32, 111, 114, 100, 101, 114, 44, 32, 97, 115, 32, 98]) :
    MetFree l (⟨"com/example/nalog/nalog/OrderClass", "describe", "()Ljava/lang/String;"⟩ : MethodName) (head1 (Jvm.Cond.code (⟨"com/example/nalog/nalog/OrderClass", "describe", "()Ljava/lang/String;"⟩ : MethodName) prog_76_method_22_code 2 (some (.object "java/lang/String")) :: ws) ({ frames := 6, cells := 12, slots := 2100, locals := 140 } : Room)) (fun a U => a = #[(.ref oc)] ∧ Z.Warmed39 U.vm ∧ U.heap = h0 ∧ CHv Z own_EL U.vm h0) (fun _ _ _ _ _ => True) (fun _ U o U' => ∃ v L, o = .returned v ∧ Qod Z oc cs fm d1 d2 rn ri wn wna wi wia txt h0 n0 v U'.heap L ∧ CHr Z own_EL U.vm U.heap U'.vm U'.heap ∧ ReturnedEndW U o U' L ({ frames := 6, cells := 12, slots := 2100, locals := 140 } : Room).cells ({ frames := 6, cells := 12, slots := 2100, locals := 140 } : Room).slots) := by
  refine MetFree.of_bodySF (plainFor_of_name pn_10) hisR ?_
  intro p e s m args below meth c s₁ Bd hml0 hP hK
  obtain ⟨rfl, hZ, hh, hCH⟩ := hP
  have hx := Bd.exec
  have hby := Bd.bytes
  have hlk : meth.locks = false := BodyLoose.notSynchronized Bd
  have hret := Bd.returns
  have hml : c.maxLocals = 2 := hml0
  have hown : s.vm.findClass "com/example/nalog/nalog/OrderClass" = some m.cls := findClass_of_methodNamed Bd.named
  have hnm := (name_of_methodNamed Bd.named Bd.method).1
  have X0 : Stand p l e ({ frames := 6, cells := 12, slots := 2100, locals := 140 } : Room) s m #[(.ref oc)] below meth c s₁ [] 0 0 := Stand.of_body Bd
  have e0 : s₁.heap = h0 := by rw [← hh, Bd.state]; rfl
  have N0 := Fr.nil n0
  have X0 : Stand p l e ({ frames := 6, cells := 12, slots := 2100, locals := 140 } : Room) (s.setVm s.vm) m #[(.ref oc)] below meth c s₁ [] 0 0 := X0
  have W0 : own_Wk Z n0 s h0 s.vm h0 s.vm h0 := ⟨⟨OZ, Z0⟩, ⟨Z0, Nat.le_refl _⟩, ⟨0, (State.WarmedH.refl s).since 0, Nat.zero_le _⟩, ⟨CHr.refl hCH, Keep.refl h0 []⟩, CHr.refl hCH, Keep.refl h0 []⟩
  show oEW Z p e below s 12 2100 (Qod Z oc cs fm d1 d2 rn ri wn wna wi wia txt h0 n0) (s₁.setTop (entryFrame m #[(.ref oc)] 2))
  refine oW (fun t k => castTop (ef_rmodB m oc ) k) ?_
  show oEW Z p e below s _ _ _ (s₁.setTop (mkF m 0 #[.val (.ref oc), .unset] []))
  obtain ⟨ot, ota, A0, S0⟩ := A1
  refine oW (fun _ k_ => XS.aloadN X0.here hx rfl (hb hby d47_0) rfl rfl k_) ?_
  obtain ⟨T213, X213, e213, st213⟩ := getF X0 hx hZ hown (host := "") (Or.inl (wd_ hw 17 rfl)) Via.refl e0 (A0.keep W0.K).2.1 (g := (mkF m 1 #[.val (.ref oc), .unset] [(.ref oc)])) rfl rfl (hb hby d47_1)
  refine oW (fun _ k_ => st213 _ k_) ?_
  obtain ⟨T214, X214, e214, st214⟩ := getS2 X213 hx hZ hown (host := "") (Or.inl (wd_ hw 262 rfl)) Via.refl e213 (Sta.ext W0.old.2 Rw.2.1) (g := (mkF m 4 #[.val (.ref oc), .unset] [(.ref ri)])) rfl (hb hby d47_4)
  refine oW (fun _ k_ => st214 _ k_) ?_
  refine oW (fun _ k_ => Jvm.RoadKit.acmp (g := (mkF m 7 #[.val (.ref oc), .unset] [(.ref ri), (.ref ri)])) X214 hx rfl rfl rfl (pc0 := 7) (pc' := 10) (same := true) rfl (hb hby d47_7) rfl (decide_eq_true rfl) (by decide) (by decide) k_) ?_
  obtain ⟨vm215, T215, r215, ra215, hZ, hown, X215, W215, E215, C215, R215, nz215, st215⟩ := own_wldc hw hZ hx hown X214 (wd_ hw 263 rfl) (List.mem_of_getElem? (i := 0) rfl) [97, 110, 32] ⟨by decide, rfl⟩ (by decide) (by decide) 12 (by decide) (by decide) W0 e214 (hb hby d47_10) (Ls := #[.val (.ref oc), .unset]) (rest := []) rfl
  refine oW (fun _ k_ => st215 _ k_) ?_
  refine oW (fun _ k_ => XS.goto X215.here hx rfl (pc0 := 12) (pc' := 17) rfl (hb hby d47_12) (by decide) (by decide) (XS.astoreN X215.here hx rfl (hb hby d47_17) rfl rfl (l' := #[.val (.ref oc), .val (.ref r215)]) rfl (XS.aloadN X215.here hx rfl (hb hby d47_18) rfl rfl k_))) ?_
  obtain ⟨T216, L216, X216, N216, e216, st216⟩ := cl_rmseB X215 hw hZ hx hown (wd_ hw 264 rfl) oc ri ot W215.n (A0.keep W215.K) rfl (A0.keep W215.K).1 N0 hml rfl (hb hby d47_19) (Ls := #[.val (.ref oc), .val (.ref r215)]) (rest := []) rfl
  refine oW (fun _ k_ => st216 _ k_) ?_
  refine oW (fun _ k_ => XS.ifYes X216.here hx rfl (pc0 := 22) (pc' := 57) rfl (hb hby d47_22) rfl (XT.i0_eq_t (by decide : (0 : Int32) = 0)) (by decide) (by decide) k_) ?_
  have W217 := W215.rebase
  obtain ⟨T218, L218, sb218, va218, X218, N218, W218, B218, st218⟩ := own_wsb hw hZ hx hown X216 (wd_ hw 269 rfl) (wd_ hw 270 rfl) Wd W217 e216 N216 hml rfl (hb hby d47_57) (hb hby d47_60) (hb hby d47_61) (Ls := #[.val (.ref oc), .val (.ref r215)]) (rest := []) rfl
  refine oW (fun _ k_ => st218 _ k_) ?_
  refine oW (fun _ k_ => XS.aloadN X218.here hx rfl (hb hby d47_64) rfl rfl k_) ?_
  obtain ⟨T219, L219, va219, X219, N219, W219, B219, st219⟩ := own_wapp hw hZ hx hown X218 (wd_ hw 271 rfl) Wd W218 rfl N218 (R215.keep W218.Kb) B218 (Nat.ne_of_lt (Nat.lt_of_lt_of_le R215.2.2.2.lt B218.2.2.2.2.2.2.2.1)) (by simp only [List.length_append, List.length_cons, List.length_nil]; omega) hml rfl (hb hby d47_65) (Ls := #[.val (.ref oc), .val (.ref r215)]) (rest := []) rfl
  refine oW (fun _ k_ => st219 _ k_) ?_
  refine oW (fun _ k_ => XS.aloadN X219.here hx rfl (hb hby d47_68) rfl rfl k_) ?_
  obtain ⟨T220, X220, e220, st220⟩ := getF X219 hx hZ hown (host := "") (Or.inl (wd_ hw 17 rfl)) Via.refl rfl (A0.keep W219.K).2.1 (g := (mkF m 69 #[.val (.ref oc), .val (.ref r215)] [(.ref oc), (.ref sb218)])) rfl rfl (hb hby d47_69)
  refine oW (fun _ k_ => st220 _ k_) ?_
  refine oW (fun _ k_ => own_getFR X220 hx hZ hown (wd_ hw 272 rfl) e220 ((Rw.2.2.2.2.1).ext W219.old.2) (g := (mkF m 72 #[.val (.ref oc), .val (.ref r215)] [(.ref ri), (.ref sb218)])) rfl rfl (hb hby d47_72) _ k_) ?_
  obtain ⟨T221, L221, va221, X221, N221, W221, B221, st221⟩ := own_wapp hw hZ hx hown X220 (wd_ hw 271 rfl) Wd W219 e220 N219 ((Rw.2.2.2.2.2).ext W219.old.2) B219 (W219.old.ne Rw.2.2.2.2.2.2.2.2.lt (Nat.le_trans (Nat.le_trans W219.2.1.1 W219.2.1.2) B219.2.2.2.2.2.2.2.1)) (by simp only [List.length_append, List.length_cons, List.length_nil]; omega) hml rfl (hb hby d47_75) (Ls := #[.val (.ref oc), .val (.ref r215)]) (rest := []) rfl
  refine oW (fun _ k_ => st221 _ k_) ?_
  obtain ⟨vm222, T222, L222, va222, hZ, hown, X222, N222, W222, B222, st222⟩ := own_wla hw hZ hx hown X221 (wd_ hw 274 rfl) (List.mem_of_getElem? (i := 3) rfl) [32, 110, 111, 110, 45, 83, 69, 80, 65, 32, 111, 114, 100, 101, 114, 44, 32, 97, 115, 32] ⟨by decide, rfl⟩ (by decide) (by decide) 80 (by decide) (by decide) (wd_ hw 271 rfl) Wd W221 rfl N221 B221 (by simp only [List.length_append, List.length_cons, List.length_nil]; omega) hml rfl (hb hby d47_78) (hb hby d47_80) (Ls := #[.val (.ref oc), .val (.ref r215)]) (rest := []) rfl
  refine oW (fun _ k_ => st222 _ k_) ?_
  refine oW (fun _ k_ => XS.aloadN X222.here hx rfl (hb hby d47_83) rfl rfl k_) ?_
  obtain ⟨T223, X223, e223, st223⟩ := getF X222 hx hZ hown (host := "") (Or.inl (wd_ hw 23 rfl)) Via.refl rfl (A0.keep W222.K).2.2 (g := (mkF m 84 #[.val (.ref oc), .val (.ref r215)] [(.ref oc), (.ref sb218)])) rfl rfl (hb hby d47_84)
  refine oW (fun _ k_ => st223 _ k_) ?_
  obtain ⟨T224, L224, va224, X224, N224, W224, B224, st224⟩ := own_wapp hw hZ hx hown X223 (wd_ hw 271 rfl) Wd W222 e223 N222 (S0.keep W222.K) B222 (Nat.ne_of_lt (Nat.lt_of_lt_of_le S0.2.2.2.lt (Nat.le_trans W222.2.1.2 B222.2.2.2.2.2.2.2.1))) (by simp only [List.length_append, List.length_cons, List.length_nil]; omega) hml rfl (hb hby d47_87) (Ls := #[.val (.ref oc), .val (.ref r215)]) (rest := []) rfl
  refine oW (fun _ k_ => st224 _ k_) ?_
  obtain ⟨T225, L225, r225, ra225, X225, N225, W225, hr225, R225, st225⟩ := own_wtos hw hZ hx hown X224 (wd_ hw 292 rfl) Wd W224 rfl N224 B224 hml rfl (hb hby d47_90) (Ls := #[.val (.ref oc), .val (.ref r215)]) (rest := []) rfl
  refine oW (fun _ k_ => st225 _ k_) ?_
  exact own_retRW hw X225 hZ hh W225 rfl hx hret rfl rfl rfl hlk (hb hby d47_93) (by decide) (by decide) ⟨N225, W225.K, _, _, rfl, Nat.le_trans W224.K.1 hr225.1, Nat.le_trans W224.K.1 hr225.2, R225.cast (by rw [htx]; rfl)⟩
theorem rmod (l : Launch) (Z : State) (a0 : Array Value) (hw : ∀ d ∈ tables_1, d.before a0 Z = true) (ws : List Jvm.Cond) (oc : Addr) (cs : Int32) (fm : Value) (d1 d2 : Addr) (rn ri wn wna wi wia : Addr) (txt : List Nat) (h0 : Heap) (n0 : Nat) (Z0 : n0 ≤ h0.size) (Wd : own_Wd Z cs fm d1 d2) (OZ : Old Z n0 h0) (Rw : own_Rw Z rn ri wn wna wi wia) (Kl : own_Kl Z h0 oc rn ri txt) :
    MetFree l (⟨"com/example/nalog/nalog/OrderClass", "describe", "()Ljava/lang/String;"⟩ : MethodName) (head1 (Jvm.Cond.code (⟨"com/example/nalog/nalog/OrderClass", "describe", "()Ljava/lang/String;"⟩ : MethodName) prog_76_method_22_code 2 (some (.object "java/lang/String")) :: ws) ({ frames := 6, cells := 12, slots := 2100, locals := 140 } : Room)) (fun a U => a = #[(.ref oc)] ∧ Z.Warmed39 U.vm ∧ U.heap = h0 ∧ CHv Z own_EL U.vm h0) (fun _ _ _ _ _ => True) (fun _ U o U' => ∃ v L, o = .returned v ∧ Qod Z oc cs fm d1 d2 rn ri wn wna wi wia txt h0 n0 v U'.heap L ∧ CHr Z own_EL U.vm U.heap U'.vm U'.heap ∧ ReturnedEndW U o U' L ({ frames := 6, cells := 12, slots := 2100, locals := 140 } : Room).cells ({ frames := 6, cells := 12, slots := 2100, locals := 140 } : Room).slots) := by
  rcases Kl with ⟨A0, hx⟩ | ⟨A1, hx⟩
  · exact rmodA l Z a0 hw ws oc cs fm d1 d2 rn ri wn wna wi wia txt h0 n0 Z0 Wd OZ Rw A0 hx
  · exact rmodB l Z a0 hw ws oc cs fm d1 d2 rn ri wn wna wi wia txt h0 n0 Z0 Wd OZ Rw A1 hx
def b_9 := prog_78_method_6_code
theorem d9_0 : decode b_9 0 = .ok (.new 24, 3) := by decide +kernel
theorem d9_3 : decode b_9 3 = .ok (.dup, 1) := by decide +kernel
theorem d9_4 : decode b_9 4 = .ok (.invokespecial 26, 3) := by decide +kernel
theorem d9_7 : decode b_9 7 = .ok (.ldc 27, 2) := by decide +kernel
theorem d9_9 : decode b_9 9 = .ok (.invokevirtual 29, 3) := by decide +kernel
theorem d9_12 : decode b_9 12 = .ok (.aload_n 0, 1) := by decide +kernel
theorem d9_13 : decode b_9 13 = .ok (.getfield 17, 3) := by decide +kernel
theorem d9_16 : decode b_9 16 = .ok (.invokevirtual 33, 3) := by decide +kernel
theorem d9_19 : decode b_9 19 = .ok (.aload_n 0, 1) := by decide +kernel
theorem d9_20 : decode b_9 20 = .ok (.getfield 20, 3) := by decide +kernel
theorem d9_23 : decode b_9 23 = .ok (.ifnonnull 8, 3) := by decide +kernel
theorem d9_26 : decode b_9 26 = .ok (.ldc 36, 2) := by decide +kernel
theorem d9_28 : decode b_9 28 = .ok (.goto 33, 3) := by decide +kernel
theorem d9_31 : decode b_9 31 = .ok (.new 24, 3) := by decide +kernel
theorem d9_34 : decode b_9 34 = .ok (.dup, 1) := by decide +kernel
theorem d9_35 : decode b_9 35 = .ok (.invokespecial 26, 3) := by decide +kernel
theorem d9_38 : decode b_9 38 = .ok (.ldc 38, 2) := by decide +kernel
theorem d9_40 : decode b_9 40 = .ok (.invokevirtual 29, 3) := by decide +kernel
theorem d9_43 : decode b_9 43 = .ok (.aload_n 0, 1) := by decide +kernel
theorem d9_44 : decode b_9 44 = .ok (.getfield 20, 3) := by decide +kernel
theorem d9_47 : decode b_9 47 = .ok (.invokevirtual 40, 3) := by decide +kernel
theorem d9_50 : decode b_9 50 = .ok (.invokevirtual 29, 3) := by decide +kernel
theorem d9_53 : decode b_9 53 = .ok (.ldc 46, 2) := by decide +kernel
theorem d9_55 : decode b_9 55 = .ok (.invokevirtual 29, 3) := by decide +kernel
theorem d9_58 : decode b_9 58 = .ok (.invokevirtual 48, 3) := by decide +kernel
theorem d9_61 : decode b_9 61 = .ok (.invokevirtual 29, 3) := by decide +kernel
theorem d9_64 : decode b_9 64 = .ok (.invokevirtual 48, 3) := by decide +kernel
theorem d9_67 : decode b_9 67 = .ok (.astore_n 3, 1) := by decide +kernel
theorem d9_68 : decode b_9 68 = .ok (.aload_n 0, 1) := by decide +kernel
theorem d9_69 : decode b_9 69 = .ok (.getfield 13, 3) := by decide +kernel
theorem d9_72 : decode b_9 72 = .ok (.iconst 1, 1) := by decide +kernel
theorem d9_73 : decode b_9 73 = .ok (.if_icmp .ne 29, 3) := by decide +kernel
theorem d9_76 : decode b_9 76 = .ok (.new 24, 3) := by decide +kernel
theorem d9_79 : decode b_9 79 = .ok (.dup, 1) := by decide +kernel
theorem d9_80 : decode b_9 80 = .ok (.invokespecial 26, 3) := by decide +kernel
theorem d9_83 : decode b_9 83 = .ok (.aload_n 3, 1) := by decide +kernel
theorem d9_84 : decode b_9 84 = .ok (.invokevirtual 29, 3) := by decide +kernel
theorem d9_87 : decode b_9 87 = .ok (.ldc 51, 2) := by decide +kernel
theorem d9_89 : decode b_9 89 = .ok (.invokevirtual 29, 3) := by decide +kernel
theorem d9_92 : decode b_9 92 = .ok (.aload_n 1, 1) := by decide +kernel
theorem d9_93 : decode b_9 93 = .ok (.invokevirtual 29, 3) := by decide +kernel
theorem d9_96 : decode b_9 96 = .ok (.invokevirtual 48, 3) := by decide +kernel
theorem d9_99 : decode b_9 99 = .ok (.goto 38, 3) := by decide +kernel
theorem d9_102 : decode b_9 102 = .ok (.new 24, 3) := by decide +kernel
theorem d9_105 : decode b_9 105 = .ok (.dup, 1) := by decide +kernel
theorem d9_106 : decode b_9 106 = .ok (.invokespecial 26, 3) := by decide +kernel
theorem d9_109 : decode b_9 109 = .ok (.aload_n 0, 1) := by decide +kernel
theorem d9_110 : decode b_9 110 = .ok (.getfield 13, 3) := by decide +kernel
theorem d9_113 : decode b_9 113 = .ok (.invokevirtual 33, 3) := by decide +kernel
theorem d9_116 : decode b_9 116 = .ok (.ldc 53, 2) := by decide +kernel
theorem d9_118 : decode b_9 118 = .ok (.invokevirtual 29, 3) := by decide +kernel
theorem d9_121 : decode b_9 121 = .ok (.aload_n 3, 1) := by decide +kernel
theorem d9_122 : decode b_9 122 = .ok (.invokevirtual 29, 3) := by decide +kernel
theorem d9_125 : decode b_9 125 = .ok (.ldc 55, 2) := by decide +kernel
theorem d9_127 : decode b_9 127 = .ok (.invokevirtual 29, 3) := by decide +kernel
theorem d9_130 : decode b_9 130 = .ok (.aload_n 2, 1) := by decide +kernel
theorem d9_131 : decode b_9 131 = .ok (.invokevirtual 29, 3) := by decide +kernel
theorem d9_134 : decode b_9 134 = .ok (.invokevirtual 48, 3) := by decide +kernel
theorem d9_137 : decode b_9 137 = .ok (.areturn, 1) := by decide +kernel
theorem ef_rmdeN (m : MethodId) (oq : Addr) (sS : Addr) (sP : Addr)  : entryFrame m #[(.ref oq), (.ref sS), (.ref sP)] 4 = mkF m 0 #[.val (.ref oq), .val (.ref sS), .val (.ref sP), .unset] [] := by first | (simp [entryFrame, mkF, argsToLocals, Value.category]; done) | rfl
def Qde (Z : State) (oq : Addr) (sS : Addr) (sP : Addr) (cs : Int32) (fm : Value) (d1 d2 : Addr) (rn ri wn wna wi wia : Addr) (x cn : Int32) (ssa spa : Addr) (cls : List Nat) (h0 : Heap) (n0 : Nat) (v : Option Value) (h : Heap) (L : List Loc) : Prop := Fr n0 L ∧ Keep h0 h [] ∧ ∃ st sa, v = some (.ref st) ∧ h0.size ≤ st ∧ h0.size ≤ sa ∧ own_St Z h st sa (own_tx cn x cls)
theorem rmdeN (l : Launch) (Z : State) (a0 : Array Value) (hw : ∀ d ∈ tables_1, d.before a0 Z = true) (ws : List Jvm.Cond) (oq : Addr) (sS : Addr) (sP : Addr) (cs : Int32) (fm : Value) (d1 d2 : Addr) (rn ri wn wna wi wia : Addr) (x cn : Int32) (ssa spa : Addr) (cls : List Nat) (h0 : Heap) (n0 : Nat) (Z0 : n0 ≤ h0.size) (Wd : own_Wd Z cs fm d1 d2) (OZ : Old Z n0 h0) (Rw : own_Rw Z rn ri wn wna wi wia) (Ss : own_St Z h0 sS ssa [115]) (Sp : own_St Z h0 sP spa [112]) (Q0 : own_Q Z h0 oq cn x .null) (hcl : cls = []) :
    MetFree l (⟨"com/example/nalog/nalog/OrderCount", "describe", "(Ljava/lang/String;Ljava/lang/String;)Ljava/lang/String;"⟩ : MethodName) (head1 (Jvm.Cond.code (⟨"com/example/nalog/nalog/OrderCount", "describe", "(Ljava/lang/String;Ljava/lang/String;)Ljava/lang/String;"⟩ : MethodName) prog_78_method_6_code 4 (some (.object "java/lang/String")) :: ws) ({ frames := 7, cells := 48, slots := 8600, locals := 158 } : Room)) (fun a U => a = #[(.ref oq), (.ref sS), (.ref sP)] ∧ Z.Warmed39 U.vm ∧ U.heap = h0 ∧ CHv Z own_EL U.vm h0) (fun _ _ _ _ _ => True) (fun _ U o U' => ∃ v L, o = .returned v ∧ Qde Z oq sS sP cs fm d1 d2 rn ri wn wna wi wia x cn ssa spa cls h0 n0 v U'.heap L ∧ CHr Z own_EL U.vm U.heap U'.vm U'.heap ∧ ReturnedEndW U o U' L ({ frames := 7, cells := 48, slots := 8600, locals := 158 } : Room).cells ({ frames := 7, cells := 48, slots := 8600, locals := 158 } : Room).slots) := by
  refine MetFree.of_bodySF (plainFor_of_name pn_11) hisR ?_
  intro p e s m args below meth c s₁ Bd hml0 hP hK
  obtain ⟨rfl, hZ, hh, hCH⟩ := hP
  have hx := Bd.exec
  have hby := Bd.bytes
  have hlk : meth.locks = false := BodyLoose.notSynchronized Bd
  have hret := Bd.returns
  have hml : c.maxLocals = 4 := hml0
  have hown : s.vm.findClass "com/example/nalog/nalog/OrderCount" = some m.cls := findClass_of_methodNamed Bd.named
  have hnm := (name_of_methodNamed Bd.named Bd.method).1
  have X0 : Stand p l e ({ frames := 7, cells := 48, slots := 8600, locals := 158 } : Room) s m #[(.ref oq), (.ref sS), (.ref sP)] below meth c s₁ [] 0 0 := Stand.of_body Bd
  have e0 : s₁.heap = h0 := by rw [← hh, Bd.state]; rfl
  have N0 := Fr.nil n0
  have X0 : Stand p l e ({ frames := 7, cells := 48, slots := 8600, locals := 158 } : Room) (s.setVm s.vm) m #[(.ref oq), (.ref sS), (.ref sP)] below meth c s₁ [] 0 0 := X0
  have W0 : own_Wk Z n0 s h0 s.vm h0 s.vm h0 := ⟨⟨OZ, Z0⟩, ⟨Z0, Nat.le_refl _⟩, ⟨0, (State.WarmedH.refl s).since 0, Nat.zero_le _⟩, ⟨CHr.refl hCH, Keep.refl h0 []⟩, CHr.refl hCH, Keep.refl h0 []⟩
  show oEW Z p e below s 48 8600 (Qde Z oq sS sP cs fm d1 d2 rn ri wn wna wi wia x cn ssa spa cls h0 n0) (s₁.setTop (entryFrame m #[(.ref oq), (.ref sS), (.ref sP)] 4))
  refine oW (fun t k => castTop (ef_rmdeN m oq sS sP ) k) ?_
  show oEW Z p e below s _ _ _ (s₁.setTop (mkF m 0 #[.val (.ref oq), .val (.ref sS), .val (.ref sP), .unset] []))
  have hdl := own_dec_len x
  have hdc := own_dec_len cn
  obtain ⟨T226, L226, sb226, va226, X226, N226, W226, B226, st226⟩ := own_wsb hw hZ hx hown X0 (wd_ hw 74 rfl) (wd_ hw 77 rfl) Wd W0 e0 N0 hml rfl (hb hby d9_0) (hb hby d9_3) (hb hby d9_4) (Ls := #[.val (.ref oq), .val (.ref sS), .val (.ref sP), .unset]) (rest := []) rfl
  refine oW (fun _ k_ => st226 _ k_) ?_
  obtain ⟨vm227, T227, L227, va227, hZ, hown, X227, N227, W227, B227, st227⟩ := own_wla hw hZ hx hown X226 (wd_ hw 92 rfl) (List.mem_of_getElem? (i := 4) rfl) [111, 114, 100, 101, 114, 32] ⟨by decide, rfl⟩ (by decide) (by decide) 24 (by decide) (by decide) (wd_ hw 93 rfl) Wd W226 rfl N226 B226 (by simp only [List.length_append, List.length_cons, List.length_nil]; omega) hml rfl (hb hby d9_7) (hb hby d9_9) (Ls := #[.val (.ref oq), .val (.ref sS), .val (.ref sP), .unset]) (rest := []) rfl
  refine oW (fun _ k_ => st227 _ k_) ?_
  refine oW (fun _ k_ => XS.aloadN X227.here hx rfl (hb hby d9_12) rfl rfl k_) ?_
  obtain ⟨T228, X228, e228, st228⟩ := getF X227 hx hZ hown (host := "") (Or.inl (wd_ hw 53 rfl)) Via.refl rfl (Q0.keep W227.K).2.2.1 (g := (mkF m 13 #[.val (.ref oq), .val (.ref sS), .val (.ref sP), .unset] [(.ref oq), (.ref sb226)])) rfl rfl (hb hby d9_13)
  refine oW (fun _ k_ => st228 _ k_) ?_
  obtain ⟨T229, L229, va229, X229, N229, W229, B229, st229⟩ := own_wapi hw hZ hx hown X228 (wd_ hw 143 rfl) Wd W227 e228 N227 (x := x) B227 (by simp only [List.length_append, List.length_cons, List.length_nil]; omega) hml rfl (hb hby d9_16) (Ls := #[.val (.ref oq), .val (.ref sS), .val (.ref sP), .unset]) (rest := []) rfl
  refine oW (fun _ k_ => st229 _ k_) ?_
  refine oW (fun _ k_ => XS.aloadN X229.here hx rfl (hb hby d9_19) rfl rfl k_) ?_
  obtain ⟨T230, X230, e230, st230⟩ := getF X229 hx hZ hown (host := "") (Or.inl (wd_ hw 55 rfl)) Via.refl rfl (Q0.keep W229.K).2.2.2 (g := (mkF m 20 #[.val (.ref oq), .val (.ref sS), .val (.ref sP), .unset] [(.ref oq), (.ref sb226)])) rfl rfl (hb hby d9_20)
  refine oW (fun _ k_ => st230 _ k_) ?_
  refine oW (fun _ k_ => XS.ifnonnullNo X230.here hx rfl (hb hby d9_23) rfl k_) ?_
  obtain ⟨vm231, T231, r231, ra231, hZ, hown, X231, W231, E231, C231, R231, nz231, st231⟩ := own_wldc hw hZ hx hown X230 (wd_ hw 165 rfl) (List.mem_of_getElem? (i := 5) rfl) ([] : List Nat) ⟨by decide, rfl⟩ (by decide) (by decide) 0 (by decide) (by decide) W229 e230 (hb hby d9_26) (Ls := #[.val (.ref oq), .val (.ref sS), .val (.ref sP), .unset]) (rest := [(.ref sb226)]) rfl
  have B231 := B229.keep ((Keep.refl _ []).ext E231) C231
  refine oW (fun _ k_ => st231 _ k_) ?_
  refine oW (fun _ k_ => XS.goto X231.here hx rfl (pc0 := 28) (pc' := 61) rfl (hb hby d9_28) (by decide) (by decide) k_) ?_
  obtain ⟨T232, L232, va232, X232, N232, W232, B232, st232⟩ := own_wapp hw hZ hx hown X231 (wd_ hw 93 rfl) Wd W231 rfl N229 R231 B231 (nz231 _ B231.2.2.2.2.2.2.2.2).2 (by simp only [List.length_append, List.length_cons, List.length_nil]; omega) hml rfl (hb hby d9_61) (Ls := #[.val (.ref oq), .val (.ref sS), .val (.ref sP), .unset]) (rest := []) rfl
  refine oW (fun _ k_ => st232 _ k_) ?_
  obtain ⟨T233, L233, r233, ra233, X233, N233, W233, hr233, R233, st233⟩ := own_wtos hw hZ hx hown X232 (wd_ hw 166 rfl) Wd W232 rfl N232 B232 hml rfl (hb hby d9_64) (Ls := #[.val (.ref oq), .val (.ref sS), .val (.ref sP), .unset]) (rest := []) rfl
  refine oW (fun _ k_ => st233 _ k_) ?_
  refine oW (fun _ k_ => XS.astoreN X233.here hx rfl (hb hby d9_67) rfl rfl (l' := #[.val (.ref oq), .val (.ref sS), .val (.ref sP), .val (.ref r233)]) rfl (XS.aloadN X233.here hx rfl (hb hby d9_68) rfl rfl k_)) ?_
  obtain ⟨T234, X234, e234, st234⟩ := getF X233 hx hZ hown (host := "") (Or.inl (wd_ hw 51 rfl)) Via.refl rfl (Q0.keep W233.K).2.1 (g := (mkF m 69 #[.val (.ref oq), .val (.ref sS), .val (.ref sP), .val (.ref r233)] [(.ref oq)])) rfl rfl (hb hby d9_69)
  refine oW (fun _ k_ => st234 _ k_) ?_
  refine oW (fun _ k_ => XS.iconst X234.here hx rfl (hb hby d9_72) k_) ?_
  by_cases hc73 : cn = (1 : Int32)
  · refine oW (fun _ k_ => XS.icmpNo X234.here hx rfl (hb hby d9_73) rfl (XT.ii_ne_f hc73) k_) ?_
    have W235 := W233.rebase
    obtain ⟨T236, L236, sb236, va236, X236, N236, W236, B236, st236⟩ := own_wsb hw hZ hx hown X234 (wd_ hw 74 rfl) (wd_ hw 77 rfl) Wd W235 e234 N233 hml rfl (hb hby d9_76) (hb hby d9_79) (hb hby d9_80) (Ls := #[.val (.ref oq), .val (.ref sS), .val (.ref sP), .val (.ref r233)]) (rest := []) rfl
    refine oW (fun _ k_ => st236 _ k_) ?_
    refine oW (fun _ k_ => XS.aloadN X236.here hx rfl (hb hby d9_83) rfl rfl k_) ?_
    obtain ⟨T237, L237, va237, X237, N237, W237, B237, st237⟩ := own_wapp hw hZ hx hown X236 (wd_ hw 93 rfl) Wd W236 rfl N236 (R233.keep W236.Kb) B236 (Nat.ne_of_lt (Nat.lt_of_lt_of_le R233.2.2.2.lt B236.2.2.2.2.2.2.2.1)) (by simp only [List.length_append, List.length_cons, List.length_nil]; omega) hml rfl (hb hby d9_84) (Ls := #[.val (.ref oq), .val (.ref sS), .val (.ref sP), .val (.ref r233)]) (rest := []) rfl
    refine oW (fun _ k_ => st237 _ k_) ?_
    obtain ⟨vm238, T238, L238, va238, hZ, hown, X238, N238, W238, B238, st238⟩ := own_wla hw hZ hx hown X237 (wd_ hw 209 rfl) (List.mem_of_getElem? (i := 8) rfl) [32] ⟨by decide, rfl⟩ (by decide) (by decide) 4 (by decide) (by decide) (wd_ hw 93 rfl) Wd W237 rfl N237 B237 (by simp only [List.length_append, List.length_cons, List.length_nil]; omega) hml rfl (hb hby d9_87) (hb hby d9_89) (Ls := #[.val (.ref oq), .val (.ref sS), .val (.ref sP), .val (.ref r233)]) (rest := []) rfl
    refine oW (fun _ k_ => st238 _ k_) ?_
    refine oW (fun _ k_ => XS.aloadN X238.here hx rfl (hb hby d9_92) rfl rfl k_) ?_
    obtain ⟨T239, L239, va239, X239, N239, W239, B239, st239⟩ := own_wapp hw hZ hx hown X238 (wd_ hw 93 rfl) Wd W238 rfl N238 (Ss.keep W238.K) B238 (Nat.ne_of_lt (Nat.lt_of_lt_of_le Ss.2.2.2.lt (Nat.le_trans W238.2.1.2 B238.2.2.2.2.2.2.2.1))) (by simp only [List.length_append, List.length_cons, List.length_nil]; omega) hml rfl (hb hby d9_93) (Ls := #[.val (.ref oq), .val (.ref sS), .val (.ref sP), .val (.ref r233)]) (rest := []) rfl
    refine oW (fun _ k_ => st239 _ k_) ?_
    obtain ⟨T240, L240, r240, ra240, X240, N240, W240, hr240, R240, st240⟩ := own_wtos hw hZ hx hown X239 (wd_ hw 166 rfl) Wd W239 rfl N239 B239 hml rfl (hb hby d9_96) (Ls := #[.val (.ref oq), .val (.ref sS), .val (.ref sP), .val (.ref r233)]) (rest := []) rfl
    refine oW (fun _ k_ => st240 _ k_) ?_
    refine oW (fun _ k_ => XS.goto X240.here hx rfl (pc0 := 99) (pc' := 137) rfl (hb hby d9_99) (by decide) (by decide) k_) ?_
    exact own_retRW hw X240 hZ hh W240 rfl hx hret rfl rfl rfl hlk (hb hby d9_137) (by decide) (by decide) ⟨N240, W240.K, _, _, rfl, Nat.le_trans W239.K.1 hr240.1, Nat.le_trans W239.K.1 hr240.2, R240.cast (by simp [own_tx, hc73, hcl])⟩
  · refine oW (fun _ k_ => XS.icmpYes X234.here hx rfl (pc0 := 73) (pc' := 102) rfl (hb hby d9_73) rfl (XT.ii_ne_t hc73) (by decide) (by decide) k_) ?_
    have W241 := W233.rebase
    obtain ⟨T242, L242, sb242, va242, X242, N242, W242, B242, st242⟩ := own_wsb hw hZ hx hown X234 (wd_ hw 74 rfl) (wd_ hw 77 rfl) Wd W241 e234 N233 hml rfl (hb hby d9_102) (hb hby d9_105) (hb hby d9_106) (Ls := #[.val (.ref oq), .val (.ref sS), .val (.ref sP), .val (.ref r233)]) (rest := []) rfl
    refine oW (fun _ k_ => st242 _ k_) ?_
    refine oW (fun _ k_ => XS.aloadN X242.here hx rfl (hb hby d9_109) rfl rfl k_) ?_
    obtain ⟨T243, X243, e243, st243⟩ := getF X242 hx hZ hown (host := "") (Or.inl (wd_ hw 51 rfl)) Via.refl rfl (Q0.keep W242.K).2.1 (g := (mkF m 110 #[.val (.ref oq), .val (.ref sS), .val (.ref sP), .val (.ref r233)] [(.ref oq), (.ref sb242)])) rfl rfl (hb hby d9_110)
    refine oW (fun _ k_ => st243 _ k_) ?_
    obtain ⟨T244, L244, va244, X244, N244, W244, B244, st244⟩ := own_wapi hw hZ hx hown X243 (wd_ hw 143 rfl) Wd W242 e243 N242 (x := cn) B242 (by simp only [List.length_append, List.length_cons, List.length_nil]; omega) hml rfl (hb hby d9_113) (Ls := #[.val (.ref oq), .val (.ref sS), .val (.ref sP), .val (.ref r233)]) (rest := []) rfl
    refine oW (fun _ k_ => st244 _ k_) ?_
    obtain ⟨vm245, T245, L245, va245, hZ, hown, X245, N245, W245, B245, st245⟩ := own_wla hw hZ hx hown X244 (wd_ hw 303 rfl) (List.mem_of_getElem? (i := 9) rfl) [32, 111, 102, 32, 105, 116, 115, 32, 111, 114, 100, 101, 114, 115, 44, 32, 116, 104, 101, 32, 102, 105, 114, 115, 116, 32] ⟨by decide, rfl⟩ (by decide) (by decide) 104 (by decide) (by decide) (wd_ hw 93 rfl) Wd W244 rfl N244 B244 (by simp only [List.length_append, List.length_cons, List.length_nil]; omega) hml rfl (hb hby d9_116) (hb hby d9_118) (Ls := #[.val (.ref oq), .val (.ref sS), .val (.ref sP), .val (.ref r233)]) (rest := []) rfl
    refine oW (fun _ k_ => st245 _ k_) ?_
    refine oW (fun _ k_ => XS.aloadN X245.here hx rfl (hb hby d9_121) rfl rfl k_) ?_
    obtain ⟨T246, L246, va246, X246, N246, W246, B246, st246⟩ := own_wapp hw hZ hx hown X245 (wd_ hw 93 rfl) Wd W245 rfl N245 (R233.keep W245.Kb) B245 (Nat.ne_of_lt (Nat.lt_of_lt_of_le R233.2.2.2.lt B245.2.2.2.2.2.2.2.1)) (by simp only [List.length_append, List.length_cons, List.length_nil]; omega) hml rfl (hb hby d9_122) (Ls := #[.val (.ref oq), .val (.ref sS), .val (.ref sP), .val (.ref r233)]) (rest := []) rfl
    refine oW (fun _ k_ => st246 _ k_) ?_
    obtain ⟨vm247, T247, L247, va247, hZ, hown, X247, N247, W247, B247, st247⟩ := own_wla hw hZ hx hown X246 (wd_ hw 304 rfl) (List.mem_of_getElem? (i := 10) rfl) [44, 32] ⟨by decide, rfl⟩ (by decide) (by decide) 8 (by decide) (by decide) (wd_ hw 93 rfl) Wd W246 rfl N246 B246 (by simp only [List.length_append, List.length_cons, List.length_nil]; omega) hml rfl (hb hby d9_125) (hb hby d9_127) (Ls := #[.val (.ref oq), .val (.ref sS), .val (.ref sP), .val (.ref r233)]) (rest := []) rfl
    refine oW (fun _ k_ => st247 _ k_) ?_
    refine oW (fun _ k_ => XS.aloadN X247.here hx rfl (hb hby d9_130) rfl rfl k_) ?_
    obtain ⟨T248, L248, va248, X248, N248, W248, B248, st248⟩ := own_wapp hw hZ hx hown X247 (wd_ hw 93 rfl) Wd W247 rfl N247 (Sp.keep W247.K) B247 (Nat.ne_of_lt (Nat.lt_of_lt_of_le Sp.2.2.2.lt (Nat.le_trans W247.2.1.2 B247.2.2.2.2.2.2.2.1))) (by simp only [List.length_append, List.length_cons, List.length_nil]; omega) hml rfl (hb hby d9_131) (Ls := #[.val (.ref oq), .val (.ref sS), .val (.ref sP), .val (.ref r233)]) (rest := []) rfl
    refine oW (fun _ k_ => st248 _ k_) ?_
    obtain ⟨T249, L249, r249, ra249, X249, N249, W249, hr249, R249, st249⟩ := own_wtos hw hZ hx hown X248 (wd_ hw 166 rfl) Wd W248 rfl N248 B248 hml rfl (hb hby d9_134) (Ls := #[.val (.ref oq), .val (.ref sS), .val (.ref sP), .val (.ref r233)]) (rest := []) rfl
    refine oW (fun _ k_ => st249 _ k_) ?_
    exact own_retRW hw X249 hZ hh W249 rfl hx hret rfl rfl rfl hlk (hb hby d9_137) (by decide) (by decide) ⟨N249, W249.K, _, _, rfl, Nat.le_trans W248.K.1 hr249.1, Nat.le_trans W248.K.1 hr249.2, R249.cast (by simp [own_tx, hc73, hcl])⟩
theorem ef_rmdeC (m : MethodId) (oq : Addr) (sS : Addr) (sP : Addr)  : entryFrame m #[(.ref oq), (.ref sS), (.ref sP)] 4 = mkF m 0 #[.val (.ref oq), .val (.ref sS), .val (.ref sP), .unset] [] := by first | (simp [entryFrame, mkF, argsToLocals, Value.category]; done) | rfl
theorem rmdeC (l : Launch) (Z : State) (a0 : Array Value) (hw : ∀ d ∈ tables_1, d.before a0 Z = true) (ws : List Jvm.Cond) (oq : Addr) (sS : Addr) (sP : Addr) (cs : Int32) (fm : Value) (d1 d2 : Addr) (rn ri wn wna wi wia : Addr) (x cn : Int32) (ssa spa : Addr) (cls : List Nat) (h0 : Heap) (n0 : Nat) (Z0 : n0 ≤ h0.size) (Wd : own_Wd Z cs fm d1 d2) (OZ : Old Z n0 h0) (Rw : own_Rw Z rn ri wn wna wi wia) (Ss : own_St Z h0 sS ssa [115]) (Sp : own_St Z h0 sP spa [112]) (Q1 : ∃ oc txt, own_Q Z h0 oq cn x (.ref oc) ∧ own_Kl Z h0 oc rn ri txt ∧ cls = [32, 40] ++ txt ++ [41]) :
    MetFree l (⟨"com/example/nalog/nalog/OrderCount", "describe", "(Ljava/lang/String;Ljava/lang/String;)Ljava/lang/String;"⟩ : MethodName) (head1 (Jvm.Cond.code (⟨"com/example/nalog/nalog/OrderCount", "describe", "(Ljava/lang/String;Ljava/lang/String;)Ljava/lang/String;"⟩ : MethodName) prog_78_method_6_code 4 (some (.object "java/lang/String")) :: ws) ({ frames := 7, cells := 48, slots := 8600, locals := 158 } : Room)) (fun a U => a = #[(.ref oq), (.ref sS), (.ref sP)] ∧ Z.Warmed39 U.vm ∧ U.heap = h0 ∧ CHv Z own_EL U.vm h0) (fun _ _ _ _ _ => True) (fun _ U o U' => ∃ v L, o = .returned v ∧ Qde Z oq sS sP cs fm d1 d2 rn ri wn wna wi wia x cn ssa spa cls h0 n0 v U'.heap L ∧ CHr Z own_EL U.vm U.heap U'.vm U'.heap ∧ ReturnedEndW U o U' L ({ frames := 7, cells := 48, slots := 8600, locals := 158 } : Room).cells ({ frames := 7, cells := 48, slots := 8600, locals := 158 } : Room).slots) := by
  refine MetFree.of_bodySF (plainFor_of_name pn_11) hisR ?_
  intro p e s m args below meth c s₁ Bd hml0 hP hK
  obtain ⟨rfl, hZ, hh, hCH⟩ := hP
  have hx := Bd.exec
  have hby := Bd.bytes
  have hlk : meth.locks = false := BodyLoose.notSynchronized Bd
  have hret := Bd.returns
  have hml : c.maxLocals = 4 := hml0
  have hown : s.vm.findClass "com/example/nalog/nalog/OrderCount" = some m.cls := findClass_of_methodNamed Bd.named
  have hnm := (name_of_methodNamed Bd.named Bd.method).1
  have X0 : Stand p l e ({ frames := 7, cells := 48, slots := 8600, locals := 158 } : Room) s m #[(.ref oq), (.ref sS), (.ref sP)] below meth c s₁ [] 0 0 := Stand.of_body Bd
  have e0 : s₁.heap = h0 := by rw [← hh, Bd.state]; rfl
  have N0 := Fr.nil n0
  have X0 : Stand p l e ({ frames := 7, cells := 48, slots := 8600, locals := 158 } : Room) (s.setVm s.vm) m #[(.ref oq), (.ref sS), (.ref sP)] below meth c s₁ [] 0 0 := X0
  have W0 : own_Wk Z n0 s h0 s.vm h0 s.vm h0 := ⟨⟨OZ, Z0⟩, ⟨Z0, Nat.le_refl _⟩, ⟨0, (State.WarmedH.refl s).since 0, Nat.zero_le _⟩, ⟨CHr.refl hCH, Keep.refl h0 []⟩, CHr.refl hCH, Keep.refl h0 []⟩
  show oEW Z p e below s 48 8600 (Qde Z oq sS sP cs fm d1 d2 rn ri wn wna wi wia x cn ssa spa cls h0 n0) (s₁.setTop (entryFrame m #[(.ref oq), (.ref sS), (.ref sP)] 4))
  refine oW (fun t k => castTop (ef_rmdeC m oq sS sP ) k) ?_
  show oEW Z p e below s _ _ _ (s₁.setTop (mkF m 0 #[.val (.ref oq), .val (.ref sS), .val (.ref sP), .unset] []))
  obtain ⟨oc, txt, Q0, Kl, hcl⟩ := Q1
  have htl := Kl.len
  have hdl := own_dec_len x
  have hdc := own_dec_len cn
  obtain ⟨T250, L250, sb250, va250, X250, N250, W250, B250, st250⟩ := own_wsb hw hZ hx hown X0 (wd_ hw 74 rfl) (wd_ hw 77 rfl) Wd W0 e0 N0 hml rfl (hb hby d9_0) (hb hby d9_3) (hb hby d9_4) (Ls := #[.val (.ref oq), .val (.ref sS), .val (.ref sP), .unset]) (rest := []) rfl
  refine oW (fun _ k_ => st250 _ k_) ?_
  obtain ⟨vm251, T251, L251, va251, hZ, hown, X251, N251, W251, B251, st251⟩ := own_wla hw hZ hx hown X250 (wd_ hw 92 rfl) (List.mem_of_getElem? (i := 4) rfl) [111, 114, 100, 101, 114, 32] ⟨by decide, rfl⟩ (by decide) (by decide) 24 (by decide) (by decide) (wd_ hw 93 rfl) Wd W250 rfl N250 B250 (by simp only [List.length_append, List.length_cons, List.length_nil]; omega) hml rfl (hb hby d9_7) (hb hby d9_9) (Ls := #[.val (.ref oq), .val (.ref sS), .val (.ref sP), .unset]) (rest := []) rfl
  refine oW (fun _ k_ => st251 _ k_) ?_
  refine oW (fun _ k_ => XS.aloadN X251.here hx rfl (hb hby d9_12) rfl rfl k_) ?_
  obtain ⟨T252, X252, e252, st252⟩ := getF X251 hx hZ hown (host := "") (Or.inl (wd_ hw 53 rfl)) Via.refl rfl (Q0.keep W251.K).2.2.1 (g := (mkF m 13 #[.val (.ref oq), .val (.ref sS), .val (.ref sP), .unset] [(.ref oq), (.ref sb250)])) rfl rfl (hb hby d9_13)
  refine oW (fun _ k_ => st252 _ k_) ?_
  obtain ⟨T253, L253, va253, X253, N253, W253, B253, st253⟩ := own_wapi hw hZ hx hown X252 (wd_ hw 143 rfl) Wd W251 e252 N251 (x := x) B251 (by simp only [List.length_append, List.length_cons, List.length_nil]; omega) hml rfl (hb hby d9_16) (Ls := #[.val (.ref oq), .val (.ref sS), .val (.ref sP), .unset]) (rest := []) rfl
  refine oW (fun _ k_ => st253 _ k_) ?_
  refine oW (fun _ k_ => XS.aloadN X253.here hx rfl (hb hby d9_19) rfl rfl k_) ?_
  obtain ⟨T254, X254, e254, st254⟩ := getF X253 hx hZ hown (host := "") (Or.inl (wd_ hw 55 rfl)) Via.refl rfl (Q0.keep W253.K).2.2.2 (g := (mkF m 20 #[.val (.ref oq), .val (.ref sS), .val (.ref sP), .unset] [(.ref oq), (.ref sb250)])) rfl rfl (hb hby d9_20)
  refine oW (fun _ k_ => st254 _ k_) ?_
  refine oW (fun _ k_ => XS.ifnonnullYes X254.here hx rfl (pc0 := 23) (pc' := 31) rfl (hb hby d9_23) rfl (by decide) (by decide) k_) ?_
  have W255 := W253.rebase
  obtain ⟨T256, L256, sb256, va256, X256, N256, W256, B256, st256⟩ := own_wsb hw hZ hx hown X254 (wd_ hw 74 rfl) (wd_ hw 77 rfl) Wd W255 e254 N253 hml rfl (hb hby d9_31) (hb hby d9_34) (hb hby d9_35) (Ls := #[.val (.ref oq), .val (.ref sS), .val (.ref sP), .unset]) (rest := [(.ref sb250)]) rfl
  refine oW (fun _ k_ => st256 _ k_) ?_
  obtain ⟨vm257, T257, L257, va257, hZ, hown, X257, N257, W257, B257, st257⟩ := own_wla hw hZ hx hown X256 (wd_ hw 256 rfl) (List.mem_of_getElem? (i := 6) rfl) [32, 40] ⟨by decide, rfl⟩ (by decide) (by decide) 8 (by decide) (by decide) (wd_ hw 93 rfl) Wd W256 rfl N256 B256 (by simp only [List.length_append, List.length_cons, List.length_nil]; omega) hml rfl (hb hby d9_38) (hb hby d9_40) (Ls := #[.val (.ref oq), .val (.ref sS), .val (.ref sP), .unset]) (rest := [(.ref sb250)]) rfl
  refine oW (fun _ k_ => st257 _ k_) ?_
  refine oW (fun _ k_ => XS.aloadN X257.here hx rfl (hb hby d9_43) rfl rfl k_) ?_
  obtain ⟨T258, X258, e258, st258⟩ := getF X257 hx hZ hown (host := "") (Or.inl (wd_ hw 55 rfl)) Via.refl rfl (Q0.keep W257.K).2.2.2 (g := (mkF m 44 #[.val (.ref oq), .val (.ref sS), .val (.ref sP), .unset] [(.ref oq), (.ref sb256), (.ref sb250)])) rfl rfl (hb hby d9_44)
  refine oW (fun _ k_ => st258 _ k_) ?_
  obtain ⟨kS, hS, hkS⟩ := W257.2.2.1
  obtain ⟨cq259, kq259, q259a, q259b, q259c⟩ := isOf (s := s.setVm _) hZ e258 ((Kl.keep W257.K).elim (fun q => q.1.1) (fun q => let ⟨_, _, u, _⟩ := q.1; u.1))
  obtain ⟨_, _, ⟨T259, L259, k259, n259⟩, -, Y259, hSx259, hgx259, ⟨Lc259, hQ259, l259, y259, z259, C259⟩, st259⟩ := X258.virtualBackS hx (y := (⟨"com/example/nalog/nalog/OrderClass", "describe", "()Ljava/lang/String;"⟩ : MethodName)) (z := (⟨"com/example/nalog/nalog/OrderClass", "describe", "()Ljava/lang/String;"⟩ : MethodName)) hown (mvT hZ (wd_ hw 257 rfl)) (mvT hZ (wd_ hw 258 rfl)) (notFace_of_selects (args := #[]) (mvT hZ (wd_ hw 260 rfl))) (mvT hZ (wd_ hw 260 rfl)) (mvT hZ (wd_ hw 259 rfl)) (by decide) (backOfSH (W := 2) (rmod l Z a0 hw [] oc cs fm d1 d2 rn ri wn wna wi wia txt T257.heap n0 W257.n Wd W257.old Rw (Kl.keep W257.K)) hZ (wd_ hw 261 rfl) (wd_ hw 2 rfl) (by decide) (by decide) (own_EW hw) W257.H) q259a q259c (g := (mkF m 47 #[.val (.ref oq), .val (.ref sS), .val (.ref sP), .unset] [(.ref oc), (.ref sb256), (.ref sb250)])) rfl (by rw [hml]; rfl) (Steps.refl _) (argsL := []) (rest := [(.ref sb256), (.ref sb250)]) (lenOf pd_27 rfl) rfl (by show 2 * 0 + _ ≤ _; exact Nat.le_of_eq rfl) (hb hby d9_47) (fun _ _ => ⟨rfl, e258, (Nat.le_of_ble_eq_true rfl), (Nat.le_of_ble_eq_true rfl)⟩)
  dsimp only [Pt.U, Pt.locs, Pt.cells, Pt.slots] at Y259 hSx259 hgx259 l259 y259 z259 st259 hQ259 C259
  subst y259 z259 l259
  obtain ⟨X259, hS, hZ, hown⟩ := rebS hS (by rw [e258]; exact hkS) Y259 hSx259 hgx259 hZ hown
  obtain ⟨N259q, K259k, r259, ra259, rfl, hr259, hra259, R259⟩ := hQ259
  have W259 := W257.later K259k C259 hS (Nat.le_refl _)
  have N259 := Fr.app N257 N259q
  have ne259 : ra259 ≠ va257 := (Nat.ne_of_lt (Nat.lt_of_lt_of_le (let ⟨_, q, _⟩ := B257.2.2.2.2.1; q.lt) hra259)).symm
  have B259 := B257.keep K259k C259
  refine oW (fun _ k_ => st259.trans k_) ?_
  show oEW Z p e below s _ _ _ (T259.setTop (mkF m 50 #[.val (.ref oq), .val (.ref sS), .val (.ref sP), .unset] [(.ref r259), (.ref sb256), (.ref sb250)]))
  obtain ⟨T260, L260, va260, X260, N260, W260, B260, st260⟩ := own_wapp hw hZ hx hown X259 (wd_ hw 93 rfl) Wd W259 rfl N259 R259 B259 ne259 (by simp only [List.length_append, List.length_cons, List.length_nil]; omega) hml rfl (hb hby d9_50) (Ls := #[.val (.ref oq), .val (.ref sS), .val (.ref sP), .unset]) (rest := [(.ref sb250)]) rfl
  refine oW (fun _ k_ => st260 _ k_) ?_
  obtain ⟨vm261, T261, L261, va261, hZ, hown, X261, N261, W261, B261, st261⟩ := own_wla hw hZ hx hown X260 (wd_ hw 293 rfl) (List.mem_of_getElem? (i := 7) rfl) [41] ⟨by decide, rfl⟩ (by decide) (by decide) 4 (by decide) (by decide) (wd_ hw 93 rfl) Wd W260 rfl N260 B260 (by simp only [List.length_append, List.length_cons, List.length_nil]; omega) hml rfl (hb hby d9_53) (hb hby d9_55) (Ls := #[.val (.ref oq), .val (.ref sS), .val (.ref sP), .unset]) (rest := [(.ref sb250)]) rfl
  refine oW (fun _ k_ => st261 _ k_) ?_
  obtain ⟨T262, L262, r262, ra262, X262, N262, W262, hr262, R262, st262⟩ := own_wtos hw hZ hx hown X261 (wd_ hw 166 rfl) Wd W261 rfl N261 B261 hml rfl (hb hby d9_58) (Ls := #[.val (.ref oq), .val (.ref sS), .val (.ref sP), .unset]) (rest := [(.ref sb250)]) rfl
  refine oW (fun _ k_ => st262 _ k_) ?_
  have nq263 : ra262 ≠ va253 := (Nat.ne_of_lt (Nat.lt_of_lt_of_le (let ⟨_, q, _⟩ := B253.2.2.2.2.1; q.lt) (Nat.le_trans W261.Kb.1 hr262.2))).symm
  have B263 := B253.keep W262.Kb W262.2.2.2.2.1
  have W264 := W262.base0
  obtain ⟨T265, L265, va265, X265, N265, W265, B265, st265⟩ := own_wapp hw hZ hx hown X262 (wd_ hw 93 rfl) Wd W264 rfl N262 R262 B263 nq263 (by simp only [List.length_append, List.length_cons, List.length_nil]; omega) hml rfl (hb hby d9_61) (Ls := #[.val (.ref oq), .val (.ref sS), .val (.ref sP), .unset]) (rest := []) rfl
  refine oW (fun _ k_ => st265 _ k_) ?_
  obtain ⟨T266, L266, r266, ra266, X266, N266, W266, hr266, R266, st266⟩ := own_wtos hw hZ hx hown X265 (wd_ hw 166 rfl) Wd W265 rfl N265 B265 hml rfl (hb hby d9_64) (Ls := #[.val (.ref oq), .val (.ref sS), .val (.ref sP), .unset]) (rest := []) rfl
  refine oW (fun _ k_ => st266 _ k_) ?_
  refine oW (fun _ k_ => XS.astoreN X266.here hx rfl (hb hby d9_67) rfl rfl (l' := #[.val (.ref oq), .val (.ref sS), .val (.ref sP), .val (.ref r266)]) rfl (XS.aloadN X266.here hx rfl (hb hby d9_68) rfl rfl k_)) ?_
  obtain ⟨T267, X267, e267, st267⟩ := getF X266 hx hZ hown (host := "") (Or.inl (wd_ hw 51 rfl)) Via.refl rfl (Q0.keep W266.K).2.1 (g := (mkF m 69 #[.val (.ref oq), .val (.ref sS), .val (.ref sP), .val (.ref r266)] [(.ref oq)])) rfl rfl (hb hby d9_69)
  refine oW (fun _ k_ => st267 _ k_) ?_
  refine oW (fun _ k_ => XS.iconst X267.here hx rfl (hb hby d9_72) k_) ?_
  by_cases hc73 : cn = (1 : Int32)
  · refine oW (fun _ k_ => XS.icmpNo X267.here hx rfl (hb hby d9_73) rfl (XT.ii_ne_f hc73) k_) ?_
    have W268 := W266.rebase
    obtain ⟨T269, L269, sb269, va269, X269, N269, W269, B269, st269⟩ := own_wsb hw hZ hx hown X267 (wd_ hw 74 rfl) (wd_ hw 77 rfl) Wd W268 e267 N266 hml rfl (hb hby d9_76) (hb hby d9_79) (hb hby d9_80) (Ls := #[.val (.ref oq), .val (.ref sS), .val (.ref sP), .val (.ref r266)]) (rest := []) rfl
    refine oW (fun _ k_ => st269 _ k_) ?_
    refine oW (fun _ k_ => XS.aloadN X269.here hx rfl (hb hby d9_83) rfl rfl k_) ?_
    obtain ⟨T270, L270, va270, X270, N270, W270, B270, st270⟩ := own_wapp hw hZ hx hown X269 (wd_ hw 93 rfl) Wd W269 rfl N269 (R266.keep W269.Kb) B269 (Nat.ne_of_lt (Nat.lt_of_lt_of_le R266.2.2.2.lt B269.2.2.2.2.2.2.2.1)) (by simp only [List.length_append, List.length_cons, List.length_nil]; omega) hml rfl (hb hby d9_84) (Ls := #[.val (.ref oq), .val (.ref sS), .val (.ref sP), .val (.ref r266)]) (rest := []) rfl
    refine oW (fun _ k_ => st270 _ k_) ?_
    obtain ⟨vm271, T271, L271, va271, hZ, hown, X271, N271, W271, B271, st271⟩ := own_wla hw hZ hx hown X270 (wd_ hw 209 rfl) (List.mem_of_getElem? (i := 8) rfl) [32] ⟨by decide, rfl⟩ (by decide) (by decide) 4 (by decide) (by decide) (wd_ hw 93 rfl) Wd W270 rfl N270 B270 (by simp only [List.length_append, List.length_cons, List.length_nil]; omega) hml rfl (hb hby d9_87) (hb hby d9_89) (Ls := #[.val (.ref oq), .val (.ref sS), .val (.ref sP), .val (.ref r266)]) (rest := []) rfl
    refine oW (fun _ k_ => st271 _ k_) ?_
    refine oW (fun _ k_ => XS.aloadN X271.here hx rfl (hb hby d9_92) rfl rfl k_) ?_
    obtain ⟨T272, L272, va272, X272, N272, W272, B272, st272⟩ := own_wapp hw hZ hx hown X271 (wd_ hw 93 rfl) Wd W271 rfl N271 (Ss.keep W271.K) B271 (Nat.ne_of_lt (Nat.lt_of_lt_of_le Ss.2.2.2.lt (Nat.le_trans W271.2.1.2 B271.2.2.2.2.2.2.2.1))) (by simp only [List.length_append, List.length_cons, List.length_nil]; omega) hml rfl (hb hby d9_93) (Ls := #[.val (.ref oq), .val (.ref sS), .val (.ref sP), .val (.ref r266)]) (rest := []) rfl
    refine oW (fun _ k_ => st272 _ k_) ?_
    obtain ⟨T273, L273, r273, ra273, X273, N273, W273, hr273, R273, st273⟩ := own_wtos hw hZ hx hown X272 (wd_ hw 166 rfl) Wd W272 rfl N272 B272 hml rfl (hb hby d9_96) (Ls := #[.val (.ref oq), .val (.ref sS), .val (.ref sP), .val (.ref r266)]) (rest := []) rfl
    refine oW (fun _ k_ => st273 _ k_) ?_
    refine oW (fun _ k_ => XS.goto X273.here hx rfl (pc0 := 99) (pc' := 137) rfl (hb hby d9_99) (by decide) (by decide) k_) ?_
    exact own_retRW hw X273 hZ hh W273 rfl hx hret rfl rfl rfl hlk (hb hby d9_137) (by decide) (by decide) ⟨N273, W273.K, _, _, rfl, Nat.le_trans W272.K.1 hr273.1, Nat.le_trans W272.K.1 hr273.2, R273.cast (by simp [own_tx, hc73, hcl])⟩
  · refine oW (fun _ k_ => XS.icmpYes X267.here hx rfl (pc0 := 73) (pc' := 102) rfl (hb hby d9_73) rfl (XT.ii_ne_t hc73) (by decide) (by decide) k_) ?_
    have W274 := W266.rebase
    obtain ⟨T275, L275, sb275, va275, X275, N275, W275, B275, st275⟩ := own_wsb hw hZ hx hown X267 (wd_ hw 74 rfl) (wd_ hw 77 rfl) Wd W274 e267 N266 hml rfl (hb hby d9_102) (hb hby d9_105) (hb hby d9_106) (Ls := #[.val (.ref oq), .val (.ref sS), .val (.ref sP), .val (.ref r266)]) (rest := []) rfl
    refine oW (fun _ k_ => st275 _ k_) ?_
    refine oW (fun _ k_ => XS.aloadN X275.here hx rfl (hb hby d9_109) rfl rfl k_) ?_
    obtain ⟨T276, X276, e276, st276⟩ := getF X275 hx hZ hown (host := "") (Or.inl (wd_ hw 51 rfl)) Via.refl rfl (Q0.keep W275.K).2.1 (g := (mkF m 110 #[.val (.ref oq), .val (.ref sS), .val (.ref sP), .val (.ref r266)] [(.ref oq), (.ref sb275)])) rfl rfl (hb hby d9_110)
    refine oW (fun _ k_ => st276 _ k_) ?_
    obtain ⟨T277, L277, va277, X277, N277, W277, B277, st277⟩ := own_wapi hw hZ hx hown X276 (wd_ hw 143 rfl) Wd W275 e276 N275 (x := cn) B275 (by simp only [List.length_append, List.length_cons, List.length_nil]; omega) hml rfl (hb hby d9_113) (Ls := #[.val (.ref oq), .val (.ref sS), .val (.ref sP), .val (.ref r266)]) (rest := []) rfl
    refine oW (fun _ k_ => st277 _ k_) ?_
    obtain ⟨vm278, T278, L278, va278, hZ, hown, X278, N278, W278, B278, st278⟩ := own_wla hw hZ hx hown X277 (wd_ hw 303 rfl) (List.mem_of_getElem? (i := 9) rfl) [32, 111, 102, 32, 105, 116, 115, 32, 111, 114, 100, 101, 114, 115, 44, 32, 116, 104, 101, 32, 102, 105, 114, 115, 116, 32] ⟨by decide, rfl⟩ (by decide) (by decide) 104 (by decide) (by decide) (wd_ hw 93 rfl) Wd W277 rfl N277 B277 (by simp only [List.length_append, List.length_cons, List.length_nil]; omega) hml rfl (hb hby d9_116) (hb hby d9_118) (Ls := #[.val (.ref oq), .val (.ref sS), .val (.ref sP), .val (.ref r266)]) (rest := []) rfl
    refine oW (fun _ k_ => st278 _ k_) ?_
    refine oW (fun _ k_ => XS.aloadN X278.here hx rfl (hb hby d9_121) rfl rfl k_) ?_
    obtain ⟨T279, L279, va279, X279, N279, W279, B279, st279⟩ := own_wapp hw hZ hx hown X278 (wd_ hw 93 rfl) Wd W278 rfl N278 (R266.keep W278.Kb) B278 (Nat.ne_of_lt (Nat.lt_of_lt_of_le R266.2.2.2.lt B278.2.2.2.2.2.2.2.1)) (by simp only [List.length_append, List.length_cons, List.length_nil]; omega) hml rfl (hb hby d9_122) (Ls := #[.val (.ref oq), .val (.ref sS), .val (.ref sP), .val (.ref r266)]) (rest := []) rfl
    refine oW (fun _ k_ => st279 _ k_) ?_
    obtain ⟨vm280, T280, L280, va280, hZ, hown, X280, N280, W280, B280, st280⟩ := own_wla hw hZ hx hown X279 (wd_ hw 304 rfl) (List.mem_of_getElem? (i := 10) rfl) [44, 32] ⟨by decide, rfl⟩ (by decide) (by decide) 8 (by decide) (by decide) (wd_ hw 93 rfl) Wd W279 rfl N279 B279 (by simp only [List.length_append, List.length_cons, List.length_nil]; omega) hml rfl (hb hby d9_125) (hb hby d9_127) (Ls := #[.val (.ref oq), .val (.ref sS), .val (.ref sP), .val (.ref r266)]) (rest := []) rfl
    refine oW (fun _ k_ => st280 _ k_) ?_
    refine oW (fun _ k_ => XS.aloadN X280.here hx rfl (hb hby d9_130) rfl rfl k_) ?_
    obtain ⟨T281, L281, va281, X281, N281, W281, B281, st281⟩ := own_wapp hw hZ hx hown X280 (wd_ hw 93 rfl) Wd W280 rfl N280 (Sp.keep W280.K) B280 (Nat.ne_of_lt (Nat.lt_of_lt_of_le Sp.2.2.2.lt (Nat.le_trans W280.2.1.2 B280.2.2.2.2.2.2.2.1))) (by simp only [List.length_append, List.length_cons, List.length_nil]; omega) hml rfl (hb hby d9_131) (Ls := #[.val (.ref oq), .val (.ref sS), .val (.ref sP), .val (.ref r266)]) (rest := []) rfl
    refine oW (fun _ k_ => st281 _ k_) ?_
    obtain ⟨T282, L282, r282, ra282, X282, N282, W282, hr282, R282, st282⟩ := own_wtos hw hZ hx hown X281 (wd_ hw 166 rfl) Wd W281 rfl N281 B281 hml rfl (hb hby d9_134) (Ls := #[.val (.ref oq), .val (.ref sS), .val (.ref sP), .val (.ref r266)]) (rest := []) rfl
    refine oW (fun _ k_ => st282 _ k_) ?_
    exact own_retRW hw X282 hZ hh W282 rfl hx hret rfl rfl rfl hlk (hb hby d9_137) (by decide) (by decide) ⟨N282, W282.K, _, _, rfl, Nat.le_trans W281.K.1 hr282.1, Nat.le_trans W281.K.1 hr282.2, R282.cast (by simp [own_tx, hc73, hcl])⟩
theorem rmde (l : Launch) (Z : State) (a0 : Array Value) (hw : ∀ d ∈ tables_1, d.before a0 Z = true) (ws : List Jvm.Cond) (oq : Addr) (sS : Addr) (sP : Addr) (cs : Int32) (fm : Value) (d1 d2 : Addr) (rn ri wn wna wi wia : Addr) (x cn : Int32) (ssa spa : Addr) (cls : List Nat) (h0 : Heap) (n0 : Nat) (Z0 : n0 ≤ h0.size) (Wd : own_Wd Z cs fm d1 d2) (OZ : Old Z n0 h0) (Rw : own_Rw Z rn ri wn wna wi wia) (Ss : own_St Z h0 sS ssa [115]) (Sp : own_St Z h0 sP spa [112]) (QF : ∃ fc, own_Q Z h0 oq cn x fc ∧ own_Fc Z h0 rn ri fc cls) :
    MetFree l (⟨"com/example/nalog/nalog/OrderCount", "describe", "(Ljava/lang/String;Ljava/lang/String;)Ljava/lang/String;"⟩ : MethodName) (head1 (Jvm.Cond.code (⟨"com/example/nalog/nalog/OrderCount", "describe", "(Ljava/lang/String;Ljava/lang/String;)Ljava/lang/String;"⟩ : MethodName) prog_78_method_6_code 4 (some (.object "java/lang/String")) :: ws) ({ frames := 7, cells := 48, slots := 8600, locals := 158 } : Room)) (fun a U => a = #[(.ref oq), (.ref sS), (.ref sP)] ∧ Z.Warmed39 U.vm ∧ U.heap = h0 ∧ CHv Z own_EL U.vm h0) (fun _ _ _ _ _ => True) (fun _ U o U' => ∃ v L, o = .returned v ∧ Qde Z oq sS sP cs fm d1 d2 rn ri wn wna wi wia x cn ssa spa cls h0 n0 v U'.heap L ∧ CHr Z own_EL U.vm U.heap U'.vm U'.heap ∧ ReturnedEndW U o U' L ({ frames := 7, cells := 48, slots := 8600, locals := 158 } : Room).cells ({ frames := 7, cells := 48, slots := 8600, locals := 158 } : Room).slots) := by
  obtain ⟨fc, Q0, ⟨rfl, hc⟩ | ⟨oc, txt, rfl, Kl, hc⟩⟩ := QF
  · exact rmdeN l Z a0 hw ws oq sS sP cs fm d1 d2 rn ri wn wna wi wia x cn ssa spa cls h0 n0 Z0 Wd OZ Rw Ss Sp Q0 hc
  · exact rmdeC l Z a0 hw ws oq sS sP cs fm d1 d2 rn ri wn wna wi wia x cn ssa spa cls h0 n0 Z0 Wd OZ Rw Ss Sp ⟨oc, txt, Q0, Kl, hc⟩
/-! what stands at the start -/
section OwnStart
variable {Z : State} {args a0 : Array Value} {t : Term} {a : Addr}
theorem own_exE {C : String} (hx : (Cond.exactly t C).value args Z none Z [] = some true) : ∃ a, t.eval args Z none [] Z = some (.ref a) := by
  obtain ⟨a', c', cell, k, e1, -⟩ := Cond.exactly_spec (Cond.before_iff.mpr hx)
  exact ⟨a', e1⟩
theorem own_arrAt {n : Nat} (ev : t.eval args Z none [] Z = some (.ref a)) (hx : (Cond.exactly t "[B").value args Z none Z [] = some true) (wa : (Cond.arrayClass .byte).before a0 Z = true) (hl : (Cond.eq (.length t) (.int (Int32.ofNat n))).value args Z none Z [] = some true) (hn : n < 2 ^ 31) :
    ∃ SA, Arr Z Z.heap a SA .byte ∧ SA.slots.size = n ∧ Z.arrayAt? a = some SA := by
  have hlen := Cond.eq_int (Cond.before_iff.mpr hl) rfl
  obtain ⟨sd, SA, hev, harrAt, -⟩ := Term.length_spec hlen
  cases ev.symm.trans hev
  have h31 := Jvm.Free.SBG.length_lt hev harrAt hlen
  have hsz : SA.slots.size = n := by
    have e : (Term.length t).eval args Z none [] Z = some (.int (Int32.ofNat SA.slots.size)) := by simp [Term.eval, hev, harrAt, h31]
    have h2 : Int32.ofNat SA.slots.size = Int32.ofNat n := by simpa using Option.some.inj (e.symm.trans hlen)
    exact (own_eqN h31 hn).mp h2
  obtain ⟨a3, c3, cell3, k3, e1, e2, e3, e4, e5, e6, -⟩ := Cond.exactly_spec (Cond.before_iff.mpr hx)
  cases hev.symm.trans e1
  obtain ⟨c4, k4, comp, f1, f2, f3⟩ := Cond.arrayClass_spec wa
  have hcell : Z.heap[a]? = some SA ∧ SA.vm ≠ .unknown := by
    simp only [State.arrayAt?, Option.bind_eq_bind] at harrAt
    cases q : Z.heap[a]? with
    | none => simp [q] at harrAt
    | some x => simp only [q, Option.bind_some] at harrAt; grind
  cases hcell.1.symm.trans e3
  cases (show Z.vm.findClass "[B" = some c4 from f1).symm.trans e2
  exact ⟨SA, ⟨hcell.1, ⟨(fun q r => by rw [r] at e5; cases e5), k4, by rw [e6]; exact f2, comp, f3⟩, hcell.2⟩, hsz, harrAt⟩
theorem own_byOf {SA : Cell} {bs : List Nat} (A : Arr Z Z.heap a SA .byte) (hsz : SA.slots.size = bs.length) (hn : bs.length < 2 ^ 31) (he : ∀ (i b : Nat), bs[i]? = some b → SA.slots[i]? = some (Value.int (Int32.ofNat b))) (hb : ∀ b ∈ bs, b < 128) : own_By Z Z.heap a bs := by
  refine ⟨⟨by rw [own_V_len]; exact hn, SA, A, ?_⟩, hb⟩
  apply List.ext_getElem?
  intro i
  rw [Array.getElem?_toList]
  by_cases hi : i < bs.length
  · rw [he i bs[i] (List.getElem?_eq_getElem hi), own_V_at (List.getElem?_eq_getElem hi)]
  · rw [List.getElem?_eq_none (by rw [own_V_len]; omega), Array.getElem?_eq_none (by omega)]
theorem own_byAt {bs : List Nat} (ev : t.eval args Z none [] Z = some (.ref a)) (hx : (Cond.exactly t "[B").value args Z none Z [] = some true) (wa : (Cond.arrayClass .byte).before a0 Z = true) (hl : (Cond.eq (.length t) (.int (Int32.ofNat bs.length))).value args Z none Z [] = some true) (hn : bs.length < 2 ^ 31)
    (he : ∀ (i b : Nat), bs[i]? = some b → (Cond.eq (.elem t (.int (Int32.ofNat i))) (.int (Int32.ofNat b))).value args Z none Z [] = some true) (hb : ∀ b ∈ bs, b < 128) : own_By Z Z.heap a bs := by
  obtain ⟨SA, A, hsz, harr⟩ := own_arrAt ev hx wa hl hn
  refine own_byOf A hsz hn (fun i b hq => ?_) hb
  have hi := (List.getElem?_eq_some_iff.mp hq).1
  have e1 := Cond.eq_int (Cond.before_iff.mpr (he i b hq)) rfl
  rw [Jvm.Free.SBG.elem_at (ix := .int (Int32.ofNat i)) ev harr (by omega) (by omega) rfl] at e1
  exact e1
theorem own_dgAt {f : Nat → Nat} {tm : Term} (et : ∀ idx, t.eval args Z none idx Z = some (.ref a)) (hx : (Cond.exactly t "[B").value args Z none Z [] = some true) (wa : (Cond.arrayClass .byte).before a0 Z = true) (hl : (Cond.eq (.length t) (.int (Int32.ofNat 100))).value args Z none Z [] = some true)
    (h : (Cond.all t (.eq (.elem t (.index 0)) tm)).value args Z none Z [] = some true) (htm : ∀ i, i < 100 → tm.eval args Z none [i] Z = some (.int (Int32.ofNat (f i)))) (hf : ∀ i, i < 100 → f i < 128) : own_By Z Z.heap a ((List.range 100).map f) := by
  obtain ⟨SA, A, hsz, harr⟩ := own_arrAt (et []) hx wa hl (by decide)
  refine own_byOf A (by rw [hsz]; simp) (by simp) (fun i b hq => ?_) (fun b hb => ?_)
  · have hi : i < 100 := by have := (List.getElem?_eq_some_iff.mp hq).1; simpa using this
    have hq' : f i = b := by simpa [hi] using hq
    have q := Cond.all_elim (et []) harr h i (by omega)
    have e1 := Cond.eq_int (show (Cond.eq (.elem t (.index 0)) tm).holds args Z none Z [i] = true by simp [Cond.holds, q]) (htm i hi)
    rw [Jvm.Free.SBG.elem_at (ix := .index 0) (i := i) (et [i]) harr (by omega) (by omega) (by simp [Term.eval])] at e1
    rw [← hq']; exact e1
  · obtain ⟨i, hi, rfl⟩ := List.mem_map.mp hb
    exact hf i (List.mem_range.mp hi)
end OwnStart
theorem own_dg1 : ∀ i : Fin 100, i.val.toInt32 % 10 = Int32.ofNat (i.val % 10) := by decide
theorem own_dg2 : ∀ i : Fin 100, i.val.toInt32 / 10 = Int32.ofNat (i.val / 10) := by decide
theorem own_start {Z : State} {args a0 : Array Value} (hw : ∀ d ∈ tables_1, d.before a0 Z = true) (hr : rest_1_c.value args Z none Z [] = some true) (hn : narrow_1.value args Z none Z [] = some true) :
    ∃ cs fm d1 d2 rn ri wn wna wi wia, own_Wd Z cs fm d1 d2 ∧ own_Rw Z rn ri wn wna wi wia := by
  obtain ⟨r0, hr⟩ := and_e hr
  obtain ⟨r1, hr⟩ := and_e hr
  obtain ⟨r2, hr⟩ := and_e hr
  obtain ⟨r3, hr⟩ := and_e hr
  obtain ⟨r4, hr⟩ := and_e hr
  obtain ⟨r5, hr⟩ := and_e hr
  obtain ⟨r6, hr⟩ := and_e hr
  obtain ⟨r7, hr⟩ := and_e hr
  obtain ⟨r8, hr⟩ := and_e hr
  obtain ⟨r9, hr⟩ := and_e hr
  obtain ⟨r10, hr⟩ := and_e hr
  obtain ⟨r11, hr⟩ := and_e hr
  obtain ⟨r12, hr⟩ := and_e hr
  obtain ⟨r13, hr⟩ := and_e hr
  obtain ⟨r14, hr⟩ := and_e hr
  obtain ⟨r15, hr⟩ := and_e hr
  obtain ⟨r16, hr⟩ := and_e hr
  obtain ⟨r17, hr⟩ := and_e hr
  obtain ⟨r18, hr⟩ := and_e hr
  obtain ⟨r19, -⟩ := and_e hr
  obtain ⟨cs, ecs⟩ := is_v r1
  have hcs : ¬ cs = 0 := by
    intro q
    subst q
    clear hr hn
    simp only [Cond.value, ecs] at r2
    simp [Term.eval] at r2
  obtain ⟨fm, efm, hfm⟩ : ∃ fm : Value, (Term.static "jdk/internal/util/Preconditions" "SIOOBE_FORMATTER" "Ljava/util/function/BiFunction;").eval args Z none [] Z = some fm ∧ (fm = .null ∨ ∃ a, fm = .ref a) := by
    cases h : (Term.static "jdk/internal/util/Preconditions" "SIOOBE_FORMATTER" "Ljava/util/function/BiFunction;").eval args Z none [] Z with
    | none => simp only [Cond.value, h] at r8; cases r8
    | some v =>
      have q : v.isRef = true := by
        simp only [Cond.value, h] at r8
        cases v <;> first | rfl | cases r8
      cases v <;> first | exact ⟨_, rfl, Or.inl rfl⟩ | exact ⟨_, rfl, Or.inr ⟨_, rfl⟩⟩ | cases q
  obtain ⟨d1, ed1⟩ := own_exE r12
  obtain ⟨d2, ed2⟩ := own_exE r17
  have wa := (wd_ hw 30 rfl)
  have D1 := own_dgAt (f := fun i => 48 + i % 10) (fun _ => ed1) r12 wa r13 r14 (fun i hi => by simp [Term.eval]; exact own_dg1 ⟨i, hi⟩) (fun i hi => by omega)
  have D2 := own_dgAt (f := fun i => 48 + i / 10) (fun _ => ed2) r17 wa r18 r19 (fun i hi => by simp [Term.eval]; exact own_dg2 ⟨i, hi⟩) (fun i hi => by omega)
  obtain ⟨n0, hn⟩ := and_e hn
  obtain ⟨n1, hn⟩ := and_e hn
  obtain ⟨n2, hn⟩ := and_e hn
  obtain ⟨n3, hn⟩ := and_e hn
  obtain ⟨n4, hn⟩ := and_e hn
  obtain ⟨n5, hn⟩ := and_e hn
  obtain ⟨n6, hn⟩ := and_e hn
  obtain ⟨n7, hn⟩ := and_e hn
  obtain ⟨n8, hn⟩ := and_e hn
  obtain ⟨n9, hn⟩ := and_e hn
  obtain ⟨n10, hn⟩ := and_e hn
  obtain ⟨n11, hn⟩ := and_e hn
  obtain ⟨n12, hn⟩ := and_e hn
  obtain ⟨n13, hn⟩ := and_e hn
  obtain ⟨n14, hn⟩ := and_e hn
  obtain ⟨n15, hn⟩ := and_e hn
  obtain ⟨n16, hn⟩ := and_e hn
  obtain ⟨n17, hn⟩ := and_e hn
  obtain ⟨n18, hn⟩ := and_e hn
  obtain ⟨n19, hn⟩ := and_e hn
  obtain ⟨n20, hn⟩ := and_e hn
  obtain ⟨n21, hn⟩ := and_e hn
  obtain ⟨n22, hn⟩ := and_e hn
  obtain ⟨n23, hn⟩ := and_e hn
  obtain ⟨n24, hn⟩ := and_e hn
  obtain ⟨n25, hn⟩ := and_e hn
  obtain ⟨n26, hn⟩ := and_e hn
  obtain ⟨n27, hn⟩ := and_e hn
  obtain ⟨n28, hn⟩ := and_e hn
  obtain ⟨n29, hn⟩ := and_e hn
  obtain ⟨n30, hn⟩ := and_e hn
  obtain ⟨n31, hn⟩ := and_e hn
  obtain ⟨n32, hn⟩ := and_e hn
  obtain ⟨n33, hn⟩ := and_e hn
  have n34 := hn
  have ord1 := Cond.eq_int (Cond.before_iff.mpr n7) rfl
  have ord2 := Cond.eq_int (Cond.before_iff.mpr n8) rfl
  obtain ⟨rn, ern⟩ := own_exE n0
  obtain ⟨ri, eri⟩ := own_exE n1
  obtain ⟨wi, ewi⟩ := own_exE n2
  obtain ⟨wia, ewia⟩ := own_exE n4
  obtain ⟨wn, ewn⟩ := own_exE n9
  obtain ⟨wna, ewna⟩ := own_exE n11
  have cod1 := Cond.eq_int (Cond.before_iff.mpr n6) rfl
  have cod2 := Cond.eq_int (Cond.before_iff.mpr n13) rfl
  rw [fld_at ern] at ord1
  rw [fld_at eri] at ord2
  have hne : ¬ rn = ri := by
    intro q
    rw [q, ord2] at ord1
    injection ord1 with z
    injection z with z
    exact absurd z (by decide)
  refine ⟨cs, fm, d1, d2, rn, ri, wn, wna, wi, wia, ⟨hcs, hfm, Sta.start ecs (Or.inl (Cond.before_iff.mpr r0)), Sta.start efm (Or.inl (Cond.before_iff.mpr r7)), Sta.start ed1 (Or.inl (Cond.before_iff.mpr r11)), D1, Sta.start ed2 (Or.inl (Cond.before_iff.mpr r16)), D2⟩,
    Sta.start ern (Or.inr ⟨(wd_ hw 4 rfl), (wd_ hw 5 rfl)⟩), Sta.start eri (Or.inr ⟨(wd_ hw 4 rfl), (wd_ hw 26 rfl)⟩), hne, ⟨Fld.start (by rw [← fld_at ern]; exact ewn), Exa.start ewn n9, Fld.start (by rw [← fld_at ewn]; exact ewna), Fld.start (by rw [← fld_at ewn]; exact cod2), own_byAt ewna n11 wa n12 (by decide) (fun i b hq => ?_) (by decide)⟩, Fld.start (by rw [← fld_at eri]; exact ewi), Exa.start ewi n2, Fld.start (by rw [← fld_at ewi]; exact ewia), Fld.start (by rw [← fld_at ewi]; exact cod1), own_byAt ewia n4 wa n5 (by decide) (fun i b hq => ?_) (by decide)⟩
  · match i, hq with
    | 0, hq => cases hq; exact n27
    | 1, hq => cases hq; exact n28
    | 2, hq => cases hq; exact n29
    | 3, hq => cases hq; exact n30
    | 4, hq => cases hq; exact n31
    | 5, hq => cases hq; exact n32
    | 6, hq => cases hq; exact n33
    | 7, hq => cases hq; exact n34
    | _ + 8, hq => simp at hq
  · match i, hq with
    | 0, hq => cases hq; exact n14
    | 1, hq => cases hq; exact n15
    | 2, hq => cases hq; exact n16
    | 3, hq => cases hq; exact n17
    | 4, hq => cases hq; exact n18
    | 5, hq => cases hq; exact n19
    | 6, hq => cases hq; exact n20
    | 7, hq => cases hq; exact n21
    | 8, hq => cases hq; exact n22
    | 9, hq => cases hq; exact n23
    | 10, hq => cases hq; exact n24
    | 11, hq => cases hq; exact n25
    | 12, hq => cases hq; exact n26
    | _ + 13, hq => simp at hq
theorem own_and3 {p n : Int32} (h : (p &&& (3 : Int32)) = n) : n = 0 ∨ n = 1 ∨ n = 2 ∨ n = 3 := by
  have hb : n.toBitVec = p.toBitVec &&& 3#32 := by rw [← h]; rfl
  have key : ∀ x : BitVec 32, (x &&& 3#32) = 0#32 ∨ (x &&& 3#32) = 1#32 ∨ (x &&& 3#32) = 2#32 ∨ (x &&& 3#32) = 3#32 := by
    intro x
    have hlt : (x &&& 3#32).toNat < 4 := by
      rw [BitVec.toNat_and]; exact Nat.lt_of_le_of_lt Nat.and_le_right (by decide)
    have cases4 : (x &&& 3#32).toNat = 0 ∨ (x &&& 3#32).toNat = 1 ∨ (x &&& 3#32).toNat = 2 ∨ (x &&& 3#32).toNat = 3 := by omega
    rcases cases4 with q | q | q | q
    · exact Or.inl (BitVec.eq_of_toNat_eq q)
    · exact Or.inr (Or.inl (BitVec.eq_of_toNat_eq q))
    · exact Or.inr (Or.inr (Or.inl (BitVec.eq_of_toNat_eq q)))
    · exact Or.inr (Or.inr (Or.inr (BitVec.eq_of_toNat_eq q)))
  rcases key p.toBitVec with q | q | q | q
  · exact Or.inl (Int32.toBitVec_inj.mp (hb.trans q))
  · exact Or.inr (Or.inl (Int32.toBitVec_inj.mp (hb.trans q)))
  · exact Or.inr (Or.inr (Or.inl (Int32.toBitVec_inj.mp (hb.trans q))))
  · exact Or.inr (Or.inr (Or.inr (Int32.toBitVec_inj.mp (hb.trans q))))
theorem own_pick_ref (z : Int32) (o1 o2 : Addr) : (own_pick z o1 o2).isRef = true := by
  rcases own_pick_cases z o1 o2 with q | q | q <;> rw [q] <;> rfl

theorem pd_38 : parseMethodDescriptor "(Ljava/lang/String;Ljava/lang/String;)Ljava/lang/String;" = some ⟨[(.object "java/lang/String"), (.object "java/lang/String")], some (.object "java/lang/String")⟩ := by decide +kernel
def Qlw (Z : State) (p1 : Int32) (p2 : Int32) (p3 : Int32) (p4 : Int32) (cs : Int32) (fm : Value) (d1 d2 : Addr) (rn ri wn wna wi wia : Addr) (h0 : Heap) (n0 : Nat) (v : Option Value) (h : Heap) (L : List Loc) : Prop := v = some (.int (1 : Int32)) ∧ Fr n0 L
theorem own_l130 (hw : ∀ d ∈ tables_1, d.before a0 Z = true) {vm vmb : Vm} {hB h : Heap} (hZ : Z.Warmed39 vm) (hx : p.tables.exec = Jvm.exec) (hby : c.code = code) (hlk : meth.locks = false) (hret : meth.sig.returnType = some .boolean) (hml : c.maxLocals = 13) (hown : vm.findClass "com/example/nalog/nalog/OrderCountAddPinLaw" = some m.cls) (hh : s.heap = h0) {p1 p2 p3 p4 n4 cs : Int32} {fm c7 c8 c9 : Value} {d1 d2 rn ri wn wna wi wia o1 o2 oq : Addr} {cls : List Nat} (Wd : own_Wd Z cs fm d1 d2) (Rw : own_Rw Z rn ri wn wna wi wia) (W0 : own_Wk Z n0 s h0 vmb hB vm h) (e0 : T.heap = h) (N0 : Fr n0 locs) (hn4 : n4 = 1 ∨ n4 = 2 ∨ n4 = 3) (Q0 : own_Q Z h oq n4 p1 c7) (F7 : own_Fc Z h rn ri c7 cls) (X : Stand p l e room_1 (s.setVm vm) m #[.int p1, .int p2, .int p3, .int p4] below meth c T locs 5 19) : oEW Z p e below s 96 16384 (Qlw Z p1 p2 p3 p4 cs fm d1 d2 rn ri wn wna wi wia h0 n0) (T.setTop (mkF m 130 #[.val (.int p1), .val (.int p2), .val (.int p3), .val (.int p4), .val (.int n4), .val (.ref o1), .val (.ref o2), .val c7, .val c8, .val c9, .val (.ref oq), .unset, .unset] [])) := by
  have r_c7 := F7.ref
  have hn0 : ¬ n4 = 0 := by rcases hn4 with rfl | rfl | rfl <;> decide
  show oEW Z p e below s _ _ _ (T.setTop (mkF m 130 #[.val (.int p1), .val (.int p2), .val (.int p3), .val (.int p4), .val (.int n4), .val (.ref o1), .val (.ref o2), .val c7, .val c8, .val c9, .val (.ref oq), .unset, .unset] []))
  refine oW (fun _ k_ => XS.aload X.here hx rfl (hb hby at_130) rfl rfl k_) ?_
  obtain ⟨T283, L283, X283, N283, e283, st283⟩ := cl_rmie0 X hw hZ hx hown (wd_ hw 57 rfl) oq n4 p1 c7 W0.n Q0 hn0 e0 Q0.1 N0 hml rfl (hb hby at_132) (Ls := #[.val (.int p1), .val (.int p2), .val (.int p3), .val (.int p4), .val (.int n4), .val (.ref o1), .val (.ref o2), .val c7, .val c8, .val c9, .val (.ref oq), .unset, .unset]) (rest := []) rfl
  refine oW (fun _ k_ => st283 _ k_) ?_
  refine oW (fun _ k_ => XS.iload X283.here hx rfl (hb hby at_135) rfl (XS.ifYes X283.here hx rfl (pc0 := 137) (pc' := 144) rfl (hb hby at_137) rfl (XT.i0_ne_t (hn0 : ¬ (n4 = 0))) (by decide) (by decide) (XS.iconst X283.here hx rfl (hb hby at_144) (XS.icmpYes X283.here hx rfl (pc0 := 145) (pc' := 150) rfl (hb hby at_145) rfl (XT.ii_eq_t (by decide : (0 : Int32) = (0 : Int32))) (by decide) (by decide) (XS.iload X283.here hx rfl (hb hby at_150) rfl (XS.ifYes X283.here hx rfl (pc0 := 152) (pc' := 159) rfl (hb hby at_152) rfl (XT.i0_ne_t (hn0 : ¬ (n4 = 0))) (by decide) (by decide) (XS.aload X283.here hx rfl (hb hby at_159) rfl r_c7 (XS.astore X283.here hx rfl (hb hby at_161) rfl r_c7 (l' := #[.val (.int p1), .val (.int p2), .val (.int p3), .val (.int p4), .val (.int n4), .val (.ref o1), .val (.ref o2), .val c7, .val c8, .val c9, .val (.ref oq), .val c7, .unset]) (by cases c7 <;> first | rfl | cases r_c7) k_)))))))) ?_
  show oEW Z p e below s _ _ _ (T283.setTop (mkF m 163 #[.val (.int p1), .val (.int p2), .val (.int p3), .val (.int p4), .val (.int n4), .val (.ref o1), .val (.ref o2), .val c7, .val c8, .val c9, .val (.ref oq), .val c7, .unset] []))
  refine oW (fun _ k_ => XS.aload X283.here hx rfl (hb hby at_163) rfl rfl k_) ?_
  obtain ⟨T284, L284, X284, N284, e284, st284⟩ := cl_rmfc X283 hw hZ hx hown (wd_ hw 62 rfl) oq n4 p1 c7 W0.n Q0 r_c7 e283 Q0.1 N283 hml rfl (hb hby at_165) (Ls := #[.val (.int p1), .val (.int p2), .val (.int p3), .val (.int p4), .val (.int n4), .val (.ref o1), .val (.ref o2), .val c7, .val c8, .val c9, .val (.ref oq), .val c7, .unset]) (rest := []) rfl
  refine oW (fun _ k_ => st284 _ k_) ?_
  refine oW (fun _ k_ => XS.aload X284.here hx rfl (hb hby at_168) rfl r_c7 (Jvm.RoadKit.acmp (g := (mkF m 170 #[.val (.int p1), .val (.int p2), .val (.int p3), .val (.int p4), .val (.int n4), .val (.ref o1), .val (.ref o2), .val c7, .val c8, .val c9, .val (.ref oq), .val c7, .unset] [c7, c7])) X284 hx rfl r_c7 r_c7 (pc0 := 170) (pc' := 175) (same := true) rfl (hb hby at_170) rfl (decide_eq_true rfl) (by decide) (by decide) (XS.iload X284.here hx rfl (hb hby at_175) rfl (XS.ifYes X284.here hx rfl (pc0 := 177) (pc' := 182) rfl (hb hby at_177) rfl (XT.i0_ne_t (hn0 : ¬ (n4 = 0))) (by decide) (by decide) (XS.aload X284.here hx rfl (hb hby at_182) rfl rfl k_))))) ?_
  show oEW Z p e below s _ _ _ (T284.setTop (mkF m 184 #[.val (.int p1), .val (.int p2), .val (.int p3), .val (.int p4), .val (.int n4), .val (.ref o1), .val (.ref o2), .val c7, .val c8, .val c9, .val (.ref oq), .val c7, .unset] [(.ref oq)]))
  obtain ⟨vm285, T285, r285, ra285, hZ, hown, X285, W285, E285, C285, R285, nz285, st285⟩ := own_wldc hw hZ hx hown X284 (wd_ hw 67 rfl) (List.mem_of_getElem? (i := 12) rfl) [115] ⟨by decide, rfl⟩ (by decide) (by decide) 4 (by decide) (by decide) W0 e284 (hb hby at_184) (Ls := #[.val (.int p1), .val (.int p2), .val (.int p3), .val (.int p4), .val (.int n4), .val (.ref o1), .val (.ref o2), .val c7, .val c8, .val c9, .val (.ref oq), .val c7, .unset]) (rest := [(.ref oq)]) rfl
  refine oW (fun _ k_ => st285 _ k_) ?_
  obtain ⟨vm286, T286, r286, ra286, hZ, hown, X286, W286, E286, C286, R286, nz286, st286⟩ := own_wldc hw hZ hx hown X285 (wd_ hw 68 rfl) (List.mem_of_getElem? (i := 13) rfl) [112] ⟨by decide, rfl⟩ (by decide) (by decide) 4 (by decide) (by decide) W285 rfl (hb hby at_186) (Ls := #[.val (.int p1), .val (.int p2), .val (.int p3), .val (.int p4), .val (.int n4), .val (.ref o1), .val (.ref o2), .val c7, .val c8, .val c9, .val (.ref oq), .val c7, .unset]) (rest := [(.ref r285), (.ref oq)]) rfl
  refine oW (fun _ k_ => st286 _ k_) ?_
  have Ss286 := R285.ext E286
  have K9 := (Keep.refl _ []).ext E286
  have K8 := ((Keep.refl _ []).ext E285).trans K9 all0
  obtain ⟨kS, hS, hkS⟩ := W286.2.2.1
  obtain ⟨cq287, kq287, q287a, q287b, q287c⟩ := isOf (s := s.setVm _) hZ rfl (Q0.keep K8).1
  obtain ⟨_, _, ⟨T287, L287, k287, n287⟩, -, Y287, hSx287, hgx287, ⟨Lc287, hQ287, l287, y287, z287, C287⟩, st287⟩ := X286.virtualBackS hx (y := (⟨"com/example/nalog/nalog/OrderCount", "describe", "(Ljava/lang/String;Ljava/lang/String;)Ljava/lang/String;"⟩ : MethodName)) (z := (⟨"com/example/nalog/nalog/OrderCount", "describe", "(Ljava/lang/String;Ljava/lang/String;)Ljava/lang/String;"⟩ : MethodName)) hown (mvT hZ (wd_ hw 69 rfl)) (mvT hZ (wd_ hw 70 rfl)) (notFace_of_selects (args := #[]) (mvT hZ (wd_ hw 72 rfl))) (mvT hZ (wd_ hw 72 rfl)) (mvT hZ (wd_ hw 71 rfl)) (by decide) (backOfSH (W := 0) (rmde l Z a0 hw [] oq r285 r286 cs fm d1 d2 rn ri wn wna wi wia p1 n4 ra285 ra286 cls T286.heap n0 W286.n Wd W286.old Rw Ss286 R286 ⟨c7, Q0.keep K8, F7.keep K8⟩) hZ (wd_ hw 73 rfl) (wd_ hw 41 rfl) (by decide) (by decide) (own_EW hw) W286.H) q287a q287c (g := (mkF m 188 #[.val (.int p1), .val (.int p2), .val (.int p3), .val (.int p4), .val (.int n4), .val (.ref o1), .val (.ref o2), .val c7, .val c8, .val c9, .val (.ref oq), .val c7, .unset] [(.ref r286), (.ref r285), (.ref oq)])) rfl (by rw [hml]; rfl) (Steps.refl _) (argsL := [(.ref r285), (.ref r286)]) (rest := []) (lenOf pd_38 rfl) rfl (by show 2 * 0 + _ ≤ _; exact Nat.le_of_eq rfl) (hb hby at_188) (fun _ _ => ⟨rfl, rfl, (Nat.le_of_ble_eq_true rfl), (Nat.le_of_ble_eq_true rfl)⟩)
  dsimp only [Pt.U, Pt.locs, Pt.cells, Pt.slots] at Y287 hSx287 hgx287 l287 y287 z287 st287 hQ287 C287
  subst y287 z287 l287
  obtain ⟨X287, hS, hZ, hown⟩ := rebS hS (by exact hkS) Y287 hSx287 hgx287 hZ hown
  obtain ⟨N287q, K287k, r287, ra287, rfl, hr287, hra287, R287⟩ := hQ287
  have W287 := W286.later K287k C287 hS (Nat.le_refl _)
  have N287 := Fr.app N284 N287q
  refine oW (fun _ k_ => st287.trans k_) ?_
  show oEW Z p e below s _ _ _ (T287.setTop (mkF m 191 #[.val (.int p1), .val (.int p2), .val (.int p3), .val (.int p4), .val (.int n4), .val (.ref o1), .val (.ref o2), .val c7, .val c8, .val c9, .val (.ref oq), .val c7, .unset] [(.ref r287)]))
  refine oW (fun _ k_ => XS.astore X287.here hx rfl (hb hby at_191) rfl rfl (l' := #[.val (.int p1), .val (.int p2), .val (.int p3), .val (.int p4), .val (.int n4), .val (.ref o1), .val (.ref o2), .val c7, .val c8, .val c9, .val (.ref oq), .val c7, .val (.ref r287)]) rfl (XS.aload X287.here hx rfl (hb hby at_193) rfl rfl (XS.iload X287.here hx rfl (hb hby at_195) rfl (XS.iloadN X287.here hx rfl (hb hby at_197) rfl k_)))) ?_
  show oEW Z p e below s _ _ _ (T287.setTop (mkF m 198 #[.val (.int p1), .val (.int p2), .val (.int p3), .val (.int p4), .val (.int n4), .val (.ref o1), .val (.ref o2), .val c7, .val c8, .val c9, .val (.ref oq), .val c7, .val (.ref r287)] [(.int p1), (.int n4), (.ref r287)]))
  rcases F7 with ⟨h7, hcl⟩ | ⟨oc, txt, h7, Kl, hcl⟩
  · rw [h7]
    show oEW Z p e below s _ _ _ (T287.setTop (mkF m 198 #[.val (.int p1), .val (.int p2), .val (.int p3), .val (.int p4), .val (.int n4), .val (.ref o1), .val (.ref o2), .val .null, .val c8, .val c9, .val (.ref oq), .val .null, .val (.ref r287)] [(.int p1), (.int n4), (.ref r287)]))
    refine oW (fun _ k_ => XS.aload X287.here hx rfl (hb hby at_198) rfl rfl (XS.ifnullYes X287.here hx rfl (pc0 := 200) (pc' := 207) rfl (hb hby at_200) rfl (by decide) (by decide) (XS.iconst X287.here hx rfl (hb hby at_207) k_))) ?_
    show oEW Z p e below s _ _ _ (T287.setTop (mkF m 208 #[.val (.int p1), .val (.int p2), .val (.int p3), .val (.int p4), .val (.int n4), .val (.ref o1), .val (.ref o2), .val .null, .val c8, .val c9, .val (.ref oq), .val .null, .val (.ref r287)] [(.int (0 : Int32)), (.int p1), (.int n4), (.ref r287)]))
    obtain ⟨T288, L288, X288, N288, e288, st288⟩ := cl_rmds X287 hw hZ hx hown (wd_ hw 210 rfl) r287 n4 p1 (0 : Int32) cs fm d1 d2 ra287 cls W287.n Wd W287.old R287 hn4 (Or.inl ⟨rfl, hcl⟩) rfl N287 hml rfl (hb hby at_208) (Ls := #[.val (.int p1), .val (.int p2), .val (.int p3), .val (.int p4), .val (.int n4), .val (.ref o1), .val (.ref o2), .val .null, .val c8, .val c9, .val (.ref oq), .val .null, .val (.ref r287)]) (rest := []) rfl
    refine oW (fun _ k_ => st288 _ k_) ?_
    exact own_retNW hw X288 hZ hh W287 e288 hx (t := .boolean) hret (by simp) hlk (hb hby at_211) (by decide) (by decide) rfl ⟨rfl, N288⟩
  · rw [h7]
    show oEW Z p e below s _ _ _ (T287.setTop (mkF m 198 #[.val (.int p1), .val (.int p2), .val (.int p3), .val (.int p4), .val (.int n4), .val (.ref o1), .val (.ref o2), .val (.ref oc), .val c8, .val c9, .val (.ref oq), .val (.ref oc), .val (.ref r287)] [(.int p1), (.int n4), (.ref r287)]))
    refine oW (fun _ k_ => XS.aload X287.here hx rfl (hb hby at_198) rfl rfl (XS.ifnullNo X287.here hx rfl (hb hby at_200) rfl (XS.iconst X287.here hx rfl (hb hby at_203) (XS.goto X287.here hx rfl (pc0 := 204) (pc' := 208) rfl (hb hby at_204) (by decide) (by decide) k_)))) ?_
    show oEW Z p e below s _ _ _ (T287.setTop (mkF m 208 #[.val (.int p1), .val (.int p2), .val (.int p3), .val (.int p4), .val (.int n4), .val (.ref o1), .val (.ref o2), .val (.ref oc), .val c8, .val c9, .val (.ref oq), .val (.ref oc), .val (.ref r287)] [(.int (1 : Int32)), (.int p1), (.int n4), (.ref r287)]))
    obtain ⟨T289, L289, X289, N289, e289, st289⟩ := cl_rmds X287 hw hZ hx hown (wd_ hw 210 rfl) r287 n4 p1 (1 : Int32) cs fm d1 d2 ra287 cls W287.n Wd W287.old R287 hn4 (Or.inr ⟨rfl, txt, Kl.len, hcl⟩) rfl N287 hml rfl (hb hby at_208) (Ls := #[.val (.int p1), .val (.int p2), .val (.int p3), .val (.int p4), .val (.int n4), .val (.ref o1), .val (.ref o2), .val (.ref oc), .val c8, .val c9, .val (.ref oq), .val (.ref oc), .val (.ref r287)]) (rest := []) rfl
    refine oW (fun _ k_ => st289 _ k_) ?_
    exact own_retNW hw X289 hZ hh W287 e289 hx (t := .boolean) hret (by simp) hlk (hb hby at_211) (by decide) (by decide) rfl ⟨rfl, N289⟩
theorem ef_rm0 (m : MethodId) (p1 : Int32) (p2 : Int32) (p3 : Int32) (p4 : Int32)  : entryFrame m #[(.int p1), (.int p2), (.int p3), (.int p4)] maxLocals = mkF m 0 #[.val (.int p1), .val (.int p2), .val (.int p3), .val (.int p4), .unset, .unset, .unset, .unset, .unset, .unset, .unset, .unset, .unset] [] := by first | (simp [entryFrame, mkF, argsToLocals, Value.category, maxLocals]; done) | rfl
theorem rm0 (l : Launch) (Z : State) (a0 : Array Value) (hw : ∀ d ∈ tables_1, d.before a0 Z = true) (ws : List Jvm.Cond) (p1 : Int32) (p2 : Int32) (p3 : Int32) (p4 : Int32) (cs : Int32) (fm : Value) (d1 d2 : Addr) (rn ri wn wna wi wia : Addr) (h0 : Heap) (n0 : Nat) (Z0 : n0 ≤ h0.size) (Wd : own_Wd Z cs fm d1 d2) (OZ : Old Z n0 h0) (Rw : own_Rw Z rn ri wn wna wi wia) :
    MetFree l x (head1 (Jvm.Cond.code x code maxLocals ret :: ws) room_1) (fun a U => a = #[(.int p1), (.int p2), (.int p3), (.int p4)] ∧ Z.Warmed39 U.vm ∧ U.heap = h0 ∧ CHv Z own_EL U.vm h0) (fun _ _ _ _ _ => True) (fun _ U o U' => ∃ v L, o = .returned v ∧ Qlw Z p1 p2 p3 p4 cs fm d1 d2 rn ri wn wna wi wia h0 n0 v U'.heap L ∧ CHr Z own_EL U.vm U.heap U'.vm U'.heap ∧ ReturnedEndW U o U' L room_1.cells room_1.slots) := by
  refine MetFree.of_bodySF (plainFor_of_name pn_8) hisR ?_
  intro p e s m args below meth c s₁ Bd hml0 hP hK
  obtain ⟨rfl, hZ, hh, hCH⟩ := hP
  have hx := Bd.exec
  have hby := Bd.bytes
  have hlk : meth.locks = false := BodyLoose.notSynchronized Bd
  have hret := Bd.returns
  have hml : c.maxLocals = 13 := hml0
  have hown : s.vm.findClass "com/example/nalog/nalog/OrderCountAddPinLaw" = some m.cls := findClass_of_methodNamed Bd.named
  have hnm := (name_of_methodNamed Bd.named Bd.method).1
  have X0 : Stand p l e room_1 s m #[(.int p1), (.int p2), (.int p3), (.int p4)] below meth c s₁ [] 0 0 := Stand.of_body Bd
  have e0 : s₁.heap = h0 := by rw [← hh, Bd.state]; rfl
  have N0 := Fr.nil n0
  have X0 : Stand p l e room_1 (s.setVm s.vm) m #[(.int p1), (.int p2), (.int p3), (.int p4)] below meth c s₁ [] 0 0 := X0
  have W0 : own_Wk Z n0 s h0 s.vm h0 s.vm h0 := ⟨⟨OZ, Z0⟩, ⟨Z0, Nat.le_refl _⟩, ⟨0, (State.WarmedH.refl s).since 0, Nat.zero_le _⟩, ⟨CHr.refl hCH, Keep.refl h0 []⟩, CHr.refl hCH, Keep.refl h0 []⟩
  show oEW Z p e below s 96 16384 (Qlw Z p1 p2 p3 p4 cs fm d1 d2 rn ri wn wna wi wia h0 n0) (s₁.setTop (entryFrame m #[(.int p1), (.int p2), (.int p3), (.int p4)] maxLocals))
  refine oW (fun t k => castTop (ef_rm0 m p1 p2 p3 p4 ) k) ?_
  show oEW Z p e below s _ _ _ (s₁.setTop (mkF m 0 #[.val (.int p1), .val (.int p2), .val (.int p3), .val (.int p4), .unset, .unset, .unset, .unset, .unset, .unset, .unset, .unset, .unset] []))
  refine oW (fun _ k_ => XS.iloadN X0.here hx rfl (hb hby at_0) rfl (XS.iconst X0.here hx rfl (hb hby at_1) (XS.iand X0.here hx rfl (hb hby at_2) rfl (XS.istore X0.here hx rfl (hb hby at_3) rfl (l' := #[.val (.int p1), .val (.int p2), .val (.int p3), .val (.int p4), .val (.int (p4 &&& (3 : Int32))), .unset, .unset, .unset, .unset, .unset, .unset, .unset, .unset]) rfl k_)))) ?_
  show oEW Z p e below s _ _ _ (s₁.setTop (mkF m 5 #[.val (.int p1), .val (.int p2), .val (.int p3), .val (.int p4), .val (.int (p4 &&& (3 : Int32))), .unset, .unset, .unset, .unset, .unset, .unset, .unset, .unset] []))
  generalize hn4 : (p4 &&& (3 : Int32)) = n4
  show oEW Z p e below s _ _ _ (s₁.setTop (mkF m 5 #[.val (.int p1), .val (.int p2), .val (.int p3), .val (.int p4), .val (.int n4), .unset, .unset, .unset, .unset, .unset, .unset, .unset, .unset] []))
  obtain ⟨T290, h290, X290, e290, E290, A290, D290, -, st290⟩ := newO X0 hx hZ hown (wd_ hw 0 rfl) (wd_ hw 1 rfl) (wd_ hw 2 rfl) e0 (g := (mkF m 5 #[.val (.int p1), .val (.int p2), .val (.int p3), .val (.int p4), .val (.int n4), .unset, .unset, .unset, .unset, .unset, .unset, .unset, .unset] [])) rfl (hb hby at_5) (by decide : 0 + 1 ≤ _) (by decide : 0 + 4 ≤ _)
  obtain ⟨b290, g290⟩ : ∃ z, z = h0.size := ⟨_, rfl⟩
  rw [← g290] at A290 D290 st290
  have n0_b290 : n0 ≤ b290 := Nat.le_trans W0.n (Nat.le_of_eq g290.symm)
  have Zs290 := Nat.le_trans W0.n E290.1
  have F_reach_b290 : Fld Z h290 b290 "com/example/nalog/nalog/OrderClass" "reach" "Lcom/example/nalog/nalog/OrderClass$Reach;" .null := D290 (Or.inr (wd_ hw 18 rfl)) (ty := (.object "com/example/nalog/nalog/OrderClass$Reach")) (by decide)
  have F_cheque_b290 : Fld Z h290 b290 "com/example/nalog/nalog/OrderClass" "cheque" "Z" (.int (0 : Int32)) := D290 (Or.inr (wd_ hw 20 rfl)) (ty := .boolean) (by decide)
  have F_euro_b290 : Fld Z h290 b290 "com/example/nalog/nalog/OrderClass" "euro" "Z" (.int (0 : Int32)) := D290 (Or.inr (wd_ hw 22 rfl)) (ty := .boolean) (by decide)
  have F_otherBecause_b290 : Fld Z h290 b290 "com/example/nalog/nalog/OrderClass" "otherBecause" "Ljava/lang/String;" .null := D290 (Or.inr (wd_ hw 24 rfl)) (ty := (.object "java/lang/String")) (by decide)
  refine oW (fun _ k_ => st290 _ k_) ?_
  have W290 := W0.ext E290
  have hq290 : h0.size ≤ b290 := Nat.le_trans W0.K.1 (Nat.le_of_eq g290.symm)
  have hqb290 : Array.size _ ≤ b290 := Nat.le_trans W0.Kb.1 (Nat.le_of_eq g290.symm)
  refine oW (fun _ k_ => XS.dup X290.here hx rfl (hb hby at_8) rfl rfl k_) ?_
  obtain ⟨T291, X291, e291, st291⟩ := getS2 X290 hx hZ hown (host := "") (Or.inl (wd_ hw 3 rfl)) Via.refl e290 (Sta.ext W290.old.2 Rw.1) (g := (mkF m 9 #[.val (.int p1), .val (.int p2), .val (.int p3), .val (.int p4), .val (.int n4), .unset, .unset, .unset, .unset, .unset, .unset, .unset, .unset] [(.ref b290), (.ref b290)])) rfl (hb hby at_9)
  refine oW (fun _ k_ => st291 _ k_) ?_
  refine oW (fun _ k_ => XS.iconst X291.here hx rfl (hb hby at_12) (XS.iconst X291.here hx rfl (hb hby at_13) (XS.aconstNull X291.here hx rfl (hb hby at_14) k_))) ?_
  show oEW Z p e below s _ _ _ (T291.setTop (mkF m 15 #[.val (.int p1), .val (.int p2), .val (.int p3), .val (.int p4), .val (.int n4), .unset, .unset, .unset, .unset, .unset, .unset, .unset, .unset] [.null, (.int (1 : Int32)), (.int (0 : Int32)), (.ref rn), (.ref b290), (.ref b290)]))
  obtain ⟨v292, T292, L292, X292, hQ292, st292⟩ := cl_rmocA X291 hw hZ hx hown (wd_ hw 6 rfl) b290 rn W290.n A290 F_reach_b290 F_cheque_b290 F_euro_b290 F_otherBecause_b290 n0_b290 e291 hml rfl (hb hby at_15) (Ls := #[.val (.int p1), .val (.int p2), .val (.int p3), .val (.int p4), .val (.int n4), .unset, .unset, .unset, .unset, .unset, .unset, .unset, .unset]) (rest := [(.ref b290)]) rfl
  obtain ⟨rfl, N292q, K292k, A292⟩ := hQ292
  have W292 := W290.keep K292k (sfS (Safe.exa hZ.alike A290 (by decide) (by decide)) sf0) (allS hqb290 all0)
  have N292 := Fr.app N0 N292q
  refine oW (fun _ k_ => st292 _ k_) ?_
  show oEW Z p e below s _ _ _ (T292.setTop (mkF m 18 #[.val (.int p1), .val (.int p2), .val (.int p3), .val (.int p4), .val (.int n4), .unset, .unset, .unset, .unset, .unset, .unset, .unset, .unset] [(.ref b290)]))
  have W293 := W292.rebase
  refine oW (fun _ k_ => XS.astore X292.here hx rfl (hb hby at_18) rfl rfl (l' := #[.val (.int p1), .val (.int p2), .val (.int p3), .val (.int p4), .val (.int n4), .val (.ref b290), .unset, .unset, .unset, .unset, .unset, .unset, .unset]) rfl k_) ?_
  obtain ⟨T294, h294, X294, e294, E294, A294, D294, -, st294⟩ := newO X292 hx hZ hown (wd_ hw 0 rfl) (wd_ hw 1 rfl) (wd_ hw 2 rfl) rfl (g := (mkF m 20 #[.val (.int p1), .val (.int p2), .val (.int p3), .val (.int p4), .val (.int n4), .val (.ref b290), .unset, .unset, .unset, .unset, .unset, .unset, .unset] [])) rfl (hb hby at_20) (by decide : 1 + 1 ≤ _) (by decide : 4 + 4 ≤ _)
  obtain ⟨b294, g294⟩ : ∃ z, z = T292.heap.size := ⟨_, rfl⟩
  rw [← g294] at A294 D294 st294
  have n0_b294 : n0 ≤ b294 := Nat.le_trans W293.n (Nat.le_of_eq g294.symm)
  have Zs294 := Nat.le_trans W293.n E294.1
  have F_reach_b294 : Fld Z h294 b294 "com/example/nalog/nalog/OrderClass" "reach" "Lcom/example/nalog/nalog/OrderClass$Reach;" .null := D294 (Or.inr (wd_ hw 18 rfl)) (ty := (.object "com/example/nalog/nalog/OrderClass$Reach")) (by decide)
  have F_cheque_b294 : Fld Z h294 b294 "com/example/nalog/nalog/OrderClass" "cheque" "Z" (.int (0 : Int32)) := D294 (Or.inr (wd_ hw 20 rfl)) (ty := .boolean) (by decide)
  have F_euro_b294 : Fld Z h294 b294 "com/example/nalog/nalog/OrderClass" "euro" "Z" (.int (0 : Int32)) := D294 (Or.inr (wd_ hw 22 rfl)) (ty := .boolean) (by decide)
  have F_otherBecause_b294 : Fld Z h294 b294 "com/example/nalog/nalog/OrderClass" "otherBecause" "Ljava/lang/String;" .null := D294 (Or.inr (wd_ hw 24 rfl)) (ty := (.object "java/lang/String")) (by decide)
  refine oW (fun _ k_ => st294 _ k_) ?_
  have W294 := W293.ext E294
  have hq294 : h0.size ≤ b294 := Nat.le_trans W293.K.1 (Nat.le_of_eq g294.symm)
  have hqb294 : Array.size _ ≤ b294 := Nat.le_trans W293.Kb.1 (Nat.le_of_eq g294.symm)
  refine oW (fun _ k_ => XS.dup X294.here hx rfl (hb hby at_23) rfl rfl k_) ?_
  obtain ⟨T295, X295, e295, st295⟩ := getS2 X294 hx hZ hown (host := "") (Or.inl (wd_ hw 25 rfl)) Via.refl e294 (Sta.ext W294.old.2 Rw.2.1) (g := (mkF m 24 #[.val (.int p1), .val (.int p2), .val (.int p3), .val (.int p4), .val (.int n4), .val (.ref b290), .unset, .unset, .unset, .unset, .unset, .unset, .unset] [(.ref b294), (.ref b294)])) rfl (hb hby at_24)
  refine oW (fun _ k_ => st295 _ k_) ?_
  refine oW (fun _ k_ => XS.iconst X295.here hx rfl (hb hby at_27) (XS.iconst X295.here hx rfl (hb hby at_28) k_)) ?_
  obtain ⟨vm296, T296, r296, ra296, hZ, hown, X296, W296, E296, C296, R296, nz296, st296⟩ := own_wldc hw hZ hx hown X295 (wd_ hw 27 rfl) (List.mem_of_getElem? (i := 11) rfl) [98] ⟨by decide, rfl⟩ (by decide) (by decide) 4 (by decide) (by decide) W294 e295 (hb hby at_29) (Ls := #[.val (.int p1), .val (.int p2), .val (.int p3), .val (.int p4), .val (.int n4), .val (.ref b290), .unset, .unset, .unset, .unset, .unset, .unset, .unset]) (rest := [(.int (0 : Int32)), (.int (1 : Int32)), (.ref ri), (.ref b294), (.ref b294)]) rfl
  refine oW (fun _ k_ => st296 _ k_) ?_
  have E_b294_296 := (A294).ext E296
  have F_b294_reach_296 := (F_reach_b294).ext E296
  have F_b294_cheque_296 := (F_cheque_b294).ext E296
  have F_b294_euro_296 := (F_euro_b294).ext E296
  have F_b294_otherBecause_296 := (F_otherBecause_b294).ext E296
  obtain ⟨v297, T297, L297, X297, hQ297, st297⟩ := cl_rmocB X296 hw hZ hx hown (wd_ hw 6 rfl) b294 ri r296 W296.n E_b294_296 F_b294_reach_296 F_b294_cheque_296 F_b294_euro_296 F_b294_otherBecause_296 n0_b294 rfl hml rfl (hb hby at_31) (Ls := #[.val (.int p1), .val (.int p2), .val (.int p3), .val (.int p4), .val (.int n4), .val (.ref b290), .unset, .unset, .unset, .unset, .unset, .unset, .unset]) (rest := [(.ref b294)]) rfl
  obtain ⟨rfl, N297q, K297k, A297⟩ := hQ297
  have W297 := W296.keep K297k (sfS (Safe.exa hZ.alike E_b294_296 (by decide) (by decide)) sf0) (allS hqb294 all0)
  have Sb297 := R296.keep1 K297k (nz296 _ (Safe.exa hZ.alike E_b294_296 (by decide) (by decide))).1 (nz296 _ (Safe.exa hZ.alike E_b294_296 (by decide) (by decide))).2
  have A1297 := A292.keep W297.Kb
  have N297 := Fr.app N292 N297q
  refine oW (fun _ k_ => st297 _ k_) ?_
  show oEW Z p e below s _ _ _ (T297.setTop (mkF m 34 #[.val (.int p1), .val (.int p2), .val (.int p3), .val (.int p4), .val (.int n4), .val (.ref b290), .unset, .unset, .unset, .unset, .unset, .unset, .unset] [(.ref b294)]))
  have W298 := W297.rebase
  refine oW (fun _ k_ => XS.astore X297.here hx rfl (hb hby at_34) rfl rfl (l' := #[.val (.int p1), .val (.int p2), .val (.int p3), .val (.int p4), .val (.int n4), .val (.ref b290), .val (.ref b294), .unset, .unset, .unset, .unset, .unset, .unset]) rfl (XS.iloadN X297.here hx rfl (hb hby at_36) rfl (XS.iconst X297.here hx rfl (hb hby at_37) (XS.iushr X297.here hx rfl (hb hby at_38) rfl (XS.iconst X297.here hx rfl (hb hby at_39) (XS.iand X297.here hx rfl (hb hby at_40) rfl (XS.aload X297.here hx rfl (hb hby at_41) rfl rfl (XS.aload X297.here hx rfl (hb hby at_43) rfl rfl k_)))))))) ?_
  show oEW Z p e below s _ _ _ (T297.setTop (mkF m 45 #[.val (.int p1), .val (.int p2), .val (.int p3), .val (.int p4), .val (.int n4), .val (.ref b290), .val (.ref b294), .unset, .unset, .unset, .unset, .unset, .unset] [(.ref b294), (.ref b290), (.int (((p4.toUInt32 >>> ((2 : Int32) &&& 31).toUInt32).toInt32) &&& (3 : Int32)))]))
  obtain ⟨T299, L299, X299, N299, e299, st299⟩ := cl_rmpk X297 hw hZ hx hown (wd_ hw 35 rfl) (((p4.toUInt32 >>> ((2 : Int32) &&& 31).toUInt32).toInt32) &&& (3 : Int32)) b290 b294 W298.n rfl N297 hml rfl (hb hby at_45) (Ls := #[.val (.int p1), .val (.int p2), .val (.int p3), .val (.int p4), .val (.int n4), .val (.ref b290), .val (.ref b294), .unset, .unset, .unset, .unset, .unset, .unset]) (rest := []) rfl
  refine oW (fun _ k_ => st299 _ k_) ?_
  obtain ⟨c7, hc7, r_c7, hd7⟩ : ∃ cv, own_pick (((p4.toUInt32 >>> ((2 : Int32) &&& 31).toUInt32).toInt32) &&& (3 : Int32)) b290 b294 = cv ∧ cv.isRef = true ∧ (cv = .ref b290 ∨ cv = .ref b294 ∨ cv = .null) := ⟨_, rfl, own_pick_ref _ _ _, own_pick_cases _ _ _⟩
  rw [hc7]
  show oEW Z p e below s _ _ _ (T299.setTop (mkF m 48 #[.val (.int p1), .val (.int p2), .val (.int p3), .val (.int p4), .val (.int n4), .val (.ref b290), .val (.ref b294), .unset, .unset, .unset, .unset, .unset, .unset] [c7]))
  obtain ⟨cls, F7⟩ : ∃ cls, own_Fc Z T297.heap rn ri c7 cls := by
    rcases hd7 with q | q | q
    · exact ⟨_, Or.inr ⟨_, _, q, Or.inl ⟨A1297, rfl⟩, rfl⟩⟩
    · exact ⟨_, Or.inr ⟨_, _, q, Or.inr ⟨⟨_, _, A297, Sb297⟩, rfl⟩, rfl⟩⟩
    · exact ⟨_, Or.inl ⟨q, rfl⟩⟩
  refine oW (fun _ k_ => XS.astore X299.here hx rfl (hb hby at_48) rfl r_c7 (l' := #[.val (.int p1), .val (.int p2), .val (.int p3), .val (.int p4), .val (.int n4), .val (.ref b290), .val (.ref b294), .val c7, .unset, .unset, .unset, .unset, .unset]) (by cases c7 <;> first | rfl | cases r_c7) (XS.iloadN X299.here hx rfl (hb hby at_50) rfl (XS.iconst X299.here hx rfl (hb hby at_51) (XS.iushr X299.here hx rfl (hb hby at_52) rfl (XS.iconst X299.here hx rfl (hb hby at_53) (XS.iand X299.here hx rfl (hb hby at_54) rfl (XS.aload X299.here hx rfl (hb hby at_55) rfl rfl (XS.aload X299.here hx rfl (hb hby at_57) rfl rfl k_)))))))) ?_
  show oEW Z p e below s _ _ _ (T299.setTop (mkF m 59 #[.val (.int p1), .val (.int p2), .val (.int p3), .val (.int p4), .val (.int n4), .val (.ref b290), .val (.ref b294), .val c7, .unset, .unset, .unset, .unset, .unset] [(.ref b294), (.ref b290), (.int (((p4.toUInt32 >>> ((4 : Int32) &&& 31).toUInt32).toInt32) &&& (3 : Int32)))]))
  obtain ⟨T300, L300, X300, N300, e300, st300⟩ := cl_rmpk X299 hw hZ hx hown (wd_ hw 35 rfl) (((p4.toUInt32 >>> ((4 : Int32) &&& 31).toUInt32).toInt32) &&& (3 : Int32)) b290 b294 W298.n e299 N299 hml rfl (hb hby at_59) (Ls := #[.val (.int p1), .val (.int p2), .val (.int p3), .val (.int p4), .val (.int n4), .val (.ref b290), .val (.ref b294), .val c7, .unset, .unset, .unset, .unset, .unset]) (rest := []) rfl
  refine oW (fun _ k_ => st300 _ k_) ?_
  obtain ⟨c8, hc8, r_c8, hd8⟩ : ∃ cv, own_pick (((p4.toUInt32 >>> ((4 : Int32) &&& 31).toUInt32).toInt32) &&& (3 : Int32)) b290 b294 = cv ∧ cv.isRef = true ∧ (cv = .ref b290 ∨ cv = .ref b294 ∨ cv = .null) := ⟨_, rfl, own_pick_ref _ _ _, own_pick_cases _ _ _⟩
  rw [hc8]
  show oEW Z p e below s _ _ _ (T300.setTop (mkF m 62 #[.val (.int p1), .val (.int p2), .val (.int p3), .val (.int p4), .val (.int n4), .val (.ref b290), .val (.ref b294), .val c7, .unset, .unset, .unset, .unset, .unset] [c8]))
  refine oW (fun _ k_ => XS.astore X300.here hx rfl (hb hby at_62) rfl r_c8 (l' := #[.val (.int p1), .val (.int p2), .val (.int p3), .val (.int p4), .val (.int n4), .val (.ref b290), .val (.ref b294), .val c7, .val c8, .unset, .unset, .unset, .unset]) (by cases c8 <;> first | rfl | cases r_c8) (XS.iloadN X300.here hx rfl (hb hby at_64) rfl (XS.bipush X300.here hx rfl (hb hby at_65) (XS.iushr X300.here hx rfl (hb hby at_67) rfl (XS.iconst X300.here hx rfl (hb hby at_68) (XS.iand X300.here hx rfl (hb hby at_69) rfl (XS.aload X300.here hx rfl (hb hby at_70) rfl rfl (XS.aload X300.here hx rfl (hb hby at_72) rfl rfl k_)))))))) ?_
  show oEW Z p e below s _ _ _ (T300.setTop (mkF m 74 #[.val (.int p1), .val (.int p2), .val (.int p3), .val (.int p4), .val (.int n4), .val (.ref b290), .val (.ref b294), .val c7, .val c8, .unset, .unset, .unset, .unset] [(.ref b294), (.ref b290), (.int (((p4.toUInt32 >>> ((6 : Int32) &&& 31).toUInt32).toInt32) &&& (3 : Int32)))]))
  obtain ⟨T301, L301, X301, N301, e301, st301⟩ := cl_rmpk X300 hw hZ hx hown (wd_ hw 35 rfl) (((p4.toUInt32 >>> ((6 : Int32) &&& 31).toUInt32).toInt32) &&& (3 : Int32)) b290 b294 W298.n e300 N300 hml rfl (hb hby at_74) (Ls := #[.val (.int p1), .val (.int p2), .val (.int p3), .val (.int p4), .val (.int n4), .val (.ref b290), .val (.ref b294), .val c7, .val c8, .unset, .unset, .unset, .unset]) (rest := []) rfl
  refine oW (fun _ k_ => st301 _ k_) ?_
  obtain ⟨c9, hc9, r_c9, hd9⟩ : ∃ cv, own_pick (((p4.toUInt32 >>> ((6 : Int32) &&& 31).toUInt32).toInt32) &&& (3 : Int32)) b290 b294 = cv ∧ cv.isRef = true ∧ (cv = .ref b290 ∨ cv = .ref b294 ∨ cv = .null) := ⟨_, rfl, own_pick_ref _ _ _, own_pick_cases _ _ _⟩
  rw [hc9]
  show oEW Z p e below s _ _ _ (T301.setTop (mkF m 77 #[.val (.int p1), .val (.int p2), .val (.int p3), .val (.int p4), .val (.int n4), .val (.ref b290), .val (.ref b294), .val c7, .val c8, .unset, .unset, .unset, .unset] [c9]))
  refine oW (fun _ k_ => XS.astore X301.here hx rfl (hb hby at_77) rfl r_c9 (l' := #[.val (.int p1), .val (.int p2), .val (.int p3), .val (.int p4), .val (.int n4), .val (.ref b290), .val (.ref b294), .val c7, .val c8, .val c9, .unset, .unset, .unset]) (by cases c9 <;> first | rfl | cases r_c9) k_) ?_
  obtain ⟨T302, h302, X302, e302, E302, A302, D302, -, st302⟩ := newO X301 hx hZ hown (wd_ hw 39 rfl) (wd_ hw 40 rfl) (wd_ hw 41 rfl) e301 (g := (mkF m 79 #[.val (.int p1), .val (.int p2), .val (.int p3), .val (.int p4), .val (.int n4), .val (.ref b290), .val (.ref b294), .val c7, .val c8, .val c9, .unset, .unset, .unset] [])) rfl (hb hby at_79) (by decide : 4 + 1 ≤ _) (by decide : 16 + 3 ≤ _)
  obtain ⟨b302, g302⟩ : ∃ z, z = T297.heap.size := ⟨_, rfl⟩
  rw [← g302] at A302 D302 st302
  have n0_b302 : n0 ≤ b302 := Nat.le_trans W298.n (Nat.le_of_eq g302.symm)
  have Zs302 := Nat.le_trans W298.n E302.1
  have F_count_b302 : Fld Z h302 b302 "com/example/nalog/nalog/OrderCount" "count" "I" (.int (0 : Int32)) := D302 (Or.inl (wd_ hw 52 rfl)) (ty := .int) (by decide)
  have F_first_b302 : Fld Z h302 b302 "com/example/nalog/nalog/OrderCount" "first" "I" (.int (0 : Int32)) := D302 (Or.inl (wd_ hw 54 rfl)) (ty := .int) (by decide)
  have F_firstClass_b302 : Fld Z h302 b302 "com/example/nalog/nalog/OrderCount" "firstClass" "Lcom/example/nalog/nalog/OrderClass;" .null := D302 (Or.inl (wd_ hw 56 rfl)) (ty := (.object "com/example/nalog/nalog/OrderClass")) (by decide)
  refine oW (fun _ k_ => st302 _ k_) ?_
  have W302 := W298.ext E302
  have hq302 : h0.size ≤ b302 := Nat.le_trans W298.K.1 (Nat.le_of_eq g302.symm)
  have hqb302 : Array.size _ ≤ b302 := Nat.le_trans W298.Kb.1 (Nat.le_of_eq g302.symm)
  have Q302 : own_Q Z h302 b302 0 0 .null := ⟨A302, F_count_b302, F_first_b302, F_firstClass_b302⟩
  refine oW (fun _ k_ => XS.dup X302.here hx rfl (hb hby at_82) rfl rfl k_) ?_
  obtain ⟨T303, L303, X303, N303, e303, st303⟩ := cl_rmci X302 hw hZ hx hown (wd_ hw 42 rfl) b302 W302.n e302 N301 hml rfl (hb hby at_83) (Ls := #[.val (.int p1), .val (.int p2), .val (.int p3), .val (.int p4), .val (.int n4), .val (.ref b290), .val (.ref b294), .val c7, .val c8, .val c9, .unset, .unset, .unset]) (rest := [(.ref b302)]) rfl
  refine oW (fun _ k_ => st303 _ k_) ?_
  refine oW (fun _ k_ => XS.astore X303.here hx rfl (hb hby at_86) rfl rfl (l' := #[.val (.int p1), .val (.int p2), .val (.int p3), .val (.int p4), .val (.int n4), .val (.ref b290), .val (.ref b294), .val c7, .val c8, .val c9, .val (.ref b302), .unset, .unset]) rfl k_) ?_
  show oEW Z p e below s _ _ _ (T303.setTop (mkF m 88 #[.val (.int p1), .val (.int p2), .val (.int p3), .val (.int p4), .val (.int n4), .val (.ref b290), .val (.ref b294), .val c7, .val c8, .val c9, .val (.ref b302), .unset, .unset] []))
  rcases own_and3 hn4 with h4 | h4 | h4 | h4
  · rw [h4]
    show oEW Z p e below s _ _ _ (T303.setTop (mkF m 88 #[.val (.int p1), .val (.int p2), .val (.int p3), .val (.int p4), .val (.int (0 : Int32)), .val (.ref b290), .val (.ref b294), .val c7, .val c8, .val c9, .val (.ref b302), .unset, .unset] []))
    refine oW (fun _ k_ => XS.iload X303.here hx rfl (hb hby at_88) rfl (XS.iconst X303.here hx rfl (hb hby at_90) (XS.icmpYes X303.here hx rfl (pc0 := 91) (pc' := 102) rfl (hb hby at_91) rfl (XT.ii_lt_t (by decide : (0 : Int32) < (1 : Int32))) (by decide) (by decide) (XS.iload X303.here hx rfl (hb hby at_102) rfl (XS.iconst X303.here hx rfl (hb hby at_104) (XS.icmpYes X303.here hx rfl (pc0 := 105) (pc' := 116) rfl (hb hby at_105) rfl (XT.ii_lt_t (by decide : (0 : Int32) < (2 : Int32))) (by decide) (by decide) (XS.iload X303.here hx rfl (hb hby at_116) rfl (XS.iconst X303.here hx rfl (hb hby at_118) k_)))))))) ?_
    show oEW Z p e below s _ _ _ (T303.setTop (mkF m 119 #[.val (.int p1), .val (.int p2), .val (.int p3), .val (.int p4), .val (.int (0 : Int32)), .val (.ref b290), .val (.ref b294), .val c7, .val c8, .val c9, .val (.ref b302), .unset, .unset] [(.int (3 : Int32)), (.int (0 : Int32))]))
    refine oW (fun _ k_ => XS.icmpYes X303.here hx rfl (pc0 := 119) (pc' := 130) rfl (hb hby at_119) rfl (XT.ii_lt_t (by decide : (0 : Int32) < (3 : Int32))) (by decide) (by decide) (XS.aload X303.here hx rfl (hb hby at_130) rfl rfl k_)) ?_
    obtain ⟨T304, L304, X304, N304, e304, st304⟩ := cl_rmie1 X303 hw hZ hx hown (wd_ hw 57 rfl) b302 0 0 .null W302.n Q302 rfl e303 Q302.1 N303 hml rfl (hb hby at_132) (Ls := #[.val (.int p1), .val (.int p2), .val (.int p3), .val (.int p4), .val (.int (0 : Int32)), .val (.ref b290), .val (.ref b294), .val c7, .val c8, .val c9, .val (.ref b302), .unset, .unset]) (rest := []) rfl
    refine oW (fun _ k_ => st304 _ k_) ?_
    refine oW (fun _ k_ => XS.iload X304.here hx rfl (hb hby at_135) rfl (XS.ifNo X304.here hx rfl (hb hby at_137) rfl (XT.i0_ne_f (by decide : (0 : Int32) = 0)) (XS.iconst X304.here hx rfl (hb hby at_140) (XS.goto X304.here hx rfl (pc0 := 141) (pc' := 145) rfl (hb hby at_141) (by decide) (by decide) (XS.icmpYes X304.here hx rfl (pc0 := 145) (pc' := 150) rfl (hb hby at_145) rfl (XT.ii_eq_t (by decide : (1 : Int32) = (1 : Int32))) (by decide) (by decide) (XS.iload X304.here hx rfl (hb hby at_150) rfl (XS.ifNo X304.here hx rfl (hb hby at_152) rfl (XT.i0_ne_f (by decide : (0 : Int32) = 0)) (XS.aconstNull X304.here hx rfl (hb hby at_155) k_)))))))) ?_
    show oEW Z p e below s _ _ _ (T304.setTop (mkF m 156 #[.val (.int p1), .val (.int p2), .val (.int p3), .val (.int p4), .val (.int (0 : Int32)), .val (.ref b290), .val (.ref b294), .val c7, .val c8, .val c9, .val (.ref b302), .unset, .unset] [.null]))
    refine oW (fun _ k_ => XS.goto X304.here hx rfl (pc0 := 156) (pc' := 161) rfl (hb hby at_156) (by decide) (by decide) (XS.astore X304.here hx rfl (hb hby at_161) rfl rfl (l' := #[.val (.int p1), .val (.int p2), .val (.int p3), .val (.int p4), .val (.int (0 : Int32)), .val (.ref b290), .val (.ref b294), .val c7, .val c8, .val c9, .val (.ref b302), .val .null, .unset]) rfl (XS.aload X304.here hx rfl (hb hby at_163) rfl rfl k_))) ?_
    show oEW Z p e below s _ _ _ (T304.setTop (mkF m 165 #[.val (.int p1), .val (.int p2), .val (.int p3), .val (.int p4), .val (.int (0 : Int32)), .val (.ref b290), .val (.ref b294), .val c7, .val c8, .val c9, .val (.ref b302), .val .null, .unset] [(.ref b302)]))
    obtain ⟨T305, L305, X305, N305, e305, st305⟩ := cl_rmfc X304 hw hZ hx hown (wd_ hw 62 rfl) b302 0 0 .null W302.n Q302 rfl e304 Q302.1 N304 hml rfl (hb hby at_165) (Ls := #[.val (.int p1), .val (.int p2), .val (.int p3), .val (.int p4), .val (.int (0 : Int32)), .val (.ref b290), .val (.ref b294), .val c7, .val c8, .val c9, .val (.ref b302), .val .null, .unset]) (rest := []) rfl
    refine oW (fun _ k_ => st305 _ k_) ?_
    refine oW (fun _ k_ => XS.aload X305.here hx rfl (hb hby at_168) rfl rfl (Jvm.RoadKit.acmp (g := (mkF m 170 #[.val (.int p1), .val (.int p2), .val (.int p3), .val (.int p4), .val (.int (0 : Int32)), .val (.ref b290), .val (.ref b294), .val c7, .val c8, .val c9, .val (.ref b302), .val .null, .unset] [.null, .null])) X305 hx rfl rfl rfl (pc0 := 170) (pc' := 175) (same := true) rfl (hb hby at_170) rfl (decide_eq_true rfl) (by decide) (by decide) (XS.iload X305.here hx rfl (hb hby at_175) rfl (XS.ifNo X305.here hx rfl (hb hby at_177) rfl (XT.i0_ne_f (by decide : (0 : Int32) = 0)) (XS.iconst X305.here hx rfl (hb hby at_180) k_))))) ?_
    show oEW Z p e below s _ _ _ (T305.setTop (mkF m 181 #[.val (.int p1), .val (.int p2), .val (.int p3), .val (.int p4), .val (.int (0 : Int32)), .val (.ref b290), .val (.ref b294), .val c7, .val c8, .val c9, .val (.ref b302), .val .null, .unset] [(.int (1 : Int32))]))
    exact own_retNW hw X305 hZ hh W302 e305 hx (t := .boolean) hret (by simp) hlk (hb hby at_181) (by decide) (by decide) rfl ⟨rfl, N305⟩
  · rw [h4]
    show oEW Z p e below s _ _ _ (T303.setTop (mkF m 88 #[.val (.int p1), .val (.int p2), .val (.int p3), .val (.int p4), .val (.int (1 : Int32)), .val (.ref b290), .val (.ref b294), .val c7, .val c8, .val c9, .val (.ref b302), .unset, .unset] []))
    refine oW (fun _ k_ => XS.iload X303.here hx rfl (hb hby at_88) rfl (XS.iconst X303.here hx rfl (hb hby at_90) (XS.icmpNo X303.here hx rfl (hb hby at_91) rfl (XT.ii_lt_f (by decide : ¬ ((1 : Int32) < (1 : Int32)))) (XS.aload X303.here hx rfl (hb hby at_94) rfl rfl (XS.iloadN X303.here hx rfl (hb hby at_96) rfl (XS.aload X303.here hx rfl (hb hby at_97) rfl r_c7 k_)))))) ?_
    show oEW Z p e below s _ _ _ (T303.setTop (mkF m 99 #[.val (.int p1), .val (.int p2), .val (.int p3), .val (.int p4), .val (.int (1 : Int32)), .val (.ref b290), .val (.ref b294), .val c7, .val c8, .val c9, .val (.ref b302), .unset, .unset] [c7, (.int p1), (.ref b302)]))
    obtain ⟨v306, T306, L306, X306, hQ306, st306⟩ := cl_rmad0 X303 hw hZ hx hown (wd_ hw 46 rfl) b302 p1 c7 (0 : Int32) .null W302.n r_c7 Q302 n0_b302 e303 Q302.1 hml rfl (hb hby at_99) (Ls := #[.val (.int p1), .val (.int p2), .val (.int p3), .val (.int p4), .val (.int (1 : Int32)), .val (.ref b290), .val (.ref b294), .val c7, .val c8, .val c9, .val (.ref b302), .unset, .unset]) (rest := []) rfl
    obtain ⟨rfl, N306q, K306k, Q306⟩ := hQ306
    have W306 := W302.keep K306k (sfS (Safe.exa hZ.alike Q302.1 (by decide) (by decide)) sf0) (allS hqb302 all0)
    have N306 := Fr.app N303 N306q
    refine oW (fun _ k_ => st306 _ k_) ?_
    show oEW Z p e below s _ _ _ (T306.setTop (mkF m 102 #[.val (.int p1), .val (.int p2), .val (.int p3), .val (.int p4), .val (.int (1 : Int32)), .val (.ref b290), .val (.ref b294), .val c7, .val c8, .val c9, .val (.ref b302), .unset, .unset] []))
    refine oW (fun _ k_ => XS.iload X306.here hx rfl (hb hby at_102) rfl (XS.iconst X306.here hx rfl (hb hby at_104) (XS.icmpYes X306.here hx rfl (pc0 := 105) (pc' := 116) rfl (hb hby at_105) rfl (XT.ii_lt_t (by decide : (1 : Int32) < (2 : Int32))) (by decide) (by decide) (XS.iload X306.here hx rfl (hb hby at_116) rfl (XS.iconst X306.here hx rfl (hb hby at_118) (XS.icmpYes X306.here hx rfl (pc0 := 119) (pc' := 130) rfl (hb hby at_119) rfl (XT.ii_lt_t (by decide : (1 : Int32) < (3 : Int32))) (by decide) (by decide) k_)))))) ?_
    show oEW Z p e below s _ _ _ (T306.setTop (mkF m 130 #[.val (.int p1), .val (.int p2), .val (.int p3), .val (.int p4), .val (.int (1 : Int32)), .val (.ref b290), .val (.ref b294), .val c7, .val c8, .val c9, .val (.ref b302), .unset, .unset] []))
    exact own_l130 hw hZ hx hby hlk hret hml hown hh Wd Rw W306 rfl N306 (Or.inl rfl) Q306 (F7.keep W306.Kb) X306
  · rw [h4]
    show oEW Z p e below s _ _ _ (T303.setTop (mkF m 88 #[.val (.int p1), .val (.int p2), .val (.int p3), .val (.int p4), .val (.int (2 : Int32)), .val (.ref b290), .val (.ref b294), .val c7, .val c8, .val c9, .val (.ref b302), .unset, .unset] []))
    refine oW (fun _ k_ => XS.iload X303.here hx rfl (hb hby at_88) rfl (XS.iconst X303.here hx rfl (hb hby at_90) (XS.icmpNo X303.here hx rfl (hb hby at_91) rfl (XT.ii_lt_f (by decide : ¬ ((2 : Int32) < (1 : Int32)))) (XS.aload X303.here hx rfl (hb hby at_94) rfl rfl (XS.iloadN X303.here hx rfl (hb hby at_96) rfl (XS.aload X303.here hx rfl (hb hby at_97) rfl r_c7 k_)))))) ?_
    show oEW Z p e below s _ _ _ (T303.setTop (mkF m 99 #[.val (.int p1), .val (.int p2), .val (.int p3), .val (.int p4), .val (.int (2 : Int32)), .val (.ref b290), .val (.ref b294), .val c7, .val c8, .val c9, .val (.ref b302), .unset, .unset] [c7, (.int p1), (.ref b302)]))
    obtain ⟨v307, T307, L307, X307, hQ307, st307⟩ := cl_rmad0 X303 hw hZ hx hown (wd_ hw 46 rfl) b302 p1 c7 (0 : Int32) .null W302.n r_c7 Q302 n0_b302 e303 Q302.1 hml rfl (hb hby at_99) (Ls := #[.val (.int p1), .val (.int p2), .val (.int p3), .val (.int p4), .val (.int (2 : Int32)), .val (.ref b290), .val (.ref b294), .val c7, .val c8, .val c9, .val (.ref b302), .unset, .unset]) (rest := []) rfl
    obtain ⟨rfl, N307q, K307k, Q307⟩ := hQ307
    have W307 := W302.keep K307k (sfS (Safe.exa hZ.alike Q302.1 (by decide) (by decide)) sf0) (allS hqb302 all0)
    have N307 := Fr.app N303 N307q
    refine oW (fun _ k_ => st307 _ k_) ?_
    show oEW Z p e below s _ _ _ (T307.setTop (mkF m 102 #[.val (.int p1), .val (.int p2), .val (.int p3), .val (.int p4), .val (.int (2 : Int32)), .val (.ref b290), .val (.ref b294), .val c7, .val c8, .val c9, .val (.ref b302), .unset, .unset] []))
    refine oW (fun _ k_ => XS.iload X307.here hx rfl (hb hby at_102) rfl (XS.iconst X307.here hx rfl (hb hby at_104) (XS.icmpNo X307.here hx rfl (hb hby at_105) rfl (XT.ii_lt_f (by decide : ¬ ((2 : Int32) < (2 : Int32)))) (XS.aload X307.here hx rfl (hb hby at_108) rfl rfl (XS.iloadN X307.here hx rfl (hb hby at_110) rfl (XS.aload X307.here hx rfl (hb hby at_111) rfl r_c8 k_)))))) ?_
    show oEW Z p e below s _ _ _ (T307.setTop (mkF m 113 #[.val (.int p1), .val (.int p2), .val (.int p3), .val (.int p4), .val (.int (2 : Int32)), .val (.ref b290), .val (.ref b294), .val c7, .val c8, .val c9, .val (.ref b302), .unset, .unset] [c8, (.int p2), (.ref b302)]))
    obtain ⟨v308, T308, L308, X308, hQ308, st308⟩ := cl_rmad1 X307 hw hZ hx hown (wd_ hw 46 rfl) b302 p2 c8 p1 c7 W307.n r_c8 Q307 n0_b302 rfl Q307.1 hml rfl (hb hby at_113) (Ls := #[.val (.int p1), .val (.int p2), .val (.int p3), .val (.int p4), .val (.int (2 : Int32)), .val (.ref b290), .val (.ref b294), .val c7, .val c8, .val c9, .val (.ref b302), .unset, .unset]) (rest := []) rfl
    obtain ⟨rfl, N308q, K308k, Q308⟩ := hQ308
    have W308 := W307.keep K308k (sfS (Safe.exa hZ.alike Q307.1 (by decide) (by decide)) sf0) (allS hqb302 all0)
    have N308 := Fr.app N307 N308q
    refine oW (fun _ k_ => st308 _ k_) ?_
    show oEW Z p e below s _ _ _ (T308.setTop (mkF m 116 #[.val (.int p1), .val (.int p2), .val (.int p3), .val (.int p4), .val (.int (2 : Int32)), .val (.ref b290), .val (.ref b294), .val c7, .val c8, .val c9, .val (.ref b302), .unset, .unset] []))
    refine oW (fun _ k_ => XS.iload X308.here hx rfl (hb hby at_116) rfl (XS.iconst X308.here hx rfl (hb hby at_118) (XS.icmpYes X308.here hx rfl (pc0 := 119) (pc' := 130) rfl (hb hby at_119) rfl (XT.ii_lt_t (by decide : (2 : Int32) < (3 : Int32))) (by decide) (by decide) k_))) ?_
    show oEW Z p e below s _ _ _ (T308.setTop (mkF m 130 #[.val (.int p1), .val (.int p2), .val (.int p3), .val (.int p4), .val (.int (2 : Int32)), .val (.ref b290), .val (.ref b294), .val c7, .val c8, .val c9, .val (.ref b302), .unset, .unset] []))
    exact own_l130 hw hZ hx hby hlk hret hml hown hh Wd Rw W308 rfl N308 (Or.inr (Or.inl rfl)) Q308 (F7.keep W308.Kb) X308
  · rw [h4]
    show oEW Z p e below s _ _ _ (T303.setTop (mkF m 88 #[.val (.int p1), .val (.int p2), .val (.int p3), .val (.int p4), .val (.int (3 : Int32)), .val (.ref b290), .val (.ref b294), .val c7, .val c8, .val c9, .val (.ref b302), .unset, .unset] []))
    refine oW (fun _ k_ => XS.iload X303.here hx rfl (hb hby at_88) rfl (XS.iconst X303.here hx rfl (hb hby at_90) (XS.icmpNo X303.here hx rfl (hb hby at_91) rfl (XT.ii_lt_f (by decide : ¬ ((3 : Int32) < (1 : Int32)))) (XS.aload X303.here hx rfl (hb hby at_94) rfl rfl (XS.iloadN X303.here hx rfl (hb hby at_96) rfl (XS.aload X303.here hx rfl (hb hby at_97) rfl r_c7 k_)))))) ?_
    show oEW Z p e below s _ _ _ (T303.setTop (mkF m 99 #[.val (.int p1), .val (.int p2), .val (.int p3), .val (.int p4), .val (.int (3 : Int32)), .val (.ref b290), .val (.ref b294), .val c7, .val c8, .val c9, .val (.ref b302), .unset, .unset] [c7, (.int p1), (.ref b302)]))
    obtain ⟨v309, T309, L309, X309, hQ309, st309⟩ := cl_rmad0 X303 hw hZ hx hown (wd_ hw 46 rfl) b302 p1 c7 (0 : Int32) .null W302.n r_c7 Q302 n0_b302 e303 Q302.1 hml rfl (hb hby at_99) (Ls := #[.val (.int p1), .val (.int p2), .val (.int p3), .val (.int p4), .val (.int (3 : Int32)), .val (.ref b290), .val (.ref b294), .val c7, .val c8, .val c9, .val (.ref b302), .unset, .unset]) (rest := []) rfl
    obtain ⟨rfl, N309q, K309k, Q309⟩ := hQ309
    have W309 := W302.keep K309k (sfS (Safe.exa hZ.alike Q302.1 (by decide) (by decide)) sf0) (allS hqb302 all0)
    have N309 := Fr.app N303 N309q
    refine oW (fun _ k_ => st309 _ k_) ?_
    show oEW Z p e below s _ _ _ (T309.setTop (mkF m 102 #[.val (.int p1), .val (.int p2), .val (.int p3), .val (.int p4), .val (.int (3 : Int32)), .val (.ref b290), .val (.ref b294), .val c7, .val c8, .val c9, .val (.ref b302), .unset, .unset] []))
    refine oW (fun _ k_ => XS.iload X309.here hx rfl (hb hby at_102) rfl (XS.iconst X309.here hx rfl (hb hby at_104) (XS.icmpNo X309.here hx rfl (hb hby at_105) rfl (XT.ii_lt_f (by decide : ¬ ((3 : Int32) < (2 : Int32)))) (XS.aload X309.here hx rfl (hb hby at_108) rfl rfl (XS.iloadN X309.here hx rfl (hb hby at_110) rfl (XS.aload X309.here hx rfl (hb hby at_111) rfl r_c8 k_)))))) ?_
    show oEW Z p e below s _ _ _ (T309.setTop (mkF m 113 #[.val (.int p1), .val (.int p2), .val (.int p3), .val (.int p4), .val (.int (3 : Int32)), .val (.ref b290), .val (.ref b294), .val c7, .val c8, .val c9, .val (.ref b302), .unset, .unset] [c8, (.int p2), (.ref b302)]))
    obtain ⟨v310, T310, L310, X310, hQ310, st310⟩ := cl_rmad1 X309 hw hZ hx hown (wd_ hw 46 rfl) b302 p2 c8 p1 c7 W309.n r_c8 Q309 n0_b302 rfl Q309.1 hml rfl (hb hby at_113) (Ls := #[.val (.int p1), .val (.int p2), .val (.int p3), .val (.int p4), .val (.int (3 : Int32)), .val (.ref b290), .val (.ref b294), .val c7, .val c8, .val c9, .val (.ref b302), .unset, .unset]) (rest := []) rfl
    obtain ⟨rfl, N310q, K310k, Q310⟩ := hQ310
    have W310 := W309.keep K310k (sfS (Safe.exa hZ.alike Q309.1 (by decide) (by decide)) sf0) (allS hqb302 all0)
    have N310 := Fr.app N309 N310q
    refine oW (fun _ k_ => st310 _ k_) ?_
    show oEW Z p e below s _ _ _ (T310.setTop (mkF m 116 #[.val (.int p1), .val (.int p2), .val (.int p3), .val (.int p4), .val (.int (3 : Int32)), .val (.ref b290), .val (.ref b294), .val c7, .val c8, .val c9, .val (.ref b302), .unset, .unset] []))
    refine oW (fun _ k_ => XS.iload X310.here hx rfl (hb hby at_116) rfl (XS.iconst X310.here hx rfl (hb hby at_118) (XS.icmpNo X310.here hx rfl (hb hby at_119) rfl (XT.ii_lt_f (by decide : ¬ ((3 : Int32) < (3 : Int32)))) (XS.aload X310.here hx rfl (hb hby at_122) rfl rfl (XS.iloadN X310.here hx rfl (hb hby at_124) rfl (XS.aload X310.here hx rfl (hb hby at_125) rfl r_c9 k_)))))) ?_
    show oEW Z p e below s _ _ _ (T310.setTop (mkF m 127 #[.val (.int p1), .val (.int p2), .val (.int p3), .val (.int p4), .val (.int (3 : Int32)), .val (.ref b290), .val (.ref b294), .val c7, .val c8, .val c9, .val (.ref b302), .unset, .unset] [c9, (.int p3), (.ref b302)]))
    obtain ⟨v311, T311, L311, X311, hQ311, st311⟩ := cl_rmad2 X310 hw hZ hx hown (wd_ hw 46 rfl) b302 p3 c9 p1 c7 W310.n r_c9 Q310 n0_b302 rfl Q310.1 hml rfl (hb hby at_127) (Ls := #[.val (.int p1), .val (.int p2), .val (.int p3), .val (.int p4), .val (.int (3 : Int32)), .val (.ref b290), .val (.ref b294), .val c7, .val c8, .val c9, .val (.ref b302), .unset, .unset]) (rest := []) rfl
    obtain ⟨rfl, N311q, K311k, Q311⟩ := hQ311
    have W311 := W310.keep K311k (sfS (Safe.exa hZ.alike Q310.1 (by decide) (by decide)) sf0) (allS hqb302 all0)
    have N311 := Fr.app N310 N311q
    refine oW (fun _ k_ => st311 _ k_) ?_
    show oEW Z p e below s _ _ _ (T311.setTop (mkF m 130 #[.val (.int p1), .val (.int p2), .val (.int p3), .val (.int p4), .val (.int (3 : Int32)), .val (.ref b290), .val (.ref b294), .val c7, .val c8, .val c9, .val (.ref b302), .unset, .unset] []))
    exact own_l130 hw hZ hx hby hlk hret hml hown hh Wd Rw W311 rfl N311 (Or.inr (Or.inr rfl)) Q311 (F7.keep W311.Kb) X311
set_option maxRecDepth 65536 in
set_option maxHeartbeats 40000000 in
theorem comes_1 {Post : Tables → Env → Array Value → State → Outcome → State → Prop} (hpost : ∀ tb e args s v u, (limb_1_1.after args s (.returned v) u = true ∧ limb_1_2.after args s (.returned v) u = true ∧ True) → Jvm.D.FramedW s (.returned v) u (Jvm.fieldLocs frame_1_writes args s ++ Jvm.arrayLocs frame_1_arrays args s ++ Jvm.staticLocs frame_1_statics s) 96 16384 → Post tb e args s (.returned v) u) :
    ArmFor flags0 classFile x code maxLocals ret World_1 tables_1 room_1 Calls_1 rest_1 Pre_1 Post := by
  intro l hfl _ _ p e ha hc hk s m args below hf hA hF happ hP
  obtain ⟨hcalls, hrest, hpre⟩ := hP
  obtain ⟨-, -, -, hnamed, -, -, -, hat⟩ := (Spec.applies_iff hf).mp happ
  obtain ⟨hg, hn⟩ := and_e (Cond.before_iff.mp (show (Jvm.Cond.and given_1 narrow_1).before args s = true from hpre))
  obtain ⟨g_c, g_0⟩ := and_e hg
  obtain ⟨w0, w1, w2, w3, rfl⟩ : ∃ w0 w1 w2 w3 : Value, args = #[w0, w1, w2, w3] := by
    have hs : args.size = 4 := by simpa [Cond.value, given_1] using g_c
    obtain ⟨L⟩ := args
    match L, hs with
    | [w0, w1, w2, w3], _ => exact ⟨w0, w1, w2, w3, rfl⟩
  have hw := fun d (hd : d ∈ tables_1) => atoms_spec (ws := Jvm.Cond.code x code maxLocals ret :: tables_1) hat d (List.mem_cons_of_mem _ hd)
  obtain ⟨g_v0, g_1⟩ := and_e g_0
  obtain ⟨i0, ei0⟩ := is_v g_v0
  obtain rfl : w0 = (.int i0) := Option.some.inj ei0
  obtain ⟨g_v1, g_2⟩ := and_e g_1
  obtain ⟨i1, ei1⟩ := is_v g_v1
  obtain rfl : w1 = (.int i1) := Option.some.inj ei1
  obtain ⟨g_v2, g_3⟩ := and_e g_2
  obtain ⟨i2, ei2⟩ := is_v g_v2
  obtain rfl : w2 = (.int i2) := Option.some.inj ei2
  obtain ⟨i3, ei3⟩ := is_v g_3
  obtain rfl : w3 = (.int i3) := Option.some.inj ei3
  have hr := Cond.before_iff.mp (show rest_1_c.before _ s = true from hrest)
  obtain ⟨cs, fm, d1, d2, rn, ri, wn, wna, wi, wia, Wd, Rw⟩ := own_start hw hr hn
  have CH : CHv s own_EL s.vm s.heap := CHv.start (own_EW hw) hcalls.1 (Cond.before_iff.mpr (and_e (and_e (and_e hr).2).2).1) (wd_ hw 30 rfl) (wd_ hw 29 rfl)
  obtain ⟨n, o, h1, h2, h3, _, L, rfl, ⟨rfl, N⟩, -, hq⟩ := rm0 l s _ hw tables_1 i0 i1 i2 i3 cs fm d1 d2 rn ri wn wna wi wia s.heap s.heap.size (Nat.le_refl _) Wd (Old.start s) Rw p e ha hc hk s m _ below hf ((Spec.applies_iff_loose hf).mp happ).1 ⟨rfl, State.Warmed39.refl s, rfl, CH⟩ trivial
  refine ⟨n, _, h1, h2, h3, hpost _ _ _ _ _ _ ⟨Cond.after_iff.mpr rfl, Cond.after_iff.mpr (eq_i res_at (Term.int_eval (1)) rfl), trivial⟩ ⟨hq.1, hq.2.1, hq.2.2.1, (hq.2.2.2.sift fun y hy => Or.inr (N y hy)).mono (by decide) (by decide)⟩⟩
theorem main_1_1 : Claimed_1_1 := comes_1 fun _ _ _ _ _ _ h hF => ⟨h.1, hF⟩
theorem main_1_2 : Claimed_1_2 := comes_1 fun _ _ _ _ _ _ h hF => ⟨h.2.1, hF⟩
end Jvm.Pilot.@@N@@
namespace Jvm.Pilot.@@N@@
open Jvm Jvm.ClassFile Sem Op Lib Jvm.Free Jvm.Stand Jvm.Pilot.@@N@@.Jvm.D
/-! MADE BY PROGRAM (witnessworld.py) out of the Statement's table words and the real class files: 27 classes; the members and pool entries that the words name. The judged class is class 1, her method 1. -/
namespace start1
open Jvm.ClassFile
def u (s : String) : CpInfo := .utf8 (stringToUtf16 s)
/-- a pool by its gaps: so many unusable entries, then the entry; so many at the end -/
def gap : Nat → List CpInfo → List CpInfo
  | 0, r => r
  | n + 1, r => .unusable :: gap n r
def poolList (es : List (Nat × CpInfo)) (last : Nat) : List CpInfo := es.foldr (fun e r => gap e.1 (e.2 :: r)) (gap last [])
def pool (es : List (Nat × CpInfo)) (last : Nat) : Array CpInfo := ⟨poolList es last⟩
def fileOf (pool : Array CpInfo) (this : Nat) (attrs : Array Attribute := #[]) (ms : Array MethodInfo := #[]) (fl : Nat := 33) (sup : Nat := 0) (ifs : Array Nat := #[]) (fds : Array FieldInfo := #[]) : ClassFile where
  minorVersion := 0
  majorVersion := 65
  constantPool := pool
  accessFlags := fl
  thisClass := this
  superClass := sup
  interfaces := ifs
  fields := fds
  methods := ms
  attributes := attrs
def plain (name : String) (sup : Option ClassId) : Class where
  name := name
  kind := .ordinary
  loader := none
  accessFlags := 33
  super := sup
  interfaces := #[]
  cf := none
  fields := #[]
  methods := #[]
  instanceTypes := #[]
  staticTypes := #[]
  resolved := #[]
  callSites := []
  init := .initialized
  statics := none
  mirror := none

def pool0 : Array CpInfo := pool [(5, u "<init>"), (0, u "()V"), (1, .class_ 10), (1, u "java/lang/Object"), (85, u "clone"), (0, u "()Ljava/lang/Object;")] 26

def k0c0 : Code := { maxStack := 0, maxLocals := 1, code := object_method_1_code, exceptionTable := #[], attributes := #[] }
def k0m0 : Method := { name := "<init>", desc := "()V", sig := { parameters := [], returnType := none }, accessFlags := 1, code := some k0c0 }
def k0m1 : Method := { name := "clone", desc := "()Ljava/lang/Object;", sig := { parameters := [], returnType := some (.object "java/lang/Object") }, accessFlags := 260, code := none }
/-- java/lang/Object -/
def k0 : Class := { plain "java/lang/Object" none with
  accessFlags := 33
  interfaces := #[]
  cf := some (fileOf pool0 8 #[] #[{ accessFlags := 1, nameIndex := 5, descriptorIndex := 6, attributes := #[] }, { accessFlags := 260, nameIndex := 96, descriptorIndex := 97, attributes := #[] }] 33 0 #[] #[])
  fields := #[]
  methods := #[k0m0, k0m1]
  instanceTypes := #[]
  staticTypes := #[]
  resolved := Array.replicate 124 none
  statics := none }

def pool1 : Array CpInfo := pool [(2, .class_ 4), (0, .nameAndType 5 6), (0, u "java/lang/Object"), (0, u "<init>"), (0, u "()V"), (0, .class_ 8), (0, u "com/example/nalog/nalog/OrderClass"), (0, .fieldref 10 11), (0, .class_ 12), (0, .nameAndType 13 14), (0, u "com/example/nalog/nalog/OrderClass$Reach"), (0, u "NATIONAL"), (0, u "Lcom/example/nalog/nalog/OrderClass$Reach;"), (0, .methodref 7 16), (0, .nameAndType 5 17), (0, u "(Lcom/example/nalog/nalog/OrderClass$Reach;ZZLjava/lang/String;)V"), (0, .fieldref 10 19), (0, .nameAndType 20 14), (0, u "INTERNATIONAL"), (0, .string 22), (0, u "b"), (0, .methodref 24 25), (0, .class_ 26), (0, .nameAndType 27 28), (0, u "com/example/nalog/nalog/OrderCountAddPinLaw"), (0, u "pick"), (0, u "(ILcom/example/nalog/nalog/OrderClass;Lcom/example/nalog/nalog/OrderClass;)Lcom/example/nalog/nalog/OrderClass;"), (0, .class_ 30), (0, u "com/example/nalog/nalog/OrderCount"), (0, .methodref 29 3), (0, .methodref 29 33), (0, .nameAndType 34 35), (0, u "add"), (0, u "(ILcom/example/nalog/nalog/OrderClass;)V"), (0, .methodref 29 37), (0, .nameAndType 38 39), (0, u "isEmpty"), (0, u "()Z"), (0, .methodref 29 41), (0, .nameAndType 42 43), (0, u "firstClass"), (0, u "()Lcom/example/nalog/nalog/OrderClass;"), (0, .string 45), (0, u "s"), (0, .string 47), (0, u "p"), (0, .methodref 29 49), (0, .nameAndType 50 51), (0, u "describe"), (0, u "(Ljava/lang/String;Ljava/lang/String;)Ljava/lang/String;"), (0, .methodref 24 53), (0, .nameAndType 54 55), (0, u "describes"), (0, u "(Ljava/lang/String;IIZ)Z"), (0, .methodref 24 57), (0, .nameAndType 58 59), (0, u "numberAt"), (0, u "(Ljava/lang/String;II)Z"), (0, .methodref 24 61), (0, .nameAndType 62 63), (0, u "decLen"), (0, u "(I)I"), (0, .methodref 65 66), (0, .class_ 67), (0, .nameAndType 68 69), (0, u "java/lang/String"), (0, u "length"), (0, u "()I"), (0, .methodref 65 71), (0, .nameAndType 72 73), (0, u "charAt"), (0, u "(I)C"), (0, .long 10), (1, .long 100), (1, .long 1000), (1, .long 10000), (1, .long 100000), (1, .long 1000000), (1, .long 10000000), (1, .long 100000000), (1, .long 1000000000), (1, .methodref 93 94), (0, .class_ 95), (0, .nameAndType 96 97), (0, u "java/lang/Math"), (0, u "abs"), (0, u "(J)J"), (0, .methodref 24 99), (0, .nameAndType 100 101), (0, u "digits"), (0, u "(J)I"), (0, .methodref 24 103), (0, .nameAndType 104 105), (0, u "pow10"), (0, u "(I)J"), (0, .methodref 24 107), (0, .nameAndType 108 109), (0, u "decChar"), (0, u "(II)C"), (2, u "law"), (0, u "(IIII)Z")] 5

def k1m0 : Method := { name := "<init>", desc := "()V", sig := { parameters := [], returnType := none }, accessFlags := 1, code := none }
def k1c1 : Code := { maxStack := 6, maxLocals := 13, code := code, exceptionTable := #[], attributes := #[] }
def k1m1 : Method := { name := "law", desc := "(IIII)Z", sig := { parameters := [.int, .int, .int, .int], returnType := some .boolean }, accessFlags := 9, code := some k1c1 }
def k1c2 : Code := { maxStack := 2, maxLocals := 3, code := method_3_code, exceptionTable := #[], attributes := #[] }
def k1m2 : Method := { name := "pick", desc := "(ILcom/example/nalog/nalog/OrderClass;Lcom/example/nalog/nalog/OrderClass;)Lcom/example/nalog/nalog/OrderClass;", sig := { parameters := [.int, (.object "com/example/nalog/nalog/OrderClass"), (.object "com/example/nalog/nalog/OrderClass")], returnType := some (.object "com/example/nalog/nalog/OrderClass") }, accessFlags := 10, code := some k1c2 }
def k1c3 : Code := { maxStack := 3, maxLocals := 10, code := method_4_code, exceptionTable := #[], attributes := #[] }
def k1m3 : Method := { name := "describes", desc := "(Ljava/lang/String;IIZ)Z", sig := { parameters := [(.object "java/lang/String"), .int, .int, .boolean], returnType := some .boolean }, accessFlags := 10, code := some k1c3 }
def k1c4 : Code := { maxStack := 4, maxLocals := 2, code := method_5_code, exceptionTable := #[], attributes := #[] }
def k1m4 : Method := { name := "digits", desc := "(J)I", sig := { parameters := [.long], returnType := some .int }, accessFlags := 10, code := some k1c4 }
def k1c5 : Code := { maxStack := 2, maxLocals := 1, code := method_6_code, exceptionTable := #[], attributes := #[] }
def k1m5 : Method := { name := "pow10", desc := "(I)J", sig := { parameters := [.int], returnType := some .long }, accessFlags := 10, code := some k1c5 }
def k1c6 : Code := { maxStack := 2, maxLocals := 2, code := method_7_code, exceptionTable := #[], attributes := #[] }
def k1m6 : Method := { name := "decLen", desc := "(I)I", sig := { parameters := [.int], returnType := some .int }, accessFlags := 10, code := some k1c6 }
def k1c7 : Code := { maxStack := 5, maxLocals := 8, code := method_8_code, exceptionTable := #[], attributes := #[] }
def k1m7 : Method := { name := "decChar", desc := "(II)C", sig := { parameters := [.int, .int], returnType := some .char }, accessFlags := 10, code := some k1c7 }
def k1c8 : Code := { maxStack := 3, maxLocals := 4, code := method_9_code, exceptionTable := #[], attributes := #[] }
def k1m8 : Method := { name := "numberAt", desc := "(Ljava/lang/String;II)Z", sig := { parameters := [(.object "java/lang/String"), .int, .int], returnType := some .boolean }, accessFlags := 10, code := some k1c8 }
/-- com/example/nalog/nalog/OrderCountAddPinLaw -/
def k1 : Class := { plain "com/example/nalog/nalog/OrderCountAddPinLaw" (some 0) with
  accessFlags := 49
  interfaces := #[]
  cf := some (fileOf pool1 24 #[] #[{ accessFlags := 1, nameIndex := 5, descriptorIndex := 6, attributes := #[] }, { accessFlags := 9, nameIndex := 112, descriptorIndex := 113, attributes := #[] }, { accessFlags := 10, nameIndex := 27, descriptorIndex := 28, attributes := #[] }, { accessFlags := 10, nameIndex := 54, descriptorIndex := 55, attributes := #[] }, { accessFlags := 10, nameIndex := 100, descriptorIndex := 101, attributes := #[] }, { accessFlags := 10, nameIndex := 104, descriptorIndex := 105, attributes := #[] }, { accessFlags := 10, nameIndex := 62, descriptorIndex := 63, attributes := #[] }, { accessFlags := 10, nameIndex := 108, descriptorIndex := 109, attributes := #[] }, { accessFlags := 10, nameIndex := 58, descriptorIndex := 59, attributes := #[] }] 49 2 #[] #[])
  fields := #[]
  methods := #[k1m0, k1m1, k1m2, k1m3, k1m4, k1m5, k1m6, k1m7, k1m8]
  instanceTypes := #[]
  staticTypes := #[]
  resolved := Array.replicate 119 none
  statics := none }

def pool2 : Array CpInfo := pool [(1, .methodref 2 3), (0, .class_ 4), (0, .nameAndType 5 6), (0, u "java/lang/Object"), (0, u "<init>"), (0, u "()V"), (0, .class_ 8), (0, u "java/lang/Record")] 13

def k2c0 : Code := { maxStack := 1, maxLocals := 1, code := jdk_30_method_1_code, exceptionTable := #[], attributes := #[] }
def k2m0 : Method := { name := "<init>", desc := "()V", sig := { parameters := [], returnType := none }, accessFlags := 4, code := some k2c0 }
/-- java/lang/Record -/
def k2 : Class := { plain "java/lang/Record" (some 0) with
  accessFlags := 1057
  interfaces := #[]
  cf := some (fileOf pool2 7 #[] #[{ accessFlags := 4, nameIndex := 5, descriptorIndex := 6, attributes := #[] }] 1057 2 #[] #[])
  fields := #[]
  methods := #[k2m0]
  instanceTypes := #[]
  staticTypes := #[]
  resolved := Array.replicate 22 none
  statics := none }

def pool3 : Array CpInfo := pool [(3, .methodref 4 5), (0, .class_ 6), (0, .nameAndType 7 8), (0, u "java/lang/Record"), (0, u "<init>"), (0, u "()V"), (0, .fieldref 10 11), (0, .class_ 12), (0, .nameAndType 13 14), (0, u "com/example/nalog/nalog/OrderClass"), (0, u "reach"), (0, u "Lcom/example/nalog/nalog/OrderClass$Reach;"), (0, .fieldref 10 16), (0, .nameAndType 17 18), (0, u "cheque"), (0, u "Z"), (0, .fieldref 10 20), (0, .nameAndType 21 18), (0, u "euro"), (0, .fieldref 10 23), (0, .nameAndType 24 25), (0, u "otherBecause"), (0, u "Ljava/lang/String;"), (18, u "SEPA_COUNTRIES"), (0, u "Ljava/util/Set;"), (5, .fieldref 52 53), (0, .class_ 54), (0, .nameAndType 55 14), (0, u "com/example/nalog/nalog/OrderClass$Reach"), (0, u "INTERNATIONAL"), (18, .class_ 75), (0, u "java/lang/StringBuilder"), (0, .methodref 74 5), (2, .methodref 74 80), (0, .nameAndType 81 82), (0, u "append"), (0, u "(Ljava/lang/String;)Ljava/lang/StringBuilder;"), (0, .methodref 74 84), (0, .nameAndType 85 86), (0, u "toString"), (0, u "()Ljava/lang/String;"), (12, u "(Lcom/example/nalog/nalog/OrderClass$Reach;ZZLjava/lang/String;)V"), (0, .methodref 10 101), (0, .nameAndType 102 103), (0, u "isSepa"), (0, u "()Z"), (31, u "SEPA_CHARGE_BEARERS"), (0, u "Ljava/util/List;"), (2, u "INTERNATIONAL_CHARGE_BEARERS"), (2, u "SEPA_ZONE_CHARGE_BEARERS"), (2, u "SEPA_AMOUNT_LIMIT"), (0, u "Ljava/math/BigDecimal;"), (2, u "OTHER_AMOUNT_LIMIT"), (3, .string 154), (0, u "an "), (0, .string 156), (0, u "a "), (0, .fieldref 52 158), (0, .nameAndType 159 25), (0, u "word"), (0, .string 161), (0, u " SEPA order"), (0, .string 163), (0, u " non-SEPA order, as "), (137, u "CHEQUE"), (1, u "EURO"), (0, u "HIGH_PRIORITY"), (0, u "NORMAL_PRIORITY"), (0, u "SEPA_SERVICE_LEVEL"), (0, u "SEPA_CHARGE_BEARER"), (0, u "SHARED_CHARGES"), (26, u "describe")] 27

def k3c0 : Code := { maxStack := 2, maxLocals := 5, code := prog_76_method_1_code, exceptionTable := #[], attributes := #[] }
def k3m0 : Method := { name := "<init>", desc := "(Lcom/example/nalog/nalog/OrderClass$Reach;ZZLjava/lang/String;)V", sig := { parameters := [(.object "com/example/nalog/nalog/OrderClass$Reach"), .boolean, .boolean, (.object "java/lang/String")], returnType := none }, accessFlags := 0, code := some k3c0 }
def k3c1 : Code := { maxStack := 1, maxLocals := 1, code := prog_76_method_7_code, exceptionTable := #[], attributes := #[] }
def k3m1 : Method := { name := "isSepa", desc := "()Z", sig := { parameters := [], returnType := some .boolean }, accessFlags := 0, code := some k3c1 }
def k3c2 : Code := { maxStack := 2, maxLocals := 2, code := prog_76_method_22_code, exceptionTable := #[], attributes := #[] }
def k3m2 : Method := { name := "describe", desc := "()Ljava/lang/String;", sig := { parameters := [], returnType := some (.object "java/lang/String") }, accessFlags := 0, code := some k3c2 }
/-- com/example/nalog/nalog/OrderClass -/
def k3 : Class := { plain "com/example/nalog/nalog/OrderClass" (some 2) with
  accessFlags := 48
  interfaces := #[]
  cf := some (fileOf pool3 10 #[.nestMembers #[52]] #[{ accessFlags := 0, nameIndex := 7, descriptorIndex := 99, attributes := #[] }, { accessFlags := 0, nameIndex := 102, descriptorIndex := 103, attributes := #[] }, { accessFlags := 0, nameIndex := 335, descriptorIndex := 86, attributes := #[] }] 48 4 #[] #[{ accessFlags := 18, nameIndex := 13, descriptorIndex := 14, attributes := #[] }, { accessFlags := 18, nameIndex := 17, descriptorIndex := 18, attributes := #[] }, { accessFlags := 18, nameIndex := 21, descriptorIndex := 18, attributes := #[] }, { accessFlags := 18, nameIndex := 24, descriptorIndex := 25, attributes := #[] }, { accessFlags := 26, nameIndex := 301, descriptorIndex := 25, attributes := #[] }, { accessFlags := 24, nameIndex := 303, descriptorIndex := 25, attributes := #[] }, { accessFlags := 26, nameIndex := 304, descriptorIndex := 25, attributes := #[] }, { accessFlags := 26, nameIndex := 305, descriptorIndex := 25, attributes := #[] }, { accessFlags := 26, nameIndex := 306, descriptorIndex := 25, attributes := #[] }, { accessFlags := 26, nameIndex := 307, descriptorIndex := 25, attributes := #[] }, { accessFlags := 26, nameIndex := 308, descriptorIndex := 25, attributes := #[] }, { accessFlags := 26, nameIndex := 44, descriptorIndex := 45, attributes := #[] }, { accessFlags := 26, nameIndex := 135, descriptorIndex := 136, attributes := #[] }, { accessFlags := 26, nameIndex := 142, descriptorIndex := 136, attributes := #[] }, { accessFlags := 26, nameIndex := 139, descriptorIndex := 136, attributes := #[] }, { accessFlags := 26, nameIndex := 145, descriptorIndex := 146, attributes := #[] }, { accessFlags := 26, nameIndex := 149, descriptorIndex := 146, attributes := #[] }])
  fields := #[{ name := "reach", type := (.object "com/example/nalog/nalog/OrderClass$Reach"), accessFlags := 18, slot := 0, constantValue := 0 }, { name := "cheque", type := .boolean, accessFlags := 18, slot := 1, constantValue := 0 }, { name := "euro", type := .boolean, accessFlags := 18, slot := 2, constantValue := 0 }, { name := "otherBecause", type := (.object "java/lang/String"), accessFlags := 18, slot := 3, constantValue := 0 }, { name := "CHEQUE", type := (.object "java/lang/String"), accessFlags := 26, slot := 0, constantValue := 0 }, { name := "EURO", type := (.object "java/lang/String"), accessFlags := 24, slot := 1, constantValue := 0 }, { name := "HIGH_PRIORITY", type := (.object "java/lang/String"), accessFlags := 26, slot := 2, constantValue := 0 }, { name := "NORMAL_PRIORITY", type := (.object "java/lang/String"), accessFlags := 26, slot := 3, constantValue := 0 }, { name := "SEPA_SERVICE_LEVEL", type := (.object "java/lang/String"), accessFlags := 26, slot := 4, constantValue := 0 }, { name := "SEPA_CHARGE_BEARER", type := (.object "java/lang/String"), accessFlags := 26, slot := 5, constantValue := 0 }, { name := "SHARED_CHARGES", type := (.object "java/lang/String"), accessFlags := 26, slot := 6, constantValue := 0 }, { name := "SEPA_COUNTRIES", type := (.object "java/util/Set"), accessFlags := 26, slot := 7, constantValue := 0 }, { name := "SEPA_CHARGE_BEARERS", type := (.object "java/util/List"), accessFlags := 26, slot := 8, constantValue := 0 }, { name := "SEPA_ZONE_CHARGE_BEARERS", type := (.object "java/util/List"), accessFlags := 26, slot := 9, constantValue := 0 }, { name := "INTERNATIONAL_CHARGE_BEARERS", type := (.object "java/util/List"), accessFlags := 26, slot := 10, constantValue := 0 }, { name := "SEPA_AMOUNT_LIMIT", type := (.object "java/math/BigDecimal"), accessFlags := 26, slot := 11, constantValue := 0 }, { name := "OTHER_AMOUNT_LIMIT", type := (.object "java/math/BigDecimal"), accessFlags := 26, slot := 12, constantValue := 0 }]
  methods := #[k3m0, k3m1, k3m2]
  instanceTypes := #[(.object "com/example/nalog/nalog/OrderClass$Reach"), .boolean, .boolean, (.object "java/lang/String")]
  staticTypes := #[(.object "java/lang/String"), (.object "java/lang/String"), (.object "java/lang/String"), (.object "java/lang/String"), (.object "java/lang/String"), (.object "java/lang/String"), (.object "java/lang/String"), (.object "java/util/Set"), (.object "java/util/List"), (.object "java/util/List"), (.object "java/util/List"), (.object "java/math/BigDecimal"), (.object "java/math/BigDecimal")]
  resolved := (Array.replicate 363 none).set! 157 (some (.field 8 3))
  statics := none }

def pool4 : Array CpInfo := pool [(1, .class_ 2), (0, u "java/lang/constant/Constable"), (0, .class_ 4), (0, u "java/lang/Object")] 6

/-- java/lang/constant/Constable -/
def k4 : Class := { plain "java/lang/constant/Constable" (some 0) with
  accessFlags := 1537
  interfaces := #[]
  cf := some (fileOf pool4 1 #[] #[] 1537 3 #[] #[])
  fields := #[]
  methods := #[]
  instanceTypes := #[]
  staticTypes := #[]
  resolved := Array.replicate 11 none
  statics := none }

def pool5 : Array CpInfo := pool [(1, .class_ 2), (0, u "java/lang/Comparable"), (0, .class_ 4), (0, u "java/lang/Object")] 7

/-- java/lang/Comparable -/
def k5 : Class := { plain "java/lang/Comparable" (some 0) with
  accessFlags := 1537
  interfaces := #[]
  cf := some (fileOf pool5 1 #[] #[] 1537 3 #[] #[])
  fields := #[]
  methods := #[]
  instanceTypes := #[]
  staticTypes := #[]
  resolved := Array.replicate 12 none
  statics := none }

def pool6 : Array CpInfo := pool [(1, .class_ 2), (0, u "java/io/Serializable"), (0, .class_ 4), (0, u "java/lang/Object")] 2

/-- java/io/Serializable -/
def k6 : Class := { plain "java/io/Serializable" (some 0) with
  accessFlags := 1537
  interfaces := #[]
  cf := some (fileOf pool6 1 #[] #[] 1537 3 #[] #[])
  fields := #[]
  methods := #[]
  instanceTypes := #[]
  staticTypes := #[]
  resolved := Array.replicate 7 none
  statics := none }

def pool7 : Array CpInfo := pool [(2, .class_ 4), (1, u "java/lang/Enum"), (0, u "name"), (0, u "Ljava/lang/String;"), (2, u "ordinal"), (0, u "I"), (1, .class_ 14), (1, u "java/lang/Object"), (4, u "hash"), (86, .class_ 108), (1, u "java/lang/Enum$EnumDesc"), (2, .class_ 112), (0, u "java/lang/constant/Constable"), (0, .class_ 114), (0, u "java/lang/Comparable"), (0, .class_ 116), (0, u "java/io/Serializable")] 87

/-- java/lang/Enum -/
def k7 : Class := { plain "java/lang/Enum" (some 0) with
  accessFlags := 1057
  interfaces := #[4, 5, 6]
  cf := some (fileOf pool7 2 #[.nestMembers #[106]] #[] 1057 12 #[111, 113, 115] #[{ accessFlags := 18, nameIndex := 5, descriptorIndex := 6, attributes := #[] }, { accessFlags := 18, nameIndex := 9, descriptorIndex := 10, attributes := #[] }, { accessFlags := 2, nameIndex := 19, descriptorIndex := 10, attributes := #[] }])
  fields := #[{ name := "name", type := (.object "java/lang/String"), accessFlags := 18, slot := 0, constantValue := 0 }, { name := "ordinal", type := .int, accessFlags := 18, slot := 1, constantValue := 0 }, { name := "hash", type := .int, accessFlags := 2, slot := 2, constantValue := 0 }]
  methods := #[]
  instanceTypes := #[(.object "java/lang/String"), .int, .int]
  staticTypes := #[]
  resolved := Array.replicate 204 none
  statics := none }

def pool8 : Array CpInfo := pool [(1, .class_ 2), (0, u "com/example/nalog/nalog/OrderClass$Reach"), (2, u "NATIONAL"), (0, u "Lcom/example/nalog/nalog/OrderClass$Reach;"), (2, u "CROSS_BORDER"), (2, u "INTERNATIONAL"), (2, u "$VALUES"), (0, u "[Lcom/example/nalog/nalog/OrderClass$Reach;"), (6, .class_ 25), (1, u "java/lang/Enum"), (8, u "word"), (0, u "Ljava/lang/String;"), (29, .class_ 66), (0, u "com/example/nalog/nalog/OrderClass")] 2

/-- com/example/nalog/nalog/OrderClass$Reach -/
def k8 : Class := { plain "com/example/nalog/nalog/OrderClass$Reach" (some 7) with
  accessFlags := 16432
  interfaces := #[]
  cf := some (fileOf pool8 1 #[.nestHost 65] #[] 16432 23 #[] #[{ accessFlags := 16409, nameIndex := 5, descriptorIndex := 6, attributes := #[] }, { accessFlags := 16409, nameIndex := 9, descriptorIndex := 6, attributes := #[] }, { accessFlags := 16409, nameIndex := 12, descriptorIndex := 6, attributes := #[] }, { accessFlags := 18, nameIndex := 34, descriptorIndex := 35, attributes := #[] }, { accessFlags := 4122, nameIndex := 15, descriptorIndex := 16, attributes := #[] }])
  fields := #[{ name := "NATIONAL", type := (.object "com/example/nalog/nalog/OrderClass$Reach"), accessFlags := 16409, slot := 0, constantValue := 0 }, { name := "CROSS_BORDER", type := (.object "com/example/nalog/nalog/OrderClass$Reach"), accessFlags := 16409, slot := 1, constantValue := 0 }, { name := "INTERNATIONAL", type := (.object "com/example/nalog/nalog/OrderClass$Reach"), accessFlags := 16409, slot := 2, constantValue := 0 }, { name := "word", type := (.object "java/lang/String"), accessFlags := 18, slot := 3, constantValue := 0 }, { name := "$VALUES", type := (.array (.object "com/example/nalog/nalog/OrderClass$Reach")), accessFlags := 4122, slot := 3, constantValue := 0 }]
  methods := #[]
  instanceTypes := #[(.object "java/lang/String"), .int, .int, (.object "java/lang/String")]
  staticTypes := #[(.object "com/example/nalog/nalog/OrderClass$Reach"), (.object "com/example/nalog/nalog/OrderClass$Reach"), (.object "com/example/nalog/nalog/OrderClass$Reach"), (.array (.object "com/example/nalog/nalog/OrderClass$Reach"))]
  resolved := Array.replicate 69 none
  statics := some 0 }

def pool9 : Array CpInfo := pool [(2, .class_ 4), (1, u "java/lang/CharSequence"), (42, .class_ 48), (0, u "java/lang/CharSequence$1CodePointIterator"), (10, .class_ 60), (0, u "java/lang/CharSequence$1CharIterator"), (5, .class_ 67), (0, u "java/lang/Object")] 63

/-- java/lang/CharSequence -/
def k9 : Class := { plain "java/lang/CharSequence" (some 0) with
  accessFlags := 1537
  interfaces := #[]
  cf := some (fileOf pool9 2 #[.nestMembers #[47, 59]] #[] 1537 66 #[] #[])
  fields := #[]
  methods := #[]
  instanceTypes := #[]
  staticTypes := #[]
  resolved := Array.replicate 131 none
  statics := none }

def pool10 : Array CpInfo := pool [(1, .class_ 2), (0, u "java/lang/constant/ConstantDesc"), (0, .class_ 4), (0, u "java/lang/Object")] 32

/-- java/lang/constant/ConstantDesc -/
def k10 : Class := { plain "java/lang/constant/ConstantDesc" (some 0) with
  accessFlags := 1537
  interfaces := #[]
  cf := some (fileOf pool10 1 #[] #[] 1537 3 #[] #[])
  fields := #[]
  methods := #[]
  instanceTypes := #[]
  staticTypes := #[]
  resolved := Array.replicate 37 none
  statics := none }

def pool11 : Array CpInfo := pool [(1, .methodref 2 3), (0, .class_ 4), (0, .nameAndType 5 6), (0, u "java/lang/Object"), (0, u "<init>"), (0, u "()V"), (2, .fieldref 10 11), (0, .class_ 12), (0, .nameAndType 13 14), (0, u "java/lang/String"), (0, u "value"), (0, u "[B"), (0, .fieldref 10 16), (0, .nameAndType 17 18), (0, u "coder"), (0, u "B"), (2, u "hash"), (0, u "I"), (2, u "hashIsZero"), (0, u "Z"), (11, .fieldref 10 39), (0, .nameAndType 40 26), (0, u "COMPACT_STRINGS"), (13, .methodref 55 56), (0, .class_ 57), (0, .nameAndType 58 59), (0, u "java/util/Arrays"), (0, u "copyOfRange"), (0, u "([BII)[B"), (47, .class_ 109), (1, u "java/lang/StringLatin1"), (32, u "()Z"), (50, .class_ 195), (1, u "java/lang/System"), (16, .methodref 193 213), (0, .nameAndType 214 215), (0, u "arraycopy"), (0, u "(Ljava/lang/Object;ILjava/lang/Object;II)V"), (118, u "()I"), (0, .methodref 10 336), (0, .nameAndType 17 337), (0, u "()B"), (2, u "()[B"), (22, u "([BI)C"), (27, u "(II)V"), (35, u "(I)C"), (61, .methodref 10 490), (0, .nameAndType 5 491), (0, u "(Ljava/lang/AbstractStringBuilder;Ljava/lang/Void;)V"), (0, .methodref 10 493), (0, .nameAndType 494 142), (0, u "isLatin1"), (0, .methodref 107 496), (0, .nameAndType 497 363), (0, u "charAt"), (3, u "checkIndex"), (4, .nameAndType 507 334), (0, u "length"), (24, u "getBytes"), (16, .methodref 550 506), (0, .class_ 551), (0, u "java/lang/AbstractStringBuilder"), (0, .methodref 550 553), (0, .nameAndType 554 340), (0, u "getValue"), (20, .class_ 576), (0, u "java/lang/CharSequence"), (22, u "CASE_INSENSITIVE_ORDER"), (0, u "Ljava/util/Comparator;"), (220, u "([BIB)V"), (225, .methodref 550 493), (5, .fieldref 1054 1055), (0, .class_ 1056), (0, .nameAndType 1057 1058), (0, u "jdk/internal/util/Preconditions"), (0, u "SIOOBE_FORMATTER"), (0, u "Ljava/util/function/BiFunction;"), (0, .methodref 1054 1060), (0, .nameAndType 501 1061), (0, u "(IILjava/util/function/BiFunction;)I"), (39, u "serialPersistentFields"), (0, u "[Ljava/io/ObjectStreamField;"), (0, .class_ 1104), (0, u "java/lang/String$CaseInsensitiveComparator"), (1, .class_ 1107), (0, u "java/io/Serializable"), (0, .class_ 1109), (0, u "java/lang/Comparable"), (0, .class_ 1111), (0, u "java/lang/constant/Constable"), (0, .class_ 1113), (0, u "java/lang/constant/ConstantDesc"), (2, u "serialVersionUID"), (0, u "J"), (3, u "REPL"), (0, u "C"), (2, u "LATIN1"), (1, u "UTF16"), (105, u "(Ljava/lang/StringBuilder;)V")] 217

def k11m0 : Method := { name := "<init>", desc := "()V", sig := { parameters := [], returnType := none }, accessFlags := 1, code := none }
def k11c1 : Code := { maxStack := 3, maxLocals := 2, code := jdk_42_method_53_code, exceptionTable := #[], attributes := #[] }
def k11m1 : Method := { name := "<init>", desc := "(Ljava/lang/StringBuilder;)V", sig := { parameters := [(.object "java/lang/StringBuilder")], returnType := none }, accessFlags := 1, code := some k11c1 }
def k11c2 : Code := { maxStack := 2, maxLocals := 1, code := jdk_42_method_54_code, exceptionTable := #[], attributes := #[] }
def k11m2 : Method := { name := "length", desc := "()I", sig := { parameters := [], returnType := some .int }, accessFlags := 1, code := some k11c2 }
def k11c3 : Code := { maxStack := 2, maxLocals := 2, code := jdk_42_method_56_code, exceptionTable := #[], attributes := #[] }
def k11m3 : Method := { name := "charAt", desc := "(I)C", sig := { parameters := [.int], returnType := some .char }, accessFlags := 1, code := some k11c3 }
def k11c4 : Code := { maxStack := 5, maxLocals := 4, code := jdk_42_method_147_code, exceptionTable := #[], attributes := #[] }
def k11m4 : Method := { name := "getBytes", desc := "([BIB)V", sig := { parameters := [(.array .byte), .int, .byte], returnType := none }, accessFlags := 0, code := some k11c4 }
def k11c5 : Code := { maxStack := 5, maxLocals := 5, code := jdk_42_method_150_code, exceptionTable := #[], attributes := #[] }
def k11m5 : Method := { name := "<init>", desc := "(Ljava/lang/AbstractStringBuilder;Ljava/lang/Void;)V", sig := { parameters := [(.object "java/lang/AbstractStringBuilder"), (.object "java/lang/Void")], returnType := none }, accessFlags := 0, code := some k11c5 }
def k11c6 : Code := { maxStack := 1, maxLocals := 1, code := jdk_42_method_152_code, exceptionTable := #[], attributes := #[] }
def k11m6 : Method := { name := "coder", desc := "()B", sig := { parameters := [], returnType := some .byte }, accessFlags := 0, code := some k11c6 }
def k11c7 : Code := { maxStack := 1, maxLocals := 1, code := jdk_42_method_154_code, exceptionTable := #[], attributes := #[] }
def k11m7 : Method := { name := "isLatin1", desc := "()Z", sig := { parameters := [], returnType := some .boolean }, accessFlags := 0, code := some k11c7 }
def k11c8 : Code := { maxStack := 3, maxLocals := 2, code := jdk_42_method_155_code, exceptionTable := #[], attributes := #[] }
def k11m8 : Method := { name := "checkIndex", desc := "(II)V", sig := { parameters := [.int, .int], returnType := none }, accessFlags := 8, code := some k11c8 }
/-- java/lang/String -/
def k11 : Class := { plain "java/lang/String" (some 0) with
  accessFlags := 49
  interfaces := #[6, 5, 9, 4, 10]
  cf := some (fileOf pool11 10 #[.nestMembers #[1103]] #[{ accessFlags := 1, nameIndex := 5, descriptorIndex := 6, attributes := #[] }, { accessFlags := 1, nameIndex := 5, descriptorIndex := 1233, attributes := #[] }, { accessFlags := 1, nameIndex := 507, descriptorIndex := 334, attributes := #[] }, { accessFlags := 1, nameIndex := 497, descriptorIndex := 427, attributes := #[] }, { accessFlags := 0, nameIndex := 532, descriptorIndex := 821, attributes := #[] }, { accessFlags := 0, nameIndex := 5, descriptorIndex := 491, attributes := #[] }, { accessFlags := 0, nameIndex := 17, descriptorIndex := 337, attributes := #[] }, { accessFlags := 0, nameIndex := 494, descriptorIndex := 142, attributes := #[] }, { accessFlags := 8, nameIndex := 501, descriptorIndex := 391, attributes := #[] }] 49 2 #[1106, 1108, 575, 1110, 1112] #[{ accessFlags := 18, nameIndex := 13, descriptorIndex := 14, attributes := #[] }, { accessFlags := 18, nameIndex := 17, descriptorIndex := 18, attributes := #[] }, { accessFlags := 2, nameIndex := 21, descriptorIndex := 22, attributes := #[] }, { accessFlags := 2, nameIndex := 25, descriptorIndex := 26, attributes := #[] }, { accessFlags := 26, nameIndex := 1116, descriptorIndex := 1117, attributes := #[] }, { accessFlags := 24, nameIndex := 40, descriptorIndex := 26, attributes := #[] }, { accessFlags := 26, nameIndex := 1101, descriptorIndex := 1102, attributes := #[] }, { accessFlags := 26, nameIndex := 1121, descriptorIndex := 1122, attributes := #[] }, { accessFlags := 25, nameIndex := 599, descriptorIndex := 600, attributes := #[] }, { accessFlags := 24, nameIndex := 1125, descriptorIndex := 18, attributes := #[] }, { accessFlags := 24, nameIndex := 1127, descriptorIndex := 18, attributes := #[] }])
  fields := #[{ name := "value", type := (.array .byte), accessFlags := 18, slot := 0, constantValue := 0 }, { name := "coder", type := .byte, accessFlags := 18, slot := 1, constantValue := 0 }, { name := "hash", type := .int, accessFlags := 2, slot := 2, constantValue := 0 }, { name := "hashIsZero", type := .boolean, accessFlags := 2, slot := 3, constantValue := 0 }, { name := "serialVersionUID", type := .long, accessFlags := 26, slot := 0, constantValue := 0 }, { name := "COMPACT_STRINGS", type := .boolean, accessFlags := 24, slot := 1, constantValue := 0 }, { name := "serialPersistentFields", type := (.array (.object "java/io/ObjectStreamField")), accessFlags := 26, slot := 2, constantValue := 0 }, { name := "REPL", type := .char, accessFlags := 26, slot := 3, constantValue := 0 }, { name := "CASE_INSENSITIVE_ORDER", type := (.object "java/util/Comparator"), accessFlags := 25, slot := 4, constantValue := 0 }, { name := "LATIN1", type := .byte, accessFlags := 24, slot := 5, constantValue := 0 }, { name := "UTF16", type := .byte, accessFlags := 24, slot := 6, constantValue := 0 }]
  methods := #[k11m0, k11m1, k11m2, k11m3, k11m4, k11m5, k11m6, k11m7, k11m8]
  instanceTypes := #[(.array .byte), .byte, .int, .boolean]
  staticTypes := #[.long, .boolean, (.array (.object "java/io/ObjectStreamField")), .char, (.object "java/util/Comparator"), .byte, .byte]
  resolved := Array.replicate 1451 none
  statics := some 1 }

def pool12 : Array CpInfo := pool [(1, .methodref 2 3), (0, .class_ 4), (0, .nameAndType 5 6), (0, u "java/lang/Object"), (0, u "<init>"), (0, u "()V"), (1, .class_ 10), (1, u "com/example/nalog/nalog/OrderCount"), (0, u "add"), (0, u "(ILcom/example/nalog/nalog/OrderClass;)V"), (0, .fieldref 8 14), (0, .nameAndType 15 16), (0, u "count"), (0, u "I"), (0, .fieldref 8 18), (0, .nameAndType 19 16), (0, u "first"), (0, .fieldref 8 21), (0, .nameAndType 22 23), (0, u "firstClass"), (0, u "Lcom/example/nalog/nalog/OrderClass;"), (0, .class_ 25), (0, u "java/lang/StringBuilder"), (0, .methodref 24 3), (0, .string 28), (0, u "order "), (0, .methodref 24 30), (0, .nameAndType 31 32), (0, u "append"), (0, u "(Ljava/lang/String;)Ljava/lang/StringBuilder;"), (0, .methodref 24 34), (0, .nameAndType 31 35), (0, u "(I)Ljava/lang/StringBuilder;"), (0, .string 37), (0, u ""), (0, .string 39), (0, u " ("), (0, .methodref 41 42), (0, .class_ 43), (0, .nameAndType 44 45), (0, u "com/example/nalog/nalog/OrderClass"), (0, u "describe"), (0, u "()Ljava/lang/String;"), (0, .string 47), (0, u ")"), (0, .methodref 24 49), (0, .nameAndType 50 45), (0, u "toString"), (0, .string 52), (0, u " "), (0, .string 54), (0, u " of its orders, the first "), (0, .string 56), (0, u ", "), (4, u "isEmpty"), (0, u "()Z"), (0, u "()Lcom/example/nalog/nalog/OrderClass;"), (0, u "(Ljava/lang/String;Ljava/lang/String;)Ljava/lang/String;")] 4

def k12c0 : Code := { maxStack := 1, maxLocals := 1, code := prog_78_method_1_code, exceptionTable := #[], attributes := #[] }
def k12m0 : Method := { name := "<init>", desc := "()V", sig := { parameters := [], returnType := none }, accessFlags := 0, code := some k12c0 }
def k12c1 : Code := { maxStack := 3, maxLocals := 3, code := prog_78_method_3_code, exceptionTable := #[], attributes := #[] }
def k12m1 : Method := { name := "add", desc := "(ILcom/example/nalog/nalog/OrderClass;)V", sig := { parameters := [.int, (.object "com/example/nalog/nalog/OrderClass")], returnType := none }, accessFlags := 0, code := some k12c1 }
def k12c2 : Code := { maxStack := 1, maxLocals := 1, code := prog_78_method_4_code, exceptionTable := #[], attributes := #[] }
def k12m2 : Method := { name := "isEmpty", desc := "()Z", sig := { parameters := [], returnType := some .boolean }, accessFlags := 0, code := some k12c2 }
def k12c3 : Code := { maxStack := 1, maxLocals := 1, code := prog_78_method_5_code, exceptionTable := #[], attributes := #[] }
def k12m3 : Method := { name := "firstClass", desc := "()Lcom/example/nalog/nalog/OrderClass;", sig := { parameters := [], returnType := some (.object "com/example/nalog/nalog/OrderClass") }, accessFlags := 0, code := some k12c3 }
def k12c4 : Code := { maxStack := 3, maxLocals := 4, code := prog_78_method_6_code, exceptionTable := #[], attributes := #[] }
def k12m4 : Method := { name := "describe", desc := "(Ljava/lang/String;Ljava/lang/String;)Ljava/lang/String;", sig := { parameters := [(.object "java/lang/String"), (.object "java/lang/String")], returnType := some (.object "java/lang/String") }, accessFlags := 0, code := some k12c4 }
/-- com/example/nalog/nalog/OrderCount -/
def k12 : Class := { plain "com/example/nalog/nalog/OrderCount" (some 0) with
  accessFlags := 48
  interfaces := #[]
  cf := some (fileOf pool12 8 #[] #[{ accessFlags := 0, nameIndex := 5, descriptorIndex := 6, attributes := #[] }, { accessFlags := 0, nameIndex := 11, descriptorIndex := 12, attributes := #[] }, { accessFlags := 0, nameIndex := 61, descriptorIndex := 62, attributes := #[] }, { accessFlags := 0, nameIndex := 22, descriptorIndex := 63, attributes := #[] }, { accessFlags := 0, nameIndex := 44, descriptorIndex := 64, attributes := #[] }] 48 2 #[] #[{ accessFlags := 2, nameIndex := 15, descriptorIndex := 16, attributes := #[] }, { accessFlags := 2, nameIndex := 19, descriptorIndex := 16, attributes := #[] }, { accessFlags := 2, nameIndex := 22, descriptorIndex := 23, attributes := #[] }])
  fields := #[{ name := "count", type := .int, accessFlags := 2, slot := 0, constantValue := 0 }, { name := "first", type := .int, accessFlags := 2, slot := 1, constantValue := 0 }, { name := "firstClass", type := (.object "com/example/nalog/nalog/OrderClass"), accessFlags := 2, slot := 2, constantValue := 0 }]
  methods := #[k12m0, k12m1, k12m2, k12m3, k12m4]
  instanceTypes := #[.int, .int, (.object "com/example/nalog/nalog/OrderClass")]
  staticTypes := #[]
  resolved := Array.replicate 69 none
  statics := none }

def pool13 : Array CpInfo := pool [(1, .class_ 2), (0, u "java/lang/Appendable"), (0, .class_ 4), (0, u "java/lang/Object")] 9

/-- java/lang/Appendable -/
def k13 : Class := { plain "java/lang/Appendable" (some 0) with
  accessFlags := 1537
  interfaces := #[]
  cf := some (fileOf pool13 1 #[] #[] 1537 3 #[] #[])
  fields := #[]
  methods := #[]
  instanceTypes := #[]
  staticTypes := #[]
  resolved := Array.replicate 14 none
  statics := none }

def pool14 : Array CpInfo := pool [(1, .class_ 2), (0, u "java/lang/String"), (0, .methodref 4 5), (0, .class_ 6), (0, .nameAndType 7 8), (0, u "java/lang/Object"), (0, u "<init>"), (0, u "()V"), (1, .class_ 12), (1, u "java/lang/AbstractStringBuilder"), (0, u "EMPTYVALUE"), (0, u "[B"), (0, .fieldref 10 16), (0, .nameAndType 17 14), (0, u "value"), (0, .fieldref 1 19), (0, .nameAndType 20 21), (0, u "COMPACT_STRINGS"), (0, u "Z"), (0, .fieldref 10 23), (0, .nameAndType 24 25), (0, u "coder"), (0, u "B"), (6, .methodref 1 33), (0, .nameAndType 34 35), (0, u "length"), (0, u "()I"), (0, .class_ 37), (0, u "java/lang/Integer"), (1, .integer 2147483647), (0, .methodref 1 41), (0, .nameAndType 24 42), (0, u "()B"), (2, u "append"), (0, u "(Ljava/lang/String;)Ljava/lang/AbstractStringBuilder;"), (1, .class_ 49), (0, u "java/lang/CharSequence"), (19, u "(Ljava/lang/String;)V"), (5, u "maybeLatin1"), (3, .fieldref 10 80), (0, .nameAndType 81 82), (0, u "count"), (0, u "I"), (0, .methodref 10 84), (0, .nameAndType 85 86), (0, u "isLatin1"), (0, u "()Z"), (13, .methodref 10 101), (0, .nameAndType 102 103), (0, u "ensureCapacityInternal"), (0, u "(I)V"), (0, .methodref 10 105), (0, .nameAndType 106 107), (0, u "newCapacity"), (0, u "(I)I"), (0, .methodref 109 110), (0, .class_ 111), (0, .nameAndType 112 113), (0, u "java/util/Arrays"), (0, u "copyOf"), (0, u "([BI)[B"), (0, .methodref 115 116), (0, .class_ 117), (0, .nameAndType 118 119), (0, u "jdk/internal/util/ArraysSupport"), (0, u "newLength"), (0, u "(III)I"), (68, u "getChars"), (19, .methodref 10 209), (0, .nameAndType 210 211), (0, u "putStringAt"), (0, u "(ILjava/lang/String;)V"), (5, u "inflateIfNeededFor"), (2, .nameAndType 221 222), (0, u "getBytes"), (0, u "([BIB)V"), (22, .methodref 36 246), (0, .nameAndType 247 107), (0, u "stringSize"), (0, .methodref 36 249), (0, .nameAndType 188 250), (0, u "(II[B)I"), (146, .methodref 10 398), (0, .nameAndType 217 69), (0, .methodref 1 220), (3, u "()[B"), (40, .class_ 445), (0, u "java/lang/Appendable"), (65, u "(I)Ljava/lang/AbstractStringBuilder;"), (40, u "getValue")] 56

def k14m0 : Method := { name := "<init>", desc := "()V", sig := { parameters := [], returnType := none }, accessFlags := 0, code := none }
def k14c1 : Code := { maxStack := 2, maxLocals := 2, code := jdk_68_method_2_code, exceptionTable := #[], attributes := #[] }
def k14m1 : Method := { name := "<init>", desc := "(I)V", sig := { parameters := [.int], returnType := none }, accessFlags := 0, code := some k14c1 }
def k14c2 : Code := { maxStack := 1, maxLocals := 1, code := jdk_68_method_6_code, exceptionTable := #[], attributes := #[] }
def k14m2 : Method := { name := "length", desc := "()I", sig := { parameters := [], returnType := some .int }, accessFlags := 1, code := some k14c2 }
def k14c3 : Code := { maxStack := 4, maxLocals := 3, code := jdk_68_method_9_code, exceptionTable := #[], attributes := #[] }
def k14m3 : Method := { name := "ensureCapacityInternal", desc := "(I)V", sig := { parameters := [.int], returnType := none }, accessFlags := 2, code := some k14c3 }
def k14c4 : Code := { maxStack := 5, maxLocals := 6, code := jdk_68_method_10_code, exceptionTable := #[], attributes := #[] }
def k14m4 : Method := { name := "newCapacity", desc := "(I)I", sig := { parameters := [.int], returnType := some .int }, accessFlags := 2, code := some k14c4 }
def k14c5 : Code := { maxStack := 3, maxLocals := 3, code := jdk_68_method_22_code, exceptionTable := #[], attributes := #[] }
def k14m5 : Method := { name := "append", desc := "(Ljava/lang/String;)Ljava/lang/AbstractStringBuilder;", sig := { parameters := [(.object "java/lang/String")], returnType := some (.object "java/lang/AbstractStringBuilder") }, accessFlags := 1, code := some k14c5 }
def k14c6 : Code := { maxStack := 4, maxLocals := 4, code := jdk_68_method_32_code, exceptionTable := #[], attributes := #[] }
def k14m6 : Method := { name := "append", desc := "(I)Ljava/lang/AbstractStringBuilder;", sig := { parameters := [.int], returnType := some (.object "java/lang/AbstractStringBuilder") }, accessFlags := 1, code := some k14c6 }
def k14c7 : Code := { maxStack := 1, maxLocals := 1, code := jdk_68_method_64_code, exceptionTable := #[], attributes := #[] }
def k14m7 : Method := { name := "getValue", desc := "()[B", sig := { parameters := [], returnType := some (.array .byte) }, accessFlags := 16, code := some k14c7 }
def k14c8 : Code := { maxStack := 1, maxLocals := 1, code := jdk_68_method_68_code, exceptionTable := #[], attributes := #[] }
def k14m8 : Method := { name := "isLatin1", desc := "()Z", sig := { parameters := [], returnType := some .boolean }, accessFlags := 16, code := some k14c8 }
def k14c9 : Code := { maxStack := 2, maxLocals := 2, code := jdk_68_method_71_code, exceptionTable := #[], attributes := #[] }
def k14m9 : Method := { name := "inflateIfNeededFor", desc := "(Ljava/lang/String;)V", sig := { parameters := [(.object "java/lang/String")], returnType := none }, accessFlags := 2, code := some k14c9 }
def k14c10 : Code := { maxStack := 4, maxLocals := 3, code := jdk_68_method_73_code, exceptionTable := #[], attributes := #[] }
def k14m10 : Method := { name := "putStringAt", desc := "(ILjava/lang/String;)V", sig := { parameters := [.int, (.object "java/lang/String")], returnType := none }, accessFlags := 2, code := some k14c10 }
/-- java/lang/AbstractStringBuilder -/
def k14 : Class := { plain "java/lang/AbstractStringBuilder" (some 0) with
  accessFlags := 1056
  interfaces := #[13, 9]
  cf := some (fileOf pool14 10 #[] #[{ accessFlags := 0, nameIndex := 7, descriptorIndex := 8, attributes := #[] }, { accessFlags := 0, nameIndex := 7, descriptorIndex := 103, attributes := #[] }, { accessFlags := 1, nameIndex := 34, descriptorIndex := 35, attributes := #[] }, { accessFlags := 2, nameIndex := 102, descriptorIndex := 103, attributes := #[] }, { accessFlags := 2, nameIndex := 106, descriptorIndex := 107, attributes := #[] }, { accessFlags := 1, nameIndex := 45, descriptorIndex := 46, attributes := #[] }, { accessFlags := 1, nameIndex := 45, descriptorIndex := 511, attributes := #[] }, { accessFlags := 16, nameIndex := 552, descriptorIndex := 403, attributes := #[] }, { accessFlags := 16, nameIndex := 85, descriptorIndex := 86, attributes := #[] }, { accessFlags := 2, nameIndex := 217, descriptorIndex := 69, attributes := #[] }, { accessFlags := 2, nameIndex := 210, descriptorIndex := 211, attributes := #[] }] 1056 4 #[444, 48] #[{ accessFlags := 0, nameIndex := 17, descriptorIndex := 14, attributes := #[] }, { accessFlags := 0, nameIndex := 24, descriptorIndex := 25, attributes := #[] }, { accessFlags := 0, nameIndex := 75, descriptorIndex := 21, attributes := #[] }, { accessFlags := 0, nameIndex := 81, descriptorIndex := 82, attributes := #[] }, { accessFlags := 26, nameIndex := 13, descriptorIndex := 14, attributes := #[] }])
  fields := #[{ name := "value", type := (.array .byte), accessFlags := 0, slot := 0, constantValue := 0 }, { name := "coder", type := .byte, accessFlags := 0, slot := 1, constantValue := 0 }, { name := "maybeLatin1", type := .boolean, accessFlags := 0, slot := 2, constantValue := 0 }, { name := "count", type := .int, accessFlags := 0, slot := 3, constantValue := 0 }, { name := "EMPTYVALUE", type := (.array .byte), accessFlags := 26, slot := 0, constantValue := 0 }]
  methods := #[k14m0, k14m1, k14m2, k14m3, k14m4, k14m5, k14m6, k14m7, k14m8, k14m9, k14m10]
  instanceTypes := #[(.array .byte), .byte, .boolean, .int]
  staticTypes := #[(.array .byte)]
  resolved := Array.replicate 609 none
  statics := none }

def pool15 : Array CpInfo := pool [(1, .methodref 2 3), (0, .class_ 4), (0, .nameAndType 5 6), (0, u "java/lang/AbstractStringBuilder"), (0, u "<init>"), (0, u "(I)V"), (11, .class_ 20), (1, u "java/lang/String"), (3, .class_ 26), (1, u "java/lang/StringBuilder"), (0, u "append"), (0, u "(Ljava/lang/String;)Ljava/lang/StringBuilder;"), (0, .methodref 2 30), (0, .nameAndType 27 31), (0, u "(Ljava/lang/String;)Ljava/lang/AbstractStringBuilder;"), (21, .methodref 2 54), (0, .nameAndType 27 55), (0, u "(I)Ljava/lang/AbstractStringBuilder;"), (81, .methodref 18 138), (0, .nameAndType 5 139), (0, u "(Ljava/lang/StringBuilder;)V"), (5, u "()V"), (10, u "()I"), (111, u "(I)Ljava/lang/StringBuilder;"), (74, .methodref 2 344), (0, .nameAndType 345 156), (0, u "length"), (3, .class_ 350), (0, u "java/lang/Appendable"), (0, .class_ 352), (0, u "java/io/Serializable"), (0, .class_ 354), (0, u "java/lang/Comparable"), (0, .class_ 356), (0, u "java/lang/CharSequence"), (0, u "serialVersionUID"), (0, u "J"), (40, u "toString"), (0, u "()Ljava/lang/String;")] 21

def k15c0 : Code := { maxStack := 2, maxLocals := 1, code := jdk_67_method_1_code, exceptionTable := #[], attributes := #[] }
def k15m0 : Method := { name := "<init>", desc := "()V", sig := { parameters := [], returnType := none }, accessFlags := 1, code := some k15c0 }
def k15c1 : Code := { maxStack := 2, maxLocals := 2, code := jdk_67_method_7_code, exceptionTable := #[], attributes := #[] }
def k15m1 : Method := { name := "append", desc := "(Ljava/lang/String;)Ljava/lang/StringBuilder;", sig := { parameters := [(.object "java/lang/String")], returnType := some (.object "java/lang/StringBuilder") }, accessFlags := 1, code := some k15c1 }
def k15c2 : Code := { maxStack := 2, maxLocals := 2, code := jdk_67_method_15_code, exceptionTable := #[], attributes := #[] }
def k15m2 : Method := { name := "append", desc := "(I)Ljava/lang/StringBuilder;", sig := { parameters := [.int], returnType := some (.object "java/lang/StringBuilder") }, accessFlags := 1, code := some k15c2 }
def k15c3 : Code := { maxStack := 3, maxLocals := 1, code := jdk_67_method_42_code, exceptionTable := #[], attributes := #[] }
def k15m3 : Method := { name := "toString", desc := "()Ljava/lang/String;", sig := { parameters := [], returnType := some (.object "java/lang/String") }, accessFlags := 1, code := some k15c3 }
def k15c4 : Code := { maxStack := 1, maxLocals := 1, code := jdk_67_method_93_code, exceptionTable := #[], attributes := #[] }
def k15m4 : Method := { name := "length", desc := "()I", sig := { parameters := [], returnType := some .int }, accessFlags := 4161, code := some k15c4 }
/-- java/lang/StringBuilder -/
def k15 : Class := { plain "java/lang/StringBuilder" (some 14) with
  accessFlags := 49
  interfaces := #[13, 6, 5, 9]
  cf := some (fileOf pool15 24 #[] #[{ accessFlags := 1, nameIndex := 5, descriptorIndex := 145, attributes := #[] }, { accessFlags := 1, nameIndex := 27, descriptorIndex := 28, attributes := #[] }, { accessFlags := 1, nameIndex := 27, descriptorIndex := 268, attributes := #[] }, { accessFlags := 1, nameIndex := 399, descriptorIndex := 400, attributes := #[] }, { accessFlags := 4161, nameIndex := 345, descriptorIndex := 156, attributes := #[] }] 49 2 #[349, 351, 353, 355] #[{ accessFlags := 24, nameIndex := 357, descriptorIndex := 358, attributes := #[] }])
  fields := #[{ name := "serialVersionUID", type := .long, accessFlags := 24, slot := 0, constantValue := 0 }]
  methods := #[k15m0, k15m1, k15m2, k15m3, k15m4]
  instanceTypes := #[(.array .byte), .byte, .boolean, .int]
  staticTypes := #[.long]
  resolved := Array.replicate 422 none
  statics := none }

def pool16 : Array CpInfo := pool [(2, .class_ 4), (1, u "java/lang/Object"), (0, u "<init>"), (0, u "()V"), (1, .class_ 10), (1, u "java/lang/System"), (0, u "allowSecurityManager"), (0, u "I"), (16, u "cons"), (0, u "Ljava/io/Console;"), (77, .class_ 110), (1, u "java/lang/System$CallersHolder"), (43, u "initialErrStream"), (0, u "Ljava/io/PrintStream;"), (19, u "security"), (0, u "Ljava/lang/SecurityManager;"), (31, .class_ 209), (0, u "java/lang/System$1"), (7, u "props"), (0, u "Ljava/util/Properties;"), (2, u "lineSeparator"), (0, u "Ljava/lang/String;"), (96, .class_ 321), (1, u "java/lang/System$LoggerFinder"), (5, .class_ 328), (0, u "java/lang/System$Logger"), (67, u "err"), (2, u "out"), (91, u "notSupportedJnuEncoding"), (15, u "in"), (17, u "initialIn"), (0, u "Ljava/io/InputStream;"), (35, u "bootLayer"), (0, u "Ljava/lang/ModuleLayer;"), (99, .class_ 664), (0, u "java/lang/System$2"), (9, u "NEVER"), (2, u "MAYBE"), (49, u "arraycopy"), (0, u "(Ljava/lang/Object;ILjava/lang/Object;II)V"), (72, .class_ 802), (0, u "java/lang/System$Logger$Level")] 31

def k16m0 : Method := { name := "<init>", desc := "()V", sig := { parameters := [], returnType := none }, accessFlags := 2, code := none }
def k16m1 : Method := { name := "arraycopy", desc := "(Ljava/lang/Object;ILjava/lang/Object;II)V", sig := { parameters := [(.object "java/lang/Object"), .int, (.object "java/lang/Object"), .int, .int], returnType := none }, accessFlags := 265, code := none }
/-- java/lang/System -/
def k16 : Class := { plain "java/lang/System" (some 0) with
  accessFlags := 49
  interfaces := #[]
  cf := some (fileOf pool16 8 #[.nestMembers #[319, 327, 801, 108, 663, 208]] #[{ accessFlags := 2, nameIndex := 5, descriptorIndex := 6, attributes := #[] }, { accessFlags := 265, nameIndex := 727, descriptorIndex := 728, attributes := #[] }] 49 2 #[] #[{ accessFlags := 25, nameIndex := 507, descriptorIndex := 526, attributes := #[] }, { accessFlags := 25, nameIndex := 399, descriptorIndex := 155, attributes := #[] }, { accessFlags := 25, nameIndex := 396, descriptorIndex := 155, attributes := #[] }, { accessFlags := 10, nameIndex := 525, descriptorIndex := 526, attributes := #[] }, { accessFlags := 26, nameIndex := 674, descriptorIndex := 12, attributes := #[] }, { accessFlags := 26, nameIndex := 677, descriptorIndex := 12, attributes := #[] }, { accessFlags := 10, nameIndex := 11, descriptorIndex := 12, attributes := #[] }, { accessFlags := 74, nameIndex := 175, descriptorIndex := 176, attributes := #[] }, { accessFlags := 10, nameIndex := 491, descriptorIndex := 222, attributes := #[] }, { accessFlags := 74, nameIndex := 29, descriptorIndex := 30, attributes := #[] }, { accessFlags := 74, nameIndex := 154, descriptorIndex := 155, attributes := #[] }, { accessFlags := 10, nameIndex := 217, descriptorIndex := 218, attributes := #[] }, { accessFlags := 10, nameIndex := 221, descriptorIndex := 222, attributes := #[] }, { accessFlags := 8, nameIndex := 562, descriptorIndex := 563, attributes := #[] }])
  fields := #[{ name := "in", type := (.object "java/io/InputStream"), accessFlags := 25, slot := 0, constantValue := 0 }, { name := "out", type := (.object "java/io/PrintStream"), accessFlags := 25, slot := 1, constantValue := 0 }, { name := "err", type := (.object "java/io/PrintStream"), accessFlags := 25, slot := 2, constantValue := 0 }, { name := "initialIn", type := (.object "java/io/InputStream"), accessFlags := 10, slot := 3, constantValue := 0 }, { name := "NEVER", type := .int, accessFlags := 26, slot := 4, constantValue := 0 }, { name := "MAYBE", type := .int, accessFlags := 26, slot := 5, constantValue := 0 }, { name := "allowSecurityManager", type := .int, accessFlags := 10, slot := 6, constantValue := 0 }, { name := "security", type := (.object "java/lang/SecurityManager"), accessFlags := 74, slot := 7, constantValue := 0 }, { name := "notSupportedJnuEncoding", type := (.object "java/lang/String"), accessFlags := 10, slot := 8, constantValue := 0 }, { name := "cons", type := (.object "java/io/Console"), accessFlags := 74, slot := 9, constantValue := 0 }, { name := "initialErrStream", type := (.object "java/io/PrintStream"), accessFlags := 74, slot := 10, constantValue := 0 }, { name := "props", type := (.object "java/util/Properties"), accessFlags := 10, slot := 11, constantValue := 0 }, { name := "lineSeparator", type := (.object "java/lang/String"), accessFlags := 10, slot := 12, constantValue := 0 }, { name := "bootLayer", type := (.object "java/lang/ModuleLayer"), accessFlags := 8, slot := 13, constantValue := 0 }]
  methods := #[k16m0, k16m1]
  instanceTypes := #[]
  staticTypes := #[(.object "java/io/InputStream"), (.object "java/io/PrintStream"), (.object "java/io/PrintStream"), (.object "java/io/InputStream"), .int, .int, .int, (.object "java/lang/SecurityManager"), (.object "java/lang/String"), (.object "java/io/Console"), (.object "java/io/PrintStream"), (.object "java/util/Properties"), (.object "java/lang/String"), (.object "java/lang/ModuleLayer")]
  resolved := Array.replicate 834 none
  statics := none }

def pool17 : Array CpInfo := pool [(2, .class_ 4), (1, u "java/lang/Object"), (0, u "<init>"), (0, u "()V"), (1, .class_ 10), (1, u "java/lang/Number"), (2, .class_ 14), (0, u "java/io/Serializable"), (0, u "serialVersionUID"), (0, u "J")] 20

def k17m0 : Method := { name := "<init>", desc := "()V", sig := { parameters := [], returnType := none }, accessFlags := 1, code := none }
/-- java/lang/Number -/
def k17 : Class := { plain "java/lang/Number" (some 0) with
  accessFlags := 1057
  interfaces := #[6]
  cf := some (fileOf pool17 8 #[] #[{ accessFlags := 1, nameIndex := 5, descriptorIndex := 6, attributes := #[] }] 1057 2 #[13] #[{ accessFlags := 26, nameIndex := 15, descriptorIndex := 16, attributes := #[] }])
  fields := #[{ name := "serialVersionUID", type := .long, accessFlags := 26, slot := 0, constantValue := 0 }]
  methods := #[k17m0]
  instanceTypes := #[]
  staticTypes := #[.long]
  resolved := Array.replicate 37 none
  statics := none }

def pool18 : Array CpInfo := pool [(1, .class_ 2), (0, u "java/lang/Integer"), (16, u "digits"), (0, u "[C"), (33, u "(I)I"), (19, u "stringSize"), (2, u "getChars"), (0, u "(II[B)I"), (4, .fieldref 1 84), (0, .nameAndType 85 86), (0, u "DigitOnes"), (0, u "[B"), (0, .fieldref 1 88), (0, .nameAndType 89 86), (0, u "DigitTens"), (99, .class_ 190), (0, u "java/lang/Integer$IntegerCache"), (3, u "I"), (8, .class_ 204), (0, u "java/lang/Number"), (2, u "value"), (94, u "TYPE"), (0, u "Ljava/lang/Class;"), (0, .class_ 305), (0, u "java/lang/Comparable"), (0, .class_ 307), (0, u "java/lang/constant/Constable"), (0, .class_ 309), (0, u "java/lang/constant/ConstantDesc"), (0, u "MIN_VALUE"), (1, u "MAX_VALUE"), (3, u "SIZE"), (1, u "BYTES"), (1, u "serialVersionUID"), (0, u "J")] 131

def k18c0 : Code := { maxStack := 4, maxLocals := 7, code := jdk_33_method_12_code, exceptionTable := #[], attributes := #[] }
def k18m0 : Method := { name := "getChars", desc := "(II[B)I", sig := { parameters := [.int, .int, (.array .byte)], returnType := some .int }, accessFlags := 8, code := some k18c0 }
def k18c1 : Code := { maxStack := 2, maxLocals := 4, code := jdk_33_method_13_code, exceptionTable := #[], attributes := #[] }
def k18m1 : Method := { name := "stringSize", desc := "(I)I", sig := { parameters := [.int], returnType := some .int }, accessFlags := 8, code := some k18c1 }
/-- java/lang/Integer -/
def k18 : Class := { plain "java/lang/Integer" (some 17) with
  accessFlags := 49
  interfaces := #[5, 4, 10]
  cf := some (fileOf pool18 1 #[.nestMembers #[189]] #[{ accessFlags := 8, nameIndex := 77, descriptorIndex := 78, attributes := #[] }, { accessFlags := 8, nameIndex := 74, descriptorIndex := 54, attributes := #[] }] 49 203 #[304, 306, 308] #[{ accessFlags := 25, nameIndex := 310, descriptorIndex := 194, attributes := #[] }, { accessFlags := 25, nameIndex := 312, descriptorIndex := 194, attributes := #[] }, { accessFlags := 25, nameIndex := 302, descriptorIndex := 303, attributes := #[] }, { accessFlags := 24, nameIndex := 19, descriptorIndex := 20, attributes := #[] }, { accessFlags := 24, nameIndex := 89, descriptorIndex := 86, attributes := #[] }, { accessFlags := 24, nameIndex := 85, descriptorIndex := 86, attributes := #[] }, { accessFlags := 18, nameIndex := 207, descriptorIndex := 194, attributes := #[] }, { accessFlags := 25, nameIndex := 316, descriptorIndex := 194, attributes := #[] }, { accessFlags := 25, nameIndex := 318, descriptorIndex := 194, attributes := #[] }, { accessFlags := 26, nameIndex := 320, descriptorIndex := 321, attributes := #[] }])
  fields := #[{ name := "MIN_VALUE", type := .int, accessFlags := 25, slot := 0, constantValue := 0 }, { name := "MAX_VALUE", type := .int, accessFlags := 25, slot := 1, constantValue := 0 }, { name := "TYPE", type := (.object "java/lang/Class"), accessFlags := 25, slot := 2, constantValue := 0 }, { name := "digits", type := (.array .char), accessFlags := 24, slot := 3, constantValue := 0 }, { name := "DigitTens", type := (.array .byte), accessFlags := 24, slot := 4, constantValue := 0 }, { name := "DigitOnes", type := (.array .byte), accessFlags := 24, slot := 5, constantValue := 0 }, { name := "value", type := .int, accessFlags := 18, slot := 0, constantValue := 0 }, { name := "SIZE", type := .int, accessFlags := 25, slot := 6, constantValue := 0 }, { name := "BYTES", type := .int, accessFlags := 25, slot := 7, constantValue := 0 }, { name := "serialVersionUID", type := .long, accessFlags := 26, slot := 8, constantValue := 0 }]
  methods := #[k18m0, k18m1]
  instanceTypes := #[.int]
  staticTypes := #[.int, .int, (.object "java/lang/Class"), (.array .char), (.array .byte), (.array .byte), .int, .int, .long]
  resolved := Array.replicate 453 none
  statics := some 2 }

def pool19 : Array CpInfo := pool [(2, .class_ 4), (1, u "java/lang/Object"), (0, u "<init>"), (0, u "()V"), (7, .class_ 16), (1, u "java/util/Arrays"), (57, .class_ 76), (1, u "java/util/Arrays$NaturalOrder"), (32, u "()Ljava/lang/Object;"), (3, .class_ 115), (1, u "java/util/Arrays$LegacyMergeSort"), (1, u "Z"), (10, .nameAndType 129 109), (0, u "clone"), (9, u "copyOfRange"), (10, .methodref 151 152), (0, .class_ 153), (0, .nameAndType 154 155), (0, u "java/lang/System"), (0, u "arraycopy"), (0, u "(Ljava/lang/Object;ILjava/lang/Object;II)V"), (146, u "copyOf"), (1, .methodref 305 306), (0, .class_ 307), (0, .nameAndType 308 309), (0, u "java/lang/Math"), (0, u "min"), (0, u "(II)I"), (0, .methodref 311 128), (0, .class_ 312), (0, u "[B"), (26, .methodref 14 340), (0, .nameAndType 341 342), (0, u "copyOfRangeByte"), (0, u "([BII)[B"), (0, .methodref 14 344), (0, .nameAndType 345 346), (0, u "checkLength"), (0, u "(II)V"), (28, .class_ 376), (0, u "java/util/Arrays$ArrayList"), (68, u "$assertionsDisabled"), (269, u "MIN_ARRAY_SORT_GRAN"), (0, u "I"), (2, u "INSERTIONSORT_THRESHOLD"), (149, u "([BI)[B"), (105, .class_ 976), (0, u "java/util/Arrays$ArrayItr")] 52

def k19m0 : Method := { name := "<init>", desc := "()V", sig := { parameters := [], returnType := none }, accessFlags := 2, code := none }
def k19c1 : Code := { maxStack := 6, maxLocals := 3, code := jdk_65_method_121_code, exceptionTable := #[], attributes := #[] }
def k19m1 : Method := { name := "copyOf", desc := "([BI)[B", sig := { parameters := [(.array .byte), .int], returnType := some (.array .byte) }, accessFlags := 9, code := some k19c1 }
def k19c2 : Code := { maxStack := 4, maxLocals := 2, code := jdk_65_method_131_code, exceptionTable := #[], attributes := #[] }
def k19m2 : Method := { name := "checkLength", desc := "(II)V", sig := { parameters := [.int, .int], returnType := none }, accessFlags := 10, code := some k19c2 }
def k19c3 : Code := { maxStack := 3, maxLocals := 3, code := jdk_65_method_132_code, exceptionTable := #[], attributes := #[] }
def k19m3 : Method := { name := "copyOfRange", desc := "([BII)[B", sig := { parameters := [(.array .byte), .int, .int], returnType := some (.array .byte) }, accessFlags := 9, code := some k19c3 }
def k19c4 : Code := { maxStack := 6, maxLocals := 5, code := jdk_65_method_133_code, exceptionTable := #[], attributes := #[] }
def k19m4 : Method := { name := "copyOfRangeByte", desc := "([BII)[B", sig := { parameters := [(.array .byte), .int, .int], returnType := some (.array .byte) }, accessFlags := 10, code := some k19c4 }
/-- java/util/Arrays -/
def k19 : Class := { plain "java/util/Arrays" (some 0) with
  accessFlags := 49
  interfaces := #[]
  cf := some (fileOf pool19 14 #[.nestMembers #[975, 375, 113, 74]] #[{ accessFlags := 2, nameIndex := 5, descriptorIndex := 6, attributes := #[] }, { accessFlags := 9, nameIndex := 302, descriptorIndex := 869, attributes := #[] }, { accessFlags := 10, nameIndex := 345, descriptorIndex := 346, attributes := #[] }, { accessFlags := 9, nameIndex := 139, descriptorIndex := 342, attributes := #[] }, { accessFlags := 10, nameIndex := 341, descriptorIndex := 342, attributes := #[] }] 49 2 #[] #[{ accessFlags := 26, nameIndex := 715, descriptorIndex := 716, attributes := #[] }, { accessFlags := 26, nameIndex := 719, descriptorIndex := 716, attributes := #[] }, { accessFlags := 4120, nameIndex := 445, descriptorIndex := 117, attributes := #[] }])
  fields := #[{ name := "MIN_ARRAY_SORT_GRAN", type := .int, accessFlags := 26, slot := 0, constantValue := 0 }, { name := "INSERTIONSORT_THRESHOLD", type := .int, accessFlags := 26, slot := 1, constantValue := 0 }, { name := "$assertionsDisabled", type := .boolean, accessFlags := 4120, slot := 2, constantValue := 0 }]
  methods := #[k19m0, k19m1, k19m2, k19m3, k19m4]
  instanceTypes := #[]
  staticTypes := #[.int, .int, .boolean]
  resolved := Array.replicate 1029 none
  statics := none }

def pool20 : Array CpInfo := pool [(1, .class_ 2), (0, u "java/lang/Math"), (1, .class_ 6), (1, u "java/lang/Object"), (0, u "<init>"), (0, u "()V"), (89, .class_ 100), (1, u "java/lang/Math$RandomNumberGeneratorHolder"), (23, u "abs"), (0, u "(J)J"), (46, u "negativeZeroFloatBits"), (0, u "J"), (2, u "negativeZeroDoubleBits"), (21, u "max"), (2, u "min"), (43, u "$assertionsDisabled"), (0, u "Z"), (88, u "(II)I"), (2, u "twoToTheDoubleScaleDown"), (0, u "D"), (4, u "twoToTheDoubleScaleUp"), (9, u "E"), (3, u "PI"), (2, u "TAU"), (2, u "DEGREES_TO_RADIANS"), (0, u "RADIANS_TO_DEGREES")] 94

def k20m0 : Method := { name := "<init>", desc := "()V", sig := { parameters := [], returnType := none }, accessFlags := 2, code := none }
def k20c1 : Code := { maxStack := 4, maxLocals := 2, code := jdk_29_method_61_code, exceptionTable := #[], attributes := #[] }
def k20m1 : Method := { name := "abs", desc := "(J)J", sig := { parameters := [.long], returnType := some .long }, accessFlags := 9, code := some k20c1 }
def k20c2 : Code := { maxStack := 2, maxLocals := 2, code := jdk_29_method_65_code, exceptionTable := #[], attributes := #[] }
def k20m2 : Method := { name := "max", desc := "(II)I", sig := { parameters := [.int, .int], returnType := some .int }, accessFlags := 9, code := some k20c2 }
def k20c3 : Code := { maxStack := 2, maxLocals := 2, code := jdk_29_method_69_code, exceptionTable := #[], attributes := #[] }
def k20m3 : Method := { name := "min", desc := "(II)I", sig := { parameters := [.int, .int], returnType := some .int }, accessFlags := 9, code := some k20c3 }
/-- java/lang/Math -/
def k20 : Class := { plain "java/lang/Math" (some 0) with
  accessFlags := 49
  interfaces := #[]
  cf := some (fileOf pool20 1 #[.nestMembers #[98]] #[{ accessFlags := 2, nameIndex := 7, descriptorIndex := 8, attributes := #[] }, { accessFlags := 9, nameIndex := 124, descriptorIndex := 125, attributes := #[] }, { accessFlags := 9, nameIndex := 198, descriptorIndex := 335, attributes := #[] }, { accessFlags := 9, nameIndex := 201, descriptorIndex := 335, attributes := #[] }] 49 4 #[] #[{ accessFlags := 25, nameIndex := 354, descriptorIndex := 339, attributes := #[] }, { accessFlags := 25, nameIndex := 358, descriptorIndex := 339, attributes := #[] }, { accessFlags := 25, nameIndex := 361, descriptorIndex := 339, attributes := #[] }, { accessFlags := 26, nameIndex := 364, descriptorIndex := 339, attributes := #[] }, { accessFlags := 26, nameIndex := 365, descriptorIndex := 339, attributes := #[] }, { accessFlags := 26, nameIndex := 172, descriptorIndex := 173, attributes := #[] }, { accessFlags := 26, nameIndex := 176, descriptorIndex := 173, attributes := #[] }, { accessFlags := 8, nameIndex := 344, descriptorIndex := 339, attributes := #[] }, { accessFlags := 8, nameIndex := 338, descriptorIndex := 339, attributes := #[] }, { accessFlags := 4120, nameIndex := 245, descriptorIndex := 246, attributes := #[] }])
  fields := #[{ name := "E", type := .double, accessFlags := 25, slot := 0, constantValue := 0 }, { name := "PI", type := .double, accessFlags := 25, slot := 1, constantValue := 0 }, { name := "TAU", type := .double, accessFlags := 25, slot := 2, constantValue := 0 }, { name := "DEGREES_TO_RADIANS", type := .double, accessFlags := 26, slot := 3, constantValue := 0 }, { name := "RADIANS_TO_DEGREES", type := .double, accessFlags := 26, slot := 4, constantValue := 0 }, { name := "negativeZeroFloatBits", type := .long, accessFlags := 26, slot := 5, constantValue := 0 }, { name := "negativeZeroDoubleBits", type := .long, accessFlags := 26, slot := 6, constantValue := 0 }, { name := "twoToTheDoubleScaleUp", type := .double, accessFlags := 8, slot := 7, constantValue := 0 }, { name := "twoToTheDoubleScaleDown", type := .double, accessFlags := 8, slot := 8, constantValue := 0 }, { name := "$assertionsDisabled", type := .boolean, accessFlags := 4120, slot := 9, constantValue := 0 }]
  methods := #[k20m0, k20m1, k20m2, k20m3]
  instanceTypes := #[]
  staticTypes := #[.double, .double, .double, .double, .double, .long, .long, .double, .double, .boolean]
  resolved := Array.replicate 460 none
  statics := none }

def pool21 : Array CpInfo := pool [(1, .class_ 2), (0, u "java/lang/String"), (1, .class_ 6), (1, u "java/lang/Object"), (0, u "<init>"), (0, u "()V"), (0, .methodref 1 10), (0, .nameAndType 11 12), (0, u "checkIndex"), (0, u "(II)V"), (1, .class_ 16), (1, u "java/lang/StringLatin1"), (36, u "([BI)C"), (67, u "$assertionsDisabled"), (0, u "Z"), (98, .class_ 223), (1, u "java/lang/StringLatin1$LinesSpliterator"), (28, u "charAt"), (137, .class_ 391), (0, u "java/lang/StringLatin1$CharsSpliterator")] 3

def k21m0 : Method := { name := "<init>", desc := "()V", sig := { parameters := [], returnType := none }, accessFlags := 0, code := none }
def k21c1 : Code := { maxStack := 2, maxLocals := 2, code := jdk_43_method_2_code, exceptionTable := #[], attributes := #[] }
def k21m1 : Method := { name := "charAt", desc := "([BI)C", sig := { parameters := [(.array .byte), .int], returnType := some .char }, accessFlags := 9, code := some k21c1 }
/-- java/lang/StringLatin1 -/
def k21 : Class := { plain "java/lang/StringLatin1" (some 0) with
  accessFlags := 48
  interfaces := #[]
  cf := some (fileOf pool21 14 #[.nestMembers #[390, 221]] #[{ accessFlags := 0, nameIndex := 7, descriptorIndex := 8, attributes := #[] }, { accessFlags := 9, nameIndex := 252, descriptorIndex := 53, attributes := #[] }] 48 4 #[] #[{ accessFlags := 4120, nameIndex := 121, descriptorIndex := 122, attributes := #[] }])
  fields := #[{ name := "$assertionsDisabled", type := .boolean, accessFlags := 4120, slot := 0, constantValue := 0 }]
  methods := #[k21m0, k21m1]
  instanceTypes := #[]
  staticTypes := #[.boolean]
  resolved := Array.replicate 395 none
  statics := none }

def pool22 : Array CpInfo := pool [(2, .class_ 4), (1, u "java/lang/Object"), (0, u "<init>"), (0, u "()V"), (17, .class_ 26), (1, u "jdk/internal/util/Preconditions"), (6, u "checkIndex"), (21, .class_ 56), (0, u "jdk/internal/util/Preconditions$4"), (57, .class_ 115), (0, u "jdk/internal/util/Preconditions$1"), (7, u "SIOOBE_FORMATTER"), (0, u "Ljava/util/function/BiFunction;"), (0, .class_ 126), (0, u "jdk/internal/util/Preconditions$2"), (3, u "AIOOBE_FORMATTER"), (0, .class_ 132), (0, u "jdk/internal/util/Preconditions$3"), (3, u "IOOBE_FORMATTER"), (41, u "(IILjava/util/function/BiFunction;)I")] 15

def k22m0 : Method := { name := "<init>", desc := "()V", sig := { parameters := [], returnType := none }, accessFlags := 1, code := none }
def k22c1 : Code := { maxStack := 3, maxLocals := 3, code := jdk_41_method_11_code, exceptionTable := #[], attributes := #[] }
def k22m1 : Method := { name := "checkIndex", desc := "(IILjava/util/function/BiFunction;)I", sig := { parameters := [.int, .int, (.object "java/util/function/BiFunction")], returnType := some .int }, accessFlags := 9, code := some k22c1 }
/-- jdk/internal/util/Preconditions -/
def k22 : Class := { plain "jdk/internal/util/Preconditions" (some 0) with
  accessFlags := 33
  interfaces := #[]
  cf := some (fileOf pool22 24 #[.nestMembers #[55, 131, 125, 114]] #[{ accessFlags := 1, nameIndex := 5, descriptorIndex := 6, attributes := #[] }, { accessFlags := 9, nameIndex := 33, descriptorIndex := 178, attributes := #[] }] 33 2 #[] #[{ accessFlags := 25, nameIndex := 123, descriptorIndex := 124, attributes := #[] }, { accessFlags := 25, nameIndex := 130, descriptorIndex := 124, attributes := #[] }, { accessFlags := 25, nameIndex := 136, descriptorIndex := 124, attributes := #[] }])
  fields := #[{ name := "SIOOBE_FORMATTER", type := (.object "java/util/function/BiFunction"), accessFlags := 25, slot := 0, constantValue := 0 }, { name := "AIOOBE_FORMATTER", type := (.object "java/util/function/BiFunction"), accessFlags := 25, slot := 1, constantValue := 0 }, { name := "IOOBE_FORMATTER", type := (.object "java/util/function/BiFunction"), accessFlags := 25, slot := 2, constantValue := 0 }]
  methods := #[k22m0, k22m1]
  instanceTypes := #[]
  staticTypes := #[(.object "java/util/function/BiFunction"), (.object "java/util/function/BiFunction"), (.object "java/util/function/BiFunction")]
  resolved := Array.replicate 194 none
  statics := some 3 }

def pool23 : Array CpInfo := pool [(9, u "<init>"), (6, .class_ 18), (1, u "java/lang/Object"), (0, u "()V"), (1, .class_ 23), (1, u "jdk/internal/util/ArraysSupport"), (0, u "LOG2_ARRAY_LONG_INDEX_SCALE"), (0, u "I"), (2, u "U"), (0, u "Ljdk/internal/misc/Unsafe;"), (8, u "BIG_ENDIAN"), (0, u "Z"), (8, u "LOG2_BYTE_BIT_SIZE"), (4, u "LOG2_ARRAY_INT_INDEX_SCALE"), (54, u "JLA"), (0, u "Ljdk/internal/access/JavaLangAccess;"), (11, u "LOG2_ARRAY_BOOLEAN_INDEX_SCALE"), (9, u "LOG2_ARRAY_BYTE_INDEX_SCALE"), (5, u "LOG2_ARRAY_CHAR_INDEX_SCALE"), (5, u "LOG2_ARRAY_SHORT_INDEX_SCALE"), (18, u "LOG2_ARRAY_FLOAT_INDEX_SCALE"), (24, u "LOG2_ARRAY_DOUBLE_INDEX_SCALE"), (6, .methodref 195 196), (0, .class_ 197), (0, .nameAndType 198 199), (0, u "java/lang/Math"), (0, u "max"), (0, u "(II)I"), (0, .integer 2147483639), (76, u "T_BOOLEAN"), (2, u "T_CHAR"), (1, u "T_FLOAT"), (1, u "T_DOUBLE"), (1, u "T_BYTE"), (1, u "T_SHORT"), (1, u "T_INT"), (1, u "T_LONG"), (1, u "SOFT_MAX_ARRAY_LENGTH"), (56, u "newLength"), (0, u "(III)I")] 25

def k23m0 : Method := { name := "<init>", desc := "()V", sig := { parameters := [], returnType := none }, accessFlags := 2, code := none }
def k23c1 : Code := { maxStack := 3, maxLocals := 4, code := jdk_48_method_27_code, exceptionTable := #[], attributes := #[] }
def k23m1 : Method := { name := "newLength", desc := "(III)I", sig := { parameters := [.int, .int, .int], returnType := some .int }, accessFlags := 9, code := some k23c1 }
/-- jdk/internal/util/ArraysSupport -/
def k23 : Class := { plain "jdk/internal/util/ArraysSupport" (some 0) with
  accessFlags := 33
  interfaces := #[]
  cf := some (fileOf pool23 21 #[] #[{ accessFlags := 2, nameIndex := 9, descriptorIndex := 19, attributes := #[] }, { accessFlags := 9, nameIndex := 351, descriptorIndex := 352, attributes := #[] }] 33 16 #[] #[{ accessFlags := 24, nameIndex := 28, descriptorIndex := 29, attributes := #[] }, { accessFlags := 26, nameIndex := 38, descriptorIndex := 39, attributes := #[] }, { accessFlags := 25, nameIndex := 121, descriptorIndex := 25, attributes := #[] }, { accessFlags := 25, nameIndex := 131, descriptorIndex := 25, attributes := #[] }, { accessFlags := 25, nameIndex := 137, descriptorIndex := 25, attributes := #[] }, { accessFlags := 25, nameIndex := 143, descriptorIndex := 25, attributes := #[] }, { accessFlags := 25, nameIndex := 53, descriptorIndex := 25, attributes := #[] }, { accessFlags := 25, nameIndex := 24, descriptorIndex := 25, attributes := #[] }, { accessFlags := 25, nameIndex := 162, descriptorIndex := 25, attributes := #[] }, { accessFlags := 25, nameIndex := 187, descriptorIndex := 25, attributes := #[] }, { accessFlags := 26, nameIndex := 48, descriptorIndex := 25, attributes := #[] }, { accessFlags := 25, nameIndex := 277, descriptorIndex := 25, attributes := #[] }, { accessFlags := 25, nameIndex := 280, descriptorIndex := 25, attributes := #[] }, { accessFlags := 25, nameIndex := 282, descriptorIndex := 25, attributes := #[] }, { accessFlags := 25, nameIndex := 284, descriptorIndex := 25, attributes := #[] }, { accessFlags := 25, nameIndex := 286, descriptorIndex := 25, attributes := #[] }, { accessFlags := 25, nameIndex := 288, descriptorIndex := 25, attributes := #[] }, { accessFlags := 25, nameIndex := 290, descriptorIndex := 25, attributes := #[] }, { accessFlags := 25, nameIndex := 292, descriptorIndex := 25, attributes := #[] }, { accessFlags := 26, nameIndex := 108, descriptorIndex := 109, attributes := #[] }, { accessFlags := 25, nameIndex := 294, descriptorIndex := 25, attributes := #[] }])
  fields := #[{ name := "U", type := (.object "jdk/internal/misc/Unsafe"), accessFlags := 24, slot := 0, constantValue := 0 }, { name := "BIG_ENDIAN", type := .boolean, accessFlags := 26, slot := 1, constantValue := 0 }, { name := "LOG2_ARRAY_BOOLEAN_INDEX_SCALE", type := .int, accessFlags := 25, slot := 2, constantValue := 0 }, { name := "LOG2_ARRAY_BYTE_INDEX_SCALE", type := .int, accessFlags := 25, slot := 3, constantValue := 0 }, { name := "LOG2_ARRAY_CHAR_INDEX_SCALE", type := .int, accessFlags := 25, slot := 4, constantValue := 0 }, { name := "LOG2_ARRAY_SHORT_INDEX_SCALE", type := .int, accessFlags := 25, slot := 5, constantValue := 0 }, { name := "LOG2_ARRAY_INT_INDEX_SCALE", type := .int, accessFlags := 25, slot := 6, constantValue := 0 }, { name := "LOG2_ARRAY_LONG_INDEX_SCALE", type := .int, accessFlags := 25, slot := 7, constantValue := 0 }, { name := "LOG2_ARRAY_FLOAT_INDEX_SCALE", type := .int, accessFlags := 25, slot := 8, constantValue := 0 }, { name := "LOG2_ARRAY_DOUBLE_INDEX_SCALE", type := .int, accessFlags := 25, slot := 9, constantValue := 0 }, { name := "LOG2_BYTE_BIT_SIZE", type := .int, accessFlags := 26, slot := 10, constantValue := 0 }, { name := "T_BOOLEAN", type := .int, accessFlags := 25, slot := 11, constantValue := 0 }, { name := "T_CHAR", type := .int, accessFlags := 25, slot := 12, constantValue := 0 }, { name := "T_FLOAT", type := .int, accessFlags := 25, slot := 13, constantValue := 0 }, { name := "T_DOUBLE", type := .int, accessFlags := 25, slot := 14, constantValue := 0 }, { name := "T_BYTE", type := .int, accessFlags := 25, slot := 15, constantValue := 0 }, { name := "T_SHORT", type := .int, accessFlags := 25, slot := 16, constantValue := 0 }, { name := "T_INT", type := .int, accessFlags := 25, slot := 17, constantValue := 0 }, { name := "T_LONG", type := .int, accessFlags := 25, slot := 18, constantValue := 0 }, { name := "JLA", type := (.object "jdk/internal/access/JavaLangAccess"), accessFlags := 26, slot := 19, constantValue := 0 }, { name := "SOFT_MAX_ARRAY_LENGTH", type := .int, accessFlags := 25, slot := 20, constantValue := 0 }]
  methods := #[k23m0, k23m1]
  instanceTypes := #[]
  staticTypes := #[(.object "jdk/internal/misc/Unsafe"), .boolean, .int, .int, .int, .int, .int, .int, .int, .int, .int, .int, .int, .int, .int, .int, .int, .int, .int, (.object "jdk/internal/access/JavaLangAccess"), .int]
  resolved := Array.replicate 378 none
  statics := none }

def pool24 : Array CpInfo := pool [(1, .class_ 2), (0, u "java/lang/Cloneable"), (0, .class_ 4), (0, u "java/lang/Object")] 2

/-- java/lang/Cloneable -/
def k24 : Class := { plain "java/lang/Cloneable" (some 0) with
  accessFlags := 1537
  interfaces := #[]
  cf := some (fileOf pool24 1 #[] #[] 1537 3 #[] #[])
  fields := #[]
  methods := #[]
  instanceTypes := #[]
  staticTypes := #[]
  resolved := Array.replicate 7 none
  statics := none }

/-- the primitive byte -/
def k25 : Class := { plain "byte" none with kind := .primitive 'B', accessFlags := 0x411 }
/-- [B -/
def k26 : Class := { plain "[B" (some 0) with kind := .array 25 .byte, interfaces := #[24, 6], accessFlags := 1041 }

def heap : Heap := #[{ cls := 8, slots := #[.ref 8, .null, .ref 9, .null], vm := .statics 8 },
  { cls := 11, slots := #[.long 0, .int 1, .null, .int 0, .null, .int 0, .int 0], vm := .statics 11 },
  { cls := 18, slots := #[.int 0, .int 0, .null, .null, .ref 11, .ref 10, .int 0, .int 0, .long 0], vm := .statics 18 },
  { cls := 22, slots := #[.null, .null, .null], vm := .statics 22 },
  { cls := 26, slots := #[.int 110, .int 97, .int 116, .int 105, .int 111, .int 110, .int 97, .int 108], vm := .none },
  { cls := 11, slots := #[.ref 4, .int 0, .int 0, .int 0], vm := .none },
  { cls := 26, slots := #[.int 105, .int 110, .int 116, .int 101, .int 114, .int 110, .int 97, .int 116, .int 105, .int 111, .int 110, .int 97, .int 108], vm := .none },
  { cls := 11, slots := #[.ref 6, .int 0, .int 0, .int 0], vm := .none },
  { cls := 8, slots := #[.null, .int 0, .int 0, .ref 5], vm := .none },
  { cls := 8, slots := #[.null, .int 2, .int 0, .ref 7], vm := .none },
  { cls := 26, slots := #[.int 48, .int 49, .int 50, .int 51, .int 52, .int 53, .int 54, .int 55, .int 56, .int 57, .int 48, .int 49, .int 50, .int 51, .int 52, .int 53, .int 54, .int 55, .int 56, .int 57, .int 48, .int 49, .int 50, .int 51, .int 52, .int 53, .int 54, .int 55, .int 56, .int 57, .int 48, .int 49, .int 50, .int 51, .int 52, .int 53, .int 54, .int 55, .int 56, .int 57, .int 48, .int 49, .int 50, .int 51, .int 52, .int 53, .int 54, .int 55, .int 56, .int 57, .int 48, .int 49, .int 50, .int 51, .int 52, .int 53, .int 54, .int 55, .int 56, .int 57, .int 48, .int 49, .int 50, .int 51, .int 52, .int 53, .int 54, .int 55, .int 56, .int 57, .int 48, .int 49, .int 50, .int 51, .int 52, .int 53, .int 54, .int 55, .int 56, .int 57, .int 48, .int 49, .int 50, .int 51, .int 52, .int 53, .int 54, .int 55, .int 56, .int 57, .int 48, .int 49, .int 50, .int 51, .int 52, .int 53, .int 54, .int 55, .int 56, .int 57], vm := .none },
  { cls := 26, slots := #[.int 48, .int 48, .int 48, .int 48, .int 48, .int 48, .int 48, .int 48, .int 48, .int 48, .int 49, .int 49, .int 49, .int 49, .int 49, .int 49, .int 49, .int 49, .int 49, .int 49, .int 50, .int 50, .int 50, .int 50, .int 50, .int 50, .int 50, .int 50, .int 50, .int 50, .int 51, .int 51, .int 51, .int 51, .int 51, .int 51, .int 51, .int 51, .int 51, .int 51, .int 52, .int 52, .int 52, .int 52, .int 52, .int 52, .int 52, .int 52, .int 52, .int 52, .int 53, .int 53, .int 53, .int 53, .int 53, .int 53, .int 53, .int 53, .int 53, .int 53, .int 54, .int 54, .int 54, .int 54, .int 54, .int 54, .int 54, .int 54, .int 54, .int 54, .int 55, .int 55, .int 55, .int 55, .int 55, .int 55, .int 55, .int 55, .int 55, .int 55, .int 56, .int 56, .int 56, .int 56, .int 56, .int 56, .int 56, .int 56, .int 56, .int 56, .int 57, .int 57, .int 57, .int 57, .int 57, .int 57, .int 57, .int 57, .int 57, .int 57], vm := .none }]
def classes : Array Class := #[k0, k1, k2, k3, k4, k5, k6, k7, k8, k9, k10, k11, k12, k13, k14, k15, k16, k17, k18, k19, k20, k21, k22, k23, k24, k25, k26]
def interned : List (Array UInt16 × Addr) := []
def slotsUsed : Nat := 260
def theMethod : MethodId := ⟨1, 1⟩
def args0 : Array Value := #[.int 5, .int 6, .int 7, .int 5]
def aboutOver (below : List Frame) : State where
  vm := { classes := classes, interned := interned.toArray }
  heap := heap
  slotsUsed := slotsUsed
  threads := #[{ frames := .invoking theMethod args0 :: below }]
def below0 : List Frame := [.native { method := ⟨0, 0⟩, args := #[] }]
def about1 : State := aboutOver below0
def p0 : Program := .bare "" "" ""
def e0 : Env := launch0.env 0 0 0
theorem w_frames : about1.frames = Frame.invoking theMethod args0 :: below0 := rfl
set_option maxRecDepth 65536 in
theorem w_args : argsFit about1.vm theMethod args0 = true := by decide +kernel
set_option maxRecDepth 65536 in
theorem w_heap : heapFits about1 = true := by decide +kernel
set_option maxRecDepth 65536 in
theorem w_runnable : about1.curStatus? = some .runnable := by decide +kernel
set_option maxRecDepth 65536 in
theorem w_alone : about1.alone = true := by decide +kernel
set_option maxRecDepth 65536 in
theorem w_named : about1.methodNamed? x = some theMethod := by decide +kernel
set_option maxRecDepth 65536 in
theorem w_hears : about1.hears theMethod below0 = true := by decide +kernel
set_option maxRecDepth 65536 in
theorem w_ripe : about1.ripe theMethod args0 below0 = true := by decide +kernel
theorem w_running : about1.status = .running := rfl
set_option maxRecDepth 65536 in
theorem w_room : about1.hasRoom e0.platform room_1 = true :=
  launch0.hasRoom_least _ room_1 (by decide +kernel) (by decide +kernel) (by decide +kernel) (by decide +kernel) (by decide +kernel) (by decide +kernel)
theorem allAtoms_all (ts : List Jvm.Cond) (a : Array Jvm.Value) (st : Jvm.State) : (allAtoms ts).before a st = ts.all (fun c => c.before a st) := by
  induction ts with
  | nil => rfl
  | cons c t ih =>
    show (Jvm.Cond.and c (allAtoms t)).before a st = _
    rw [Jvm.Cond.before_and, ih, List.all_cons]
def words1 : List Jvm.Cond := Jvm.Cond.code x code maxLocals ret :: tables_1
/-- a 'code' word, met by the world's own term for the bytes: nothing is compared byte by byte -/
theorem code_word {y : MethodName} {bytes : ByteArray} {mx : Nat} {rt : Option FieldType} {a : Array Value} {s : State} {m : MethodId} {meth : Method} {c : Code} (h1 : s.methodNamed? y = some m) (h2 : s.vm.method? m = some meth) (h3 : meth.code = some c) (h4 : c.code = bytes)
    (h5 : (c.maxLocals == mx && c.exceptionTable.isEmpty && decide (c.maxStack ≤ mostOperands) && decide (meth.sig.returnType = rt) && !meth.locks && decide (parseMethodDescriptor y.desc = some meth.sig)) = true) : (Jvm.Cond.code y bytes mx rt).before a s = true := by
  simp only [Bool.and_eq_true, beq_iff_eq, Bool.not_eq_true', decide_eq_true_eq] at h5
  obtain ⟨⟨⟨⟨⟨g1, g2⟩, g3⟩, g4⟩, g5⟩, g6⟩ := h5
  simp [Cond.before, Cond.holds, Cond.value, h1, h2, h3, h4, g1, g2, g3, g4, g5, g6]
def isCode : Jvm.Cond → Bool
  | .code _ _ _ _ => true
  | _ => false
theorem all_split {L : List Jvm.Cond} {P : Jvm.Cond → Bool} (h1 : L.all (fun c => isCode c || P c) = true) (h2 : ∀ c ∈ L.filter isCode, P c = true) : L.all P = true := by
  refine List.all_eq_true.mpr fun c hc => ?_
  have h := List.all_eq_true.mp h1 c hc
  rcases Bool.eq_false_or_eq_true (isCode c) with hi | hi
  · exact h2 c (List.mem_filter.mpr ⟨hc, hi⟩)
  · simpa [hi] using h
set_option maxRecDepth 65536 in
theorem w_c0 : (Jvm.Cond.code x code maxLocals ret).before args0 about1 = true := code_word (m := ⟨1, 1⟩) (meth := k1m1) (c := k1c1) (by decide +kernel) rfl rfl rfl (by decide +kernel)
set_option maxRecDepth 65536 in
theorem w_c1 : (Jvm.Cond.code ({ cls := "com/example/nalog/nalog/OrderClass", name := "<init>", desc := "(Lcom/example/nalog/nalog/OrderClass$Reach;ZZLjava/lang/String;)V" } : Jvm.MethodName) prog_76_method_1_code (5 : Nat) (Option.none : Option Jvm.ClassFile.FieldType)).before args0 about1 = true := code_word (m := ⟨3, 0⟩) (meth := k3m0) (c := k3c0) (by decide +kernel) rfl rfl rfl (by decide +kernel)
set_option maxRecDepth 65536 in
theorem w_c2 : (Jvm.Cond.code ({ cls := "java/lang/Record", name := "<init>", desc := "()V" } : Jvm.MethodName) jdk_30_method_1_code (1 : Nat) (Option.none : Option Jvm.ClassFile.FieldType)).before args0 about1 = true := code_word (m := ⟨2, 0⟩) (meth := k2m0) (c := k2c0) (by decide +kernel) rfl rfl rfl (by decide +kernel)
set_option maxRecDepth 65536 in
theorem w_c3 : (Jvm.Cond.code ({ cls := "java/lang/Object", name := "<init>", desc := "()V" } : Jvm.MethodName) object_method_1_code (1 : Nat) (Option.none : Option Jvm.ClassFile.FieldType)).before args0 about1 = true := code_word (m := ⟨0, 0⟩) (meth := k0m0) (c := k0c0) (by decide +kernel) rfl rfl rfl (by decide +kernel)
set_option maxRecDepth 65536 in
theorem w_c4 : (Jvm.Cond.code ({ cls := "com/example/nalog/nalog/OrderCountAddPinLaw", name := "pick", desc := "(ILcom/example/nalog/nalog/OrderClass;Lcom/example/nalog/nalog/OrderClass;)Lcom/example/nalog/nalog/OrderClass;" } : Jvm.MethodName) method_3_code (3 : Nat) (Option.some (Jvm.ClassFile.FieldType.object "com/example/nalog/nalog/OrderClass"))).before args0 about1 = true := code_word (m := ⟨1, 2⟩) (meth := k1m2) (c := k1c2) (by decide +kernel) rfl rfl rfl (by decide +kernel)
set_option maxRecDepth 65536 in
theorem w_c5 : (Jvm.Cond.code ({ cls := "com/example/nalog/nalog/OrderCount", name := "<init>", desc := "()V" } : Jvm.MethodName) prog_78_method_1_code (1 : Nat) (Option.none : Option Jvm.ClassFile.FieldType)).before args0 about1 = true := code_word (m := ⟨12, 0⟩) (meth := k12m0) (c := k12c0) (by decide +kernel) rfl rfl rfl (by decide +kernel)
set_option maxRecDepth 65536 in
theorem w_c6 : (Jvm.Cond.code ({ cls := "com/example/nalog/nalog/OrderCount", name := "add", desc := "(ILcom/example/nalog/nalog/OrderClass;)V" } : Jvm.MethodName) prog_78_method_3_code (3 : Nat) (Option.none : Option Jvm.ClassFile.FieldType)).before args0 about1 = true := code_word (m := ⟨12, 1⟩) (meth := k12m1) (c := k12c1) (by decide +kernel) rfl rfl rfl (by decide +kernel)
set_option maxRecDepth 65536 in
theorem w_c7 : (Jvm.Cond.code ({ cls := "com/example/nalog/nalog/OrderCount", name := "isEmpty", desc := "()Z" } : Jvm.MethodName) prog_78_method_4_code (1 : Nat) (Option.some Jvm.ClassFile.FieldType.boolean)).before args0 about1 = true := code_word (m := ⟨12, 2⟩) (meth := k12m2) (c := k12c2) (by decide +kernel) rfl rfl rfl (by decide +kernel)
set_option maxRecDepth 65536 in
theorem w_c8 : (Jvm.Cond.code ({ cls := "com/example/nalog/nalog/OrderCount", name := "firstClass", desc := "()Lcom/example/nalog/nalog/OrderClass;" } : Jvm.MethodName) prog_78_method_5_code (1 : Nat) (Option.some (Jvm.ClassFile.FieldType.object "com/example/nalog/nalog/OrderClass"))).before args0 about1 = true := code_word (m := ⟨12, 3⟩) (meth := k12m3) (c := k12c3) (by decide +kernel) rfl rfl rfl (by decide +kernel)
set_option maxRecDepth 65536 in
theorem w_c9 : (Jvm.Cond.code ({ cls := "com/example/nalog/nalog/OrderCount", name := "describe", desc := "(Ljava/lang/String;Ljava/lang/String;)Ljava/lang/String;" } : Jvm.MethodName) prog_78_method_6_code (4 : Nat) (Option.some (Jvm.ClassFile.FieldType.object "java/lang/String"))).before args0 about1 = true := code_word (m := ⟨12, 4⟩) (meth := k12m4) (c := k12c4) (by decide +kernel) rfl rfl rfl (by decide +kernel)
set_option maxRecDepth 65536 in
theorem w_c10 : (Jvm.Cond.code ({ cls := "java/lang/StringBuilder", name := "<init>", desc := "()V" } : Jvm.MethodName) jdk_67_method_1_code (1 : Nat) (Option.none : Option Jvm.ClassFile.FieldType)).before args0 about1 = true := code_word (m := ⟨15, 0⟩) (meth := k15m0) (c := k15c0) (by decide +kernel) rfl rfl rfl (by decide +kernel)
set_option maxRecDepth 65536 in
theorem w_c11 : (Jvm.Cond.code ({ cls := "java/lang/AbstractStringBuilder", name := "<init>", desc := "(I)V" } : Jvm.MethodName) jdk_68_method_2_code (2 : Nat) (Option.none : Option Jvm.ClassFile.FieldType)).before args0 about1 = true := code_word (m := ⟨14, 1⟩) (meth := k14m1) (c := k14c1) (by decide +kernel) rfl rfl rfl (by decide +kernel)
set_option maxRecDepth 65536 in
theorem w_c12 : (Jvm.Cond.code ({ cls := "java/lang/StringBuilder", name := "append", desc := "(Ljava/lang/String;)Ljava/lang/StringBuilder;" } : Jvm.MethodName) jdk_67_method_7_code (2 : Nat) (Option.some (Jvm.ClassFile.FieldType.object "java/lang/StringBuilder"))).before args0 about1 = true := code_word (m := ⟨15, 1⟩) (meth := k15m1) (c := k15c1) (by decide +kernel) rfl rfl rfl (by decide +kernel)
set_option maxRecDepth 65536 in
theorem w_c13 : (Jvm.Cond.code ({ cls := "java/lang/AbstractStringBuilder", name := "append", desc := "(Ljava/lang/String;)Ljava/lang/AbstractStringBuilder;" } : Jvm.MethodName) jdk_68_method_22_code (3 : Nat) (Option.some (Jvm.ClassFile.FieldType.object "java/lang/AbstractStringBuilder"))).before args0 about1 = true := code_word (m := ⟨14, 5⟩) (meth := k14m5) (c := k14c5) (by decide +kernel) rfl rfl rfl (by decide +kernel)
set_option maxRecDepth 65536 in
theorem w_c14 : (Jvm.Cond.code ({ cls := "java/lang/String", name := "length", desc := "()I" } : Jvm.MethodName) jdk_42_method_54_code (1 : Nat) (Option.some Jvm.ClassFile.FieldType.int)).before args0 about1 = true := code_word (m := ⟨11, 2⟩) (meth := k11m2) (c := k11c2) (by decide +kernel) rfl rfl rfl (by decide +kernel)
set_option maxRecDepth 65536 in
theorem w_c15 : (Jvm.Cond.code ({ cls := "java/lang/String", name := "coder", desc := "()B" } : Jvm.MethodName) jdk_42_method_152_code (1 : Nat) (Option.some Jvm.ClassFile.FieldType.byte)).before args0 about1 = true := code_word (m := ⟨11, 6⟩) (meth := k11m6) (c := k11c6) (by decide +kernel) rfl rfl rfl (by decide +kernel)
set_option maxRecDepth 65536 in
theorem w_c16 : (Jvm.Cond.code ({ cls := "java/lang/AbstractStringBuilder", name := "ensureCapacityInternal", desc := "(I)V" } : Jvm.MethodName) jdk_68_method_9_code (3 : Nat) (Option.none : Option Jvm.ClassFile.FieldType)).before args0 about1 = true := code_word (m := ⟨14, 3⟩) (meth := k14m3) (c := k14c3) (by decide +kernel) rfl rfl rfl (by decide +kernel)
set_option maxRecDepth 65536 in
theorem w_c17 : (Jvm.Cond.code ({ cls := "java/lang/AbstractStringBuilder", name := "putStringAt", desc := "(ILjava/lang/String;)V" } : Jvm.MethodName) jdk_68_method_73_code (3 : Nat) (Option.none : Option Jvm.ClassFile.FieldType)).before args0 about1 = true := code_word (m := ⟨14, 10⟩) (meth := k14m10) (c := k14c10) (by decide +kernel) rfl rfl rfl (by decide +kernel)
set_option maxRecDepth 65536 in
theorem w_c18 : (Jvm.Cond.code ({ cls := "java/lang/AbstractStringBuilder", name := "inflateIfNeededFor", desc := "(Ljava/lang/String;)V" } : Jvm.MethodName) jdk_68_method_71_code (2 : Nat) (Option.none : Option Jvm.ClassFile.FieldType)).before args0 about1 = true := code_word (m := ⟨14, 9⟩) (meth := k14m9) (c := k14c9) (by decide +kernel) rfl rfl rfl (by decide +kernel)
set_option maxRecDepth 65536 in
theorem w_c19 : (Jvm.Cond.code ({ cls := "java/lang/String", name := "getBytes", desc := "([BIB)V" } : Jvm.MethodName) jdk_42_method_147_code (4 : Nat) (Option.none : Option Jvm.ClassFile.FieldType)).before args0 about1 = true := code_word (m := ⟨11, 4⟩) (meth := k11m4) (c := k11c4) (by decide +kernel) rfl rfl rfl (by decide +kernel)
set_option maxRecDepth 65536 in
theorem w_c20 : (Jvm.Cond.code ({ cls := "java/lang/StringBuilder", name := "append", desc := "(I)Ljava/lang/StringBuilder;" } : Jvm.MethodName) jdk_67_method_15_code (2 : Nat) (Option.some (Jvm.ClassFile.FieldType.object "java/lang/StringBuilder"))).before args0 about1 = true := code_word (m := ⟨15, 2⟩) (meth := k15m2) (c := k15c2) (by decide +kernel) rfl rfl rfl (by decide +kernel)
set_option maxRecDepth 65536 in
theorem w_c21 : (Jvm.Cond.code ({ cls := "java/lang/AbstractStringBuilder", name := "append", desc := "(I)Ljava/lang/AbstractStringBuilder;" } : Jvm.MethodName) jdk_68_method_32_code (4 : Nat) (Option.some (Jvm.ClassFile.FieldType.object "java/lang/AbstractStringBuilder"))).before args0 about1 = true := code_word (m := ⟨14, 6⟩) (meth := k14m6) (c := k14c6) (by decide +kernel) rfl rfl rfl (by decide +kernel)
set_option maxRecDepth 65536 in
theorem w_c22 : (Jvm.Cond.code ({ cls := "java/lang/Integer", name := "stringSize", desc := "(I)I" } : Jvm.MethodName) jdk_33_method_13_code (4 : Nat) (Option.some Jvm.ClassFile.FieldType.int)).before args0 about1 = true := code_word (m := ⟨18, 1⟩) (meth := k18m1) (c := k18c1) (by decide +kernel) rfl rfl rfl (by decide +kernel)
set_option maxRecDepth 65536 in
theorem w_c23 : (Jvm.Cond.code ({ cls := "java/lang/AbstractStringBuilder", name := "isLatin1", desc := "()Z" } : Jvm.MethodName) jdk_68_method_68_code (1 : Nat) (Option.some Jvm.ClassFile.FieldType.boolean)).before args0 about1 = true := code_word (m := ⟨14, 8⟩) (meth := k14m8) (c := k14c8) (by decide +kernel) rfl rfl rfl (by decide +kernel)
set_option maxRecDepth 65536 in
theorem w_c24 : (Jvm.Cond.code ({ cls := "java/lang/Integer", name := "getChars", desc := "(II[B)I" } : Jvm.MethodName) jdk_33_method_12_code (7 : Nat) (Option.some Jvm.ClassFile.FieldType.int)).before args0 about1 = true := code_word (m := ⟨18, 0⟩) (meth := k18m0) (c := k18c0) (by decide +kernel) rfl rfl rfl (by decide +kernel)
set_option maxRecDepth 65536 in
theorem w_c25 : (Jvm.Cond.code ({ cls := "java/lang/StringBuilder", name := "toString", desc := "()Ljava/lang/String;" } : Jvm.MethodName) jdk_67_method_42_code (1 : Nat) (Option.some (Jvm.ClassFile.FieldType.object "java/lang/String"))).before args0 about1 = true := code_word (m := ⟨15, 3⟩) (meth := k15m3) (c := k15c3) (by decide +kernel) rfl rfl rfl (by decide +kernel)
set_option maxRecDepth 65536 in
theorem w_c26 : (Jvm.Cond.code ({ cls := "java/lang/String", name := "<init>", desc := "(Ljava/lang/StringBuilder;)V" } : Jvm.MethodName) jdk_42_method_53_code (2 : Nat) (Option.none : Option Jvm.ClassFile.FieldType)).before args0 about1 = true := code_word (m := ⟨11, 1⟩) (meth := k11m1) (c := k11c1) (by decide +kernel) rfl rfl rfl (by decide +kernel)
set_option maxRecDepth 65536 in
theorem w_c27 : (Jvm.Cond.code ({ cls := "java/lang/String", name := "<init>", desc := "(Ljava/lang/AbstractStringBuilder;Ljava/lang/Void;)V" } : Jvm.MethodName) jdk_42_method_150_code (5 : Nat) (Option.none : Option Jvm.ClassFile.FieldType)).before args0 about1 = true := code_word (m := ⟨11, 5⟩) (meth := k11m5) (c := k11c5) (by decide +kernel) rfl rfl rfl (by decide +kernel)
set_option maxRecDepth 65536 in
theorem w_c28 : (Jvm.Cond.code ({ cls := "java/lang/AbstractStringBuilder", name := "getValue", desc := "()[B" } : Jvm.MethodName) jdk_68_method_64_code (1 : Nat) (Option.some (Jvm.ClassFile.FieldType.array Jvm.ClassFile.FieldType.byte))).before args0 about1 = true := code_word (m := ⟨14, 7⟩) (meth := k14m7) (c := k14c7) (by decide +kernel) rfl rfl rfl (by decide +kernel)
set_option maxRecDepth 65536 in
theorem w_c29 : (Jvm.Cond.code ({ cls := "java/lang/StringBuilder", name := "length", desc := "()I" } : Jvm.MethodName) jdk_67_method_93_code (1 : Nat) (Option.some Jvm.ClassFile.FieldType.int)).before args0 about1 = true := code_word (m := ⟨15, 4⟩) (meth := k15m4) (c := k15c4) (by decide +kernel) rfl rfl rfl (by decide +kernel)
set_option maxRecDepth 65536 in
theorem w_c30 : (Jvm.Cond.code ({ cls := "java/lang/AbstractStringBuilder", name := "length", desc := "()I" } : Jvm.MethodName) jdk_68_method_6_code (1 : Nat) (Option.some Jvm.ClassFile.FieldType.int)).before args0 about1 = true := code_word (m := ⟨14, 2⟩) (meth := k14m2) (c := k14c2) (by decide +kernel) rfl rfl rfl (by decide +kernel)
set_option maxRecDepth 65536 in
theorem w_c31 : (Jvm.Cond.code ({ cls := "java/util/Arrays", name := "copyOfRange", desc := "([BII)[B" } : Jvm.MethodName) jdk_65_method_132_code (3 : Nat) (Option.some (Jvm.ClassFile.FieldType.array Jvm.ClassFile.FieldType.byte))).before args0 about1 = true := code_word (m := ⟨19, 3⟩) (meth := k19m3) (c := k19c3) (by decide +kernel) rfl rfl rfl (by decide +kernel)
set_option maxRecDepth 65536 in
theorem w_c32 : (Jvm.Cond.code ({ cls := "java/util/Arrays", name := "copyOfRangeByte", desc := "([BII)[B" } : Jvm.MethodName) jdk_65_method_133_code (5 : Nat) (Option.some (Jvm.ClassFile.FieldType.array Jvm.ClassFile.FieldType.byte))).before args0 about1 = true := code_word (m := ⟨19, 4⟩) (meth := k19m4) (c := k19c4) (by decide +kernel) rfl rfl rfl (by decide +kernel)
set_option maxRecDepth 65536 in
theorem w_c33 : (Jvm.Cond.code ({ cls := "java/util/Arrays", name := "checkLength", desc := "(II)V" } : Jvm.MethodName) jdk_65_method_131_code (2 : Nat) (Option.none : Option Jvm.ClassFile.FieldType)).before args0 about1 = true := code_word (m := ⟨19, 2⟩) (meth := k19m2) (c := k19c2) (by decide +kernel) rfl rfl rfl (by decide +kernel)
set_option maxRecDepth 65536 in
theorem w_c34 : (Jvm.Cond.code ({ cls := "java/lang/Math", name := "min", desc := "(II)I" } : Jvm.MethodName) jdk_29_method_69_code (2 : Nat) (Option.some Jvm.ClassFile.FieldType.int)).before args0 about1 = true := code_word (m := ⟨20, 3⟩) (meth := k20m3) (c := k20c3) (by decide +kernel) rfl rfl rfl (by decide +kernel)
set_option maxRecDepth 65536 in
theorem w_c35 : (Jvm.Cond.code ({ cls := "com/example/nalog/nalog/OrderCountAddPinLaw", name := "describes", desc := "(Ljava/lang/String;IIZ)Z" } : Jvm.MethodName) method_4_code (10 : Nat) (Option.some Jvm.ClassFile.FieldType.boolean)).before args0 about1 = true := code_word (m := ⟨1, 3⟩) (meth := k1m3) (c := k1c3) (by decide +kernel) rfl rfl rfl (by decide +kernel)
set_option maxRecDepth 65536 in
theorem w_c36 : (Jvm.Cond.code ({ cls := "com/example/nalog/nalog/OrderCountAddPinLaw", name := "numberAt", desc := "(Ljava/lang/String;II)Z" } : Jvm.MethodName) method_9_code (4 : Nat) (Option.some Jvm.ClassFile.FieldType.boolean)).before args0 about1 = true := code_word (m := ⟨1, 8⟩) (meth := k1m8) (c := k1c8) (by decide +kernel) rfl rfl rfl (by decide +kernel)
set_option maxRecDepth 65536 in
theorem w_c37 : (Jvm.Cond.code ({ cls := "com/example/nalog/nalog/OrderCountAddPinLaw", name := "decLen", desc := "(I)I" } : Jvm.MethodName) method_7_code (2 : Nat) (Option.some Jvm.ClassFile.FieldType.int)).before args0 about1 = true := code_word (m := ⟨1, 6⟩) (meth := k1m6) (c := k1c6) (by decide +kernel) rfl rfl rfl (by decide +kernel)
set_option maxRecDepth 65536 in
theorem w_c38 : (Jvm.Cond.code ({ cls := "java/lang/Math", name := "abs", desc := "(J)J" } : Jvm.MethodName) jdk_29_method_61_code (2 : Nat) (Option.some Jvm.ClassFile.FieldType.long)).before args0 about1 = true := code_word (m := ⟨20, 1⟩) (meth := k20m1) (c := k20c1) (by decide +kernel) rfl rfl rfl (by decide +kernel)
set_option maxRecDepth 65536 in
theorem w_c39 : (Jvm.Cond.code ({ cls := "com/example/nalog/nalog/OrderCountAddPinLaw", name := "digits", desc := "(J)I" } : Jvm.MethodName) method_5_code (2 : Nat) (Option.some Jvm.ClassFile.FieldType.int)).before args0 about1 = true := code_word (m := ⟨1, 4⟩) (meth := k1m4) (c := k1c4) (by decide +kernel) rfl rfl rfl (by decide +kernel)
set_option maxRecDepth 65536 in
theorem w_c40 : (Jvm.Cond.code ({ cls := "java/lang/String", name := "charAt", desc := "(I)C" } : Jvm.MethodName) jdk_42_method_56_code (2 : Nat) (Option.some Jvm.ClassFile.FieldType.char)).before args0 about1 = true := code_word (m := ⟨11, 3⟩) (meth := k11m3) (c := k11c3) (by decide +kernel) rfl rfl rfl (by decide +kernel)
set_option maxRecDepth 65536 in
theorem w_c41 : (Jvm.Cond.code ({ cls := "java/lang/String", name := "isLatin1", desc := "()Z" } : Jvm.MethodName) jdk_42_method_154_code (1 : Nat) (Option.some Jvm.ClassFile.FieldType.boolean)).before args0 about1 = true := code_word (m := ⟨11, 7⟩) (meth := k11m7) (c := k11c7) (by decide +kernel) rfl rfl rfl (by decide +kernel)
set_option maxRecDepth 65536 in
theorem w_c42 : (Jvm.Cond.code ({ cls := "java/lang/StringLatin1", name := "charAt", desc := "([BI)C" } : Jvm.MethodName) jdk_43_method_2_code (2 : Nat) (Option.some Jvm.ClassFile.FieldType.char)).before args0 about1 = true := code_word (m := ⟨21, 1⟩) (meth := k21m1) (c := k21c1) (by decide +kernel) rfl rfl rfl (by decide +kernel)
set_option maxRecDepth 65536 in
theorem w_c43 : (Jvm.Cond.code ({ cls := "java/lang/String", name := "checkIndex", desc := "(II)V" } : Jvm.MethodName) jdk_42_method_155_code (2 : Nat) (Option.none : Option Jvm.ClassFile.FieldType)).before args0 about1 = true := code_word (m := ⟨11, 8⟩) (meth := k11m8) (c := k11c8) (by decide +kernel) rfl rfl rfl (by decide +kernel)
set_option maxRecDepth 65536 in
theorem w_c44 : (Jvm.Cond.code ({ cls := "jdk/internal/util/Preconditions", name := "checkIndex", desc := "(IILjava/util/function/BiFunction;)I" } : Jvm.MethodName) jdk_41_method_11_code (3 : Nat) (Option.some Jvm.ClassFile.FieldType.int)).before args0 about1 = true := code_word (m := ⟨22, 1⟩) (meth := k22m1) (c := k22c1) (by decide +kernel) rfl rfl rfl (by decide +kernel)
set_option maxRecDepth 65536 in
theorem w_c45 : (Jvm.Cond.code ({ cls := "com/example/nalog/nalog/OrderCountAddPinLaw", name := "decChar", desc := "(II)C" } : Jvm.MethodName) method_8_code (8 : Nat) (Option.some Jvm.ClassFile.FieldType.char)).before args0 about1 = true := code_word (m := ⟨1, 7⟩) (meth := k1m7) (c := k1c7) (by decide +kernel) rfl rfl rfl (by decide +kernel)
set_option maxRecDepth 65536 in
theorem w_c46 : (Jvm.Cond.code ({ cls := "com/example/nalog/nalog/OrderCountAddPinLaw", name := "pow10", desc := "(I)J" } : Jvm.MethodName) method_6_code (1 : Nat) (Option.some Jvm.ClassFile.FieldType.long)).before args0 about1 = true := code_word (m := ⟨1, 5⟩) (meth := k1m5) (c := k1c5) (by decide +kernel) rfl rfl rfl (by decide +kernel)
set_option maxRecDepth 65536 in
theorem w_c47 : (Jvm.Cond.code ({ cls := "com/example/nalog/nalog/OrderClass", name := "describe", desc := "()Ljava/lang/String;" } : Jvm.MethodName) prog_76_method_22_code (2 : Nat) (Option.some (Jvm.ClassFile.FieldType.object "java/lang/String"))).before args0 about1 = true := code_word (m := ⟨3, 2⟩) (meth := k3m2) (c := k3c2) (by decide +kernel) rfl rfl rfl (by decide +kernel)
set_option maxRecDepth 65536 in
theorem w_c48 : (Jvm.Cond.code ({ cls := "com/example/nalog/nalog/OrderClass", name := "isSepa", desc := "()Z" } : Jvm.MethodName) prog_76_method_7_code (1 : Nat) (Option.some Jvm.ClassFile.FieldType.boolean)).before args0 about1 = true := code_word (m := ⟨3, 1⟩) (meth := k3m1) (c := k3c1) (by decide +kernel) rfl rfl rfl (by decide +kernel)
set_option maxRecDepth 65536 in
theorem w_c49 : (Jvm.Cond.code ({ cls := "java/lang/AbstractStringBuilder", name := "newCapacity", desc := "(I)I" } : Jvm.MethodName) jdk_68_method_10_code (6 : Nat) (Option.some Jvm.ClassFile.FieldType.int)).before args0 about1 = true := code_word (m := ⟨14, 4⟩) (meth := k14m4) (c := k14c4) (by decide +kernel) rfl rfl rfl (by decide +kernel)
set_option maxRecDepth 65536 in
theorem w_c50 : (Jvm.Cond.code ({ cls := "jdk/internal/util/ArraysSupport", name := "newLength", desc := "(III)I" } : Jvm.MethodName) jdk_48_method_27_code (4 : Nat) (Option.some Jvm.ClassFile.FieldType.int)).before args0 about1 = true := code_word (m := ⟨23, 1⟩) (meth := k23m1) (c := k23c1) (by decide +kernel) rfl rfl rfl (by decide +kernel)
set_option maxRecDepth 65536 in
theorem w_c51 : (Jvm.Cond.code ({ cls := "java/lang/Math", name := "max", desc := "(II)I" } : Jvm.MethodName) jdk_29_method_65_code (2 : Nat) (Option.some Jvm.ClassFile.FieldType.int)).before args0 about1 = true := code_word (m := ⟨20, 2⟩) (meth := k20m2) (c := k20c2) (by decide +kernel) rfl rfl rfl (by decide +kernel)
set_option maxRecDepth 65536 in
theorem w_c52 : (Jvm.Cond.code ({ cls := "java/util/Arrays", name := "copyOf", desc := "([BI)[B" } : Jvm.MethodName) jdk_65_method_121_code (3 : Nat) (Option.some (Jvm.ClassFile.FieldType.array Jvm.ClassFile.FieldType.byte))).before args0 about1 = true := code_word (m := ⟨19, 1⟩) (meth := k19m1) (c := k19c1) (by decide +kernel) rfl rfl rfl (by decide +kernel)
def codes1 : List Jvm.Cond := [Jvm.Cond.code x code maxLocals ret, Jvm.Cond.code ({ cls := "com/example/nalog/nalog/OrderClass", name := "<init>", desc := "(Lcom/example/nalog/nalog/OrderClass$Reach;ZZLjava/lang/String;)V" } : Jvm.MethodName) prog_76_method_1_code (5 : Nat) (Option.none : Option Jvm.ClassFile.FieldType), Jvm.Cond.code ({ cls := "java/lang/Record", name := "<init>", desc := "()V" } : Jvm.MethodName) jdk_30_method_1_code (1 : Nat) (Option.none : Option Jvm.ClassFile.FieldType), Jvm.Cond.code ({ cls := "java/lang/Object", name := "<init>", desc := "()V" } : Jvm.MethodName) object_method_1_code (1 : Nat) (Option.none : Option Jvm.ClassFile.FieldType), Jvm.Cond.code ({ cls := "com/example/nalog/nalog/OrderCountAddPinLaw", name := "pick", desc := "(ILcom/example/nalog/nalog/OrderClass;Lcom/example/nalog/nalog/OrderClass;)Lcom/example/nalog/nalog/OrderClass;" } : Jvm.MethodName) method_3_code (3 : Nat) (Option.some (Jvm.ClassFile.FieldType.object "com/example/nalog/nalog/OrderClass")), Jvm.Cond.code ({ cls := "com/example/nalog/nalog/OrderCount", name := "<init>", desc := "()V" } : Jvm.MethodName) prog_78_method_1_code (1 : Nat) (Option.none : Option Jvm.ClassFile.FieldType), Jvm.Cond.code ({ cls := "com/example/nalog/nalog/OrderCount", name := "add", desc := "(ILcom/example/nalog/nalog/OrderClass;)V" } : Jvm.MethodName) prog_78_method_3_code (3 : Nat) (Option.none : Option Jvm.ClassFile.FieldType), Jvm.Cond.code ({ cls := "com/example/nalog/nalog/OrderCount", name := "isEmpty", desc := "()Z" } : Jvm.MethodName) prog_78_method_4_code (1 : Nat) (Option.some Jvm.ClassFile.FieldType.boolean), Jvm.Cond.code ({ cls := "com/example/nalog/nalog/OrderCount", name := "firstClass", desc := "()Lcom/example/nalog/nalog/OrderClass;" } : Jvm.MethodName) prog_78_method_5_code (1 : Nat) (Option.some (Jvm.ClassFile.FieldType.object "com/example/nalog/nalog/OrderClass")), Jvm.Cond.code ({ cls := "com/example/nalog/nalog/OrderCount", name := "describe", desc := "(Ljava/lang/String;Ljava/lang/String;)Ljava/lang/String;" } : Jvm.MethodName) prog_78_method_6_code (4 : Nat) (Option.some (Jvm.ClassFile.FieldType.object "java/lang/String")), Jvm.Cond.code ({ cls := "java/lang/StringBuilder", name := "<init>", desc := "()V" } : Jvm.MethodName) jdk_67_method_1_code (1 : Nat) (Option.none : Option Jvm.ClassFile.FieldType), Jvm.Cond.code ({ cls := "java/lang/AbstractStringBuilder", name := "<init>", desc := "(I)V" } : Jvm.MethodName) jdk_68_method_2_code (2 : Nat) (Option.none : Option Jvm.ClassFile.FieldType), Jvm.Cond.code ({ cls := "java/lang/StringBuilder", name := "append", desc := "(Ljava/lang/String;)Ljava/lang/StringBuilder;" } : Jvm.MethodName) jdk_67_method_7_code (2 : Nat) (Option.some (Jvm.ClassFile.FieldType.object "java/lang/StringBuilder")), Jvm.Cond.code ({ cls := "java/lang/AbstractStringBuilder", name := "append", desc := "(Ljava/lang/String;)Ljava/lang/AbstractStringBuilder;" } : Jvm.MethodName) jdk_68_method_22_code (3 : Nat) (Option.some (Jvm.ClassFile.FieldType.object "java/lang/AbstractStringBuilder")), Jvm.Cond.code ({ cls := "java/lang/String", name := "length", desc := "()I" } : Jvm.MethodName) jdk_42_method_54_code (1 : Nat) (Option.some Jvm.ClassFile.FieldType.int), Jvm.Cond.code ({ cls := "java/lang/String", name := "coder", desc := "()B" } : Jvm.MethodName) jdk_42_method_152_code (1 : Nat) (Option.some Jvm.ClassFile.FieldType.byte), Jvm.Cond.code ({ cls := "java/lang/AbstractStringBuilder", name := "ensureCapacityInternal", desc := "(I)V" } : Jvm.MethodName) jdk_68_method_9_code (3 : Nat) (Option.none : Option Jvm.ClassFile.FieldType), Jvm.Cond.code ({ cls := "java/lang/AbstractStringBuilder", name := "putStringAt", desc := "(ILjava/lang/String;)V" } : Jvm.MethodName) jdk_68_method_73_code (3 : Nat) (Option.none : Option Jvm.ClassFile.FieldType), Jvm.Cond.code ({ cls := "java/lang/AbstractStringBuilder", name := "inflateIfNeededFor", desc := "(Ljava/lang/String;)V" } : Jvm.MethodName) jdk_68_method_71_code (2 : Nat) (Option.none : Option Jvm.ClassFile.FieldType), Jvm.Cond.code ({ cls := "java/lang/String", name := "getBytes", desc := "([BIB)V" } : Jvm.MethodName) jdk_42_method_147_code (4 : Nat) (Option.none : Option Jvm.ClassFile.FieldType), Jvm.Cond.code ({ cls := "java/lang/StringBuilder", name := "append", desc := "(I)Ljava/lang/StringBuilder;" } : Jvm.MethodName) jdk_67_method_15_code (2 : Nat) (Option.some (Jvm.ClassFile.FieldType.object "java/lang/StringBuilder")), Jvm.Cond.code ({ cls := "java/lang/AbstractStringBuilder", name := "append", desc := "(I)Ljava/lang/AbstractStringBuilder;" } : Jvm.MethodName) jdk_68_method_32_code (4 : Nat) (Option.some (Jvm.ClassFile.FieldType.object "java/lang/AbstractStringBuilder")), Jvm.Cond.code ({ cls := "java/lang/Integer", name := "stringSize", desc := "(I)I" } : Jvm.MethodName) jdk_33_method_13_code (4 : Nat) (Option.some Jvm.ClassFile.FieldType.int), Jvm.Cond.code ({ cls := "java/lang/AbstractStringBuilder", name := "isLatin1", desc := "()Z" } : Jvm.MethodName) jdk_68_method_68_code (1 : Nat) (Option.some Jvm.ClassFile.FieldType.boolean), Jvm.Cond.code ({ cls := "java/lang/Integer", name := "getChars", desc := "(II[B)I" } : Jvm.MethodName) jdk_33_method_12_code (7 : Nat) (Option.some Jvm.ClassFile.FieldType.int), Jvm.Cond.code ({ cls := "java/lang/StringBuilder", name := "toString", desc := "()Ljava/lang/String;" } : Jvm.MethodName) jdk_67_method_42_code (1 : Nat) (Option.some (Jvm.ClassFile.FieldType.object "java/lang/String")), Jvm.Cond.code ({ cls := "java/lang/String", name := "<init>", desc := "(Ljava/lang/StringBuilder;)V" } : Jvm.MethodName) jdk_42_method_53_code (2 : Nat) (Option.none : Option Jvm.ClassFile.FieldType), Jvm.Cond.code ({ cls := "java/lang/String", name := "<init>", desc := "(Ljava/lang/AbstractStringBuilder;Ljava/lang/Void;)V" } : Jvm.MethodName) jdk_42_method_150_code (5 : Nat) (Option.none : Option Jvm.ClassFile.FieldType), Jvm.Cond.code ({ cls := "java/lang/AbstractStringBuilder", name := "getValue", desc := "()[B" } : Jvm.MethodName) jdk_68_method_64_code (1 : Nat) (Option.some (Jvm.ClassFile.FieldType.array Jvm.ClassFile.FieldType.byte)), Jvm.Cond.code ({ cls := "java/lang/StringBuilder", name := "length", desc := "()I" } : Jvm.MethodName) jdk_67_method_93_code (1 : Nat) (Option.some Jvm.ClassFile.FieldType.int), Jvm.Cond.code ({ cls := "java/lang/AbstractStringBuilder", name := "length", desc := "()I" } : Jvm.MethodName) jdk_68_method_6_code (1 : Nat) (Option.some Jvm.ClassFile.FieldType.int), Jvm.Cond.code ({ cls := "java/util/Arrays", name := "copyOfRange", desc := "([BII)[B" } : Jvm.MethodName) jdk_65_method_132_code (3 : Nat) (Option.some (Jvm.ClassFile.FieldType.array Jvm.ClassFile.FieldType.byte)), Jvm.Cond.code ({ cls := "java/util/Arrays", name := "copyOfRangeByte", desc := "([BII)[B" } : Jvm.MethodName) jdk_65_method_133_code (5 : Nat) (Option.some (Jvm.ClassFile.FieldType.array Jvm.ClassFile.FieldType.byte)), Jvm.Cond.code ({ cls := "java/util/Arrays", name := "checkLength", desc := "(II)V" } : Jvm.MethodName) jdk_65_method_131_code (2 : Nat) (Option.none : Option Jvm.ClassFile.FieldType), Jvm.Cond.code ({ cls := "java/lang/Math", name := "min", desc := "(II)I" } : Jvm.MethodName) jdk_29_method_69_code (2 : Nat) (Option.some Jvm.ClassFile.FieldType.int), Jvm.Cond.code ({ cls := "com/example/nalog/nalog/OrderCountAddPinLaw", name := "describes", desc := "(Ljava/lang/String;IIZ)Z" } : Jvm.MethodName) method_4_code (10 : Nat) (Option.some Jvm.ClassFile.FieldType.boolean), Jvm.Cond.code ({ cls := "com/example/nalog/nalog/OrderCountAddPinLaw", name := "numberAt", desc := "(Ljava/lang/String;II)Z" } : Jvm.MethodName) method_9_code (4 : Nat) (Option.some Jvm.ClassFile.FieldType.boolean), Jvm.Cond.code ({ cls := "com/example/nalog/nalog/OrderCountAddPinLaw", name := "decLen", desc := "(I)I" } : Jvm.MethodName) method_7_code (2 : Nat) (Option.some Jvm.ClassFile.FieldType.int), Jvm.Cond.code ({ cls := "java/lang/Math", name := "abs", desc := "(J)J" } : Jvm.MethodName) jdk_29_method_61_code (2 : Nat) (Option.some Jvm.ClassFile.FieldType.long), Jvm.Cond.code ({ cls := "com/example/nalog/nalog/OrderCountAddPinLaw", name := "digits", desc := "(J)I" } : Jvm.MethodName) method_5_code (2 : Nat) (Option.some Jvm.ClassFile.FieldType.int), Jvm.Cond.code ({ cls := "java/lang/String", name := "charAt", desc := "(I)C" } : Jvm.MethodName) jdk_42_method_56_code (2 : Nat) (Option.some Jvm.ClassFile.FieldType.char), Jvm.Cond.code ({ cls := "java/lang/String", name := "isLatin1", desc := "()Z" } : Jvm.MethodName) jdk_42_method_154_code (1 : Nat) (Option.some Jvm.ClassFile.FieldType.boolean), Jvm.Cond.code ({ cls := "java/lang/StringLatin1", name := "charAt", desc := "([BI)C" } : Jvm.MethodName) jdk_43_method_2_code (2 : Nat) (Option.some Jvm.ClassFile.FieldType.char), Jvm.Cond.code ({ cls := "java/lang/String", name := "checkIndex", desc := "(II)V" } : Jvm.MethodName) jdk_42_method_155_code (2 : Nat) (Option.none : Option Jvm.ClassFile.FieldType), Jvm.Cond.code ({ cls := "jdk/internal/util/Preconditions", name := "checkIndex", desc := "(IILjava/util/function/BiFunction;)I" } : Jvm.MethodName) jdk_41_method_11_code (3 : Nat) (Option.some Jvm.ClassFile.FieldType.int), Jvm.Cond.code ({ cls := "com/example/nalog/nalog/OrderCountAddPinLaw", name := "decChar", desc := "(II)C" } : Jvm.MethodName) method_8_code (8 : Nat) (Option.some Jvm.ClassFile.FieldType.char), Jvm.Cond.code ({ cls := "com/example/nalog/nalog/OrderCountAddPinLaw", name := "pow10", desc := "(I)J" } : Jvm.MethodName) method_6_code (1 : Nat) (Option.some Jvm.ClassFile.FieldType.long), Jvm.Cond.code ({ cls := "com/example/nalog/nalog/OrderClass", name := "describe", desc := "()Ljava/lang/String;" } : Jvm.MethodName) prog_76_method_22_code (2 : Nat) (Option.some (Jvm.ClassFile.FieldType.object "java/lang/String")), Jvm.Cond.code ({ cls := "com/example/nalog/nalog/OrderClass", name := "isSepa", desc := "()Z" } : Jvm.MethodName) prog_76_method_7_code (1 : Nat) (Option.some Jvm.ClassFile.FieldType.boolean), Jvm.Cond.code ({ cls := "java/lang/AbstractStringBuilder", name := "newCapacity", desc := "(I)I" } : Jvm.MethodName) jdk_68_method_10_code (6 : Nat) (Option.some Jvm.ClassFile.FieldType.int), Jvm.Cond.code ({ cls := "jdk/internal/util/ArraysSupport", name := "newLength", desc := "(III)I" } : Jvm.MethodName) jdk_48_method_27_code (4 : Nat) (Option.some Jvm.ClassFile.FieldType.int), Jvm.Cond.code ({ cls := "java/lang/Math", name := "max", desc := "(II)I" } : Jvm.MethodName) jdk_29_method_65_code (2 : Nat) (Option.some Jvm.ClassFile.FieldType.int), Jvm.Cond.code ({ cls := "java/util/Arrays", name := "copyOf", desc := "([BI)[B" } : Jvm.MethodName) jdk_65_method_121_code (3 : Nat) (Option.some (Jvm.ClassFile.FieldType.array Jvm.ClassFile.FieldType.byte))]
set_option maxRecDepth 65536 in
theorem codes_eq : words1.filter isCode = codes1 := rfl
theorem w_codes : ∀ c ∈ words1.filter isCode, c.before args0 about1 = true := by
  rw [codes_eq]
  intro c hc
  simp only [codes1, List.mem_cons, List.not_mem_nil, or_false] at hc
  rcases hc with rfl | rfl | rfl | rfl | rfl | rfl | rfl | rfl | rfl | rfl | rfl | rfl | rfl | rfl | rfl | rfl | rfl | rfl | rfl | rfl | rfl | rfl | rfl | rfl | rfl | rfl | rfl | rfl | rfl | rfl | rfl | rfl | rfl | rfl | rfl | rfl | rfl | rfl | rfl | rfl | rfl | rfl | rfl | rfl | rfl | rfl | rfl | rfl | rfl | rfl | rfl | rfl | rfl
  · exact w_c0
  · exact w_c1
  · exact w_c2
  · exact w_c3
  · exact w_c4
  · exact w_c5
  · exact w_c6
  · exact w_c7
  · exact w_c8
  · exact w_c9
  · exact w_c10
  · exact w_c11
  · exact w_c12
  · exact w_c13
  · exact w_c14
  · exact w_c15
  · exact w_c16
  · exact w_c17
  · exact w_c18
  · exact w_c19
  · exact w_c20
  · exact w_c21
  · exact w_c22
  · exact w_c23
  · exact w_c24
  · exact w_c25
  · exact w_c26
  · exact w_c27
  · exact w_c28
  · exact w_c29
  · exact w_c30
  · exact w_c31
  · exact w_c32
  · exact w_c33
  · exact w_c34
  · exact w_c35
  · exact w_c36
  · exact w_c37
  · exact w_c38
  · exact w_c39
  · exact w_c40
  · exact w_c41
  · exact w_c42
  · exact w_c43
  · exact w_c44
  · exact w_c45
  · exact w_c46
  · exact w_c47
  · exact w_c48
  · exact w_c49
  · exact w_c50
  · exact w_c51
  · exact w_c52
set_option maxRecDepth 65536 in
theorem w_t1 : (words1.take 24).all (fun c => isCode c || c.before args0 about1) = true := by decide +kernel
set_option maxRecDepth 65536 in
theorem w_t2 : ((words1.drop 24).take 24).all (fun c => isCode c || c.before args0 about1) = true := by decide +kernel
set_option maxRecDepth 65536 in
theorem w_t3 : (((words1.drop 24).drop 24).take 24).all (fun c => isCode c || c.before args0 about1) = true := by decide +kernel
set_option maxRecDepth 65536 in
theorem w_t4 : ((((words1.drop 24).drop 24).drop 24).take 24).all (fun c => isCode c || c.before args0 about1) = true := by decide +kernel
set_option maxRecDepth 65536 in
theorem w_t5 : (((((words1.drop 24).drop 24).drop 24).drop 24).take 24).all (fun c => isCode c || c.before args0 about1) = true := by decide +kernel
set_option maxRecDepth 65536 in
theorem w_t6 : ((((((words1.drop 24).drop 24).drop 24).drop 24).drop 24).take 24).all (fun c => isCode c || c.before args0 about1) = true := by decide +kernel
set_option maxRecDepth 65536 in
theorem w_t7 : (((((((words1.drop 24).drop 24).drop 24).drop 24).drop 24).drop 24).take 24).all (fun c => isCode c || c.before args0 about1) = true := by decide +kernel
set_option maxRecDepth 65536 in
theorem w_t8 : ((((((((words1.drop 24).drop 24).drop 24).drop 24).drop 24).drop 24).drop 24).take 24).all (fun c => isCode c || c.before args0 about1) = true := by decide +kernel
set_option maxRecDepth 65536 in
theorem w_t9 : (((((((((words1.drop 24).drop 24).drop 24).drop 24).drop 24).drop 24).drop 24).drop 24).take 24).all (fun c => isCode c || c.before args0 about1) = true := by decide +kernel
set_option maxRecDepth 65536 in
theorem w_t10 : ((((((((((words1.drop 24).drop 24).drop 24).drop 24).drop 24).drop 24).drop 24).drop 24).drop 24).take 24).all (fun c => isCode c || c.before args0 about1) = true := by decide +kernel
set_option maxRecDepth 65536 in
theorem w_t11 : (((((((((((words1.drop 24).drop 24).drop 24).drop 24).drop 24).drop 24).drop 24).drop 24).drop 24).drop 24).take 24).all (fun c => isCode c || c.before args0 about1) = true := by decide +kernel
set_option maxRecDepth 65536 in
theorem w_t12 : ((((((((((((words1.drop 24).drop 24).drop 24).drop 24).drop 24).drop 24).drop 24).drop 24).drop 24).drop 24).drop 24).take 24).all (fun c => isCode c || c.before args0 about1) = true := by decide +kernel
set_option maxRecDepth 65536 in
theorem w_t13 : (((((((((((((words1.drop 24).drop 24).drop 24).drop 24).drop 24).drop 24).drop 24).drop 24).drop 24).drop 24).drop 24).drop 24).take 24).all (fun c => isCode c || c.before args0 about1) = true := by decide +kernel
set_option maxRecDepth 65536 in
theorem w_t14 : (((((((((((((words1.drop 24).drop 24).drop 24).drop 24).drop 24).drop 24).drop 24).drop 24).drop 24).drop 24).drop 24).drop 24).drop 24).all (fun c => isCode c || c.before args0 about1) = true := by decide +kernel
theorem w_tables : (allAtoms (Jvm.Cond.code x code maxLocals ret :: tables_1)).before args0 about1 = true := by
  rw [allAtoms_all]
  show words1.all (fun c => c.before args0 about1) = true
  refine all_split ?_ w_codes
  rw [← List.take_append_drop 24 words1, List.all_append, w_t1, ← List.take_append_drop 24 (words1.drop 24), List.all_append, w_t2, ← List.take_append_drop 24 ((words1.drop 24).drop 24), List.all_append, w_t3, ← List.take_append_drop 24 (((words1.drop 24).drop 24).drop 24), List.all_append, w_t4, ← List.take_append_drop 24 ((((words1.drop 24).drop 24).drop 24).drop 24), List.all_append, w_t5, ← List.take_append_drop 24 (((((words1.drop 24).drop 24).drop 24).drop 24).drop 24), List.all_append, w_t6, ← List.take_append_drop 24 ((((((words1.drop 24).drop 24).drop 24).drop 24).drop 24).drop 24), List.all_append, w_t7, ← List.take_append_drop 24 (((((((words1.drop 24).drop 24).drop 24).drop 24).drop 24).drop 24).drop 24), List.all_append, w_t8, ← List.take_append_drop 24 ((((((((words1.drop 24).drop 24).drop 24).drop 24).drop 24).drop 24).drop 24).drop 24), List.all_append, w_t9, ← List.take_append_drop 24 (((((((((words1.drop 24).drop 24).drop 24).drop 24).drop 24).drop 24).drop 24).drop 24).drop 24), List.all_append, w_t10, ← List.take_append_drop 24 ((((((((((words1.drop 24).drop 24).drop 24).drop 24).drop 24).drop 24).drop 24).drop 24).drop 24).drop 24), List.all_append, w_t11, ← List.take_append_drop 24 (((((((((((words1.drop 24).drop 24).drop 24).drop 24).drop 24).drop 24).drop 24).drop 24).drop 24).drop 24).drop 24), List.all_append, w_t12, ← List.take_append_drop 24 ((((((((((((words1.drop 24).drop 24).drop 24).drop 24).drop 24).drop 24).drop 24).drop 24).drop 24).drop 24).drop 24).drop 24), List.all_append, w_t13, w_t14]
  rfl
set_option maxRecDepth 65536 in
theorem w_rest : rest_1_c.before args0 about1 = true := by decide +kernel
set_option maxRecDepth 65536 in
theorem w_case : (Jvm.Cond.and given_1 narrow_1).before args0 about1 = true := by decide +kernel
set_option maxRecDepth 65536 in
theorem w_consts : constsHeld consts_1 about1 := Jvm.Lit.constsHeldB_iff.mp (by decide +kernel)
theorem w_applies : (headSpec (Jvm.Cond.code x code maxLocals ret :: tables_1) room_1).applies x e0.platform about1 = true :=
  (Spec.applies_iff w_frames).mpr ⟨w_running, w_runnable, w_alone, w_named, w_hears, w_ripe, w_room, w_tables⟩
theorem atStart : AtStart classFile x code maxLocals ret World_1 tables_1 room_1 Calls_1 rest_1 Pre_1 launch0 p0 e0 about1 theMethod args0 below0 :=
  ⟨lists_1, trivial, launch0.admits_env _ _ _, launch0.least_env, fairChoices_fair.cas, fairChoices_fair.clock, w_frames, w_args, w_heap, w_applies, ⟨w_consts, trivial⟩, w_rest, w_case⟩
end start1
theorem witness_1 : WitnessClaimed_1 := ⟨start1.p0, start1.e0, start1.about1, start1.theMethod, start1.args0, start1.below0, start1.atStart⟩
end Jvm.Pilot.@@N@@
