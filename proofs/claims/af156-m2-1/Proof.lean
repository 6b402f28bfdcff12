import JvmDerived
import JvmDerived.Pilot.@@N@@Statement
import JvmDerived.Pilot.@@N@@Code
set_option linter.unusedVariables false
set_option linter.unusedSimpArgs false
@@BLOCK:NumsL.lean.txt@@
namespace Jvm.RoadKit
open Sem ClassFile Op Lib Jvm.Stand Jvm.Free Jvm.LawKit
section New
variable {p : Program} {l : Launch} {e : Env} {R : Room} {s : State} {m : MethodId} {args : Array Value} {below : List Frame} {meth : Method} {c : Code} {T : State} {locs : List Loc} {cells slots : Nat}
theorem retI (X : Stand p l e R s m args below meth c T locs cells slots) (hx : p.tables.exec = Jvm.exec) {pc : Nat} {Ls : Array Slot} {z : Int32} {rest : List Value} (hret : meth.sig.returnType = some .int) (hd : decode c.code pc = .ok (.ireturn, 1)) {fs : List Frame}
    (hl : ∀ (f : JFrame) (acts : List Action), f.method = m → f.locked = none → f.entered = [] → (doReturn e (T.setTop f) acts (some (.int z))).1 = T.setFrames fs) : Steps p.tables e below (T.setTop (mkF m pc Ls (.int z :: rest))) (T.setFrames fs) := by
  have hm' : T.vm.method? m = some meth := X.method'
  have hn : narrow .int (.int z) = .int z := rfl
  show Steps p.tables e below (T.setTop { method := m, pc := pc, locals := Ls, stack := _ :: rest, locked := none }) _
  jvm_step X.here [X.here.top, hx, hd, hm', hret, hn]
  first | (intro acts; rw [hl _ acts rfl rfl rfl]) | rw [hl _ _ rfl rfl rfl]
  exact Steps.refl _
end New
end Jvm.RoadKit
namespace Jvm.Pilot.@@N@@
open Jvm Jvm.ClassFile Sem Op Lib Jvm.Free Jvm.Stand Jvm.LawKit Jvm.RoadKit Bundle Jvm.Pilot.@@N@@.Jvm.D
/-- from F the invocation ends: it returns, and Q holds of what it returned, the heap and the places written -/
def own_Ends (p : Program) (e : Env) (below : List Frame) (s : State) (C S : Nat) (Q : Option Value → Heap → List Loc → Prop) (F : State) : Prop :=
  ∃ s₂ o, Steps p.tables e below F s₂ ∧ s₂.status = .running ∧ Ended s₂ below o ∧ ∃ v L, o = .returned v ∧ Q v s₂.heap L ∧ FrameEnd s o s₂ L C S
theorem own_step {p : Program} {e : Env} {below : List Frame} {s : State} {C S : Nat} {Q : Option Value → Heap → List Loc → Prop} {F F' : State} (h : ∀ t, Steps p.tables e below F' t → Steps p.tables e below F t) (k : own_Ends p e below s C S Q F') : own_Ends p e below s C S Q F := by
  obtain ⟨s₂, o, st, r⟩ := k
  exact ⟨s₂, o, h _ st, r⟩
section OwnRet
variable {p : Program} {l : Launch} {e : Env} {R : Room} {s : State} {m : MethodId} {args : Array Value} {below : List Frame} {meth : Method} {c : Code} {T : State} {locs : List Loc} {cells slots : Nat} {C S : Nat} {Q : Option Value → Heap → List Loc → Prop}
theorem own_retI (X : Stand p l e R s m args below meth c T locs cells slots) (hx : p.tables.exec = Jvm.exec) {pc : Nat} {Ls : Array Slot} {z : Int32} {rest : List Value} (hret : meth.sig.returnType = some .int) (hlk : meth.locks = false) (hd : decode c.code pc = .ok (.ireturn, 1)) (hc : cells ≤ C) (hs : slots ≤ S)
    (hQ : Q (some (.int z)) T.heap locs) : own_Ends p e below s C S Q (T.setTop (mkF m pc Ls (.int z :: rest))) := by
  obtain ⟨fs, hr, hrun, hended, hW, hsame⟩ := X.leave (v := some (.int z)) (fun h => by rw [hret] at h; cases h) hlk
  exact ⟨_, _, retI X hx hret hd hr, hrun, hended, _, _, rfl, hQ, ⟨_, rfl⟩, hW, hsame.mono hc hs⟩
theorem own_retN (X : Stand p l e R s m args below meth c T locs cells slots) (hx : p.tables.exec = Jvm.exec) {pc : Nat} {Ls : Array Slot} {z z' : Int32} {rest : List Value} {t : FieldType} (hret : meth.sig.returnType = some t) (ht : t = .boolean ∨ t = .byte ∨ t = .char ∨ t = .short) (hlk : meth.locks = false) (hd : decode c.code pc = .ok (.ireturn, 1)) (hc : cells ≤ C) (hs : slots ≤ S)
    (hz : nar t z = z') (hQ : Q (some (.int z')) T.heap locs) : own_Ends p e below s C S Q (T.setTop (mkF m pc Ls (.int z :: rest))) := by
  subst hz
  obtain ⟨fs, hr, hrun, hended, hW, hsame⟩ := X.leave (v := some (.int (nar t z))) (fun h => by rw [hret] at h; cases h) hlk
  exact ⟨_, _, retN X hx hret ht hd hr, hrun, hended, _, _, rfl, hQ, ⟨_, rfl⟩, hW, hsame.mono hc hs⟩
theorem own_retJ (X : Stand p l e R s m args below meth c T locs cells slots) (hx : p.tables.exec = Jvm.exec) {pc : Nat} {Ls : Array Slot} {z : Int64} (hret : meth.sig.returnType = some .long) (hlk : meth.locks = false) (hd : decode c.code pc = .ok (.lreturn, 1)) (hc : cells ≤ C) (hs : slots ≤ S)
    (hQ : Q (some (.long z)) T.heap locs) : own_Ends p e below s C S Q (T.setTop (mkF m pc Ls [.long z])) := by
  obtain ⟨fs, hr, hrun, hended, hW, hsame⟩ := X.leave (v := some (.long z)) (fun h => by rw [hret] at h; cases h) hlk
  exact ⟨_, _, X.lreturnOut hx hret hd hr, hrun, hended, _, _, rfl, hQ, ⟨_, rfl⟩, hW, hsame.mono hc hs⟩
theorem own_retV (X : Stand p l e R s m args below meth c T locs cells slots) (hx : p.tables.exec = Jvm.exec) {pc : Nat} {Ls : Array Slot} (hret : meth.sig.returnType = none) (hlk : meth.locks = false) (hd : decode c.code pc = .ok (.return_, 1)) (hc : cells ≤ C) (hs : slots ≤ S)
    (hQ : Q none T.heap locs) : own_Ends p e below s C S Q (T.setTop (mkF m pc Ls [])) := by
  obtain ⟨fs, hr, hrun, hended, hW, hsame⟩ := X.leave (v := none) (fun _ => rfl) hlk
  exact ⟨_, _, X.returnOut hx hret hd hr, hrun, hended, _, _, rfl, hQ, ⟨_, rfl⟩, hW, hsame.mono hc hs⟩
theorem own_retR (X : Stand p l e R s m args below meth c T locs cells slots) (hx : p.tables.exec = Jvm.exec) {pc : Nat} {Ls : Array Slot} {w : Value} {t : FieldType} {rest : List Value} (hret : meth.sig.returnType = some t) (ht : t.isReference = true) (hw : w.isRef = true) (hn : narrow t w = w) (hlk : meth.locks = false) (hd : decode c.code pc = .ok (.areturn, 1)) (hc : cells ≤ C) (hs : slots ≤ S)
    (hQ : Q (some w) T.heap locs) : own_Ends p e below s C S Q (T.setTop (mkF m pc Ls (w :: rest))) := by
  obtain ⟨fs, hr, hrun, hended, hW, hsame⟩ := X.leave (v := some w) (fun h => by rw [hret] at h; cases h) hlk
  exact ⟨_, _, retOut X hx hret hn (Or.inr (Or.inr (Or.inr (Or.inr ⟨rfl, ht, hw⟩)))) hd hr, hrun, hended, _, _, rfl, hQ, ⟨_, rfl⟩, hW, hsame.mono hc hs⟩
end OwnRet
/-- the array at a holds just vs -/
def own_Ar (Z : State) (h : Heap) (a : Addr) (ty : FieldType) (vs : List Value) : Prop :=
  vs.length < 2 ^ 31 ∧ ∃ cl : Cell, Arr Z h a cl ty ∧ cl.slots.toList = vs
section OwnArr
variable {p : Program} {l : Launch} {e : Env} {R : Room} {s : State} {m : MethodId} {args : Array Value} {below : List Frame} {meth : Method} {c : Code} {T : State} {locs : List Loc} {cells slots : Nat} {Z : State} {h h' : Heap} {a b : Addr} {ty : FieldType} {vs : List Value} {ws : List Addr} {sl : Nat} {w : Value}
theorem own_Ar.lt (A : own_Ar Z h a ty vs) : a < h.size := by obtain ⟨_, cl, h1, _⟩ := A; exact h1.lt
theorem own_Ar.ext (A : own_Ar Z h a ty vs) (E : Ext h h') : own_Ar Z h' a ty vs := by obtain ⟨q, cl, h1, r⟩ := A; exact ⟨q, cl, h1.ext E, r⟩
theorem own_Ar.other (A : own_Ar Z h a ty vs) (W : Wr h h' b sl w) (q : a ≠ b) : own_Ar Z h' a ty vs := by obtain ⟨z, cl, h1, r⟩ := A; exact ⟨z, cl, h1.other W q, r⟩
theorem own_Ar.keep (A : own_Ar Z h a ty vs) (K : Keep h h' ws) (q : a ∉ ws) : own_Ar Z h' a ty vs := by obtain ⟨z, cl, h1, r⟩ := A; exact ⟨z, cl, ⟨K.2.1 a cl h1.1 q, h1.2⟩, r⟩
theorem own_Ar.set (A : own_Ar Z h a ty vs) {i : Nat} (W : Wr h h' a i w) : own_Ar Z h' a ty (vs.set i w) := by
  obtain ⟨z, cl, h1, r⟩ := A
  refine ⟨by rw [List.length_set]; exact z, cl.setSlot i w, h1.same W, ?_⟩
  rw [← r]; simp [Cell.setSlot]
theorem own_Ar.new {k : ClassId} {z : Int32} (A : Arr Z h a (newA k ty z) ty) (q : ¬ z < 0) : own_Ar Z h a ty (List.replicate z.toNatClampNeg (defaultValue ty)) :=
  ⟨by rw [List.length_replicate]; exact (back32 q).2, _, A, by simp [newA]⟩
theorem own_Ar.cast {us : List Value} (A : own_Ar Z h a ty vs) (q : vs = us) : own_Ar Z h a ty us := q ▸ A
theorem own_Ar.ne {C : String} {a0 : Array Value} {k : Nat} (A : own_Ar Z h b ty vs) (F : Exa Z h a C) (wi : (Cond.instantiable C k).before a0 Z = true) : a ≠ b := by obtain ⟨_, cl, h1, _⟩ := A; exact ne_arr F wi h1
theorem own_in {cl : Cell} (r : cl.slots.toList = vs) {j : Int32} {i : Nat} (h0 : ¬ j < 0) (hj : j.toNatClampNeg = i) (hi : i < vs.length) : ¬ (j < 0 ∨ cl.slots.size ≤ j.toNatClampNeg) := by
  have : cl.slots.size = vs.length := by rw [← r]; simp
  rintro (q | q)
  · exact h0 q
  · omega
theorem own_at {cl : Cell} (r : cl.slots.toList = vs) {j : Int32} {i : Nat} (hj : j.toNatClampNeg = i) {v : Value} (hv : vs[i]? = some v) : cl.slots[j.toNatClampNeg]? = some v := by
  rw [hj, ← Array.getElem?_toList, r]; exact hv
theorem own_alen (X : Stand p l e R s m args below meth c T locs cells slots) (hx : p.tables.exec = Jvm.exec) (hZ : Z.Warmed39 s.vm) (eT : T.heap = h) (A : own_Ar Z h a ty vs) {n : Nat} {z : Int32} (hn : vs.length = n) (hz : Int32.ofNat n = z) {pc : Nat} {Ls : Array Slot} {st : List Value} (hd : decode c.code pc = .ok (.arraylength, 1)) (t : State)
    (k : Steps p.tables e below (T.setTop (mkF m (pc + 1) Ls (.int z :: st))) t) : Steps p.tables e below (T.setTop (mkF m pc Ls (.ref a :: st))) t := by
  obtain ⟨_, cl, h1, r⟩ := A
  refine X.arraylength hx (by rw [eT]; exact h1.1) (State.isArrayOf_alike hZ.alike h1.2.1) (g := mkF m pc Ls (.ref a :: st)) rfl rfl hd _ ?_
  have : cl.slots.size = n := by rw [← hn, ← r]; simp
  rw [this, show n.toInt32 = z from hz]; exact k
theorem own_iaload (X : Stand p l e R s m args below meth c T locs cells slots) (hx : p.tables.exec = Jvm.exec) (hZ : Z.Warmed39 s.vm) (eT : T.heap = h) (A : own_Ar Z h a .int vs) {j : Int32} {i : Nat} {v : Value} (h0 : ¬ j < 0) (hj : j.toNatClampNeg = i) (hv : vs[i]? = some v) {pc : Nat} {Ls : Array Slot} {st : List Value} (hd : decode c.code pc = .ok (.iaload, 1)) (t : State)
    (k : Steps p.tables e below (T.setTop (mkF m (pc + 1) Ls (v :: st))) t) : Steps p.tables e below (T.setTop (mkF m pc Ls (.int j :: .ref a :: st))) t := by
  obtain ⟨z, cl, h1, r⟩ := A
  exact X.iaload hx (by rw [eT]; exact h1.1) (State.isArrayOf_alike hZ.alike h1.2.1) h1.2.2 (own_in r h0 hj (List.getElem?_eq_some_iff.mp hv).1) (own_at r hj hv) (g := mkF m pc Ls (.int j :: .ref a :: st)) rfl rfl hd _ k
theorem own_laload (X : Stand p l e R s m args below meth c T locs cells slots) (hx : p.tables.exec = Jvm.exec) (hZ : Z.Warmed39 s.vm) (eT : T.heap = h) (A : own_Ar Z h a .long vs) {j : Int32} {i : Nat} {v : Value} (h0 : ¬ j < 0) (hj : j.toNatClampNeg = i) (hv : vs[i]? = some v) {pc : Nat} {Ls : Array Slot} {st : List Value} (hd : decode c.code pc = .ok (.laload, 1)) (t : State)
    (k : Steps p.tables e below (T.setTop (mkF m (pc + 1) Ls (v :: st))) t) : Steps p.tables e below (T.setTop (mkF m pc Ls (.int j :: .ref a :: st))) t := by
  obtain ⟨z, cl, h1, r⟩ := A
  exact X.laload hx (by rw [eT]; exact h1.1) (State.isArrayOf_alike hZ.alike h1.2.1) h1.2.2 (own_in r h0 hj (List.getElem?_eq_some_iff.mp hv).1) (own_at r hj hv) (g := mkF m pc Ls (.int j :: .ref a :: st)) rfl rfl hd _ k
theorem own_baload (X : Stand p l e R s m args below meth c T locs cells slots) (hx : p.tables.exec = Jvm.exec) (hZ : Z.Warmed39 s.vm) (eT : T.heap = h) (A : own_Ar Z h a .byte vs) {j : Int32} {i : Nat} {v : Value} (h0 : ¬ j < 0) (hj : j.toNatClampNeg = i) (hv : vs[i]? = some v) {pc : Nat} {Ls : Array Slot} {st : List Value} (hd : decode c.code pc = .ok (.baload, 1)) (t : State)
    (k : Steps p.tables e below (T.setTop (mkF m (pc + 1) Ls (v :: st))) t) : Steps p.tables e below (T.setTop (mkF m pc Ls (.int j :: .ref a :: st))) t := by
  obtain ⟨z, cl, h1, r⟩ := A
  exact X.baloadBytes hx (by rw [eT]; exact h1.1) (State.isArrayOf_alike hZ.alike h1.2.1) h1.2.2 (own_in r h0 hj (List.getElem?_eq_some_iff.mp hv).1) (own_at r hj hv) (g := mkF m pc Ls (.int j :: .ref a :: st)) rfl rfl hd _ k
theorem own_aaload (X : Stand p l e R s m args below meth c T locs cells slots) (hx : p.tables.exec = Jvm.exec) (hZ : Z.Warmed39 s.vm) (eT : T.heap = h) (A : own_Ar Z h a ty vs) (hty : ty.isReference = true) {j : Int32} {i : Nat} {v : Value} (h0 : ¬ j < 0) (hj : j.toNatClampNeg = i) (hv : vs[i]? = some v) {pc : Nat} {Ls : Array Slot} {st : List Value} (hd : decode c.code pc = .ok (.aaload, 1)) (t : State)
    (k : Steps p.tables e below (T.setTop (mkF m (pc + 1) Ls (v :: st))) t) : Steps p.tables e below (T.setTop (mkF m pc Ls (.int j :: .ref a :: st))) t := by
  obtain ⟨z, cl, h1, r⟩ := A
  exact X.aaload hx (by rw [eT]; exact h1.1) (State.isArrayOf_alike hZ.alike h1.2.1) hty h1.2.2 (own_in r h0 hj (List.getElem?_eq_some_iff.mp hv).1) (own_at r hj hv) (g := mkF m pc Ls (.int j :: .ref a :: st)) rfl rfl hd _ k
theorem own_iastore (X : Stand p l e R s m args below meth c T locs cells slots) (hx : p.tables.exec = Jvm.exec) (hZ : Z.Warmed39 s.vm) (eT : T.heap = h) (A : own_Ar Z h a .int vs) {j x : Int32} {i : Nat} (h0 : ¬ j < 0) (hj : j.toNatClampNeg = i) (hi : i < vs.length) {pc : Nat} {Ls : Array Slot} {st : List Value} (hd : decode c.code pc = .ok (.iastore, 1)) :
    ∃ T' h', Stand p l e R s m args below meth c T' (locs ++ [⟨a, i⟩]) cells slots ∧ T'.heap = h' ∧ Wr h h' a i (.int x) ∧ own_Ar Z h' a .int (vs.set i (.int x)) ∧ ∀ t, Steps p.tables e below (T'.setTop (mkF m (pc + 1) Ls st)) t → Steps p.tables e below (T.setTop (mkF m pc Ls (.int x :: .int j :: .ref a :: st))) t := by
  have A' := A
  obtain ⟨z, cl, h1, r⟩ := A
  obtain ⟨T', h', X', e', W, k⟩ := stI X hx hZ eT h1 (j := j) (x := x) (own_in r h0 hj hi) (g := mkF m pc Ls (.int x :: .int j :: .ref a :: st)) rfl rfl hd
  rw [hj] at X' W
  exact ⟨T', h', X', e', W, A'.set W, k⟩
theorem own_lastore (X : Stand p l e R s m args below meth c T locs cells slots) (hx : p.tables.exec = Jvm.exec) (hZ : Z.Warmed39 s.vm) (eT : T.heap = h) (A : own_Ar Z h a .long vs) {j : Int32} {x : Int64} {i : Nat} (h0 : ¬ j < 0) (hj : j.toNatClampNeg = i) (hi : i < vs.length) {pc : Nat} {Ls : Array Slot} {st : List Value} (hd : decode c.code pc = .ok (.lastore, 1)) :
    ∃ T' h', Stand p l e R s m args below meth c T' (locs ++ [⟨a, i⟩]) cells slots ∧ T'.heap = h' ∧ Wr h h' a i (.long x) ∧ own_Ar Z h' a .long (vs.set i (.long x)) ∧ ∀ t, Steps p.tables e below (T'.setTop (mkF m (pc + 1) Ls st)) t → Steps p.tables e below (T.setTop (mkF m pc Ls (.long x :: .int j :: .ref a :: st))) t := by
  have A' := A
  obtain ⟨z, cl, h1, r⟩ := A
  obtain ⟨T', h', X', e', W, k⟩ := stJ X hx hZ eT h1 (j := j) (x := x) (own_in r h0 hj hi) (g := mkF m pc Ls (.long x :: .int j :: .ref a :: st)) rfl rfl hd
  rw [hj] at X' W
  exact ⟨T', h', X', e', W, A'.set W, k⟩
theorem own_bastore (X : Stand p l e R s m args below meth c T locs cells slots) (hx : p.tables.exec = Jvm.exec) (hZ : Z.Warmed39 s.vm) (eT : T.heap = h) (A : own_Ar Z h a .byte vs) {j x : Int32} {i : Nat} (h0 : ¬ j < 0) (hj : j.toNatClampNeg = i) (hi : i < vs.length) {pc : Nat} {Ls : Array Slot} {st : List Value} (hd : decode c.code pc = .ok (.bastore, 1)) :
    ∃ T' h', Stand p l e R s m args below meth c T' (locs ++ [⟨a, i⟩]) cells slots ∧ T'.heap = h' ∧ Wr h h' a i (.int (nar .byte x)) ∧ own_Ar Z h' a .byte (vs.set i (.int (nar .byte x))) ∧ ∀ t, Steps p.tables e below (T'.setTop (mkF m (pc + 1) Ls st)) t → Steps p.tables e below (T.setTop (mkF m pc Ls (.int x :: .int j :: .ref a :: st))) t := by
  have A' := A
  obtain ⟨z, cl, h1, r⟩ := A
  obtain ⟨T', h', X', e', W, k⟩ := stB X hx hZ eT h1 (j := j) (x := x) (own_in r h0 hj hi) (g := mkF m pc Ls (.int x :: .int j :: .ref a :: st)) rfl rfl hd
  rw [hj] at X' W
  exact ⟨T', h', X', e', W, A'.set W, k⟩
end OwnArr

def own_g (n i : Int32) : Int32 := ((n.toUInt32 >>> (((7 : Int32) * i) &&& 31).toUInt32).toInt32) &&& (127 : Int32)
def own_enc (n i ln : Int32) : Int32 := (if i < ln - (1 : Int32) then own_g n i ||| (128 : Int32) else own_g n i).toInt8.toInt32
theorem own_encN (z : Int32) : nar .byte (z.toInt8.toInt32) = z.toInt8.toInt32 := by
  show z.toInt8.toInt32.toInt8.toInt32 = _
  rw [Int8.toInt8_toInt32]
theorem own_encT (n i ln : Int32) (h : i < ln - (1 : Int32)) : (own_g n i ||| (128 : Int32)).toInt8.toInt32 = own_enc n i ln := by rw [own_enc, if_pos h]
theorem own_encF (n i ln : Int32) (h : ¬ i < ln - (1 : Int32)) : (own_g n i).toInt8.toInt32 = own_enc n i ln := by rw [own_enc, if_neg h]
def own_has (p t : Int32) : Int32 := if p < t then 1 else 0
/-- the int at place i -/
def own_iv (vs : List Value) (i : Nat) : Int32 := match vs[i]? with | some (.int x) => x | _ => 0
def own_ints (vs : List Value) : Prop := ∀ v ∈ vs, ∃ x : Int32, v = .int x
theorem own_ivat {vs : List Value} (h : own_ints vs) {i : Nat} (hi : i < vs.length) : vs[i]? = some (.int (own_iv vs i)) := by
  obtain ⟨x, hx⟩ := h _ (List.getElem_mem hi)
  have e : vs[i]? = some (.int x) := by rw [List.getElem?_eq_getElem hi, hx]
  rw [own_iv, e]
theorem own_ints_set {vs : List Value} (h : own_ints vs) {i : Nat} {x : Int32} : own_ints (vs.set i (.int x)) := fun v hv => by
  rcases List.mem_or_eq_of_mem_set hv with q | q
  · exact h v q
  · exact ⟨x, q⟩
theorem own_ints_map (xs : List Int32) : own_ints (xs.map Value.int) := fun v hv => by
  obtain ⟨x, -, rfl⟩ := List.mem_map.mp hv
  exact ⟨x, rfl⟩
theorem own_ints9 (a b c d e f g h i : Int32) : own_ints [.int a, .int b, .int c, .int d, .int e, .int f, .int g, .int h, .int i] := own_ints_map [a, b, c, d, e, f, g, h, i]
theorem own_pick {vs : List Value} {i : Nat} {x : Int32} (h : vs[i]? = some (.int x)) : own_iv vs i = x := by rw [own_iv, h]
/-- what next() answers, and the place behind -/
def own_nx (vs : List Value) : Nat → Int32 → Int32 → Nat → Int32 × Nat
  | p, _, _, 0 => (-1, p)
  | p, acc, sh, k + 1 => if own_iv vs p < 0 then own_nx vs (p + 1) (acc ||| ((own_iv vs p &&& (127 : Int32)) <<< (sh &&& 31))) (sh + (7 : Int32)) k else (acc ||| ((own_iv vs p &&& (127 : Int32)) <<< (sh &&& 31)), p + 1)
theorem own_nxT {vs : List Value} {p k : Nat} {acc sh : Int32} (h : own_iv vs p < 0) : own_nx vs p acc sh (k + 1) = own_nx vs (p + 1) (acc ||| ((own_iv vs p &&& (127 : Int32)) <<< (sh &&& 31))) (sh + (7 : Int32)) k := by rw [own_nx, if_pos h]
theorem own_nxF {vs : List Value} {p k : Nat} {acc sh : Int32} (h : ¬ own_iv vs p < 0) : own_nx vs p acc sh (k + 1) = (acc ||| ((own_iv vs p &&& (127 : Int32)) <<< (sh &&& 31)), p + 1) := by rw [own_nx, if_neg h]
theorem own_ofNat_lt {i n : Nat} (h : i < n) (hn : n < 2 ^ 31) : Int32.ofNat i < Int32.ofNat n := by
  rw [Int32.lt_iff_toInt_lt, Int32.toInt_ofNat_small (by omega), Int32.toInt_ofNat_small hn]; omega
theorem own_nn {i : Nat} (h : i < 2 ^ 31) : ¬ Int32.ofNat i < 0 := by
  rw [Int32.lt_iff_toInt_lt, Int32.toInt_ofNat_small h, show (0 : Int32).toInt = 0 from rfl]; omega
theorem own_nc {i : Nat} (h : i < 2 ^ 31) : (Int32.ofNat i).toNatClampNeg = i := by
  rw [Int32.toNatClampNeg, Int32.toInt_ofNat_small h]; rfl
theorem own_ixz0 {fr : Int32} {F : Nat} (hF : F ≤ 3) (hfr : fr = Int32.ofNat F) : ¬ fr < 0 := by rw [hfr]; exact own_nn (by omega)
theorem own_ixz {fr : Int32} {F : Nat} (hF : F ≤ 3) (hfr : fr = Int32.ofNat F) : fr.toNatClampNeg = F := by rw [hfr]; exact own_nc (by omega)
theorem own_ixe {fr : Int32} {F k : Nat} (hfr : fr = Int32.ofNat F) : fr + Int32.ofNat k = Int32.ofNat (F + k) := by rw [hfr, Int32.ofNat_add]
theorem own_ix0 {fr : Int32} {F k : Nat} (hF : F ≤ 3) (hfr : fr = Int32.ofNat F) (hk : k ≤ 5) : ¬ fr + Int32.ofNat k < 0 := by rw [own_ixe hfr]; exact own_nn (by omega)
theorem own_ix {fr : Int32} {F k : Nat} (hF : F ≤ 3) (hfr : fr = Int32.ofNat F) (hk : k ≤ 5) : (fr + Int32.ofNat k).toNatClampNeg = F + k := by rw [own_ixe hfr]; exact own_nc (by omega)
theorem own_cut (p m : Int32) (k : Nat) (hk : 0 < k ∧ k < 100) (hm : m = Int32.ofNat k) {cc : Int32} (h : (p &&& (2147483647 : Int32)) % m = cc) : ∃ C : Nat, C < k ∧ cc = Int32.ofNat C := by
  have h1 : (p &&& (2147483647 : Int32)).toInt = p.toInt % 2 ^ 31 := Jvm.Kit.i32_mask p 2147483647 (k := 31) (by decide) (by decide)
  have h2 : ((p &&& (2147483647 : Int32)) % m).toInt = (p &&& (2147483647 : Int32)).toInt % m.toInt := Jvm.Kit.i32_rem_nonneg (by omega)
  have h3 : m.toInt = k := by rw [hm, Int32.toInt_ofNat_small (by omega)]
  have h4 : 0 ≤ cc.toInt ∧ cc.toInt < k := by
    rw [← h, h2, h3]
    exact ⟨Int.emod_nonneg _ (by omega), Int.emod_lt_of_pos _ (by omega)⟩
  refine ⟨cc.toInt.toNat, by omega, ?_⟩
  apply Int32.toInt_inj.mp
  rw [Int32.toInt_ofNat_small (by omega)]; omega
theorem own_small {P : Int32 → Prop} (hp : ∀ n : Fin 128, P (Int32.ofNat n.val)) (p : Int32) (h0 : 0 ≤ p.toInt) (h1 : p.toInt < 128) : P p := by
  have hn : p.toInt.toNat < 128 := by omega
  have e : p = Int32.ofNat p.toInt.toNat := by
    apply Int32.toInt_inj.mp
    rw [Int32.toInt_ofNat_small (by omega)]; omega
  rw [e]; exact hp ⟨_, hn⟩
theorem own_g0 (n i : Int32) : 0 ≤ (own_g n i).toInt ∧ (own_g n i).toInt < 128 := by
  have h := Jvm.Kit.i32_mask ((n.toUInt32 >>> (((7 : Int32) * i) &&& 31).toUInt32).toInt32) 127 (k := 7) (by decide) (by decide)
  rw [own_g]; omega
theorem own_hi (n i ln : Int32) (h : i < ln - (1 : Int32)) : nar .byte (own_enc n i ln) < 0 ∧ (nar .byte (own_enc n i ln) &&& (127 : Int32)) = own_g n i := by
  rw [← own_encT n i ln h, own_encN]
  exact own_small (P := fun g => (g ||| (128 : Int32)).toInt8.toInt32 < 0 ∧ ((g ||| (128 : Int32)).toInt8.toInt32 &&& (127 : Int32)) = g) (by decide +kernel) _ (own_g0 n i).1 (own_g0 n i).2
theorem own_lo (n i ln : Int32) (h : ¬ i < ln - (1 : Int32)) : ¬ nar .byte (own_enc n i ln) < 0 ∧ (nar .byte (own_enc n i ln) &&& (127 : Int32)) = own_g n i := by
  rw [← own_encF n i ln h, own_encN]
  exact own_small (P := fun g => ¬ g.toInt8.toInt32 < 0 ∧ (g.toInt8.toInt32 &&& (127 : Int32)) = g) (by decide +kernel) _ (own_g0 n i).1 (own_g0 n i).2
/-- the second number's byte -/
theorem own_sec (j : Int32) : ¬ nar .byte ((j &&& (127 : Int32)).toInt8.toInt32) < 0 ∧ (nar .byte ((j &&& (127 : Int32)).toInt8.toInt32) &&& (127 : Int32)) = (j &&& (127 : Int32)) := by
  have h := Jvm.Kit.i32_mask j 127 (k := 7) (by decide) (by decide)
  exact own_small (P := fun g => ¬ nar .byte (g.toInt8.toInt32) < 0 ∧ (nar .byte (g.toInt8.toInt32) &&& (127 : Int32)) = g) (by decide +kernel) _ (by omega) (by omega)
/-- the lowest k bits -/
def own_tr (n : Int32) (k : Nat) : Int32 := Int32.ofBitVec ((n.toBitVec.setWidth k).setWidth 32)
theorem own_tr0 (n : Int32) : own_tr n 0 = 0 := by
  apply Int32.toBitVec_inj.mp
  show (n.toBitVec.setWidth 0).setWidth 32 = 0#32
  apply BitVec.eq_of_getLsbD_eq
  intro i hi
  simp
theorem own_trN (n : Int32) (k : Nat) (h0 : 0 ≤ n.toInt) (h1 : n.toInt < 2 ^ k) : own_tr n k = n := by
  apply Int32.toBitVec_inj.mp
  show (n.toBitVec.setWidth k).setWidth 32 = n.toBitVec
  apply BitVec.eq_of_toNat_eq
  have e : n.toInt = (n.toBitVec.toNat : Int) := by
    have q : n.toInt = n.toBitVec.toInt := rfl
    rw [q, BitVec.toInt_eq_toNat_cond] at h0 ⊢
    have := n.toBitVec.isLt
    split <;> rename_i h
    · rfl
    · rw [if_neg h] at h0; omega
  have h2 : n.toBitVec.toNat < 2 ^ k := by
    have : ((n.toBitVec.toNat : Nat) : Int) < ((2 ^ k : Nat) : Int) := by rw [← e]; simpa using h1
    omega
  rw [BitVec.toNat_setWidth, BitVec.toNat_setWidth, Nat.mod_eq_of_lt h2, Nat.mod_eq_of_lt n.toBitVec.isLt]
theorem own_acc (n i sh : Int32) (k k' : Nat) (hk : k < 32) (hk' : k + 7 = k') (h1 : ((((7 : Int32) * i) &&& 31).toUInt32 % 32).toNat = k) (h2 : ((sh &&& 31).toBitVec.smod 32).toNat = k) : own_tr n k ||| (own_g n i <<< (sh &&& 31)) = own_tr n k' := by
  subst hk'
  apply Int32.toBitVec_inj.mp
  have eg : (own_g n i).toBitVec = (n.toBitVec >>> k) &&& 127#32 := by
    show (n.toBitVec >>> ((((7 : Int32) * i) &&& 31).toUInt32 % 32).toBitVec) &&& 127#32 = _
    rw [BitVec.ushiftRight_eq']
    show (n.toBitVec >>> ((((7 : Int32) * i) &&& 31).toUInt32 % 32).toNat) &&& 127#32 = _
    rw [h1]
  rw [Int32.toBitVec_or, Int32.toBitVec_shiftLeft, eg]
  show ((n.toBitVec.setWidth k).setWidth 32) ||| (((n.toBitVec >>> k) &&& 127#32) <<< ((sh &&& 31).toBitVec.smod 32)) = (n.toBitVec.setWidth (k + 7)).setWidth 32
  rw [BitVec.shiftLeft_eq', h2]
  apply BitVec.eq_of_getLsbD_eq
  intro j hj
  have h127 : ∀ q : Nat, (127#32 : BitVec 32).getLsbD q = decide (q < 7) := by
    intro q
    by_cases hq : q < 32
    · have : ∀ q : Fin 32, (127#32 : BitVec 32).getLsbD q.val = decide (q.val < 7) := by decide +kernel
      exact this ⟨q, hq⟩
    · rw [BitVec.getLsbD_of_ge _ _ (by omega)]; simp; omega
  simp only [BitVec.getLsbD_or, BitVec.getLsbD_setWidth, BitVec.getLsbD_shiftLeft, BitVec.getLsbD_and, BitVec.getLsbD_ushiftRight, h127, hj, decide_true, Bool.true_and]
  by_cases hjk : j < k
  · simp [hjk, show j < k + 7 by omega]
  · have e : k + (j - k) = j := by omega
    rw [e]
    by_cases h7 : j < k + 7
    · simp [hjk, h7, show j - k < 7 by omega]
    · simp [hjk, h7, show ¬ j - k < 7 by omega]
theorem own_nx_all (vs : List Value) : ∀ (k p : Nat) (acc sh : Int32), (∀ i, i < k → own_iv vs (p + i) < 0) → own_nx vs p acc sh k = (-1, p + k)
  | 0, p, acc, sh, _ => rfl
  | k + 1, p, acc, sh, h => by
    have h00 : own_iv vs p < 0 := h 0 (by omega)
    rw [own_nxT h00, own_nx_all vs k (p + 1) _ _ (fun i hi => by rw [show p + 1 + i = p + (i + 1) from by omega]; exact h (i + 1) (by omega))]
    rw [show p + 1 + k = p + (k + 1) from by omega]
theorem own_hasEq (p : Nat) : own_has (Int32.ofNat p) (Int32.ofNat p) = 0 := by rw [own_has, if_neg Int32.lt_irrefl]
theorem own_hasLt (p : Nat) (h : p < 100) : own_has (Int32.ofNat p) (Int32.ofNat (p + 1)) = 1 := by rw [own_has, if_pos (own_ofNat_lt (by omega) (by omega))]
theorem own_run1 (vs : List Value) (F d : Nat) (n : Int32) (hn0 : 0 ≤ n.toInt) (hn1 : n.toInt < 2 ^ 7) (hb0 : own_iv vs (F + 0) = nar .byte (own_enc n (0 : Int32) (1 : Int32))) : own_nx vs F 0 0 (d + 1) = (n, F + 1) := by
  have t0 := own_lo n (0 : Int32) (1 : Int32) (by decide)
  rw [← hb0, show F + 0 = F from rfl] at t0
  rw [own_nxF t0.1]
  rw [t0.2]
  have a0 := own_acc n (0 : Int32) (0 : Int32) 0 7 (by decide) rfl (by decide) (by decide)
  rw [own_tr0] at a0
  rw [a0]
  rw [own_trN n _ hn0 (by omega)]
theorem own_run2 (vs : List Value) (F d : Nat) (n : Int32) (hn0 : 0 ≤ n.toInt) (hn1 : n.toInt < 2 ^ 14) (hb0 : own_iv vs (F + 0) = nar .byte (own_enc n (0 : Int32) (2 : Int32))) (hb1 : own_iv vs (F + 1) = nar .byte (own_enc n (1 : Int32) (2 : Int32))) : own_nx vs F 0 0 (d + 2) = (n, F + 2) := by
  have t0 := own_hi n (0 : Int32) (2 : Int32) (by decide)
  rw [← hb0, show F + 0 = F from rfl] at t0
  have t1 := own_lo n (1 : Int32) (2 : Int32) (by decide)
  rw [← hb1, show F + 1 = F + 1 from rfl] at t1
  rw [own_nxT t0.1, own_nxF t1.1]
  rw [t0.2, t1.2]
  have a0 := own_acc n (0 : Int32) (0 : Int32) 0 7 (by decide) rfl (by decide) (by decide)
  rw [own_tr0] at a0
  have a1 := own_acc n (1 : Int32) ((0 : Int32) + (7 : Int32)) 7 14 (by decide) rfl (by decide) (by decide)
  rw [a0, a1]
  rw [own_trN n _ hn0 (by omega)]
theorem own_run3 (vs : List Value) (F d : Nat) (n : Int32) (hn0 : 0 ≤ n.toInt) (hn1 : n.toInt < 2 ^ 21) (hb0 : own_iv vs (F + 0) = nar .byte (own_enc n (0 : Int32) (3 : Int32))) (hb1 : own_iv vs (F + 1) = nar .byte (own_enc n (1 : Int32) (3 : Int32))) (hb2 : own_iv vs (F + 2) = nar .byte (own_enc n (2 : Int32) (3 : Int32))) : own_nx vs F 0 0 (d + 3) = (n, F + 3) := by
  have t0 := own_hi n (0 : Int32) (3 : Int32) (by decide)
  rw [← hb0, show F + 0 = F from rfl] at t0
  have t1 := own_hi n (1 : Int32) (3 : Int32) (by decide)
  rw [← hb1, show F + 1 = F + 1 from rfl] at t1
  have t2 := own_lo n (2 : Int32) (3 : Int32) (by decide)
  rw [← hb2, show F + 2 = F + 1 + 1 from rfl] at t2
  rw [own_nxT t0.1, own_nxT t1.1, own_nxF t2.1]
  rw [t0.2, t1.2, t2.2]
  have a0 := own_acc n (0 : Int32) (0 : Int32) 0 7 (by decide) rfl (by decide) (by decide)
  rw [own_tr0] at a0
  have a1 := own_acc n (1 : Int32) ((0 : Int32) + (7 : Int32)) 7 14 (by decide) rfl (by decide) (by decide)
  have a2 := own_acc n (2 : Int32) (((0 : Int32) + (7 : Int32)) + (7 : Int32)) 14 21 (by decide) rfl (by decide) (by decide)
  rw [a0, a1, a2]
  rw [own_trN n _ hn0 (by omega)]
theorem own_run4 (vs : List Value) (F d : Nat) (n : Int32) (hn0 : 0 ≤ n.toInt) (hn1 : n.toInt < 2 ^ 28) (hb0 : own_iv vs (F + 0) = nar .byte (own_enc n (0 : Int32) (4 : Int32))) (hb1 : own_iv vs (F + 1) = nar .byte (own_enc n (1 : Int32) (4 : Int32))) (hb2 : own_iv vs (F + 2) = nar .byte (own_enc n (2 : Int32) (4 : Int32))) (hb3 : own_iv vs (F + 3) = nar .byte (own_enc n (3 : Int32) (4 : Int32))) : own_nx vs F 0 0 (d + 4) = (n, F + 4) := by
  have t0 := own_hi n (0 : Int32) (4 : Int32) (by decide)
  rw [← hb0, show F + 0 = F from rfl] at t0
  have t1 := own_hi n (1 : Int32) (4 : Int32) (by decide)
  rw [← hb1, show F + 1 = F + 1 from rfl] at t1
  have t2 := own_hi n (2 : Int32) (4 : Int32) (by decide)
  rw [← hb2, show F + 2 = F + 1 + 1 from rfl] at t2
  have t3 := own_lo n (3 : Int32) (4 : Int32) (by decide)
  rw [← hb3, show F + 3 = F + 1 + 1 + 1 from rfl] at t3
  rw [own_nxT t0.1, own_nxT t1.1, own_nxT t2.1, own_nxF t3.1]
  rw [t0.2, t1.2, t2.2, t3.2]
  have a0 := own_acc n (0 : Int32) (0 : Int32) 0 7 (by decide) rfl (by decide) (by decide)
  rw [own_tr0] at a0
  have a1 := own_acc n (1 : Int32) ((0 : Int32) + (7 : Int32)) 7 14 (by decide) rfl (by decide) (by decide)
  have a2 := own_acc n (2 : Int32) (((0 : Int32) + (7 : Int32)) + (7 : Int32)) 14 21 (by decide) rfl (by decide) (by decide)
  have a3 := own_acc n (3 : Int32) ((((0 : Int32) + (7 : Int32)) + (7 : Int32)) + (7 : Int32)) 21 28 (by decide) rfl (by decide) (by decide)
  rw [a0, a1, a2, a3]
  rw [own_trN n _ hn0 (by omega)]
theorem own_run5 (vs : List Value) (F d : Nat) (n : Int32) (hn0 : 0 ≤ n.toInt) (hn1 : n.toInt < 2 ^ 31) (hb0 : own_iv vs (F + 0) = nar .byte (own_enc n (0 : Int32) (5 : Int32))) (hb1 : own_iv vs (F + 1) = nar .byte (own_enc n (1 : Int32) (5 : Int32))) (hb2 : own_iv vs (F + 2) = nar .byte (own_enc n (2 : Int32) (5 : Int32))) (hb3 : own_iv vs (F + 3) = nar .byte (own_enc n (3 : Int32) (5 : Int32))) (hb4 : own_iv vs (F + 4) = nar .byte (own_enc n (4 : Int32) (5 : Int32))) : own_nx vs F 0 0 (d + 5) = (n, F + 5) := by
  have t0 := own_hi n (0 : Int32) (5 : Int32) (by decide)
  rw [← hb0, show F + 0 = F from rfl] at t0
  have t1 := own_hi n (1 : Int32) (5 : Int32) (by decide)
  rw [← hb1, show F + 1 = F + 1 from rfl] at t1
  have t2 := own_hi n (2 : Int32) (5 : Int32) (by decide)
  rw [← hb2, show F + 2 = F + 1 + 1 from rfl] at t2
  have t3 := own_hi n (3 : Int32) (5 : Int32) (by decide)
  rw [← hb3, show F + 3 = F + 1 + 1 + 1 from rfl] at t3
  have t4 := own_lo n (4 : Int32) (5 : Int32) (by decide)
  rw [← hb4, show F + 4 = F + 1 + 1 + 1 + 1 from rfl] at t4
  rw [own_nxT t0.1, own_nxT t1.1, own_nxT t2.1, own_nxT t3.1, own_nxF t4.1]
  rw [t0.2, t1.2, t2.2, t3.2, t4.2]
  have a0 := own_acc n (0 : Int32) (0 : Int32) 0 7 (by decide) rfl (by decide) (by decide)
  rw [own_tr0] at a0
  have a1 := own_acc n (1 : Int32) ((0 : Int32) + (7 : Int32)) 7 14 (by decide) rfl (by decide) (by decide)
  have a2 := own_acc n (2 : Int32) (((0 : Int32) + (7 : Int32)) + (7 : Int32)) 14 21 (by decide) rfl (by decide) (by decide)
  have a3 := own_acc n (3 : Int32) ((((0 : Int32) + (7 : Int32)) + (7 : Int32)) + (7 : Int32)) 21 28 (by decide) rfl (by decide) (by decide)
  have a4 := own_acc n (4 : Int32) (((((0 : Int32) + (7 : Int32)) + (7 : Int32)) + (7 : Int32)) + (7 : Int32)) 28 35 (by decide) rfl (by decide) (by decide)
  rw [a0, a1, a2, a3, a4]
  rw [own_trN n _ hn0 (by omega)]
theorem own_neg1 (vs : List Value) (F C : Nat) (n : Int32) (hC : C < 1) (hb0 : own_iv vs (F + 0) = nar .byte (own_enc n (0 : Int32) (1 : Int32))) : ∀ i, i < C → own_iv vs (F + i) < 0 := by
  intro i hi
  omega
theorem own_neg2 (vs : List Value) (F C : Nat) (n : Int32) (hC : C < 2) (hb0 : own_iv vs (F + 0) = nar .byte (own_enc n (0 : Int32) (2 : Int32))) (hb1 : own_iv vs (F + 1) = nar .byte (own_enc n (1 : Int32) (2 : Int32))) : ∀ i, i < C → own_iv vs (F + i) < 0 := by
  intro i hi
  rcases (show i = 0 ∨ i = 0 by omega) with h | h <;> subst h
  · rw [hb0]; exact (own_hi n (0 : Int32) (2 : Int32) (by decide)).1
  · rw [hb0]; exact (own_hi n (0 : Int32) (2 : Int32) (by decide)).1
theorem own_neg3 (vs : List Value) (F C : Nat) (n : Int32) (hC : C < 3) (hb0 : own_iv vs (F + 0) = nar .byte (own_enc n (0 : Int32) (3 : Int32))) (hb1 : own_iv vs (F + 1) = nar .byte (own_enc n (1 : Int32) (3 : Int32))) (hb2 : own_iv vs (F + 2) = nar .byte (own_enc n (2 : Int32) (3 : Int32))) : ∀ i, i < C → own_iv vs (F + i) < 0 := by
  intro i hi
  rcases (show i = 0 ∨ i = 1 by omega) with h | h <;> subst h
  · rw [hb0]; exact (own_hi n (0 : Int32) (3 : Int32) (by decide)).1
  · rw [hb1]; exact (own_hi n (1 : Int32) (3 : Int32) (by decide)).1
theorem own_neg4 (vs : List Value) (F C : Nat) (n : Int32) (hC : C < 4) (hb0 : own_iv vs (F + 0) = nar .byte (own_enc n (0 : Int32) (4 : Int32))) (hb1 : own_iv vs (F + 1) = nar .byte (own_enc n (1 : Int32) (4 : Int32))) (hb2 : own_iv vs (F + 2) = nar .byte (own_enc n (2 : Int32) (4 : Int32))) (hb3 : own_iv vs (F + 3) = nar .byte (own_enc n (3 : Int32) (4 : Int32))) : ∀ i, i < C → own_iv vs (F + i) < 0 := by
  intro i hi
  rcases (show i = 0 ∨ i = 1 ∨ i = 2 by omega) with h | h | h <;> subst h
  · rw [hb0]; exact (own_hi n (0 : Int32) (4 : Int32) (by decide)).1
  · rw [hb1]; exact (own_hi n (1 : Int32) (4 : Int32) (by decide)).1
  · rw [hb2]; exact (own_hi n (2 : Int32) (4 : Int32) (by decide)).1
theorem own_neg5 (vs : List Value) (F C : Nat) (n : Int32) (hC : C < 5) (hb0 : own_iv vs (F + 0) = nar .byte (own_enc n (0 : Int32) (5 : Int32))) (hb1 : own_iv vs (F + 1) = nar .byte (own_enc n (1 : Int32) (5 : Int32))) (hb2 : own_iv vs (F + 2) = nar .byte (own_enc n (2 : Int32) (5 : Int32))) (hb3 : own_iv vs (F + 3) = nar .byte (own_enc n (3 : Int32) (5 : Int32))) (hb4 : own_iv vs (F + 4) = nar .byte (own_enc n (4 : Int32) (5 : Int32))) : ∀ i, i < C → own_iv vs (F + i) < 0 := by
  intro i hi
  rcases (show i = 0 ∨ i = 1 ∨ i = 2 ∨ i = 3 by omega) with h | h | h | h <;> subst h
  · rw [hb0]; exact (own_hi n (0 : Int32) (5 : Int32) (by decide)).1
  · rw [hb1]; exact (own_hi n (1 : Int32) (5 : Int32) (by decide)).1
  · rw [hb2]; exact (own_hi n (2 : Int32) (5 : Int32) (by decide)).1
  · rw [hb3]; exact (own_hi n (3 : Int32) (5 : Int32) (by decide)).1
theorem own_or0 (x : Int32) : (0 : Int32) ||| (x <<< ((0 : Int32) &&& 31)) = x := by
  apply Int32.toBitVec_inj.mp
  rw [Int32.toBitVec_or, Int32.toBitVec_shiftLeft]
  show 0#32 ||| x.toBitVec <<< (((0 : Int32) &&& 31).toBitVec.smod 32) = x.toBitVec
  rw [BitVec.shiftLeft_eq', show (((0 : Int32) &&& 31).toBitVec.smod 32).toNat = 0 from by decide]
  simp
theorem own_n0 (v sh : Int32) : 0 ≤ (((v &&& (2147483647 : Int32)).toUInt32 >>> ((sh &&& (31 : Int32)) &&& 31).toUInt32).toInt32).toInt := by
  have h1 : (v &&& (2147483647 : Int32)).toInt = v.toInt % 2 ^ 31 := Jvm.Kit.i32_mask v 2147483647 (k := 31) (by decide) (by decide)
  have h2 : ((sh &&& (31 : Int32)) &&& 31).toInt = (sh &&& (31 : Int32)).toInt % 2 ^ 5 := Jvm.Kit.i32_mask _ 31 (k := 5) (by decide) (by decide)
  have h3 : 0 ≤ (v &&& (2147483647 : Int32)) := by rw [Jvm.Kit.i32_nonneg]; omega
  have e : ((sh &&& (31 : Int32)) &&& 31).toUInt32.toNat = ((sh &&& (31 : Int32)) &&& 31).toInt.toNat := by
    have hx : 0 ≤ ((sh &&& (31 : Int32)) &&& 31).toInt := by omega
    generalize ((sh &&& (31 : Int32)) &&& 31) = y at hx h2
    show y.toBitVec.toNat = y.toBitVec.toInt.toNat
    have hx' : 0 ≤ y.toBitVec.toInt := hx
    rw [BitVec.toInt_eq_toNat_cond] at hx' ⊢
    have := y.toBitVec.isLt
    split at hx' <;> simp_all <;> omega
  have h4 := Jvm.Kit.i32_iushr h3 (n := ((sh &&& (31 : Int32)) &&& 31).toUInt32) (k := ((sh &&& (31 : Int32)) &&& 31).toInt.toNat) e (by omega)
  rw [h4]
  exact Int.ediv_nonneg (by omega) (Int.le_of_lt (Int.pow_pos (by decide)))
theorem own_from (f : Int32) {fr : Int32} (h : f &&& (3 : Int32) = fr) : ∃ F : Nat, F ≤ 3 ∧ fr = Int32.ofNat F := by
  have h1 : (f &&& (3 : Int32)).toInt = f.toInt % 2 ^ 2 := Jvm.Kit.i32_mask f 3 (k := 2) (by decide) (by decide)
  rw [h] at h1
  refine ⟨fr.toInt.toNat, by omega, ?_⟩
  apply Int32.toInt_inj.mp
  rw [Int32.toInt_ofNat_small (by omega)]; omega
theorem own_pk1_0 (q b0 b1 : Int32) (F : Nat) (hF : F ≤ 3) : own_iv ((([.int q, .int q, .int q, .int q, .int q, .int q, .int q, .int q, .int q]).set F (.int b0)).set (F + 1) (.int b1)) (F + 0) = b0 := own_pick (by rcases (show F = 0 ∨ F = 1 ∨ F = 2 ∨ F = 3 by omega) with h | h | h | h <;> subst h <;> rfl)
theorem own_pk1_1 (q b0 b1 : Int32) (F : Nat) (hF : F ≤ 3) : own_iv ((([.int q, .int q, .int q, .int q, .int q, .int q, .int q, .int q, .int q]).set F (.int b0)).set (F + 1) (.int b1)) (F + 1) = b1 := own_pick (by rcases (show F = 0 ∨ F = 1 ∨ F = 2 ∨ F = 3 by omega) with h | h | h | h <;> subst h <;> rfl)
theorem own_pk2_0 (q b0 b1 b2 : Int32) (F : Nat) (hF : F ≤ 3) : own_iv (((([.int q, .int q, .int q, .int q, .int q, .int q, .int q, .int q, .int q]).set F (.int b0)).set (F + 1) (.int b1)).set (F + 2) (.int b2)) (F + 0) = b0 := own_pick (by rcases (show F = 0 ∨ F = 1 ∨ F = 2 ∨ F = 3 by omega) with h | h | h | h <;> subst h <;> rfl)
theorem own_pk2_1 (q b0 b1 b2 : Int32) (F : Nat) (hF : F ≤ 3) : own_iv (((([.int q, .int q, .int q, .int q, .int q, .int q, .int q, .int q, .int q]).set F (.int b0)).set (F + 1) (.int b1)).set (F + 2) (.int b2)) (F + 1) = b1 := own_pick (by rcases (show F = 0 ∨ F = 1 ∨ F = 2 ∨ F = 3 by omega) with h | h | h | h <;> subst h <;> rfl)
theorem own_pk2_2 (q b0 b1 b2 : Int32) (F : Nat) (hF : F ≤ 3) : own_iv (((([.int q, .int q, .int q, .int q, .int q, .int q, .int q, .int q, .int q]).set F (.int b0)).set (F + 1) (.int b1)).set (F + 2) (.int b2)) (F + 2) = b2 := own_pick (by rcases (show F = 0 ∨ F = 1 ∨ F = 2 ∨ F = 3 by omega) with h | h | h | h <;> subst h <;> rfl)
theorem own_pk3_0 (q b0 b1 b2 b3 : Int32) (F : Nat) (hF : F ≤ 3) : own_iv ((((([.int q, .int q, .int q, .int q, .int q, .int q, .int q, .int q, .int q]).set F (.int b0)).set (F + 1) (.int b1)).set (F + 2) (.int b2)).set (F + 3) (.int b3)) (F + 0) = b0 := own_pick (by rcases (show F = 0 ∨ F = 1 ∨ F = 2 ∨ F = 3 by omega) with h | h | h | h <;> subst h <;> rfl)
theorem own_pk3_1 (q b0 b1 b2 b3 : Int32) (F : Nat) (hF : F ≤ 3) : own_iv ((((([.int q, .int q, .int q, .int q, .int q, .int q, .int q, .int q, .int q]).set F (.int b0)).set (F + 1) (.int b1)).set (F + 2) (.int b2)).set (F + 3) (.int b3)) (F + 1) = b1 := own_pick (by rcases (show F = 0 ∨ F = 1 ∨ F = 2 ∨ F = 3 by omega) with h | h | h | h <;> subst h <;> rfl)
theorem own_pk3_2 (q b0 b1 b2 b3 : Int32) (F : Nat) (hF : F ≤ 3) : own_iv ((((([.int q, .int q, .int q, .int q, .int q, .int q, .int q, .int q, .int q]).set F (.int b0)).set (F + 1) (.int b1)).set (F + 2) (.int b2)).set (F + 3) (.int b3)) (F + 2) = b2 := own_pick (by rcases (show F = 0 ∨ F = 1 ∨ F = 2 ∨ F = 3 by omega) with h | h | h | h <;> subst h <;> rfl)
theorem own_pk3_3 (q b0 b1 b2 b3 : Int32) (F : Nat) (hF : F ≤ 3) : own_iv ((((([.int q, .int q, .int q, .int q, .int q, .int q, .int q, .int q, .int q]).set F (.int b0)).set (F + 1) (.int b1)).set (F + 2) (.int b2)).set (F + 3) (.int b3)) (F + 3) = b3 := own_pick (by rcases (show F = 0 ∨ F = 1 ∨ F = 2 ∨ F = 3 by omega) with h | h | h | h <;> subst h <;> rfl)
theorem own_pk4_0 (q b0 b1 b2 b3 b4 : Int32) (F : Nat) (hF : F ≤ 3) : own_iv (((((([.int q, .int q, .int q, .int q, .int q, .int q, .int q, .int q, .int q]).set F (.int b0)).set (F + 1) (.int b1)).set (F + 2) (.int b2)).set (F + 3) (.int b3)).set (F + 4) (.int b4)) (F + 0) = b0 := own_pick (by rcases (show F = 0 ∨ F = 1 ∨ F = 2 ∨ F = 3 by omega) with h | h | h | h <;> subst h <;> rfl)
theorem own_pk4_1 (q b0 b1 b2 b3 b4 : Int32) (F : Nat) (hF : F ≤ 3) : own_iv (((((([.int q, .int q, .int q, .int q, .int q, .int q, .int q, .int q, .int q]).set F (.int b0)).set (F + 1) (.int b1)).set (F + 2) (.int b2)).set (F + 3) (.int b3)).set (F + 4) (.int b4)) (F + 1) = b1 := own_pick (by rcases (show F = 0 ∨ F = 1 ∨ F = 2 ∨ F = 3 by omega) with h | h | h | h <;> subst h <;> rfl)
theorem own_pk4_2 (q b0 b1 b2 b3 b4 : Int32) (F : Nat) (hF : F ≤ 3) : own_iv (((((([.int q, .int q, .int q, .int q, .int q, .int q, .int q, .int q, .int q]).set F (.int b0)).set (F + 1) (.int b1)).set (F + 2) (.int b2)).set (F + 3) (.int b3)).set (F + 4) (.int b4)) (F + 2) = b2 := own_pick (by rcases (show F = 0 ∨ F = 1 ∨ F = 2 ∨ F = 3 by omega) with h | h | h | h <;> subst h <;> rfl)
theorem own_pk4_3 (q b0 b1 b2 b3 b4 : Int32) (F : Nat) (hF : F ≤ 3) : own_iv (((((([.int q, .int q, .int q, .int q, .int q, .int q, .int q, .int q, .int q]).set F (.int b0)).set (F + 1) (.int b1)).set (F + 2) (.int b2)).set (F + 3) (.int b3)).set (F + 4) (.int b4)) (F + 3) = b3 := own_pick (by rcases (show F = 0 ∨ F = 1 ∨ F = 2 ∨ F = 3 by omega) with h | h | h | h <;> subst h <;> rfl)
theorem own_pk4_4 (q b0 b1 b2 b3 b4 : Int32) (F : Nat) (hF : F ≤ 3) : own_iv (((((([.int q, .int q, .int q, .int q, .int q, .int q, .int q, .int q, .int q]).set F (.int b0)).set (F + 1) (.int b1)).set (F + 2) (.int b2)).set (F + 3) (.int b3)).set (F + 4) (.int b4)) (F + 4) = b4 := own_pick (by rcases (show F = 0 ∨ F = 1 ∨ F = 2 ∨ F = 3 by omega) with h | h | h | h <;> subst h <;> rfl)
theorem own_pk5_0 (q b0 b1 b2 b3 b4 b5 : Int32) (F : Nat) (hF : F ≤ 3) : own_iv ((((((([.int q, .int q, .int q, .int q, .int q, .int q, .int q, .int q, .int q]).set F (.int b0)).set (F + 1) (.int b1)).set (F + 2) (.int b2)).set (F + 3) (.int b3)).set (F + 4) (.int b4)).set (F + 5) (.int b5)) (F + 0) = b0 := own_pick (by rcases (show F = 0 ∨ F = 1 ∨ F = 2 ∨ F = 3 by omega) with h | h | h | h <;> subst h <;> rfl)
theorem own_pk5_1 (q b0 b1 b2 b3 b4 b5 : Int32) (F : Nat) (hF : F ≤ 3) : own_iv ((((((([.int q, .int q, .int q, .int q, .int q, .int q, .int q, .int q, .int q]).set F (.int b0)).set (F + 1) (.int b1)).set (F + 2) (.int b2)).set (F + 3) (.int b3)).set (F + 4) (.int b4)).set (F + 5) (.int b5)) (F + 1) = b1 := own_pick (by rcases (show F = 0 ∨ F = 1 ∨ F = 2 ∨ F = 3 by omega) with h | h | h | h <;> subst h <;> rfl)
theorem own_pk5_2 (q b0 b1 b2 b3 b4 b5 : Int32) (F : Nat) (hF : F ≤ 3) : own_iv ((((((([.int q, .int q, .int q, .int q, .int q, .int q, .int q, .int q, .int q]).set F (.int b0)).set (F + 1) (.int b1)).set (F + 2) (.int b2)).set (F + 3) (.int b3)).set (F + 4) (.int b4)).set (F + 5) (.int b5)) (F + 2) = b2 := own_pick (by rcases (show F = 0 ∨ F = 1 ∨ F = 2 ∨ F = 3 by omega) with h | h | h | h <;> subst h <;> rfl)
theorem own_pk5_3 (q b0 b1 b2 b3 b4 b5 : Int32) (F : Nat) (hF : F ≤ 3) : own_iv ((((((([.int q, .int q, .int q, .int q, .int q, .int q, .int q, .int q, .int q]).set F (.int b0)).set (F + 1) (.int b1)).set (F + 2) (.int b2)).set (F + 3) (.int b3)).set (F + 4) (.int b4)).set (F + 5) (.int b5)) (F + 3) = b3 := own_pick (by rcases (show F = 0 ∨ F = 1 ∨ F = 2 ∨ F = 3 by omega) with h | h | h | h <;> subst h <;> rfl)
theorem own_pk5_4 (q b0 b1 b2 b3 b4 b5 : Int32) (F : Nat) (hF : F ≤ 3) : own_iv ((((((([.int q, .int q, .int q, .int q, .int q, .int q, .int q, .int q, .int q]).set F (.int b0)).set (F + 1) (.int b1)).set (F + 2) (.int b2)).set (F + 3) (.int b3)).set (F + 4) (.int b4)).set (F + 5) (.int b5)) (F + 4) = b4 := own_pick (by rcases (show F = 0 ∨ F = 1 ∨ F = 2 ∨ F = 3 by omega) with h | h | h | h <;> subst h <;> rfl)
theorem own_pk5_5 (q b0 b1 b2 b3 b4 b5 : Int32) (F : Nat) (hF : F ≤ 3) : own_iv ((((((([.int q, .int q, .int q, .int q, .int q, .int q, .int q, .int q, .int q]).set F (.int b0)).set (F + 1) (.int b1)).set (F + 2) (.int b2)).set (F + 3) (.int b3)).set (F + 4) (.int b4)).set (F + 5) (.int b5)) (F + 5) = b5 := own_pick (by rcases (show F = 0 ∨ F = 1 ∨ F = 2 ∨ F = 3 by omega) with h | h | h | h <;> subst h <;> rfl)

theorem d1_0 : decode method_2_code 0 = .ok (.iload_n 0, 1) := by decide +kernel
theorem d1_1 : decode method_2_code 1 = .ok (.bipush 7, 2) := by decide +kernel
theorem d1_3 : decode method_2_code 3 = .ok (.iload_n 1, 1) := by decide +kernel
theorem d1_4 : decode method_2_code 4 = .ok (.imul, 1) := by decide +kernel
theorem d1_5 : decode method_2_code 5 = .ok (.iushr, 1) := by decide +kernel
theorem d1_6 : decode method_2_code 6 = .ok (.bipush 127, 2) := by decide +kernel
theorem d1_8 : decode method_2_code 8 = .ok (.iand, 1) := by decide +kernel
theorem d1_9 : decode method_2_code 9 = .ok (.istore_n 3, 1) := by decide +kernel
theorem d1_10 : decode method_2_code 10 = .ok (.iload_n 1, 1) := by decide +kernel
theorem d1_11 : decode method_2_code 11 = .ok (.iload_n 2, 1) := by decide +kernel
theorem d1_12 : decode method_2_code 12 = .ok (.iconst 1, 1) := by decide +kernel
theorem d1_13 : decode method_2_code 13 = .ok (.isub, 1) := by decide +kernel
theorem d1_14 : decode method_2_code 14 = .ok (.if_icmp .ge 9, 3) := by decide +kernel
theorem d1_17 : decode method_2_code 17 = .ok (.iload_n 3, 1) := by decide +kernel
theorem d1_18 : decode method_2_code 18 = .ok (.sipush 128, 3) := by decide +kernel
theorem d1_21 : decode method_2_code 21 = .ok (.ior, 1) := by decide +kernel
theorem d1_22 : decode method_2_code 22 = .ok (.istore_n 3, 1) := by decide +kernel
theorem d1_23 : decode method_2_code 23 = .ok (.iload_n 3, 1) := by decide +kernel
theorem d1_24 : decode method_2_code 24 = .ok (.i2b, 1) := by decide +kernel
theorem d1_25 : decode method_2_code 25 = .ok (.ireturn, 1) := by decide +kernel
theorem pn_0 : plainName "com/example/wakachi/wakachi/ReaderNextPinLaw" = true := by first | (simp [plainName, overriddenIn]; done) | decide +kernel
theorem d2_0 : decode prog_238_method_1_code 0 = .ok (.aload_n 0, 1) := by decide +kernel
theorem d2_1 : decode prog_238_method_1_code 1 = .ok (.invokespecial 3, 3) := by decide +kernel
theorem d2_4 : decode prog_238_method_1_code 4 = .ok (.aload_n 0, 1) := by decide +kernel
theorem d2_5 : decode prog_238_method_1_code 5 = .ok (.aload_n 1, 1) := by decide +kernel
theorem d2_6 : decode prog_238_method_1_code 6 = .ok (.putfield 9, 3) := by decide +kernel
theorem d2_9 : decode prog_238_method_1_code 9 = .ok (.aload_n 0, 1) := by decide +kernel
theorem d2_10 : decode prog_238_method_1_code 10 = .ok (.iload_n 2, 1) := by decide +kernel
theorem d2_11 : decode prog_238_method_1_code 11 = .ok (.putfield 15, 3) := by decide +kernel
theorem d2_14 : decode prog_238_method_1_code 14 = .ok (.aload_n 0, 1) := by decide +kernel
theorem d2_15 : decode prog_238_method_1_code 15 = .ok (.iload_n 3, 1) := by decide +kernel
theorem d2_16 : decode prog_238_method_1_code 16 = .ok (.putfield 19, 3) := by decide +kernel
theorem d2_19 : decode prog_238_method_1_code 19 = .ok (.return_, 1) := by decide +kernel
theorem pn_1 : plainName "com/example/wakachi/wakachi/VarInts$Reader" = true := by first | (simp [plainName, overriddenIn]; done) | decide +kernel
theorem pd_0 : parseMethodDescriptor "()V" = some ⟨[], none⟩ := by decide +kernel
theorem d4_0 : decode prog_238_method_3_code 0 = .ok (.iconst 0, 1) := by decide +kernel
theorem d4_1 : decode prog_238_method_3_code 1 = .ok (.istore_n 1, 1) := by decide +kernel
theorem d4_2 : decode prog_238_method_3_code 2 = .ok (.iconst 0, 1) := by decide +kernel
theorem d4_3 : decode prog_238_method_3_code 3 = .ok (.istore_n 2, 1) := by decide +kernel
theorem d4_4 : decode prog_238_method_3_code 4 = .ok (.aload_n 0, 1) := by decide +kernel
theorem d4_5 : decode prog_238_method_3_code 5 = .ok (.getfield 15, 3) := by decide +kernel
theorem d4_8 : decode prog_238_method_3_code 8 = .ok (.aload_n 0, 1) := by decide +kernel
theorem d4_9 : decode prog_238_method_3_code 9 = .ok (.getfield 19, 3) := by decide +kernel
theorem d4_12 : decode prog_238_method_3_code 12 = .ok (.if_icmp .ge 41, 3) := by decide +kernel
theorem d4_15 : decode prog_238_method_3_code 15 = .ok (.aload_n 0, 1) := by decide +kernel
theorem d4_16 : decode prog_238_method_3_code 16 = .ok (.getfield 9, 3) := by decide +kernel
theorem d4_19 : decode prog_238_method_3_code 19 = .ok (.aload_n 0, 1) := by decide +kernel
theorem d4_20 : decode prog_238_method_3_code 20 = .ok (.dup, 1) := by decide +kernel
theorem d4_21 : decode prog_238_method_3_code 21 = .ok (.getfield 15, 3) := by decide +kernel
theorem d4_24 : decode prog_238_method_3_code 24 = .ok (.dup_x1, 1) := by decide +kernel
theorem d4_25 : decode prog_238_method_3_code 25 = .ok (.iconst 1, 1) := by decide +kernel
theorem d4_26 : decode prog_238_method_3_code 26 = .ok (.iadd, 1) := by decide +kernel
theorem d4_27 : decode prog_238_method_3_code 27 = .ok (.putfield 15, 3) := by decide +kernel
theorem d4_30 : decode prog_238_method_3_code 30 = .ok (.baload, 1) := by decide +kernel
theorem d4_31 : decode prog_238_method_3_code 31 = .ok (.istore_n 3, 1) := by decide +kernel
theorem d4_32 : decode prog_238_method_3_code 32 = .ok (.iload_n 1, 1) := by decide +kernel
theorem d4_33 : decode prog_238_method_3_code 33 = .ok (.iload_n 3, 1) := by decide +kernel
theorem d4_34 : decode prog_238_method_3_code 34 = .ok (.bipush 127, 2) := by decide +kernel
theorem d4_36 : decode prog_238_method_3_code 36 = .ok (.iand, 1) := by decide +kernel
theorem d4_37 : decode prog_238_method_3_code 37 = .ok (.iload_n 2, 1) := by decide +kernel
theorem d4_38 : decode prog_238_method_3_code 38 = .ok (.ishl, 1) := by decide +kernel
theorem d4_39 : decode prog_238_method_3_code 39 = .ok (.ior, 1) := by decide +kernel
theorem d4_40 : decode prog_238_method_3_code 40 = .ok (.istore_n 1, 1) := by decide +kernel
theorem d4_41 : decode prog_238_method_3_code 41 = .ok (.iload_n 3, 1) := by decide +kernel
theorem d4_42 : decode prog_238_method_3_code 42 = .ok (.ifCond .lt 5, 3) := by decide +kernel
theorem d4_45 : decode prog_238_method_3_code 45 = .ok (.iload_n 1, 1) := by decide +kernel
theorem d4_46 : decode prog_238_method_3_code 46 = .ok (.ireturn, 1) := by decide +kernel
theorem d4_47 : decode prog_238_method_3_code 47 = .ok (.iinc 2 7, 3) := by decide +kernel
theorem d4_50 : decode prog_238_method_3_code 50 = .ok (.goto (-46), 3) := by decide +kernel
theorem d4_53 : decode prog_238_method_3_code 53 = .ok (.iconst (-1), 1) := by decide +kernel
theorem d4_54 : decode prog_238_method_3_code 54 = .ok (.ireturn, 1) := by decide +kernel
theorem d5_0 : decode prog_238_method_2_code 0 = .ok (.aload_n 0, 1) := by decide +kernel
theorem d5_1 : decode prog_238_method_2_code 1 = .ok (.getfield 15, 3) := by decide +kernel
theorem d5_4 : decode prog_238_method_2_code 4 = .ok (.aload_n 0, 1) := by decide +kernel
theorem d5_5 : decode prog_238_method_2_code 5 = .ok (.getfield 19, 3) := by decide +kernel
theorem d5_8 : decode prog_238_method_2_code 8 = .ok (.if_icmp .ge 7, 3) := by decide +kernel
theorem d5_11 : decode prog_238_method_2_code 11 = .ok (.iconst 1, 1) := by decide +kernel
theorem d5_12 : decode prog_238_method_2_code 12 = .ok (.goto 4, 3) := by decide +kernel
theorem d5_15 : decode prog_238_method_2_code 15 = .ok (.iconst 0, 1) := by decide +kernel
theorem d5_16 : decode prog_238_method_2_code 16 = .ok (.ireturn, 1) := by decide +kernel
theorem ef_rm1 (m : MethodId) (p1 : Int32) (p2 : Int32) (p3 : Int32) : entryFrame m #[(.int p1), (.int p2), (.int p3)] 4 = mkF m 0 #[.val (.int p1), .val (.int p2), .val (.int p3), .unset] [] := by first | (simp [entryFrame, mkF, argsToLocals, Value.category]; done) | rfl
def Q1 (Z : State) (p1 : Int32) (p2 : Int32) (p3 : Int32)  (h0 : Heap) (n0 : Nat) (v : Option Value) (h : Heap) (L : List Loc) : Prop := v = some (.int (own_enc p1 p2 p3)) ∧ Fr n0 L ∧ h = h0
set_option maxRecDepth 65536 in
set_option maxHeartbeats 40000000 in
theorem rm1 (l : Launch) (Z : State) (a0 : Array Value) (hw : ∀ d ∈ tables_1, d.before a0 Z = true) (ws : List Jvm.Cond) (p1 : Int32) (p2 : Int32) (p3 : Int32)  (h0 : Heap) (n0 : Nat) (Z0 : n0 ≤ h0.size)  :
    MetFree l (⟨"com/example/wakachi/wakachi/ReaderNextPinLaw", "enc", "(III)B"⟩ : MethodName) (head1 (Jvm.Cond.code (⟨"com/example/wakachi/wakachi/ReaderNextPinLaw", "enc", "(III)B"⟩ : MethodName) method_2_code 4 (some .byte) :: ws) ({ frames := 0, cells := 0, slots := 0, locals := 0 } : Room)) (fun a U => a = #[(.int p1), (.int p2), (.int p3)] ∧ Z.Warmed39 U.vm ∧ U.heap = h0) (fun _ _ _ _ _ => True) (fun _ U o U' => ∃ v L, o = .returned v ∧ Q1 Z p1 p2 p3  h0 n0 v U'.heap L ∧ FrameEnd U o U' L ({ frames := 0, cells := 0, slots := 0, locals := 0 } : Room).cells ({ frames := 0, cells := 0, slots := 0, locals := 0 } : Room).slots) := by
  refine MetFree.of_bodySF (plainFor_of_name pn_0) hisR ?_
  intro p e s m args below meth c s₁ Bd hml0 hP hK
  obtain ⟨rfl, hZ, hh⟩ := hP
  have hx := Bd.exec
  have hby := Bd.bytes
  have hlk : meth.locks = false := BodyLoose.notSynchronized Bd
  have hret := Bd.returns
  have hml : c.maxLocals = 4 := hml0
  have hown : s.vm.findClass "com/example/wakachi/wakachi/ReaderNextPinLaw" = some m.cls := findClass_of_methodNamed Bd.named
  have hnm := (name_of_methodNamed Bd.named Bd.method).1
  have X0 : Stand p l e ({ frames := 0, cells := 0, slots := 0, locals := 0 } : Room) s m #[(.int p1), (.int p2), (.int p3)] below meth c s₁ [] 0 0 := Stand.of_body Bd
  have e0 : s₁.heap = h0 := by rw [← hh, Bd.state]; rfl
  have N0 := Fr.nil n0
  show own_Ends p e below s 0 0 (Q1 Z p1 p2 p3  h0 n0) (s₁.setTop (entryFrame m #[(.int p1), (.int p2), (.int p3)] 4))
  refine own_step (fun t k => castTop (ef_rm1 m p1 p2 p3) k) ?_
  show own_Ends p e below s _ _ _ (s₁.setTop (mkF m 0 #[.val (.int p1), .val (.int p2), .val (.int p3), .unset] []))
  refine own_step (fun _ kc_ => XS.iloadN X0.here hx rfl (hb hby d1_0) rfl (XS.bipush X0.here hx rfl (hb hby d1_1) (XS.iloadN X0.here hx rfl (hb hby d1_3) rfl (XS.imul X0.here hx rfl (hb hby d1_4) rfl (XS.iushr X0.here hx rfl (hb hby d1_5) rfl (XS.bipush X0.here hx rfl (hb hby d1_6) (XS.iand X0.here hx rfl (hb hby d1_8) rfl (XS.istoreN X0.here hx rfl (hb hby d1_9) rfl (l' := #[.val (.int p1), .val (.int p2), .val (.int p3), .val (.int (((p1.toUInt32 >>> (((7 : Int32) * p2) &&& 31).toUInt32).toInt32) &&& (127 : Int32)))]) rfl kc_)))))))) ?_
  show own_Ends p e below s _ _ _ (s₁.setTop (mkF m 10 #[.val (.int p1), .val (.int p2), .val (.int p3), .val (.int (((p1.toUInt32 >>> (((7 : Int32) * p2) &&& 31).toUInt32).toInt32) &&& (127 : Int32)))] []))
  refine own_step (fun _ kc_ => XS.iloadN X0.here hx rfl (hb hby d1_10) rfl (XS.iloadN X0.here hx rfl (hb hby d1_11) rfl (XS.iconst X0.here hx rfl (hb hby d1_12) (XS.isub X0.here hx rfl (hb hby d1_13) rfl kc_)))) ?_
  show own_Ends p e below s _ _ _ (s₁.setTop (mkF m 14 #[.val (.int p1), .val (.int p2), .val (.int p3), .val (.int (((p1.toUInt32 >>> (((7 : Int32) * p2) &&& 31).toUInt32).toInt32) &&& (127 : Int32)))] [(.int (p3 - (1 : Int32))), (.int p2)]))
  by_cases hc14 : p2 < (p3 - (1 : Int32))
  · refine own_step (fun _ kc_ => XS.icmpNo X0.here hx rfl (hb hby d1_14) rfl (XT.ii_ge_f hc14) (XS.iloadN X0.here hx rfl (hb hby d1_17) rfl (XS.sipush X0.here hx rfl (hb hby d1_18) (XS.ior X0.here hx rfl (hb hby d1_21) rfl (XS.istoreN X0.here hx rfl (hb hby d1_22) rfl (l' := #[.val (.int p1), .val (.int p2), .val (.int p3), .val (.int ((((p1.toUInt32 >>> (((7 : Int32) * p2) &&& 31).toUInt32).toInt32) &&& (127 : Int32)) ||| (128 : Int32)))]) rfl (XS.iloadN X0.here hx rfl (hb hby d1_23) rfl (XS.i2b X0.here hx rfl (hb hby d1_24) rfl kc_))))))) ?_
    show own_Ends p e below s _ _ _ (s₁.setTop (mkF m 25 #[.val (.int p1), .val (.int p2), .val (.int p3), .val (.int ((((p1.toUInt32 >>> (((7 : Int32) * p2) &&& 31).toUInt32).toInt32) &&& (127 : Int32)) ||| (128 : Int32)))] [(.int (((((p1.toUInt32 >>> (((7 : Int32) * p2) &&& 31).toUInt32).toInt32) &&& (127 : Int32)) ||| (128 : Int32)).toInt8.toInt32))]))
    exact own_retN X0 hx (t := .byte) (z' := own_enc p1 p2 p3) hret (by simp) hlk (hb hby d1_25) (by decide) (by decide) ((own_encN _).trans (own_encT p1 p2 p3 hc14)) ⟨rfl, N0, e0⟩
  · refine own_step (fun _ kc_ => XS.icmpYes X0.here hx rfl (pc0 := 14) (pc' := 23) rfl (hb hby d1_14) rfl (XT.ii_ge_t hc14) (by decide) (by decide) (XS.iloadN X0.here hx rfl (hb hby d1_23) rfl (XS.i2b X0.here hx rfl (hb hby d1_24) rfl kc_))) ?_
    show own_Ends p e below s _ _ _ (s₁.setTop (mkF m 25 #[.val (.int p1), .val (.int p2), .val (.int p3), .val (.int (((p1.toUInt32 >>> (((7 : Int32) * p2) &&& 31).toUInt32).toInt32) &&& (127 : Int32)))] [(.int ((((p1.toUInt32 >>> (((7 : Int32) * p2) &&& 31).toUInt32).toInt32) &&& (127 : Int32)).toInt8.toInt32))]))
    exact own_retN X0 hx (t := .byte) (z' := own_enc p1 p2 p3) hret (by simp) hlk (hb hby d1_25) (by decide) (by decide) ((own_encN _).trans (own_encF p1 p2 p3 hc14)) ⟨rfl, N0, e0⟩
theorem ef_rm2 (m : MethodId) (r : Addr) (ba : Addr) (pp : Int32) (tt : Int32) : entryFrame m #[(.ref r), (.ref ba), (.int pp), (.int tt)] 4 = mkF m 0 #[.val (.ref r), .val (.ref ba), .val (.int pp), .val (.int tt)] [] := by first | (simp [entryFrame, mkF, argsToLocals, Value.category]; done) | rfl
def Q2 (Z : State) (r : Addr) (ba : Addr) (pp : Int32) (tt : Int32)  (h0 : Heap) (n0 : Nat) (v : Option Value) (h : Heap) (L : List Loc) : Prop := v = none ∧ Fr n0 L ∧ Keep h0 h [r] ∧ Fld Z h r "com/example/wakachi/wakachi/VarInts$Reader" "bytes" "[B" (.ref ba) ∧ Fld Z h r "com/example/wakachi/wakachi/VarInts$Reader" "position" "I" (.int pp) ∧ Fld Z h r "com/example/wakachi/wakachi/VarInts$Reader" "to" "I" (.int tt)
set_option maxRecDepth 65536 in
set_option maxHeartbeats 40000000 in
theorem rm2 (l : Launch) (Z : State) (a0 : Array Value) (hw : ∀ d ∈ tables_1, d.before a0 Z = true) (ws : List Jvm.Cond) (r : Addr) (ba : Addr) (pp : Int32) (tt : Int32)  (h0 : Heap) (n0 : Nat) (Z0 : n0 ≤ h0.size) (E0 : Exa Z h0 r "com/example/wakachi/wakachi/VarInts$Reader") (F0 : Fld Z h0 r "com/example/wakachi/wakachi/VarInts$Reader" "bytes" "[B" .null) (F1 : Fld Z h0 r "com/example/wakachi/wakachi/VarInts$Reader" "position" "I" (.int (0 : Int32))) (F2 : Fld Z h0 r "com/example/wakachi/wakachi/VarInts$Reader" "to" "I" (.int (0 : Int32))) (g0 : n0 ≤ r) :
    MetFree l (⟨"com/example/wakachi/wakachi/VarInts$Reader", "<init>", "([BII)V"⟩ : MethodName) (head1 (Jvm.Cond.code (⟨"com/example/wakachi/wakachi/VarInts$Reader", "<init>", "([BII)V"⟩ : MethodName) prog_238_method_1_code 4 none :: ws) ({ frames := 1, cells := 0, slots := 0, locals := 12 } : Room)) (fun a U => a = #[(.ref r), (.ref ba), (.int pp), (.int tt)] ∧ Z.Warmed39 U.vm ∧ U.heap = h0) (fun _ _ _ _ _ => True) (fun _ U o U' => ∃ v L, o = .returned v ∧ Q2 Z r ba pp tt  h0 n0 v U'.heap L ∧ FrameEnd U o U' L ({ frames := 1, cells := 0, slots := 0, locals := 12 } : Room).cells ({ frames := 1, cells := 0, slots := 0, locals := 12 } : Room).slots) := by
  refine MetFree.of_bodySF (plainFor_of_name pn_1) hisR ?_
  intro p e s m args below meth c s₁ Bd hml0 hP hK
  obtain ⟨rfl, hZ, hh⟩ := hP
  have hx := Bd.exec
  have hby := Bd.bytes
  have hlk : meth.locks = false := BodyLoose.notSynchronized Bd
  have hret := Bd.returns
  have hml : c.maxLocals = 4 := hml0
  have hown : s.vm.findClass "com/example/wakachi/wakachi/VarInts$Reader" = some m.cls := findClass_of_methodNamed Bd.named
  have hnm := (name_of_methodNamed Bd.named Bd.method).1
  have X0 : Stand p l e ({ frames := 1, cells := 0, slots := 0, locals := 12 } : Room) s m #[(.ref r), (.ref ba), (.int pp), (.int tt)] below meth c s₁ [] 0 0 := Stand.of_body Bd
  have e0 : s₁.heap = h0 := by rw [← hh, Bd.state]; rfl
  have N0 := Fr.nil n0
  show own_Ends p e below s 0 0 (Q2 Z r ba pp tt  h0 n0) (s₁.setTop (entryFrame m #[(.ref r), (.ref ba), (.int pp), (.int tt)] 4))
  refine own_step (fun t k => castTop (ef_rm2 m r ba pp tt) k) ?_
  show own_Ends p e below s _ _ _ (s₁.setTop (mkF m 0 #[.val (.ref r), .val (.ref ba), .val (.int pp), .val (.int tt)] []))
  refine own_step (fun _ kc_ => XS.aloadN X0.here hx rfl (hb hby d2_0) rfl rfl kc_) ?_
  show own_Ends p e below s _ _ _ (s₁.setTop (mkF m 1 #[.val (.ref r), .val (.ref ba), .val (.int pp), .val (.int tt)] [(.ref r)]))
  obtain ⟨T1, X1, e1, st1⟩ := initO X0 hx hZ hown (hw _ (List.mem_of_getElem? (i := 12) rfl)) (hw _ (List.mem_of_getElem? (i := 13) rfl)) (hw _ (List.mem_of_getElem? (i := 14) rfl)) e0 (g := (mkF m 1 #[.val (.ref r), .val (.ref ba), .val (.int pp), .val (.int tt)] [(.ref r)])) rfl (by rw [hml]; rfl) rfl (hb hby d2_1) (by decide) (W := 0) (by show 2 * 0 + _ ≤ _; exact Nat.le_of_eq rfl) (by decide)
  refine own_step (fun _ kc_ => st1 _ kc_) ?_
  show own_Ends p e below s _ _ _ (T1.setTop (mkF m 4 #[.val (.ref r), .val (.ref ba), .val (.int pp), .val (.int tt)] []))
  refine own_step (fun _ kc_ => XS.aloadN X1.here hx rfl (hb hby d2_4) rfl rfl (XS.aloadN X1.here hx rfl (hb hby d2_5) rfl rfl kc_)) ?_
  show own_Ends p e below s _ _ _ (T1.setTop (mkF m 6 #[.val (.ref r), .val (.ref ba), .val (.int pp), .val (.int tt)] [(.ref ba), (.ref r)]))
  obtain ⟨T2, h2, X2, e2, W2, st2⟩ := putF X1 hx hZ hown (host := "") (Or.inl (hw _ (List.mem_of_getElem? (i := 15) rfl))) Via.refl e1 F0 E0 (Or.inr ⟨(hw _ (List.mem_of_getElem? (i := 16) rfl)), rfl, hnm⟩) (hw _ (List.mem_of_getElem? (i := 7) rfl)) (ty := (.array .byte)) (by decide) rfl rfl (g := (mkF m 6 #[.val (.ref r), .val (.ref ba), .val (.int pp), .val (.int tt)] [(.ref ba), (.ref r)])) rfl rfl (hb hby d2_6)
  have E_r_2 := (E0).wr W2
  have F_r_bytes_2 := (F0).same W2
  have F_r_position_2 := (F1).other W2 (Or.inr (slot_ne (Or.inl (hw _ (List.mem_of_getElem? (i := 18) rfl))) (Or.inr (hw _ (List.mem_of_getElem? (i := 16) rfl))) (by decide) (t := .int) (t' := (.array .byte)) (by decide) (by decide)))
  have F_r_to_2 := (F2).other W2 (Or.inr (slot_ne (Or.inr (hw _ (List.mem_of_getElem? (i := 20) rfl))) (Or.inr (hw _ (List.mem_of_getElem? (i := 16) rfl))) (by decide) (t := .int) (t' := (.array .byte)) (by decide) (by decide)))
  have K2 := ((Keep.refl h0 [r])).wr W2 (Or.inl (List.mem_of_getElem? (i := 0) rfl))
  have Zs2 := Nat.le_trans Z0 (Nat.le_of_eq W2.size.symm)
  have N2 := Fr.snoc X2 N0 g0
  refine own_step (fun _ kc_ => st2 _ kc_) ?_
  show own_Ends p e below s _ _ _ (T2.setTop (mkF m 9 #[.val (.ref r), .val (.ref ba), .val (.int pp), .val (.int tt)] []))
  refine own_step (fun _ kc_ => XS.aloadN X2.here hx rfl (hb hby d2_9) rfl rfl (XS.iloadN X2.here hx rfl (hb hby d2_10) rfl kc_)) ?_
  show own_Ends p e below s _ _ _ (T2.setTop (mkF m 11 #[.val (.ref r), .val (.ref ba), .val (.int pp), .val (.int tt)] [(.int pp), (.ref r)]))
  obtain ⟨T3, h3, X3, e3, W3, st3⟩ := putF X2 hx hZ hown (host := "") (Or.inl (hw _ (List.mem_of_getElem? (i := 17) rfl))) Via.refl e2 F_r_position_2 E_r_2 (Or.inl (hw _ (List.mem_of_getElem? (i := 18) rfl))) (hw _ (List.mem_of_getElem? (i := 7) rfl)) (ty := .int) (by decide) rfl rfl (g := (mkF m 11 #[.val (.ref r), .val (.ref ba), .val (.int pp), .val (.int tt)] [(.int pp), (.ref r)])) rfl rfl (hb hby d2_11)
  have E_r_3 := (E_r_2).wr W3
  have F_r_bytes_3 := (F_r_bytes_2).other W3 (Or.inr (slot_ne (Or.inr (hw _ (List.mem_of_getElem? (i := 16) rfl))) (Or.inl (hw _ (List.mem_of_getElem? (i := 18) rfl))) (by decide) (t := (.array .byte)) (t' := .int) (by decide) (by decide)))
  have F_r_position_3 := (F_r_position_2).same W3
  have F_r_to_3 := (F_r_to_2).other W3 (Or.inr (slot_ne (Or.inr (hw _ (List.mem_of_getElem? (i := 20) rfl))) (Or.inl (hw _ (List.mem_of_getElem? (i := 18) rfl))) (by decide) (t := .int) (t' := .int) (by decide) (by decide)))
  have K3 := (K2).wr W3 (Or.inl (List.mem_of_getElem? (i := 0) rfl))
  have Zs3 := Nat.le_trans Zs2 (Nat.le_of_eq W3.size.symm)
  have N3 := Fr.snoc X3 N2 g0
  refine own_step (fun _ kc_ => st3 _ kc_) ?_
  show own_Ends p e below s _ _ _ (T3.setTop (mkF m 14 #[.val (.ref r), .val (.ref ba), .val (.int pp), .val (.int tt)] []))
  refine own_step (fun _ kc_ => XS.aloadN X3.here hx rfl (hb hby d2_14) rfl rfl (XS.iloadN X3.here hx rfl (hb hby d2_15) rfl kc_)) ?_
  show own_Ends p e below s _ _ _ (T3.setTop (mkF m 16 #[.val (.ref r), .val (.ref ba), .val (.int pp), .val (.int tt)] [(.int tt), (.ref r)]))
  obtain ⟨T4, h4, X4, e4, W4, st4⟩ := putF X3 hx hZ hown (host := "") (Or.inl (hw _ (List.mem_of_getElem? (i := 19) rfl))) Via.refl e3 F_r_to_3 E_r_3 (Or.inr ⟨(hw _ (List.mem_of_getElem? (i := 20) rfl)), rfl, hnm⟩) (hw _ (List.mem_of_getElem? (i := 7) rfl)) (ty := .int) (by decide) rfl rfl (g := (mkF m 16 #[.val (.ref r), .val (.ref ba), .val (.int pp), .val (.int tt)] [(.int tt), (.ref r)])) rfl rfl (hb hby d2_16)
  have E_r_4 := (E_r_3).wr W4
  have F_r_bytes_4 := (F_r_bytes_3).other W4 (Or.inr (slot_ne (Or.inr (hw _ (List.mem_of_getElem? (i := 16) rfl))) (Or.inr (hw _ (List.mem_of_getElem? (i := 20) rfl))) (by decide) (t := (.array .byte)) (t' := .int) (by decide) (by decide)))
  have F_r_position_4 := (F_r_position_3).other W4 (Or.inr (slot_ne (Or.inl (hw _ (List.mem_of_getElem? (i := 18) rfl))) (Or.inr (hw _ (List.mem_of_getElem? (i := 20) rfl))) (by decide) (t := .int) (t' := .int) (by decide) (by decide)))
  have F_r_to_4 := (F_r_to_3).same W4
  have K4 := (K3).wr W4 (Or.inl (List.mem_of_getElem? (i := 0) rfl))
  have Zs4 := Nat.le_trans Zs3 (Nat.le_of_eq W4.size.symm)
  have N4 := Fr.snoc X4 N3 g0
  refine own_step (fun _ kc_ => st4 _ kc_) ?_
  show own_Ends p e below s _ _ _ (T4.setTop (mkF m 19 #[.val (.ref r), .val (.ref ba), .val (.int pp), .val (.int tt)] []))
  exact own_retV X4 hx hret hlk (hb hby d2_19) (by decide) (by decide) (by rw [e4]; exact ⟨rfl, N4, K4, F_r_bytes_4, F_r_position_4, F_r_to_4⟩)
theorem ef_rm5 (m : MethodId) (r : Addr) : entryFrame m #[(.ref r)] 1 = mkF m 0 #[.val (.ref r)] [] := by first | (simp [entryFrame, mkF, argsToLocals, Value.category]; done) | rfl
def Q5 (Z : State) (r : Addr) (pp tt : Int32) (h0 : Heap) (n0 : Nat) (v : Option Value) (h : Heap) (L : List Loc) : Prop := v = some (.int (own_has pp tt)) ∧ Fr n0 L ∧ h = h0
set_option maxRecDepth 65536 in
set_option maxHeartbeats 40000000 in
theorem rm5 (l : Launch) (Z : State) (a0 : Array Value) (hw : ∀ d ∈ tables_1, d.before a0 Z = true) (ws : List Jvm.Cond) (r : Addr) (pp tt : Int32) (h0 : Heap) (n0 : Nat) (Z0 : n0 ≤ h0.size) (F1 : Fld Z h0 r "com/example/wakachi/wakachi/VarInts$Reader" "position" "I" (.int pp)) (F2 : Fld Z h0 r "com/example/wakachi/wakachi/VarInts$Reader" "to" "I" (.int tt)) :
    MetFree l (⟨"com/example/wakachi/wakachi/VarInts$Reader", "hasNext", "()Z"⟩ : MethodName) (head1 (Jvm.Cond.code (⟨"com/example/wakachi/wakachi/VarInts$Reader", "hasNext", "()Z"⟩ : MethodName) prog_238_method_2_code 1 (some .boolean) :: ws) ({ frames := 0, cells := 0, slots := 0, locals := 0 } : Room)) (fun a U => a = #[(.ref r)] ∧ Z.Warmed39 U.vm ∧ U.heap = h0) (fun _ _ _ _ _ => True) (fun _ U o U' => ∃ v L, o = .returned v ∧ Q5 Z r pp tt h0 n0 v U'.heap L ∧ FrameEnd U o U' L ({ frames := 0, cells := 0, slots := 0, locals := 0 } : Room).cells ({ frames := 0, cells := 0, slots := 0, locals := 0 } : Room).slots) := by
  refine MetFree.of_bodySF (plainFor_of_name pn_1) hisR ?_
  intro p e s m args below meth c s₁ Bd hml0 hP hK
  obtain ⟨rfl, hZ, hh⟩ := hP
  have hx := Bd.exec
  have hby := Bd.bytes
  have hlk : meth.locks = false := BodyLoose.notSynchronized Bd
  have hret := Bd.returns
  have hml : c.maxLocals = 1 := hml0
  have hown : s.vm.findClass "com/example/wakachi/wakachi/VarInts$Reader" = some m.cls := findClass_of_methodNamed Bd.named
  have hnm := (name_of_methodNamed Bd.named Bd.method).1
  have X0 : Stand p l e ({ frames := 0, cells := 0, slots := 0, locals := 0 } : Room) s m #[(.ref r)] below meth c s₁ [] 0 0 := Stand.of_body Bd
  have e0 : s₁.heap = h0 := by rw [← hh, Bd.state]; rfl
  have N0 := Fr.nil n0
  show own_Ends p e below s 0 0 (Q5 Z r pp tt h0 n0) (s₁.setTop (entryFrame m #[(.ref r)] 1))
  refine own_step (fun t k => castTop (ef_rm5 m r) k) ?_
  show own_Ends p e below s _ _ _ (s₁.setTop (mkF m 0 #[.val (.ref r)] []))
  refine own_step (fun _ kc_ => XS.aloadN X0.here hx rfl (hb hby d5_0) rfl rfl kc_) ?_
  show own_Ends p e below s _ _ _ (s₁.setTop (mkF m 1 #[.val (.ref r)] [(.ref r)]))
  obtain ⟨T5, X5, e5, st5⟩ := getF X0 hx hZ hown (host := "") (Or.inl (hw _ (List.mem_of_getElem? (i := 17) rfl))) Via.refl e0 F1 (g := (mkF m 1 #[.val (.ref r)] [(.ref r)])) rfl rfl (hb hby d5_1)
  refine own_step (fun _ kc_ => st5 _ kc_) ?_
  show own_Ends p e below s _ _ _ (T5.setTop (mkF m 4 #[.val (.ref r)] [(.int pp)]))
  refine own_step (fun _ kc_ => XS.aloadN X5.here hx rfl (hb hby d5_4) rfl rfl kc_) ?_
  show own_Ends p e below s _ _ _ (T5.setTop (mkF m 5 #[.val (.ref r)] [(.ref r), (.int pp)]))
  obtain ⟨T6, X6, e6, st6⟩ := getF X5 hx hZ hown (host := "") (Or.inl (hw _ (List.mem_of_getElem? (i := 19) rfl))) Via.refl e5 F2 (g := (mkF m 5 #[.val (.ref r)] [(.ref r), (.int pp)])) rfl rfl (hb hby d5_5)
  refine own_step (fun _ kc_ => st6 _ kc_) ?_
  show own_Ends p e below s _ _ _ (T6.setTop (mkF m 8 #[.val (.ref r)] [(.int tt), (.int pp)]))
  by_cases hc8 : pp < tt
  · refine own_step (fun _ kc_ => XS.icmpNo X6.here hx rfl (hb hby d5_8) rfl (XT.ii_ge_f hc8) (XS.iconst X6.here hx rfl (hb hby d5_11) (XS.goto X6.here hx rfl (pc0 := 12) (pc' := 16) rfl (hb hby d5_12) (by decide) (by decide) kc_))) ?_
    show own_Ends p e below s _ _ _ (T6.setTop (mkF m 16 #[.val (.ref r)] [(.int (1 : Int32))]))
    exact own_retN X6 hx (t := .boolean) (z' := own_has pp tt) hret (by simp) hlk (hb hby d5_16) (by decide) (by decide) (by rw [show own_has pp tt = (1 : Int32) from by simp [own_has, hc8]]; rfl) ⟨rfl, N0, e6⟩
  · refine own_step (fun _ kc_ => XS.icmpYes X6.here hx rfl (pc0 := 8) (pc' := 15) rfl (hb hby d5_8) rfl (XT.ii_ge_t hc8) (by decide) (by decide) (XS.iconst X6.here hx rfl (hb hby d5_15) kc_)) ?_
    show own_Ends p e below s _ _ _ (T6.setTop (mkF m 16 #[.val (.ref r)] [(.int (0 : Int32))]))
    exact own_retN X6 hx (t := .boolean) (z' := own_has pp tt) hret (by simp) hlk (hb hby d5_16) (by decide) (by decide) (by rw [show own_has pp tt = (0 : Int32) from by simp [own_has, hc8]]; rfl) ⟨rfl, N0, e6⟩
set_option maxRecDepth 65536 in
set_option maxHeartbeats 40000000 in
theorem own_loop {p : Program} {l : Launch} {e : Env} {s : State} {m : MethodId} {below : List Frame} {meth : Method} {c : Code} {Z : State} {a0 : Array Value} (hw : ∀ d ∈ tables_1, d.before a0 Z = true) (hZ : Z.Warmed39 s.vm) (hx : p.tables.exec = Jvm.exec) (hby : c.code = prog_238_method_3_code) (hlk : meth.locks = false) (hret : meth.sig.returnType = some .int) (hml : c.maxLocals = 4) (hown : s.vm.findClass "com/example/wakachi/wakachi/VarInts$Reader" = some m.cls)
    {args : Array Value} {R : Room} {C S : Nat} {Q : Option Value → Heap → List Loc → Prop} {h0 : Heap} {n0 : Nat} {r ba : Addr} {vs : List Value} (hv : own_ints vs) (hl : vs.length < 2 ^ 31) (g0 : n0 ≤ r) (ne0 : r ≠ ba) (tt : Nat) (htt : tt ≤ vs.length) :
    ∀ (kk pp : Nat) (acc sh : Int32) (x3 : Slot) (h3 : x3 = .unset ∨ ∃ z : Int32, x3 = .val (.int z)) (hpt : pp + kk = tt) {T : State} {locs : List Loc} {cells slots : Nat} {h : Heap} (hcc : cells ≤ C) (hss : slots ≤ S) (X : Stand p l e R s m args below meth c T locs cells slots) (e0 : T.heap = h) (N0 : Fr n0 locs) (K0 : Keep h0 h [r]) (Z0 : n0 ≤ h.size)
      (E0 : Exa Z h r "com/example/wakachi/wakachi/VarInts$Reader") (F0 : Fld Z h r "com/example/wakachi/wakachi/VarInts$Reader" "bytes" "[B" (.ref ba)) (F1 : Fld Z h r "com/example/wakachi/wakachi/VarInts$Reader" "position" "I" (.int (Int32.ofNat pp))) (F2 : Fld Z h r "com/example/wakachi/wakachi/VarInts$Reader" "to" "I" (.int (Int32.ofNat tt))) (A0 : own_Ar Z h ba .byte vs)
      (hq : ∀ (h' : Heap) (L : List Loc), Fr n0 L → Keep h0 h' [r] → Fld Z h' r "com/example/wakachi/wakachi/VarInts$Reader" "bytes" "[B" (.ref ba) → Fld Z h' r "com/example/wakachi/wakachi/VarInts$Reader" "to" "I" (.int (Int32.ofNat tt)) → Fld Z h' r "com/example/wakachi/wakachi/VarInts$Reader" "position" "I" (.int (Int32.ofNat (own_nx vs pp acc sh kk).2)) → Q (some (.int (own_nx vs pp acc sh kk).1)) h' L),
      own_Ends p e below s C S Q (T.setTop (mkF m 4 #[.val (.ref r), .val (.int acc), .val (.int sh), x3] [])) := by
  intro kk
  induction kk with
  | zero =>
    intro pp acc sh x3 h3 hpt T locs cells slots h hcc hss X e0 N0 K0 Z0 E0 F0 F1 F2 A0 hq
    rcases h3 with rfl | ⟨z3, rfl⟩
    · show own_Ends p e below s _ _ _ (T.setTop (mkF m 4 #[.val (.ref r), .val (.int acc), .val (.int sh), .unset] []))
      refine own_step (fun _ kc_ => XS.aloadN X.here hx rfl (hb hby d4_4) rfl rfl kc_) ?_
      show own_Ends p e below s _ _ _ (T.setTop (mkF m 5 #[.val (.ref r), .val (.int acc), .val (.int sh), .unset] [(.ref r)]))
      obtain ⟨T7, X7, e7, st7⟩ := getF X hx hZ hown (host := "") (Or.inl (hw _ (List.mem_of_getElem? (i := 17) rfl))) Via.refl e0 F1 (g := (mkF m 5 #[.val (.ref r), .val (.int acc), .val (.int sh), .unset] [(.ref r)])) rfl rfl (hb hby d4_5)
      refine own_step (fun _ kc_ => st7 _ kc_) ?_
      show own_Ends p e below s _ _ _ (T7.setTop (mkF m 8 #[.val (.ref r), .val (.int acc), .val (.int sh), .unset] [(.int (Int32.ofNat pp))]))
      refine own_step (fun _ kc_ => XS.aloadN X7.here hx rfl (hb hby d4_8) rfl rfl kc_) ?_
      show own_Ends p e below s _ _ _ (T7.setTop (mkF m 9 #[.val (.ref r), .val (.int acc), .val (.int sh), .unset] [(.ref r), (.int (Int32.ofNat pp))]))
      obtain ⟨T8, X8, e8, st8⟩ := getF X7 hx hZ hown (host := "") (Or.inl (hw _ (List.mem_of_getElem? (i := 19) rfl))) Via.refl e7 F2 (g := (mkF m 9 #[.val (.ref r), .val (.int acc), .val (.int sh), .unset] [(.ref r), (.int (Int32.ofNat pp))])) rfl rfl (hb hby d4_9)
      refine own_step (fun _ kc_ => st8 _ kc_) ?_
      show own_Ends p e below s _ _ _ (T8.setTop (mkF m 12 #[.val (.ref r), .val (.int acc), .val (.int sh), .unset] [(.int (Int32.ofNat tt)), (.int (Int32.ofNat pp))]))
      refine own_step (fun _ kc_ => XS.icmpYes X8.here hx rfl (pc0 := 12) (pc' := 53) rfl (hb hby d4_12) rfl (XT.ii_ge_t (by rw [show tt = pp from by omega]; exact Int32.lt_irrefl : ¬ ((Int32.ofNat pp) < (Int32.ofNat tt)))) (by decide) (by decide) (XS.iconst X8.here hx rfl (hb hby d4_53) kc_)) ?_
      show own_Ends p e below s _ _ _ (T8.setTop (mkF m 54 #[.val (.ref r), .val (.int acc), .val (.int sh), .unset] [(.int (-1 : Int32))]))
      exact own_retI X8 hx hret hlk (hb hby d4_54) hcc hss (by rw [e8]; exact hq _ _ N0 K0 F0 F2 F1)
    · show own_Ends p e below s _ _ _ (T.setTop (mkF m 4 #[.val (.ref r), .val (.int acc), .val (.int sh), .val (.int z3)] []))
      refine own_step (fun _ kc_ => XS.aloadN X.here hx rfl (hb hby d4_4) rfl rfl kc_) ?_
      show own_Ends p e below s _ _ _ (T.setTop (mkF m 5 #[.val (.ref r), .val (.int acc), .val (.int sh), .val (.int z3)] [(.ref r)]))
      obtain ⟨T9, X9, e9, st9⟩ := getF X hx hZ hown (host := "") (Or.inl (hw _ (List.mem_of_getElem? (i := 17) rfl))) Via.refl e0 F1 (g := (mkF m 5 #[.val (.ref r), .val (.int acc), .val (.int sh), .val (.int z3)] [(.ref r)])) rfl rfl (hb hby d4_5)
      refine own_step (fun _ kc_ => st9 _ kc_) ?_
      show own_Ends p e below s _ _ _ (T9.setTop (mkF m 8 #[.val (.ref r), .val (.int acc), .val (.int sh), .val (.int z3)] [(.int (Int32.ofNat pp))]))
      refine own_step (fun _ kc_ => XS.aloadN X9.here hx rfl (hb hby d4_8) rfl rfl kc_) ?_
      show own_Ends p e below s _ _ _ (T9.setTop (mkF m 9 #[.val (.ref r), .val (.int acc), .val (.int sh), .val (.int z3)] [(.ref r), (.int (Int32.ofNat pp))]))
      obtain ⟨T10, X10, e10, st10⟩ := getF X9 hx hZ hown (host := "") (Or.inl (hw _ (List.mem_of_getElem? (i := 19) rfl))) Via.refl e9 F2 (g := (mkF m 9 #[.val (.ref r), .val (.int acc), .val (.int sh), .val (.int z3)] [(.ref r), (.int (Int32.ofNat pp))])) rfl rfl (hb hby d4_9)
      refine own_step (fun _ kc_ => st10 _ kc_) ?_
      show own_Ends p e below s _ _ _ (T10.setTop (mkF m 12 #[.val (.ref r), .val (.int acc), .val (.int sh), .val (.int z3)] [(.int (Int32.ofNat tt)), (.int (Int32.ofNat pp))]))
      refine own_step (fun _ kc_ => XS.icmpYes X10.here hx rfl (pc0 := 12) (pc' := 53) rfl (hb hby d4_12) rfl (XT.ii_ge_t (by rw [show tt = pp from by omega]; exact Int32.lt_irrefl : ¬ ((Int32.ofNat pp) < (Int32.ofNat tt)))) (by decide) (by decide) (XS.iconst X10.here hx rfl (hb hby d4_53) kc_)) ?_
      show own_Ends p e below s _ _ _ (T10.setTop (mkF m 54 #[.val (.ref r), .val (.int acc), .val (.int sh), .val (.int z3)] [(.int (-1 : Int32))]))
      exact own_retI X10 hx hret hlk (hb hby d4_54) hcc hss (by rw [e10]; exact hq _ _ N0 K0 F0 F2 F1)
  | succ kk ih =>
    intro pp acc sh x3 h3 hpt T locs cells slots h hcc hss X e0 N0 K0 Z0 E0 F0 F1 F2 A0 hq
    rcases h3 with rfl | ⟨z3, rfl⟩
    · have hpl : pp < vs.length := by omega
      show own_Ends p e below s _ _ _ (T.setTop (mkF m 4 #[.val (.ref r), .val (.int acc), .val (.int sh), .unset] []))
      refine own_step (fun _ kc_ => XS.aloadN X.here hx rfl (hb hby d4_4) rfl rfl kc_) ?_
      show own_Ends p e below s _ _ _ (T.setTop (mkF m 5 #[.val (.ref r), .val (.int acc), .val (.int sh), .unset] [(.ref r)]))
      obtain ⟨T11, X11, e11, st11⟩ := getF X hx hZ hown (host := "") (Or.inl (hw _ (List.mem_of_getElem? (i := 17) rfl))) Via.refl e0 F1 (g := (mkF m 5 #[.val (.ref r), .val (.int acc), .val (.int sh), .unset] [(.ref r)])) rfl rfl (hb hby d4_5)
      refine own_step (fun _ kc_ => st11 _ kc_) ?_
      show own_Ends p e below s _ _ _ (T11.setTop (mkF m 8 #[.val (.ref r), .val (.int acc), .val (.int sh), .unset] [(.int (Int32.ofNat pp))]))
      refine own_step (fun _ kc_ => XS.aloadN X11.here hx rfl (hb hby d4_8) rfl rfl kc_) ?_
      show own_Ends p e below s _ _ _ (T11.setTop (mkF m 9 #[.val (.ref r), .val (.int acc), .val (.int sh), .unset] [(.ref r), (.int (Int32.ofNat pp))]))
      obtain ⟨T12, X12, e12, st12⟩ := getF X11 hx hZ hown (host := "") (Or.inl (hw _ (List.mem_of_getElem? (i := 19) rfl))) Via.refl e11 F2 (g := (mkF m 9 #[.val (.ref r), .val (.int acc), .val (.int sh), .unset] [(.ref r), (.int (Int32.ofNat pp))])) rfl rfl (hb hby d4_9)
      refine own_step (fun _ kc_ => st12 _ kc_) ?_
      show own_Ends p e below s _ _ _ (T12.setTop (mkF m 12 #[.val (.ref r), .val (.int acc), .val (.int sh), .unset] [(.int (Int32.ofNat tt)), (.int (Int32.ofNat pp))]))
      refine own_step (fun _ kc_ => XS.icmpNo X12.here hx rfl (hb hby d4_12) rfl (XT.ii_ge_f (own_ofNat_lt (by omega) (by omega) : (Int32.ofNat pp) < (Int32.ofNat tt))) (XS.aloadN X12.here hx rfl (hb hby d4_15) rfl rfl kc_)) ?_
      show own_Ends p e below s _ _ _ (T12.setTop (mkF m 16 #[.val (.ref r), .val (.int acc), .val (.int sh), .unset] [(.ref r)]))
      obtain ⟨T13, X13, e13, st13⟩ := getF X12 hx hZ hown (host := "") (Or.inl (hw _ (List.mem_of_getElem? (i := 15) rfl))) Via.refl e12 F0 (g := (mkF m 16 #[.val (.ref r), .val (.int acc), .val (.int sh), .unset] [(.ref r)])) rfl rfl (hb hby d4_16)
      refine own_step (fun _ kc_ => st13 _ kc_) ?_
      show own_Ends p e below s _ _ _ (T13.setTop (mkF m 19 #[.val (.ref r), .val (.int acc), .val (.int sh), .unset] [(.ref ba)]))
      refine own_step (fun _ kc_ => XS.aloadN X13.here hx rfl (hb hby d4_19) rfl rfl (XS.dup X13.here hx rfl (hb hby d4_20) rfl rfl kc_)) ?_
      show own_Ends p e below s _ _ _ (T13.setTop (mkF m 21 #[.val (.ref r), .val (.int acc), .val (.int sh), .unset] [(.ref r), (.ref r), (.ref ba)]))
      obtain ⟨T14, X14, e14, st14⟩ := getF X13 hx hZ hown (host := "") (Or.inl (hw _ (List.mem_of_getElem? (i := 17) rfl))) Via.refl e13 F1 (g := (mkF m 21 #[.val (.ref r), .val (.int acc), .val (.int sh), .unset] [(.ref r), (.ref r), (.ref ba)])) rfl rfl (hb hby d4_21)
      refine own_step (fun _ kc_ => st14 _ kc_) ?_
      show own_Ends p e below s _ _ _ (T14.setTop (mkF m 24 #[.val (.ref r), .val (.int acc), .val (.int sh), .unset] [(.int (Int32.ofNat pp)), (.ref r), (.ref ba)]))
      refine own_step (fun _ kc_ => XS.dupX1 X14.here hx rfl (hb hby d4_24) rfl rfl rfl (XS.iconst X14.here hx rfl (hb hby d4_25) (XS.iadd X14.here hx rfl (hb hby d4_26) rfl kc_))) ?_
      show own_Ends p e below s _ _ _ (T14.setTop (mkF m 27 #[.val (.ref r), .val (.int acc), .val (.int sh), .unset] [(.int ((Int32.ofNat pp) + (1 : Int32))), (.ref r), (.int (Int32.ofNat pp)), (.ref ba)]))
      obtain ⟨T15, h15, X15, e15, W15, st15⟩ := putF X14 hx hZ hown (host := "") (Or.inl (hw _ (List.mem_of_getElem? (i := 17) rfl))) Via.refl e14 F1 E0 (Or.inl (hw _ (List.mem_of_getElem? (i := 18) rfl))) (hw _ (List.mem_of_getElem? (i := 7) rfl)) (ty := .int) (by decide) rfl rfl (g := (mkF m 27 #[.val (.ref r), .val (.int acc), .val (.int sh), .unset] [(.int ((Int32.ofNat pp) + (1 : Int32))), (.ref r), (.int (Int32.ofNat pp)), (.ref ba)])) rfl rfl (hb hby d4_27)
      have E_r_15 := (E0).wr W15
      have F_r_bytes_15 := (F0).other W15 (Or.inr (slot_ne (Or.inr (hw _ (List.mem_of_getElem? (i := 16) rfl))) (Or.inl (hw _ (List.mem_of_getElem? (i := 18) rfl))) (by decide) (t := (.array .byte)) (t' := .int) (by decide) (by decide)))
      have F_r_position_15 := (F1).same W15
      have F_r_to_15 := (F2).other W15 (Or.inr (slot_ne (Or.inr (hw _ (List.mem_of_getElem? (i := 20) rfl))) (Or.inl (hw _ (List.mem_of_getElem? (i := 18) rfl))) (by decide) (t := .int) (t' := .int) (by decide) (by decide)))
      have A_ba_15 := (A0).other W15 (Ne.symm ne0)
      have K15 := (K0).wr W15 (Or.inl (List.mem_of_getElem? (i := 0) rfl))
      have Zs15 := Nat.le_trans Z0 (Nat.le_of_eq W15.size.symm)
      have N15 := Fr.snoc X15 N0 g0
      refine own_step (fun _ kc_ => st15 _ kc_) ?_
      show own_Ends p e below s _ _ _ (T15.setTop (mkF m 30 #[.val (.ref r), .val (.int acc), .val (.int sh), .unset] [(.int (Int32.ofNat pp)), (.ref ba)]))
      refine own_step (fun _ kc_ => own_baload X15 hx hZ e15 A_ba_15 (j := (Int32.ofNat pp)) (own_nn (by omega)) (i := pp) (own_nc (by omega)) (v := (.int (own_iv vs pp))) (own_ivat hv hpl) (hb hby d4_30) _ kc_) ?_
      show own_Ends p e below s _ _ _ (T15.setTop (mkF m 31 #[.val (.ref r), .val (.int acc), .val (.int sh), .unset] [(.int (own_iv vs pp))]))
      have Fp : Fld Z h15 r "com/example/wakachi/wakachi/VarInts$Reader" "position" "I" (.int (Int32.ofNat (pp + 1))) := by rw [Int32.ofNat_add]; exact F_r_position_15
      refine own_step (fun _ kc_ => XS.istoreN X15.here hx rfl (hb hby d4_31) rfl (l' := #[.val (.ref r), .val (.int acc), .val (.int sh), .val (.int (own_iv vs pp))]) rfl (XS.iloadN X15.here hx rfl (hb hby d4_32) rfl (XS.iloadN X15.here hx rfl (hb hby d4_33) rfl (XS.bipush X15.here hx rfl (hb hby d4_34) (XS.iand X15.here hx rfl (hb hby d4_36) rfl (XS.iloadN X15.here hx rfl (hb hby d4_37) rfl (XS.ishl X15.here hx rfl (hb hby d4_38) rfl (XS.ior X15.here hx rfl (hb hby d4_39) rfl kc_)))))))) ?_
      show own_Ends p e below s _ _ _ (T15.setTop (mkF m 40 #[.val (.ref r), .val (.int acc), .val (.int sh), .val (.int (own_iv vs pp))] [(.int (acc ||| (((own_iv vs pp) &&& (127 : Int32)) <<< (sh &&& 31))))]))
      refine own_step (fun _ kc_ => XS.istoreN X15.here hx rfl (hb hby d4_40) rfl (l' := #[.val (.ref r), .val (.int (acc ||| (((own_iv vs pp) &&& (127 : Int32)) <<< (sh &&& 31)))), .val (.int sh), .val (.int (own_iv vs pp))]) rfl (XS.iloadN X15.here hx rfl (hb hby d4_41) rfl kc_)) ?_
      show own_Ends p e below s _ _ _ (T15.setTop (mkF m 42 #[.val (.ref r), .val (.int (acc ||| (((own_iv vs pp) &&& (127 : Int32)) <<< (sh &&& 31)))), .val (.int sh), .val (.int (own_iv vs pp))] [(.int (own_iv vs pp))]))
      by_cases hc42 : (own_iv vs pp) < 0
      · refine own_step (fun _ kc_ => XS.ifYes X15.here hx rfl (pc0 := 42) (pc' := 47) rfl (hb hby d4_42) rfl (XT.i0_lt_t hc42) (by decide) (by decide) (XS.iinc X15.here hx rfl (hb hby d4_47) rfl (l' := #[.val (.ref r), .val (.int (acc ||| (((own_iv vs pp) &&& (127 : Int32)) <<< (sh &&& 31)))), .val (.int (sh + (7 : Int32))), .val (.int (own_iv vs pp))]) rfl (XS.goto X15.here hx rfl (pc0 := 50) (pc' := 4) rfl (hb hby d4_50) (by decide) (by decide) kc_))) ?_
        show own_Ends p e below s _ _ _ (T15.setTop (mkF m 4 #[.val (.ref r), .val (.int (acc ||| (((own_iv vs pp) &&& (127 : Int32)) <<< (sh &&& 31)))), .val (.int (sh + (7 : Int32))), .val (.int (own_iv vs pp))] []))
        refine ih (pp + 1) _ _ _ (Or.inr ⟨_, rfl⟩) (by omega) hcc hss X15 e15 N15 K15 Zs15 E_r_15 F_r_bytes_15 Fp F_r_to_15 A_ba_15 ?_
        intro h' L a b f1 f2 q
        have q' := hq h' L a b f1 f2
        rw [own_nxT hc42] at q'
        exact q' q
      · refine own_step (fun _ kc_ => XS.ifNo X15.here hx rfl (hb hby d4_42) rfl (XT.i0_lt_f hc42) (XS.iloadN X15.here hx rfl (hb hby d4_45) rfl kc_)) ?_
        show own_Ends p e below s _ _ _ (T15.setTop (mkF m 46 #[.val (.ref r), .val (.int (acc ||| (((own_iv vs pp) &&& (127 : Int32)) <<< (sh &&& 31)))), .val (.int sh), .val (.int (own_iv vs pp))] [(.int (acc ||| (((own_iv vs pp) &&& (127 : Int32)) <<< (sh &&& 31))))]))
        exact own_retI X15 hx hret hlk (hb hby d4_46) hcc hss (by
          have q := hq h15 _ N15 K15 F_r_bytes_15 F_r_to_15
          rw [own_nxF hc42] at q
          rw [e15]; exact q Fp)
    · have hpl : pp < vs.length := by omega
      show own_Ends p e below s _ _ _ (T.setTop (mkF m 4 #[.val (.ref r), .val (.int acc), .val (.int sh), .val (.int z3)] []))
      refine own_step (fun _ kc_ => XS.aloadN X.here hx rfl (hb hby d4_4) rfl rfl kc_) ?_
      show own_Ends p e below s _ _ _ (T.setTop (mkF m 5 #[.val (.ref r), .val (.int acc), .val (.int sh), .val (.int z3)] [(.ref r)]))
      obtain ⟨T16, X16, e16, st16⟩ := getF X hx hZ hown (host := "") (Or.inl (hw _ (List.mem_of_getElem? (i := 17) rfl))) Via.refl e0 F1 (g := (mkF m 5 #[.val (.ref r), .val (.int acc), .val (.int sh), .val (.int z3)] [(.ref r)])) rfl rfl (hb hby d4_5)
      refine own_step (fun _ kc_ => st16 _ kc_) ?_
      show own_Ends p e below s _ _ _ (T16.setTop (mkF m 8 #[.val (.ref r), .val (.int acc), .val (.int sh), .val (.int z3)] [(.int (Int32.ofNat pp))]))
      refine own_step (fun _ kc_ => XS.aloadN X16.here hx rfl (hb hby d4_8) rfl rfl kc_) ?_
      show own_Ends p e below s _ _ _ (T16.setTop (mkF m 9 #[.val (.ref r), .val (.int acc), .val (.int sh), .val (.int z3)] [(.ref r), (.int (Int32.ofNat pp))]))
      obtain ⟨T17, X17, e17, st17⟩ := getF X16 hx hZ hown (host := "") (Or.inl (hw _ (List.mem_of_getElem? (i := 19) rfl))) Via.refl e16 F2 (g := (mkF m 9 #[.val (.ref r), .val (.int acc), .val (.int sh), .val (.int z3)] [(.ref r), (.int (Int32.ofNat pp))])) rfl rfl (hb hby d4_9)
      refine own_step (fun _ kc_ => st17 _ kc_) ?_
      show own_Ends p e below s _ _ _ (T17.setTop (mkF m 12 #[.val (.ref r), .val (.int acc), .val (.int sh), .val (.int z3)] [(.int (Int32.ofNat tt)), (.int (Int32.ofNat pp))]))
      refine own_step (fun _ kc_ => XS.icmpNo X17.here hx rfl (hb hby d4_12) rfl (XT.ii_ge_f (own_ofNat_lt (by omega) (by omega) : (Int32.ofNat pp) < (Int32.ofNat tt))) (XS.aloadN X17.here hx rfl (hb hby d4_15) rfl rfl kc_)) ?_
      show own_Ends p e below s _ _ _ (T17.setTop (mkF m 16 #[.val (.ref r), .val (.int acc), .val (.int sh), .val (.int z3)] [(.ref r)]))
      obtain ⟨T18, X18, e18, st18⟩ := getF X17 hx hZ hown (host := "") (Or.inl (hw _ (List.mem_of_getElem? (i := 15) rfl))) Via.refl e17 F0 (g := (mkF m 16 #[.val (.ref r), .val (.int acc), .val (.int sh), .val (.int z3)] [(.ref r)])) rfl rfl (hb hby d4_16)
      refine own_step (fun _ kc_ => st18 _ kc_) ?_
      show own_Ends p e below s _ _ _ (T18.setTop (mkF m 19 #[.val (.ref r), .val (.int acc), .val (.int sh), .val (.int z3)] [(.ref ba)]))
      refine own_step (fun _ kc_ => XS.aloadN X18.here hx rfl (hb hby d4_19) rfl rfl (XS.dup X18.here hx rfl (hb hby d4_20) rfl rfl kc_)) ?_
      show own_Ends p e below s _ _ _ (T18.setTop (mkF m 21 #[.val (.ref r), .val (.int acc), .val (.int sh), .val (.int z3)] [(.ref r), (.ref r), (.ref ba)]))
      obtain ⟨T19, X19, e19, st19⟩ := getF X18 hx hZ hown (host := "") (Or.inl (hw _ (List.mem_of_getElem? (i := 17) rfl))) Via.refl e18 F1 (g := (mkF m 21 #[.val (.ref r), .val (.int acc), .val (.int sh), .val (.int z3)] [(.ref r), (.ref r), (.ref ba)])) rfl rfl (hb hby d4_21)
      refine own_step (fun _ kc_ => st19 _ kc_) ?_
      show own_Ends p e below s _ _ _ (T19.setTop (mkF m 24 #[.val (.ref r), .val (.int acc), .val (.int sh), .val (.int z3)] [(.int (Int32.ofNat pp)), (.ref r), (.ref ba)]))
      refine own_step (fun _ kc_ => XS.dupX1 X19.here hx rfl (hb hby d4_24) rfl rfl rfl (XS.iconst X19.here hx rfl (hb hby d4_25) (XS.iadd X19.here hx rfl (hb hby d4_26) rfl kc_))) ?_
      show own_Ends p e below s _ _ _ (T19.setTop (mkF m 27 #[.val (.ref r), .val (.int acc), .val (.int sh), .val (.int z3)] [(.int ((Int32.ofNat pp) + (1 : Int32))), (.ref r), (.int (Int32.ofNat pp)), (.ref ba)]))
      obtain ⟨T20, h20, X20, e20, W20, st20⟩ := putF X19 hx hZ hown (host := "") (Or.inl (hw _ (List.mem_of_getElem? (i := 17) rfl))) Via.refl e19 F1 E0 (Or.inl (hw _ (List.mem_of_getElem? (i := 18) rfl))) (hw _ (List.mem_of_getElem? (i := 7) rfl)) (ty := .int) (by decide) rfl rfl (g := (mkF m 27 #[.val (.ref r), .val (.int acc), .val (.int sh), .val (.int z3)] [(.int ((Int32.ofNat pp) + (1 : Int32))), (.ref r), (.int (Int32.ofNat pp)), (.ref ba)])) rfl rfl (hb hby d4_27)
      have E_r_20 := (E0).wr W20
      have F_r_bytes_20 := (F0).other W20 (Or.inr (slot_ne (Or.inr (hw _ (List.mem_of_getElem? (i := 16) rfl))) (Or.inl (hw _ (List.mem_of_getElem? (i := 18) rfl))) (by decide) (t := (.array .byte)) (t' := .int) (by decide) (by decide)))
      have F_r_position_20 := (F1).same W20
      have F_r_to_20 := (F2).other W20 (Or.inr (slot_ne (Or.inr (hw _ (List.mem_of_getElem? (i := 20) rfl))) (Or.inl (hw _ (List.mem_of_getElem? (i := 18) rfl))) (by decide) (t := .int) (t' := .int) (by decide) (by decide)))
      have A_ba_20 := (A0).other W20 (Ne.symm ne0)
      have K20 := (K0).wr W20 (Or.inl (List.mem_of_getElem? (i := 0) rfl))
      have Zs20 := Nat.le_trans Z0 (Nat.le_of_eq W20.size.symm)
      have N20 := Fr.snoc X20 N0 g0
      refine own_step (fun _ kc_ => st20 _ kc_) ?_
      show own_Ends p e below s _ _ _ (T20.setTop (mkF m 30 #[.val (.ref r), .val (.int acc), .val (.int sh), .val (.int z3)] [(.int (Int32.ofNat pp)), (.ref ba)]))
      refine own_step (fun _ kc_ => own_baload X20 hx hZ e20 A_ba_20 (j := (Int32.ofNat pp)) (own_nn (by omega)) (i := pp) (own_nc (by omega)) (v := (.int (own_iv vs pp))) (own_ivat hv hpl) (hb hby d4_30) _ kc_) ?_
      show own_Ends p e below s _ _ _ (T20.setTop (mkF m 31 #[.val (.ref r), .val (.int acc), .val (.int sh), .val (.int z3)] [(.int (own_iv vs pp))]))
      have Fp : Fld Z h20 r "com/example/wakachi/wakachi/VarInts$Reader" "position" "I" (.int (Int32.ofNat (pp + 1))) := by rw [Int32.ofNat_add]; exact F_r_position_20
      refine own_step (fun _ kc_ => XS.istoreN X20.here hx rfl (hb hby d4_31) rfl (l' := #[.val (.ref r), .val (.int acc), .val (.int sh), .val (.int (own_iv vs pp))]) rfl (XS.iloadN X20.here hx rfl (hb hby d4_32) rfl (XS.iloadN X20.here hx rfl (hb hby d4_33) rfl (XS.bipush X20.here hx rfl (hb hby d4_34) (XS.iand X20.here hx rfl (hb hby d4_36) rfl (XS.iloadN X20.here hx rfl (hb hby d4_37) rfl (XS.ishl X20.here hx rfl (hb hby d4_38) rfl (XS.ior X20.here hx rfl (hb hby d4_39) rfl kc_)))))))) ?_
      show own_Ends p e below s _ _ _ (T20.setTop (mkF m 40 #[.val (.ref r), .val (.int acc), .val (.int sh), .val (.int (own_iv vs pp))] [(.int (acc ||| (((own_iv vs pp) &&& (127 : Int32)) <<< (sh &&& 31))))]))
      refine own_step (fun _ kc_ => XS.istoreN X20.here hx rfl (hb hby d4_40) rfl (l' := #[.val (.ref r), .val (.int (acc ||| (((own_iv vs pp) &&& (127 : Int32)) <<< (sh &&& 31)))), .val (.int sh), .val (.int (own_iv vs pp))]) rfl (XS.iloadN X20.here hx rfl (hb hby d4_41) rfl kc_)) ?_
      show own_Ends p e below s _ _ _ (T20.setTop (mkF m 42 #[.val (.ref r), .val (.int (acc ||| (((own_iv vs pp) &&& (127 : Int32)) <<< (sh &&& 31)))), .val (.int sh), .val (.int (own_iv vs pp))] [(.int (own_iv vs pp))]))
      by_cases hc42 : (own_iv vs pp) < 0
      · refine own_step (fun _ kc_ => XS.ifYes X20.here hx rfl (pc0 := 42) (pc' := 47) rfl (hb hby d4_42) rfl (XT.i0_lt_t hc42) (by decide) (by decide) (XS.iinc X20.here hx rfl (hb hby d4_47) rfl (l' := #[.val (.ref r), .val (.int (acc ||| (((own_iv vs pp) &&& (127 : Int32)) <<< (sh &&& 31)))), .val (.int (sh + (7 : Int32))), .val (.int (own_iv vs pp))]) rfl (XS.goto X20.here hx rfl (pc0 := 50) (pc' := 4) rfl (hb hby d4_50) (by decide) (by decide) kc_))) ?_
        show own_Ends p e below s _ _ _ (T20.setTop (mkF m 4 #[.val (.ref r), .val (.int (acc ||| (((own_iv vs pp) &&& (127 : Int32)) <<< (sh &&& 31)))), .val (.int (sh + (7 : Int32))), .val (.int (own_iv vs pp))] []))
        refine ih (pp + 1) _ _ _ (Or.inr ⟨_, rfl⟩) (by omega) hcc hss X20 e20 N20 K20 Zs20 E_r_20 F_r_bytes_20 Fp F_r_to_20 A_ba_20 ?_
        intro h' L a b f1 f2 q
        have q' := hq h' L a b f1 f2
        rw [own_nxT hc42] at q'
        exact q' q
      · refine own_step (fun _ kc_ => XS.ifNo X20.here hx rfl (hb hby d4_42) rfl (XT.i0_lt_f hc42) (XS.iloadN X20.here hx rfl (hb hby d4_45) rfl kc_)) ?_
        show own_Ends p e below s _ _ _ (T20.setTop (mkF m 46 #[.val (.ref r), .val (.int (acc ||| (((own_iv vs pp) &&& (127 : Int32)) <<< (sh &&& 31)))), .val (.int sh), .val (.int (own_iv vs pp))] [(.int (acc ||| (((own_iv vs pp) &&& (127 : Int32)) <<< (sh &&& 31))))]))
        exact own_retI X20 hx hret hlk (hb hby d4_46) hcc hss (by
          have q := hq h20 _ N20 K20 F_r_bytes_20 F_r_to_20
          rw [own_nxF hc42] at q
          rw [e20]; exact q Fp)
theorem ef_rm4 (m : MethodId) (r : Addr) : entryFrame m #[(.ref r)] 4 = mkF m 0 #[.val (.ref r), .unset, .unset, .unset] [] := by first | (simp [entryFrame, mkF, argsToLocals, Value.category]; done) | rfl
def Q4 (Z : State) (r : Addr) (ba : Addr) (vs : List Value) (pp kk : Nat) (h0 : Heap) (n0 : Nat) (v : Option Value) (h : Heap) (L : List Loc) : Prop := v = some (.int (own_nx vs pp 0 0 kk).1) ∧ Fr n0 L ∧ Keep h0 h [r] ∧ Fld Z h r "com/example/wakachi/wakachi/VarInts$Reader" "position" "I" (.int (Int32.ofNat (own_nx vs pp 0 0 kk).2)) ∧ Fld Z h r "com/example/wakachi/wakachi/VarInts$Reader" "bytes" "[B" (.ref ba) ∧ Fld Z h r "com/example/wakachi/wakachi/VarInts$Reader" "to" "I" (.int (Int32.ofNat (pp + kk)))
set_option maxRecDepth 65536 in
set_option maxHeartbeats 40000000 in
theorem rm4 (l : Launch) (Z : State) (a0 : Array Value) (hw : ∀ d ∈ tables_1, d.before a0 Z = true) (ws : List Jvm.Cond) (r : Addr) (ba : Addr) (vs : List Value) (pp kk : Nat) (h0 : Heap) (n0 : Nat) (Z0 : n0 ≤ h0.size) (E0 : Exa Z h0 r "com/example/wakachi/wakachi/VarInts$Reader") (F0 : Fld Z h0 r "com/example/wakachi/wakachi/VarInts$Reader" "bytes" "[B" (.ref ba)) (F1 : Fld Z h0 r "com/example/wakachi/wakachi/VarInts$Reader" "position" "I" (.int (Int32.ofNat pp))) (F2 : Fld Z h0 r "com/example/wakachi/wakachi/VarInts$Reader" "to" "I" (.int (Int32.ofNat (pp + kk)))) (A0 : own_Ar Z h0 ba .byte vs) (hv : own_ints vs) (hk : pp + kk ≤ vs.length) (g0 : n0 ≤ r) (ne0 : r ≠ ba) :
    MetFree l (⟨"com/example/wakachi/wakachi/VarInts$Reader", "next", "()I"⟩ : MethodName) (head1 (Jvm.Cond.code (⟨"com/example/wakachi/wakachi/VarInts$Reader", "next", "()I"⟩ : MethodName) prog_238_method_3_code 4 (some .int) :: ws) ({ frames := 0, cells := 0, slots := 0, locals := 0 } : Room)) (fun a U => a = #[(.ref r)] ∧ Z.Warmed39 U.vm ∧ U.heap = h0) (fun _ _ _ _ _ => True) (fun _ U o U' => ∃ v L, o = .returned v ∧ Q4 Z r ba vs pp kk h0 n0 v U'.heap L ∧ FrameEnd U o U' L ({ frames := 0, cells := 0, slots := 0, locals := 0 } : Room).cells ({ frames := 0, cells := 0, slots := 0, locals := 0 } : Room).slots) := by
  refine MetFree.of_bodySF (plainFor_of_name pn_1) hisR ?_
  intro p e s m args below meth c s₁ Bd hml0 hP hK
  obtain ⟨rfl, hZ, hh⟩ := hP
  have hx := Bd.exec
  have hby := Bd.bytes
  have hlk : meth.locks = false := BodyLoose.notSynchronized Bd
  have hret := Bd.returns
  have hml : c.maxLocals = 4 := hml0
  have hown : s.vm.findClass "com/example/wakachi/wakachi/VarInts$Reader" = some m.cls := findClass_of_methodNamed Bd.named
  have hnm := (name_of_methodNamed Bd.named Bd.method).1
  have X0 : Stand p l e ({ frames := 0, cells := 0, slots := 0, locals := 0 } : Room) s m #[(.ref r)] below meth c s₁ [] 0 0 := Stand.of_body Bd
  have e0 : s₁.heap = h0 := by rw [← hh, Bd.state]; rfl
  have N0 := Fr.nil n0
  show own_Ends p e below s 0 0 (Q4 Z r ba vs pp kk h0 n0) (s₁.setTop (entryFrame m #[(.ref r)] 4))
  refine own_step (fun t k => castTop (ef_rm4 m r) k) ?_
  show own_Ends p e below s _ _ _ (s₁.setTop (mkF m 0 #[.val (.ref r), .unset, .unset, .unset] []))
  refine own_step (fun _ kc_ => XS.iconst X0.here hx rfl (hb hby d4_0) (XS.istoreN X0.here hx rfl (hb hby d4_1) rfl (l' := #[.val (.ref r), .val (.int (0 : Int32)), .unset, .unset]) rfl (XS.iconst X0.here hx rfl (hb hby d4_2) (XS.istoreN X0.here hx rfl (hb hby d4_3) rfl (l' := #[.val (.ref r), .val (.int (0 : Int32)), .val (.int (0 : Int32)), .unset]) rfl kc_)))) ?_
  show own_Ends p e below s _ _ _ (s₁.setTop (mkF m 4 #[.val (.ref r), .val (.int (0 : Int32)), .val (.int (0 : Int32)), .unset] []))
  exact own_loop hw hZ hx hby hlk hret hml hown hv A0.1 g0 ne0 (pp + kk) hk kk pp _ _ _ (Or.inl rfl) rfl (Nat.le_refl _) (Nat.le_refl _) X0 e0 N0 (Keep.refl h0 [r]) Z0 E0 F0 F1 F2 A0 (fun h' L a b f1 f2 q => ⟨rfl, a, b, q, f1, f2⟩)
theorem pd_1 : parseMethodDescriptor "(III)B" = some ⟨[.int, .int, .int], some .byte⟩ := by decide +kernel
theorem pd_2 : parseMethodDescriptor "([BII)V" = some ⟨[(.array .byte), .int, .int], none⟩ := by decide +kernel
theorem pd_3 : parseMethodDescriptor "()I" = some ⟨[], some .int⟩ := by decide +kernel
theorem pd_4 : parseMethodDescriptor "()Z" = some ⟨[], some .boolean⟩ := by decide +kernel
def Q0 (Z : State) (p1 : Int32) (p2 : Int32) (p3 : Int32) (p4 : Int32) (p5 : Int32) (p6 : Int32)  (h0 : Heap) (n0 : Nat) (v : Option Value) (h : Heap) (L : List Loc) : Prop := v = some (.int (1 : Int32)) ∧ Fr n0 L
set_option maxRecDepth 65536 in
set_option maxHeartbeats 40000000 in
theorem seg_1 {p : Program} {l : Launch} {e : Env} {s : State} {m : MethodId} {below : List Frame} {meth : Method} {c : Code} {Z : State} {a0 : Array Value} (hw : ∀ d ∈ tables_1, d.before a0 Z = true) (hZ : Z.Warmed39 s.vm) (hx : p.tables.exec = Jvm.exec) (hby : c.code = code) (hlk : meth.locks = false) (hret : meth.sig.returnType = some .boolean) (hml : c.maxLocals = 18) (hown : s.vm.findClass "com/example/wakachi/wakachi/ReaderNextPinLaw" = some m.cls) (p1 : Int32) (p2 : Int32) (p3 : Int32) (p4 : Int32) (p5 : Int32) (p6 : Int32)  {h0 : Heap} {n0 : Nat} {nn fr qb : Int32} (F : Nat) (hF : F ≤ 3) (hfr : fr = Int32.ofNat F) (hn0 : 0 ≤ nn.toInt) (hn1 : nn.toInt < 2 ^ 7) {h : Heap}  :
    ∀ {T : State} {locs : List Loc} {cells slots : Nat} (X : Stand p l e room_1 s m #[(.int p1), (.int p2), (.int p3), (.int p4), (.int p5), (.int p6)] below meth c T locs cells slots) (e0 : T.heap = h) (N0 : Fr n0 locs) (Z0 : n0 ≤ h.size) (hcs : cells = 0) (hsl : slots = 0), own_Ends p e below s 16 128 (Q0 Z p1 p2 p3 p4 p5 p6  h0 n0) (T.setTop (mkF m 78 #[.val (.int p1), .val (.int p2), .val (.int p3), .val (.int p4), .val (.int p5), .val (.int p6), .val (.int nn), .val (.int (1 : Int32)), .val (.int fr), .val (.int qb), .unset, .unset, .unset, .unset, .unset, .unset, .unset, .unset] [])) := by
  intro T locs cells slots X e0 N0 Z0 hcs hsl
  subst hcs hsl
  show own_Ends p e below s _ _ _ (T.setTop (mkF m 78 #[.val (.int p1), .val (.int p2), .val (.int p3), .val (.int p4), .val (.int p5), .val (.int p6), .val (.int nn), .val (.int (1 : Int32)), .val (.int fr), .val (.int qb), .unset, .unset, .unset, .unset, .unset, .unset, .unset, .unset] []))
  refine own_step (fun _ kc_ => XS.bipush X.here hx rfl (hb hby at_78) kc_) ?_
  show own_Ends p e below s _ _ _ (T.setTop (mkF m 80 #[.val (.int p1), .val (.int p2), .val (.int p3), .val (.int p4), .val (.int p5), .val (.int p6), .val (.int nn), .val (.int (1 : Int32)), .val (.int fr), .val (.int qb), .unset, .unset, .unset, .unset, .unset, .unset, .unset, .unset] [(.int (9 : Int32))]))
  obtain ⟨T21, h21, k21, X21, e21, E21, A21, st21⟩ := newP X hx hZ (hw _ (List.mem_of_getElem? (i := 1) rfl)) e0 (g := (mkF m 80 #[.val (.int p1), .val (.int p2), .val (.int p3), .val (.int p4), .val (.int p5), .val (.int p6), .val (.int nn), .val (.int (1 : Int32)), .val (.int fr), .val (.int qb), .unset, .unset, .unset, .unset, .unset, .unset, .unset, .unset] [(.int (9 : Int32))])) rfl (hb hby at_80) rfl (by decide) (cap := 9) (by decide) (by decide) (by decide : 0 + 1 ≤ _) (by decide : 0 + 9 ≤ _)
  obtain ⟨b21, g21⟩ : ∃ z, z = h.size := ⟨_, rfl⟩
  rw [← g21] at A21 st21
  have n0_b21 : n0 ≤ b21 := Nat.le_trans Z0 (Nat.le_of_eq g21.symm)
  have Zs21 := Nat.le_trans Z0 E21.1
  have A_b21 : own_Ar Z h21 b21 .byte [(.int (0 : Int32)), (.int (0 : Int32)), (.int (0 : Int32)), (.int (0 : Int32)), (.int (0 : Int32)), (.int (0 : Int32)), (.int (0 : Int32)), (.int (0 : Int32)), (.int (0 : Int32))] := own_Ar.new A21 (by decide)
  refine own_step (fun _ kc_ => st21 _ kc_) ?_
  show own_Ends p e below s _ _ _ (T21.setTop (mkF m 82 #[.val (.int p1), .val (.int p2), .val (.int p3), .val (.int p4), .val (.int p5), .val (.int p6), .val (.int nn), .val (.int (1 : Int32)), .val (.int fr), .val (.int qb), .unset, .unset, .unset, .unset, .unset, .unset, .unset, .unset] [(.ref b21)]))
  refine own_step (fun _ kc_ => XS.astore X21.here hx rfl (hb hby at_82) rfl rfl (l' := #[.val (.int p1), .val (.int p2), .val (.int p3), .val (.int p4), .val (.int p5), .val (.int p6), .val (.int nn), .val (.int (1 : Int32)), .val (.int fr), .val (.int qb), .val (.ref b21), .unset, .unset, .unset, .unset, .unset, .unset, .unset]) rfl (XS.aload X21.here hx rfl (hb hby at_84) rfl rfl (XS.iconst X21.here hx rfl (hb hby at_86) (XS.iload X21.here hx rfl (hb hby at_87) rfl kc_)))) ?_
  show own_Ends p e below s _ _ _ (T21.setTop (mkF m 89 #[.val (.int p1), .val (.int p2), .val (.int p3), .val (.int p4), .val (.int p5), .val (.int p6), .val (.int nn), .val (.int (1 : Int32)), .val (.int fr), .val (.int qb), .val (.ref b21), .unset, .unset, .unset, .unset, .unset, .unset, .unset] [(.int qb), (.int (0 : Int32)), (.ref b21)]))
  obtain ⟨T22, h22, X22, e22, W22, A22, st22⟩ := own_bastore X21 hx hZ e21 A_b21 (j := (0 : Int32)) (x := qb) (by decide) (i := 0) rfl (Nat.le_of_ble_eq_true rfl) (Ls := #[.val (.int p1), .val (.int p2), .val (.int p3), .val (.int p4), .val (.int p5), .val (.int p6), .val (.int nn), .val (.int (1 : Int32)), .val (.int fr), .val (.int qb), .val (.ref b21), .unset, .unset, .unset, .unset, .unset, .unset, .unset]) (st := []) (hb hby at_89)
  have A_b21_22 : own_Ar Z h22 b21 .byte [(.int (nar .byte qb)), (.int (0 : Int32)), (.int (0 : Int32)), (.int (0 : Int32)), (.int (0 : Int32)), (.int (0 : Int32)), (.int (0 : Int32)), (.int (0 : Int32)), (.int (0 : Int32))] := A22
  have Zs22 := Nat.le_trans Zs21 (Nat.le_of_eq W22.size.symm)
  have N22 := Fr.snoc X22 N0 n0_b21
  refine own_step (fun _ kc_ => st22 _ kc_) ?_
  show own_Ends p e below s _ _ _ (T22.setTop (mkF m 90 #[.val (.int p1), .val (.int p2), .val (.int p3), .val (.int p4), .val (.int p5), .val (.int p6), .val (.int nn), .val (.int (1 : Int32)), .val (.int fr), .val (.int qb), .val (.ref b21), .unset, .unset, .unset, .unset, .unset, .unset, .unset] []))
  refine own_step (fun _ kc_ => XS.aload X22.here hx rfl (hb hby at_90) rfl rfl (XS.iconst X22.here hx rfl (hb hby at_92) (XS.iload X22.here hx rfl (hb hby at_93) rfl kc_))) ?_
  show own_Ends p e below s _ _ _ (T22.setTop (mkF m 95 #[.val (.int p1), .val (.int p2), .val (.int p3), .val (.int p4), .val (.int p5), .val (.int p6), .val (.int nn), .val (.int (1 : Int32)), .val (.int fr), .val (.int qb), .val (.ref b21), .unset, .unset, .unset, .unset, .unset, .unset, .unset] [(.int qb), (.int (1 : Int32)), (.ref b21)]))
  obtain ⟨T23, h23, X23, e23, W23, A23, st23⟩ := own_bastore X22 hx hZ e22 A_b21_22 (j := (1 : Int32)) (x := qb) (by decide) (i := 1) rfl (Nat.le_of_ble_eq_true rfl) (Ls := #[.val (.int p1), .val (.int p2), .val (.int p3), .val (.int p4), .val (.int p5), .val (.int p6), .val (.int nn), .val (.int (1 : Int32)), .val (.int fr), .val (.int qb), .val (.ref b21), .unset, .unset, .unset, .unset, .unset, .unset, .unset]) (st := []) (hb hby at_95)
  have A_b21_23 : own_Ar Z h23 b21 .byte [(.int (nar .byte qb)), (.int (nar .byte qb)), (.int (0 : Int32)), (.int (0 : Int32)), (.int (0 : Int32)), (.int (0 : Int32)), (.int (0 : Int32)), (.int (0 : Int32)), (.int (0 : Int32))] := A23
  have Zs23 := Nat.le_trans Zs22 (Nat.le_of_eq W23.size.symm)
  have N23 := Fr.snoc X23 N22 n0_b21
  refine own_step (fun _ kc_ => st23 _ kc_) ?_
  show own_Ends p e below s _ _ _ (T23.setTop (mkF m 96 #[.val (.int p1), .val (.int p2), .val (.int p3), .val (.int p4), .val (.int p5), .val (.int p6), .val (.int nn), .val (.int (1 : Int32)), .val (.int fr), .val (.int qb), .val (.ref b21), .unset, .unset, .unset, .unset, .unset, .unset, .unset] []))
  refine own_step (fun _ kc_ => XS.aload X23.here hx rfl (hb hby at_96) rfl rfl (XS.iconst X23.here hx rfl (hb hby at_98) (XS.iload X23.here hx rfl (hb hby at_99) rfl kc_))) ?_
  show own_Ends p e below s _ _ _ (T23.setTop (mkF m 101 #[.val (.int p1), .val (.int p2), .val (.int p3), .val (.int p4), .val (.int p5), .val (.int p6), .val (.int nn), .val (.int (1 : Int32)), .val (.int fr), .val (.int qb), .val (.ref b21), .unset, .unset, .unset, .unset, .unset, .unset, .unset] [(.int qb), (.int (2 : Int32)), (.ref b21)]))
  obtain ⟨T24, h24, X24, e24, W24, A24, st24⟩ := own_bastore X23 hx hZ e23 A_b21_23 (j := (2 : Int32)) (x := qb) (by decide) (i := 2) rfl (Nat.le_of_ble_eq_true rfl) (Ls := #[.val (.int p1), .val (.int p2), .val (.int p3), .val (.int p4), .val (.int p5), .val (.int p6), .val (.int nn), .val (.int (1 : Int32)), .val (.int fr), .val (.int qb), .val (.ref b21), .unset, .unset, .unset, .unset, .unset, .unset, .unset]) (st := []) (hb hby at_101)
  have A_b21_24 : own_Ar Z h24 b21 .byte [(.int (nar .byte qb)), (.int (nar .byte qb)), (.int (nar .byte qb)), (.int (0 : Int32)), (.int (0 : Int32)), (.int (0 : Int32)), (.int (0 : Int32)), (.int (0 : Int32)), (.int (0 : Int32))] := A24
  have Zs24 := Nat.le_trans Zs23 (Nat.le_of_eq W24.size.symm)
  have N24 := Fr.snoc X24 N23 n0_b21
  refine own_step (fun _ kc_ => st24 _ kc_) ?_
  show own_Ends p e below s _ _ _ (T24.setTop (mkF m 102 #[.val (.int p1), .val (.int p2), .val (.int p3), .val (.int p4), .val (.int p5), .val (.int p6), .val (.int nn), .val (.int (1 : Int32)), .val (.int fr), .val (.int qb), .val (.ref b21), .unset, .unset, .unset, .unset, .unset, .unset, .unset] []))
  refine own_step (fun _ kc_ => XS.aload X24.here hx rfl (hb hby at_102) rfl rfl (XS.iconst X24.here hx rfl (hb hby at_104) (XS.iload X24.here hx rfl (hb hby at_105) rfl kc_))) ?_
  show own_Ends p e below s _ _ _ (T24.setTop (mkF m 107 #[.val (.int p1), .val (.int p2), .val (.int p3), .val (.int p4), .val (.int p5), .val (.int p6), .val (.int nn), .val (.int (1 : Int32)), .val (.int fr), .val (.int qb), .val (.ref b21), .unset, .unset, .unset, .unset, .unset, .unset, .unset] [(.int qb), (.int (3 : Int32)), (.ref b21)]))
  obtain ⟨T25, h25, X25, e25, W25, A25, st25⟩ := own_bastore X24 hx hZ e24 A_b21_24 (j := (3 : Int32)) (x := qb) (by decide) (i := 3) rfl (Nat.le_of_ble_eq_true rfl) (Ls := #[.val (.int p1), .val (.int p2), .val (.int p3), .val (.int p4), .val (.int p5), .val (.int p6), .val (.int nn), .val (.int (1 : Int32)), .val (.int fr), .val (.int qb), .val (.ref b21), .unset, .unset, .unset, .unset, .unset, .unset, .unset]) (st := []) (hb hby at_107)
  have A_b21_25 : own_Ar Z h25 b21 .byte [(.int (nar .byte qb)), (.int (nar .byte qb)), (.int (nar .byte qb)), (.int (nar .byte qb)), (.int (0 : Int32)), (.int (0 : Int32)), (.int (0 : Int32)), (.int (0 : Int32)), (.int (0 : Int32))] := A25
  have Zs25 := Nat.le_trans Zs24 (Nat.le_of_eq W25.size.symm)
  have N25 := Fr.snoc X25 N24 n0_b21
  refine own_step (fun _ kc_ => st25 _ kc_) ?_
  show own_Ends p e below s _ _ _ (T25.setTop (mkF m 108 #[.val (.int p1), .val (.int p2), .val (.int p3), .val (.int p4), .val (.int p5), .val (.int p6), .val (.int nn), .val (.int (1 : Int32)), .val (.int fr), .val (.int qb), .val (.ref b21), .unset, .unset, .unset, .unset, .unset, .unset, .unset] []))
  refine own_step (fun _ kc_ => XS.aload X25.here hx rfl (hb hby at_108) rfl rfl (XS.iconst X25.here hx rfl (hb hby at_110) (XS.iload X25.here hx rfl (hb hby at_111) rfl kc_))) ?_
  show own_Ends p e below s _ _ _ (T25.setTop (mkF m 113 #[.val (.int p1), .val (.int p2), .val (.int p3), .val (.int p4), .val (.int p5), .val (.int p6), .val (.int nn), .val (.int (1 : Int32)), .val (.int fr), .val (.int qb), .val (.ref b21), .unset, .unset, .unset, .unset, .unset, .unset, .unset] [(.int qb), (.int (4 : Int32)), (.ref b21)]))
  obtain ⟨T26, h26, X26, e26, W26, A26, st26⟩ := own_bastore X25 hx hZ e25 A_b21_25 (j := (4 : Int32)) (x := qb) (by decide) (i := 4) rfl (Nat.le_of_ble_eq_true rfl) (Ls := #[.val (.int p1), .val (.int p2), .val (.int p3), .val (.int p4), .val (.int p5), .val (.int p6), .val (.int nn), .val (.int (1 : Int32)), .val (.int fr), .val (.int qb), .val (.ref b21), .unset, .unset, .unset, .unset, .unset, .unset, .unset]) (st := []) (hb hby at_113)
  have A_b21_26 : own_Ar Z h26 b21 .byte [(.int (nar .byte qb)), (.int (nar .byte qb)), (.int (nar .byte qb)), (.int (nar .byte qb)), (.int (nar .byte qb)), (.int (0 : Int32)), (.int (0 : Int32)), (.int (0 : Int32)), (.int (0 : Int32))] := A26
  have Zs26 := Nat.le_trans Zs25 (Nat.le_of_eq W26.size.symm)
  have N26 := Fr.snoc X26 N25 n0_b21
  refine own_step (fun _ kc_ => st26 _ kc_) ?_
  show own_Ends p e below s _ _ _ (T26.setTop (mkF m 114 #[.val (.int p1), .val (.int p2), .val (.int p3), .val (.int p4), .val (.int p5), .val (.int p6), .val (.int nn), .val (.int (1 : Int32)), .val (.int fr), .val (.int qb), .val (.ref b21), .unset, .unset, .unset, .unset, .unset, .unset, .unset] []))
  refine own_step (fun _ kc_ => XS.aload X26.here hx rfl (hb hby at_114) rfl rfl (XS.iconst X26.here hx rfl (hb hby at_116) (XS.iload X26.here hx rfl (hb hby at_117) rfl kc_))) ?_
  show own_Ends p e below s _ _ _ (T26.setTop (mkF m 119 #[.val (.int p1), .val (.int p2), .val (.int p3), .val (.int p4), .val (.int p5), .val (.int p6), .val (.int nn), .val (.int (1 : Int32)), .val (.int fr), .val (.int qb), .val (.ref b21), .unset, .unset, .unset, .unset, .unset, .unset, .unset] [(.int qb), (.int (5 : Int32)), (.ref b21)]))
  obtain ⟨T27, h27, X27, e27, W27, A27, st27⟩ := own_bastore X26 hx hZ e26 A_b21_26 (j := (5 : Int32)) (x := qb) (by decide) (i := 5) rfl (Nat.le_of_ble_eq_true rfl) (Ls := #[.val (.int p1), .val (.int p2), .val (.int p3), .val (.int p4), .val (.int p5), .val (.int p6), .val (.int nn), .val (.int (1 : Int32)), .val (.int fr), .val (.int qb), .val (.ref b21), .unset, .unset, .unset, .unset, .unset, .unset, .unset]) (st := []) (hb hby at_119)
  have A_b21_27 : own_Ar Z h27 b21 .byte [(.int (nar .byte qb)), (.int (nar .byte qb)), (.int (nar .byte qb)), (.int (nar .byte qb)), (.int (nar .byte qb)), (.int (nar .byte qb)), (.int (0 : Int32)), (.int (0 : Int32)), (.int (0 : Int32))] := A27
  have Zs27 := Nat.le_trans Zs26 (Nat.le_of_eq W27.size.symm)
  have N27 := Fr.snoc X27 N26 n0_b21
  refine own_step (fun _ kc_ => st27 _ kc_) ?_
  show own_Ends p e below s _ _ _ (T27.setTop (mkF m 120 #[.val (.int p1), .val (.int p2), .val (.int p3), .val (.int p4), .val (.int p5), .val (.int p6), .val (.int nn), .val (.int (1 : Int32)), .val (.int fr), .val (.int qb), .val (.ref b21), .unset, .unset, .unset, .unset, .unset, .unset, .unset] []))
  refine own_step (fun _ kc_ => XS.aload X27.here hx rfl (hb hby at_120) rfl rfl (XS.bipush X27.here hx rfl (hb hby at_122) (XS.iload X27.here hx rfl (hb hby at_124) rfl kc_))) ?_
  show own_Ends p e below s _ _ _ (T27.setTop (mkF m 126 #[.val (.int p1), .val (.int p2), .val (.int p3), .val (.int p4), .val (.int p5), .val (.int p6), .val (.int nn), .val (.int (1 : Int32)), .val (.int fr), .val (.int qb), .val (.ref b21), .unset, .unset, .unset, .unset, .unset, .unset, .unset] [(.int qb), (.int (6 : Int32)), (.ref b21)]))
  obtain ⟨T28, h28, X28, e28, W28, A28, st28⟩ := own_bastore X27 hx hZ e27 A_b21_27 (j := (6 : Int32)) (x := qb) (by decide) (i := 6) rfl (Nat.le_of_ble_eq_true rfl) (Ls := #[.val (.int p1), .val (.int p2), .val (.int p3), .val (.int p4), .val (.int p5), .val (.int p6), .val (.int nn), .val (.int (1 : Int32)), .val (.int fr), .val (.int qb), .val (.ref b21), .unset, .unset, .unset, .unset, .unset, .unset, .unset]) (st := []) (hb hby at_126)
  have A_b21_28 : own_Ar Z h28 b21 .byte [(.int (nar .byte qb)), (.int (nar .byte qb)), (.int (nar .byte qb)), (.int (nar .byte qb)), (.int (nar .byte qb)), (.int (nar .byte qb)), (.int (nar .byte qb)), (.int (0 : Int32)), (.int (0 : Int32))] := A28
  have Zs28 := Nat.le_trans Zs27 (Nat.le_of_eq W28.size.symm)
  have N28 := Fr.snoc X28 N27 n0_b21
  refine own_step (fun _ kc_ => st28 _ kc_) ?_
  show own_Ends p e below s _ _ _ (T28.setTop (mkF m 127 #[.val (.int p1), .val (.int p2), .val (.int p3), .val (.int p4), .val (.int p5), .val (.int p6), .val (.int nn), .val (.int (1 : Int32)), .val (.int fr), .val (.int qb), .val (.ref b21), .unset, .unset, .unset, .unset, .unset, .unset, .unset] []))
  refine own_step (fun _ kc_ => XS.aload X28.here hx rfl (hb hby at_127) rfl rfl (XS.bipush X28.here hx rfl (hb hby at_129) (XS.iload X28.here hx rfl (hb hby at_131) rfl kc_))) ?_
  show own_Ends p e below s _ _ _ (T28.setTop (mkF m 133 #[.val (.int p1), .val (.int p2), .val (.int p3), .val (.int p4), .val (.int p5), .val (.int p6), .val (.int nn), .val (.int (1 : Int32)), .val (.int fr), .val (.int qb), .val (.ref b21), .unset, .unset, .unset, .unset, .unset, .unset, .unset] [(.int qb), (.int (7 : Int32)), (.ref b21)]))
  obtain ⟨T29, h29, X29, e29, W29, A29, st29⟩ := own_bastore X28 hx hZ e28 A_b21_28 (j := (7 : Int32)) (x := qb) (by decide) (i := 7) rfl (Nat.le_of_ble_eq_true rfl) (Ls := #[.val (.int p1), .val (.int p2), .val (.int p3), .val (.int p4), .val (.int p5), .val (.int p6), .val (.int nn), .val (.int (1 : Int32)), .val (.int fr), .val (.int qb), .val (.ref b21), .unset, .unset, .unset, .unset, .unset, .unset, .unset]) (st := []) (hb hby at_133)
  have A_b21_29 : own_Ar Z h29 b21 .byte [(.int (nar .byte qb)), (.int (nar .byte qb)), (.int (nar .byte qb)), (.int (nar .byte qb)), (.int (nar .byte qb)), (.int (nar .byte qb)), (.int (nar .byte qb)), (.int (nar .byte qb)), (.int (0 : Int32))] := A29
  have Zs29 := Nat.le_trans Zs28 (Nat.le_of_eq W29.size.symm)
  have N29 := Fr.snoc X29 N28 n0_b21
  refine own_step (fun _ kc_ => st29 _ kc_) ?_
  show own_Ends p e below s _ _ _ (T29.setTop (mkF m 134 #[.val (.int p1), .val (.int p2), .val (.int p3), .val (.int p4), .val (.int p5), .val (.int p6), .val (.int nn), .val (.int (1 : Int32)), .val (.int fr), .val (.int qb), .val (.ref b21), .unset, .unset, .unset, .unset, .unset, .unset, .unset] []))
  refine own_step (fun _ kc_ => XS.aload X29.here hx rfl (hb hby at_134) rfl rfl (XS.bipush X29.here hx rfl (hb hby at_136) (XS.iload X29.here hx rfl (hb hby at_138) rfl kc_))) ?_
  show own_Ends p e below s _ _ _ (T29.setTop (mkF m 140 #[.val (.int p1), .val (.int p2), .val (.int p3), .val (.int p4), .val (.int p5), .val (.int p6), .val (.int nn), .val (.int (1 : Int32)), .val (.int fr), .val (.int qb), .val (.ref b21), .unset, .unset, .unset, .unset, .unset, .unset, .unset] [(.int qb), (.int (8 : Int32)), (.ref b21)]))
  obtain ⟨T30, h30, X30, e30, W30, A30, st30⟩ := own_bastore X29 hx hZ e29 A_b21_29 (j := (8 : Int32)) (x := qb) (by decide) (i := 8) rfl (Nat.le_of_ble_eq_true rfl) (Ls := #[.val (.int p1), .val (.int p2), .val (.int p3), .val (.int p4), .val (.int p5), .val (.int p6), .val (.int nn), .val (.int (1 : Int32)), .val (.int fr), .val (.int qb), .val (.ref b21), .unset, .unset, .unset, .unset, .unset, .unset, .unset]) (st := []) (hb hby at_140)
  have A_b21_30 : own_Ar Z h30 b21 .byte [(.int (nar .byte qb)), (.int (nar .byte qb)), (.int (nar .byte qb)), (.int (nar .byte qb)), (.int (nar .byte qb)), (.int (nar .byte qb)), (.int (nar .byte qb)), (.int (nar .byte qb)), (.int (nar .byte qb))] := A30
  have Zs30 := Nat.le_trans Zs29 (Nat.le_of_eq W30.size.symm)
  have N30 := Fr.snoc X30 N29 n0_b21
  refine own_step (fun _ kc_ => st30 _ kc_) ?_
  show own_Ends p e below s _ _ _ (T30.setTop (mkF m 141 #[.val (.int p1), .val (.int p2), .val (.int p3), .val (.int p4), .val (.int p5), .val (.int p6), .val (.int nn), .val (.int (1 : Int32)), .val (.int fr), .val (.int qb), .val (.ref b21), .unset, .unset, .unset, .unset, .unset, .unset, .unset] []))
  refine own_step (fun _ kc_ => XS.aload X30.here hx rfl (hb hby at_141) rfl rfl (XS.iload X30.here hx rfl (hb hby at_143) rfl (XS.iload X30.here hx rfl (hb hby at_145) rfl (XS.iconst X30.here hx rfl (hb hby at_147) (XS.iload X30.here hx rfl (hb hby at_148) rfl kc_))))) ?_
  show own_Ends p e below s _ _ _ (T30.setTop (mkF m 150 #[.val (.int p1), .val (.int p2), .val (.int p3), .val (.int p4), .val (.int p5), .val (.int p6), .val (.int nn), .val (.int (1 : Int32)), .val (.int fr), .val (.int qb), .val (.ref b21), .unset, .unset, .unset, .unset, .unset, .unset, .unset] [(.int (1 : Int32)), (.int (0 : Int32)), (.int nn), (.int fr), (.ref b21)]))
  obtain ⟨_, _, ⟨T31, L31, k31, n31⟩, -, X31, ⟨Lc31, hQ31, l31, y31, z31⟩, st31⟩ := Jvm.LawKit.callS X30 hx (y := (⟨"com/example/wakachi/wakachi/ReaderNextPinLaw", "enc", "(III)B"⟩ : MethodName)) hown (mvT hZ (hw _ (List.mem_of_getElem? (i := 2) rfl))) (mvT hZ (hw _ (List.mem_of_getElem? (i := 3) rfl))) (mvT hZ (hw _ (List.mem_of_getElem? (i := 4) rfl))) (mvT hZ (hw _ (List.mem_of_getElem? (i := 5) rfl))) (by decide) (backOf (W := 2) (rm1 l Z a0 hw [] nn (0 : Int32) (1 : Int32)  h30 n0 Zs30 ) hZ (hw _ (List.mem_of_getElem? (i := 5) rfl)) (hw _ (List.mem_of_getElem? (i := 4) rfl)) (by decide) (by decide)) (g := (mkF m 150 #[.val (.int p1), .val (.int p2), .val (.int p3), .val (.int p4), .val (.int p5), .val (.int p6), .val (.int nn), .val (.int (1 : Int32)), .val (.int fr), .val (.int qb), .val (.ref b21), .unset, .unset, .unset, .unset, .unset, .unset, .unset] [(.int (1 : Int32)), (.int (0 : Int32)), (.int nn), (.int fr), (.ref b21)])) rfl (by rw [hml]; rfl) (argsL := [(.int nn), (.int (0 : Int32)), (.int (1 : Int32))]) (rest := [(.int fr), (.ref b21)]) (lenOf pd_1 rfl) rfl (by show 2 * 0 + _ ≤ _; exact Nat.le_of_eq rfl) (hb hby at_150) (fun _ _ => ⟨rfl, e30, (by decide : 1 + 0 ≤ _), (by decide : 9 + 0 ≤ _)⟩)
  dsimp only [Pt.U, Pt.locs, Pt.cells, Pt.slots] at X31 l31 y31 z31 st31 hQ31
  subst y31 z31
  obtain ⟨rfl, N31q, e31⟩ := hQ31
  have e31h : T31.heap = h30 := e31
  have N31 : Fr n0 L31 := by rw [l31]; exact Fr.app N30 N31q
  refine own_step (fun _ kc_ => st31 _ kc_) ?_
  show own_Ends p e below s _ _ _ (T31.setTop (mkF m 153 #[.val (.int p1), .val (.int p2), .val (.int p3), .val (.int p4), .val (.int p5), .val (.int p6), .val (.int nn), .val (.int (1 : Int32)), .val (.int fr), .val (.int qb), .val (.ref b21), .unset, .unset, .unset, .unset, .unset, .unset, .unset] [(.int (own_enc nn (0 : Int32) (1 : Int32))), (.int fr), (.ref b21)]))
  obtain ⟨T32, h32, X32, e32, W32, A32, st32⟩ := own_bastore X31 hx hZ e31h A_b21_30 (j := fr) (x := (own_enc nn (0 : Int32) (1 : Int32))) (own_ixz0 hF hfr) (i := F) (own_ixz hF hfr) (by simp only [List.length_set, List.length_cons, List.length_nil]; omega) (Ls := #[.val (.int p1), .val (.int p2), .val (.int p3), .val (.int p4), .val (.int p5), .val (.int p6), .val (.int nn), .val (.int (1 : Int32)), .val (.int fr), .val (.int qb), .val (.ref b21), .unset, .unset, .unset, .unset, .unset, .unset, .unset]) (st := []) (hb hby at_153)
  have A_b21_32 : own_Ar Z h32 b21 .byte (([(.int (nar .byte qb)), (.int (nar .byte qb)), (.int (nar .byte qb)), (.int (nar .byte qb)), (.int (nar .byte qb)), (.int (nar .byte qb)), (.int (nar .byte qb)), (.int (nar .byte qb)), (.int (nar .byte qb))]).set F (.int (nar .byte (own_enc nn (0 : Int32) (1 : Int32))))) := A32.cast rfl
  have Zs32 := Nat.le_trans Zs30 (Nat.le_of_eq W32.size.symm)
  have N32 := Fr.snoc X32 N31 n0_b21
  refine own_step (fun _ kc_ => st32 _ kc_) ?_
  show own_Ends p e below s _ _ _ (T32.setTop (mkF m 154 #[.val (.int p1), .val (.int p2), .val (.int p3), .val (.int p4), .val (.int p5), .val (.int p6), .val (.int nn), .val (.int (1 : Int32)), .val (.int fr), .val (.int qb), .val (.ref b21), .unset, .unset, .unset, .unset, .unset, .unset, .unset] []))
  refine own_step (fun _ kc_ => XS.iload X32.here hx rfl (hb hby at_154) rfl (XS.iconst X32.here hx rfl (hb hby at_156) (XS.icmpYes X32.here hx rfl (pc0 := 157) (pc' := 175) rfl (hb hby at_157) rfl (XT.ii_le_t (by decide : ¬ ((1 : Int32) < (1 : Int32)))) (by decide) (by decide) (XS.iload X32.here hx rfl (hb hby at_175) rfl (XS.iconst X32.here hx rfl (hb hby at_177) (XS.icmpYes X32.here hx rfl (pc0 := 178) (pc' := 196) rfl (hb hby at_178) rfl (XT.ii_le_t (by decide : ¬ ((2 : Int32) < (1 : Int32)))) (by decide) (by decide) (XS.iload X32.here hx rfl (hb hby at_196) rfl (XS.iconst X32.here hx rfl (hb hby at_198) kc_)))))))) ?_
  show own_Ends p e below s _ _ _ (T32.setTop (mkF m 199 #[.val (.int p1), .val (.int p2), .val (.int p3), .val (.int p4), .val (.int p5), .val (.int p6), .val (.int nn), .val (.int (1 : Int32)), .val (.int fr), .val (.int qb), .val (.ref b21), .unset, .unset, .unset, .unset, .unset, .unset, .unset] [(.int (3 : Int32)), (.int (1 : Int32))]))
  refine own_step (fun _ kc_ => XS.icmpYes X32.here hx rfl (pc0 := 199) (pc' := 217) rfl (hb hby at_199) rfl (XT.ii_le_t (by decide : ¬ ((3 : Int32) < (1 : Int32)))) (by decide) (by decide) (XS.iload X32.here hx rfl (hb hby at_217) rfl (XS.iconst X32.here hx rfl (hb hby at_219) (XS.icmpYes X32.here hx rfl (pc0 := 220) (pc' := 238) rfl (hb hby at_220) rfl (XT.ii_le_t (by decide : ¬ ((4 : Int32) < (1 : Int32)))) (by decide) (by decide) (XS.iload X32.here hx rfl (hb hby at_238) rfl (XS.bipush X32.here hx rfl (hb hby at_240) (XS.iand X32.here hx rfl (hb hby at_242) rfl (XS.istore X32.here hx rfl (hb hby at_243) rfl (l' := #[.val (.int p1), .val (.int p2), .val (.int p3), .val (.int p4), .val (.int p5), .val (.int p6), .val (.int nn), .val (.int (1 : Int32)), .val (.int fr), .val (.int qb), .val (.ref b21), .val (.int (p5 &&& (127 : Int32))), .unset, .unset, .unset, .unset, .unset, .unset]) rfl kc_)))))))) ?_
  show own_Ends p e below s _ _ _ (T32.setTop (mkF m 245 #[.val (.int p1), .val (.int p2), .val (.int p3), .val (.int p4), .val (.int p5), .val (.int p6), .val (.int nn), .val (.int (1 : Int32)), .val (.int fr), .val (.int qb), .val (.ref b21), .val (.int (p5 &&& (127 : Int32))), .unset, .unset, .unset, .unset, .unset, .unset] []))
  generalize hsc : (p5 &&& (127 : Int32)) = sc
  show own_Ends p e below s _ _ _ (T32.setTop (mkF m 245 #[.val (.int p1), .val (.int p2), .val (.int p3), .val (.int p4), .val (.int p5), .val (.int p6), .val (.int nn), .val (.int (1 : Int32)), .val (.int fr), .val (.int qb), .val (.ref b21), .val (.int sc), .unset, .unset, .unset, .unset, .unset, .unset] []))
  refine own_step (fun _ kc_ => XS.aload X32.here hx rfl (hb hby at_245) rfl rfl (XS.iload X32.here hx rfl (hb hby at_247) rfl (XS.iload X32.here hx rfl (hb hby at_249) rfl (XS.iadd X32.here hx rfl (hb hby at_251) rfl (XS.iload X32.here hx rfl (hb hby at_252) rfl (XS.i2b X32.here hx rfl (hb hby at_254) rfl kc_)))))) ?_
  show own_Ends p e below s _ _ _ (T32.setTop (mkF m 255 #[.val (.int p1), .val (.int p2), .val (.int p3), .val (.int p4), .val (.int p5), .val (.int p6), .val (.int nn), .val (.int (1 : Int32)), .val (.int fr), .val (.int qb), .val (.ref b21), .val (.int sc), .unset, .unset, .unset, .unset, .unset, .unset] [(.int (sc.toInt8.toInt32)), (.int (fr + (1 : Int32))), (.ref b21)]))
  obtain ⟨T33, h33, X33, e33, W33, A33, st33⟩ := own_bastore X32 hx hZ e32 A_b21_32 (j := (fr + (1 : Int32))) (x := (sc.toInt8.toInt32)) (own_ix0 hF hfr (k := 1) (by decide)) (i := F + 1) (own_ix hF hfr (k := 1) (by decide)) (by simp only [List.length_set, List.length_cons, List.length_nil]; omega) (Ls := #[.val (.int p1), .val (.int p2), .val (.int p3), .val (.int p4), .val (.int p5), .val (.int p6), .val (.int nn), .val (.int (1 : Int32)), .val (.int fr), .val (.int qb), .val (.ref b21), .val (.int sc), .unset, .unset, .unset, .unset, .unset, .unset]) (st := []) (hb hby at_255)
  have A_b21_33 : own_Ar Z h33 b21 .byte (((([(.int (nar .byte qb)), (.int (nar .byte qb)), (.int (nar .byte qb)), (.int (nar .byte qb)), (.int (nar .byte qb)), (.int (nar .byte qb)), (.int (nar .byte qb)), (.int (nar .byte qb)), (.int (nar .byte qb))]).set F (.int (nar .byte (own_enc nn (0 : Int32) (1 : Int32)))))).set (F + 1) (.int (nar .byte (sc.toInt8.toInt32)))) := A33.cast rfl
  have Zs33 := Nat.le_trans Zs32 (Nat.le_of_eq W33.size.symm)
  have N33 := Fr.snoc X33 N32 n0_b21
  refine own_step (fun _ kc_ => st33 _ kc_) ?_
  show own_Ends p e below s _ _ _ (T33.setTop (mkF m 256 #[.val (.int p1), .val (.int p2), .val (.int p3), .val (.int p4), .val (.int p5), .val (.int p6), .val (.int nn), .val (.int (1 : Int32)), .val (.int fr), .val (.int qb), .val (.ref b21), .val (.int sc), .unset, .unset, .unset, .unset, .unset, .unset] []))
  refine own_step (fun _ kc_ => XS.iloadN X33.here hx rfl (hb hby at_256) rfl (X33.ldcI hx hown (mvT hZ (hw _ (List.mem_of_getElem? (i := 0) rfl))) rfl (hb hby at_257) (XS.iand X33.here hx rfl (hb hby at_259) rfl (XS.iload X33.here hx rfl (hb hby at_260) rfl (XS.iconst X33.here hx rfl (hb hby at_262) (XS.iadd X33.here hx rfl (hb hby at_263) rfl kc_)))))) ?_
  show own_Ends p e below s _ _ _ (T33.setTop (mkF m 264 #[.val (.int p1), .val (.int p2), .val (.int p3), .val (.int p4), .val (.int p5), .val (.int p6), .val (.int nn), .val (.int (1 : Int32)), .val (.int fr), .val (.int qb), .val (.ref b21), .val (.int sc), .unset, .unset, .unset, .unset, .unset, .unset] [(.int ((1 : Int32) + (2 : Int32))), (.int (p4 &&& (2147483647 : Int32)))]))
  rw [show ((1 : Int32) + (2 : Int32)) = (3 : Int32) from by decide]
  show own_Ends p e below s _ _ _ (T33.setTop (mkF m 264 #[.val (.int p1), .val (.int p2), .val (.int p3), .val (.int p4), .val (.int p5), .val (.int p6), .val (.int nn), .val (.int (1 : Int32)), .val (.int fr), .val (.int qb), .val (.ref b21), .val (.int sc), .unset, .unset, .unset, .unset, .unset, .unset] [(.int (3 : Int32)), (.int (p4 &&& (2147483647 : Int32)))]))
  refine own_step (fun _ kc_ => Jvm.RoadKit.iremM X33 hx rfl (hb hby at_264) rfl (by decide) (XS.istore X33.here hx rfl (hb hby at_265) rfl (l' := #[.val (.int p1), .val (.int p2), .val (.int p3), .val (.int p4), .val (.int p5), .val (.int p6), .val (.int nn), .val (.int (1 : Int32)), .val (.int fr), .val (.int qb), .val (.ref b21), .val (.int sc), .val (.int ((p4 &&& (2147483647 : Int32)) % (3 : Int32))), .unset, .unset, .unset, .unset, .unset]) rfl kc_)) ?_
  show own_Ends p e below s _ _ _ (T33.setTop (mkF m 267 #[.val (.int p1), .val (.int p2), .val (.int p3), .val (.int p4), .val (.int p5), .val (.int p6), .val (.int nn), .val (.int (1 : Int32)), .val (.int fr), .val (.int qb), .val (.ref b21), .val (.int sc), .val (.int ((p4 &&& (2147483647 : Int32)) % (3 : Int32))), .unset, .unset, .unset, .unset, .unset] []))
  generalize hcc : ((p4 &&& (2147483647 : Int32)) % (3 : Int32)) = cc
  show own_Ends p e below s _ _ _ (T33.setTop (mkF m 267 #[.val (.int p1), .val (.int p2), .val (.int p3), .val (.int p4), .val (.int p5), .val (.int p6), .val (.int nn), .val (.int (1 : Int32)), .val (.int fr), .val (.int qb), .val (.ref b21), .val (.int sc), .val (.int cc), .unset, .unset, .unset, .unset, .unset] []))
  obtain ⟨T34, h34, X34, e34, E34, A34, D34, -, st34⟩ := newO X33 hx hZ hown (hw _ (List.mem_of_getElem? (i := 6) rfl)) (hw _ (List.mem_of_getElem? (i := 7) rfl)) (hw _ (List.mem_of_getElem? (i := 8) rfl)) e33 (g := (mkF m 267 #[.val (.int p1), .val (.int p2), .val (.int p3), .val (.int p4), .val (.int p5), .val (.int p6), .val (.int nn), .val (.int (1 : Int32)), .val (.int fr), .val (.int qb), .val (.ref b21), .val (.int sc), .val (.int cc), .unset, .unset, .unset, .unset, .unset] [])) rfl (hb hby at_267) (by decide : 1 + 1 ≤ _) (by decide : 9 + 3 ≤ _)
  obtain ⟨b34, g34⟩ : ∃ z, z = h33.size := ⟨_, rfl⟩
  rw [← g34] at A34 D34 st34
  have ne_b21_b34 : b21 ≠ b34 := Nat.ne_of_lt (Nat.lt_of_lt_of_le (A_b21_33).lt (Nat.le_of_eq g34.symm))
  have n0_b34 : n0 ≤ b34 := Nat.le_trans Zs33 (Nat.le_of_eq g34.symm)
  have A_b21_34 := (A_b21_33).ext E34
  have Zs34 := Nat.le_trans Zs33 E34.1
  have F_bytes_b34 : Fld Z h34 b34 "com/example/wakachi/wakachi/VarInts$Reader" "bytes" "[B" .null := D34 (Or.inr (hw _ (List.mem_of_getElem? (i := 16) rfl))) (ty := (.array .byte)) (by decide)
  have F_position_b34 : Fld Z h34 b34 "com/example/wakachi/wakachi/VarInts$Reader" "position" "I" (.int (0 : Int32)) := D34 (Or.inl (hw _ (List.mem_of_getElem? (i := 18) rfl))) (ty := .int) (by decide)
  have F_to_b34 : Fld Z h34 b34 "com/example/wakachi/wakachi/VarInts$Reader" "to" "I" (.int (0 : Int32)) := D34 (Or.inr (hw _ (List.mem_of_getElem? (i := 20) rfl))) (ty := .int) (by decide)
  refine own_step (fun _ kc_ => st34 _ kc_) ?_
  show own_Ends p e below s _ _ _ (T34.setTop (mkF m 270 #[.val (.int p1), .val (.int p2), .val (.int p3), .val (.int p4), .val (.int p5), .val (.int p6), .val (.int nn), .val (.int (1 : Int32)), .val (.int fr), .val (.int qb), .val (.ref b21), .val (.int sc), .val (.int cc), .unset, .unset, .unset, .unset, .unset] [(.ref b34)]))
  refine own_step (fun _ kc_ => XS.dup X34.here hx rfl (hb hby at_270) rfl rfl (XS.aload X34.here hx rfl (hb hby at_271) rfl rfl (XS.iload X34.here hx rfl (hb hby at_273) rfl (XS.iload X34.here hx rfl (hb hby at_275) rfl (XS.iload X34.here hx rfl (hb hby at_277) rfl (XS.iadd X34.here hx rfl (hb hby at_279) rfl kc_)))))) ?_
  show own_Ends p e below s _ _ _ (T34.setTop (mkF m 280 #[.val (.int p1), .val (.int p2), .val (.int p3), .val (.int p4), .val (.int p5), .val (.int p6), .val (.int nn), .val (.int (1 : Int32)), .val (.int fr), .val (.int qb), .val (.ref b21), .val (.int sc), .val (.int cc), .unset, .unset, .unset, .unset, .unset] [(.int (fr + cc)), (.int fr), (.ref b21), (.ref b34), (.ref b34)]))
  obtain ⟨C, hC, hcC⟩ : ∃ C : Nat, C < 3 ∧ cc = Int32.ofNat C := own_cut p4 (3 : Int32) 3 (by decide) rfl hcc
  have hto : fr + cc = Int32.ofNat (F + C) := by rw [hfr, hcC, Int32.ofNat_add]
  rw [hto]
  show own_Ends p e below s _ _ _ (T34.setTop (mkF m 280 #[.val (.int p1), .val (.int p2), .val (.int p3), .val (.int p4), .val (.int p5), .val (.int p6), .val (.int nn), .val (.int (1 : Int32)), .val (.int fr), .val (.int qb), .val (.ref b21), .val (.int sc), .val (.int cc), .unset, .unset, .unset, .unset, .unset] [(.int (Int32.ofNat (F + C))), (.int fr), (.ref b21), (.ref b34), (.ref b34)]))
  obtain ⟨vs, hvs⟩ : ∃ v : List Value, (((([(.int (nar .byte qb)), (.int (nar .byte qb)), (.int (nar .byte qb)), (.int (nar .byte qb)), (.int (nar .byte qb)), (.int (nar .byte qb)), (.int (nar .byte qb)), (.int (nar .byte qb)), (.int (nar .byte qb))]).set F (.int (nar .byte (own_enc nn (0 : Int32) (1 : Int32)))))).set (F + 1) (.int (nar .byte (sc.toInt8.toInt32)))) = v := ⟨_, rfl⟩
  have A_vs : own_Ar Z h34 b21 .byte vs := by rw [← hvs]; exact A_b21_34
  have hints : own_ints vs := by rw [← hvs]; exact own_ints_set (own_ints_set (own_ints9 _ _ _ _ _ _ _ _ _))
  have hlen : vs.length = 9 := by rw [← hvs]; simp only [List.length_set, List.length_cons, List.length_nil]
  have hb0 : own_iv vs (F + 0) = nar .byte (own_enc nn (0 : Int32) (1 : Int32)) := by rw [← hvs]; exact own_pk1_0 _ _ _  F hF
  have hb1 : own_iv vs (F + 1) = nar .byte (sc.toInt8.toInt32) := by rw [← hvs]; exact own_pk1_1 _ _ _  F hF
  obtain ⟨_, _, ⟨T35, L35, k35, n35⟩, -, X35, ⟨Lc35, hQ35, l35, y35, z35⟩, st35⟩ := X34.specialBack hx (y := (⟨"com/example/wakachi/wakachi/VarInts$Reader", "<init>", "([BII)V"⟩ : MethodName)) rfl hown (mvT hZ (hw _ (List.mem_of_getElem? (i := 9) rfl))) (mvT hZ (hw _ (List.mem_of_getElem? (i := 10) rfl))) (mvT hZ (hw _ (List.mem_of_getElem? (i := 11) rfl))) (by decide) (backOf (W := 1) (rm2 l Z a0 hw [] b34 b21 fr (Int32.ofNat (F + C))  h34 n0 Zs34 A34 F_bytes_b34 F_position_b34 F_to_b34 n0_b34) hZ (hw _ (List.mem_of_getElem? (i := 11) rfl)) (hw _ (List.mem_of_getElem? (i := 8) rfl)) (by decide) (by decide)) (g := (mkF m 280 #[.val (.int p1), .val (.int p2), .val (.int p3), .val (.int p4), .val (.int p5), .val (.int p6), .val (.int nn), .val (.int (1 : Int32)), .val (.int fr), .val (.int qb), .val (.ref b21), .val (.int sc), .val (.int cc), .unset, .unset, .unset, .unset, .unset] [(.int (Int32.ofNat (F + C))), (.int fr), (.ref b21), (.ref b34), (.ref b34)])) rfl (by rw [hml]; rfl) (Steps.refl _) (a := b34) (argsL := [(.ref b21), (.int fr), (.int (Int32.ofNat (F + C)))]) (rest := [(.ref b34)]) (lenOf pd_2 rfl) rfl (by show 2 * 0 + _ ≤ _; exact Nat.le_of_eq rfl) (hb hby at_280) (fun _ _ => ⟨rfl, e34, (by decide : 2 + 0 ≤ _), (by decide : 12 + 0 ≤ _)⟩)
  dsimp only [Pt.U, Pt.locs, Pt.cells, Pt.slots] at X35 l35 y35 z35 st35 hQ35
  subst y35 z35
  obtain ⟨rfl, N35q, K35k, fB35, fP35, fT35⟩ := hQ35
  rw [hfr] at fP35
  have A_b21_35 := (A_vs).keep K35k (ninS ne_b21_b34 nin0)
  have E_b34_35 := (A34).keep K35k
  have Zs35 := Nat.le_trans Zs34 K35k.1
  have N35 : Fr n0 L35 := by rw [l35]; exact Fr.app N33 N35q
  refine own_step (fun _ kc_ => st35.trans kc_) ?_
  show own_Ends p e below s _ _ _ (T35.setTop (mkF m 283 #[.val (.int p1), .val (.int p2), .val (.int p3), .val (.int p4), .val (.int p5), .val (.int p6), .val (.int nn), .val (.int (1 : Int32)), .val (.int fr), .val (.int qb), .val (.ref b21), .val (.int sc), .val (.int cc), .unset, .unset, .unset, .unset, .unset] [(.ref b34)]))
  refine own_step (fun _ kc_ => XS.astore X35.here hx rfl (hb hby at_283) rfl rfl (l' := #[.val (.int p1), .val (.int p2), .val (.int p3), .val (.int p4), .val (.int p5), .val (.int p6), .val (.int nn), .val (.int (1 : Int32)), .val (.int fr), .val (.int qb), .val (.ref b21), .val (.int sc), .val (.int cc), .val (.ref b34), .unset, .unset, .unset, .unset]) rfl kc_) ?_
  show own_Ends p e below s _ _ _ (T35.setTop (mkF m 285 #[.val (.int p1), .val (.int p2), .val (.int p3), .val (.int p4), .val (.int p5), .val (.int p6), .val (.int nn), .val (.int (1 : Int32)), .val (.int fr), .val (.int qb), .val (.ref b21), .val (.int sc), .val (.int cc), .val (.ref b34), .unset, .unset, .unset, .unset] []))
  rcases (show C < 1 ∨ C = 1 ∨ C = 2 by omega) with hC1 | hC1 | hC1
  · have hx1 : own_nx vs F 0 0 C = (-1, F + C) := own_nx_all vs C F 0 0 (own_neg1 vs F C nn hC1 hb0)
    have hx2 : own_nx vs (F + C) 0 0 0 = (-1, F + C) := rfl
    have hh1 := own_hasEq (F + C)
    have hh2 := own_hasEq (F + C)
    show own_Ends p e below s _ _ _ (T35.setTop (mkF m 285 #[.val (.int p1), .val (.int p2), .val (.int p3), .val (.int p4), .val (.int p5), .val (.int p6), .val (.int nn), .val (.int (1 : Int32)), .val (.int fr), .val (.int qb), .val (.ref b21), .val (.int sc), .val (.int cc), .val (.ref b34), .unset, .unset, .unset, .unset] []))
    refine own_step (fun _ kc_ => XS.aload X35.here hx rfl (hb hby at_285) rfl rfl kc_) ?_
    show own_Ends p e below s _ _ _ (T35.setTop (mkF m 287 #[.val (.int p1), .val (.int p2), .val (.int p3), .val (.int p4), .val (.int p5), .val (.int p6), .val (.int nn), .val (.int (1 : Int32)), .val (.int fr), .val (.int qb), .val (.ref b21), .val (.int sc), .val (.int cc), .val (.ref b34), .unset, .unset, .unset, .unset] [(.ref b34)]))
    obtain ⟨cq36, kq36, q36a, q36b, q36c⟩ := isOf hZ rfl E_b34_35
    obtain ⟨_, _, ⟨T36, L36, k36, n36⟩, -, X36, ⟨Lc36, hQ36, l36, y36, z36⟩, st36⟩ := X35.virtualBack hx (y := (⟨"com/example/wakachi/wakachi/VarInts$Reader", "next", "()I"⟩ : MethodName)) (z := (⟨"com/example/wakachi/wakachi/VarInts$Reader", "next", "()I"⟩ : MethodName)) hown (mvT hZ (hw _ (List.mem_of_getElem? (i := 21) rfl))) (mvT hZ (hw _ (List.mem_of_getElem? (i := 22) rfl))) (notFace_of_selects (args := #[]) (mvT hZ (hw _ (List.mem_of_getElem? (i := 24) rfl)))) (mvT hZ (hw _ (List.mem_of_getElem? (i := 24) rfl))) (mvT hZ (hw _ (List.mem_of_getElem? (i := 23) rfl))) (by decide) (backOf (W := 0) (rm4 l Z a0 hw [] b34 b21 vs F C T35.heap n0 Zs35 E_b34_35 fB35 fP35 fT35 A_b21_35 hints (by rw [hlen]; omega) n0_b34 (Ne.symm ne_b21_b34)) hZ (hw _ (List.mem_of_getElem? (i := 25) rfl)) (hw _ (List.mem_of_getElem? (i := 8) rfl)) (by decide) (by decide)) q36a q36c (g := (mkF m 287 #[.val (.int p1), .val (.int p2), .val (.int p3), .val (.int p4), .val (.int p5), .val (.int p6), .val (.int nn), .val (.int (1 : Int32)), .val (.int fr), .val (.int qb), .val (.ref b21), .val (.int sc), .val (.int cc), .val (.ref b34), .unset, .unset, .unset, .unset] [(.ref b34)])) rfl (by rw [hml]; rfl) (Steps.refl _) (argsL := []) (rest := []) (lenOf pd_3 rfl) rfl (by show 2 * 0 + _ ≤ _; exact Nat.le_of_eq rfl) (hb hby at_287) (fun _ _ => ⟨rfl, rfl, (by decide : 2 + 0 ≤ _), (by decide : 12 + 0 ≤ _)⟩)
    dsimp only [Pt.U, Pt.locs, Pt.cells, Pt.slots] at X36 l36 y36 z36 st36 hQ36
    subst y36 z36
    obtain ⟨hv36, N36q, K36k, fP36, fB36, fT36⟩ := hQ36
    rw [hx1] at hv36 fP36
    subst hv36
    have A_b21_36 := (A_b21_35).keep K36k (ninS ne_b21_b34 nin0)
    have E_b34_36 := (E_b34_35).keep K36k
    have Zs36 := Nat.le_trans Zs35 K36k.1
    have N36 : Fr n0 L36 := by rw [l36]; exact Fr.app N35 N36q
    refine own_step (fun _ kc_ => st36.trans kc_) ?_
    show own_Ends p e below s _ _ _ (T36.setTop (mkF m 290 #[.val (.int p1), .val (.int p2), .val (.int p3), .val (.int p4), .val (.int p5), .val (.int p6), .val (.int nn), .val (.int (1 : Int32)), .val (.int fr), .val (.int qb), .val (.ref b21), .val (.int sc), .val (.int cc), .val (.ref b34), .unset, .unset, .unset, .unset] [(.int (-1 : Int32))]))
    refine own_step (fun _ kc_ => XS.istore X36.here hx rfl (hb hby at_290) rfl (l' := #[.val (.int p1), .val (.int p2), .val (.int p3), .val (.int p4), .val (.int p5), .val (.int p6), .val (.int nn), .val (.int (1 : Int32)), .val (.int fr), .val (.int qb), .val (.ref b21), .val (.int sc), .val (.int cc), .val (.ref b34), .val (.int (-1 : Int32)), .unset, .unset, .unset]) rfl (XS.aload X36.here hx rfl (hb hby at_292) rfl rfl kc_)) ?_
    show own_Ends p e below s _ _ _ (T36.setTop (mkF m 294 #[.val (.int p1), .val (.int p2), .val (.int p3), .val (.int p4), .val (.int p5), .val (.int p6), .val (.int nn), .val (.int (1 : Int32)), .val (.int fr), .val (.int qb), .val (.ref b21), .val (.int sc), .val (.int cc), .val (.ref b34), .val (.int (-1 : Int32)), .unset, .unset, .unset] [(.ref b34)]))
    obtain ⟨cq37, kq37, q37a, q37b, q37c⟩ := isOf hZ rfl E_b34_36
    obtain ⟨_, _, ⟨T37, L37, k37, n37⟩, -, X37, ⟨Lc37, hQ37, l37, y37, z37⟩, st37⟩ := X36.virtualBack hx (y := (⟨"com/example/wakachi/wakachi/VarInts$Reader", "hasNext", "()Z"⟩ : MethodName)) (z := (⟨"com/example/wakachi/wakachi/VarInts$Reader", "hasNext", "()Z"⟩ : MethodName)) hown (mvT hZ (hw _ (List.mem_of_getElem? (i := 26) rfl))) (mvT hZ (hw _ (List.mem_of_getElem? (i := 27) rfl))) (notFace_of_selects (args := #[]) (mvT hZ (hw _ (List.mem_of_getElem? (i := 29) rfl)))) (mvT hZ (hw _ (List.mem_of_getElem? (i := 29) rfl))) (mvT hZ (hw _ (List.mem_of_getElem? (i := 28) rfl))) (by decide) (backOf (W := 0) (rm5 l Z a0 hw [] b34 (Int32.ofNat (F + C)) (Int32.ofNat (F + C)) T36.heap n0 Zs36 fP36 fT36) hZ (hw _ (List.mem_of_getElem? (i := 30) rfl)) (hw _ (List.mem_of_getElem? (i := 8) rfl)) (by decide) (by decide)) q37a q37c (g := (mkF m 294 #[.val (.int p1), .val (.int p2), .val (.int p3), .val (.int p4), .val (.int p5), .val (.int p6), .val (.int nn), .val (.int (1 : Int32)), .val (.int fr), .val (.int qb), .val (.ref b21), .val (.int sc), .val (.int cc), .val (.ref b34), .val (.int (-1 : Int32)), .unset, .unset, .unset] [(.ref b34)])) rfl (by rw [hml]; rfl) (Steps.refl _) (argsL := []) (rest := []) (lenOf pd_4 rfl) rfl (by show 2 * 0 + _ ≤ _; exact Nat.le_of_eq rfl) (hb hby at_294) (fun _ _ => ⟨rfl, rfl, (by decide : 2 + 0 ≤ _), (by decide : 12 + 0 ≤ _)⟩)
    dsimp only [Pt.U, Pt.locs, Pt.cells, Pt.slots] at X37 l37 y37 z37 st37 hQ37
    subst y37 z37
    obtain ⟨hv37, N37q, e37⟩ := hQ37
    rw [hh1] at hv37
    subst hv37
    have e37h : T37.heap = T36.heap := e37
    have N37 : Fr n0 L37 := by rw [l37]; exact Fr.app N36 N37q
    refine own_step (fun _ kc_ => st37.trans kc_) ?_
    show own_Ends p e below s _ _ _ (T37.setTop (mkF m 297 #[.val (.int p1), .val (.int p2), .val (.int p3), .val (.int p4), .val (.int p5), .val (.int p6), .val (.int nn), .val (.int (1 : Int32)), .val (.int fr), .val (.int qb), .val (.ref b21), .val (.int sc), .val (.int cc), .val (.ref b34), .val (.int (-1 : Int32)), .unset, .unset, .unset] [(.int (0 : Int32))]))
    refine own_step (fun _ kc_ => XS.istore X37.here hx rfl (hb hby at_297) rfl (l' := #[.val (.int p1), .val (.int p2), .val (.int p3), .val (.int p4), .val (.int p5), .val (.int p6), .val (.int nn), .val (.int (1 : Int32)), .val (.int fr), .val (.int qb), .val (.ref b21), .val (.int sc), .val (.int cc), .val (.ref b34), .val (.int (-1 : Int32)), .val (.int (0 : Int32)), .unset, .unset]) rfl (XS.aload X37.here hx rfl (hb hby at_299) rfl rfl kc_)) ?_
    show own_Ends p e below s _ _ _ (T37.setTop (mkF m 301 #[.val (.int p1), .val (.int p2), .val (.int p3), .val (.int p4), .val (.int p5), .val (.int p6), .val (.int nn), .val (.int (1 : Int32)), .val (.int fr), .val (.int qb), .val (.ref b21), .val (.int sc), .val (.int cc), .val (.ref b34), .val (.int (-1 : Int32)), .val (.int (0 : Int32)), .unset, .unset] [(.ref b34)]))
    obtain ⟨cq38, kq38, q38a, q38b, q38c⟩ := isOf hZ e37h E_b34_36
    obtain ⟨_, _, ⟨T38, L38, k38, n38⟩, -, X38, ⟨Lc38, hQ38, l38, y38, z38⟩, st38⟩ := X37.virtualBack hx (y := (⟨"com/example/wakachi/wakachi/VarInts$Reader", "next", "()I"⟩ : MethodName)) (z := (⟨"com/example/wakachi/wakachi/VarInts$Reader", "next", "()I"⟩ : MethodName)) hown (mvT hZ (hw _ (List.mem_of_getElem? (i := 21) rfl))) (mvT hZ (hw _ (List.mem_of_getElem? (i := 22) rfl))) (notFace_of_selects (args := #[]) (mvT hZ (hw _ (List.mem_of_getElem? (i := 24) rfl)))) (mvT hZ (hw _ (List.mem_of_getElem? (i := 24) rfl))) (mvT hZ (hw _ (List.mem_of_getElem? (i := 23) rfl))) (by decide) (backOf (W := 0) (rm4 l Z a0 hw [] b34 b21 vs (F + C) 0 T36.heap n0 Zs36 E_b34_36 fB36 fP36 fT36 A_b21_36 hints (by rw [hlen]; omega) n0_b34 (Ne.symm ne_b21_b34)) hZ (hw _ (List.mem_of_getElem? (i := 25) rfl)) (hw _ (List.mem_of_getElem? (i := 8) rfl)) (by decide) (by decide)) q38a q38c (g := (mkF m 301 #[.val (.int p1), .val (.int p2), .val (.int p3), .val (.int p4), .val (.int p5), .val (.int p6), .val (.int nn), .val (.int (1 : Int32)), .val (.int fr), .val (.int qb), .val (.ref b21), .val (.int sc), .val (.int cc), .val (.ref b34), .val (.int (-1 : Int32)), .val (.int (0 : Int32)), .unset, .unset] [(.ref b34)])) rfl (by rw [hml]; rfl) (Steps.refl _) (argsL := []) (rest := []) (lenOf pd_3 rfl) rfl (by show 2 * 0 + _ ≤ _; exact Nat.le_of_eq rfl) (hb hby at_301) (fun _ _ => ⟨rfl, e37h, (by decide : 2 + 0 ≤ _), (by decide : 12 + 0 ≤ _)⟩)
    dsimp only [Pt.U, Pt.locs, Pt.cells, Pt.slots] at X38 l38 y38 z38 st38 hQ38
    subst y38 z38
    obtain ⟨hv38, N38q, K38k, fP38, fB38, fT38⟩ := hQ38
    rw [hx2] at hv38 fP38
    subst hv38
    have A_b21_38 := (A_b21_36).keep K38k (ninS ne_b21_b34 nin0)
    have E_b34_38 := (E_b34_36).keep K38k
    have Zs38 := Nat.le_trans Zs36 K38k.1
    have N38 : Fr n0 L38 := by rw [l38]; exact Fr.app N37 N38q
    refine own_step (fun _ kc_ => st38.trans kc_) ?_
    show own_Ends p e below s _ _ _ (T38.setTop (mkF m 304 #[.val (.int p1), .val (.int p2), .val (.int p3), .val (.int p4), .val (.int p5), .val (.int p6), .val (.int nn), .val (.int (1 : Int32)), .val (.int fr), .val (.int qb), .val (.ref b21), .val (.int sc), .val (.int cc), .val (.ref b34), .val (.int (-1 : Int32)), .val (.int (0 : Int32)), .unset, .unset] [(.int (-1 : Int32))]))
    refine own_step (fun _ kc_ => XS.istore X38.here hx rfl (hb hby at_304) rfl (l' := #[.val (.int p1), .val (.int p2), .val (.int p3), .val (.int p4), .val (.int p5), .val (.int p6), .val (.int nn), .val (.int (1 : Int32)), .val (.int fr), .val (.int qb), .val (.ref b21), .val (.int sc), .val (.int cc), .val (.ref b34), .val (.int (-1 : Int32)), .val (.int (0 : Int32)), .val (.int (-1 : Int32)), .unset]) rfl (XS.aload X38.here hx rfl (hb hby at_306) rfl rfl kc_)) ?_
    show own_Ends p e below s _ _ _ (T38.setTop (mkF m 308 #[.val (.int p1), .val (.int p2), .val (.int p3), .val (.int p4), .val (.int p5), .val (.int p6), .val (.int nn), .val (.int (1 : Int32)), .val (.int fr), .val (.int qb), .val (.ref b21), .val (.int sc), .val (.int cc), .val (.ref b34), .val (.int (-1 : Int32)), .val (.int (0 : Int32)), .val (.int (-1 : Int32)), .unset] [(.ref b34)]))
    obtain ⟨cq39, kq39, q39a, q39b, q39c⟩ := isOf hZ rfl E_b34_38
    obtain ⟨_, _, ⟨T39, L39, k39, n39⟩, -, X39, ⟨Lc39, hQ39, l39, y39, z39⟩, st39⟩ := X38.virtualBack hx (y := (⟨"com/example/wakachi/wakachi/VarInts$Reader", "hasNext", "()Z"⟩ : MethodName)) (z := (⟨"com/example/wakachi/wakachi/VarInts$Reader", "hasNext", "()Z"⟩ : MethodName)) hown (mvT hZ (hw _ (List.mem_of_getElem? (i := 26) rfl))) (mvT hZ (hw _ (List.mem_of_getElem? (i := 27) rfl))) (notFace_of_selects (args := #[]) (mvT hZ (hw _ (List.mem_of_getElem? (i := 29) rfl)))) (mvT hZ (hw _ (List.mem_of_getElem? (i := 29) rfl))) (mvT hZ (hw _ (List.mem_of_getElem? (i := 28) rfl))) (by decide) (backOf (W := 0) (rm5 l Z a0 hw [] b34 (Int32.ofNat (F + C)) (Int32.ofNat (F + C)) T38.heap n0 Zs38 fP38 fT38) hZ (hw _ (List.mem_of_getElem? (i := 30) rfl)) (hw _ (List.mem_of_getElem? (i := 8) rfl)) (by decide) (by decide)) q39a q39c (g := (mkF m 308 #[.val (.int p1), .val (.int p2), .val (.int p3), .val (.int p4), .val (.int p5), .val (.int p6), .val (.int nn), .val (.int (1 : Int32)), .val (.int fr), .val (.int qb), .val (.ref b21), .val (.int sc), .val (.int cc), .val (.ref b34), .val (.int (-1 : Int32)), .val (.int (0 : Int32)), .val (.int (-1 : Int32)), .unset] [(.ref b34)])) rfl (by rw [hml]; rfl) (Steps.refl _) (argsL := []) (rest := []) (lenOf pd_4 rfl) rfl (by show 2 * 0 + _ ≤ _; exact Nat.le_of_eq rfl) (hb hby at_308) (fun _ _ => ⟨rfl, rfl, (by decide : 2 + 0 ≤ _), (by decide : 12 + 0 ≤ _)⟩)
    dsimp only [Pt.U, Pt.locs, Pt.cells, Pt.slots] at X39 l39 y39 z39 st39 hQ39
    subst y39 z39
    obtain ⟨hv39, N39q, e39⟩ := hQ39
    rw [hh2] at hv39
    subst hv39
    have e39h : T39.heap = T38.heap := e39
    have N39 : Fr n0 L39 := by rw [l39]; exact Fr.app N38 N39q
    refine own_step (fun _ kc_ => st39.trans kc_) ?_
    show own_Ends p e below s _ _ _ (T39.setTop (mkF m 311 #[.val (.int p1), .val (.int p2), .val (.int p3), .val (.int p4), .val (.int p5), .val (.int p6), .val (.int nn), .val (.int (1 : Int32)), .val (.int fr), .val (.int qb), .val (.ref b21), .val (.int sc), .val (.int cc), .val (.ref b34), .val (.int (-1 : Int32)), .val (.int (0 : Int32)), .val (.int (-1 : Int32)), .unset] [(.int (0 : Int32))]))
    refine own_step (fun _ kc_ => XS.istore X39.here hx rfl (hb hby at_311) rfl (l' := #[.val (.int p1), .val (.int p2), .val (.int p3), .val (.int p4), .val (.int p5), .val (.int p6), .val (.int nn), .val (.int (1 : Int32)), .val (.int fr), .val (.int qb), .val (.ref b21), .val (.int sc), .val (.int cc), .val (.ref b34), .val (.int (-1 : Int32)), .val (.int (0 : Int32)), .val (.int (-1 : Int32)), .val (.int (0 : Int32))]) rfl (XS.iload X39.here hx rfl (hb hby at_313) rfl (XS.iload X39.here hx rfl (hb hby at_315) rfl (XS.icmpNo X39.here hx rfl (hb hby at_317) rfl (XT.ii_ge_f (by rw [hcC]; exact own_ofNat_lt hC1 (by decide) : cc < (1 : Int32))) (XS.iload X39.here hx rfl (hb hby at_320) rfl (XS.iconst X39.here hx rfl (hb hby at_322) (XS.icmpNo X39.here hx rfl (hb hby at_323) rfl (XT.ii_ne_f (by decide : (-1 : Int32) = (-1 : Int32))) (XS.iload X39.here hx rfl (hb hby at_326) rfl kc_)))))))) ?_
    show own_Ends p e below s _ _ _ (T39.setTop (mkF m 328 #[.val (.int p1), .val (.int p2), .val (.int p3), .val (.int p4), .val (.int p5), .val (.int p6), .val (.int nn), .val (.int (1 : Int32)), .val (.int fr), .val (.int qb), .val (.ref b21), .val (.int sc), .val (.int cc), .val (.ref b34), .val (.int (-1 : Int32)), .val (.int (0 : Int32)), .val (.int (-1 : Int32)), .val (.int (0 : Int32))] [(.int (0 : Int32))]))
    refine own_step (fun _ kc_ => XS.ifNo X39.here hx rfl (hb hby at_328) rfl (XT.i0_ne_f (by decide : (0 : Int32) = 0)) (XS.iload X39.here hx rfl (hb hby at_331) rfl (XS.iconst X39.here hx rfl (hb hby at_333) (XS.icmpNo X39.here hx rfl (hb hby at_334) rfl (XT.ii_ne_f (by decide : (-1 : Int32) = (-1 : Int32))) (XS.iload X39.here hx rfl (hb hby at_337) rfl (XS.ifNo X39.here hx rfl (hb hby at_339) rfl (XT.i0_ne_f (by decide : (0 : Int32) = 0)) (XS.iconst X39.here hx rfl (hb hby at_342) (XS.goto X39.here hx rfl (pc0 := 343) (pc' := 347) rfl (hb hby at_343) (by decide) (by decide) kc_)))))))) ?_
    show own_Ends p e below s _ _ _ (T39.setTop (mkF m 347 #[.val (.int p1), .val (.int p2), .val (.int p3), .val (.int p4), .val (.int p5), .val (.int p6), .val (.int nn), .val (.int (1 : Int32)), .val (.int fr), .val (.int qb), .val (.ref b21), .val (.int sc), .val (.int cc), .val (.ref b34), .val (.int (-1 : Int32)), .val (.int (0 : Int32)), .val (.int (-1 : Int32)), .val (.int (0 : Int32))] [(.int (1 : Int32))]))
    exact own_retN X39 hx (t := .boolean) hret (by simp) hlk (hb hby at_347) (by decide) (by decide) rfl ⟨rfl, N39⟩
  · subst hC1
    have hx1 : own_nx vs F 0 0 1 = (nn, F + 1) := own_run1 vs F 0 nn hn0 hn1 hb0
    have hx2 : own_nx vs (F + 1) 0 0 0 = (-1, F + 1) := rfl
    have hh1 := own_hasEq (F + 1)
    have hh2 := own_hasEq (F + 1)
    show own_Ends p e below s _ _ _ (T35.setTop (mkF m 285 #[.val (.int p1), .val (.int p2), .val (.int p3), .val (.int p4), .val (.int p5), .val (.int p6), .val (.int nn), .val (.int (1 : Int32)), .val (.int fr), .val (.int qb), .val (.ref b21), .val (.int sc), .val (.int cc), .val (.ref b34), .unset, .unset, .unset, .unset] []))
    refine own_step (fun _ kc_ => XS.aload X35.here hx rfl (hb hby at_285) rfl rfl kc_) ?_
    show own_Ends p e below s _ _ _ (T35.setTop (mkF m 287 #[.val (.int p1), .val (.int p2), .val (.int p3), .val (.int p4), .val (.int p5), .val (.int p6), .val (.int nn), .val (.int (1 : Int32)), .val (.int fr), .val (.int qb), .val (.ref b21), .val (.int sc), .val (.int cc), .val (.ref b34), .unset, .unset, .unset, .unset] [(.ref b34)]))
    obtain ⟨cq40, kq40, q40a, q40b, q40c⟩ := isOf hZ rfl E_b34_35
    obtain ⟨_, _, ⟨T40, L40, k40, n40⟩, -, X40, ⟨Lc40, hQ40, l40, y40, z40⟩, st40⟩ := X35.virtualBack hx (y := (⟨"com/example/wakachi/wakachi/VarInts$Reader", "next", "()I"⟩ : MethodName)) (z := (⟨"com/example/wakachi/wakachi/VarInts$Reader", "next", "()I"⟩ : MethodName)) hown (mvT hZ (hw _ (List.mem_of_getElem? (i := 21) rfl))) (mvT hZ (hw _ (List.mem_of_getElem? (i := 22) rfl))) (notFace_of_selects (args := #[]) (mvT hZ (hw _ (List.mem_of_getElem? (i := 24) rfl)))) (mvT hZ (hw _ (List.mem_of_getElem? (i := 24) rfl))) (mvT hZ (hw _ (List.mem_of_getElem? (i := 23) rfl))) (by decide) (backOf (W := 0) (rm4 l Z a0 hw [] b34 b21 vs F 1 T35.heap n0 Zs35 E_b34_35 fB35 fP35 fT35 A_b21_35 hints (by rw [hlen]; omega) n0_b34 (Ne.symm ne_b21_b34)) hZ (hw _ (List.mem_of_getElem? (i := 25) rfl)) (hw _ (List.mem_of_getElem? (i := 8) rfl)) (by decide) (by decide)) q40a q40c (g := (mkF m 287 #[.val (.int p1), .val (.int p2), .val (.int p3), .val (.int p4), .val (.int p5), .val (.int p6), .val (.int nn), .val (.int (1 : Int32)), .val (.int fr), .val (.int qb), .val (.ref b21), .val (.int sc), .val (.int cc), .val (.ref b34), .unset, .unset, .unset, .unset] [(.ref b34)])) rfl (by rw [hml]; rfl) (Steps.refl _) (argsL := []) (rest := []) (lenOf pd_3 rfl) rfl (by show 2 * 0 + _ ≤ _; exact Nat.le_of_eq rfl) (hb hby at_287) (fun _ _ => ⟨rfl, rfl, (by decide : 2 + 0 ≤ _), (by decide : 12 + 0 ≤ _)⟩)
    dsimp only [Pt.U, Pt.locs, Pt.cells, Pt.slots] at X40 l40 y40 z40 st40 hQ40
    subst y40 z40
    obtain ⟨hv40, N40q, K40k, fP40, fB40, fT40⟩ := hQ40
    rw [hx1] at hv40 fP40
    subst hv40
    have A_b21_40 := (A_b21_35).keep K40k (ninS ne_b21_b34 nin0)
    have E_b34_40 := (E_b34_35).keep K40k
    have Zs40 := Nat.le_trans Zs35 K40k.1
    have N40 : Fr n0 L40 := by rw [l40]; exact Fr.app N35 N40q
    refine own_step (fun _ kc_ => st40.trans kc_) ?_
    show own_Ends p e below s _ _ _ (T40.setTop (mkF m 290 #[.val (.int p1), .val (.int p2), .val (.int p3), .val (.int p4), .val (.int p5), .val (.int p6), .val (.int nn), .val (.int (1 : Int32)), .val (.int fr), .val (.int qb), .val (.ref b21), .val (.int sc), .val (.int cc), .val (.ref b34), .unset, .unset, .unset, .unset] [(.int nn)]))
    refine own_step (fun _ kc_ => XS.istore X40.here hx rfl (hb hby at_290) rfl (l' := #[.val (.int p1), .val (.int p2), .val (.int p3), .val (.int p4), .val (.int p5), .val (.int p6), .val (.int nn), .val (.int (1 : Int32)), .val (.int fr), .val (.int qb), .val (.ref b21), .val (.int sc), .val (.int cc), .val (.ref b34), .val (.int nn), .unset, .unset, .unset]) rfl (XS.aload X40.here hx rfl (hb hby at_292) rfl rfl kc_)) ?_
    show own_Ends p e below s _ _ _ (T40.setTop (mkF m 294 #[.val (.int p1), .val (.int p2), .val (.int p3), .val (.int p4), .val (.int p5), .val (.int p6), .val (.int nn), .val (.int (1 : Int32)), .val (.int fr), .val (.int qb), .val (.ref b21), .val (.int sc), .val (.int cc), .val (.ref b34), .val (.int nn), .unset, .unset, .unset] [(.ref b34)]))
    obtain ⟨cq41, kq41, q41a, q41b, q41c⟩ := isOf hZ rfl E_b34_40
    obtain ⟨_, _, ⟨T41, L41, k41, n41⟩, -, X41, ⟨Lc41, hQ41, l41, y41, z41⟩, st41⟩ := X40.virtualBack hx (y := (⟨"com/example/wakachi/wakachi/VarInts$Reader", "hasNext", "()Z"⟩ : MethodName)) (z := (⟨"com/example/wakachi/wakachi/VarInts$Reader", "hasNext", "()Z"⟩ : MethodName)) hown (mvT hZ (hw _ (List.mem_of_getElem? (i := 26) rfl))) (mvT hZ (hw _ (List.mem_of_getElem? (i := 27) rfl))) (notFace_of_selects (args := #[]) (mvT hZ (hw _ (List.mem_of_getElem? (i := 29) rfl)))) (mvT hZ (hw _ (List.mem_of_getElem? (i := 29) rfl))) (mvT hZ (hw _ (List.mem_of_getElem? (i := 28) rfl))) (by decide) (backOf (W := 0) (rm5 l Z a0 hw [] b34 (Int32.ofNat (F + 1)) (Int32.ofNat (F + 1)) T40.heap n0 Zs40 fP40 fT40) hZ (hw _ (List.mem_of_getElem? (i := 30) rfl)) (hw _ (List.mem_of_getElem? (i := 8) rfl)) (by decide) (by decide)) q41a q41c (g := (mkF m 294 #[.val (.int p1), .val (.int p2), .val (.int p3), .val (.int p4), .val (.int p5), .val (.int p6), .val (.int nn), .val (.int (1 : Int32)), .val (.int fr), .val (.int qb), .val (.ref b21), .val (.int sc), .val (.int cc), .val (.ref b34), .val (.int nn), .unset, .unset, .unset] [(.ref b34)])) rfl (by rw [hml]; rfl) (Steps.refl _) (argsL := []) (rest := []) (lenOf pd_4 rfl) rfl (by show 2 * 0 + _ ≤ _; exact Nat.le_of_eq rfl) (hb hby at_294) (fun _ _ => ⟨rfl, rfl, (by decide : 2 + 0 ≤ _), (by decide : 12 + 0 ≤ _)⟩)
    dsimp only [Pt.U, Pt.locs, Pt.cells, Pt.slots] at X41 l41 y41 z41 st41 hQ41
    subst y41 z41
    obtain ⟨hv41, N41q, e41⟩ := hQ41
    rw [hh1] at hv41
    subst hv41
    have e41h : T41.heap = T40.heap := e41
    have N41 : Fr n0 L41 := by rw [l41]; exact Fr.app N40 N41q
    refine own_step (fun _ kc_ => st41.trans kc_) ?_
    show own_Ends p e below s _ _ _ (T41.setTop (mkF m 297 #[.val (.int p1), .val (.int p2), .val (.int p3), .val (.int p4), .val (.int p5), .val (.int p6), .val (.int nn), .val (.int (1 : Int32)), .val (.int fr), .val (.int qb), .val (.ref b21), .val (.int sc), .val (.int cc), .val (.ref b34), .val (.int nn), .unset, .unset, .unset] [(.int (0 : Int32))]))
    refine own_step (fun _ kc_ => XS.istore X41.here hx rfl (hb hby at_297) rfl (l' := #[.val (.int p1), .val (.int p2), .val (.int p3), .val (.int p4), .val (.int p5), .val (.int p6), .val (.int nn), .val (.int (1 : Int32)), .val (.int fr), .val (.int qb), .val (.ref b21), .val (.int sc), .val (.int cc), .val (.ref b34), .val (.int nn), .val (.int (0 : Int32)), .unset, .unset]) rfl (XS.aload X41.here hx rfl (hb hby at_299) rfl rfl kc_)) ?_
    show own_Ends p e below s _ _ _ (T41.setTop (mkF m 301 #[.val (.int p1), .val (.int p2), .val (.int p3), .val (.int p4), .val (.int p5), .val (.int p6), .val (.int nn), .val (.int (1 : Int32)), .val (.int fr), .val (.int qb), .val (.ref b21), .val (.int sc), .val (.int cc), .val (.ref b34), .val (.int nn), .val (.int (0 : Int32)), .unset, .unset] [(.ref b34)]))
    obtain ⟨cq42, kq42, q42a, q42b, q42c⟩ := isOf hZ e41h E_b34_40
    obtain ⟨_, _, ⟨T42, L42, k42, n42⟩, -, X42, ⟨Lc42, hQ42, l42, y42, z42⟩, st42⟩ := X41.virtualBack hx (y := (⟨"com/example/wakachi/wakachi/VarInts$Reader", "next", "()I"⟩ : MethodName)) (z := (⟨"com/example/wakachi/wakachi/VarInts$Reader", "next", "()I"⟩ : MethodName)) hown (mvT hZ (hw _ (List.mem_of_getElem? (i := 21) rfl))) (mvT hZ (hw _ (List.mem_of_getElem? (i := 22) rfl))) (notFace_of_selects (args := #[]) (mvT hZ (hw _ (List.mem_of_getElem? (i := 24) rfl)))) (mvT hZ (hw _ (List.mem_of_getElem? (i := 24) rfl))) (mvT hZ (hw _ (List.mem_of_getElem? (i := 23) rfl))) (by decide) (backOf (W := 0) (rm4 l Z a0 hw [] b34 b21 vs (F + 1) 0 T40.heap n0 Zs40 E_b34_40 fB40 fP40 fT40 A_b21_40 hints (by rw [hlen]; omega) n0_b34 (Ne.symm ne_b21_b34)) hZ (hw _ (List.mem_of_getElem? (i := 25) rfl)) (hw _ (List.mem_of_getElem? (i := 8) rfl)) (by decide) (by decide)) q42a q42c (g := (mkF m 301 #[.val (.int p1), .val (.int p2), .val (.int p3), .val (.int p4), .val (.int p5), .val (.int p6), .val (.int nn), .val (.int (1 : Int32)), .val (.int fr), .val (.int qb), .val (.ref b21), .val (.int sc), .val (.int cc), .val (.ref b34), .val (.int nn), .val (.int (0 : Int32)), .unset, .unset] [(.ref b34)])) rfl (by rw [hml]; rfl) (Steps.refl _) (argsL := []) (rest := []) (lenOf pd_3 rfl) rfl (by show 2 * 0 + _ ≤ _; exact Nat.le_of_eq rfl) (hb hby at_301) (fun _ _ => ⟨rfl, e41h, (by decide : 2 + 0 ≤ _), (by decide : 12 + 0 ≤ _)⟩)
    dsimp only [Pt.U, Pt.locs, Pt.cells, Pt.slots] at X42 l42 y42 z42 st42 hQ42
    subst y42 z42
    obtain ⟨hv42, N42q, K42k, fP42, fB42, fT42⟩ := hQ42
    rw [hx2] at hv42 fP42
    subst hv42
    have A_b21_42 := (A_b21_40).keep K42k (ninS ne_b21_b34 nin0)
    have E_b34_42 := (E_b34_40).keep K42k
    have Zs42 := Nat.le_trans Zs40 K42k.1
    have N42 : Fr n0 L42 := by rw [l42]; exact Fr.app N41 N42q
    refine own_step (fun _ kc_ => st42.trans kc_) ?_
    show own_Ends p e below s _ _ _ (T42.setTop (mkF m 304 #[.val (.int p1), .val (.int p2), .val (.int p3), .val (.int p4), .val (.int p5), .val (.int p6), .val (.int nn), .val (.int (1 : Int32)), .val (.int fr), .val (.int qb), .val (.ref b21), .val (.int sc), .val (.int cc), .val (.ref b34), .val (.int nn), .val (.int (0 : Int32)), .unset, .unset] [(.int (-1 : Int32))]))
    refine own_step (fun _ kc_ => XS.istore X42.here hx rfl (hb hby at_304) rfl (l' := #[.val (.int p1), .val (.int p2), .val (.int p3), .val (.int p4), .val (.int p5), .val (.int p6), .val (.int nn), .val (.int (1 : Int32)), .val (.int fr), .val (.int qb), .val (.ref b21), .val (.int sc), .val (.int cc), .val (.ref b34), .val (.int nn), .val (.int (0 : Int32)), .val (.int (-1 : Int32)), .unset]) rfl (XS.aload X42.here hx rfl (hb hby at_306) rfl rfl kc_)) ?_
    show own_Ends p e below s _ _ _ (T42.setTop (mkF m 308 #[.val (.int p1), .val (.int p2), .val (.int p3), .val (.int p4), .val (.int p5), .val (.int p6), .val (.int nn), .val (.int (1 : Int32)), .val (.int fr), .val (.int qb), .val (.ref b21), .val (.int sc), .val (.int cc), .val (.ref b34), .val (.int nn), .val (.int (0 : Int32)), .val (.int (-1 : Int32)), .unset] [(.ref b34)]))
    obtain ⟨cq43, kq43, q43a, q43b, q43c⟩ := isOf hZ rfl E_b34_42
    obtain ⟨_, _, ⟨T43, L43, k43, n43⟩, -, X43, ⟨Lc43, hQ43, l43, y43, z43⟩, st43⟩ := X42.virtualBack hx (y := (⟨"com/example/wakachi/wakachi/VarInts$Reader", "hasNext", "()Z"⟩ : MethodName)) (z := (⟨"com/example/wakachi/wakachi/VarInts$Reader", "hasNext", "()Z"⟩ : MethodName)) hown (mvT hZ (hw _ (List.mem_of_getElem? (i := 26) rfl))) (mvT hZ (hw _ (List.mem_of_getElem? (i := 27) rfl))) (notFace_of_selects (args := #[]) (mvT hZ (hw _ (List.mem_of_getElem? (i := 29) rfl)))) (mvT hZ (hw _ (List.mem_of_getElem? (i := 29) rfl))) (mvT hZ (hw _ (List.mem_of_getElem? (i := 28) rfl))) (by decide) (backOf (W := 0) (rm5 l Z a0 hw [] b34 (Int32.ofNat (F + 1)) (Int32.ofNat (F + 1)) T42.heap n0 Zs42 fP42 fT42) hZ (hw _ (List.mem_of_getElem? (i := 30) rfl)) (hw _ (List.mem_of_getElem? (i := 8) rfl)) (by decide) (by decide)) q43a q43c (g := (mkF m 308 #[.val (.int p1), .val (.int p2), .val (.int p3), .val (.int p4), .val (.int p5), .val (.int p6), .val (.int nn), .val (.int (1 : Int32)), .val (.int fr), .val (.int qb), .val (.ref b21), .val (.int sc), .val (.int cc), .val (.ref b34), .val (.int nn), .val (.int (0 : Int32)), .val (.int (-1 : Int32)), .unset] [(.ref b34)])) rfl (by rw [hml]; rfl) (Steps.refl _) (argsL := []) (rest := []) (lenOf pd_4 rfl) rfl (by show 2 * 0 + _ ≤ _; exact Nat.le_of_eq rfl) (hb hby at_308) (fun _ _ => ⟨rfl, rfl, (by decide : 2 + 0 ≤ _), (by decide : 12 + 0 ≤ _)⟩)
    dsimp only [Pt.U, Pt.locs, Pt.cells, Pt.slots] at X43 l43 y43 z43 st43 hQ43
    subst y43 z43
    obtain ⟨hv43, N43q, e43⟩ := hQ43
    rw [hh2] at hv43
    subst hv43
    have e43h : T43.heap = T42.heap := e43
    have N43 : Fr n0 L43 := by rw [l43]; exact Fr.app N42 N43q
    refine own_step (fun _ kc_ => st43.trans kc_) ?_
    show own_Ends p e below s _ _ _ (T43.setTop (mkF m 311 #[.val (.int p1), .val (.int p2), .val (.int p3), .val (.int p4), .val (.int p5), .val (.int p6), .val (.int nn), .val (.int (1 : Int32)), .val (.int fr), .val (.int qb), .val (.ref b21), .val (.int sc), .val (.int cc), .val (.ref b34), .val (.int nn), .val (.int (0 : Int32)), .val (.int (-1 : Int32)), .unset] [(.int (0 : Int32))]))
    refine own_step (fun _ kc_ => XS.istore X43.here hx rfl (hb hby at_311) rfl (l' := #[.val (.int p1), .val (.int p2), .val (.int p3), .val (.int p4), .val (.int p5), .val (.int p6), .val (.int nn), .val (.int (1 : Int32)), .val (.int fr), .val (.int qb), .val (.ref b21), .val (.int sc), .val (.int cc), .val (.ref b34), .val (.int nn), .val (.int (0 : Int32)), .val (.int (-1 : Int32)), .val (.int (0 : Int32))]) rfl (XS.iload X43.here hx rfl (hb hby at_313) rfl (XS.iload X43.here hx rfl (hb hby at_315) rfl (XS.icmpYes X43.here hx rfl (pc0 := 317) (pc' := 348) rfl (hb hby at_317) rfl (XT.ii_ge_t (by rw [hcC]; decide : ¬ (cc < (1 : Int32)))) (by decide) (by decide) (XS.iload X43.here hx rfl (hb hby at_348) rfl (XS.iload X43.here hx rfl (hb hby at_350) rfl (XS.icmpNo X43.here hx rfl (hb hby at_352) rfl (XT.ii_ne_f (by rw [hcC]; decide : cc = (1 : Int32))) (XS.iload X43.here hx rfl (hb hby at_355) rfl kc_)))))))) ?_
    show own_Ends p e below s _ _ _ (T43.setTop (mkF m 357 #[.val (.int p1), .val (.int p2), .val (.int p3), .val (.int p4), .val (.int p5), .val (.int p6), .val (.int nn), .val (.int (1 : Int32)), .val (.int fr), .val (.int qb), .val (.ref b21), .val (.int sc), .val (.int cc), .val (.ref b34), .val (.int nn), .val (.int (0 : Int32)), .val (.int (-1 : Int32)), .val (.int (0 : Int32))] [(.int nn)]))
    refine own_step (fun _ kc_ => XS.iload X43.here hx rfl (hb hby at_357) rfl (XS.icmpNo X43.here hx rfl (hb hby at_359) rfl (XT.ii_ne_f (rfl : nn = nn)) (XS.iload X43.here hx rfl (hb hby at_362) rfl (XS.ifNo X43.here hx rfl (hb hby at_364) rfl (XT.i0_ne_f (by decide : (0 : Int32) = 0)) (XS.iload X43.here hx rfl (hb hby at_367) rfl (XS.iconst X43.here hx rfl (hb hby at_369) (XS.icmpNo X43.here hx rfl (hb hby at_370) rfl (XT.ii_ne_f (by decide : (-1 : Int32) = (-1 : Int32))) (XS.iload X43.here hx rfl (hb hby at_373) rfl kc_)))))))) ?_
    show own_Ends p e below s _ _ _ (T43.setTop (mkF m 375 #[.val (.int p1), .val (.int p2), .val (.int p3), .val (.int p4), .val (.int p5), .val (.int p6), .val (.int nn), .val (.int (1 : Int32)), .val (.int fr), .val (.int qb), .val (.ref b21), .val (.int sc), .val (.int cc), .val (.ref b34), .val (.int nn), .val (.int (0 : Int32)), .val (.int (-1 : Int32)), .val (.int (0 : Int32))] [(.int (0 : Int32))]))
    refine own_step (fun _ kc_ => XS.ifNo X43.here hx rfl (hb hby at_375) rfl (XT.i0_ne_f (by decide : (0 : Int32) = 0)) (XS.iconst X43.here hx rfl (hb hby at_378) (XS.goto X43.here hx rfl (pc0 := 379) (pc' := 383) rfl (hb hby at_379) (by decide) (by decide) kc_))) ?_
    show own_Ends p e below s _ _ _ (T43.setTop (mkF m 383 #[.val (.int p1), .val (.int p2), .val (.int p3), .val (.int p4), .val (.int p5), .val (.int p6), .val (.int nn), .val (.int (1 : Int32)), .val (.int fr), .val (.int qb), .val (.ref b21), .val (.int sc), .val (.int cc), .val (.ref b34), .val (.int nn), .val (.int (0 : Int32)), .val (.int (-1 : Int32)), .val (.int (0 : Int32))] [(.int (1 : Int32))]))
    exact own_retN X43 hx (t := .boolean) hret (by simp) hlk (hb hby at_383) (by decide) (by decide) rfl ⟨rfl, N43⟩
  · subst hC1
    have hx1 : own_nx vs F 0 0 2 = (nn, F + 1) := own_run1 vs F 1 nn hn0 hn1 hb0
    have hs := own_sec p5
    rw [hsc, ← hb1] at hs
    have hx2 : own_nx vs (F + 1) 0 0 1 = (sc, F + 2) := by
      rw [own_nxF hs.1, hs.2, own_or0]
    have hh1 := own_hasLt (F + 1) (by omega)
    have hh2 := own_hasEq (F + 2)
    show own_Ends p e below s _ _ _ (T35.setTop (mkF m 285 #[.val (.int p1), .val (.int p2), .val (.int p3), .val (.int p4), .val (.int p5), .val (.int p6), .val (.int nn), .val (.int (1 : Int32)), .val (.int fr), .val (.int qb), .val (.ref b21), .val (.int sc), .val (.int cc), .val (.ref b34), .unset, .unset, .unset, .unset] []))
    refine own_step (fun _ kc_ => XS.aload X35.here hx rfl (hb hby at_285) rfl rfl kc_) ?_
    show own_Ends p e below s _ _ _ (T35.setTop (mkF m 287 #[.val (.int p1), .val (.int p2), .val (.int p3), .val (.int p4), .val (.int p5), .val (.int p6), .val (.int nn), .val (.int (1 : Int32)), .val (.int fr), .val (.int qb), .val (.ref b21), .val (.int sc), .val (.int cc), .val (.ref b34), .unset, .unset, .unset, .unset] [(.ref b34)]))
    obtain ⟨cq44, kq44, q44a, q44b, q44c⟩ := isOf hZ rfl E_b34_35
    obtain ⟨_, _, ⟨T44, L44, k44, n44⟩, -, X44, ⟨Lc44, hQ44, l44, y44, z44⟩, st44⟩ := X35.virtualBack hx (y := (⟨"com/example/wakachi/wakachi/VarInts$Reader", "next", "()I"⟩ : MethodName)) (z := (⟨"com/example/wakachi/wakachi/VarInts$Reader", "next", "()I"⟩ : MethodName)) hown (mvT hZ (hw _ (List.mem_of_getElem? (i := 21) rfl))) (mvT hZ (hw _ (List.mem_of_getElem? (i := 22) rfl))) (notFace_of_selects (args := #[]) (mvT hZ (hw _ (List.mem_of_getElem? (i := 24) rfl)))) (mvT hZ (hw _ (List.mem_of_getElem? (i := 24) rfl))) (mvT hZ (hw _ (List.mem_of_getElem? (i := 23) rfl))) (by decide) (backOf (W := 0) (rm4 l Z a0 hw [] b34 b21 vs F 2 T35.heap n0 Zs35 E_b34_35 fB35 fP35 fT35 A_b21_35 hints (by rw [hlen]; omega) n0_b34 (Ne.symm ne_b21_b34)) hZ (hw _ (List.mem_of_getElem? (i := 25) rfl)) (hw _ (List.mem_of_getElem? (i := 8) rfl)) (by decide) (by decide)) q44a q44c (g := (mkF m 287 #[.val (.int p1), .val (.int p2), .val (.int p3), .val (.int p4), .val (.int p5), .val (.int p6), .val (.int nn), .val (.int (1 : Int32)), .val (.int fr), .val (.int qb), .val (.ref b21), .val (.int sc), .val (.int cc), .val (.ref b34), .unset, .unset, .unset, .unset] [(.ref b34)])) rfl (by rw [hml]; rfl) (Steps.refl _) (argsL := []) (rest := []) (lenOf pd_3 rfl) rfl (by show 2 * 0 + _ ≤ _; exact Nat.le_of_eq rfl) (hb hby at_287) (fun _ _ => ⟨rfl, rfl, (by decide : 2 + 0 ≤ _), (by decide : 12 + 0 ≤ _)⟩)
    dsimp only [Pt.U, Pt.locs, Pt.cells, Pt.slots] at X44 l44 y44 z44 st44 hQ44
    subst y44 z44
    obtain ⟨hv44, N44q, K44k, fP44, fB44, fT44⟩ := hQ44
    rw [hx1] at hv44 fP44
    subst hv44
    have A_b21_44 := (A_b21_35).keep K44k (ninS ne_b21_b34 nin0)
    have E_b34_44 := (E_b34_35).keep K44k
    have Zs44 := Nat.le_trans Zs35 K44k.1
    have N44 : Fr n0 L44 := by rw [l44]; exact Fr.app N35 N44q
    refine own_step (fun _ kc_ => st44.trans kc_) ?_
    show own_Ends p e below s _ _ _ (T44.setTop (mkF m 290 #[.val (.int p1), .val (.int p2), .val (.int p3), .val (.int p4), .val (.int p5), .val (.int p6), .val (.int nn), .val (.int (1 : Int32)), .val (.int fr), .val (.int qb), .val (.ref b21), .val (.int sc), .val (.int cc), .val (.ref b34), .unset, .unset, .unset, .unset] [(.int nn)]))
    refine own_step (fun _ kc_ => XS.istore X44.here hx rfl (hb hby at_290) rfl (l' := #[.val (.int p1), .val (.int p2), .val (.int p3), .val (.int p4), .val (.int p5), .val (.int p6), .val (.int nn), .val (.int (1 : Int32)), .val (.int fr), .val (.int qb), .val (.ref b21), .val (.int sc), .val (.int cc), .val (.ref b34), .val (.int nn), .unset, .unset, .unset]) rfl (XS.aload X44.here hx rfl (hb hby at_292) rfl rfl kc_)) ?_
    show own_Ends p e below s _ _ _ (T44.setTop (mkF m 294 #[.val (.int p1), .val (.int p2), .val (.int p3), .val (.int p4), .val (.int p5), .val (.int p6), .val (.int nn), .val (.int (1 : Int32)), .val (.int fr), .val (.int qb), .val (.ref b21), .val (.int sc), .val (.int cc), .val (.ref b34), .val (.int nn), .unset, .unset, .unset] [(.ref b34)]))
    obtain ⟨cq45, kq45, q45a, q45b, q45c⟩ := isOf hZ rfl E_b34_44
    obtain ⟨_, _, ⟨T45, L45, k45, n45⟩, -, X45, ⟨Lc45, hQ45, l45, y45, z45⟩, st45⟩ := X44.virtualBack hx (y := (⟨"com/example/wakachi/wakachi/VarInts$Reader", "hasNext", "()Z"⟩ : MethodName)) (z := (⟨"com/example/wakachi/wakachi/VarInts$Reader", "hasNext", "()Z"⟩ : MethodName)) hown (mvT hZ (hw _ (List.mem_of_getElem? (i := 26) rfl))) (mvT hZ (hw _ (List.mem_of_getElem? (i := 27) rfl))) (notFace_of_selects (args := #[]) (mvT hZ (hw _ (List.mem_of_getElem? (i := 29) rfl)))) (mvT hZ (hw _ (List.mem_of_getElem? (i := 29) rfl))) (mvT hZ (hw _ (List.mem_of_getElem? (i := 28) rfl))) (by decide) (backOf (W := 0) (rm5 l Z a0 hw [] b34 (Int32.ofNat (F + 1)) (Int32.ofNat (F + 2)) T44.heap n0 Zs44 fP44 fT44) hZ (hw _ (List.mem_of_getElem? (i := 30) rfl)) (hw _ (List.mem_of_getElem? (i := 8) rfl)) (by decide) (by decide)) q45a q45c (g := (mkF m 294 #[.val (.int p1), .val (.int p2), .val (.int p3), .val (.int p4), .val (.int p5), .val (.int p6), .val (.int nn), .val (.int (1 : Int32)), .val (.int fr), .val (.int qb), .val (.ref b21), .val (.int sc), .val (.int cc), .val (.ref b34), .val (.int nn), .unset, .unset, .unset] [(.ref b34)])) rfl (by rw [hml]; rfl) (Steps.refl _) (argsL := []) (rest := []) (lenOf pd_4 rfl) rfl (by show 2 * 0 + _ ≤ _; exact Nat.le_of_eq rfl) (hb hby at_294) (fun _ _ => ⟨rfl, rfl, (by decide : 2 + 0 ≤ _), (by decide : 12 + 0 ≤ _)⟩)
    dsimp only [Pt.U, Pt.locs, Pt.cells, Pt.slots] at X45 l45 y45 z45 st45 hQ45
    subst y45 z45
    obtain ⟨hv45, N45q, e45⟩ := hQ45
    rw [hh1] at hv45
    subst hv45
    have e45h : T45.heap = T44.heap := e45
    have N45 : Fr n0 L45 := by rw [l45]; exact Fr.app N44 N45q
    refine own_step (fun _ kc_ => st45.trans kc_) ?_
    show own_Ends p e below s _ _ _ (T45.setTop (mkF m 297 #[.val (.int p1), .val (.int p2), .val (.int p3), .val (.int p4), .val (.int p5), .val (.int p6), .val (.int nn), .val (.int (1 : Int32)), .val (.int fr), .val (.int qb), .val (.ref b21), .val (.int sc), .val (.int cc), .val (.ref b34), .val (.int nn), .unset, .unset, .unset] [(.int (1 : Int32))]))
    refine own_step (fun _ kc_ => XS.istore X45.here hx rfl (hb hby at_297) rfl (l' := #[.val (.int p1), .val (.int p2), .val (.int p3), .val (.int p4), .val (.int p5), .val (.int p6), .val (.int nn), .val (.int (1 : Int32)), .val (.int fr), .val (.int qb), .val (.ref b21), .val (.int sc), .val (.int cc), .val (.ref b34), .val (.int nn), .val (.int (1 : Int32)), .unset, .unset]) rfl (XS.aload X45.here hx rfl (hb hby at_299) rfl rfl kc_)) ?_
    show own_Ends p e below s _ _ _ (T45.setTop (mkF m 301 #[.val (.int p1), .val (.int p2), .val (.int p3), .val (.int p4), .val (.int p5), .val (.int p6), .val (.int nn), .val (.int (1 : Int32)), .val (.int fr), .val (.int qb), .val (.ref b21), .val (.int sc), .val (.int cc), .val (.ref b34), .val (.int nn), .val (.int (1 : Int32)), .unset, .unset] [(.ref b34)]))
    obtain ⟨cq46, kq46, q46a, q46b, q46c⟩ := isOf hZ e45h E_b34_44
    obtain ⟨_, _, ⟨T46, L46, k46, n46⟩, -, X46, ⟨Lc46, hQ46, l46, y46, z46⟩, st46⟩ := X45.virtualBack hx (y := (⟨"com/example/wakachi/wakachi/VarInts$Reader", "next", "()I"⟩ : MethodName)) (z := (⟨"com/example/wakachi/wakachi/VarInts$Reader", "next", "()I"⟩ : MethodName)) hown (mvT hZ (hw _ (List.mem_of_getElem? (i := 21) rfl))) (mvT hZ (hw _ (List.mem_of_getElem? (i := 22) rfl))) (notFace_of_selects (args := #[]) (mvT hZ (hw _ (List.mem_of_getElem? (i := 24) rfl)))) (mvT hZ (hw _ (List.mem_of_getElem? (i := 24) rfl))) (mvT hZ (hw _ (List.mem_of_getElem? (i := 23) rfl))) (by decide) (backOf (W := 0) (rm4 l Z a0 hw [] b34 b21 vs (F + 1) 1 T44.heap n0 Zs44 E_b34_44 fB44 fP44 fT44 A_b21_44 hints (by rw [hlen]; omega) n0_b34 (Ne.symm ne_b21_b34)) hZ (hw _ (List.mem_of_getElem? (i := 25) rfl)) (hw _ (List.mem_of_getElem? (i := 8) rfl)) (by decide) (by decide)) q46a q46c (g := (mkF m 301 #[.val (.int p1), .val (.int p2), .val (.int p3), .val (.int p4), .val (.int p5), .val (.int p6), .val (.int nn), .val (.int (1 : Int32)), .val (.int fr), .val (.int qb), .val (.ref b21), .val (.int sc), .val (.int cc), .val (.ref b34), .val (.int nn), .val (.int (1 : Int32)), .unset, .unset] [(.ref b34)])) rfl (by rw [hml]; rfl) (Steps.refl _) (argsL := []) (rest := []) (lenOf pd_3 rfl) rfl (by show 2 * 0 + _ ≤ _; exact Nat.le_of_eq rfl) (hb hby at_301) (fun _ _ => ⟨rfl, e45h, (by decide : 2 + 0 ≤ _), (by decide : 12 + 0 ≤ _)⟩)
    dsimp only [Pt.U, Pt.locs, Pt.cells, Pt.slots] at X46 l46 y46 z46 st46 hQ46
    subst y46 z46
    obtain ⟨hv46, N46q, K46k, fP46, fB46, fT46⟩ := hQ46
    rw [hx2] at hv46 fP46
    subst hv46
    have A_b21_46 := (A_b21_44).keep K46k (ninS ne_b21_b34 nin0)
    have E_b34_46 := (E_b34_44).keep K46k
    have Zs46 := Nat.le_trans Zs44 K46k.1
    have N46 : Fr n0 L46 := by rw [l46]; exact Fr.app N45 N46q
    refine own_step (fun _ kc_ => st46.trans kc_) ?_
    show own_Ends p e below s _ _ _ (T46.setTop (mkF m 304 #[.val (.int p1), .val (.int p2), .val (.int p3), .val (.int p4), .val (.int p5), .val (.int p6), .val (.int nn), .val (.int (1 : Int32)), .val (.int fr), .val (.int qb), .val (.ref b21), .val (.int sc), .val (.int cc), .val (.ref b34), .val (.int nn), .val (.int (1 : Int32)), .unset, .unset] [(.int sc)]))
    refine own_step (fun _ kc_ => XS.istore X46.here hx rfl (hb hby at_304) rfl (l' := #[.val (.int p1), .val (.int p2), .val (.int p3), .val (.int p4), .val (.int p5), .val (.int p6), .val (.int nn), .val (.int (1 : Int32)), .val (.int fr), .val (.int qb), .val (.ref b21), .val (.int sc), .val (.int cc), .val (.ref b34), .val (.int nn), .val (.int (1 : Int32)), .val (.int sc), .unset]) rfl (XS.aload X46.here hx rfl (hb hby at_306) rfl rfl kc_)) ?_
    show own_Ends p e below s _ _ _ (T46.setTop (mkF m 308 #[.val (.int p1), .val (.int p2), .val (.int p3), .val (.int p4), .val (.int p5), .val (.int p6), .val (.int nn), .val (.int (1 : Int32)), .val (.int fr), .val (.int qb), .val (.ref b21), .val (.int sc), .val (.int cc), .val (.ref b34), .val (.int nn), .val (.int (1 : Int32)), .val (.int sc), .unset] [(.ref b34)]))
    obtain ⟨cq47, kq47, q47a, q47b, q47c⟩ := isOf hZ rfl E_b34_46
    obtain ⟨_, _, ⟨T47, L47, k47, n47⟩, -, X47, ⟨Lc47, hQ47, l47, y47, z47⟩, st47⟩ := X46.virtualBack hx (y := (⟨"com/example/wakachi/wakachi/VarInts$Reader", "hasNext", "()Z"⟩ : MethodName)) (z := (⟨"com/example/wakachi/wakachi/VarInts$Reader", "hasNext", "()Z"⟩ : MethodName)) hown (mvT hZ (hw _ (List.mem_of_getElem? (i := 26) rfl))) (mvT hZ (hw _ (List.mem_of_getElem? (i := 27) rfl))) (notFace_of_selects (args := #[]) (mvT hZ (hw _ (List.mem_of_getElem? (i := 29) rfl)))) (mvT hZ (hw _ (List.mem_of_getElem? (i := 29) rfl))) (mvT hZ (hw _ (List.mem_of_getElem? (i := 28) rfl))) (by decide) (backOf (W := 0) (rm5 l Z a0 hw [] b34 (Int32.ofNat (F + 2)) (Int32.ofNat (F + 2)) T46.heap n0 Zs46 fP46 fT46) hZ (hw _ (List.mem_of_getElem? (i := 30) rfl)) (hw _ (List.mem_of_getElem? (i := 8) rfl)) (by decide) (by decide)) q47a q47c (g := (mkF m 308 #[.val (.int p1), .val (.int p2), .val (.int p3), .val (.int p4), .val (.int p5), .val (.int p6), .val (.int nn), .val (.int (1 : Int32)), .val (.int fr), .val (.int qb), .val (.ref b21), .val (.int sc), .val (.int cc), .val (.ref b34), .val (.int nn), .val (.int (1 : Int32)), .val (.int sc), .unset] [(.ref b34)])) rfl (by rw [hml]; rfl) (Steps.refl _) (argsL := []) (rest := []) (lenOf pd_4 rfl) rfl (by show 2 * 0 + _ ≤ _; exact Nat.le_of_eq rfl) (hb hby at_308) (fun _ _ => ⟨rfl, rfl, (by decide : 2 + 0 ≤ _), (by decide : 12 + 0 ≤ _)⟩)
    dsimp only [Pt.U, Pt.locs, Pt.cells, Pt.slots] at X47 l47 y47 z47 st47 hQ47
    subst y47 z47
    obtain ⟨hv47, N47q, e47⟩ := hQ47
    rw [hh2] at hv47
    subst hv47
    have e47h : T47.heap = T46.heap := e47
    have N47 : Fr n0 L47 := by rw [l47]; exact Fr.app N46 N47q
    refine own_step (fun _ kc_ => st47.trans kc_) ?_
    show own_Ends p e below s _ _ _ (T47.setTop (mkF m 311 #[.val (.int p1), .val (.int p2), .val (.int p3), .val (.int p4), .val (.int p5), .val (.int p6), .val (.int nn), .val (.int (1 : Int32)), .val (.int fr), .val (.int qb), .val (.ref b21), .val (.int sc), .val (.int cc), .val (.ref b34), .val (.int nn), .val (.int (1 : Int32)), .val (.int sc), .unset] [(.int (0 : Int32))]))
    refine own_step (fun _ kc_ => XS.istore X47.here hx rfl (hb hby at_311) rfl (l' := #[.val (.int p1), .val (.int p2), .val (.int p3), .val (.int p4), .val (.int p5), .val (.int p6), .val (.int nn), .val (.int (1 : Int32)), .val (.int fr), .val (.int qb), .val (.ref b21), .val (.int sc), .val (.int cc), .val (.ref b34), .val (.int nn), .val (.int (1 : Int32)), .val (.int sc), .val (.int (0 : Int32))]) rfl (XS.iload X47.here hx rfl (hb hby at_313) rfl (XS.iload X47.here hx rfl (hb hby at_315) rfl (XS.icmpYes X47.here hx rfl (pc0 := 317) (pc' := 348) rfl (hb hby at_317) rfl (XT.ii_ge_t (by rw [hcC]; decide : ¬ (cc < (1 : Int32)))) (by decide) (by decide) (XS.iload X47.here hx rfl (hb hby at_348) rfl (XS.iload X47.here hx rfl (hb hby at_350) rfl (XS.icmpYes X47.here hx rfl (pc0 := 352) (pc' := 384) rfl (hb hby at_352) rfl (XT.ii_ne_t (by rw [hcC]; decide : ¬ (cc = (1 : Int32)))) (by decide) (by decide) (XS.iload X47.here hx rfl (hb hby at_384) rfl kc_)))))))) ?_
    show own_Ends p e below s _ _ _ (T47.setTop (mkF m 386 #[.val (.int p1), .val (.int p2), .val (.int p3), .val (.int p4), .val (.int p5), .val (.int p6), .val (.int nn), .val (.int (1 : Int32)), .val (.int fr), .val (.int qb), .val (.ref b21), .val (.int sc), .val (.int cc), .val (.ref b34), .val (.int nn), .val (.int (1 : Int32)), .val (.int sc), .val (.int (0 : Int32))] [(.int nn)]))
    refine own_step (fun _ kc_ => XS.iload X47.here hx rfl (hb hby at_386) rfl (XS.icmpNo X47.here hx rfl (hb hby at_388) rfl (XT.ii_ne_f (rfl : nn = nn)) (XS.iload X47.here hx rfl (hb hby at_391) rfl (XS.ifNo X47.here hx rfl (hb hby at_393) rfl (XT.i0_eq_f (by decide : ¬ ((1 : Int32) = 0))) (XS.iload X47.here hx rfl (hb hby at_396) rfl (XS.iload X47.here hx rfl (hb hby at_398) rfl (XS.icmpNo X47.here hx rfl (hb hby at_400) rfl (XT.ii_ne_f (rfl : sc = sc)) (XS.iload X47.here hx rfl (hb hby at_403) rfl kc_)))))))) ?_
    show own_Ends p e below s _ _ _ (T47.setTop (mkF m 405 #[.val (.int p1), .val (.int p2), .val (.int p3), .val (.int p4), .val (.int p5), .val (.int p6), .val (.int nn), .val (.int (1 : Int32)), .val (.int fr), .val (.int qb), .val (.ref b21), .val (.int sc), .val (.int cc), .val (.ref b34), .val (.int nn), .val (.int (1 : Int32)), .val (.int sc), .val (.int (0 : Int32))] [(.int (0 : Int32))]))
    refine own_step (fun _ kc_ => XS.ifNo X47.here hx rfl (hb hby at_405) rfl (XT.i0_ne_f (by decide : (0 : Int32) = 0)) (XS.iconst X47.here hx rfl (hb hby at_408) (XS.goto X47.here hx rfl (pc0 := 409) (pc' := 413) rfl (hb hby at_409) (by decide) (by decide) kc_))) ?_
    show own_Ends p e below s _ _ _ (T47.setTop (mkF m 413 #[.val (.int p1), .val (.int p2), .val (.int p3), .val (.int p4), .val (.int p5), .val (.int p6), .val (.int nn), .val (.int (1 : Int32)), .val (.int fr), .val (.int qb), .val (.ref b21), .val (.int sc), .val (.int cc), .val (.ref b34), .val (.int nn), .val (.int (1 : Int32)), .val (.int sc), .val (.int (0 : Int32))] [(.int (1 : Int32))]))
    exact own_retN X47 hx (t := .boolean) hret (by simp) hlk (hb hby at_413) (by decide) (by decide) rfl ⟨rfl, N47⟩
set_option maxRecDepth 65536 in
set_option maxHeartbeats 40000000 in
theorem seg_2 {p : Program} {l : Launch} {e : Env} {s : State} {m : MethodId} {below : List Frame} {meth : Method} {c : Code} {Z : State} {a0 : Array Value} (hw : ∀ d ∈ tables_1, d.before a0 Z = true) (hZ : Z.Warmed39 s.vm) (hx : p.tables.exec = Jvm.exec) (hby : c.code = code) (hlk : meth.locks = false) (hret : meth.sig.returnType = some .boolean) (hml : c.maxLocals = 18) (hown : s.vm.findClass "com/example/wakachi/wakachi/ReaderNextPinLaw" = some m.cls) (p1 : Int32) (p2 : Int32) (p3 : Int32) (p4 : Int32) (p5 : Int32) (p6 : Int32)  {h0 : Heap} {n0 : Nat} {nn fr qb : Int32} (F : Nat) (hF : F ≤ 3) (hfr : fr = Int32.ofNat F) (hn0 : 0 ≤ nn.toInt) (hn1 : nn.toInt < 2 ^ 14) {h : Heap}  :
    ∀ {T : State} {locs : List Loc} {cells slots : Nat} (X : Stand p l e room_1 s m #[(.int p1), (.int p2), (.int p3), (.int p4), (.int p5), (.int p6)] below meth c T locs cells slots) (e0 : T.heap = h) (N0 : Fr n0 locs) (Z0 : n0 ≤ h.size) (hcs : cells = 0) (hsl : slots = 0), own_Ends p e below s 16 128 (Q0 Z p1 p2 p3 p4 p5 p6  h0 n0) (T.setTop (mkF m 78 #[.val (.int p1), .val (.int p2), .val (.int p3), .val (.int p4), .val (.int p5), .val (.int p6), .val (.int nn), .val (.int (2 : Int32)), .val (.int fr), .val (.int qb), .unset, .unset, .unset, .unset, .unset, .unset, .unset, .unset] [])) := by
  intro T locs cells slots X e0 N0 Z0 hcs hsl
  subst hcs hsl
  show own_Ends p e below s _ _ _ (T.setTop (mkF m 78 #[.val (.int p1), .val (.int p2), .val (.int p3), .val (.int p4), .val (.int p5), .val (.int p6), .val (.int nn), .val (.int (2 : Int32)), .val (.int fr), .val (.int qb), .unset, .unset, .unset, .unset, .unset, .unset, .unset, .unset] []))
  refine own_step (fun _ kc_ => XS.bipush X.here hx rfl (hb hby at_78) kc_) ?_
  show own_Ends p e below s _ _ _ (T.setTop (mkF m 80 #[.val (.int p1), .val (.int p2), .val (.int p3), .val (.int p4), .val (.int p5), .val (.int p6), .val (.int nn), .val (.int (2 : Int32)), .val (.int fr), .val (.int qb), .unset, .unset, .unset, .unset, .unset, .unset, .unset, .unset] [(.int (9 : Int32))]))
  obtain ⟨T48, h48, k48, X48, e48, E48, A48, st48⟩ := newP X hx hZ (hw _ (List.mem_of_getElem? (i := 1) rfl)) e0 (g := (mkF m 80 #[.val (.int p1), .val (.int p2), .val (.int p3), .val (.int p4), .val (.int p5), .val (.int p6), .val (.int nn), .val (.int (2 : Int32)), .val (.int fr), .val (.int qb), .unset, .unset, .unset, .unset, .unset, .unset, .unset, .unset] [(.int (9 : Int32))])) rfl (hb hby at_80) rfl (by decide) (cap := 9) (by decide) (by decide) (by decide : 0 + 1 ≤ _) (by decide : 0 + 9 ≤ _)
  obtain ⟨b48, g48⟩ : ∃ z, z = h.size := ⟨_, rfl⟩
  rw [← g48] at A48 st48
  have n0_b48 : n0 ≤ b48 := Nat.le_trans Z0 (Nat.le_of_eq g48.symm)
  have Zs48 := Nat.le_trans Z0 E48.1
  have A_b48 : own_Ar Z h48 b48 .byte [(.int (0 : Int32)), (.int (0 : Int32)), (.int (0 : Int32)), (.int (0 : Int32)), (.int (0 : Int32)), (.int (0 : Int32)), (.int (0 : Int32)), (.int (0 : Int32)), (.int (0 : Int32))] := own_Ar.new A48 (by decide)
  refine own_step (fun _ kc_ => st48 _ kc_) ?_
  show own_Ends p e below s _ _ _ (T48.setTop (mkF m 82 #[.val (.int p1), .val (.int p2), .val (.int p3), .val (.int p4), .val (.int p5), .val (.int p6), .val (.int nn), .val (.int (2 : Int32)), .val (.int fr), .val (.int qb), .unset, .unset, .unset, .unset, .unset, .unset, .unset, .unset] [(.ref b48)]))
  refine own_step (fun _ kc_ => XS.astore X48.here hx rfl (hb hby at_82) rfl rfl (l' := #[.val (.int p1), .val (.int p2), .val (.int p3), .val (.int p4), .val (.int p5), .val (.int p6), .val (.int nn), .val (.int (2 : Int32)), .val (.int fr), .val (.int qb), .val (.ref b48), .unset, .unset, .unset, .unset, .unset, .unset, .unset]) rfl (XS.aload X48.here hx rfl (hb hby at_84) rfl rfl (XS.iconst X48.here hx rfl (hb hby at_86) (XS.iload X48.here hx rfl (hb hby at_87) rfl kc_)))) ?_
  show own_Ends p e below s _ _ _ (T48.setTop (mkF m 89 #[.val (.int p1), .val (.int p2), .val (.int p3), .val (.int p4), .val (.int p5), .val (.int p6), .val (.int nn), .val (.int (2 : Int32)), .val (.int fr), .val (.int qb), .val (.ref b48), .unset, .unset, .unset, .unset, .unset, .unset, .unset] [(.int qb), (.int (0 : Int32)), (.ref b48)]))
  obtain ⟨T49, h49, X49, e49, W49, A49, st49⟩ := own_bastore X48 hx hZ e48 A_b48 (j := (0 : Int32)) (x := qb) (by decide) (i := 0) rfl (Nat.le_of_ble_eq_true rfl) (Ls := #[.val (.int p1), .val (.int p2), .val (.int p3), .val (.int p4), .val (.int p5), .val (.int p6), .val (.int nn), .val (.int (2 : Int32)), .val (.int fr), .val (.int qb), .val (.ref b48), .unset, .unset, .unset, .unset, .unset, .unset, .unset]) (st := []) (hb hby at_89)
  have A_b48_49 : own_Ar Z h49 b48 .byte [(.int (nar .byte qb)), (.int (0 : Int32)), (.int (0 : Int32)), (.int (0 : Int32)), (.int (0 : Int32)), (.int (0 : Int32)), (.int (0 : Int32)), (.int (0 : Int32)), (.int (0 : Int32))] := A49
  have Zs49 := Nat.le_trans Zs48 (Nat.le_of_eq W49.size.symm)
  have N49 := Fr.snoc X49 N0 n0_b48
  refine own_step (fun _ kc_ => st49 _ kc_) ?_
  show own_Ends p e below s _ _ _ (T49.setTop (mkF m 90 #[.val (.int p1), .val (.int p2), .val (.int p3), .val (.int p4), .val (.int p5), .val (.int p6), .val (.int nn), .val (.int (2 : Int32)), .val (.int fr), .val (.int qb), .val (.ref b48), .unset, .unset, .unset, .unset, .unset, .unset, .unset] []))
  refine own_step (fun _ kc_ => XS.aload X49.here hx rfl (hb hby at_90) rfl rfl (XS.iconst X49.here hx rfl (hb hby at_92) (XS.iload X49.here hx rfl (hb hby at_93) rfl kc_))) ?_
  show own_Ends p e below s _ _ _ (T49.setTop (mkF m 95 #[.val (.int p1), .val (.int p2), .val (.int p3), .val (.int p4), .val (.int p5), .val (.int p6), .val (.int nn), .val (.int (2 : Int32)), .val (.int fr), .val (.int qb), .val (.ref b48), .unset, .unset, .unset, .unset, .unset, .unset, .unset] [(.int qb), (.int (1 : Int32)), (.ref b48)]))
  obtain ⟨T50, h50, X50, e50, W50, A50, st50⟩ := own_bastore X49 hx hZ e49 A_b48_49 (j := (1 : Int32)) (x := qb) (by decide) (i := 1) rfl (Nat.le_of_ble_eq_true rfl) (Ls := #[.val (.int p1), .val (.int p2), .val (.int p3), .val (.int p4), .val (.int p5), .val (.int p6), .val (.int nn), .val (.int (2 : Int32)), .val (.int fr), .val (.int qb), .val (.ref b48), .unset, .unset, .unset, .unset, .unset, .unset, .unset]) (st := []) (hb hby at_95)
  have A_b48_50 : own_Ar Z h50 b48 .byte [(.int (nar .byte qb)), (.int (nar .byte qb)), (.int (0 : Int32)), (.int (0 : Int32)), (.int (0 : Int32)), (.int (0 : Int32)), (.int (0 : Int32)), (.int (0 : Int32)), (.int (0 : Int32))] := A50
  have Zs50 := Nat.le_trans Zs49 (Nat.le_of_eq W50.size.symm)
  have N50 := Fr.snoc X50 N49 n0_b48
  refine own_step (fun _ kc_ => st50 _ kc_) ?_
  show own_Ends p e below s _ _ _ (T50.setTop (mkF m 96 #[.val (.int p1), .val (.int p2), .val (.int p3), .val (.int p4), .val (.int p5), .val (.int p6), .val (.int nn), .val (.int (2 : Int32)), .val (.int fr), .val (.int qb), .val (.ref b48), .unset, .unset, .unset, .unset, .unset, .unset, .unset] []))
  refine own_step (fun _ kc_ => XS.aload X50.here hx rfl (hb hby at_96) rfl rfl (XS.iconst X50.here hx rfl (hb hby at_98) (XS.iload X50.here hx rfl (hb hby at_99) rfl kc_))) ?_
  show own_Ends p e below s _ _ _ (T50.setTop (mkF m 101 #[.val (.int p1), .val (.int p2), .val (.int p3), .val (.int p4), .val (.int p5), .val (.int p6), .val (.int nn), .val (.int (2 : Int32)), .val (.int fr), .val (.int qb), .val (.ref b48), .unset, .unset, .unset, .unset, .unset, .unset, .unset] [(.int qb), (.int (2 : Int32)), (.ref b48)]))
  obtain ⟨T51, h51, X51, e51, W51, A51, st51⟩ := own_bastore X50 hx hZ e50 A_b48_50 (j := (2 : Int32)) (x := qb) (by decide) (i := 2) rfl (Nat.le_of_ble_eq_true rfl) (Ls := #[.val (.int p1), .val (.int p2), .val (.int p3), .val (.int p4), .val (.int p5), .val (.int p6), .val (.int nn), .val (.int (2 : Int32)), .val (.int fr), .val (.int qb), .val (.ref b48), .unset, .unset, .unset, .unset, .unset, .unset, .unset]) (st := []) (hb hby at_101)
  have A_b48_51 : own_Ar Z h51 b48 .byte [(.int (nar .byte qb)), (.int (nar .byte qb)), (.int (nar .byte qb)), (.int (0 : Int32)), (.int (0 : Int32)), (.int (0 : Int32)), (.int (0 : Int32)), (.int (0 : Int32)), (.int (0 : Int32))] := A51
  have Zs51 := Nat.le_trans Zs50 (Nat.le_of_eq W51.size.symm)
  have N51 := Fr.snoc X51 N50 n0_b48
  refine own_step (fun _ kc_ => st51 _ kc_) ?_
  show own_Ends p e below s _ _ _ (T51.setTop (mkF m 102 #[.val (.int p1), .val (.int p2), .val (.int p3), .val (.int p4), .val (.int p5), .val (.int p6), .val (.int nn), .val (.int (2 : Int32)), .val (.int fr), .val (.int qb), .val (.ref b48), .unset, .unset, .unset, .unset, .unset, .unset, .unset] []))
  refine own_step (fun _ kc_ => XS.aload X51.here hx rfl (hb hby at_102) rfl rfl (XS.iconst X51.here hx rfl (hb hby at_104) (XS.iload X51.here hx rfl (hb hby at_105) rfl kc_))) ?_
  show own_Ends p e below s _ _ _ (T51.setTop (mkF m 107 #[.val (.int p1), .val (.int p2), .val (.int p3), .val (.int p4), .val (.int p5), .val (.int p6), .val (.int nn), .val (.int (2 : Int32)), .val (.int fr), .val (.int qb), .val (.ref b48), .unset, .unset, .unset, .unset, .unset, .unset, .unset] [(.int qb), (.int (3 : Int32)), (.ref b48)]))
  obtain ⟨T52, h52, X52, e52, W52, A52, st52⟩ := own_bastore X51 hx hZ e51 A_b48_51 (j := (3 : Int32)) (x := qb) (by decide) (i := 3) rfl (Nat.le_of_ble_eq_true rfl) (Ls := #[.val (.int p1), .val (.int p2), .val (.int p3), .val (.int p4), .val (.int p5), .val (.int p6), .val (.int nn), .val (.int (2 : Int32)), .val (.int fr), .val (.int qb), .val (.ref b48), .unset, .unset, .unset, .unset, .unset, .unset, .unset]) (st := []) (hb hby at_107)
  have A_b48_52 : own_Ar Z h52 b48 .byte [(.int (nar .byte qb)), (.int (nar .byte qb)), (.int (nar .byte qb)), (.int (nar .byte qb)), (.int (0 : Int32)), (.int (0 : Int32)), (.int (0 : Int32)), (.int (0 : Int32)), (.int (0 : Int32))] := A52
  have Zs52 := Nat.le_trans Zs51 (Nat.le_of_eq W52.size.symm)
  have N52 := Fr.snoc X52 N51 n0_b48
  refine own_step (fun _ kc_ => st52 _ kc_) ?_
  show own_Ends p e below s _ _ _ (T52.setTop (mkF m 108 #[.val (.int p1), .val (.int p2), .val (.int p3), .val (.int p4), .val (.int p5), .val (.int p6), .val (.int nn), .val (.int (2 : Int32)), .val (.int fr), .val (.int qb), .val (.ref b48), .unset, .unset, .unset, .unset, .unset, .unset, .unset] []))
  refine own_step (fun _ kc_ => XS.aload X52.here hx rfl (hb hby at_108) rfl rfl (XS.iconst X52.here hx rfl (hb hby at_110) (XS.iload X52.here hx rfl (hb hby at_111) rfl kc_))) ?_
  show own_Ends p e below s _ _ _ (T52.setTop (mkF m 113 #[.val (.int p1), .val (.int p2), .val (.int p3), .val (.int p4), .val (.int p5), .val (.int p6), .val (.int nn), .val (.int (2 : Int32)), .val (.int fr), .val (.int qb), .val (.ref b48), .unset, .unset, .unset, .unset, .unset, .unset, .unset] [(.int qb), (.int (4 : Int32)), (.ref b48)]))
  obtain ⟨T53, h53, X53, e53, W53, A53, st53⟩ := own_bastore X52 hx hZ e52 A_b48_52 (j := (4 : Int32)) (x := qb) (by decide) (i := 4) rfl (Nat.le_of_ble_eq_true rfl) (Ls := #[.val (.int p1), .val (.int p2), .val (.int p3), .val (.int p4), .val (.int p5), .val (.int p6), .val (.int nn), .val (.int (2 : Int32)), .val (.int fr), .val (.int qb), .val (.ref b48), .unset, .unset, .unset, .unset, .unset, .unset, .unset]) (st := []) (hb hby at_113)
  have A_b48_53 : own_Ar Z h53 b48 .byte [(.int (nar .byte qb)), (.int (nar .byte qb)), (.int (nar .byte qb)), (.int (nar .byte qb)), (.int (nar .byte qb)), (.int (0 : Int32)), (.int (0 : Int32)), (.int (0 : Int32)), (.int (0 : Int32))] := A53
  have Zs53 := Nat.le_trans Zs52 (Nat.le_of_eq W53.size.symm)
  have N53 := Fr.snoc X53 N52 n0_b48
  refine own_step (fun _ kc_ => st53 _ kc_) ?_
  show own_Ends p e below s _ _ _ (T53.setTop (mkF m 114 #[.val (.int p1), .val (.int p2), .val (.int p3), .val (.int p4), .val (.int p5), .val (.int p6), .val (.int nn), .val (.int (2 : Int32)), .val (.int fr), .val (.int qb), .val (.ref b48), .unset, .unset, .unset, .unset, .unset, .unset, .unset] []))
  refine own_step (fun _ kc_ => XS.aload X53.here hx rfl (hb hby at_114) rfl rfl (XS.iconst X53.here hx rfl (hb hby at_116) (XS.iload X53.here hx rfl (hb hby at_117) rfl kc_))) ?_
  show own_Ends p e below s _ _ _ (T53.setTop (mkF m 119 #[.val (.int p1), .val (.int p2), .val (.int p3), .val (.int p4), .val (.int p5), .val (.int p6), .val (.int nn), .val (.int (2 : Int32)), .val (.int fr), .val (.int qb), .val (.ref b48), .unset, .unset, .unset, .unset, .unset, .unset, .unset] [(.int qb), (.int (5 : Int32)), (.ref b48)]))
  obtain ⟨T54, h54, X54, e54, W54, A54, st54⟩ := own_bastore X53 hx hZ e53 A_b48_53 (j := (5 : Int32)) (x := qb) (by decide) (i := 5) rfl (Nat.le_of_ble_eq_true rfl) (Ls := #[.val (.int p1), .val (.int p2), .val (.int p3), .val (.int p4), .val (.int p5), .val (.int p6), .val (.int nn), .val (.int (2 : Int32)), .val (.int fr), .val (.int qb), .val (.ref b48), .unset, .unset, .unset, .unset, .unset, .unset, .unset]) (st := []) (hb hby at_119)
  have A_b48_54 : own_Ar Z h54 b48 .byte [(.int (nar .byte qb)), (.int (nar .byte qb)), (.int (nar .byte qb)), (.int (nar .byte qb)), (.int (nar .byte qb)), (.int (nar .byte qb)), (.int (0 : Int32)), (.int (0 : Int32)), (.int (0 : Int32))] := A54
  have Zs54 := Nat.le_trans Zs53 (Nat.le_of_eq W54.size.symm)
  have N54 := Fr.snoc X54 N53 n0_b48
  refine own_step (fun _ kc_ => st54 _ kc_) ?_
  show own_Ends p e below s _ _ _ (T54.setTop (mkF m 120 #[.val (.int p1), .val (.int p2), .val (.int p3), .val (.int p4), .val (.int p5), .val (.int p6), .val (.int nn), .val (.int (2 : Int32)), .val (.int fr), .val (.int qb), .val (.ref b48), .unset, .unset, .unset, .unset, .unset, .unset, .unset] []))
  refine own_step (fun _ kc_ => XS.aload X54.here hx rfl (hb hby at_120) rfl rfl (XS.bipush X54.here hx rfl (hb hby at_122) (XS.iload X54.here hx rfl (hb hby at_124) rfl kc_))) ?_
  show own_Ends p e below s _ _ _ (T54.setTop (mkF m 126 #[.val (.int p1), .val (.int p2), .val (.int p3), .val (.int p4), .val (.int p5), .val (.int p6), .val (.int nn), .val (.int (2 : Int32)), .val (.int fr), .val (.int qb), .val (.ref b48), .unset, .unset, .unset, .unset, .unset, .unset, .unset] [(.int qb), (.int (6 : Int32)), (.ref b48)]))
  obtain ⟨T55, h55, X55, e55, W55, A55, st55⟩ := own_bastore X54 hx hZ e54 A_b48_54 (j := (6 : Int32)) (x := qb) (by decide) (i := 6) rfl (Nat.le_of_ble_eq_true rfl) (Ls := #[.val (.int p1), .val (.int p2), .val (.int p3), .val (.int p4), .val (.int p5), .val (.int p6), .val (.int nn), .val (.int (2 : Int32)), .val (.int fr), .val (.int qb), .val (.ref b48), .unset, .unset, .unset, .unset, .unset, .unset, .unset]) (st := []) (hb hby at_126)
  have A_b48_55 : own_Ar Z h55 b48 .byte [(.int (nar .byte qb)), (.int (nar .byte qb)), (.int (nar .byte qb)), (.int (nar .byte qb)), (.int (nar .byte qb)), (.int (nar .byte qb)), (.int (nar .byte qb)), (.int (0 : Int32)), (.int (0 : Int32))] := A55
  have Zs55 := Nat.le_trans Zs54 (Nat.le_of_eq W55.size.symm)
  have N55 := Fr.snoc X55 N54 n0_b48
  refine own_step (fun _ kc_ => st55 _ kc_) ?_
  show own_Ends p e below s _ _ _ (T55.setTop (mkF m 127 #[.val (.int p1), .val (.int p2), .val (.int p3), .val (.int p4), .val (.int p5), .val (.int p6), .val (.int nn), .val (.int (2 : Int32)), .val (.int fr), .val (.int qb), .val (.ref b48), .unset, .unset, .unset, .unset, .unset, .unset, .unset] []))
  refine own_step (fun _ kc_ => XS.aload X55.here hx rfl (hb hby at_127) rfl rfl (XS.bipush X55.here hx rfl (hb hby at_129) (XS.iload X55.here hx rfl (hb hby at_131) rfl kc_))) ?_
  show own_Ends p e below s _ _ _ (T55.setTop (mkF m 133 #[.val (.int p1), .val (.int p2), .val (.int p3), .val (.int p4), .val (.int p5), .val (.int p6), .val (.int nn), .val (.int (2 : Int32)), .val (.int fr), .val (.int qb), .val (.ref b48), .unset, .unset, .unset, .unset, .unset, .unset, .unset] [(.int qb), (.int (7 : Int32)), (.ref b48)]))
  obtain ⟨T56, h56, X56, e56, W56, A56, st56⟩ := own_bastore X55 hx hZ e55 A_b48_55 (j := (7 : Int32)) (x := qb) (by decide) (i := 7) rfl (Nat.le_of_ble_eq_true rfl) (Ls := #[.val (.int p1), .val (.int p2), .val (.int p3), .val (.int p4), .val (.int p5), .val (.int p6), .val (.int nn), .val (.int (2 : Int32)), .val (.int fr), .val (.int qb), .val (.ref b48), .unset, .unset, .unset, .unset, .unset, .unset, .unset]) (st := []) (hb hby at_133)
  have A_b48_56 : own_Ar Z h56 b48 .byte [(.int (nar .byte qb)), (.int (nar .byte qb)), (.int (nar .byte qb)), (.int (nar .byte qb)), (.int (nar .byte qb)), (.int (nar .byte qb)), (.int (nar .byte qb)), (.int (nar .byte qb)), (.int (0 : Int32))] := A56
  have Zs56 := Nat.le_trans Zs55 (Nat.le_of_eq W56.size.symm)
  have N56 := Fr.snoc X56 N55 n0_b48
  refine own_step (fun _ kc_ => st56 _ kc_) ?_
  show own_Ends p e below s _ _ _ (T56.setTop (mkF m 134 #[.val (.int p1), .val (.int p2), .val (.int p3), .val (.int p4), .val (.int p5), .val (.int p6), .val (.int nn), .val (.int (2 : Int32)), .val (.int fr), .val (.int qb), .val (.ref b48), .unset, .unset, .unset, .unset, .unset, .unset, .unset] []))
  refine own_step (fun _ kc_ => XS.aload X56.here hx rfl (hb hby at_134) rfl rfl (XS.bipush X56.here hx rfl (hb hby at_136) (XS.iload X56.here hx rfl (hb hby at_138) rfl kc_))) ?_
  show own_Ends p e below s _ _ _ (T56.setTop (mkF m 140 #[.val (.int p1), .val (.int p2), .val (.int p3), .val (.int p4), .val (.int p5), .val (.int p6), .val (.int nn), .val (.int (2 : Int32)), .val (.int fr), .val (.int qb), .val (.ref b48), .unset, .unset, .unset, .unset, .unset, .unset, .unset] [(.int qb), (.int (8 : Int32)), (.ref b48)]))
  obtain ⟨T57, h57, X57, e57, W57, A57, st57⟩ := own_bastore X56 hx hZ e56 A_b48_56 (j := (8 : Int32)) (x := qb) (by decide) (i := 8) rfl (Nat.le_of_ble_eq_true rfl) (Ls := #[.val (.int p1), .val (.int p2), .val (.int p3), .val (.int p4), .val (.int p5), .val (.int p6), .val (.int nn), .val (.int (2 : Int32)), .val (.int fr), .val (.int qb), .val (.ref b48), .unset, .unset, .unset, .unset, .unset, .unset, .unset]) (st := []) (hb hby at_140)
  have A_b48_57 : own_Ar Z h57 b48 .byte [(.int (nar .byte qb)), (.int (nar .byte qb)), (.int (nar .byte qb)), (.int (nar .byte qb)), (.int (nar .byte qb)), (.int (nar .byte qb)), (.int (nar .byte qb)), (.int (nar .byte qb)), (.int (nar .byte qb))] := A57
  have Zs57 := Nat.le_trans Zs56 (Nat.le_of_eq W57.size.symm)
  have N57 := Fr.snoc X57 N56 n0_b48
  refine own_step (fun _ kc_ => st57 _ kc_) ?_
  show own_Ends p e below s _ _ _ (T57.setTop (mkF m 141 #[.val (.int p1), .val (.int p2), .val (.int p3), .val (.int p4), .val (.int p5), .val (.int p6), .val (.int nn), .val (.int (2 : Int32)), .val (.int fr), .val (.int qb), .val (.ref b48), .unset, .unset, .unset, .unset, .unset, .unset, .unset] []))
  refine own_step (fun _ kc_ => XS.aload X57.here hx rfl (hb hby at_141) rfl rfl (XS.iload X57.here hx rfl (hb hby at_143) rfl (XS.iload X57.here hx rfl (hb hby at_145) rfl (XS.iconst X57.here hx rfl (hb hby at_147) (XS.iload X57.here hx rfl (hb hby at_148) rfl kc_))))) ?_
  show own_Ends p e below s _ _ _ (T57.setTop (mkF m 150 #[.val (.int p1), .val (.int p2), .val (.int p3), .val (.int p4), .val (.int p5), .val (.int p6), .val (.int nn), .val (.int (2 : Int32)), .val (.int fr), .val (.int qb), .val (.ref b48), .unset, .unset, .unset, .unset, .unset, .unset, .unset] [(.int (2 : Int32)), (.int (0 : Int32)), (.int nn), (.int fr), (.ref b48)]))
  obtain ⟨_, _, ⟨T58, L58, k58, n58⟩, -, X58, ⟨Lc58, hQ58, l58, y58, z58⟩, st58⟩ := Jvm.LawKit.callS X57 hx (y := (⟨"com/example/wakachi/wakachi/ReaderNextPinLaw", "enc", "(III)B"⟩ : MethodName)) hown (mvT hZ (hw _ (List.mem_of_getElem? (i := 2) rfl))) (mvT hZ (hw _ (List.mem_of_getElem? (i := 3) rfl))) (mvT hZ (hw _ (List.mem_of_getElem? (i := 4) rfl))) (mvT hZ (hw _ (List.mem_of_getElem? (i := 5) rfl))) (by decide) (backOf (W := 2) (rm1 l Z a0 hw [] nn (0 : Int32) (2 : Int32)  h57 n0 Zs57 ) hZ (hw _ (List.mem_of_getElem? (i := 5) rfl)) (hw _ (List.mem_of_getElem? (i := 4) rfl)) (by decide) (by decide)) (g := (mkF m 150 #[.val (.int p1), .val (.int p2), .val (.int p3), .val (.int p4), .val (.int p5), .val (.int p6), .val (.int nn), .val (.int (2 : Int32)), .val (.int fr), .val (.int qb), .val (.ref b48), .unset, .unset, .unset, .unset, .unset, .unset, .unset] [(.int (2 : Int32)), (.int (0 : Int32)), (.int nn), (.int fr), (.ref b48)])) rfl (by rw [hml]; rfl) (argsL := [(.int nn), (.int (0 : Int32)), (.int (2 : Int32))]) (rest := [(.int fr), (.ref b48)]) (lenOf pd_1 rfl) rfl (by show 2 * 0 + _ ≤ _; exact Nat.le_of_eq rfl) (hb hby at_150) (fun _ _ => ⟨rfl, e57, (by decide : 1 + 0 ≤ _), (by decide : 9 + 0 ≤ _)⟩)
  dsimp only [Pt.U, Pt.locs, Pt.cells, Pt.slots] at X58 l58 y58 z58 st58 hQ58
  subst y58 z58
  obtain ⟨rfl, N58q, e58⟩ := hQ58
  have e58h : T58.heap = h57 := e58
  have N58 : Fr n0 L58 := by rw [l58]; exact Fr.app N57 N58q
  refine own_step (fun _ kc_ => st58 _ kc_) ?_
  show own_Ends p e below s _ _ _ (T58.setTop (mkF m 153 #[.val (.int p1), .val (.int p2), .val (.int p3), .val (.int p4), .val (.int p5), .val (.int p6), .val (.int nn), .val (.int (2 : Int32)), .val (.int fr), .val (.int qb), .val (.ref b48), .unset, .unset, .unset, .unset, .unset, .unset, .unset] [(.int (own_enc nn (0 : Int32) (2 : Int32))), (.int fr), (.ref b48)]))
  obtain ⟨T59, h59, X59, e59, W59, A59, st59⟩ := own_bastore X58 hx hZ e58h A_b48_57 (j := fr) (x := (own_enc nn (0 : Int32) (2 : Int32))) (own_ixz0 hF hfr) (i := F) (own_ixz hF hfr) (by simp only [List.length_set, List.length_cons, List.length_nil]; omega) (Ls := #[.val (.int p1), .val (.int p2), .val (.int p3), .val (.int p4), .val (.int p5), .val (.int p6), .val (.int nn), .val (.int (2 : Int32)), .val (.int fr), .val (.int qb), .val (.ref b48), .unset, .unset, .unset, .unset, .unset, .unset, .unset]) (st := []) (hb hby at_153)
  have A_b48_59 : own_Ar Z h59 b48 .byte (([(.int (nar .byte qb)), (.int (nar .byte qb)), (.int (nar .byte qb)), (.int (nar .byte qb)), (.int (nar .byte qb)), (.int (nar .byte qb)), (.int (nar .byte qb)), (.int (nar .byte qb)), (.int (nar .byte qb))]).set F (.int (nar .byte (own_enc nn (0 : Int32) (2 : Int32))))) := A59.cast rfl
  have Zs59 := Nat.le_trans Zs57 (Nat.le_of_eq W59.size.symm)
  have N59 := Fr.snoc X59 N58 n0_b48
  refine own_step (fun _ kc_ => st59 _ kc_) ?_
  show own_Ends p e below s _ _ _ (T59.setTop (mkF m 154 #[.val (.int p1), .val (.int p2), .val (.int p3), .val (.int p4), .val (.int p5), .val (.int p6), .val (.int nn), .val (.int (2 : Int32)), .val (.int fr), .val (.int qb), .val (.ref b48), .unset, .unset, .unset, .unset, .unset, .unset, .unset] []))
  refine own_step (fun _ kc_ => XS.iload X59.here hx rfl (hb hby at_154) rfl (XS.iconst X59.here hx rfl (hb hby at_156) (XS.icmpNo X59.here hx rfl (hb hby at_157) rfl (XT.ii_le_f (by decide : (1 : Int32) < (2 : Int32))) (XS.aload X59.here hx rfl (hb hby at_160) rfl rfl (XS.iload X59.here hx rfl (hb hby at_162) rfl (XS.iconst X59.here hx rfl (hb hby at_164) (XS.iadd X59.here hx rfl (hb hby at_165) rfl (XS.iload X59.here hx rfl (hb hby at_166) rfl kc_)))))))) ?_
  show own_Ends p e below s _ _ _ (T59.setTop (mkF m 168 #[.val (.int p1), .val (.int p2), .val (.int p3), .val (.int p4), .val (.int p5), .val (.int p6), .val (.int nn), .val (.int (2 : Int32)), .val (.int fr), .val (.int qb), .val (.ref b48), .unset, .unset, .unset, .unset, .unset, .unset, .unset] [(.int nn), (.int (fr + (1 : Int32))), (.ref b48)]))
  refine own_step (fun _ kc_ => XS.iconst X59.here hx rfl (hb hby at_168) (XS.iload X59.here hx rfl (hb hby at_169) rfl kc_)) ?_
  show own_Ends p e below s _ _ _ (T59.setTop (mkF m 171 #[.val (.int p1), .val (.int p2), .val (.int p3), .val (.int p4), .val (.int p5), .val (.int p6), .val (.int nn), .val (.int (2 : Int32)), .val (.int fr), .val (.int qb), .val (.ref b48), .unset, .unset, .unset, .unset, .unset, .unset, .unset] [(.int (2 : Int32)), (.int (1 : Int32)), (.int nn), (.int (fr + (1 : Int32))), (.ref b48)]))
  obtain ⟨_, _, ⟨T60, L60, k60, n60⟩, -, X60, ⟨Lc60, hQ60, l60, y60, z60⟩, st60⟩ := Jvm.LawKit.callS X59 hx (y := (⟨"com/example/wakachi/wakachi/ReaderNextPinLaw", "enc", "(III)B"⟩ : MethodName)) hown (mvT hZ (hw _ (List.mem_of_getElem? (i := 2) rfl))) (mvT hZ (hw _ (List.mem_of_getElem? (i := 3) rfl))) (mvT hZ (hw _ (List.mem_of_getElem? (i := 4) rfl))) (mvT hZ (hw _ (List.mem_of_getElem? (i := 5) rfl))) (by decide) (backOf (W := 2) (rm1 l Z a0 hw [] nn (1 : Int32) (2 : Int32)  h59 n0 Zs59 ) hZ (hw _ (List.mem_of_getElem? (i := 5) rfl)) (hw _ (List.mem_of_getElem? (i := 4) rfl)) (by decide) (by decide)) (g := (mkF m 171 #[.val (.int p1), .val (.int p2), .val (.int p3), .val (.int p4), .val (.int p5), .val (.int p6), .val (.int nn), .val (.int (2 : Int32)), .val (.int fr), .val (.int qb), .val (.ref b48), .unset, .unset, .unset, .unset, .unset, .unset, .unset] [(.int (2 : Int32)), (.int (1 : Int32)), (.int nn), (.int (fr + (1 : Int32))), (.ref b48)])) rfl (by rw [hml]; rfl) (argsL := [(.int nn), (.int (1 : Int32)), (.int (2 : Int32))]) (rest := [(.int (fr + (1 : Int32))), (.ref b48)]) (lenOf pd_1 rfl) rfl (by show 2 * 0 + _ ≤ _; exact Nat.le_of_eq rfl) (hb hby at_171) (fun _ _ => ⟨rfl, e59, (by decide : 1 + 0 ≤ _), (by decide : 9 + 0 ≤ _)⟩)
  dsimp only [Pt.U, Pt.locs, Pt.cells, Pt.slots] at X60 l60 y60 z60 st60 hQ60
  subst y60 z60
  obtain ⟨rfl, N60q, e60⟩ := hQ60
  have e60h : T60.heap = h59 := e60
  have N60 : Fr n0 L60 := by rw [l60]; exact Fr.app N59 N60q
  refine own_step (fun _ kc_ => st60 _ kc_) ?_
  show own_Ends p e below s _ _ _ (T60.setTop (mkF m 174 #[.val (.int p1), .val (.int p2), .val (.int p3), .val (.int p4), .val (.int p5), .val (.int p6), .val (.int nn), .val (.int (2 : Int32)), .val (.int fr), .val (.int qb), .val (.ref b48), .unset, .unset, .unset, .unset, .unset, .unset, .unset] [(.int (own_enc nn (1 : Int32) (2 : Int32))), (.int (fr + (1 : Int32))), (.ref b48)]))
  obtain ⟨T61, h61, X61, e61, W61, A61, st61⟩ := own_bastore X60 hx hZ e60h A_b48_59 (j := (fr + (1 : Int32))) (x := (own_enc nn (1 : Int32) (2 : Int32))) (own_ix0 hF hfr (k := 1) (by decide)) (i := F + 1) (own_ix hF hfr (k := 1) (by decide)) (by simp only [List.length_set, List.length_cons, List.length_nil]; omega) (Ls := #[.val (.int p1), .val (.int p2), .val (.int p3), .val (.int p4), .val (.int p5), .val (.int p6), .val (.int nn), .val (.int (2 : Int32)), .val (.int fr), .val (.int qb), .val (.ref b48), .unset, .unset, .unset, .unset, .unset, .unset, .unset]) (st := []) (hb hby at_174)
  have A_b48_61 : own_Ar Z h61 b48 .byte (((([(.int (nar .byte qb)), (.int (nar .byte qb)), (.int (nar .byte qb)), (.int (nar .byte qb)), (.int (nar .byte qb)), (.int (nar .byte qb)), (.int (nar .byte qb)), (.int (nar .byte qb)), (.int (nar .byte qb))]).set F (.int (nar .byte (own_enc nn (0 : Int32) (2 : Int32)))))).set (F + 1) (.int (nar .byte (own_enc nn (1 : Int32) (2 : Int32))))) := A61.cast rfl
  have Zs61 := Nat.le_trans Zs59 (Nat.le_of_eq W61.size.symm)
  have N61 := Fr.snoc X61 N60 n0_b48
  refine own_step (fun _ kc_ => st61 _ kc_) ?_
  show own_Ends p e below s _ _ _ (T61.setTop (mkF m 175 #[.val (.int p1), .val (.int p2), .val (.int p3), .val (.int p4), .val (.int p5), .val (.int p6), .val (.int nn), .val (.int (2 : Int32)), .val (.int fr), .val (.int qb), .val (.ref b48), .unset, .unset, .unset, .unset, .unset, .unset, .unset] []))
  refine own_step (fun _ kc_ => XS.iload X61.here hx rfl (hb hby at_175) rfl (XS.iconst X61.here hx rfl (hb hby at_177) (XS.icmpYes X61.here hx rfl (pc0 := 178) (pc' := 196) rfl (hb hby at_178) rfl (XT.ii_le_t (by decide : ¬ ((2 : Int32) < (2 : Int32)))) (by decide) (by decide) (XS.iload X61.here hx rfl (hb hby at_196) rfl (XS.iconst X61.here hx rfl (hb hby at_198) (XS.icmpYes X61.here hx rfl (pc0 := 199) (pc' := 217) rfl (hb hby at_199) rfl (XT.ii_le_t (by decide : ¬ ((3 : Int32) < (2 : Int32)))) (by decide) (by decide) (XS.iload X61.here hx rfl (hb hby at_217) rfl (XS.iconst X61.here hx rfl (hb hby at_219) kc_)))))))) ?_
  show own_Ends p e below s _ _ _ (T61.setTop (mkF m 220 #[.val (.int p1), .val (.int p2), .val (.int p3), .val (.int p4), .val (.int p5), .val (.int p6), .val (.int nn), .val (.int (2 : Int32)), .val (.int fr), .val (.int qb), .val (.ref b48), .unset, .unset, .unset, .unset, .unset, .unset, .unset] [(.int (4 : Int32)), (.int (2 : Int32))]))
  refine own_step (fun _ kc_ => XS.icmpYes X61.here hx rfl (pc0 := 220) (pc' := 238) rfl (hb hby at_220) rfl (XT.ii_le_t (by decide : ¬ ((4 : Int32) < (2 : Int32)))) (by decide) (by decide) (XS.iload X61.here hx rfl (hb hby at_238) rfl (XS.bipush X61.here hx rfl (hb hby at_240) (XS.iand X61.here hx rfl (hb hby at_242) rfl (XS.istore X61.here hx rfl (hb hby at_243) rfl (l' := #[.val (.int p1), .val (.int p2), .val (.int p3), .val (.int p4), .val (.int p5), .val (.int p6), .val (.int nn), .val (.int (2 : Int32)), .val (.int fr), .val (.int qb), .val (.ref b48), .val (.int (p5 &&& (127 : Int32))), .unset, .unset, .unset, .unset, .unset, .unset]) rfl kc_))))) ?_
  show own_Ends p e below s _ _ _ (T61.setTop (mkF m 245 #[.val (.int p1), .val (.int p2), .val (.int p3), .val (.int p4), .val (.int p5), .val (.int p6), .val (.int nn), .val (.int (2 : Int32)), .val (.int fr), .val (.int qb), .val (.ref b48), .val (.int (p5 &&& (127 : Int32))), .unset, .unset, .unset, .unset, .unset, .unset] []))
  generalize hsc : (p5 &&& (127 : Int32)) = sc
  show own_Ends p e below s _ _ _ (T61.setTop (mkF m 245 #[.val (.int p1), .val (.int p2), .val (.int p3), .val (.int p4), .val (.int p5), .val (.int p6), .val (.int nn), .val (.int (2 : Int32)), .val (.int fr), .val (.int qb), .val (.ref b48), .val (.int sc), .unset, .unset, .unset, .unset, .unset, .unset] []))
  refine own_step (fun _ kc_ => XS.aload X61.here hx rfl (hb hby at_245) rfl rfl (XS.iload X61.here hx rfl (hb hby at_247) rfl (XS.iload X61.here hx rfl (hb hby at_249) rfl (XS.iadd X61.here hx rfl (hb hby at_251) rfl (XS.iload X61.here hx rfl (hb hby at_252) rfl (XS.i2b X61.here hx rfl (hb hby at_254) rfl kc_)))))) ?_
  show own_Ends p e below s _ _ _ (T61.setTop (mkF m 255 #[.val (.int p1), .val (.int p2), .val (.int p3), .val (.int p4), .val (.int p5), .val (.int p6), .val (.int nn), .val (.int (2 : Int32)), .val (.int fr), .val (.int qb), .val (.ref b48), .val (.int sc), .unset, .unset, .unset, .unset, .unset, .unset] [(.int (sc.toInt8.toInt32)), (.int (fr + (2 : Int32))), (.ref b48)]))
  obtain ⟨T62, h62, X62, e62, W62, A62, st62⟩ := own_bastore X61 hx hZ e61 A_b48_61 (j := (fr + (2 : Int32))) (x := (sc.toInt8.toInt32)) (own_ix0 hF hfr (k := 2) (by decide)) (i := F + 2) (own_ix hF hfr (k := 2) (by decide)) (by simp only [List.length_set, List.length_cons, List.length_nil]; omega) (Ls := #[.val (.int p1), .val (.int p2), .val (.int p3), .val (.int p4), .val (.int p5), .val (.int p6), .val (.int nn), .val (.int (2 : Int32)), .val (.int fr), .val (.int qb), .val (.ref b48), .val (.int sc), .unset, .unset, .unset, .unset, .unset, .unset]) (st := []) (hb hby at_255)
  have A_b48_62 : own_Ar Z h62 b48 .byte (((((([(.int (nar .byte qb)), (.int (nar .byte qb)), (.int (nar .byte qb)), (.int (nar .byte qb)), (.int (nar .byte qb)), (.int (nar .byte qb)), (.int (nar .byte qb)), (.int (nar .byte qb)), (.int (nar .byte qb))]).set F (.int (nar .byte (own_enc nn (0 : Int32) (2 : Int32)))))).set (F + 1) (.int (nar .byte (own_enc nn (1 : Int32) (2 : Int32)))))).set (F + 2) (.int (nar .byte (sc.toInt8.toInt32)))) := A62.cast rfl
  have Zs62 := Nat.le_trans Zs61 (Nat.le_of_eq W62.size.symm)
  have N62 := Fr.snoc X62 N61 n0_b48
  refine own_step (fun _ kc_ => st62 _ kc_) ?_
  show own_Ends p e below s _ _ _ (T62.setTop (mkF m 256 #[.val (.int p1), .val (.int p2), .val (.int p3), .val (.int p4), .val (.int p5), .val (.int p6), .val (.int nn), .val (.int (2 : Int32)), .val (.int fr), .val (.int qb), .val (.ref b48), .val (.int sc), .unset, .unset, .unset, .unset, .unset, .unset] []))
  refine own_step (fun _ kc_ => XS.iloadN X62.here hx rfl (hb hby at_256) rfl (X62.ldcI hx hown (mvT hZ (hw _ (List.mem_of_getElem? (i := 0) rfl))) rfl (hb hby at_257) (XS.iand X62.here hx rfl (hb hby at_259) rfl (XS.iload X62.here hx rfl (hb hby at_260) rfl (XS.iconst X62.here hx rfl (hb hby at_262) (XS.iadd X62.here hx rfl (hb hby at_263) rfl kc_)))))) ?_
  show own_Ends p e below s _ _ _ (T62.setTop (mkF m 264 #[.val (.int p1), .val (.int p2), .val (.int p3), .val (.int p4), .val (.int p5), .val (.int p6), .val (.int nn), .val (.int (2 : Int32)), .val (.int fr), .val (.int qb), .val (.ref b48), .val (.int sc), .unset, .unset, .unset, .unset, .unset, .unset] [(.int ((2 : Int32) + (2 : Int32))), (.int (p4 &&& (2147483647 : Int32)))]))
  rw [show ((2 : Int32) + (2 : Int32)) = (4 : Int32) from by decide]
  show own_Ends p e below s _ _ _ (T62.setTop (mkF m 264 #[.val (.int p1), .val (.int p2), .val (.int p3), .val (.int p4), .val (.int p5), .val (.int p6), .val (.int nn), .val (.int (2 : Int32)), .val (.int fr), .val (.int qb), .val (.ref b48), .val (.int sc), .unset, .unset, .unset, .unset, .unset, .unset] [(.int (4 : Int32)), (.int (p4 &&& (2147483647 : Int32)))]))
  refine own_step (fun _ kc_ => Jvm.RoadKit.iremM X62 hx rfl (hb hby at_264) rfl (by decide) (XS.istore X62.here hx rfl (hb hby at_265) rfl (l' := #[.val (.int p1), .val (.int p2), .val (.int p3), .val (.int p4), .val (.int p5), .val (.int p6), .val (.int nn), .val (.int (2 : Int32)), .val (.int fr), .val (.int qb), .val (.ref b48), .val (.int sc), .val (.int ((p4 &&& (2147483647 : Int32)) % (4 : Int32))), .unset, .unset, .unset, .unset, .unset]) rfl kc_)) ?_
  show own_Ends p e below s _ _ _ (T62.setTop (mkF m 267 #[.val (.int p1), .val (.int p2), .val (.int p3), .val (.int p4), .val (.int p5), .val (.int p6), .val (.int nn), .val (.int (2 : Int32)), .val (.int fr), .val (.int qb), .val (.ref b48), .val (.int sc), .val (.int ((p4 &&& (2147483647 : Int32)) % (4 : Int32))), .unset, .unset, .unset, .unset, .unset] []))
  generalize hcc : ((p4 &&& (2147483647 : Int32)) % (4 : Int32)) = cc
  show own_Ends p e below s _ _ _ (T62.setTop (mkF m 267 #[.val (.int p1), .val (.int p2), .val (.int p3), .val (.int p4), .val (.int p5), .val (.int p6), .val (.int nn), .val (.int (2 : Int32)), .val (.int fr), .val (.int qb), .val (.ref b48), .val (.int sc), .val (.int cc), .unset, .unset, .unset, .unset, .unset] []))
  obtain ⟨T63, h63, X63, e63, E63, A63, D63, -, st63⟩ := newO X62 hx hZ hown (hw _ (List.mem_of_getElem? (i := 6) rfl)) (hw _ (List.mem_of_getElem? (i := 7) rfl)) (hw _ (List.mem_of_getElem? (i := 8) rfl)) e62 (g := (mkF m 267 #[.val (.int p1), .val (.int p2), .val (.int p3), .val (.int p4), .val (.int p5), .val (.int p6), .val (.int nn), .val (.int (2 : Int32)), .val (.int fr), .val (.int qb), .val (.ref b48), .val (.int sc), .val (.int cc), .unset, .unset, .unset, .unset, .unset] [])) rfl (hb hby at_267) (by decide : 1 + 1 ≤ _) (by decide : 9 + 3 ≤ _)
  obtain ⟨b63, g63⟩ : ∃ z, z = h62.size := ⟨_, rfl⟩
  rw [← g63] at A63 D63 st63
  have ne_b48_b63 : b48 ≠ b63 := Nat.ne_of_lt (Nat.lt_of_lt_of_le (A_b48_62).lt (Nat.le_of_eq g63.symm))
  have n0_b63 : n0 ≤ b63 := Nat.le_trans Zs62 (Nat.le_of_eq g63.symm)
  have A_b48_63 := (A_b48_62).ext E63
  have Zs63 := Nat.le_trans Zs62 E63.1
  have F_bytes_b63 : Fld Z h63 b63 "com/example/wakachi/wakachi/VarInts$Reader" "bytes" "[B" .null := D63 (Or.inr (hw _ (List.mem_of_getElem? (i := 16) rfl))) (ty := (.array .byte)) (by decide)
  have F_position_b63 : Fld Z h63 b63 "com/example/wakachi/wakachi/VarInts$Reader" "position" "I" (.int (0 : Int32)) := D63 (Or.inl (hw _ (List.mem_of_getElem? (i := 18) rfl))) (ty := .int) (by decide)
  have F_to_b63 : Fld Z h63 b63 "com/example/wakachi/wakachi/VarInts$Reader" "to" "I" (.int (0 : Int32)) := D63 (Or.inr (hw _ (List.mem_of_getElem? (i := 20) rfl))) (ty := .int) (by decide)
  refine own_step (fun _ kc_ => st63 _ kc_) ?_
  show own_Ends p e below s _ _ _ (T63.setTop (mkF m 270 #[.val (.int p1), .val (.int p2), .val (.int p3), .val (.int p4), .val (.int p5), .val (.int p6), .val (.int nn), .val (.int (2 : Int32)), .val (.int fr), .val (.int qb), .val (.ref b48), .val (.int sc), .val (.int cc), .unset, .unset, .unset, .unset, .unset] [(.ref b63)]))
  refine own_step (fun _ kc_ => XS.dup X63.here hx rfl (hb hby at_270) rfl rfl (XS.aload X63.here hx rfl (hb hby at_271) rfl rfl (XS.iload X63.here hx rfl (hb hby at_273) rfl (XS.iload X63.here hx rfl (hb hby at_275) rfl (XS.iload X63.here hx rfl (hb hby at_277) rfl (XS.iadd X63.here hx rfl (hb hby at_279) rfl kc_)))))) ?_
  show own_Ends p e below s _ _ _ (T63.setTop (mkF m 280 #[.val (.int p1), .val (.int p2), .val (.int p3), .val (.int p4), .val (.int p5), .val (.int p6), .val (.int nn), .val (.int (2 : Int32)), .val (.int fr), .val (.int qb), .val (.ref b48), .val (.int sc), .val (.int cc), .unset, .unset, .unset, .unset, .unset] [(.int (fr + cc)), (.int fr), (.ref b48), (.ref b63), (.ref b63)]))
  obtain ⟨C, hC, hcC⟩ : ∃ C : Nat, C < 4 ∧ cc = Int32.ofNat C := own_cut p4 (4 : Int32) 4 (by decide) rfl hcc
  have hto : fr + cc = Int32.ofNat (F + C) := by rw [hfr, hcC, Int32.ofNat_add]
  rw [hto]
  show own_Ends p e below s _ _ _ (T63.setTop (mkF m 280 #[.val (.int p1), .val (.int p2), .val (.int p3), .val (.int p4), .val (.int p5), .val (.int p6), .val (.int nn), .val (.int (2 : Int32)), .val (.int fr), .val (.int qb), .val (.ref b48), .val (.int sc), .val (.int cc), .unset, .unset, .unset, .unset, .unset] [(.int (Int32.ofNat (F + C))), (.int fr), (.ref b48), (.ref b63), (.ref b63)]))
  obtain ⟨vs, hvs⟩ : ∃ v : List Value, (((((([(.int (nar .byte qb)), (.int (nar .byte qb)), (.int (nar .byte qb)), (.int (nar .byte qb)), (.int (nar .byte qb)), (.int (nar .byte qb)), (.int (nar .byte qb)), (.int (nar .byte qb)), (.int (nar .byte qb))]).set F (.int (nar .byte (own_enc nn (0 : Int32) (2 : Int32)))))).set (F + 1) (.int (nar .byte (own_enc nn (1 : Int32) (2 : Int32)))))).set (F + 2) (.int (nar .byte (sc.toInt8.toInt32)))) = v := ⟨_, rfl⟩
  have A_vs : own_Ar Z h63 b48 .byte vs := by rw [← hvs]; exact A_b48_63
  have hints : own_ints vs := by rw [← hvs]; exact own_ints_set (own_ints_set (own_ints_set (own_ints9 _ _ _ _ _ _ _ _ _)))
  have hlen : vs.length = 9 := by rw [← hvs]; simp only [List.length_set, List.length_cons, List.length_nil]
  have hb0 : own_iv vs (F + 0) = nar .byte (own_enc nn (0 : Int32) (2 : Int32)) := by rw [← hvs]; exact own_pk2_0 _ _ _ _  F hF
  have hb1 : own_iv vs (F + 1) = nar .byte (own_enc nn (1 : Int32) (2 : Int32)) := by rw [← hvs]; exact own_pk2_1 _ _ _ _  F hF
  have hb2 : own_iv vs (F + 2) = nar .byte (sc.toInt8.toInt32) := by rw [← hvs]; exact own_pk2_2 _ _ _ _  F hF
  obtain ⟨_, _, ⟨T64, L64, k64, n64⟩, -, X64, ⟨Lc64, hQ64, l64, y64, z64⟩, st64⟩ := X63.specialBack hx (y := (⟨"com/example/wakachi/wakachi/VarInts$Reader", "<init>", "([BII)V"⟩ : MethodName)) rfl hown (mvT hZ (hw _ (List.mem_of_getElem? (i := 9) rfl))) (mvT hZ (hw _ (List.mem_of_getElem? (i := 10) rfl))) (mvT hZ (hw _ (List.mem_of_getElem? (i := 11) rfl))) (by decide) (backOf (W := 1) (rm2 l Z a0 hw [] b63 b48 fr (Int32.ofNat (F + C))  h63 n0 Zs63 A63 F_bytes_b63 F_position_b63 F_to_b63 n0_b63) hZ (hw _ (List.mem_of_getElem? (i := 11) rfl)) (hw _ (List.mem_of_getElem? (i := 8) rfl)) (by decide) (by decide)) (g := (mkF m 280 #[.val (.int p1), .val (.int p2), .val (.int p3), .val (.int p4), .val (.int p5), .val (.int p6), .val (.int nn), .val (.int (2 : Int32)), .val (.int fr), .val (.int qb), .val (.ref b48), .val (.int sc), .val (.int cc), .unset, .unset, .unset, .unset, .unset] [(.int (Int32.ofNat (F + C))), (.int fr), (.ref b48), (.ref b63), (.ref b63)])) rfl (by rw [hml]; rfl) (Steps.refl _) (a := b63) (argsL := [(.ref b48), (.int fr), (.int (Int32.ofNat (F + C)))]) (rest := [(.ref b63)]) (lenOf pd_2 rfl) rfl (by show 2 * 0 + _ ≤ _; exact Nat.le_of_eq rfl) (hb hby at_280) (fun _ _ => ⟨rfl, e63, (by decide : 2 + 0 ≤ _), (by decide : 12 + 0 ≤ _)⟩)
  dsimp only [Pt.U, Pt.locs, Pt.cells, Pt.slots] at X64 l64 y64 z64 st64 hQ64
  subst y64 z64
  obtain ⟨rfl, N64q, K64k, fB64, fP64, fT64⟩ := hQ64
  rw [hfr] at fP64
  have A_b48_64 := (A_vs).keep K64k (ninS ne_b48_b63 nin0)
  have E_b63_64 := (A63).keep K64k
  have Zs64 := Nat.le_trans Zs63 K64k.1
  have N64 : Fr n0 L64 := by rw [l64]; exact Fr.app N62 N64q
  refine own_step (fun _ kc_ => st64.trans kc_) ?_
  show own_Ends p e below s _ _ _ (T64.setTop (mkF m 283 #[.val (.int p1), .val (.int p2), .val (.int p3), .val (.int p4), .val (.int p5), .val (.int p6), .val (.int nn), .val (.int (2 : Int32)), .val (.int fr), .val (.int qb), .val (.ref b48), .val (.int sc), .val (.int cc), .unset, .unset, .unset, .unset, .unset] [(.ref b63)]))
  refine own_step (fun _ kc_ => XS.astore X64.here hx rfl (hb hby at_283) rfl rfl (l' := #[.val (.int p1), .val (.int p2), .val (.int p3), .val (.int p4), .val (.int p5), .val (.int p6), .val (.int nn), .val (.int (2 : Int32)), .val (.int fr), .val (.int qb), .val (.ref b48), .val (.int sc), .val (.int cc), .val (.ref b63), .unset, .unset, .unset, .unset]) rfl kc_) ?_
  show own_Ends p e below s _ _ _ (T64.setTop (mkF m 285 #[.val (.int p1), .val (.int p2), .val (.int p3), .val (.int p4), .val (.int p5), .val (.int p6), .val (.int nn), .val (.int (2 : Int32)), .val (.int fr), .val (.int qb), .val (.ref b48), .val (.int sc), .val (.int cc), .val (.ref b63), .unset, .unset, .unset, .unset] []))
  rcases (show C < 2 ∨ C = 2 ∨ C = 3 by omega) with hC1 | hC1 | hC1
  · have hx1 : own_nx vs F 0 0 C = (-1, F + C) := own_nx_all vs C F 0 0 (own_neg2 vs F C nn hC1 hb0 hb1)
    have hx2 : own_nx vs (F + C) 0 0 0 = (-1, F + C) := rfl
    have hh1 := own_hasEq (F + C)
    have hh2 := own_hasEq (F + C)
    show own_Ends p e below s _ _ _ (T64.setTop (mkF m 285 #[.val (.int p1), .val (.int p2), .val (.int p3), .val (.int p4), .val (.int p5), .val (.int p6), .val (.int nn), .val (.int (2 : Int32)), .val (.int fr), .val (.int qb), .val (.ref b48), .val (.int sc), .val (.int cc), .val (.ref b63), .unset, .unset, .unset, .unset] []))
    refine own_step (fun _ kc_ => XS.aload X64.here hx rfl (hb hby at_285) rfl rfl kc_) ?_
    show own_Ends p e below s _ _ _ (T64.setTop (mkF m 287 #[.val (.int p1), .val (.int p2), .val (.int p3), .val (.int p4), .val (.int p5), .val (.int p6), .val (.int nn), .val (.int (2 : Int32)), .val (.int fr), .val (.int qb), .val (.ref b48), .val (.int sc), .val (.int cc), .val (.ref b63), .unset, .unset, .unset, .unset] [(.ref b63)]))
    obtain ⟨cq65, kq65, q65a, q65b, q65c⟩ := isOf hZ rfl E_b63_64
    obtain ⟨_, _, ⟨T65, L65, k65, n65⟩, -, X65, ⟨Lc65, hQ65, l65, y65, z65⟩, st65⟩ := X64.virtualBack hx (y := (⟨"com/example/wakachi/wakachi/VarInts$Reader", "next", "()I"⟩ : MethodName)) (z := (⟨"com/example/wakachi/wakachi/VarInts$Reader", "next", "()I"⟩ : MethodName)) hown (mvT hZ (hw _ (List.mem_of_getElem? (i := 21) rfl))) (mvT hZ (hw _ (List.mem_of_getElem? (i := 22) rfl))) (notFace_of_selects (args := #[]) (mvT hZ (hw _ (List.mem_of_getElem? (i := 24) rfl)))) (mvT hZ (hw _ (List.mem_of_getElem? (i := 24) rfl))) (mvT hZ (hw _ (List.mem_of_getElem? (i := 23) rfl))) (by decide) (backOf (W := 0) (rm4 l Z a0 hw [] b63 b48 vs F C T64.heap n0 Zs64 E_b63_64 fB64 fP64 fT64 A_b48_64 hints (by rw [hlen]; omega) n0_b63 (Ne.symm ne_b48_b63)) hZ (hw _ (List.mem_of_getElem? (i := 25) rfl)) (hw _ (List.mem_of_getElem? (i := 8) rfl)) (by decide) (by decide)) q65a q65c (g := (mkF m 287 #[.val (.int p1), .val (.int p2), .val (.int p3), .val (.int p4), .val (.int p5), .val (.int p6), .val (.int nn), .val (.int (2 : Int32)), .val (.int fr), .val (.int qb), .val (.ref b48), .val (.int sc), .val (.int cc), .val (.ref b63), .unset, .unset, .unset, .unset] [(.ref b63)])) rfl (by rw [hml]; rfl) (Steps.refl _) (argsL := []) (rest := []) (lenOf pd_3 rfl) rfl (by show 2 * 0 + _ ≤ _; exact Nat.le_of_eq rfl) (hb hby at_287) (fun _ _ => ⟨rfl, rfl, (by decide : 2 + 0 ≤ _), (by decide : 12 + 0 ≤ _)⟩)
    dsimp only [Pt.U, Pt.locs, Pt.cells, Pt.slots] at X65 l65 y65 z65 st65 hQ65
    subst y65 z65
    obtain ⟨hv65, N65q, K65k, fP65, fB65, fT65⟩ := hQ65
    rw [hx1] at hv65 fP65
    subst hv65
    have A_b48_65 := (A_b48_64).keep K65k (ninS ne_b48_b63 nin0)
    have E_b63_65 := (E_b63_64).keep K65k
    have Zs65 := Nat.le_trans Zs64 K65k.1
    have N65 : Fr n0 L65 := by rw [l65]; exact Fr.app N64 N65q
    refine own_step (fun _ kc_ => st65.trans kc_) ?_
    show own_Ends p e below s _ _ _ (T65.setTop (mkF m 290 #[.val (.int p1), .val (.int p2), .val (.int p3), .val (.int p4), .val (.int p5), .val (.int p6), .val (.int nn), .val (.int (2 : Int32)), .val (.int fr), .val (.int qb), .val (.ref b48), .val (.int sc), .val (.int cc), .val (.ref b63), .unset, .unset, .unset, .unset] [(.int (-1 : Int32))]))
    refine own_step (fun _ kc_ => XS.istore X65.here hx rfl (hb hby at_290) rfl (l' := #[.val (.int p1), .val (.int p2), .val (.int p3), .val (.int p4), .val (.int p5), .val (.int p6), .val (.int nn), .val (.int (2 : Int32)), .val (.int fr), .val (.int qb), .val (.ref b48), .val (.int sc), .val (.int cc), .val (.ref b63), .val (.int (-1 : Int32)), .unset, .unset, .unset]) rfl (XS.aload X65.here hx rfl (hb hby at_292) rfl rfl kc_)) ?_
    show own_Ends p e below s _ _ _ (T65.setTop (mkF m 294 #[.val (.int p1), .val (.int p2), .val (.int p3), .val (.int p4), .val (.int p5), .val (.int p6), .val (.int nn), .val (.int (2 : Int32)), .val (.int fr), .val (.int qb), .val (.ref b48), .val (.int sc), .val (.int cc), .val (.ref b63), .val (.int (-1 : Int32)), .unset, .unset, .unset] [(.ref b63)]))
    obtain ⟨cq66, kq66, q66a, q66b, q66c⟩ := isOf hZ rfl E_b63_65
    obtain ⟨_, _, ⟨T66, L66, k66, n66⟩, -, X66, ⟨Lc66, hQ66, l66, y66, z66⟩, st66⟩ := X65.virtualBack hx (y := (⟨"com/example/wakachi/wakachi/VarInts$Reader", "hasNext", "()Z"⟩ : MethodName)) (z := (⟨"com/example/wakachi/wakachi/VarInts$Reader", "hasNext", "()Z"⟩ : MethodName)) hown (mvT hZ (hw _ (List.mem_of_getElem? (i := 26) rfl))) (mvT hZ (hw _ (List.mem_of_getElem? (i := 27) rfl))) (notFace_of_selects (args := #[]) (mvT hZ (hw _ (List.mem_of_getElem? (i := 29) rfl)))) (mvT hZ (hw _ (List.mem_of_getElem? (i := 29) rfl))) (mvT hZ (hw _ (List.mem_of_getElem? (i := 28) rfl))) (by decide) (backOf (W := 0) (rm5 l Z a0 hw [] b63 (Int32.ofNat (F + C)) (Int32.ofNat (F + C)) T65.heap n0 Zs65 fP65 fT65) hZ (hw _ (List.mem_of_getElem? (i := 30) rfl)) (hw _ (List.mem_of_getElem? (i := 8) rfl)) (by decide) (by decide)) q66a q66c (g := (mkF m 294 #[.val (.int p1), .val (.int p2), .val (.int p3), .val (.int p4), .val (.int p5), .val (.int p6), .val (.int nn), .val (.int (2 : Int32)), .val (.int fr), .val (.int qb), .val (.ref b48), .val (.int sc), .val (.int cc), .val (.ref b63), .val (.int (-1 : Int32)), .unset, .unset, .unset] [(.ref b63)])) rfl (by rw [hml]; rfl) (Steps.refl _) (argsL := []) (rest := []) (lenOf pd_4 rfl) rfl (by show 2 * 0 + _ ≤ _; exact Nat.le_of_eq rfl) (hb hby at_294) (fun _ _ => ⟨rfl, rfl, (by decide : 2 + 0 ≤ _), (by decide : 12 + 0 ≤ _)⟩)
    dsimp only [Pt.U, Pt.locs, Pt.cells, Pt.slots] at X66 l66 y66 z66 st66 hQ66
    subst y66 z66
    obtain ⟨hv66, N66q, e66⟩ := hQ66
    rw [hh1] at hv66
    subst hv66
    have e66h : T66.heap = T65.heap := e66
    have N66 : Fr n0 L66 := by rw [l66]; exact Fr.app N65 N66q
    refine own_step (fun _ kc_ => st66.trans kc_) ?_
    show own_Ends p e below s _ _ _ (T66.setTop (mkF m 297 #[.val (.int p1), .val (.int p2), .val (.int p3), .val (.int p4), .val (.int p5), .val (.int p6), .val (.int nn), .val (.int (2 : Int32)), .val (.int fr), .val (.int qb), .val (.ref b48), .val (.int sc), .val (.int cc), .val (.ref b63), .val (.int (-1 : Int32)), .unset, .unset, .unset] [(.int (0 : Int32))]))
    refine own_step (fun _ kc_ => XS.istore X66.here hx rfl (hb hby at_297) rfl (l' := #[.val (.int p1), .val (.int p2), .val (.int p3), .val (.int p4), .val (.int p5), .val (.int p6), .val (.int nn), .val (.int (2 : Int32)), .val (.int fr), .val (.int qb), .val (.ref b48), .val (.int sc), .val (.int cc), .val (.ref b63), .val (.int (-1 : Int32)), .val (.int (0 : Int32)), .unset, .unset]) rfl (XS.aload X66.here hx rfl (hb hby at_299) rfl rfl kc_)) ?_
    show own_Ends p e below s _ _ _ (T66.setTop (mkF m 301 #[.val (.int p1), .val (.int p2), .val (.int p3), .val (.int p4), .val (.int p5), .val (.int p6), .val (.int nn), .val (.int (2 : Int32)), .val (.int fr), .val (.int qb), .val (.ref b48), .val (.int sc), .val (.int cc), .val (.ref b63), .val (.int (-1 : Int32)), .val (.int (0 : Int32)), .unset, .unset] [(.ref b63)]))
    obtain ⟨cq67, kq67, q67a, q67b, q67c⟩ := isOf hZ e66h E_b63_65
    obtain ⟨_, _, ⟨T67, L67, k67, n67⟩, -, X67, ⟨Lc67, hQ67, l67, y67, z67⟩, st67⟩ := X66.virtualBack hx (y := (⟨"com/example/wakachi/wakachi/VarInts$Reader", "next", "()I"⟩ : MethodName)) (z := (⟨"com/example/wakachi/wakachi/VarInts$Reader", "next", "()I"⟩ : MethodName)) hown (mvT hZ (hw _ (List.mem_of_getElem? (i := 21) rfl))) (mvT hZ (hw _ (List.mem_of_getElem? (i := 22) rfl))) (notFace_of_selects (args := #[]) (mvT hZ (hw _ (List.mem_of_getElem? (i := 24) rfl)))) (mvT hZ (hw _ (List.mem_of_getElem? (i := 24) rfl))) (mvT hZ (hw _ (List.mem_of_getElem? (i := 23) rfl))) (by decide) (backOf (W := 0) (rm4 l Z a0 hw [] b63 b48 vs (F + C) 0 T65.heap n0 Zs65 E_b63_65 fB65 fP65 fT65 A_b48_65 hints (by rw [hlen]; omega) n0_b63 (Ne.symm ne_b48_b63)) hZ (hw _ (List.mem_of_getElem? (i := 25) rfl)) (hw _ (List.mem_of_getElem? (i := 8) rfl)) (by decide) (by decide)) q67a q67c (g := (mkF m 301 #[.val (.int p1), .val (.int p2), .val (.int p3), .val (.int p4), .val (.int p5), .val (.int p6), .val (.int nn), .val (.int (2 : Int32)), .val (.int fr), .val (.int qb), .val (.ref b48), .val (.int sc), .val (.int cc), .val (.ref b63), .val (.int (-1 : Int32)), .val (.int (0 : Int32)), .unset, .unset] [(.ref b63)])) rfl (by rw [hml]; rfl) (Steps.refl _) (argsL := []) (rest := []) (lenOf pd_3 rfl) rfl (by show 2 * 0 + _ ≤ _; exact Nat.le_of_eq rfl) (hb hby at_301) (fun _ _ => ⟨rfl, e66h, (by decide : 2 + 0 ≤ _), (by decide : 12 + 0 ≤ _)⟩)
    dsimp only [Pt.U, Pt.locs, Pt.cells, Pt.slots] at X67 l67 y67 z67 st67 hQ67
    subst y67 z67
    obtain ⟨hv67, N67q, K67k, fP67, fB67, fT67⟩ := hQ67
    rw [hx2] at hv67 fP67
    subst hv67
    have A_b48_67 := (A_b48_65).keep K67k (ninS ne_b48_b63 nin0)
    have E_b63_67 := (E_b63_65).keep K67k
    have Zs67 := Nat.le_trans Zs65 K67k.1
    have N67 : Fr n0 L67 := by rw [l67]; exact Fr.app N66 N67q
    refine own_step (fun _ kc_ => st67.trans kc_) ?_
    show own_Ends p e below s _ _ _ (T67.setTop (mkF m 304 #[.val (.int p1), .val (.int p2), .val (.int p3), .val (.int p4), .val (.int p5), .val (.int p6), .val (.int nn), .val (.int (2 : Int32)), .val (.int fr), .val (.int qb), .val (.ref b48), .val (.int sc), .val (.int cc), .val (.ref b63), .val (.int (-1 : Int32)), .val (.int (0 : Int32)), .unset, .unset] [(.int (-1 : Int32))]))
    refine own_step (fun _ kc_ => XS.istore X67.here hx rfl (hb hby at_304) rfl (l' := #[.val (.int p1), .val (.int p2), .val (.int p3), .val (.int p4), .val (.int p5), .val (.int p6), .val (.int nn), .val (.int (2 : Int32)), .val (.int fr), .val (.int qb), .val (.ref b48), .val (.int sc), .val (.int cc), .val (.ref b63), .val (.int (-1 : Int32)), .val (.int (0 : Int32)), .val (.int (-1 : Int32)), .unset]) rfl (XS.aload X67.here hx rfl (hb hby at_306) rfl rfl kc_)) ?_
    show own_Ends p e below s _ _ _ (T67.setTop (mkF m 308 #[.val (.int p1), .val (.int p2), .val (.int p3), .val (.int p4), .val (.int p5), .val (.int p6), .val (.int nn), .val (.int (2 : Int32)), .val (.int fr), .val (.int qb), .val (.ref b48), .val (.int sc), .val (.int cc), .val (.ref b63), .val (.int (-1 : Int32)), .val (.int (0 : Int32)), .val (.int (-1 : Int32)), .unset] [(.ref b63)]))
    obtain ⟨cq68, kq68, q68a, q68b, q68c⟩ := isOf hZ rfl E_b63_67
    obtain ⟨_, _, ⟨T68, L68, k68, n68⟩, -, X68, ⟨Lc68, hQ68, l68, y68, z68⟩, st68⟩ := X67.virtualBack hx (y := (⟨"com/example/wakachi/wakachi/VarInts$Reader", "hasNext", "()Z"⟩ : MethodName)) (z := (⟨"com/example/wakachi/wakachi/VarInts$Reader", "hasNext", "()Z"⟩ : MethodName)) hown (mvT hZ (hw _ (List.mem_of_getElem? (i := 26) rfl))) (mvT hZ (hw _ (List.mem_of_getElem? (i := 27) rfl))) (notFace_of_selects (args := #[]) (mvT hZ (hw _ (List.mem_of_getElem? (i := 29) rfl)))) (mvT hZ (hw _ (List.mem_of_getElem? (i := 29) rfl))) (mvT hZ (hw _ (List.mem_of_getElem? (i := 28) rfl))) (by decide) (backOf (W := 0) (rm5 l Z a0 hw [] b63 (Int32.ofNat (F + C)) (Int32.ofNat (F + C)) T67.heap n0 Zs67 fP67 fT67) hZ (hw _ (List.mem_of_getElem? (i := 30) rfl)) (hw _ (List.mem_of_getElem? (i := 8) rfl)) (by decide) (by decide)) q68a q68c (g := (mkF m 308 #[.val (.int p1), .val (.int p2), .val (.int p3), .val (.int p4), .val (.int p5), .val (.int p6), .val (.int nn), .val (.int (2 : Int32)), .val (.int fr), .val (.int qb), .val (.ref b48), .val (.int sc), .val (.int cc), .val (.ref b63), .val (.int (-1 : Int32)), .val (.int (0 : Int32)), .val (.int (-1 : Int32)), .unset] [(.ref b63)])) rfl (by rw [hml]; rfl) (Steps.refl _) (argsL := []) (rest := []) (lenOf pd_4 rfl) rfl (by show 2 * 0 + _ ≤ _; exact Nat.le_of_eq rfl) (hb hby at_308) (fun _ _ => ⟨rfl, rfl, (by decide : 2 + 0 ≤ _), (by decide : 12 + 0 ≤ _)⟩)
    dsimp only [Pt.U, Pt.locs, Pt.cells, Pt.slots] at X68 l68 y68 z68 st68 hQ68
    subst y68 z68
    obtain ⟨hv68, N68q, e68⟩ := hQ68
    rw [hh2] at hv68
    subst hv68
    have e68h : T68.heap = T67.heap := e68
    have N68 : Fr n0 L68 := by rw [l68]; exact Fr.app N67 N68q
    refine own_step (fun _ kc_ => st68.trans kc_) ?_
    show own_Ends p e below s _ _ _ (T68.setTop (mkF m 311 #[.val (.int p1), .val (.int p2), .val (.int p3), .val (.int p4), .val (.int p5), .val (.int p6), .val (.int nn), .val (.int (2 : Int32)), .val (.int fr), .val (.int qb), .val (.ref b48), .val (.int sc), .val (.int cc), .val (.ref b63), .val (.int (-1 : Int32)), .val (.int (0 : Int32)), .val (.int (-1 : Int32)), .unset] [(.int (0 : Int32))]))
    refine own_step (fun _ kc_ => XS.istore X68.here hx rfl (hb hby at_311) rfl (l' := #[.val (.int p1), .val (.int p2), .val (.int p3), .val (.int p4), .val (.int p5), .val (.int p6), .val (.int nn), .val (.int (2 : Int32)), .val (.int fr), .val (.int qb), .val (.ref b48), .val (.int sc), .val (.int cc), .val (.ref b63), .val (.int (-1 : Int32)), .val (.int (0 : Int32)), .val (.int (-1 : Int32)), .val (.int (0 : Int32))]) rfl (XS.iload X68.here hx rfl (hb hby at_313) rfl (XS.iload X68.here hx rfl (hb hby at_315) rfl (XS.icmpNo X68.here hx rfl (hb hby at_317) rfl (XT.ii_ge_f (by rw [hcC]; exact own_ofNat_lt hC1 (by decide) : cc < (2 : Int32))) (XS.iload X68.here hx rfl (hb hby at_320) rfl (XS.iconst X68.here hx rfl (hb hby at_322) (XS.icmpNo X68.here hx rfl (hb hby at_323) rfl (XT.ii_ne_f (by decide : (-1 : Int32) = (-1 : Int32))) (XS.iload X68.here hx rfl (hb hby at_326) rfl kc_)))))))) ?_
    show own_Ends p e below s _ _ _ (T68.setTop (mkF m 328 #[.val (.int p1), .val (.int p2), .val (.int p3), .val (.int p4), .val (.int p5), .val (.int p6), .val (.int nn), .val (.int (2 : Int32)), .val (.int fr), .val (.int qb), .val (.ref b48), .val (.int sc), .val (.int cc), .val (.ref b63), .val (.int (-1 : Int32)), .val (.int (0 : Int32)), .val (.int (-1 : Int32)), .val (.int (0 : Int32))] [(.int (0 : Int32))]))
    refine own_step (fun _ kc_ => XS.ifNo X68.here hx rfl (hb hby at_328) rfl (XT.i0_ne_f (by decide : (0 : Int32) = 0)) (XS.iload X68.here hx rfl (hb hby at_331) rfl (XS.iconst X68.here hx rfl (hb hby at_333) (XS.icmpNo X68.here hx rfl (hb hby at_334) rfl (XT.ii_ne_f (by decide : (-1 : Int32) = (-1 : Int32))) (XS.iload X68.here hx rfl (hb hby at_337) rfl (XS.ifNo X68.here hx rfl (hb hby at_339) rfl (XT.i0_ne_f (by decide : (0 : Int32) = 0)) (XS.iconst X68.here hx rfl (hb hby at_342) (XS.goto X68.here hx rfl (pc0 := 343) (pc' := 347) rfl (hb hby at_343) (by decide) (by decide) kc_)))))))) ?_
    show own_Ends p e below s _ _ _ (T68.setTop (mkF m 347 #[.val (.int p1), .val (.int p2), .val (.int p3), .val (.int p4), .val (.int p5), .val (.int p6), .val (.int nn), .val (.int (2 : Int32)), .val (.int fr), .val (.int qb), .val (.ref b48), .val (.int sc), .val (.int cc), .val (.ref b63), .val (.int (-1 : Int32)), .val (.int (0 : Int32)), .val (.int (-1 : Int32)), .val (.int (0 : Int32))] [(.int (1 : Int32))]))
    exact own_retN X68 hx (t := .boolean) hret (by simp) hlk (hb hby at_347) (by decide) (by decide) rfl ⟨rfl, N68⟩
  · subst hC1
    have hx1 : own_nx vs F 0 0 2 = (nn, F + 2) := own_run2 vs F 0 nn hn0 hn1 hb0 hb1
    have hx2 : own_nx vs (F + 2) 0 0 0 = (-1, F + 2) := rfl
    have hh1 := own_hasEq (F + 2)
    have hh2 := own_hasEq (F + 2)
    show own_Ends p e below s _ _ _ (T64.setTop (mkF m 285 #[.val (.int p1), .val (.int p2), .val (.int p3), .val (.int p4), .val (.int p5), .val (.int p6), .val (.int nn), .val (.int (2 : Int32)), .val (.int fr), .val (.int qb), .val (.ref b48), .val (.int sc), .val (.int cc), .val (.ref b63), .unset, .unset, .unset, .unset] []))
    refine own_step (fun _ kc_ => XS.aload X64.here hx rfl (hb hby at_285) rfl rfl kc_) ?_
    show own_Ends p e below s _ _ _ (T64.setTop (mkF m 287 #[.val (.int p1), .val (.int p2), .val (.int p3), .val (.int p4), .val (.int p5), .val (.int p6), .val (.int nn), .val (.int (2 : Int32)), .val (.int fr), .val (.int qb), .val (.ref b48), .val (.int sc), .val (.int cc), .val (.ref b63), .unset, .unset, .unset, .unset] [(.ref b63)]))
    obtain ⟨cq69, kq69, q69a, q69b, q69c⟩ := isOf hZ rfl E_b63_64
    obtain ⟨_, _, ⟨T69, L69, k69, n69⟩, -, X69, ⟨Lc69, hQ69, l69, y69, z69⟩, st69⟩ := X64.virtualBack hx (y := (⟨"com/example/wakachi/wakachi/VarInts$Reader", "next", "()I"⟩ : MethodName)) (z := (⟨"com/example/wakachi/wakachi/VarInts$Reader", "next", "()I"⟩ : MethodName)) hown (mvT hZ (hw _ (List.mem_of_getElem? (i := 21) rfl))) (mvT hZ (hw _ (List.mem_of_getElem? (i := 22) rfl))) (notFace_of_selects (args := #[]) (mvT hZ (hw _ (List.mem_of_getElem? (i := 24) rfl)))) (mvT hZ (hw _ (List.mem_of_getElem? (i := 24) rfl))) (mvT hZ (hw _ (List.mem_of_getElem? (i := 23) rfl))) (by decide) (backOf (W := 0) (rm4 l Z a0 hw [] b63 b48 vs F 2 T64.heap n0 Zs64 E_b63_64 fB64 fP64 fT64 A_b48_64 hints (by rw [hlen]; omega) n0_b63 (Ne.symm ne_b48_b63)) hZ (hw _ (List.mem_of_getElem? (i := 25) rfl)) (hw _ (List.mem_of_getElem? (i := 8) rfl)) (by decide) (by decide)) q69a q69c (g := (mkF m 287 #[.val (.int p1), .val (.int p2), .val (.int p3), .val (.int p4), .val (.int p5), .val (.int p6), .val (.int nn), .val (.int (2 : Int32)), .val (.int fr), .val (.int qb), .val (.ref b48), .val (.int sc), .val (.int cc), .val (.ref b63), .unset, .unset, .unset, .unset] [(.ref b63)])) rfl (by rw [hml]; rfl) (Steps.refl _) (argsL := []) (rest := []) (lenOf pd_3 rfl) rfl (by show 2 * 0 + _ ≤ _; exact Nat.le_of_eq rfl) (hb hby at_287) (fun _ _ => ⟨rfl, rfl, (by decide : 2 + 0 ≤ _), (by decide : 12 + 0 ≤ _)⟩)
    dsimp only [Pt.U, Pt.locs, Pt.cells, Pt.slots] at X69 l69 y69 z69 st69 hQ69
    subst y69 z69
    obtain ⟨hv69, N69q, K69k, fP69, fB69, fT69⟩ := hQ69
    rw [hx1] at hv69 fP69
    subst hv69
    have A_b48_69 := (A_b48_64).keep K69k (ninS ne_b48_b63 nin0)
    have E_b63_69 := (E_b63_64).keep K69k
    have Zs69 := Nat.le_trans Zs64 K69k.1
    have N69 : Fr n0 L69 := by rw [l69]; exact Fr.app N64 N69q
    refine own_step (fun _ kc_ => st69.trans kc_) ?_
    show own_Ends p e below s _ _ _ (T69.setTop (mkF m 290 #[.val (.int p1), .val (.int p2), .val (.int p3), .val (.int p4), .val (.int p5), .val (.int p6), .val (.int nn), .val (.int (2 : Int32)), .val (.int fr), .val (.int qb), .val (.ref b48), .val (.int sc), .val (.int cc), .val (.ref b63), .unset, .unset, .unset, .unset] [(.int nn)]))
    refine own_step (fun _ kc_ => XS.istore X69.here hx rfl (hb hby at_290) rfl (l' := #[.val (.int p1), .val (.int p2), .val (.int p3), .val (.int p4), .val (.int p5), .val (.int p6), .val (.int nn), .val (.int (2 : Int32)), .val (.int fr), .val (.int qb), .val (.ref b48), .val (.int sc), .val (.int cc), .val (.ref b63), .val (.int nn), .unset, .unset, .unset]) rfl (XS.aload X69.here hx rfl (hb hby at_292) rfl rfl kc_)) ?_
    show own_Ends p e below s _ _ _ (T69.setTop (mkF m 294 #[.val (.int p1), .val (.int p2), .val (.int p3), .val (.int p4), .val (.int p5), .val (.int p6), .val (.int nn), .val (.int (2 : Int32)), .val (.int fr), .val (.int qb), .val (.ref b48), .val (.int sc), .val (.int cc), .val (.ref b63), .val (.int nn), .unset, .unset, .unset] [(.ref b63)]))
    obtain ⟨cq70, kq70, q70a, q70b, q70c⟩ := isOf hZ rfl E_b63_69
    obtain ⟨_, _, ⟨T70, L70, k70, n70⟩, -, X70, ⟨Lc70, hQ70, l70, y70, z70⟩, st70⟩ := X69.virtualBack hx (y := (⟨"com/example/wakachi/wakachi/VarInts$Reader", "hasNext", "()Z"⟩ : MethodName)) (z := (⟨"com/example/wakachi/wakachi/VarInts$Reader", "hasNext", "()Z"⟩ : MethodName)) hown (mvT hZ (hw _ (List.mem_of_getElem? (i := 26) rfl))) (mvT hZ (hw _ (List.mem_of_getElem? (i := 27) rfl))) (notFace_of_selects (args := #[]) (mvT hZ (hw _ (List.mem_of_getElem? (i := 29) rfl)))) (mvT hZ (hw _ (List.mem_of_getElem? (i := 29) rfl))) (mvT hZ (hw _ (List.mem_of_getElem? (i := 28) rfl))) (by decide) (backOf (W := 0) (rm5 l Z a0 hw [] b63 (Int32.ofNat (F + 2)) (Int32.ofNat (F + 2)) T69.heap n0 Zs69 fP69 fT69) hZ (hw _ (List.mem_of_getElem? (i := 30) rfl)) (hw _ (List.mem_of_getElem? (i := 8) rfl)) (by decide) (by decide)) q70a q70c (g := (mkF m 294 #[.val (.int p1), .val (.int p2), .val (.int p3), .val (.int p4), .val (.int p5), .val (.int p6), .val (.int nn), .val (.int (2 : Int32)), .val (.int fr), .val (.int qb), .val (.ref b48), .val (.int sc), .val (.int cc), .val (.ref b63), .val (.int nn), .unset, .unset, .unset] [(.ref b63)])) rfl (by rw [hml]; rfl) (Steps.refl _) (argsL := []) (rest := []) (lenOf pd_4 rfl) rfl (by show 2 * 0 + _ ≤ _; exact Nat.le_of_eq rfl) (hb hby at_294) (fun _ _ => ⟨rfl, rfl, (by decide : 2 + 0 ≤ _), (by decide : 12 + 0 ≤ _)⟩)
    dsimp only [Pt.U, Pt.locs, Pt.cells, Pt.slots] at X70 l70 y70 z70 st70 hQ70
    subst y70 z70
    obtain ⟨hv70, N70q, e70⟩ := hQ70
    rw [hh1] at hv70
    subst hv70
    have e70h : T70.heap = T69.heap := e70
    have N70 : Fr n0 L70 := by rw [l70]; exact Fr.app N69 N70q
    refine own_step (fun _ kc_ => st70.trans kc_) ?_
    show own_Ends p e below s _ _ _ (T70.setTop (mkF m 297 #[.val (.int p1), .val (.int p2), .val (.int p3), .val (.int p4), .val (.int p5), .val (.int p6), .val (.int nn), .val (.int (2 : Int32)), .val (.int fr), .val (.int qb), .val (.ref b48), .val (.int sc), .val (.int cc), .val (.ref b63), .val (.int nn), .unset, .unset, .unset] [(.int (0 : Int32))]))
    refine own_step (fun _ kc_ => XS.istore X70.here hx rfl (hb hby at_297) rfl (l' := #[.val (.int p1), .val (.int p2), .val (.int p3), .val (.int p4), .val (.int p5), .val (.int p6), .val (.int nn), .val (.int (2 : Int32)), .val (.int fr), .val (.int qb), .val (.ref b48), .val (.int sc), .val (.int cc), .val (.ref b63), .val (.int nn), .val (.int (0 : Int32)), .unset, .unset]) rfl (XS.aload X70.here hx rfl (hb hby at_299) rfl rfl kc_)) ?_
    show own_Ends p e below s _ _ _ (T70.setTop (mkF m 301 #[.val (.int p1), .val (.int p2), .val (.int p3), .val (.int p4), .val (.int p5), .val (.int p6), .val (.int nn), .val (.int (2 : Int32)), .val (.int fr), .val (.int qb), .val (.ref b48), .val (.int sc), .val (.int cc), .val (.ref b63), .val (.int nn), .val (.int (0 : Int32)), .unset, .unset] [(.ref b63)]))
    obtain ⟨cq71, kq71, q71a, q71b, q71c⟩ := isOf hZ e70h E_b63_69
    obtain ⟨_, _, ⟨T71, L71, k71, n71⟩, -, X71, ⟨Lc71, hQ71, l71, y71, z71⟩, st71⟩ := X70.virtualBack hx (y := (⟨"com/example/wakachi/wakachi/VarInts$Reader", "next", "()I"⟩ : MethodName)) (z := (⟨"com/example/wakachi/wakachi/VarInts$Reader", "next", "()I"⟩ : MethodName)) hown (mvT hZ (hw _ (List.mem_of_getElem? (i := 21) rfl))) (mvT hZ (hw _ (List.mem_of_getElem? (i := 22) rfl))) (notFace_of_selects (args := #[]) (mvT hZ (hw _ (List.mem_of_getElem? (i := 24) rfl)))) (mvT hZ (hw _ (List.mem_of_getElem? (i := 24) rfl))) (mvT hZ (hw _ (List.mem_of_getElem? (i := 23) rfl))) (by decide) (backOf (W := 0) (rm4 l Z a0 hw [] b63 b48 vs (F + 2) 0 T69.heap n0 Zs69 E_b63_69 fB69 fP69 fT69 A_b48_69 hints (by rw [hlen]; omega) n0_b63 (Ne.symm ne_b48_b63)) hZ (hw _ (List.mem_of_getElem? (i := 25) rfl)) (hw _ (List.mem_of_getElem? (i := 8) rfl)) (by decide) (by decide)) q71a q71c (g := (mkF m 301 #[.val (.int p1), .val (.int p2), .val (.int p3), .val (.int p4), .val (.int p5), .val (.int p6), .val (.int nn), .val (.int (2 : Int32)), .val (.int fr), .val (.int qb), .val (.ref b48), .val (.int sc), .val (.int cc), .val (.ref b63), .val (.int nn), .val (.int (0 : Int32)), .unset, .unset] [(.ref b63)])) rfl (by rw [hml]; rfl) (Steps.refl _) (argsL := []) (rest := []) (lenOf pd_3 rfl) rfl (by show 2 * 0 + _ ≤ _; exact Nat.le_of_eq rfl) (hb hby at_301) (fun _ _ => ⟨rfl, e70h, (by decide : 2 + 0 ≤ _), (by decide : 12 + 0 ≤ _)⟩)
    dsimp only [Pt.U, Pt.locs, Pt.cells, Pt.slots] at X71 l71 y71 z71 st71 hQ71
    subst y71 z71
    obtain ⟨hv71, N71q, K71k, fP71, fB71, fT71⟩ := hQ71
    rw [hx2] at hv71 fP71
    subst hv71
    have A_b48_71 := (A_b48_69).keep K71k (ninS ne_b48_b63 nin0)
    have E_b63_71 := (E_b63_69).keep K71k
    have Zs71 := Nat.le_trans Zs69 K71k.1
    have N71 : Fr n0 L71 := by rw [l71]; exact Fr.app N70 N71q
    refine own_step (fun _ kc_ => st71.trans kc_) ?_
    show own_Ends p e below s _ _ _ (T71.setTop (mkF m 304 #[.val (.int p1), .val (.int p2), .val (.int p3), .val (.int p4), .val (.int p5), .val (.int p6), .val (.int nn), .val (.int (2 : Int32)), .val (.int fr), .val (.int qb), .val (.ref b48), .val (.int sc), .val (.int cc), .val (.ref b63), .val (.int nn), .val (.int (0 : Int32)), .unset, .unset] [(.int (-1 : Int32))]))
    refine own_step (fun _ kc_ => XS.istore X71.here hx rfl (hb hby at_304) rfl (l' := #[.val (.int p1), .val (.int p2), .val (.int p3), .val (.int p4), .val (.int p5), .val (.int p6), .val (.int nn), .val (.int (2 : Int32)), .val (.int fr), .val (.int qb), .val (.ref b48), .val (.int sc), .val (.int cc), .val (.ref b63), .val (.int nn), .val (.int (0 : Int32)), .val (.int (-1 : Int32)), .unset]) rfl (XS.aload X71.here hx rfl (hb hby at_306) rfl rfl kc_)) ?_
    show own_Ends p e below s _ _ _ (T71.setTop (mkF m 308 #[.val (.int p1), .val (.int p2), .val (.int p3), .val (.int p4), .val (.int p5), .val (.int p6), .val (.int nn), .val (.int (2 : Int32)), .val (.int fr), .val (.int qb), .val (.ref b48), .val (.int sc), .val (.int cc), .val (.ref b63), .val (.int nn), .val (.int (0 : Int32)), .val (.int (-1 : Int32)), .unset] [(.ref b63)]))
    obtain ⟨cq72, kq72, q72a, q72b, q72c⟩ := isOf hZ rfl E_b63_71
    obtain ⟨_, _, ⟨T72, L72, k72, n72⟩, -, X72, ⟨Lc72, hQ72, l72, y72, z72⟩, st72⟩ := X71.virtualBack hx (y := (⟨"com/example/wakachi/wakachi/VarInts$Reader", "hasNext", "()Z"⟩ : MethodName)) (z := (⟨"com/example/wakachi/wakachi/VarInts$Reader", "hasNext", "()Z"⟩ : MethodName)) hown (mvT hZ (hw _ (List.mem_of_getElem? (i := 26) rfl))) (mvT hZ (hw _ (List.mem_of_getElem? (i := 27) rfl))) (notFace_of_selects (args := #[]) (mvT hZ (hw _ (List.mem_of_getElem? (i := 29) rfl)))) (mvT hZ (hw _ (List.mem_of_getElem? (i := 29) rfl))) (mvT hZ (hw _ (List.mem_of_getElem? (i := 28) rfl))) (by decide) (backOf (W := 0) (rm5 l Z a0 hw [] b63 (Int32.ofNat (F + 2)) (Int32.ofNat (F + 2)) T71.heap n0 Zs71 fP71 fT71) hZ (hw _ (List.mem_of_getElem? (i := 30) rfl)) (hw _ (List.mem_of_getElem? (i := 8) rfl)) (by decide) (by decide)) q72a q72c (g := (mkF m 308 #[.val (.int p1), .val (.int p2), .val (.int p3), .val (.int p4), .val (.int p5), .val (.int p6), .val (.int nn), .val (.int (2 : Int32)), .val (.int fr), .val (.int qb), .val (.ref b48), .val (.int sc), .val (.int cc), .val (.ref b63), .val (.int nn), .val (.int (0 : Int32)), .val (.int (-1 : Int32)), .unset] [(.ref b63)])) rfl (by rw [hml]; rfl) (Steps.refl _) (argsL := []) (rest := []) (lenOf pd_4 rfl) rfl (by show 2 * 0 + _ ≤ _; exact Nat.le_of_eq rfl) (hb hby at_308) (fun _ _ => ⟨rfl, rfl, (by decide : 2 + 0 ≤ _), (by decide : 12 + 0 ≤ _)⟩)
    dsimp only [Pt.U, Pt.locs, Pt.cells, Pt.slots] at X72 l72 y72 z72 st72 hQ72
    subst y72 z72
    obtain ⟨hv72, N72q, e72⟩ := hQ72
    rw [hh2] at hv72
    subst hv72
    have e72h : T72.heap = T71.heap := e72
    have N72 : Fr n0 L72 := by rw [l72]; exact Fr.app N71 N72q
    refine own_step (fun _ kc_ => st72.trans kc_) ?_
    show own_Ends p e below s _ _ _ (T72.setTop (mkF m 311 #[.val (.int p1), .val (.int p2), .val (.int p3), .val (.int p4), .val (.int p5), .val (.int p6), .val (.int nn), .val (.int (2 : Int32)), .val (.int fr), .val (.int qb), .val (.ref b48), .val (.int sc), .val (.int cc), .val (.ref b63), .val (.int nn), .val (.int (0 : Int32)), .val (.int (-1 : Int32)), .unset] [(.int (0 : Int32))]))
    refine own_step (fun _ kc_ => XS.istore X72.here hx rfl (hb hby at_311) rfl (l' := #[.val (.int p1), .val (.int p2), .val (.int p3), .val (.int p4), .val (.int p5), .val (.int p6), .val (.int nn), .val (.int (2 : Int32)), .val (.int fr), .val (.int qb), .val (.ref b48), .val (.int sc), .val (.int cc), .val (.ref b63), .val (.int nn), .val (.int (0 : Int32)), .val (.int (-1 : Int32)), .val (.int (0 : Int32))]) rfl (XS.iload X72.here hx rfl (hb hby at_313) rfl (XS.iload X72.here hx rfl (hb hby at_315) rfl (XS.icmpYes X72.here hx rfl (pc0 := 317) (pc' := 348) rfl (hb hby at_317) rfl (XT.ii_ge_t (by rw [hcC]; decide : ¬ (cc < (2 : Int32)))) (by decide) (by decide) (XS.iload X72.here hx rfl (hb hby at_348) rfl (XS.iload X72.here hx rfl (hb hby at_350) rfl (XS.icmpNo X72.here hx rfl (hb hby at_352) rfl (XT.ii_ne_f (by rw [hcC]; decide : cc = (2 : Int32))) (XS.iload X72.here hx rfl (hb hby at_355) rfl kc_)))))))) ?_
    show own_Ends p e below s _ _ _ (T72.setTop (mkF m 357 #[.val (.int p1), .val (.int p2), .val (.int p3), .val (.int p4), .val (.int p5), .val (.int p6), .val (.int nn), .val (.int (2 : Int32)), .val (.int fr), .val (.int qb), .val (.ref b48), .val (.int sc), .val (.int cc), .val (.ref b63), .val (.int nn), .val (.int (0 : Int32)), .val (.int (-1 : Int32)), .val (.int (0 : Int32))] [(.int nn)]))
    refine own_step (fun _ kc_ => XS.iload X72.here hx rfl (hb hby at_357) rfl (XS.icmpNo X72.here hx rfl (hb hby at_359) rfl (XT.ii_ne_f (rfl : nn = nn)) (XS.iload X72.here hx rfl (hb hby at_362) rfl (XS.ifNo X72.here hx rfl (hb hby at_364) rfl (XT.i0_ne_f (by decide : (0 : Int32) = 0)) (XS.iload X72.here hx rfl (hb hby at_367) rfl (XS.iconst X72.here hx rfl (hb hby at_369) (XS.icmpNo X72.here hx rfl (hb hby at_370) rfl (XT.ii_ne_f (by decide : (-1 : Int32) = (-1 : Int32))) (XS.iload X72.here hx rfl (hb hby at_373) rfl kc_)))))))) ?_
    show own_Ends p e below s _ _ _ (T72.setTop (mkF m 375 #[.val (.int p1), .val (.int p2), .val (.int p3), .val (.int p4), .val (.int p5), .val (.int p6), .val (.int nn), .val (.int (2 : Int32)), .val (.int fr), .val (.int qb), .val (.ref b48), .val (.int sc), .val (.int cc), .val (.ref b63), .val (.int nn), .val (.int (0 : Int32)), .val (.int (-1 : Int32)), .val (.int (0 : Int32))] [(.int (0 : Int32))]))
    refine own_step (fun _ kc_ => XS.ifNo X72.here hx rfl (hb hby at_375) rfl (XT.i0_ne_f (by decide : (0 : Int32) = 0)) (XS.iconst X72.here hx rfl (hb hby at_378) (XS.goto X72.here hx rfl (pc0 := 379) (pc' := 383) rfl (hb hby at_379) (by decide) (by decide) kc_))) ?_
    show own_Ends p e below s _ _ _ (T72.setTop (mkF m 383 #[.val (.int p1), .val (.int p2), .val (.int p3), .val (.int p4), .val (.int p5), .val (.int p6), .val (.int nn), .val (.int (2 : Int32)), .val (.int fr), .val (.int qb), .val (.ref b48), .val (.int sc), .val (.int cc), .val (.ref b63), .val (.int nn), .val (.int (0 : Int32)), .val (.int (-1 : Int32)), .val (.int (0 : Int32))] [(.int (1 : Int32))]))
    exact own_retN X72 hx (t := .boolean) hret (by simp) hlk (hb hby at_383) (by decide) (by decide) rfl ⟨rfl, N72⟩
  · subst hC1
    have hx1 : own_nx vs F 0 0 3 = (nn, F + 2) := own_run2 vs F 1 nn hn0 hn1 hb0 hb1
    have hs := own_sec p5
    rw [hsc, ← hb2] at hs
    have hx2 : own_nx vs (F + 2) 0 0 1 = (sc, F + 3) := by
      rw [own_nxF hs.1, hs.2, own_or0]
    have hh1 := own_hasLt (F + 2) (by omega)
    have hh2 := own_hasEq (F + 3)
    show own_Ends p e below s _ _ _ (T64.setTop (mkF m 285 #[.val (.int p1), .val (.int p2), .val (.int p3), .val (.int p4), .val (.int p5), .val (.int p6), .val (.int nn), .val (.int (2 : Int32)), .val (.int fr), .val (.int qb), .val (.ref b48), .val (.int sc), .val (.int cc), .val (.ref b63), .unset, .unset, .unset, .unset] []))
    refine own_step (fun _ kc_ => XS.aload X64.here hx rfl (hb hby at_285) rfl rfl kc_) ?_
    show own_Ends p e below s _ _ _ (T64.setTop (mkF m 287 #[.val (.int p1), .val (.int p2), .val (.int p3), .val (.int p4), .val (.int p5), .val (.int p6), .val (.int nn), .val (.int (2 : Int32)), .val (.int fr), .val (.int qb), .val (.ref b48), .val (.int sc), .val (.int cc), .val (.ref b63), .unset, .unset, .unset, .unset] [(.ref b63)]))
    obtain ⟨cq73, kq73, q73a, q73b, q73c⟩ := isOf hZ rfl E_b63_64
    obtain ⟨_, _, ⟨T73, L73, k73, n73⟩, -, X73, ⟨Lc73, hQ73, l73, y73, z73⟩, st73⟩ := X64.virtualBack hx (y := (⟨"com/example/wakachi/wakachi/VarInts$Reader", "next", "()I"⟩ : MethodName)) (z := (⟨"com/example/wakachi/wakachi/VarInts$Reader", "next", "()I"⟩ : MethodName)) hown (mvT hZ (hw _ (List.mem_of_getElem? (i := 21) rfl))) (mvT hZ (hw _ (List.mem_of_getElem? (i := 22) rfl))) (notFace_of_selects (args := #[]) (mvT hZ (hw _ (List.mem_of_getElem? (i := 24) rfl)))) (mvT hZ (hw _ (List.mem_of_getElem? (i := 24) rfl))) (mvT hZ (hw _ (List.mem_of_getElem? (i := 23) rfl))) (by decide) (backOf (W := 0) (rm4 l Z a0 hw [] b63 b48 vs F 3 T64.heap n0 Zs64 E_b63_64 fB64 fP64 fT64 A_b48_64 hints (by rw [hlen]; omega) n0_b63 (Ne.symm ne_b48_b63)) hZ (hw _ (List.mem_of_getElem? (i := 25) rfl)) (hw _ (List.mem_of_getElem? (i := 8) rfl)) (by decide) (by decide)) q73a q73c (g := (mkF m 287 #[.val (.int p1), .val (.int p2), .val (.int p3), .val (.int p4), .val (.int p5), .val (.int p6), .val (.int nn), .val (.int (2 : Int32)), .val (.int fr), .val (.int qb), .val (.ref b48), .val (.int sc), .val (.int cc), .val (.ref b63), .unset, .unset, .unset, .unset] [(.ref b63)])) rfl (by rw [hml]; rfl) (Steps.refl _) (argsL := []) (rest := []) (lenOf pd_3 rfl) rfl (by show 2 * 0 + _ ≤ _; exact Nat.le_of_eq rfl) (hb hby at_287) (fun _ _ => ⟨rfl, rfl, (by decide : 2 + 0 ≤ _), (by decide : 12 + 0 ≤ _)⟩)
    dsimp only [Pt.U, Pt.locs, Pt.cells, Pt.slots] at X73 l73 y73 z73 st73 hQ73
    subst y73 z73
    obtain ⟨hv73, N73q, K73k, fP73, fB73, fT73⟩ := hQ73
    rw [hx1] at hv73 fP73
    subst hv73
    have A_b48_73 := (A_b48_64).keep K73k (ninS ne_b48_b63 nin0)
    have E_b63_73 := (E_b63_64).keep K73k
    have Zs73 := Nat.le_trans Zs64 K73k.1
    have N73 : Fr n0 L73 := by rw [l73]; exact Fr.app N64 N73q
    refine own_step (fun _ kc_ => st73.trans kc_) ?_
    show own_Ends p e below s _ _ _ (T73.setTop (mkF m 290 #[.val (.int p1), .val (.int p2), .val (.int p3), .val (.int p4), .val (.int p5), .val (.int p6), .val (.int nn), .val (.int (2 : Int32)), .val (.int fr), .val (.int qb), .val (.ref b48), .val (.int sc), .val (.int cc), .val (.ref b63), .unset, .unset, .unset, .unset] [(.int nn)]))
    refine own_step (fun _ kc_ => XS.istore X73.here hx rfl (hb hby at_290) rfl (l' := #[.val (.int p1), .val (.int p2), .val (.int p3), .val (.int p4), .val (.int p5), .val (.int p6), .val (.int nn), .val (.int (2 : Int32)), .val (.int fr), .val (.int qb), .val (.ref b48), .val (.int sc), .val (.int cc), .val (.ref b63), .val (.int nn), .unset, .unset, .unset]) rfl (XS.aload X73.here hx rfl (hb hby at_292) rfl rfl kc_)) ?_
    show own_Ends p e below s _ _ _ (T73.setTop (mkF m 294 #[.val (.int p1), .val (.int p2), .val (.int p3), .val (.int p4), .val (.int p5), .val (.int p6), .val (.int nn), .val (.int (2 : Int32)), .val (.int fr), .val (.int qb), .val (.ref b48), .val (.int sc), .val (.int cc), .val (.ref b63), .val (.int nn), .unset, .unset, .unset] [(.ref b63)]))
    obtain ⟨cq74, kq74, q74a, q74b, q74c⟩ := isOf hZ rfl E_b63_73
    obtain ⟨_, _, ⟨T74, L74, k74, n74⟩, -, X74, ⟨Lc74, hQ74, l74, y74, z74⟩, st74⟩ := X73.virtualBack hx (y := (⟨"com/example/wakachi/wakachi/VarInts$Reader", "hasNext", "()Z"⟩ : MethodName)) (z := (⟨"com/example/wakachi/wakachi/VarInts$Reader", "hasNext", "()Z"⟩ : MethodName)) hown (mvT hZ (hw _ (List.mem_of_getElem? (i := 26) rfl))) (mvT hZ (hw _ (List.mem_of_getElem? (i := 27) rfl))) (notFace_of_selects (args := #[]) (mvT hZ (hw _ (List.mem_of_getElem? (i := 29) rfl)))) (mvT hZ (hw _ (List.mem_of_getElem? (i := 29) rfl))) (mvT hZ (hw _ (List.mem_of_getElem? (i := 28) rfl))) (by decide) (backOf (W := 0) (rm5 l Z a0 hw [] b63 (Int32.ofNat (F + 2)) (Int32.ofNat (F + 3)) T73.heap n0 Zs73 fP73 fT73) hZ (hw _ (List.mem_of_getElem? (i := 30) rfl)) (hw _ (List.mem_of_getElem? (i := 8) rfl)) (by decide) (by decide)) q74a q74c (g := (mkF m 294 #[.val (.int p1), .val (.int p2), .val (.int p3), .val (.int p4), .val (.int p5), .val (.int p6), .val (.int nn), .val (.int (2 : Int32)), .val (.int fr), .val (.int qb), .val (.ref b48), .val (.int sc), .val (.int cc), .val (.ref b63), .val (.int nn), .unset, .unset, .unset] [(.ref b63)])) rfl (by rw [hml]; rfl) (Steps.refl _) (argsL := []) (rest := []) (lenOf pd_4 rfl) rfl (by show 2 * 0 + _ ≤ _; exact Nat.le_of_eq rfl) (hb hby at_294) (fun _ _ => ⟨rfl, rfl, (by decide : 2 + 0 ≤ _), (by decide : 12 + 0 ≤ _)⟩)
    dsimp only [Pt.U, Pt.locs, Pt.cells, Pt.slots] at X74 l74 y74 z74 st74 hQ74
    subst y74 z74
    obtain ⟨hv74, N74q, e74⟩ := hQ74
    rw [hh1] at hv74
    subst hv74
    have e74h : T74.heap = T73.heap := e74
    have N74 : Fr n0 L74 := by rw [l74]; exact Fr.app N73 N74q
    refine own_step (fun _ kc_ => st74.trans kc_) ?_
    show own_Ends p e below s _ _ _ (T74.setTop (mkF m 297 #[.val (.int p1), .val (.int p2), .val (.int p3), .val (.int p4), .val (.int p5), .val (.int p6), .val (.int nn), .val (.int (2 : Int32)), .val (.int fr), .val (.int qb), .val (.ref b48), .val (.int sc), .val (.int cc), .val (.ref b63), .val (.int nn), .unset, .unset, .unset] [(.int (1 : Int32))]))
    refine own_step (fun _ kc_ => XS.istore X74.here hx rfl (hb hby at_297) rfl (l' := #[.val (.int p1), .val (.int p2), .val (.int p3), .val (.int p4), .val (.int p5), .val (.int p6), .val (.int nn), .val (.int (2 : Int32)), .val (.int fr), .val (.int qb), .val (.ref b48), .val (.int sc), .val (.int cc), .val (.ref b63), .val (.int nn), .val (.int (1 : Int32)), .unset, .unset]) rfl (XS.aload X74.here hx rfl (hb hby at_299) rfl rfl kc_)) ?_
    show own_Ends p e below s _ _ _ (T74.setTop (mkF m 301 #[.val (.int p1), .val (.int p2), .val (.int p3), .val (.int p4), .val (.int p5), .val (.int p6), .val (.int nn), .val (.int (2 : Int32)), .val (.int fr), .val (.int qb), .val (.ref b48), .val (.int sc), .val (.int cc), .val (.ref b63), .val (.int nn), .val (.int (1 : Int32)), .unset, .unset] [(.ref b63)]))
    obtain ⟨cq75, kq75, q75a, q75b, q75c⟩ := isOf hZ e74h E_b63_73
    obtain ⟨_, _, ⟨T75, L75, k75, n75⟩, -, X75, ⟨Lc75, hQ75, l75, y75, z75⟩, st75⟩ := X74.virtualBack hx (y := (⟨"com/example/wakachi/wakachi/VarInts$Reader", "next", "()I"⟩ : MethodName)) (z := (⟨"com/example/wakachi/wakachi/VarInts$Reader", "next", "()I"⟩ : MethodName)) hown (mvT hZ (hw _ (List.mem_of_getElem? (i := 21) rfl))) (mvT hZ (hw _ (List.mem_of_getElem? (i := 22) rfl))) (notFace_of_selects (args := #[]) (mvT hZ (hw _ (List.mem_of_getElem? (i := 24) rfl)))) (mvT hZ (hw _ (List.mem_of_getElem? (i := 24) rfl))) (mvT hZ (hw _ (List.mem_of_getElem? (i := 23) rfl))) (by decide) (backOf (W := 0) (rm4 l Z a0 hw [] b63 b48 vs (F + 2) 1 T73.heap n0 Zs73 E_b63_73 fB73 fP73 fT73 A_b48_73 hints (by rw [hlen]; omega) n0_b63 (Ne.symm ne_b48_b63)) hZ (hw _ (List.mem_of_getElem? (i := 25) rfl)) (hw _ (List.mem_of_getElem? (i := 8) rfl)) (by decide) (by decide)) q75a q75c (g := (mkF m 301 #[.val (.int p1), .val (.int p2), .val (.int p3), .val (.int p4), .val (.int p5), .val (.int p6), .val (.int nn), .val (.int (2 : Int32)), .val (.int fr), .val (.int qb), .val (.ref b48), .val (.int sc), .val (.int cc), .val (.ref b63), .val (.int nn), .val (.int (1 : Int32)), .unset, .unset] [(.ref b63)])) rfl (by rw [hml]; rfl) (Steps.refl _) (argsL := []) (rest := []) (lenOf pd_3 rfl) rfl (by show 2 * 0 + _ ≤ _; exact Nat.le_of_eq rfl) (hb hby at_301) (fun _ _ => ⟨rfl, e74h, (by decide : 2 + 0 ≤ _), (by decide : 12 + 0 ≤ _)⟩)
    dsimp only [Pt.U, Pt.locs, Pt.cells, Pt.slots] at X75 l75 y75 z75 st75 hQ75
    subst y75 z75
    obtain ⟨hv75, N75q, K75k, fP75, fB75, fT75⟩ := hQ75
    rw [hx2] at hv75 fP75
    subst hv75
    have A_b48_75 := (A_b48_73).keep K75k (ninS ne_b48_b63 nin0)
    have E_b63_75 := (E_b63_73).keep K75k
    have Zs75 := Nat.le_trans Zs73 K75k.1
    have N75 : Fr n0 L75 := by rw [l75]; exact Fr.app N74 N75q
    refine own_step (fun _ kc_ => st75.trans kc_) ?_
    show own_Ends p e below s _ _ _ (T75.setTop (mkF m 304 #[.val (.int p1), .val (.int p2), .val (.int p3), .val (.int p4), .val (.int p5), .val (.int p6), .val (.int nn), .val (.int (2 : Int32)), .val (.int fr), .val (.int qb), .val (.ref b48), .val (.int sc), .val (.int cc), .val (.ref b63), .val (.int nn), .val (.int (1 : Int32)), .unset, .unset] [(.int sc)]))
    refine own_step (fun _ kc_ => XS.istore X75.here hx rfl (hb hby at_304) rfl (l' := #[.val (.int p1), .val (.int p2), .val (.int p3), .val (.int p4), .val (.int p5), .val (.int p6), .val (.int nn), .val (.int (2 : Int32)), .val (.int fr), .val (.int qb), .val (.ref b48), .val (.int sc), .val (.int cc), .val (.ref b63), .val (.int nn), .val (.int (1 : Int32)), .val (.int sc), .unset]) rfl (XS.aload X75.here hx rfl (hb hby at_306) rfl rfl kc_)) ?_
    show own_Ends p e below s _ _ _ (T75.setTop (mkF m 308 #[.val (.int p1), .val (.int p2), .val (.int p3), .val (.int p4), .val (.int p5), .val (.int p6), .val (.int nn), .val (.int (2 : Int32)), .val (.int fr), .val (.int qb), .val (.ref b48), .val (.int sc), .val (.int cc), .val (.ref b63), .val (.int nn), .val (.int (1 : Int32)), .val (.int sc), .unset] [(.ref b63)]))
    obtain ⟨cq76, kq76, q76a, q76b, q76c⟩ := isOf hZ rfl E_b63_75
    obtain ⟨_, _, ⟨T76, L76, k76, n76⟩, -, X76, ⟨Lc76, hQ76, l76, y76, z76⟩, st76⟩ := X75.virtualBack hx (y := (⟨"com/example/wakachi/wakachi/VarInts$Reader", "hasNext", "()Z"⟩ : MethodName)) (z := (⟨"com/example/wakachi/wakachi/VarInts$Reader", "hasNext", "()Z"⟩ : MethodName)) hown (mvT hZ (hw _ (List.mem_of_getElem? (i := 26) rfl))) (mvT hZ (hw _ (List.mem_of_getElem? (i := 27) rfl))) (notFace_of_selects (args := #[]) (mvT hZ (hw _ (List.mem_of_getElem? (i := 29) rfl)))) (mvT hZ (hw _ (List.mem_of_getElem? (i := 29) rfl))) (mvT hZ (hw _ (List.mem_of_getElem? (i := 28) rfl))) (by decide) (backOf (W := 0) (rm5 l Z a0 hw [] b63 (Int32.ofNat (F + 3)) (Int32.ofNat (F + 3)) T75.heap n0 Zs75 fP75 fT75) hZ (hw _ (List.mem_of_getElem? (i := 30) rfl)) (hw _ (List.mem_of_getElem? (i := 8) rfl)) (by decide) (by decide)) q76a q76c (g := (mkF m 308 #[.val (.int p1), .val (.int p2), .val (.int p3), .val (.int p4), .val (.int p5), .val (.int p6), .val (.int nn), .val (.int (2 : Int32)), .val (.int fr), .val (.int qb), .val (.ref b48), .val (.int sc), .val (.int cc), .val (.ref b63), .val (.int nn), .val (.int (1 : Int32)), .val (.int sc), .unset] [(.ref b63)])) rfl (by rw [hml]; rfl) (Steps.refl _) (argsL := []) (rest := []) (lenOf pd_4 rfl) rfl (by show 2 * 0 + _ ≤ _; exact Nat.le_of_eq rfl) (hb hby at_308) (fun _ _ => ⟨rfl, rfl, (by decide : 2 + 0 ≤ _), (by decide : 12 + 0 ≤ _)⟩)
    dsimp only [Pt.U, Pt.locs, Pt.cells, Pt.slots] at X76 l76 y76 z76 st76 hQ76
    subst y76 z76
    obtain ⟨hv76, N76q, e76⟩ := hQ76
    rw [hh2] at hv76
    subst hv76
    have e76h : T76.heap = T75.heap := e76
    have N76 : Fr n0 L76 := by rw [l76]; exact Fr.app N75 N76q
    refine own_step (fun _ kc_ => st76.trans kc_) ?_
    show own_Ends p e below s _ _ _ (T76.setTop (mkF m 311 #[.val (.int p1), .val (.int p2), .val (.int p3), .val (.int p4), .val (.int p5), .val (.int p6), .val (.int nn), .val (.int (2 : Int32)), .val (.int fr), .val (.int qb), .val (.ref b48), .val (.int sc), .val (.int cc), .val (.ref b63), .val (.int nn), .val (.int (1 : Int32)), .val (.int sc), .unset] [(.int (0 : Int32))]))
    refine own_step (fun _ kc_ => XS.istore X76.here hx rfl (hb hby at_311) rfl (l' := #[.val (.int p1), .val (.int p2), .val (.int p3), .val (.int p4), .val (.int p5), .val (.int p6), .val (.int nn), .val (.int (2 : Int32)), .val (.int fr), .val (.int qb), .val (.ref b48), .val (.int sc), .val (.int cc), .val (.ref b63), .val (.int nn), .val (.int (1 : Int32)), .val (.int sc), .val (.int (0 : Int32))]) rfl (XS.iload X76.here hx rfl (hb hby at_313) rfl (XS.iload X76.here hx rfl (hb hby at_315) rfl (XS.icmpYes X76.here hx rfl (pc0 := 317) (pc' := 348) rfl (hb hby at_317) rfl (XT.ii_ge_t (by rw [hcC]; decide : ¬ (cc < (2 : Int32)))) (by decide) (by decide) (XS.iload X76.here hx rfl (hb hby at_348) rfl (XS.iload X76.here hx rfl (hb hby at_350) rfl (XS.icmpYes X76.here hx rfl (pc0 := 352) (pc' := 384) rfl (hb hby at_352) rfl (XT.ii_ne_t (by rw [hcC]; decide : ¬ (cc = (2 : Int32)))) (by decide) (by decide) (XS.iload X76.here hx rfl (hb hby at_384) rfl kc_)))))))) ?_
    show own_Ends p e below s _ _ _ (T76.setTop (mkF m 386 #[.val (.int p1), .val (.int p2), .val (.int p3), .val (.int p4), .val (.int p5), .val (.int p6), .val (.int nn), .val (.int (2 : Int32)), .val (.int fr), .val (.int qb), .val (.ref b48), .val (.int sc), .val (.int cc), .val (.ref b63), .val (.int nn), .val (.int (1 : Int32)), .val (.int sc), .val (.int (0 : Int32))] [(.int nn)]))
    refine own_step (fun _ kc_ => XS.iload X76.here hx rfl (hb hby at_386) rfl (XS.icmpNo X76.here hx rfl (hb hby at_388) rfl (XT.ii_ne_f (rfl : nn = nn)) (XS.iload X76.here hx rfl (hb hby at_391) rfl (XS.ifNo X76.here hx rfl (hb hby at_393) rfl (XT.i0_eq_f (by decide : ¬ ((1 : Int32) = 0))) (XS.iload X76.here hx rfl (hb hby at_396) rfl (XS.iload X76.here hx rfl (hb hby at_398) rfl (XS.icmpNo X76.here hx rfl (hb hby at_400) rfl (XT.ii_ne_f (rfl : sc = sc)) (XS.iload X76.here hx rfl (hb hby at_403) rfl kc_)))))))) ?_
    show own_Ends p e below s _ _ _ (T76.setTop (mkF m 405 #[.val (.int p1), .val (.int p2), .val (.int p3), .val (.int p4), .val (.int p5), .val (.int p6), .val (.int nn), .val (.int (2 : Int32)), .val (.int fr), .val (.int qb), .val (.ref b48), .val (.int sc), .val (.int cc), .val (.ref b63), .val (.int nn), .val (.int (1 : Int32)), .val (.int sc), .val (.int (0 : Int32))] [(.int (0 : Int32))]))
    refine own_step (fun _ kc_ => XS.ifNo X76.here hx rfl (hb hby at_405) rfl (XT.i0_ne_f (by decide : (0 : Int32) = 0)) (XS.iconst X76.here hx rfl (hb hby at_408) (XS.goto X76.here hx rfl (pc0 := 409) (pc' := 413) rfl (hb hby at_409) (by decide) (by decide) kc_))) ?_
    show own_Ends p e below s _ _ _ (T76.setTop (mkF m 413 #[.val (.int p1), .val (.int p2), .val (.int p3), .val (.int p4), .val (.int p5), .val (.int p6), .val (.int nn), .val (.int (2 : Int32)), .val (.int fr), .val (.int qb), .val (.ref b48), .val (.int sc), .val (.int cc), .val (.ref b63), .val (.int nn), .val (.int (1 : Int32)), .val (.int sc), .val (.int (0 : Int32))] [(.int (1 : Int32))]))
    exact own_retN X76 hx (t := .boolean) hret (by simp) hlk (hb hby at_413) (by decide) (by decide) rfl ⟨rfl, N76⟩
set_option maxRecDepth 65536 in
set_option maxHeartbeats 40000000 in
theorem seg_3 {p : Program} {l : Launch} {e : Env} {s : State} {m : MethodId} {below : List Frame} {meth : Method} {c : Code} {Z : State} {a0 : Array Value} (hw : ∀ d ∈ tables_1, d.before a0 Z = true) (hZ : Z.Warmed39 s.vm) (hx : p.tables.exec = Jvm.exec) (hby : c.code = code) (hlk : meth.locks = false) (hret : meth.sig.returnType = some .boolean) (hml : c.maxLocals = 18) (hown : s.vm.findClass "com/example/wakachi/wakachi/ReaderNextPinLaw" = some m.cls) (p1 : Int32) (p2 : Int32) (p3 : Int32) (p4 : Int32) (p5 : Int32) (p6 : Int32)  {h0 : Heap} {n0 : Nat} {nn fr qb : Int32} (F : Nat) (hF : F ≤ 3) (hfr : fr = Int32.ofNat F) (hn0 : 0 ≤ nn.toInt) (hn1 : nn.toInt < 2 ^ 21) {h : Heap}  :
    ∀ {T : State} {locs : List Loc} {cells slots : Nat} (X : Stand p l e room_1 s m #[(.int p1), (.int p2), (.int p3), (.int p4), (.int p5), (.int p6)] below meth c T locs cells slots) (e0 : T.heap = h) (N0 : Fr n0 locs) (Z0 : n0 ≤ h.size) (hcs : cells = 0) (hsl : slots = 0), own_Ends p e below s 16 128 (Q0 Z p1 p2 p3 p4 p5 p6  h0 n0) (T.setTop (mkF m 78 #[.val (.int p1), .val (.int p2), .val (.int p3), .val (.int p4), .val (.int p5), .val (.int p6), .val (.int nn), .val (.int (3 : Int32)), .val (.int fr), .val (.int qb), .unset, .unset, .unset, .unset, .unset, .unset, .unset, .unset] [])) := by
  intro T locs cells slots X e0 N0 Z0 hcs hsl
  subst hcs hsl
  show own_Ends p e below s _ _ _ (T.setTop (mkF m 78 #[.val (.int p1), .val (.int p2), .val (.int p3), .val (.int p4), .val (.int p5), .val (.int p6), .val (.int nn), .val (.int (3 : Int32)), .val (.int fr), .val (.int qb), .unset, .unset, .unset, .unset, .unset, .unset, .unset, .unset] []))
  refine own_step (fun _ kc_ => XS.bipush X.here hx rfl (hb hby at_78) kc_) ?_
  show own_Ends p e below s _ _ _ (T.setTop (mkF m 80 #[.val (.int p1), .val (.int p2), .val (.int p3), .val (.int p4), .val (.int p5), .val (.int p6), .val (.int nn), .val (.int (3 : Int32)), .val (.int fr), .val (.int qb), .unset, .unset, .unset, .unset, .unset, .unset, .unset, .unset] [(.int (9 : Int32))]))
  obtain ⟨T77, h77, k77, X77, e77, E77, A77, st77⟩ := newP X hx hZ (hw _ (List.mem_of_getElem? (i := 1) rfl)) e0 (g := (mkF m 80 #[.val (.int p1), .val (.int p2), .val (.int p3), .val (.int p4), .val (.int p5), .val (.int p6), .val (.int nn), .val (.int (3 : Int32)), .val (.int fr), .val (.int qb), .unset, .unset, .unset, .unset, .unset, .unset, .unset, .unset] [(.int (9 : Int32))])) rfl (hb hby at_80) rfl (by decide) (cap := 9) (by decide) (by decide) (by decide : 0 + 1 ≤ _) (by decide : 0 + 9 ≤ _)
  obtain ⟨b77, g77⟩ : ∃ z, z = h.size := ⟨_, rfl⟩
  rw [← g77] at A77 st77
  have n0_b77 : n0 ≤ b77 := Nat.le_trans Z0 (Nat.le_of_eq g77.symm)
  have Zs77 := Nat.le_trans Z0 E77.1
  have A_b77 : own_Ar Z h77 b77 .byte [(.int (0 : Int32)), (.int (0 : Int32)), (.int (0 : Int32)), (.int (0 : Int32)), (.int (0 : Int32)), (.int (0 : Int32)), (.int (0 : Int32)), (.int (0 : Int32)), (.int (0 : Int32))] := own_Ar.new A77 (by decide)
  refine own_step (fun _ kc_ => st77 _ kc_) ?_
  show own_Ends p e below s _ _ _ (T77.setTop (mkF m 82 #[.val (.int p1), .val (.int p2), .val (.int p3), .val (.int p4), .val (.int p5), .val (.int p6), .val (.int nn), .val (.int (3 : Int32)), .val (.int fr), .val (.int qb), .unset, .unset, .unset, .unset, .unset, .unset, .unset, .unset] [(.ref b77)]))
  refine own_step (fun _ kc_ => XS.astore X77.here hx rfl (hb hby at_82) rfl rfl (l' := #[.val (.int p1), .val (.int p2), .val (.int p3), .val (.int p4), .val (.int p5), .val (.int p6), .val (.int nn), .val (.int (3 : Int32)), .val (.int fr), .val (.int qb), .val (.ref b77), .unset, .unset, .unset, .unset, .unset, .unset, .unset]) rfl (XS.aload X77.here hx rfl (hb hby at_84) rfl rfl (XS.iconst X77.here hx rfl (hb hby at_86) (XS.iload X77.here hx rfl (hb hby at_87) rfl kc_)))) ?_
  show own_Ends p e below s _ _ _ (T77.setTop (mkF m 89 #[.val (.int p1), .val (.int p2), .val (.int p3), .val (.int p4), .val (.int p5), .val (.int p6), .val (.int nn), .val (.int (3 : Int32)), .val (.int fr), .val (.int qb), .val (.ref b77), .unset, .unset, .unset, .unset, .unset, .unset, .unset] [(.int qb), (.int (0 : Int32)), (.ref b77)]))
  obtain ⟨T78, h78, X78, e78, W78, A78, st78⟩ := own_bastore X77 hx hZ e77 A_b77 (j := (0 : Int32)) (x := qb) (by decide) (i := 0) rfl (Nat.le_of_ble_eq_true rfl) (Ls := #[.val (.int p1), .val (.int p2), .val (.int p3), .val (.int p4), .val (.int p5), .val (.int p6), .val (.int nn), .val (.int (3 : Int32)), .val (.int fr), .val (.int qb), .val (.ref b77), .unset, .unset, .unset, .unset, .unset, .unset, .unset]) (st := []) (hb hby at_89)
  have A_b77_78 : own_Ar Z h78 b77 .byte [(.int (nar .byte qb)), (.int (0 : Int32)), (.int (0 : Int32)), (.int (0 : Int32)), (.int (0 : Int32)), (.int (0 : Int32)), (.int (0 : Int32)), (.int (0 : Int32)), (.int (0 : Int32))] := A78
  have Zs78 := Nat.le_trans Zs77 (Nat.le_of_eq W78.size.symm)
  have N78 := Fr.snoc X78 N0 n0_b77
  refine own_step (fun _ kc_ => st78 _ kc_) ?_
  show own_Ends p e below s _ _ _ (T78.setTop (mkF m 90 #[.val (.int p1), .val (.int p2), .val (.int p3), .val (.int p4), .val (.int p5), .val (.int p6), .val (.int nn), .val (.int (3 : Int32)), .val (.int fr), .val (.int qb), .val (.ref b77), .unset, .unset, .unset, .unset, .unset, .unset, .unset] []))
  refine own_step (fun _ kc_ => XS.aload X78.here hx rfl (hb hby at_90) rfl rfl (XS.iconst X78.here hx rfl (hb hby at_92) (XS.iload X78.here hx rfl (hb hby at_93) rfl kc_))) ?_
  show own_Ends p e below s _ _ _ (T78.setTop (mkF m 95 #[.val (.int p1), .val (.int p2), .val (.int p3), .val (.int p4), .val (.int p5), .val (.int p6), .val (.int nn), .val (.int (3 : Int32)), .val (.int fr), .val (.int qb), .val (.ref b77), .unset, .unset, .unset, .unset, .unset, .unset, .unset] [(.int qb), (.int (1 : Int32)), (.ref b77)]))
  obtain ⟨T79, h79, X79, e79, W79, A79, st79⟩ := own_bastore X78 hx hZ e78 A_b77_78 (j := (1 : Int32)) (x := qb) (by decide) (i := 1) rfl (Nat.le_of_ble_eq_true rfl) (Ls := #[.val (.int p1), .val (.int p2), .val (.int p3), .val (.int p4), .val (.int p5), .val (.int p6), .val (.int nn), .val (.int (3 : Int32)), .val (.int fr), .val (.int qb), .val (.ref b77), .unset, .unset, .unset, .unset, .unset, .unset, .unset]) (st := []) (hb hby at_95)
  have A_b77_79 : own_Ar Z h79 b77 .byte [(.int (nar .byte qb)), (.int (nar .byte qb)), (.int (0 : Int32)), (.int (0 : Int32)), (.int (0 : Int32)), (.int (0 : Int32)), (.int (0 : Int32)), (.int (0 : Int32)), (.int (0 : Int32))] := A79
  have Zs79 := Nat.le_trans Zs78 (Nat.le_of_eq W79.size.symm)
  have N79 := Fr.snoc X79 N78 n0_b77
  refine own_step (fun _ kc_ => st79 _ kc_) ?_
  show own_Ends p e below s _ _ _ (T79.setTop (mkF m 96 #[.val (.int p1), .val (.int p2), .val (.int p3), .val (.int p4), .val (.int p5), .val (.int p6), .val (.int nn), .val (.int (3 : Int32)), .val (.int fr), .val (.int qb), .val (.ref b77), .unset, .unset, .unset, .unset, .unset, .unset, .unset] []))
  refine own_step (fun _ kc_ => XS.aload X79.here hx rfl (hb hby at_96) rfl rfl (XS.iconst X79.here hx rfl (hb hby at_98) (XS.iload X79.here hx rfl (hb hby at_99) rfl kc_))) ?_
  show own_Ends p e below s _ _ _ (T79.setTop (mkF m 101 #[.val (.int p1), .val (.int p2), .val (.int p3), .val (.int p4), .val (.int p5), .val (.int p6), .val (.int nn), .val (.int (3 : Int32)), .val (.int fr), .val (.int qb), .val (.ref b77), .unset, .unset, .unset, .unset, .unset, .unset, .unset] [(.int qb), (.int (2 : Int32)), (.ref b77)]))
  obtain ⟨T80, h80, X80, e80, W80, A80, st80⟩ := own_bastore X79 hx hZ e79 A_b77_79 (j := (2 : Int32)) (x := qb) (by decide) (i := 2) rfl (Nat.le_of_ble_eq_true rfl) (Ls := #[.val (.int p1), .val (.int p2), .val (.int p3), .val (.int p4), .val (.int p5), .val (.int p6), .val (.int nn), .val (.int (3 : Int32)), .val (.int fr), .val (.int qb), .val (.ref b77), .unset, .unset, .unset, .unset, .unset, .unset, .unset]) (st := []) (hb hby at_101)
  have A_b77_80 : own_Ar Z h80 b77 .byte [(.int (nar .byte qb)), (.int (nar .byte qb)), (.int (nar .byte qb)), (.int (0 : Int32)), (.int (0 : Int32)), (.int (0 : Int32)), (.int (0 : Int32)), (.int (0 : Int32)), (.int (0 : Int32))] := A80
  have Zs80 := Nat.le_trans Zs79 (Nat.le_of_eq W80.size.symm)
  have N80 := Fr.snoc X80 N79 n0_b77
  refine own_step (fun _ kc_ => st80 _ kc_) ?_
  show own_Ends p e below s _ _ _ (T80.setTop (mkF m 102 #[.val (.int p1), .val (.int p2), .val (.int p3), .val (.int p4), .val (.int p5), .val (.int p6), .val (.int nn), .val (.int (3 : Int32)), .val (.int fr), .val (.int qb), .val (.ref b77), .unset, .unset, .unset, .unset, .unset, .unset, .unset] []))
  refine own_step (fun _ kc_ => XS.aload X80.here hx rfl (hb hby at_102) rfl rfl (XS.iconst X80.here hx rfl (hb hby at_104) (XS.iload X80.here hx rfl (hb hby at_105) rfl kc_))) ?_
  show own_Ends p e below s _ _ _ (T80.setTop (mkF m 107 #[.val (.int p1), .val (.int p2), .val (.int p3), .val (.int p4), .val (.int p5), .val (.int p6), .val (.int nn), .val (.int (3 : Int32)), .val (.int fr), .val (.int qb), .val (.ref b77), .unset, .unset, .unset, .unset, .unset, .unset, .unset] [(.int qb), (.int (3 : Int32)), (.ref b77)]))
  obtain ⟨T81, h81, X81, e81, W81, A81, st81⟩ := own_bastore X80 hx hZ e80 A_b77_80 (j := (3 : Int32)) (x := qb) (by decide) (i := 3) rfl (Nat.le_of_ble_eq_true rfl) (Ls := #[.val (.int p1), .val (.int p2), .val (.int p3), .val (.int p4), .val (.int p5), .val (.int p6), .val (.int nn), .val (.int (3 : Int32)), .val (.int fr), .val (.int qb), .val (.ref b77), .unset, .unset, .unset, .unset, .unset, .unset, .unset]) (st := []) (hb hby at_107)
  have A_b77_81 : own_Ar Z h81 b77 .byte [(.int (nar .byte qb)), (.int (nar .byte qb)), (.int (nar .byte qb)), (.int (nar .byte qb)), (.int (0 : Int32)), (.int (0 : Int32)), (.int (0 : Int32)), (.int (0 : Int32)), (.int (0 : Int32))] := A81
  have Zs81 := Nat.le_trans Zs80 (Nat.le_of_eq W81.size.symm)
  have N81 := Fr.snoc X81 N80 n0_b77
  refine own_step (fun _ kc_ => st81 _ kc_) ?_
  show own_Ends p e below s _ _ _ (T81.setTop (mkF m 108 #[.val (.int p1), .val (.int p2), .val (.int p3), .val (.int p4), .val (.int p5), .val (.int p6), .val (.int nn), .val (.int (3 : Int32)), .val (.int fr), .val (.int qb), .val (.ref b77), .unset, .unset, .unset, .unset, .unset, .unset, .unset] []))
  refine own_step (fun _ kc_ => XS.aload X81.here hx rfl (hb hby at_108) rfl rfl (XS.iconst X81.here hx rfl (hb hby at_110) (XS.iload X81.here hx rfl (hb hby at_111) rfl kc_))) ?_
  show own_Ends p e below s _ _ _ (T81.setTop (mkF m 113 #[.val (.int p1), .val (.int p2), .val (.int p3), .val (.int p4), .val (.int p5), .val (.int p6), .val (.int nn), .val (.int (3 : Int32)), .val (.int fr), .val (.int qb), .val (.ref b77), .unset, .unset, .unset, .unset, .unset, .unset, .unset] [(.int qb), (.int (4 : Int32)), (.ref b77)]))
  obtain ⟨T82, h82, X82, e82, W82, A82, st82⟩ := own_bastore X81 hx hZ e81 A_b77_81 (j := (4 : Int32)) (x := qb) (by decide) (i := 4) rfl (Nat.le_of_ble_eq_true rfl) (Ls := #[.val (.int p1), .val (.int p2), .val (.int p3), .val (.int p4), .val (.int p5), .val (.int p6), .val (.int nn), .val (.int (3 : Int32)), .val (.int fr), .val (.int qb), .val (.ref b77), .unset, .unset, .unset, .unset, .unset, .unset, .unset]) (st := []) (hb hby at_113)
  have A_b77_82 : own_Ar Z h82 b77 .byte [(.int (nar .byte qb)), (.int (nar .byte qb)), (.int (nar .byte qb)), (.int (nar .byte qb)), (.int (nar .byte qb)), (.int (0 : Int32)), (.int (0 : Int32)), (.int (0 : Int32)), (.int (0 : Int32))] := A82
  have Zs82 := Nat.le_trans Zs81 (Nat.le_of_eq W82.size.symm)
  have N82 := Fr.snoc X82 N81 n0_b77
  refine own_step (fun _ kc_ => st82 _ kc_) ?_
  show own_Ends p e below s _ _ _ (T82.setTop (mkF m 114 #[.val (.int p1), .val (.int p2), .val (.int p3), .val (.int p4), .val (.int p5), .val (.int p6), .val (.int nn), .val (.int (3 : Int32)), .val (.int fr), .val (.int qb), .val (.ref b77), .unset, .unset, .unset, .unset, .unset, .unset, .unset] []))
  refine own_step (fun _ kc_ => XS.aload X82.here hx rfl (hb hby at_114) rfl rfl (XS.iconst X82.here hx rfl (hb hby at_116) (XS.iload X82.here hx rfl (hb hby at_117) rfl kc_))) ?_
  show own_Ends p e below s _ _ _ (T82.setTop (mkF m 119 #[.val (.int p1), .val (.int p2), .val (.int p3), .val (.int p4), .val (.int p5), .val (.int p6), .val (.int nn), .val (.int (3 : Int32)), .val (.int fr), .val (.int qb), .val (.ref b77), .unset, .unset, .unset, .unset, .unset, .unset, .unset] [(.int qb), (.int (5 : Int32)), (.ref b77)]))
  obtain ⟨T83, h83, X83, e83, W83, A83, st83⟩ := own_bastore X82 hx hZ e82 A_b77_82 (j := (5 : Int32)) (x := qb) (by decide) (i := 5) rfl (Nat.le_of_ble_eq_true rfl) (Ls := #[.val (.int p1), .val (.int p2), .val (.int p3), .val (.int p4), .val (.int p5), .val (.int p6), .val (.int nn), .val (.int (3 : Int32)), .val (.int fr), .val (.int qb), .val (.ref b77), .unset, .unset, .unset, .unset, .unset, .unset, .unset]) (st := []) (hb hby at_119)
  have A_b77_83 : own_Ar Z h83 b77 .byte [(.int (nar .byte qb)), (.int (nar .byte qb)), (.int (nar .byte qb)), (.int (nar .byte qb)), (.int (nar .byte qb)), (.int (nar .byte qb)), (.int (0 : Int32)), (.int (0 : Int32)), (.int (0 : Int32))] := A83
  have Zs83 := Nat.le_trans Zs82 (Nat.le_of_eq W83.size.symm)
  have N83 := Fr.snoc X83 N82 n0_b77
  refine own_step (fun _ kc_ => st83 _ kc_) ?_
  show own_Ends p e below s _ _ _ (T83.setTop (mkF m 120 #[.val (.int p1), .val (.int p2), .val (.int p3), .val (.int p4), .val (.int p5), .val (.int p6), .val (.int nn), .val (.int (3 : Int32)), .val (.int fr), .val (.int qb), .val (.ref b77), .unset, .unset, .unset, .unset, .unset, .unset, .unset] []))
  refine own_step (fun _ kc_ => XS.aload X83.here hx rfl (hb hby at_120) rfl rfl (XS.bipush X83.here hx rfl (hb hby at_122) (XS.iload X83.here hx rfl (hb hby at_124) rfl kc_))) ?_
  show own_Ends p e below s _ _ _ (T83.setTop (mkF m 126 #[.val (.int p1), .val (.int p2), .val (.int p3), .val (.int p4), .val (.int p5), .val (.int p6), .val (.int nn), .val (.int (3 : Int32)), .val (.int fr), .val (.int qb), .val (.ref b77), .unset, .unset, .unset, .unset, .unset, .unset, .unset] [(.int qb), (.int (6 : Int32)), (.ref b77)]))
  obtain ⟨T84, h84, X84, e84, W84, A84, st84⟩ := own_bastore X83 hx hZ e83 A_b77_83 (j := (6 : Int32)) (x := qb) (by decide) (i := 6) rfl (Nat.le_of_ble_eq_true rfl) (Ls := #[.val (.int p1), .val (.int p2), .val (.int p3), .val (.int p4), .val (.int p5), .val (.int p6), .val (.int nn), .val (.int (3 : Int32)), .val (.int fr), .val (.int qb), .val (.ref b77), .unset, .unset, .unset, .unset, .unset, .unset, .unset]) (st := []) (hb hby at_126)
  have A_b77_84 : own_Ar Z h84 b77 .byte [(.int (nar .byte qb)), (.int (nar .byte qb)), (.int (nar .byte qb)), (.int (nar .byte qb)), (.int (nar .byte qb)), (.int (nar .byte qb)), (.int (nar .byte qb)), (.int (0 : Int32)), (.int (0 : Int32))] := A84
  have Zs84 := Nat.le_trans Zs83 (Nat.le_of_eq W84.size.symm)
  have N84 := Fr.snoc X84 N83 n0_b77
  refine own_step (fun _ kc_ => st84 _ kc_) ?_
  show own_Ends p e below s _ _ _ (T84.setTop (mkF m 127 #[.val (.int p1), .val (.int p2), .val (.int p3), .val (.int p4), .val (.int p5), .val (.int p6), .val (.int nn), .val (.int (3 : Int32)), .val (.int fr), .val (.int qb), .val (.ref b77), .unset, .unset, .unset, .unset, .unset, .unset, .unset] []))
  refine own_step (fun _ kc_ => XS.aload X84.here hx rfl (hb hby at_127) rfl rfl (XS.bipush X84.here hx rfl (hb hby at_129) (XS.iload X84.here hx rfl (hb hby at_131) rfl kc_))) ?_
  show own_Ends p e below s _ _ _ (T84.setTop (mkF m 133 #[.val (.int p1), .val (.int p2), .val (.int p3), .val (.int p4), .val (.int p5), .val (.int p6), .val (.int nn), .val (.int (3 : Int32)), .val (.int fr), .val (.int qb), .val (.ref b77), .unset, .unset, .unset, .unset, .unset, .unset, .unset] [(.int qb), (.int (7 : Int32)), (.ref b77)]))
  obtain ⟨T85, h85, X85, e85, W85, A85, st85⟩ := own_bastore X84 hx hZ e84 A_b77_84 (j := (7 : Int32)) (x := qb) (by decide) (i := 7) rfl (Nat.le_of_ble_eq_true rfl) (Ls := #[.val (.int p1), .val (.int p2), .val (.int p3), .val (.int p4), .val (.int p5), .val (.int p6), .val (.int nn), .val (.int (3 : Int32)), .val (.int fr), .val (.int qb), .val (.ref b77), .unset, .unset, .unset, .unset, .unset, .unset, .unset]) (st := []) (hb hby at_133)
  have A_b77_85 : own_Ar Z h85 b77 .byte [(.int (nar .byte qb)), (.int (nar .byte qb)), (.int (nar .byte qb)), (.int (nar .byte qb)), (.int (nar .byte qb)), (.int (nar .byte qb)), (.int (nar .byte qb)), (.int (nar .byte qb)), (.int (0 : Int32))] := A85
  have Zs85 := Nat.le_trans Zs84 (Nat.le_of_eq W85.size.symm)
  have N85 := Fr.snoc X85 N84 n0_b77
  refine own_step (fun _ kc_ => st85 _ kc_) ?_
  show own_Ends p e below s _ _ _ (T85.setTop (mkF m 134 #[.val (.int p1), .val (.int p2), .val (.int p3), .val (.int p4), .val (.int p5), .val (.int p6), .val (.int nn), .val (.int (3 : Int32)), .val (.int fr), .val (.int qb), .val (.ref b77), .unset, .unset, .unset, .unset, .unset, .unset, .unset] []))
  refine own_step (fun _ kc_ => XS.aload X85.here hx rfl (hb hby at_134) rfl rfl (XS.bipush X85.here hx rfl (hb hby at_136) (XS.iload X85.here hx rfl (hb hby at_138) rfl kc_))) ?_
  show own_Ends p e below s _ _ _ (T85.setTop (mkF m 140 #[.val (.int p1), .val (.int p2), .val (.int p3), .val (.int p4), .val (.int p5), .val (.int p6), .val (.int nn), .val (.int (3 : Int32)), .val (.int fr), .val (.int qb), .val (.ref b77), .unset, .unset, .unset, .unset, .unset, .unset, .unset] [(.int qb), (.int (8 : Int32)), (.ref b77)]))
  obtain ⟨T86, h86, X86, e86, W86, A86, st86⟩ := own_bastore X85 hx hZ e85 A_b77_85 (j := (8 : Int32)) (x := qb) (by decide) (i := 8) rfl (Nat.le_of_ble_eq_true rfl) (Ls := #[.val (.int p1), .val (.int p2), .val (.int p3), .val (.int p4), .val (.int p5), .val (.int p6), .val (.int nn), .val (.int (3 : Int32)), .val (.int fr), .val (.int qb), .val (.ref b77), .unset, .unset, .unset, .unset, .unset, .unset, .unset]) (st := []) (hb hby at_140)
  have A_b77_86 : own_Ar Z h86 b77 .byte [(.int (nar .byte qb)), (.int (nar .byte qb)), (.int (nar .byte qb)), (.int (nar .byte qb)), (.int (nar .byte qb)), (.int (nar .byte qb)), (.int (nar .byte qb)), (.int (nar .byte qb)), (.int (nar .byte qb))] := A86
  have Zs86 := Nat.le_trans Zs85 (Nat.le_of_eq W86.size.symm)
  have N86 := Fr.snoc X86 N85 n0_b77
  refine own_step (fun _ kc_ => st86 _ kc_) ?_
  show own_Ends p e below s _ _ _ (T86.setTop (mkF m 141 #[.val (.int p1), .val (.int p2), .val (.int p3), .val (.int p4), .val (.int p5), .val (.int p6), .val (.int nn), .val (.int (3 : Int32)), .val (.int fr), .val (.int qb), .val (.ref b77), .unset, .unset, .unset, .unset, .unset, .unset, .unset] []))
  refine own_step (fun _ kc_ => XS.aload X86.here hx rfl (hb hby at_141) rfl rfl (XS.iload X86.here hx rfl (hb hby at_143) rfl (XS.iload X86.here hx rfl (hb hby at_145) rfl (XS.iconst X86.here hx rfl (hb hby at_147) (XS.iload X86.here hx rfl (hb hby at_148) rfl kc_))))) ?_
  show own_Ends p e below s _ _ _ (T86.setTop (mkF m 150 #[.val (.int p1), .val (.int p2), .val (.int p3), .val (.int p4), .val (.int p5), .val (.int p6), .val (.int nn), .val (.int (3 : Int32)), .val (.int fr), .val (.int qb), .val (.ref b77), .unset, .unset, .unset, .unset, .unset, .unset, .unset] [(.int (3 : Int32)), (.int (0 : Int32)), (.int nn), (.int fr), (.ref b77)]))
  obtain ⟨_, _, ⟨T87, L87, k87, n87⟩, -, X87, ⟨Lc87, hQ87, l87, y87, z87⟩, st87⟩ := Jvm.LawKit.callS X86 hx (y := (⟨"com/example/wakachi/wakachi/ReaderNextPinLaw", "enc", "(III)B"⟩ : MethodName)) hown (mvT hZ (hw _ (List.mem_of_getElem? (i := 2) rfl))) (mvT hZ (hw _ (List.mem_of_getElem? (i := 3) rfl))) (mvT hZ (hw _ (List.mem_of_getElem? (i := 4) rfl))) (mvT hZ (hw _ (List.mem_of_getElem? (i := 5) rfl))) (by decide) (backOf (W := 2) (rm1 l Z a0 hw [] nn (0 : Int32) (3 : Int32)  h86 n0 Zs86 ) hZ (hw _ (List.mem_of_getElem? (i := 5) rfl)) (hw _ (List.mem_of_getElem? (i := 4) rfl)) (by decide) (by decide)) (g := (mkF m 150 #[.val (.int p1), .val (.int p2), .val (.int p3), .val (.int p4), .val (.int p5), .val (.int p6), .val (.int nn), .val (.int (3 : Int32)), .val (.int fr), .val (.int qb), .val (.ref b77), .unset, .unset, .unset, .unset, .unset, .unset, .unset] [(.int (3 : Int32)), (.int (0 : Int32)), (.int nn), (.int fr), (.ref b77)])) rfl (by rw [hml]; rfl) (argsL := [(.int nn), (.int (0 : Int32)), (.int (3 : Int32))]) (rest := [(.int fr), (.ref b77)]) (lenOf pd_1 rfl) rfl (by show 2 * 0 + _ ≤ _; exact Nat.le_of_eq rfl) (hb hby at_150) (fun _ _ => ⟨rfl, e86, (by decide : 1 + 0 ≤ _), (by decide : 9 + 0 ≤ _)⟩)
  dsimp only [Pt.U, Pt.locs, Pt.cells, Pt.slots] at X87 l87 y87 z87 st87 hQ87
  subst y87 z87
  obtain ⟨rfl, N87q, e87⟩ := hQ87
  have e87h : T87.heap = h86 := e87
  have N87 : Fr n0 L87 := by rw [l87]; exact Fr.app N86 N87q
  refine own_step (fun _ kc_ => st87 _ kc_) ?_
  show own_Ends p e below s _ _ _ (T87.setTop (mkF m 153 #[.val (.int p1), .val (.int p2), .val (.int p3), .val (.int p4), .val (.int p5), .val (.int p6), .val (.int nn), .val (.int (3 : Int32)), .val (.int fr), .val (.int qb), .val (.ref b77), .unset, .unset, .unset, .unset, .unset, .unset, .unset] [(.int (own_enc nn (0 : Int32) (3 : Int32))), (.int fr), (.ref b77)]))
  obtain ⟨T88, h88, X88, e88, W88, A88, st88⟩ := own_bastore X87 hx hZ e87h A_b77_86 (j := fr) (x := (own_enc nn (0 : Int32) (3 : Int32))) (own_ixz0 hF hfr) (i := F) (own_ixz hF hfr) (by simp only [List.length_set, List.length_cons, List.length_nil]; omega) (Ls := #[.val (.int p1), .val (.int p2), .val (.int p3), .val (.int p4), .val (.int p5), .val (.int p6), .val (.int nn), .val (.int (3 : Int32)), .val (.int fr), .val (.int qb), .val (.ref b77), .unset, .unset, .unset, .unset, .unset, .unset, .unset]) (st := []) (hb hby at_153)
  have A_b77_88 : own_Ar Z h88 b77 .byte (([(.int (nar .byte qb)), (.int (nar .byte qb)), (.int (nar .byte qb)), (.int (nar .byte qb)), (.int (nar .byte qb)), (.int (nar .byte qb)), (.int (nar .byte qb)), (.int (nar .byte qb)), (.int (nar .byte qb))]).set F (.int (nar .byte (own_enc nn (0 : Int32) (3 : Int32))))) := A88.cast rfl
  have Zs88 := Nat.le_trans Zs86 (Nat.le_of_eq W88.size.symm)
  have N88 := Fr.snoc X88 N87 n0_b77
  refine own_step (fun _ kc_ => st88 _ kc_) ?_
  show own_Ends p e below s _ _ _ (T88.setTop (mkF m 154 #[.val (.int p1), .val (.int p2), .val (.int p3), .val (.int p4), .val (.int p5), .val (.int p6), .val (.int nn), .val (.int (3 : Int32)), .val (.int fr), .val (.int qb), .val (.ref b77), .unset, .unset, .unset, .unset, .unset, .unset, .unset] []))
  refine own_step (fun _ kc_ => XS.iload X88.here hx rfl (hb hby at_154) rfl (XS.iconst X88.here hx rfl (hb hby at_156) (XS.icmpNo X88.here hx rfl (hb hby at_157) rfl (XT.ii_le_f (by decide : (1 : Int32) < (3 : Int32))) (XS.aload X88.here hx rfl (hb hby at_160) rfl rfl (XS.iload X88.here hx rfl (hb hby at_162) rfl (XS.iconst X88.here hx rfl (hb hby at_164) (XS.iadd X88.here hx rfl (hb hby at_165) rfl (XS.iload X88.here hx rfl (hb hby at_166) rfl kc_)))))))) ?_
  show own_Ends p e below s _ _ _ (T88.setTop (mkF m 168 #[.val (.int p1), .val (.int p2), .val (.int p3), .val (.int p4), .val (.int p5), .val (.int p6), .val (.int nn), .val (.int (3 : Int32)), .val (.int fr), .val (.int qb), .val (.ref b77), .unset, .unset, .unset, .unset, .unset, .unset, .unset] [(.int nn), (.int (fr + (1 : Int32))), (.ref b77)]))
  refine own_step (fun _ kc_ => XS.iconst X88.here hx rfl (hb hby at_168) (XS.iload X88.here hx rfl (hb hby at_169) rfl kc_)) ?_
  show own_Ends p e below s _ _ _ (T88.setTop (mkF m 171 #[.val (.int p1), .val (.int p2), .val (.int p3), .val (.int p4), .val (.int p5), .val (.int p6), .val (.int nn), .val (.int (3 : Int32)), .val (.int fr), .val (.int qb), .val (.ref b77), .unset, .unset, .unset, .unset, .unset, .unset, .unset] [(.int (3 : Int32)), (.int (1 : Int32)), (.int nn), (.int (fr + (1 : Int32))), (.ref b77)]))
  obtain ⟨_, _, ⟨T89, L89, k89, n89⟩, -, X89, ⟨Lc89, hQ89, l89, y89, z89⟩, st89⟩ := Jvm.LawKit.callS X88 hx (y := (⟨"com/example/wakachi/wakachi/ReaderNextPinLaw", "enc", "(III)B"⟩ : MethodName)) hown (mvT hZ (hw _ (List.mem_of_getElem? (i := 2) rfl))) (mvT hZ (hw _ (List.mem_of_getElem? (i := 3) rfl))) (mvT hZ (hw _ (List.mem_of_getElem? (i := 4) rfl))) (mvT hZ (hw _ (List.mem_of_getElem? (i := 5) rfl))) (by decide) (backOf (W := 2) (rm1 l Z a0 hw [] nn (1 : Int32) (3 : Int32)  h88 n0 Zs88 ) hZ (hw _ (List.mem_of_getElem? (i := 5) rfl)) (hw _ (List.mem_of_getElem? (i := 4) rfl)) (by decide) (by decide)) (g := (mkF m 171 #[.val (.int p1), .val (.int p2), .val (.int p3), .val (.int p4), .val (.int p5), .val (.int p6), .val (.int nn), .val (.int (3 : Int32)), .val (.int fr), .val (.int qb), .val (.ref b77), .unset, .unset, .unset, .unset, .unset, .unset, .unset] [(.int (3 : Int32)), (.int (1 : Int32)), (.int nn), (.int (fr + (1 : Int32))), (.ref b77)])) rfl (by rw [hml]; rfl) (argsL := [(.int nn), (.int (1 : Int32)), (.int (3 : Int32))]) (rest := [(.int (fr + (1 : Int32))), (.ref b77)]) (lenOf pd_1 rfl) rfl (by show 2 * 0 + _ ≤ _; exact Nat.le_of_eq rfl) (hb hby at_171) (fun _ _ => ⟨rfl, e88, (by decide : 1 + 0 ≤ _), (by decide : 9 + 0 ≤ _)⟩)
  dsimp only [Pt.U, Pt.locs, Pt.cells, Pt.slots] at X89 l89 y89 z89 st89 hQ89
  subst y89 z89
  obtain ⟨rfl, N89q, e89⟩ := hQ89
  have e89h : T89.heap = h88 := e89
  have N89 : Fr n0 L89 := by rw [l89]; exact Fr.app N88 N89q
  refine own_step (fun _ kc_ => st89 _ kc_) ?_
  show own_Ends p e below s _ _ _ (T89.setTop (mkF m 174 #[.val (.int p1), .val (.int p2), .val (.int p3), .val (.int p4), .val (.int p5), .val (.int p6), .val (.int nn), .val (.int (3 : Int32)), .val (.int fr), .val (.int qb), .val (.ref b77), .unset, .unset, .unset, .unset, .unset, .unset, .unset] [(.int (own_enc nn (1 : Int32) (3 : Int32))), (.int (fr + (1 : Int32))), (.ref b77)]))
  obtain ⟨T90, h90, X90, e90, W90, A90, st90⟩ := own_bastore X89 hx hZ e89h A_b77_88 (j := (fr + (1 : Int32))) (x := (own_enc nn (1 : Int32) (3 : Int32))) (own_ix0 hF hfr (k := 1) (by decide)) (i := F + 1) (own_ix hF hfr (k := 1) (by decide)) (by simp only [List.length_set, List.length_cons, List.length_nil]; omega) (Ls := #[.val (.int p1), .val (.int p2), .val (.int p3), .val (.int p4), .val (.int p5), .val (.int p6), .val (.int nn), .val (.int (3 : Int32)), .val (.int fr), .val (.int qb), .val (.ref b77), .unset, .unset, .unset, .unset, .unset, .unset, .unset]) (st := []) (hb hby at_174)
  have A_b77_90 : own_Ar Z h90 b77 .byte (((([(.int (nar .byte qb)), (.int (nar .byte qb)), (.int (nar .byte qb)), (.int (nar .byte qb)), (.int (nar .byte qb)), (.int (nar .byte qb)), (.int (nar .byte qb)), (.int (nar .byte qb)), (.int (nar .byte qb))]).set F (.int (nar .byte (own_enc nn (0 : Int32) (3 : Int32)))))).set (F + 1) (.int (nar .byte (own_enc nn (1 : Int32) (3 : Int32))))) := A90.cast rfl
  have Zs90 := Nat.le_trans Zs88 (Nat.le_of_eq W90.size.symm)
  have N90 := Fr.snoc X90 N89 n0_b77
  refine own_step (fun _ kc_ => st90 _ kc_) ?_
  show own_Ends p e below s _ _ _ (T90.setTop (mkF m 175 #[.val (.int p1), .val (.int p2), .val (.int p3), .val (.int p4), .val (.int p5), .val (.int p6), .val (.int nn), .val (.int (3 : Int32)), .val (.int fr), .val (.int qb), .val (.ref b77), .unset, .unset, .unset, .unset, .unset, .unset, .unset] []))
  refine own_step (fun _ kc_ => XS.iload X90.here hx rfl (hb hby at_175) rfl (XS.iconst X90.here hx rfl (hb hby at_177) (XS.icmpNo X90.here hx rfl (hb hby at_178) rfl (XT.ii_le_f (by decide : (2 : Int32) < (3 : Int32))) (XS.aload X90.here hx rfl (hb hby at_181) rfl rfl (XS.iload X90.here hx rfl (hb hby at_183) rfl (XS.iconst X90.here hx rfl (hb hby at_185) (XS.iadd X90.here hx rfl (hb hby at_186) rfl (XS.iload X90.here hx rfl (hb hby at_187) rfl kc_)))))))) ?_
  show own_Ends p e below s _ _ _ (T90.setTop (mkF m 189 #[.val (.int p1), .val (.int p2), .val (.int p3), .val (.int p4), .val (.int p5), .val (.int p6), .val (.int nn), .val (.int (3 : Int32)), .val (.int fr), .val (.int qb), .val (.ref b77), .unset, .unset, .unset, .unset, .unset, .unset, .unset] [(.int nn), (.int (fr + (2 : Int32))), (.ref b77)]))
  refine own_step (fun _ kc_ => XS.iconst X90.here hx rfl (hb hby at_189) (XS.iload X90.here hx rfl (hb hby at_190) rfl kc_)) ?_
  show own_Ends p e below s _ _ _ (T90.setTop (mkF m 192 #[.val (.int p1), .val (.int p2), .val (.int p3), .val (.int p4), .val (.int p5), .val (.int p6), .val (.int nn), .val (.int (3 : Int32)), .val (.int fr), .val (.int qb), .val (.ref b77), .unset, .unset, .unset, .unset, .unset, .unset, .unset] [(.int (3 : Int32)), (.int (2 : Int32)), (.int nn), (.int (fr + (2 : Int32))), (.ref b77)]))
  obtain ⟨_, _, ⟨T91, L91, k91, n91⟩, -, X91, ⟨Lc91, hQ91, l91, y91, z91⟩, st91⟩ := Jvm.LawKit.callS X90 hx (y := (⟨"com/example/wakachi/wakachi/ReaderNextPinLaw", "enc", "(III)B"⟩ : MethodName)) hown (mvT hZ (hw _ (List.mem_of_getElem? (i := 2) rfl))) (mvT hZ (hw _ (List.mem_of_getElem? (i := 3) rfl))) (mvT hZ (hw _ (List.mem_of_getElem? (i := 4) rfl))) (mvT hZ (hw _ (List.mem_of_getElem? (i := 5) rfl))) (by decide) (backOf (W := 2) (rm1 l Z a0 hw [] nn (2 : Int32) (3 : Int32)  h90 n0 Zs90 ) hZ (hw _ (List.mem_of_getElem? (i := 5) rfl)) (hw _ (List.mem_of_getElem? (i := 4) rfl)) (by decide) (by decide)) (g := (mkF m 192 #[.val (.int p1), .val (.int p2), .val (.int p3), .val (.int p4), .val (.int p5), .val (.int p6), .val (.int nn), .val (.int (3 : Int32)), .val (.int fr), .val (.int qb), .val (.ref b77), .unset, .unset, .unset, .unset, .unset, .unset, .unset] [(.int (3 : Int32)), (.int (2 : Int32)), (.int nn), (.int (fr + (2 : Int32))), (.ref b77)])) rfl (by rw [hml]; rfl) (argsL := [(.int nn), (.int (2 : Int32)), (.int (3 : Int32))]) (rest := [(.int (fr + (2 : Int32))), (.ref b77)]) (lenOf pd_1 rfl) rfl (by show 2 * 0 + _ ≤ _; exact Nat.le_of_eq rfl) (hb hby at_192) (fun _ _ => ⟨rfl, e90, (by decide : 1 + 0 ≤ _), (by decide : 9 + 0 ≤ _)⟩)
  dsimp only [Pt.U, Pt.locs, Pt.cells, Pt.slots] at X91 l91 y91 z91 st91 hQ91
  subst y91 z91
  obtain ⟨rfl, N91q, e91⟩ := hQ91
  have e91h : T91.heap = h90 := e91
  have N91 : Fr n0 L91 := by rw [l91]; exact Fr.app N90 N91q
  refine own_step (fun _ kc_ => st91 _ kc_) ?_
  show own_Ends p e below s _ _ _ (T91.setTop (mkF m 195 #[.val (.int p1), .val (.int p2), .val (.int p3), .val (.int p4), .val (.int p5), .val (.int p6), .val (.int nn), .val (.int (3 : Int32)), .val (.int fr), .val (.int qb), .val (.ref b77), .unset, .unset, .unset, .unset, .unset, .unset, .unset] [(.int (own_enc nn (2 : Int32) (3 : Int32))), (.int (fr + (2 : Int32))), (.ref b77)]))
  obtain ⟨T92, h92, X92, e92, W92, A92, st92⟩ := own_bastore X91 hx hZ e91h A_b77_90 (j := (fr + (2 : Int32))) (x := (own_enc nn (2 : Int32) (3 : Int32))) (own_ix0 hF hfr (k := 2) (by decide)) (i := F + 2) (own_ix hF hfr (k := 2) (by decide)) (by simp only [List.length_set, List.length_cons, List.length_nil]; omega) (Ls := #[.val (.int p1), .val (.int p2), .val (.int p3), .val (.int p4), .val (.int p5), .val (.int p6), .val (.int nn), .val (.int (3 : Int32)), .val (.int fr), .val (.int qb), .val (.ref b77), .unset, .unset, .unset, .unset, .unset, .unset, .unset]) (st := []) (hb hby at_195)
  have A_b77_92 : own_Ar Z h92 b77 .byte (((((([(.int (nar .byte qb)), (.int (nar .byte qb)), (.int (nar .byte qb)), (.int (nar .byte qb)), (.int (nar .byte qb)), (.int (nar .byte qb)), (.int (nar .byte qb)), (.int (nar .byte qb)), (.int (nar .byte qb))]).set F (.int (nar .byte (own_enc nn (0 : Int32) (3 : Int32)))))).set (F + 1) (.int (nar .byte (own_enc nn (1 : Int32) (3 : Int32)))))).set (F + 2) (.int (nar .byte (own_enc nn (2 : Int32) (3 : Int32))))) := A92.cast rfl
  have Zs92 := Nat.le_trans Zs90 (Nat.le_of_eq W92.size.symm)
  have N92 := Fr.snoc X92 N91 n0_b77
  refine own_step (fun _ kc_ => st92 _ kc_) ?_
  show own_Ends p e below s _ _ _ (T92.setTop (mkF m 196 #[.val (.int p1), .val (.int p2), .val (.int p3), .val (.int p4), .val (.int p5), .val (.int p6), .val (.int nn), .val (.int (3 : Int32)), .val (.int fr), .val (.int qb), .val (.ref b77), .unset, .unset, .unset, .unset, .unset, .unset, .unset] []))
  refine own_step (fun _ kc_ => XS.iload X92.here hx rfl (hb hby at_196) rfl (XS.iconst X92.here hx rfl (hb hby at_198) (XS.icmpYes X92.here hx rfl (pc0 := 199) (pc' := 217) rfl (hb hby at_199) rfl (XT.ii_le_t (by decide : ¬ ((3 : Int32) < (3 : Int32)))) (by decide) (by decide) (XS.iload X92.here hx rfl (hb hby at_217) rfl (XS.iconst X92.here hx rfl (hb hby at_219) (XS.icmpYes X92.here hx rfl (pc0 := 220) (pc' := 238) rfl (hb hby at_220) rfl (XT.ii_le_t (by decide : ¬ ((4 : Int32) < (3 : Int32)))) (by decide) (by decide) (XS.iload X92.here hx rfl (hb hby at_238) rfl (XS.bipush X92.here hx rfl (hb hby at_240) kc_)))))))) ?_
  show own_Ends p e below s _ _ _ (T92.setTop (mkF m 242 #[.val (.int p1), .val (.int p2), .val (.int p3), .val (.int p4), .val (.int p5), .val (.int p6), .val (.int nn), .val (.int (3 : Int32)), .val (.int fr), .val (.int qb), .val (.ref b77), .unset, .unset, .unset, .unset, .unset, .unset, .unset] [(.int (127 : Int32)), (.int p5)]))
  refine own_step (fun _ kc_ => XS.iand X92.here hx rfl (hb hby at_242) rfl (XS.istore X92.here hx rfl (hb hby at_243) rfl (l' := #[.val (.int p1), .val (.int p2), .val (.int p3), .val (.int p4), .val (.int p5), .val (.int p6), .val (.int nn), .val (.int (3 : Int32)), .val (.int fr), .val (.int qb), .val (.ref b77), .val (.int (p5 &&& (127 : Int32))), .unset, .unset, .unset, .unset, .unset, .unset]) rfl kc_)) ?_
  show own_Ends p e below s _ _ _ (T92.setTop (mkF m 245 #[.val (.int p1), .val (.int p2), .val (.int p3), .val (.int p4), .val (.int p5), .val (.int p6), .val (.int nn), .val (.int (3 : Int32)), .val (.int fr), .val (.int qb), .val (.ref b77), .val (.int (p5 &&& (127 : Int32))), .unset, .unset, .unset, .unset, .unset, .unset] []))
  generalize hsc : (p5 &&& (127 : Int32)) = sc
  show own_Ends p e below s _ _ _ (T92.setTop (mkF m 245 #[.val (.int p1), .val (.int p2), .val (.int p3), .val (.int p4), .val (.int p5), .val (.int p6), .val (.int nn), .val (.int (3 : Int32)), .val (.int fr), .val (.int qb), .val (.ref b77), .val (.int sc), .unset, .unset, .unset, .unset, .unset, .unset] []))
  refine own_step (fun _ kc_ => XS.aload X92.here hx rfl (hb hby at_245) rfl rfl (XS.iload X92.here hx rfl (hb hby at_247) rfl (XS.iload X92.here hx rfl (hb hby at_249) rfl (XS.iadd X92.here hx rfl (hb hby at_251) rfl (XS.iload X92.here hx rfl (hb hby at_252) rfl (XS.i2b X92.here hx rfl (hb hby at_254) rfl kc_)))))) ?_
  show own_Ends p e below s _ _ _ (T92.setTop (mkF m 255 #[.val (.int p1), .val (.int p2), .val (.int p3), .val (.int p4), .val (.int p5), .val (.int p6), .val (.int nn), .val (.int (3 : Int32)), .val (.int fr), .val (.int qb), .val (.ref b77), .val (.int sc), .unset, .unset, .unset, .unset, .unset, .unset] [(.int (sc.toInt8.toInt32)), (.int (fr + (3 : Int32))), (.ref b77)]))
  obtain ⟨T93, h93, X93, e93, W93, A93, st93⟩ := own_bastore X92 hx hZ e92 A_b77_92 (j := (fr + (3 : Int32))) (x := (sc.toInt8.toInt32)) (own_ix0 hF hfr (k := 3) (by decide)) (i := F + 3) (own_ix hF hfr (k := 3) (by decide)) (by simp only [List.length_set, List.length_cons, List.length_nil]; omega) (Ls := #[.val (.int p1), .val (.int p2), .val (.int p3), .val (.int p4), .val (.int p5), .val (.int p6), .val (.int nn), .val (.int (3 : Int32)), .val (.int fr), .val (.int qb), .val (.ref b77), .val (.int sc), .unset, .unset, .unset, .unset, .unset, .unset]) (st := []) (hb hby at_255)
  have A_b77_93 : own_Ar Z h93 b77 .byte (((((((([(.int (nar .byte qb)), (.int (nar .byte qb)), (.int (nar .byte qb)), (.int (nar .byte qb)), (.int (nar .byte qb)), (.int (nar .byte qb)), (.int (nar .byte qb)), (.int (nar .byte qb)), (.int (nar .byte qb))]).set F (.int (nar .byte (own_enc nn (0 : Int32) (3 : Int32)))))).set (F + 1) (.int (nar .byte (own_enc nn (1 : Int32) (3 : Int32)))))).set (F + 2) (.int (nar .byte (own_enc nn (2 : Int32) (3 : Int32)))))).set (F + 3) (.int (nar .byte (sc.toInt8.toInt32)))) := A93.cast rfl
  have Zs93 := Nat.le_trans Zs92 (Nat.le_of_eq W93.size.symm)
  have N93 := Fr.snoc X93 N92 n0_b77
  refine own_step (fun _ kc_ => st93 _ kc_) ?_
  show own_Ends p e below s _ _ _ (T93.setTop (mkF m 256 #[.val (.int p1), .val (.int p2), .val (.int p3), .val (.int p4), .val (.int p5), .val (.int p6), .val (.int nn), .val (.int (3 : Int32)), .val (.int fr), .val (.int qb), .val (.ref b77), .val (.int sc), .unset, .unset, .unset, .unset, .unset, .unset] []))
  refine own_step (fun _ kc_ => XS.iloadN X93.here hx rfl (hb hby at_256) rfl (X93.ldcI hx hown (mvT hZ (hw _ (List.mem_of_getElem? (i := 0) rfl))) rfl (hb hby at_257) (XS.iand X93.here hx rfl (hb hby at_259) rfl (XS.iload X93.here hx rfl (hb hby at_260) rfl (XS.iconst X93.here hx rfl (hb hby at_262) (XS.iadd X93.here hx rfl (hb hby at_263) rfl kc_)))))) ?_
  show own_Ends p e below s _ _ _ (T93.setTop (mkF m 264 #[.val (.int p1), .val (.int p2), .val (.int p3), .val (.int p4), .val (.int p5), .val (.int p6), .val (.int nn), .val (.int (3 : Int32)), .val (.int fr), .val (.int qb), .val (.ref b77), .val (.int sc), .unset, .unset, .unset, .unset, .unset, .unset] [(.int ((3 : Int32) + (2 : Int32))), (.int (p4 &&& (2147483647 : Int32)))]))
  rw [show ((3 : Int32) + (2 : Int32)) = (5 : Int32) from by decide]
  show own_Ends p e below s _ _ _ (T93.setTop (mkF m 264 #[.val (.int p1), .val (.int p2), .val (.int p3), .val (.int p4), .val (.int p5), .val (.int p6), .val (.int nn), .val (.int (3 : Int32)), .val (.int fr), .val (.int qb), .val (.ref b77), .val (.int sc), .unset, .unset, .unset, .unset, .unset, .unset] [(.int (5 : Int32)), (.int (p4 &&& (2147483647 : Int32)))]))
  refine own_step (fun _ kc_ => Jvm.RoadKit.iremM X93 hx rfl (hb hby at_264) rfl (by decide) (XS.istore X93.here hx rfl (hb hby at_265) rfl (l' := #[.val (.int p1), .val (.int p2), .val (.int p3), .val (.int p4), .val (.int p5), .val (.int p6), .val (.int nn), .val (.int (3 : Int32)), .val (.int fr), .val (.int qb), .val (.ref b77), .val (.int sc), .val (.int ((p4 &&& (2147483647 : Int32)) % (5 : Int32))), .unset, .unset, .unset, .unset, .unset]) rfl kc_)) ?_
  show own_Ends p e below s _ _ _ (T93.setTop (mkF m 267 #[.val (.int p1), .val (.int p2), .val (.int p3), .val (.int p4), .val (.int p5), .val (.int p6), .val (.int nn), .val (.int (3 : Int32)), .val (.int fr), .val (.int qb), .val (.ref b77), .val (.int sc), .val (.int ((p4 &&& (2147483647 : Int32)) % (5 : Int32))), .unset, .unset, .unset, .unset, .unset] []))
  generalize hcc : ((p4 &&& (2147483647 : Int32)) % (5 : Int32)) = cc
  show own_Ends p e below s _ _ _ (T93.setTop (mkF m 267 #[.val (.int p1), .val (.int p2), .val (.int p3), .val (.int p4), .val (.int p5), .val (.int p6), .val (.int nn), .val (.int (3 : Int32)), .val (.int fr), .val (.int qb), .val (.ref b77), .val (.int sc), .val (.int cc), .unset, .unset, .unset, .unset, .unset] []))
  obtain ⟨T94, h94, X94, e94, E94, A94, D94, -, st94⟩ := newO X93 hx hZ hown (hw _ (List.mem_of_getElem? (i := 6) rfl)) (hw _ (List.mem_of_getElem? (i := 7) rfl)) (hw _ (List.mem_of_getElem? (i := 8) rfl)) e93 (g := (mkF m 267 #[.val (.int p1), .val (.int p2), .val (.int p3), .val (.int p4), .val (.int p5), .val (.int p6), .val (.int nn), .val (.int (3 : Int32)), .val (.int fr), .val (.int qb), .val (.ref b77), .val (.int sc), .val (.int cc), .unset, .unset, .unset, .unset, .unset] [])) rfl (hb hby at_267) (by decide : 1 + 1 ≤ _) (by decide : 9 + 3 ≤ _)
  obtain ⟨b94, g94⟩ : ∃ z, z = h93.size := ⟨_, rfl⟩
  rw [← g94] at A94 D94 st94
  have ne_b77_b94 : b77 ≠ b94 := Nat.ne_of_lt (Nat.lt_of_lt_of_le (A_b77_93).lt (Nat.le_of_eq g94.symm))
  have n0_b94 : n0 ≤ b94 := Nat.le_trans Zs93 (Nat.le_of_eq g94.symm)
  have A_b77_94 := (A_b77_93).ext E94
  have Zs94 := Nat.le_trans Zs93 E94.1
  have F_bytes_b94 : Fld Z h94 b94 "com/example/wakachi/wakachi/VarInts$Reader" "bytes" "[B" .null := D94 (Or.inr (hw _ (List.mem_of_getElem? (i := 16) rfl))) (ty := (.array .byte)) (by decide)
  have F_position_b94 : Fld Z h94 b94 "com/example/wakachi/wakachi/VarInts$Reader" "position" "I" (.int (0 : Int32)) := D94 (Or.inl (hw _ (List.mem_of_getElem? (i := 18) rfl))) (ty := .int) (by decide)
  have F_to_b94 : Fld Z h94 b94 "com/example/wakachi/wakachi/VarInts$Reader" "to" "I" (.int (0 : Int32)) := D94 (Or.inr (hw _ (List.mem_of_getElem? (i := 20) rfl))) (ty := .int) (by decide)
  refine own_step (fun _ kc_ => st94 _ kc_) ?_
  show own_Ends p e below s _ _ _ (T94.setTop (mkF m 270 #[.val (.int p1), .val (.int p2), .val (.int p3), .val (.int p4), .val (.int p5), .val (.int p6), .val (.int nn), .val (.int (3 : Int32)), .val (.int fr), .val (.int qb), .val (.ref b77), .val (.int sc), .val (.int cc), .unset, .unset, .unset, .unset, .unset] [(.ref b94)]))
  refine own_step (fun _ kc_ => XS.dup X94.here hx rfl (hb hby at_270) rfl rfl (XS.aload X94.here hx rfl (hb hby at_271) rfl rfl (XS.iload X94.here hx rfl (hb hby at_273) rfl (XS.iload X94.here hx rfl (hb hby at_275) rfl (XS.iload X94.here hx rfl (hb hby at_277) rfl (XS.iadd X94.here hx rfl (hb hby at_279) rfl kc_)))))) ?_
  show own_Ends p e below s _ _ _ (T94.setTop (mkF m 280 #[.val (.int p1), .val (.int p2), .val (.int p3), .val (.int p4), .val (.int p5), .val (.int p6), .val (.int nn), .val (.int (3 : Int32)), .val (.int fr), .val (.int qb), .val (.ref b77), .val (.int sc), .val (.int cc), .unset, .unset, .unset, .unset, .unset] [(.int (fr + cc)), (.int fr), (.ref b77), (.ref b94), (.ref b94)]))
  obtain ⟨C, hC, hcC⟩ : ∃ C : Nat, C < 5 ∧ cc = Int32.ofNat C := own_cut p4 (5 : Int32) 5 (by decide) rfl hcc
  have hto : fr + cc = Int32.ofNat (F + C) := by rw [hfr, hcC, Int32.ofNat_add]
  rw [hto]
  show own_Ends p e below s _ _ _ (T94.setTop (mkF m 280 #[.val (.int p1), .val (.int p2), .val (.int p3), .val (.int p4), .val (.int p5), .val (.int p6), .val (.int nn), .val (.int (3 : Int32)), .val (.int fr), .val (.int qb), .val (.ref b77), .val (.int sc), .val (.int cc), .unset, .unset, .unset, .unset, .unset] [(.int (Int32.ofNat (F + C))), (.int fr), (.ref b77), (.ref b94), (.ref b94)]))
  obtain ⟨vs, hvs⟩ : ∃ v : List Value, (((((((([(.int (nar .byte qb)), (.int (nar .byte qb)), (.int (nar .byte qb)), (.int (nar .byte qb)), (.int (nar .byte qb)), (.int (nar .byte qb)), (.int (nar .byte qb)), (.int (nar .byte qb)), (.int (nar .byte qb))]).set F (.int (nar .byte (own_enc nn (0 : Int32) (3 : Int32)))))).set (F + 1) (.int (nar .byte (own_enc nn (1 : Int32) (3 : Int32)))))).set (F + 2) (.int (nar .byte (own_enc nn (2 : Int32) (3 : Int32)))))).set (F + 3) (.int (nar .byte (sc.toInt8.toInt32)))) = v := ⟨_, rfl⟩
  have A_vs : own_Ar Z h94 b77 .byte vs := by rw [← hvs]; exact A_b77_94
  have hints : own_ints vs := by rw [← hvs]; exact own_ints_set (own_ints_set (own_ints_set (own_ints_set (own_ints9 _ _ _ _ _ _ _ _ _))))
  have hlen : vs.length = 9 := by rw [← hvs]; simp only [List.length_set, List.length_cons, List.length_nil]
  have hb0 : own_iv vs (F + 0) = nar .byte (own_enc nn (0 : Int32) (3 : Int32)) := by rw [← hvs]; exact own_pk3_0 _ _ _ _ _  F hF
  have hb1 : own_iv vs (F + 1) = nar .byte (own_enc nn (1 : Int32) (3 : Int32)) := by rw [← hvs]; exact own_pk3_1 _ _ _ _ _  F hF
  have hb2 : own_iv vs (F + 2) = nar .byte (own_enc nn (2 : Int32) (3 : Int32)) := by rw [← hvs]; exact own_pk3_2 _ _ _ _ _  F hF
  have hb3 : own_iv vs (F + 3) = nar .byte (sc.toInt8.toInt32) := by rw [← hvs]; exact own_pk3_3 _ _ _ _ _  F hF
  obtain ⟨_, _, ⟨T95, L95, k95, n95⟩, -, X95, ⟨Lc95, hQ95, l95, y95, z95⟩, st95⟩ := X94.specialBack hx (y := (⟨"com/example/wakachi/wakachi/VarInts$Reader", "<init>", "([BII)V"⟩ : MethodName)) rfl hown (mvT hZ (hw _ (List.mem_of_getElem? (i := 9) rfl))) (mvT hZ (hw _ (List.mem_of_getElem? (i := 10) rfl))) (mvT hZ (hw _ (List.mem_of_getElem? (i := 11) rfl))) (by decide) (backOf (W := 1) (rm2 l Z a0 hw [] b94 b77 fr (Int32.ofNat (F + C))  h94 n0 Zs94 A94 F_bytes_b94 F_position_b94 F_to_b94 n0_b94) hZ (hw _ (List.mem_of_getElem? (i := 11) rfl)) (hw _ (List.mem_of_getElem? (i := 8) rfl)) (by decide) (by decide)) (g := (mkF m 280 #[.val (.int p1), .val (.int p2), .val (.int p3), .val (.int p4), .val (.int p5), .val (.int p6), .val (.int nn), .val (.int (3 : Int32)), .val (.int fr), .val (.int qb), .val (.ref b77), .val (.int sc), .val (.int cc), .unset, .unset, .unset, .unset, .unset] [(.int (Int32.ofNat (F + C))), (.int fr), (.ref b77), (.ref b94), (.ref b94)])) rfl (by rw [hml]; rfl) (Steps.refl _) (a := b94) (argsL := [(.ref b77), (.int fr), (.int (Int32.ofNat (F + C)))]) (rest := [(.ref b94)]) (lenOf pd_2 rfl) rfl (by show 2 * 0 + _ ≤ _; exact Nat.le_of_eq rfl) (hb hby at_280) (fun _ _ => ⟨rfl, e94, (by decide : 2 + 0 ≤ _), (by decide : 12 + 0 ≤ _)⟩)
  dsimp only [Pt.U, Pt.locs, Pt.cells, Pt.slots] at X95 l95 y95 z95 st95 hQ95
  subst y95 z95
  obtain ⟨rfl, N95q, K95k, fB95, fP95, fT95⟩ := hQ95
  rw [hfr] at fP95
  have A_b77_95 := (A_vs).keep K95k (ninS ne_b77_b94 nin0)
  have E_b94_95 := (A94).keep K95k
  have Zs95 := Nat.le_trans Zs94 K95k.1
  have N95 : Fr n0 L95 := by rw [l95]; exact Fr.app N93 N95q
  refine own_step (fun _ kc_ => st95.trans kc_) ?_
  show own_Ends p e below s _ _ _ (T95.setTop (mkF m 283 #[.val (.int p1), .val (.int p2), .val (.int p3), .val (.int p4), .val (.int p5), .val (.int p6), .val (.int nn), .val (.int (3 : Int32)), .val (.int fr), .val (.int qb), .val (.ref b77), .val (.int sc), .val (.int cc), .unset, .unset, .unset, .unset, .unset] [(.ref b94)]))
  refine own_step (fun _ kc_ => XS.astore X95.here hx rfl (hb hby at_283) rfl rfl (l' := #[.val (.int p1), .val (.int p2), .val (.int p3), .val (.int p4), .val (.int p5), .val (.int p6), .val (.int nn), .val (.int (3 : Int32)), .val (.int fr), .val (.int qb), .val (.ref b77), .val (.int sc), .val (.int cc), .val (.ref b94), .unset, .unset, .unset, .unset]) rfl kc_) ?_
  show own_Ends p e below s _ _ _ (T95.setTop (mkF m 285 #[.val (.int p1), .val (.int p2), .val (.int p3), .val (.int p4), .val (.int p5), .val (.int p6), .val (.int nn), .val (.int (3 : Int32)), .val (.int fr), .val (.int qb), .val (.ref b77), .val (.int sc), .val (.int cc), .val (.ref b94), .unset, .unset, .unset, .unset] []))
  rcases (show C < 3 ∨ C = 3 ∨ C = 4 by omega) with hC1 | hC1 | hC1
  · have hx1 : own_nx vs F 0 0 C = (-1, F + C) := own_nx_all vs C F 0 0 (own_neg3 vs F C nn hC1 hb0 hb1 hb2)
    have hx2 : own_nx vs (F + C) 0 0 0 = (-1, F + C) := rfl
    have hh1 := own_hasEq (F + C)
    have hh2 := own_hasEq (F + C)
    show own_Ends p e below s _ _ _ (T95.setTop (mkF m 285 #[.val (.int p1), .val (.int p2), .val (.int p3), .val (.int p4), .val (.int p5), .val (.int p6), .val (.int nn), .val (.int (3 : Int32)), .val (.int fr), .val (.int qb), .val (.ref b77), .val (.int sc), .val (.int cc), .val (.ref b94), .unset, .unset, .unset, .unset] []))
    refine own_step (fun _ kc_ => XS.aload X95.here hx rfl (hb hby at_285) rfl rfl kc_) ?_
    show own_Ends p e below s _ _ _ (T95.setTop (mkF m 287 #[.val (.int p1), .val (.int p2), .val (.int p3), .val (.int p4), .val (.int p5), .val (.int p6), .val (.int nn), .val (.int (3 : Int32)), .val (.int fr), .val (.int qb), .val (.ref b77), .val (.int sc), .val (.int cc), .val (.ref b94), .unset, .unset, .unset, .unset] [(.ref b94)]))
    obtain ⟨cq96, kq96, q96a, q96b, q96c⟩ := isOf hZ rfl E_b94_95
    obtain ⟨_, _, ⟨T96, L96, k96, n96⟩, -, X96, ⟨Lc96, hQ96, l96, y96, z96⟩, st96⟩ := X95.virtualBack hx (y := (⟨"com/example/wakachi/wakachi/VarInts$Reader", "next", "()I"⟩ : MethodName)) (z := (⟨"com/example/wakachi/wakachi/VarInts$Reader", "next", "()I"⟩ : MethodName)) hown (mvT hZ (hw _ (List.mem_of_getElem? (i := 21) rfl))) (mvT hZ (hw _ (List.mem_of_getElem? (i := 22) rfl))) (notFace_of_selects (args := #[]) (mvT hZ (hw _ (List.mem_of_getElem? (i := 24) rfl)))) (mvT hZ (hw _ (List.mem_of_getElem? (i := 24) rfl))) (mvT hZ (hw _ (List.mem_of_getElem? (i := 23) rfl))) (by decide) (backOf (W := 0) (rm4 l Z a0 hw [] b94 b77 vs F C T95.heap n0 Zs95 E_b94_95 fB95 fP95 fT95 A_b77_95 hints (by rw [hlen]; omega) n0_b94 (Ne.symm ne_b77_b94)) hZ (hw _ (List.mem_of_getElem? (i := 25) rfl)) (hw _ (List.mem_of_getElem? (i := 8) rfl)) (by decide) (by decide)) q96a q96c (g := (mkF m 287 #[.val (.int p1), .val (.int p2), .val (.int p3), .val (.int p4), .val (.int p5), .val (.int p6), .val (.int nn), .val (.int (3 : Int32)), .val (.int fr), .val (.int qb), .val (.ref b77), .val (.int sc), .val (.int cc), .val (.ref b94), .unset, .unset, .unset, .unset] [(.ref b94)])) rfl (by rw [hml]; rfl) (Steps.refl _) (argsL := []) (rest := []) (lenOf pd_3 rfl) rfl (by show 2 * 0 + _ ≤ _; exact Nat.le_of_eq rfl) (hb hby at_287) (fun _ _ => ⟨rfl, rfl, (by decide : 2 + 0 ≤ _), (by decide : 12 + 0 ≤ _)⟩)
    dsimp only [Pt.U, Pt.locs, Pt.cells, Pt.slots] at X96 l96 y96 z96 st96 hQ96
    subst y96 z96
    obtain ⟨hv96, N96q, K96k, fP96, fB96, fT96⟩ := hQ96
    rw [hx1] at hv96 fP96
    subst hv96
    have A_b77_96 := (A_b77_95).keep K96k (ninS ne_b77_b94 nin0)
    have E_b94_96 := (E_b94_95).keep K96k
    have Zs96 := Nat.le_trans Zs95 K96k.1
    have N96 : Fr n0 L96 := by rw [l96]; exact Fr.app N95 N96q
    refine own_step (fun _ kc_ => st96.trans kc_) ?_
    show own_Ends p e below s _ _ _ (T96.setTop (mkF m 290 #[.val (.int p1), .val (.int p2), .val (.int p3), .val (.int p4), .val (.int p5), .val (.int p6), .val (.int nn), .val (.int (3 : Int32)), .val (.int fr), .val (.int qb), .val (.ref b77), .val (.int sc), .val (.int cc), .val (.ref b94), .unset, .unset, .unset, .unset] [(.int (-1 : Int32))]))
    refine own_step (fun _ kc_ => XS.istore X96.here hx rfl (hb hby at_290) rfl (l' := #[.val (.int p1), .val (.int p2), .val (.int p3), .val (.int p4), .val (.int p5), .val (.int p6), .val (.int nn), .val (.int (3 : Int32)), .val (.int fr), .val (.int qb), .val (.ref b77), .val (.int sc), .val (.int cc), .val (.ref b94), .val (.int (-1 : Int32)), .unset, .unset, .unset]) rfl (XS.aload X96.here hx rfl (hb hby at_292) rfl rfl kc_)) ?_
    show own_Ends p e below s _ _ _ (T96.setTop (mkF m 294 #[.val (.int p1), .val (.int p2), .val (.int p3), .val (.int p4), .val (.int p5), .val (.int p6), .val (.int nn), .val (.int (3 : Int32)), .val (.int fr), .val (.int qb), .val (.ref b77), .val (.int sc), .val (.int cc), .val (.ref b94), .val (.int (-1 : Int32)), .unset, .unset, .unset] [(.ref b94)]))
    obtain ⟨cq97, kq97, q97a, q97b, q97c⟩ := isOf hZ rfl E_b94_96
    obtain ⟨_, _, ⟨T97, L97, k97, n97⟩, -, X97, ⟨Lc97, hQ97, l97, y97, z97⟩, st97⟩ := X96.virtualBack hx (y := (⟨"com/example/wakachi/wakachi/VarInts$Reader", "hasNext", "()Z"⟩ : MethodName)) (z := (⟨"com/example/wakachi/wakachi/VarInts$Reader", "hasNext", "()Z"⟩ : MethodName)) hown (mvT hZ (hw _ (List.mem_of_getElem? (i := 26) rfl))) (mvT hZ (hw _ (List.mem_of_getElem? (i := 27) rfl))) (notFace_of_selects (args := #[]) (mvT hZ (hw _ (List.mem_of_getElem? (i := 29) rfl)))) (mvT hZ (hw _ (List.mem_of_getElem? (i := 29) rfl))) (mvT hZ (hw _ (List.mem_of_getElem? (i := 28) rfl))) (by decide) (backOf (W := 0) (rm5 l Z a0 hw [] b94 (Int32.ofNat (F + C)) (Int32.ofNat (F + C)) T96.heap n0 Zs96 fP96 fT96) hZ (hw _ (List.mem_of_getElem? (i := 30) rfl)) (hw _ (List.mem_of_getElem? (i := 8) rfl)) (by decide) (by decide)) q97a q97c (g := (mkF m 294 #[.val (.int p1), .val (.int p2), .val (.int p3), .val (.int p4), .val (.int p5), .val (.int p6), .val (.int nn), .val (.int (3 : Int32)), .val (.int fr), .val (.int qb), .val (.ref b77), .val (.int sc), .val (.int cc), .val (.ref b94), .val (.int (-1 : Int32)), .unset, .unset, .unset] [(.ref b94)])) rfl (by rw [hml]; rfl) (Steps.refl _) (argsL := []) (rest := []) (lenOf pd_4 rfl) rfl (by show 2 * 0 + _ ≤ _; exact Nat.le_of_eq rfl) (hb hby at_294) (fun _ _ => ⟨rfl, rfl, (by decide : 2 + 0 ≤ _), (by decide : 12 + 0 ≤ _)⟩)
    dsimp only [Pt.U, Pt.locs, Pt.cells, Pt.slots] at X97 l97 y97 z97 st97 hQ97
    subst y97 z97
    obtain ⟨hv97, N97q, e97⟩ := hQ97
    rw [hh1] at hv97
    subst hv97
    have e97h : T97.heap = T96.heap := e97
    have N97 : Fr n0 L97 := by rw [l97]; exact Fr.app N96 N97q
    refine own_step (fun _ kc_ => st97.trans kc_) ?_
    show own_Ends p e below s _ _ _ (T97.setTop (mkF m 297 #[.val (.int p1), .val (.int p2), .val (.int p3), .val (.int p4), .val (.int p5), .val (.int p6), .val (.int nn), .val (.int (3 : Int32)), .val (.int fr), .val (.int qb), .val (.ref b77), .val (.int sc), .val (.int cc), .val (.ref b94), .val (.int (-1 : Int32)), .unset, .unset, .unset] [(.int (0 : Int32))]))
    refine own_step (fun _ kc_ => XS.istore X97.here hx rfl (hb hby at_297) rfl (l' := #[.val (.int p1), .val (.int p2), .val (.int p3), .val (.int p4), .val (.int p5), .val (.int p6), .val (.int nn), .val (.int (3 : Int32)), .val (.int fr), .val (.int qb), .val (.ref b77), .val (.int sc), .val (.int cc), .val (.ref b94), .val (.int (-1 : Int32)), .val (.int (0 : Int32)), .unset, .unset]) rfl (XS.aload X97.here hx rfl (hb hby at_299) rfl rfl kc_)) ?_
    show own_Ends p e below s _ _ _ (T97.setTop (mkF m 301 #[.val (.int p1), .val (.int p2), .val (.int p3), .val (.int p4), .val (.int p5), .val (.int p6), .val (.int nn), .val (.int (3 : Int32)), .val (.int fr), .val (.int qb), .val (.ref b77), .val (.int sc), .val (.int cc), .val (.ref b94), .val (.int (-1 : Int32)), .val (.int (0 : Int32)), .unset, .unset] [(.ref b94)]))
    obtain ⟨cq98, kq98, q98a, q98b, q98c⟩ := isOf hZ e97h E_b94_96
    obtain ⟨_, _, ⟨T98, L98, k98, n98⟩, -, X98, ⟨Lc98, hQ98, l98, y98, z98⟩, st98⟩ := X97.virtualBack hx (y := (⟨"com/example/wakachi/wakachi/VarInts$Reader", "next", "()I"⟩ : MethodName)) (z := (⟨"com/example/wakachi/wakachi/VarInts$Reader", "next", "()I"⟩ : MethodName)) hown (mvT hZ (hw _ (List.mem_of_getElem? (i := 21) rfl))) (mvT hZ (hw _ (List.mem_of_getElem? (i := 22) rfl))) (notFace_of_selects (args := #[]) (mvT hZ (hw _ (List.mem_of_getElem? (i := 24) rfl)))) (mvT hZ (hw _ (List.mem_of_getElem? (i := 24) rfl))) (mvT hZ (hw _ (List.mem_of_getElem? (i := 23) rfl))) (by decide) (backOf (W := 0) (rm4 l Z a0 hw [] b94 b77 vs (F + C) 0 T96.heap n0 Zs96 E_b94_96 fB96 fP96 fT96 A_b77_96 hints (by rw [hlen]; omega) n0_b94 (Ne.symm ne_b77_b94)) hZ (hw _ (List.mem_of_getElem? (i := 25) rfl)) (hw _ (List.mem_of_getElem? (i := 8) rfl)) (by decide) (by decide)) q98a q98c (g := (mkF m 301 #[.val (.int p1), .val (.int p2), .val (.int p3), .val (.int p4), .val (.int p5), .val (.int p6), .val (.int nn), .val (.int (3 : Int32)), .val (.int fr), .val (.int qb), .val (.ref b77), .val (.int sc), .val (.int cc), .val (.ref b94), .val (.int (-1 : Int32)), .val (.int (0 : Int32)), .unset, .unset] [(.ref b94)])) rfl (by rw [hml]; rfl) (Steps.refl _) (argsL := []) (rest := []) (lenOf pd_3 rfl) rfl (by show 2 * 0 + _ ≤ _; exact Nat.le_of_eq rfl) (hb hby at_301) (fun _ _ => ⟨rfl, e97h, (by decide : 2 + 0 ≤ _), (by decide : 12 + 0 ≤ _)⟩)
    dsimp only [Pt.U, Pt.locs, Pt.cells, Pt.slots] at X98 l98 y98 z98 st98 hQ98
    subst y98 z98
    obtain ⟨hv98, N98q, K98k, fP98, fB98, fT98⟩ := hQ98
    rw [hx2] at hv98 fP98
    subst hv98
    have A_b77_98 := (A_b77_96).keep K98k (ninS ne_b77_b94 nin0)
    have E_b94_98 := (E_b94_96).keep K98k
    have Zs98 := Nat.le_trans Zs96 K98k.1
    have N98 : Fr n0 L98 := by rw [l98]; exact Fr.app N97 N98q
    refine own_step (fun _ kc_ => st98.trans kc_) ?_
    show own_Ends p e below s _ _ _ (T98.setTop (mkF m 304 #[.val (.int p1), .val (.int p2), .val (.int p3), .val (.int p4), .val (.int p5), .val (.int p6), .val (.int nn), .val (.int (3 : Int32)), .val (.int fr), .val (.int qb), .val (.ref b77), .val (.int sc), .val (.int cc), .val (.ref b94), .val (.int (-1 : Int32)), .val (.int (0 : Int32)), .unset, .unset] [(.int (-1 : Int32))]))
    refine own_step (fun _ kc_ => XS.istore X98.here hx rfl (hb hby at_304) rfl (l' := #[.val (.int p1), .val (.int p2), .val (.int p3), .val (.int p4), .val (.int p5), .val (.int p6), .val (.int nn), .val (.int (3 : Int32)), .val (.int fr), .val (.int qb), .val (.ref b77), .val (.int sc), .val (.int cc), .val (.ref b94), .val (.int (-1 : Int32)), .val (.int (0 : Int32)), .val (.int (-1 : Int32)), .unset]) rfl (XS.aload X98.here hx rfl (hb hby at_306) rfl rfl kc_)) ?_
    show own_Ends p e below s _ _ _ (T98.setTop (mkF m 308 #[.val (.int p1), .val (.int p2), .val (.int p3), .val (.int p4), .val (.int p5), .val (.int p6), .val (.int nn), .val (.int (3 : Int32)), .val (.int fr), .val (.int qb), .val (.ref b77), .val (.int sc), .val (.int cc), .val (.ref b94), .val (.int (-1 : Int32)), .val (.int (0 : Int32)), .val (.int (-1 : Int32)), .unset] [(.ref b94)]))
    obtain ⟨cq99, kq99, q99a, q99b, q99c⟩ := isOf hZ rfl E_b94_98
    obtain ⟨_, _, ⟨T99, L99, k99, n99⟩, -, X99, ⟨Lc99, hQ99, l99, y99, z99⟩, st99⟩ := X98.virtualBack hx (y := (⟨"com/example/wakachi/wakachi/VarInts$Reader", "hasNext", "()Z"⟩ : MethodName)) (z := (⟨"com/example/wakachi/wakachi/VarInts$Reader", "hasNext", "()Z"⟩ : MethodName)) hown (mvT hZ (hw _ (List.mem_of_getElem? (i := 26) rfl))) (mvT hZ (hw _ (List.mem_of_getElem? (i := 27) rfl))) (notFace_of_selects (args := #[]) (mvT hZ (hw _ (List.mem_of_getElem? (i := 29) rfl)))) (mvT hZ (hw _ (List.mem_of_getElem? (i := 29) rfl))) (mvT hZ (hw _ (List.mem_of_getElem? (i := 28) rfl))) (by decide) (backOf (W := 0) (rm5 l Z a0 hw [] b94 (Int32.ofNat (F + C)) (Int32.ofNat (F + C)) T98.heap n0 Zs98 fP98 fT98) hZ (hw _ (List.mem_of_getElem? (i := 30) rfl)) (hw _ (List.mem_of_getElem? (i := 8) rfl)) (by decide) (by decide)) q99a q99c (g := (mkF m 308 #[.val (.int p1), .val (.int p2), .val (.int p3), .val (.int p4), .val (.int p5), .val (.int p6), .val (.int nn), .val (.int (3 : Int32)), .val (.int fr), .val (.int qb), .val (.ref b77), .val (.int sc), .val (.int cc), .val (.ref b94), .val (.int (-1 : Int32)), .val (.int (0 : Int32)), .val (.int (-1 : Int32)), .unset] [(.ref b94)])) rfl (by rw [hml]; rfl) (Steps.refl _) (argsL := []) (rest := []) (lenOf pd_4 rfl) rfl (by show 2 * 0 + _ ≤ _; exact Nat.le_of_eq rfl) (hb hby at_308) (fun _ _ => ⟨rfl, rfl, (by decide : 2 + 0 ≤ _), (by decide : 12 + 0 ≤ _)⟩)
    dsimp only [Pt.U, Pt.locs, Pt.cells, Pt.slots] at X99 l99 y99 z99 st99 hQ99
    subst y99 z99
    obtain ⟨hv99, N99q, e99⟩ := hQ99
    rw [hh2] at hv99
    subst hv99
    have e99h : T99.heap = T98.heap := e99
    have N99 : Fr n0 L99 := by rw [l99]; exact Fr.app N98 N99q
    refine own_step (fun _ kc_ => st99.trans kc_) ?_
    show own_Ends p e below s _ _ _ (T99.setTop (mkF m 311 #[.val (.int p1), .val (.int p2), .val (.int p3), .val (.int p4), .val (.int p5), .val (.int p6), .val (.int nn), .val (.int (3 : Int32)), .val (.int fr), .val (.int qb), .val (.ref b77), .val (.int sc), .val (.int cc), .val (.ref b94), .val (.int (-1 : Int32)), .val (.int (0 : Int32)), .val (.int (-1 : Int32)), .unset] [(.int (0 : Int32))]))
    refine own_step (fun _ kc_ => XS.istore X99.here hx rfl (hb hby at_311) rfl (l' := #[.val (.int p1), .val (.int p2), .val (.int p3), .val (.int p4), .val (.int p5), .val (.int p6), .val (.int nn), .val (.int (3 : Int32)), .val (.int fr), .val (.int qb), .val (.ref b77), .val (.int sc), .val (.int cc), .val (.ref b94), .val (.int (-1 : Int32)), .val (.int (0 : Int32)), .val (.int (-1 : Int32)), .val (.int (0 : Int32))]) rfl (XS.iload X99.here hx rfl (hb hby at_313) rfl (XS.iload X99.here hx rfl (hb hby at_315) rfl (XS.icmpNo X99.here hx rfl (hb hby at_317) rfl (XT.ii_ge_f (by rw [hcC]; exact own_ofNat_lt hC1 (by decide) : cc < (3 : Int32))) (XS.iload X99.here hx rfl (hb hby at_320) rfl (XS.iconst X99.here hx rfl (hb hby at_322) (XS.icmpNo X99.here hx rfl (hb hby at_323) rfl (XT.ii_ne_f (by decide : (-1 : Int32) = (-1 : Int32))) (XS.iload X99.here hx rfl (hb hby at_326) rfl kc_)))))))) ?_
    show own_Ends p e below s _ _ _ (T99.setTop (mkF m 328 #[.val (.int p1), .val (.int p2), .val (.int p3), .val (.int p4), .val (.int p5), .val (.int p6), .val (.int nn), .val (.int (3 : Int32)), .val (.int fr), .val (.int qb), .val (.ref b77), .val (.int sc), .val (.int cc), .val (.ref b94), .val (.int (-1 : Int32)), .val (.int (0 : Int32)), .val (.int (-1 : Int32)), .val (.int (0 : Int32))] [(.int (0 : Int32))]))
    refine own_step (fun _ kc_ => XS.ifNo X99.here hx rfl (hb hby at_328) rfl (XT.i0_ne_f (by decide : (0 : Int32) = 0)) (XS.iload X99.here hx rfl (hb hby at_331) rfl (XS.iconst X99.here hx rfl (hb hby at_333) (XS.icmpNo X99.here hx rfl (hb hby at_334) rfl (XT.ii_ne_f (by decide : (-1 : Int32) = (-1 : Int32))) (XS.iload X99.here hx rfl (hb hby at_337) rfl (XS.ifNo X99.here hx rfl (hb hby at_339) rfl (XT.i0_ne_f (by decide : (0 : Int32) = 0)) (XS.iconst X99.here hx rfl (hb hby at_342) (XS.goto X99.here hx rfl (pc0 := 343) (pc' := 347) rfl (hb hby at_343) (by decide) (by decide) kc_)))))))) ?_
    show own_Ends p e below s _ _ _ (T99.setTop (mkF m 347 #[.val (.int p1), .val (.int p2), .val (.int p3), .val (.int p4), .val (.int p5), .val (.int p6), .val (.int nn), .val (.int (3 : Int32)), .val (.int fr), .val (.int qb), .val (.ref b77), .val (.int sc), .val (.int cc), .val (.ref b94), .val (.int (-1 : Int32)), .val (.int (0 : Int32)), .val (.int (-1 : Int32)), .val (.int (0 : Int32))] [(.int (1 : Int32))]))
    exact own_retN X99 hx (t := .boolean) hret (by simp) hlk (hb hby at_347) (by decide) (by decide) rfl ⟨rfl, N99⟩
  · subst hC1
    have hx1 : own_nx vs F 0 0 3 = (nn, F + 3) := own_run3 vs F 0 nn hn0 hn1 hb0 hb1 hb2
    have hx2 : own_nx vs (F + 3) 0 0 0 = (-1, F + 3) := rfl
    have hh1 := own_hasEq (F + 3)
    have hh2 := own_hasEq (F + 3)
    show own_Ends p e below s _ _ _ (T95.setTop (mkF m 285 #[.val (.int p1), .val (.int p2), .val (.int p3), .val (.int p4), .val (.int p5), .val (.int p6), .val (.int nn), .val (.int (3 : Int32)), .val (.int fr), .val (.int qb), .val (.ref b77), .val (.int sc), .val (.int cc), .val (.ref b94), .unset, .unset, .unset, .unset] []))
    refine own_step (fun _ kc_ => XS.aload X95.here hx rfl (hb hby at_285) rfl rfl kc_) ?_
    show own_Ends p e below s _ _ _ (T95.setTop (mkF m 287 #[.val (.int p1), .val (.int p2), .val (.int p3), .val (.int p4), .val (.int p5), .val (.int p6), .val (.int nn), .val (.int (3 : Int32)), .val (.int fr), .val (.int qb), .val (.ref b77), .val (.int sc), .val (.int cc), .val (.ref b94), .unset, .unset, .unset, .unset] [(.ref b94)]))
    obtain ⟨cq100, kq100, q100a, q100b, q100c⟩ := isOf hZ rfl E_b94_95
    obtain ⟨_, _, ⟨T100, L100, k100, n100⟩, -, X100, ⟨Lc100, hQ100, l100, y100, z100⟩, st100⟩ := X95.virtualBack hx (y := (⟨"com/example/wakachi/wakachi/VarInts$Reader", "next", "()I"⟩ : MethodName)) (z := (⟨"com/example/wakachi/wakachi/VarInts$Reader", "next", "()I"⟩ : MethodName)) hown (mvT hZ (hw _ (List.mem_of_getElem? (i := 21) rfl))) (mvT hZ (hw _ (List.mem_of_getElem? (i := 22) rfl))) (notFace_of_selects (args := #[]) (mvT hZ (hw _ (List.mem_of_getElem? (i := 24) rfl)))) (mvT hZ (hw _ (List.mem_of_getElem? (i := 24) rfl))) (mvT hZ (hw _ (List.mem_of_getElem? (i := 23) rfl))) (by decide) (backOf (W := 0) (rm4 l Z a0 hw [] b94 b77 vs F 3 T95.heap n0 Zs95 E_b94_95 fB95 fP95 fT95 A_b77_95 hints (by rw [hlen]; omega) n0_b94 (Ne.symm ne_b77_b94)) hZ (hw _ (List.mem_of_getElem? (i := 25) rfl)) (hw _ (List.mem_of_getElem? (i := 8) rfl)) (by decide) (by decide)) q100a q100c (g := (mkF m 287 #[.val (.int p1), .val (.int p2), .val (.int p3), .val (.int p4), .val (.int p5), .val (.int p6), .val (.int nn), .val (.int (3 : Int32)), .val (.int fr), .val (.int qb), .val (.ref b77), .val (.int sc), .val (.int cc), .val (.ref b94), .unset, .unset, .unset, .unset] [(.ref b94)])) rfl (by rw [hml]; rfl) (Steps.refl _) (argsL := []) (rest := []) (lenOf pd_3 rfl) rfl (by show 2 * 0 + _ ≤ _; exact Nat.le_of_eq rfl) (hb hby at_287) (fun _ _ => ⟨rfl, rfl, (by decide : 2 + 0 ≤ _), (by decide : 12 + 0 ≤ _)⟩)
    dsimp only [Pt.U, Pt.locs, Pt.cells, Pt.slots] at X100 l100 y100 z100 st100 hQ100
    subst y100 z100
    obtain ⟨hv100, N100q, K100k, fP100, fB100, fT100⟩ := hQ100
    rw [hx1] at hv100 fP100
    subst hv100
    have A_b77_100 := (A_b77_95).keep K100k (ninS ne_b77_b94 nin0)
    have E_b94_100 := (E_b94_95).keep K100k
    have Zs100 := Nat.le_trans Zs95 K100k.1
    have N100 : Fr n0 L100 := by rw [l100]; exact Fr.app N95 N100q
    refine own_step (fun _ kc_ => st100.trans kc_) ?_
    show own_Ends p e below s _ _ _ (T100.setTop (mkF m 290 #[.val (.int p1), .val (.int p2), .val (.int p3), .val (.int p4), .val (.int p5), .val (.int p6), .val (.int nn), .val (.int (3 : Int32)), .val (.int fr), .val (.int qb), .val (.ref b77), .val (.int sc), .val (.int cc), .val (.ref b94), .unset, .unset, .unset, .unset] [(.int nn)]))
    refine own_step (fun _ kc_ => XS.istore X100.here hx rfl (hb hby at_290) rfl (l' := #[.val (.int p1), .val (.int p2), .val (.int p3), .val (.int p4), .val (.int p5), .val (.int p6), .val (.int nn), .val (.int (3 : Int32)), .val (.int fr), .val (.int qb), .val (.ref b77), .val (.int sc), .val (.int cc), .val (.ref b94), .val (.int nn), .unset, .unset, .unset]) rfl (XS.aload X100.here hx rfl (hb hby at_292) rfl rfl kc_)) ?_
    show own_Ends p e below s _ _ _ (T100.setTop (mkF m 294 #[.val (.int p1), .val (.int p2), .val (.int p3), .val (.int p4), .val (.int p5), .val (.int p6), .val (.int nn), .val (.int (3 : Int32)), .val (.int fr), .val (.int qb), .val (.ref b77), .val (.int sc), .val (.int cc), .val (.ref b94), .val (.int nn), .unset, .unset, .unset] [(.ref b94)]))
    obtain ⟨cq101, kq101, q101a, q101b, q101c⟩ := isOf hZ rfl E_b94_100
    obtain ⟨_, _, ⟨T101, L101, k101, n101⟩, -, X101, ⟨Lc101, hQ101, l101, y101, z101⟩, st101⟩ := X100.virtualBack hx (y := (⟨"com/example/wakachi/wakachi/VarInts$Reader", "hasNext", "()Z"⟩ : MethodName)) (z := (⟨"com/example/wakachi/wakachi/VarInts$Reader", "hasNext", "()Z"⟩ : MethodName)) hown (mvT hZ (hw _ (List.mem_of_getElem? (i := 26) rfl))) (mvT hZ (hw _ (List.mem_of_getElem? (i := 27) rfl))) (notFace_of_selects (args := #[]) (mvT hZ (hw _ (List.mem_of_getElem? (i := 29) rfl)))) (mvT hZ (hw _ (List.mem_of_getElem? (i := 29) rfl))) (mvT hZ (hw _ (List.mem_of_getElem? (i := 28) rfl))) (by decide) (backOf (W := 0) (rm5 l Z a0 hw [] b94 (Int32.ofNat (F + 3)) (Int32.ofNat (F + 3)) T100.heap n0 Zs100 fP100 fT100) hZ (hw _ (List.mem_of_getElem? (i := 30) rfl)) (hw _ (List.mem_of_getElem? (i := 8) rfl)) (by decide) (by decide)) q101a q101c (g := (mkF m 294 #[.val (.int p1), .val (.int p2), .val (.int p3), .val (.int p4), .val (.int p5), .val (.int p6), .val (.int nn), .val (.int (3 : Int32)), .val (.int fr), .val (.int qb), .val (.ref b77), .val (.int sc), .val (.int cc), .val (.ref b94), .val (.int nn), .unset, .unset, .unset] [(.ref b94)])) rfl (by rw [hml]; rfl) (Steps.refl _) (argsL := []) (rest := []) (lenOf pd_4 rfl) rfl (by show 2 * 0 + _ ≤ _; exact Nat.le_of_eq rfl) (hb hby at_294) (fun _ _ => ⟨rfl, rfl, (by decide : 2 + 0 ≤ _), (by decide : 12 + 0 ≤ _)⟩)
    dsimp only [Pt.U, Pt.locs, Pt.cells, Pt.slots] at X101 l101 y101 z101 st101 hQ101
    subst y101 z101
    obtain ⟨hv101, N101q, e101⟩ := hQ101
    rw [hh1] at hv101
    subst hv101
    have e101h : T101.heap = T100.heap := e101
    have N101 : Fr n0 L101 := by rw [l101]; exact Fr.app N100 N101q
    refine own_step (fun _ kc_ => st101.trans kc_) ?_
    show own_Ends p e below s _ _ _ (T101.setTop (mkF m 297 #[.val (.int p1), .val (.int p2), .val (.int p3), .val (.int p4), .val (.int p5), .val (.int p6), .val (.int nn), .val (.int (3 : Int32)), .val (.int fr), .val (.int qb), .val (.ref b77), .val (.int sc), .val (.int cc), .val (.ref b94), .val (.int nn), .unset, .unset, .unset] [(.int (0 : Int32))]))
    refine own_step (fun _ kc_ => XS.istore X101.here hx rfl (hb hby at_297) rfl (l' := #[.val (.int p1), .val (.int p2), .val (.int p3), .val (.int p4), .val (.int p5), .val (.int p6), .val (.int nn), .val (.int (3 : Int32)), .val (.int fr), .val (.int qb), .val (.ref b77), .val (.int sc), .val (.int cc), .val (.ref b94), .val (.int nn), .val (.int (0 : Int32)), .unset, .unset]) rfl (XS.aload X101.here hx rfl (hb hby at_299) rfl rfl kc_)) ?_
    show own_Ends p e below s _ _ _ (T101.setTop (mkF m 301 #[.val (.int p1), .val (.int p2), .val (.int p3), .val (.int p4), .val (.int p5), .val (.int p6), .val (.int nn), .val (.int (3 : Int32)), .val (.int fr), .val (.int qb), .val (.ref b77), .val (.int sc), .val (.int cc), .val (.ref b94), .val (.int nn), .val (.int (0 : Int32)), .unset, .unset] [(.ref b94)]))
    obtain ⟨cq102, kq102, q102a, q102b, q102c⟩ := isOf hZ e101h E_b94_100
    obtain ⟨_, _, ⟨T102, L102, k102, n102⟩, -, X102, ⟨Lc102, hQ102, l102, y102, z102⟩, st102⟩ := X101.virtualBack hx (y := (⟨"com/example/wakachi/wakachi/VarInts$Reader", "next", "()I"⟩ : MethodName)) (z := (⟨"com/example/wakachi/wakachi/VarInts$Reader", "next", "()I"⟩ : MethodName)) hown (mvT hZ (hw _ (List.mem_of_getElem? (i := 21) rfl))) (mvT hZ (hw _ (List.mem_of_getElem? (i := 22) rfl))) (notFace_of_selects (args := #[]) (mvT hZ (hw _ (List.mem_of_getElem? (i := 24) rfl)))) (mvT hZ (hw _ (List.mem_of_getElem? (i := 24) rfl))) (mvT hZ (hw _ (List.mem_of_getElem? (i := 23) rfl))) (by decide) (backOf (W := 0) (rm4 l Z a0 hw [] b94 b77 vs (F + 3) 0 T100.heap n0 Zs100 E_b94_100 fB100 fP100 fT100 A_b77_100 hints (by rw [hlen]; omega) n0_b94 (Ne.symm ne_b77_b94)) hZ (hw _ (List.mem_of_getElem? (i := 25) rfl)) (hw _ (List.mem_of_getElem? (i := 8) rfl)) (by decide) (by decide)) q102a q102c (g := (mkF m 301 #[.val (.int p1), .val (.int p2), .val (.int p3), .val (.int p4), .val (.int p5), .val (.int p6), .val (.int nn), .val (.int (3 : Int32)), .val (.int fr), .val (.int qb), .val (.ref b77), .val (.int sc), .val (.int cc), .val (.ref b94), .val (.int nn), .val (.int (0 : Int32)), .unset, .unset] [(.ref b94)])) rfl (by rw [hml]; rfl) (Steps.refl _) (argsL := []) (rest := []) (lenOf pd_3 rfl) rfl (by show 2 * 0 + _ ≤ _; exact Nat.le_of_eq rfl) (hb hby at_301) (fun _ _ => ⟨rfl, e101h, (by decide : 2 + 0 ≤ _), (by decide : 12 + 0 ≤ _)⟩)
    dsimp only [Pt.U, Pt.locs, Pt.cells, Pt.slots] at X102 l102 y102 z102 st102 hQ102
    subst y102 z102
    obtain ⟨hv102, N102q, K102k, fP102, fB102, fT102⟩ := hQ102
    rw [hx2] at hv102 fP102
    subst hv102
    have A_b77_102 := (A_b77_100).keep K102k (ninS ne_b77_b94 nin0)
    have E_b94_102 := (E_b94_100).keep K102k
    have Zs102 := Nat.le_trans Zs100 K102k.1
    have N102 : Fr n0 L102 := by rw [l102]; exact Fr.app N101 N102q
    refine own_step (fun _ kc_ => st102.trans kc_) ?_
    show own_Ends p e below s _ _ _ (T102.setTop (mkF m 304 #[.val (.int p1), .val (.int p2), .val (.int p3), .val (.int p4), .val (.int p5), .val (.int p6), .val (.int nn), .val (.int (3 : Int32)), .val (.int fr), .val (.int qb), .val (.ref b77), .val (.int sc), .val (.int cc), .val (.ref b94), .val (.int nn), .val (.int (0 : Int32)), .unset, .unset] [(.int (-1 : Int32))]))
    refine own_step (fun _ kc_ => XS.istore X102.here hx rfl (hb hby at_304) rfl (l' := #[.val (.int p1), .val (.int p2), .val (.int p3), .val (.int p4), .val (.int p5), .val (.int p6), .val (.int nn), .val (.int (3 : Int32)), .val (.int fr), .val (.int qb), .val (.ref b77), .val (.int sc), .val (.int cc), .val (.ref b94), .val (.int nn), .val (.int (0 : Int32)), .val (.int (-1 : Int32)), .unset]) rfl (XS.aload X102.here hx rfl (hb hby at_306) rfl rfl kc_)) ?_
    show own_Ends p e below s _ _ _ (T102.setTop (mkF m 308 #[.val (.int p1), .val (.int p2), .val (.int p3), .val (.int p4), .val (.int p5), .val (.int p6), .val (.int nn), .val (.int (3 : Int32)), .val (.int fr), .val (.int qb), .val (.ref b77), .val (.int sc), .val (.int cc), .val (.ref b94), .val (.int nn), .val (.int (0 : Int32)), .val (.int (-1 : Int32)), .unset] [(.ref b94)]))
    obtain ⟨cq103, kq103, q103a, q103b, q103c⟩ := isOf hZ rfl E_b94_102
    obtain ⟨_, _, ⟨T103, L103, k103, n103⟩, -, X103, ⟨Lc103, hQ103, l103, y103, z103⟩, st103⟩ := X102.virtualBack hx (y := (⟨"com/example/wakachi/wakachi/VarInts$Reader", "hasNext", "()Z"⟩ : MethodName)) (z := (⟨"com/example/wakachi/wakachi/VarInts$Reader", "hasNext", "()Z"⟩ : MethodName)) hown (mvT hZ (hw _ (List.mem_of_getElem? (i := 26) rfl))) (mvT hZ (hw _ (List.mem_of_getElem? (i := 27) rfl))) (notFace_of_selects (args := #[]) (mvT hZ (hw _ (List.mem_of_getElem? (i := 29) rfl)))) (mvT hZ (hw _ (List.mem_of_getElem? (i := 29) rfl))) (mvT hZ (hw _ (List.mem_of_getElem? (i := 28) rfl))) (by decide) (backOf (W := 0) (rm5 l Z a0 hw [] b94 (Int32.ofNat (F + 3)) (Int32.ofNat (F + 3)) T102.heap n0 Zs102 fP102 fT102) hZ (hw _ (List.mem_of_getElem? (i := 30) rfl)) (hw _ (List.mem_of_getElem? (i := 8) rfl)) (by decide) (by decide)) q103a q103c (g := (mkF m 308 #[.val (.int p1), .val (.int p2), .val (.int p3), .val (.int p4), .val (.int p5), .val (.int p6), .val (.int nn), .val (.int (3 : Int32)), .val (.int fr), .val (.int qb), .val (.ref b77), .val (.int sc), .val (.int cc), .val (.ref b94), .val (.int nn), .val (.int (0 : Int32)), .val (.int (-1 : Int32)), .unset] [(.ref b94)])) rfl (by rw [hml]; rfl) (Steps.refl _) (argsL := []) (rest := []) (lenOf pd_4 rfl) rfl (by show 2 * 0 + _ ≤ _; exact Nat.le_of_eq rfl) (hb hby at_308) (fun _ _ => ⟨rfl, rfl, (by decide : 2 + 0 ≤ _), (by decide : 12 + 0 ≤ _)⟩)
    dsimp only [Pt.U, Pt.locs, Pt.cells, Pt.slots] at X103 l103 y103 z103 st103 hQ103
    subst y103 z103
    obtain ⟨hv103, N103q, e103⟩ := hQ103
    rw [hh2] at hv103
    subst hv103
    have e103h : T103.heap = T102.heap := e103
    have N103 : Fr n0 L103 := by rw [l103]; exact Fr.app N102 N103q
    refine own_step (fun _ kc_ => st103.trans kc_) ?_
    show own_Ends p e below s _ _ _ (T103.setTop (mkF m 311 #[.val (.int p1), .val (.int p2), .val (.int p3), .val (.int p4), .val (.int p5), .val (.int p6), .val (.int nn), .val (.int (3 : Int32)), .val (.int fr), .val (.int qb), .val (.ref b77), .val (.int sc), .val (.int cc), .val (.ref b94), .val (.int nn), .val (.int (0 : Int32)), .val (.int (-1 : Int32)), .unset] [(.int (0 : Int32))]))
    refine own_step (fun _ kc_ => XS.istore X103.here hx rfl (hb hby at_311) rfl (l' := #[.val (.int p1), .val (.int p2), .val (.int p3), .val (.int p4), .val (.int p5), .val (.int p6), .val (.int nn), .val (.int (3 : Int32)), .val (.int fr), .val (.int qb), .val (.ref b77), .val (.int sc), .val (.int cc), .val (.ref b94), .val (.int nn), .val (.int (0 : Int32)), .val (.int (-1 : Int32)), .val (.int (0 : Int32))]) rfl (XS.iload X103.here hx rfl (hb hby at_313) rfl (XS.iload X103.here hx rfl (hb hby at_315) rfl (XS.icmpYes X103.here hx rfl (pc0 := 317) (pc' := 348) rfl (hb hby at_317) rfl (XT.ii_ge_t (by rw [hcC]; decide : ¬ (cc < (3 : Int32)))) (by decide) (by decide) (XS.iload X103.here hx rfl (hb hby at_348) rfl (XS.iload X103.here hx rfl (hb hby at_350) rfl (XS.icmpNo X103.here hx rfl (hb hby at_352) rfl (XT.ii_ne_f (by rw [hcC]; decide : cc = (3 : Int32))) (XS.iload X103.here hx rfl (hb hby at_355) rfl kc_)))))))) ?_
    show own_Ends p e below s _ _ _ (T103.setTop (mkF m 357 #[.val (.int p1), .val (.int p2), .val (.int p3), .val (.int p4), .val (.int p5), .val (.int p6), .val (.int nn), .val (.int (3 : Int32)), .val (.int fr), .val (.int qb), .val (.ref b77), .val (.int sc), .val (.int cc), .val (.ref b94), .val (.int nn), .val (.int (0 : Int32)), .val (.int (-1 : Int32)), .val (.int (0 : Int32))] [(.int nn)]))
    refine own_step (fun _ kc_ => XS.iload X103.here hx rfl (hb hby at_357) rfl (XS.icmpNo X103.here hx rfl (hb hby at_359) rfl (XT.ii_ne_f (rfl : nn = nn)) (XS.iload X103.here hx rfl (hb hby at_362) rfl (XS.ifNo X103.here hx rfl (hb hby at_364) rfl (XT.i0_ne_f (by decide : (0 : Int32) = 0)) (XS.iload X103.here hx rfl (hb hby at_367) rfl (XS.iconst X103.here hx rfl (hb hby at_369) (XS.icmpNo X103.here hx rfl (hb hby at_370) rfl (XT.ii_ne_f (by decide : (-1 : Int32) = (-1 : Int32))) (XS.iload X103.here hx rfl (hb hby at_373) rfl kc_)))))))) ?_
    show own_Ends p e below s _ _ _ (T103.setTop (mkF m 375 #[.val (.int p1), .val (.int p2), .val (.int p3), .val (.int p4), .val (.int p5), .val (.int p6), .val (.int nn), .val (.int (3 : Int32)), .val (.int fr), .val (.int qb), .val (.ref b77), .val (.int sc), .val (.int cc), .val (.ref b94), .val (.int nn), .val (.int (0 : Int32)), .val (.int (-1 : Int32)), .val (.int (0 : Int32))] [(.int (0 : Int32))]))
    refine own_step (fun _ kc_ => XS.ifNo X103.here hx rfl (hb hby at_375) rfl (XT.i0_ne_f (by decide : (0 : Int32) = 0)) (XS.iconst X103.here hx rfl (hb hby at_378) (XS.goto X103.here hx rfl (pc0 := 379) (pc' := 383) rfl (hb hby at_379) (by decide) (by decide) kc_))) ?_
    show own_Ends p e below s _ _ _ (T103.setTop (mkF m 383 #[.val (.int p1), .val (.int p2), .val (.int p3), .val (.int p4), .val (.int p5), .val (.int p6), .val (.int nn), .val (.int (3 : Int32)), .val (.int fr), .val (.int qb), .val (.ref b77), .val (.int sc), .val (.int cc), .val (.ref b94), .val (.int nn), .val (.int (0 : Int32)), .val (.int (-1 : Int32)), .val (.int (0 : Int32))] [(.int (1 : Int32))]))
    exact own_retN X103 hx (t := .boolean) hret (by simp) hlk (hb hby at_383) (by decide) (by decide) rfl ⟨rfl, N103⟩
  · subst hC1
    have hx1 : own_nx vs F 0 0 4 = (nn, F + 3) := own_run3 vs F 1 nn hn0 hn1 hb0 hb1 hb2
    have hs := own_sec p5
    rw [hsc, ← hb3] at hs
    have hx2 : own_nx vs (F + 3) 0 0 1 = (sc, F + 4) := by
      rw [own_nxF hs.1, hs.2, own_or0]
    have hh1 := own_hasLt (F + 3) (by omega)
    have hh2 := own_hasEq (F + 4)
    show own_Ends p e below s _ _ _ (T95.setTop (mkF m 285 #[.val (.int p1), .val (.int p2), .val (.int p3), .val (.int p4), .val (.int p5), .val (.int p6), .val (.int nn), .val (.int (3 : Int32)), .val (.int fr), .val (.int qb), .val (.ref b77), .val (.int sc), .val (.int cc), .val (.ref b94), .unset, .unset, .unset, .unset] []))
    refine own_step (fun _ kc_ => XS.aload X95.here hx rfl (hb hby at_285) rfl rfl kc_) ?_
    show own_Ends p e below s _ _ _ (T95.setTop (mkF m 287 #[.val (.int p1), .val (.int p2), .val (.int p3), .val (.int p4), .val (.int p5), .val (.int p6), .val (.int nn), .val (.int (3 : Int32)), .val (.int fr), .val (.int qb), .val (.ref b77), .val (.int sc), .val (.int cc), .val (.ref b94), .unset, .unset, .unset, .unset] [(.ref b94)]))
    obtain ⟨cq104, kq104, q104a, q104b, q104c⟩ := isOf hZ rfl E_b94_95
    obtain ⟨_, _, ⟨T104, L104, k104, n104⟩, -, X104, ⟨Lc104, hQ104, l104, y104, z104⟩, st104⟩ := X95.virtualBack hx (y := (⟨"com/example/wakachi/wakachi/VarInts$Reader", "next", "()I"⟩ : MethodName)) (z := (⟨"com/example/wakachi/wakachi/VarInts$Reader", "next", "()I"⟩ : MethodName)) hown (mvT hZ (hw _ (List.mem_of_getElem? (i := 21) rfl))) (mvT hZ (hw _ (List.mem_of_getElem? (i := 22) rfl))) (notFace_of_selects (args := #[]) (mvT hZ (hw _ (List.mem_of_getElem? (i := 24) rfl)))) (mvT hZ (hw _ (List.mem_of_getElem? (i := 24) rfl))) (mvT hZ (hw _ (List.mem_of_getElem? (i := 23) rfl))) (by decide) (backOf (W := 0) (rm4 l Z a0 hw [] b94 b77 vs F 4 T95.heap n0 Zs95 E_b94_95 fB95 fP95 fT95 A_b77_95 hints (by rw [hlen]; omega) n0_b94 (Ne.symm ne_b77_b94)) hZ (hw _ (List.mem_of_getElem? (i := 25) rfl)) (hw _ (List.mem_of_getElem? (i := 8) rfl)) (by decide) (by decide)) q104a q104c (g := (mkF m 287 #[.val (.int p1), .val (.int p2), .val (.int p3), .val (.int p4), .val (.int p5), .val (.int p6), .val (.int nn), .val (.int (3 : Int32)), .val (.int fr), .val (.int qb), .val (.ref b77), .val (.int sc), .val (.int cc), .val (.ref b94), .unset, .unset, .unset, .unset] [(.ref b94)])) rfl (by rw [hml]; rfl) (Steps.refl _) (argsL := []) (rest := []) (lenOf pd_3 rfl) rfl (by show 2 * 0 + _ ≤ _; exact Nat.le_of_eq rfl) (hb hby at_287) (fun _ _ => ⟨rfl, rfl, (by decide : 2 + 0 ≤ _), (by decide : 12 + 0 ≤ _)⟩)
    dsimp only [Pt.U, Pt.locs, Pt.cells, Pt.slots] at X104 l104 y104 z104 st104 hQ104
    subst y104 z104
    obtain ⟨hv104, N104q, K104k, fP104, fB104, fT104⟩ := hQ104
    rw [hx1] at hv104 fP104
    subst hv104
    have A_b77_104 := (A_b77_95).keep K104k (ninS ne_b77_b94 nin0)
    have E_b94_104 := (E_b94_95).keep K104k
    have Zs104 := Nat.le_trans Zs95 K104k.1
    have N104 : Fr n0 L104 := by rw [l104]; exact Fr.app N95 N104q
    refine own_step (fun _ kc_ => st104.trans kc_) ?_
    show own_Ends p e below s _ _ _ (T104.setTop (mkF m 290 #[.val (.int p1), .val (.int p2), .val (.int p3), .val (.int p4), .val (.int p5), .val (.int p6), .val (.int nn), .val (.int (3 : Int32)), .val (.int fr), .val (.int qb), .val (.ref b77), .val (.int sc), .val (.int cc), .val (.ref b94), .unset, .unset, .unset, .unset] [(.int nn)]))
    refine own_step (fun _ kc_ => XS.istore X104.here hx rfl (hb hby at_290) rfl (l' := #[.val (.int p1), .val (.int p2), .val (.int p3), .val (.int p4), .val (.int p5), .val (.int p6), .val (.int nn), .val (.int (3 : Int32)), .val (.int fr), .val (.int qb), .val (.ref b77), .val (.int sc), .val (.int cc), .val (.ref b94), .val (.int nn), .unset, .unset, .unset]) rfl (XS.aload X104.here hx rfl (hb hby at_292) rfl rfl kc_)) ?_
    show own_Ends p e below s _ _ _ (T104.setTop (mkF m 294 #[.val (.int p1), .val (.int p2), .val (.int p3), .val (.int p4), .val (.int p5), .val (.int p6), .val (.int nn), .val (.int (3 : Int32)), .val (.int fr), .val (.int qb), .val (.ref b77), .val (.int sc), .val (.int cc), .val (.ref b94), .val (.int nn), .unset, .unset, .unset] [(.ref b94)]))
    obtain ⟨cq105, kq105, q105a, q105b, q105c⟩ := isOf hZ rfl E_b94_104
    obtain ⟨_, _, ⟨T105, L105, k105, n105⟩, -, X105, ⟨Lc105, hQ105, l105, y105, z105⟩, st105⟩ := X104.virtualBack hx (y := (⟨"com/example/wakachi/wakachi/VarInts$Reader", "hasNext", "()Z"⟩ : MethodName)) (z := (⟨"com/example/wakachi/wakachi/VarInts$Reader", "hasNext", "()Z"⟩ : MethodName)) hown (mvT hZ (hw _ (List.mem_of_getElem? (i := 26) rfl))) (mvT hZ (hw _ (List.mem_of_getElem? (i := 27) rfl))) (notFace_of_selects (args := #[]) (mvT hZ (hw _ (List.mem_of_getElem? (i := 29) rfl)))) (mvT hZ (hw _ (List.mem_of_getElem? (i := 29) rfl))) (mvT hZ (hw _ (List.mem_of_getElem? (i := 28) rfl))) (by decide) (backOf (W := 0) (rm5 l Z a0 hw [] b94 (Int32.ofNat (F + 3)) (Int32.ofNat (F + 4)) T104.heap n0 Zs104 fP104 fT104) hZ (hw _ (List.mem_of_getElem? (i := 30) rfl)) (hw _ (List.mem_of_getElem? (i := 8) rfl)) (by decide) (by decide)) q105a q105c (g := (mkF m 294 #[.val (.int p1), .val (.int p2), .val (.int p3), .val (.int p4), .val (.int p5), .val (.int p6), .val (.int nn), .val (.int (3 : Int32)), .val (.int fr), .val (.int qb), .val (.ref b77), .val (.int sc), .val (.int cc), .val (.ref b94), .val (.int nn), .unset, .unset, .unset] [(.ref b94)])) rfl (by rw [hml]; rfl) (Steps.refl _) (argsL := []) (rest := []) (lenOf pd_4 rfl) rfl (by show 2 * 0 + _ ≤ _; exact Nat.le_of_eq rfl) (hb hby at_294) (fun _ _ => ⟨rfl, rfl, (by decide : 2 + 0 ≤ _), (by decide : 12 + 0 ≤ _)⟩)
    dsimp only [Pt.U, Pt.locs, Pt.cells, Pt.slots] at X105 l105 y105 z105 st105 hQ105
    subst y105 z105
    obtain ⟨hv105, N105q, e105⟩ := hQ105
    rw [hh1] at hv105
    subst hv105
    have e105h : T105.heap = T104.heap := e105
    have N105 : Fr n0 L105 := by rw [l105]; exact Fr.app N104 N105q
    refine own_step (fun _ kc_ => st105.trans kc_) ?_
    show own_Ends p e below s _ _ _ (T105.setTop (mkF m 297 #[.val (.int p1), .val (.int p2), .val (.int p3), .val (.int p4), .val (.int p5), .val (.int p6), .val (.int nn), .val (.int (3 : Int32)), .val (.int fr), .val (.int qb), .val (.ref b77), .val (.int sc), .val (.int cc), .val (.ref b94), .val (.int nn), .unset, .unset, .unset] [(.int (1 : Int32))]))
    refine own_step (fun _ kc_ => XS.istore X105.here hx rfl (hb hby at_297) rfl (l' := #[.val (.int p1), .val (.int p2), .val (.int p3), .val (.int p4), .val (.int p5), .val (.int p6), .val (.int nn), .val (.int (3 : Int32)), .val (.int fr), .val (.int qb), .val (.ref b77), .val (.int sc), .val (.int cc), .val (.ref b94), .val (.int nn), .val (.int (1 : Int32)), .unset, .unset]) rfl (XS.aload X105.here hx rfl (hb hby at_299) rfl rfl kc_)) ?_
    show own_Ends p e below s _ _ _ (T105.setTop (mkF m 301 #[.val (.int p1), .val (.int p2), .val (.int p3), .val (.int p4), .val (.int p5), .val (.int p6), .val (.int nn), .val (.int (3 : Int32)), .val (.int fr), .val (.int qb), .val (.ref b77), .val (.int sc), .val (.int cc), .val (.ref b94), .val (.int nn), .val (.int (1 : Int32)), .unset, .unset] [(.ref b94)]))
    obtain ⟨cq106, kq106, q106a, q106b, q106c⟩ := isOf hZ e105h E_b94_104
    obtain ⟨_, _, ⟨T106, L106, k106, n106⟩, -, X106, ⟨Lc106, hQ106, l106, y106, z106⟩, st106⟩ := X105.virtualBack hx (y := (⟨"com/example/wakachi/wakachi/VarInts$Reader", "next", "()I"⟩ : MethodName)) (z := (⟨"com/example/wakachi/wakachi/VarInts$Reader", "next", "()I"⟩ : MethodName)) hown (mvT hZ (hw _ (List.mem_of_getElem? (i := 21) rfl))) (mvT hZ (hw _ (List.mem_of_getElem? (i := 22) rfl))) (notFace_of_selects (args := #[]) (mvT hZ (hw _ (List.mem_of_getElem? (i := 24) rfl)))) (mvT hZ (hw _ (List.mem_of_getElem? (i := 24) rfl))) (mvT hZ (hw _ (List.mem_of_getElem? (i := 23) rfl))) (by decide) (backOf (W := 0) (rm4 l Z a0 hw [] b94 b77 vs (F + 3) 1 T104.heap n0 Zs104 E_b94_104 fB104 fP104 fT104 A_b77_104 hints (by rw [hlen]; omega) n0_b94 (Ne.symm ne_b77_b94)) hZ (hw _ (List.mem_of_getElem? (i := 25) rfl)) (hw _ (List.mem_of_getElem? (i := 8) rfl)) (by decide) (by decide)) q106a q106c (g := (mkF m 301 #[.val (.int p1), .val (.int p2), .val (.int p3), .val (.int p4), .val (.int p5), .val (.int p6), .val (.int nn), .val (.int (3 : Int32)), .val (.int fr), .val (.int qb), .val (.ref b77), .val (.int sc), .val (.int cc), .val (.ref b94), .val (.int nn), .val (.int (1 : Int32)), .unset, .unset] [(.ref b94)])) rfl (by rw [hml]; rfl) (Steps.refl _) (argsL := []) (rest := []) (lenOf pd_3 rfl) rfl (by show 2 * 0 + _ ≤ _; exact Nat.le_of_eq rfl) (hb hby at_301) (fun _ _ => ⟨rfl, e105h, (by decide : 2 + 0 ≤ _), (by decide : 12 + 0 ≤ _)⟩)
    dsimp only [Pt.U, Pt.locs, Pt.cells, Pt.slots] at X106 l106 y106 z106 st106 hQ106
    subst y106 z106
    obtain ⟨hv106, N106q, K106k, fP106, fB106, fT106⟩ := hQ106
    rw [hx2] at hv106 fP106
    subst hv106
    have A_b77_106 := (A_b77_104).keep K106k (ninS ne_b77_b94 nin0)
    have E_b94_106 := (E_b94_104).keep K106k
    have Zs106 := Nat.le_trans Zs104 K106k.1
    have N106 : Fr n0 L106 := by rw [l106]; exact Fr.app N105 N106q
    refine own_step (fun _ kc_ => st106.trans kc_) ?_
    show own_Ends p e below s _ _ _ (T106.setTop (mkF m 304 #[.val (.int p1), .val (.int p2), .val (.int p3), .val (.int p4), .val (.int p5), .val (.int p6), .val (.int nn), .val (.int (3 : Int32)), .val (.int fr), .val (.int qb), .val (.ref b77), .val (.int sc), .val (.int cc), .val (.ref b94), .val (.int nn), .val (.int (1 : Int32)), .unset, .unset] [(.int sc)]))
    refine own_step (fun _ kc_ => XS.istore X106.here hx rfl (hb hby at_304) rfl (l' := #[.val (.int p1), .val (.int p2), .val (.int p3), .val (.int p4), .val (.int p5), .val (.int p6), .val (.int nn), .val (.int (3 : Int32)), .val (.int fr), .val (.int qb), .val (.ref b77), .val (.int sc), .val (.int cc), .val (.ref b94), .val (.int nn), .val (.int (1 : Int32)), .val (.int sc), .unset]) rfl (XS.aload X106.here hx rfl (hb hby at_306) rfl rfl kc_)) ?_
    show own_Ends p e below s _ _ _ (T106.setTop (mkF m 308 #[.val (.int p1), .val (.int p2), .val (.int p3), .val (.int p4), .val (.int p5), .val (.int p6), .val (.int nn), .val (.int (3 : Int32)), .val (.int fr), .val (.int qb), .val (.ref b77), .val (.int sc), .val (.int cc), .val (.ref b94), .val (.int nn), .val (.int (1 : Int32)), .val (.int sc), .unset] [(.ref b94)]))
    obtain ⟨cq107, kq107, q107a, q107b, q107c⟩ := isOf hZ rfl E_b94_106
    obtain ⟨_, _, ⟨T107, L107, k107, n107⟩, -, X107, ⟨Lc107, hQ107, l107, y107, z107⟩, st107⟩ := X106.virtualBack hx (y := (⟨"com/example/wakachi/wakachi/VarInts$Reader", "hasNext", "()Z"⟩ : MethodName)) (z := (⟨"com/example/wakachi/wakachi/VarInts$Reader", "hasNext", "()Z"⟩ : MethodName)) hown (mvT hZ (hw _ (List.mem_of_getElem? (i := 26) rfl))) (mvT hZ (hw _ (List.mem_of_getElem? (i := 27) rfl))) (notFace_of_selects (args := #[]) (mvT hZ (hw _ (List.mem_of_getElem? (i := 29) rfl)))) (mvT hZ (hw _ (List.mem_of_getElem? (i := 29) rfl))) (mvT hZ (hw _ (List.mem_of_getElem? (i := 28) rfl))) (by decide) (backOf (W := 0) (rm5 l Z a0 hw [] b94 (Int32.ofNat (F + 4)) (Int32.ofNat (F + 4)) T106.heap n0 Zs106 fP106 fT106) hZ (hw _ (List.mem_of_getElem? (i := 30) rfl)) (hw _ (List.mem_of_getElem? (i := 8) rfl)) (by decide) (by decide)) q107a q107c (g := (mkF m 308 #[.val (.int p1), .val (.int p2), .val (.int p3), .val (.int p4), .val (.int p5), .val (.int p6), .val (.int nn), .val (.int (3 : Int32)), .val (.int fr), .val (.int qb), .val (.ref b77), .val (.int sc), .val (.int cc), .val (.ref b94), .val (.int nn), .val (.int (1 : Int32)), .val (.int sc), .unset] [(.ref b94)])) rfl (by rw [hml]; rfl) (Steps.refl _) (argsL := []) (rest := []) (lenOf pd_4 rfl) rfl (by show 2 * 0 + _ ≤ _; exact Nat.le_of_eq rfl) (hb hby at_308) (fun _ _ => ⟨rfl, rfl, (by decide : 2 + 0 ≤ _), (by decide : 12 + 0 ≤ _)⟩)
    dsimp only [Pt.U, Pt.locs, Pt.cells, Pt.slots] at X107 l107 y107 z107 st107 hQ107
    subst y107 z107
    obtain ⟨hv107, N107q, e107⟩ := hQ107
    rw [hh2] at hv107
    subst hv107
    have e107h : T107.heap = T106.heap := e107
    have N107 : Fr n0 L107 := by rw [l107]; exact Fr.app N106 N107q
    refine own_step (fun _ kc_ => st107.trans kc_) ?_
    show own_Ends p e below s _ _ _ (T107.setTop (mkF m 311 #[.val (.int p1), .val (.int p2), .val (.int p3), .val (.int p4), .val (.int p5), .val (.int p6), .val (.int nn), .val (.int (3 : Int32)), .val (.int fr), .val (.int qb), .val (.ref b77), .val (.int sc), .val (.int cc), .val (.ref b94), .val (.int nn), .val (.int (1 : Int32)), .val (.int sc), .unset] [(.int (0 : Int32))]))
    refine own_step (fun _ kc_ => XS.istore X107.here hx rfl (hb hby at_311) rfl (l' := #[.val (.int p1), .val (.int p2), .val (.int p3), .val (.int p4), .val (.int p5), .val (.int p6), .val (.int nn), .val (.int (3 : Int32)), .val (.int fr), .val (.int qb), .val (.ref b77), .val (.int sc), .val (.int cc), .val (.ref b94), .val (.int nn), .val (.int (1 : Int32)), .val (.int sc), .val (.int (0 : Int32))]) rfl (XS.iload X107.here hx rfl (hb hby at_313) rfl (XS.iload X107.here hx rfl (hb hby at_315) rfl (XS.icmpYes X107.here hx rfl (pc0 := 317) (pc' := 348) rfl (hb hby at_317) rfl (XT.ii_ge_t (by rw [hcC]; decide : ¬ (cc < (3 : Int32)))) (by decide) (by decide) (XS.iload X107.here hx rfl (hb hby at_348) rfl (XS.iload X107.here hx rfl (hb hby at_350) rfl (XS.icmpYes X107.here hx rfl (pc0 := 352) (pc' := 384) rfl (hb hby at_352) rfl (XT.ii_ne_t (by rw [hcC]; decide : ¬ (cc = (3 : Int32)))) (by decide) (by decide) (XS.iload X107.here hx rfl (hb hby at_384) rfl kc_)))))))) ?_
    show own_Ends p e below s _ _ _ (T107.setTop (mkF m 386 #[.val (.int p1), .val (.int p2), .val (.int p3), .val (.int p4), .val (.int p5), .val (.int p6), .val (.int nn), .val (.int (3 : Int32)), .val (.int fr), .val (.int qb), .val (.ref b77), .val (.int sc), .val (.int cc), .val (.ref b94), .val (.int nn), .val (.int (1 : Int32)), .val (.int sc), .val (.int (0 : Int32))] [(.int nn)]))
    refine own_step (fun _ kc_ => XS.iload X107.here hx rfl (hb hby at_386) rfl (XS.icmpNo X107.here hx rfl (hb hby at_388) rfl (XT.ii_ne_f (rfl : nn = nn)) (XS.iload X107.here hx rfl (hb hby at_391) rfl (XS.ifNo X107.here hx rfl (hb hby at_393) rfl (XT.i0_eq_f (by decide : ¬ ((1 : Int32) = 0))) (XS.iload X107.here hx rfl (hb hby at_396) rfl (XS.iload X107.here hx rfl (hb hby at_398) rfl (XS.icmpNo X107.here hx rfl (hb hby at_400) rfl (XT.ii_ne_f (rfl : sc = sc)) (XS.iload X107.here hx rfl (hb hby at_403) rfl kc_)))))))) ?_
    show own_Ends p e below s _ _ _ (T107.setTop (mkF m 405 #[.val (.int p1), .val (.int p2), .val (.int p3), .val (.int p4), .val (.int p5), .val (.int p6), .val (.int nn), .val (.int (3 : Int32)), .val (.int fr), .val (.int qb), .val (.ref b77), .val (.int sc), .val (.int cc), .val (.ref b94), .val (.int nn), .val (.int (1 : Int32)), .val (.int sc), .val (.int (0 : Int32))] [(.int (0 : Int32))]))
    refine own_step (fun _ kc_ => XS.ifNo X107.here hx rfl (hb hby at_405) rfl (XT.i0_ne_f (by decide : (0 : Int32) = 0)) (XS.iconst X107.here hx rfl (hb hby at_408) (XS.goto X107.here hx rfl (pc0 := 409) (pc' := 413) rfl (hb hby at_409) (by decide) (by decide) kc_))) ?_
    show own_Ends p e below s _ _ _ (T107.setTop (mkF m 413 #[.val (.int p1), .val (.int p2), .val (.int p3), .val (.int p4), .val (.int p5), .val (.int p6), .val (.int nn), .val (.int (3 : Int32)), .val (.int fr), .val (.int qb), .val (.ref b77), .val (.int sc), .val (.int cc), .val (.ref b94), .val (.int nn), .val (.int (1 : Int32)), .val (.int sc), .val (.int (0 : Int32))] [(.int (1 : Int32))]))
    exact own_retN X107 hx (t := .boolean) hret (by simp) hlk (hb hby at_413) (by decide) (by decide) rfl ⟨rfl, N107⟩
set_option maxRecDepth 65536 in
set_option maxHeartbeats 40000000 in
theorem seg_4 {p : Program} {l : Launch} {e : Env} {s : State} {m : MethodId} {below : List Frame} {meth : Method} {c : Code} {Z : State} {a0 : Array Value} (hw : ∀ d ∈ tables_1, d.before a0 Z = true) (hZ : Z.Warmed39 s.vm) (hx : p.tables.exec = Jvm.exec) (hby : c.code = code) (hlk : meth.locks = false) (hret : meth.sig.returnType = some .boolean) (hml : c.maxLocals = 18) (hown : s.vm.findClass "com/example/wakachi/wakachi/ReaderNextPinLaw" = some m.cls) (p1 : Int32) (p2 : Int32) (p3 : Int32) (p4 : Int32) (p5 : Int32) (p6 : Int32)  {h0 : Heap} {n0 : Nat} {nn fr qb : Int32} (F : Nat) (hF : F ≤ 3) (hfr : fr = Int32.ofNat F) (hn0 : 0 ≤ nn.toInt) (hn1 : nn.toInt < 2 ^ 28) {h : Heap}  :
    ∀ {T : State} {locs : List Loc} {cells slots : Nat} (X : Stand p l e room_1 s m #[(.int p1), (.int p2), (.int p3), (.int p4), (.int p5), (.int p6)] below meth c T locs cells slots) (e0 : T.heap = h) (N0 : Fr n0 locs) (Z0 : n0 ≤ h.size) (hcs : cells = 0) (hsl : slots = 0), own_Ends p e below s 16 128 (Q0 Z p1 p2 p3 p4 p5 p6  h0 n0) (T.setTop (mkF m 78 #[.val (.int p1), .val (.int p2), .val (.int p3), .val (.int p4), .val (.int p5), .val (.int p6), .val (.int nn), .val (.int (4 : Int32)), .val (.int fr), .val (.int qb), .unset, .unset, .unset, .unset, .unset, .unset, .unset, .unset] [])) := by
  intro T locs cells slots X e0 N0 Z0 hcs hsl
  subst hcs hsl
  show own_Ends p e below s _ _ _ (T.setTop (mkF m 78 #[.val (.int p1), .val (.int p2), .val (.int p3), .val (.int p4), .val (.int p5), .val (.int p6), .val (.int nn), .val (.int (4 : Int32)), .val (.int fr), .val (.int qb), .unset, .unset, .unset, .unset, .unset, .unset, .unset, .unset] []))
  refine own_step (fun _ kc_ => XS.bipush X.here hx rfl (hb hby at_78) kc_) ?_
  show own_Ends p e below s _ _ _ (T.setTop (mkF m 80 #[.val (.int p1), .val (.int p2), .val (.int p3), .val (.int p4), .val (.int p5), .val (.int p6), .val (.int nn), .val (.int (4 : Int32)), .val (.int fr), .val (.int qb), .unset, .unset, .unset, .unset, .unset, .unset, .unset, .unset] [(.int (9 : Int32))]))
  obtain ⟨T108, h108, k108, X108, e108, E108, A108, st108⟩ := newP X hx hZ (hw _ (List.mem_of_getElem? (i := 1) rfl)) e0 (g := (mkF m 80 #[.val (.int p1), .val (.int p2), .val (.int p3), .val (.int p4), .val (.int p5), .val (.int p6), .val (.int nn), .val (.int (4 : Int32)), .val (.int fr), .val (.int qb), .unset, .unset, .unset, .unset, .unset, .unset, .unset, .unset] [(.int (9 : Int32))])) rfl (hb hby at_80) rfl (by decide) (cap := 9) (by decide) (by decide) (by decide : 0 + 1 ≤ _) (by decide : 0 + 9 ≤ _)
  obtain ⟨b108, g108⟩ : ∃ z, z = h.size := ⟨_, rfl⟩
  rw [← g108] at A108 st108
  have n0_b108 : n0 ≤ b108 := Nat.le_trans Z0 (Nat.le_of_eq g108.symm)
  have Zs108 := Nat.le_trans Z0 E108.1
  have A_b108 : own_Ar Z h108 b108 .byte [(.int (0 : Int32)), (.int (0 : Int32)), (.int (0 : Int32)), (.int (0 : Int32)), (.int (0 : Int32)), (.int (0 : Int32)), (.int (0 : Int32)), (.int (0 : Int32)), (.int (0 : Int32))] := own_Ar.new A108 (by decide)
  refine own_step (fun _ kc_ => st108 _ kc_) ?_
  show own_Ends p e below s _ _ _ (T108.setTop (mkF m 82 #[.val (.int p1), .val (.int p2), .val (.int p3), .val (.int p4), .val (.int p5), .val (.int p6), .val (.int nn), .val (.int (4 : Int32)), .val (.int fr), .val (.int qb), .unset, .unset, .unset, .unset, .unset, .unset, .unset, .unset] [(.ref b108)]))
  refine own_step (fun _ kc_ => XS.astore X108.here hx rfl (hb hby at_82) rfl rfl (l' := #[.val (.int p1), .val (.int p2), .val (.int p3), .val (.int p4), .val (.int p5), .val (.int p6), .val (.int nn), .val (.int (4 : Int32)), .val (.int fr), .val (.int qb), .val (.ref b108), .unset, .unset, .unset, .unset, .unset, .unset, .unset]) rfl (XS.aload X108.here hx rfl (hb hby at_84) rfl rfl (XS.iconst X108.here hx rfl (hb hby at_86) (XS.iload X108.here hx rfl (hb hby at_87) rfl kc_)))) ?_
  show own_Ends p e below s _ _ _ (T108.setTop (mkF m 89 #[.val (.int p1), .val (.int p2), .val (.int p3), .val (.int p4), .val (.int p5), .val (.int p6), .val (.int nn), .val (.int (4 : Int32)), .val (.int fr), .val (.int qb), .val (.ref b108), .unset, .unset, .unset, .unset, .unset, .unset, .unset] [(.int qb), (.int (0 : Int32)), (.ref b108)]))
  obtain ⟨T109, h109, X109, e109, W109, A109, st109⟩ := own_bastore X108 hx hZ e108 A_b108 (j := (0 : Int32)) (x := qb) (by decide) (i := 0) rfl (Nat.le_of_ble_eq_true rfl) (Ls := #[.val (.int p1), .val (.int p2), .val (.int p3), .val (.int p4), .val (.int p5), .val (.int p6), .val (.int nn), .val (.int (4 : Int32)), .val (.int fr), .val (.int qb), .val (.ref b108), .unset, .unset, .unset, .unset, .unset, .unset, .unset]) (st := []) (hb hby at_89)
  have A_b108_109 : own_Ar Z h109 b108 .byte [(.int (nar .byte qb)), (.int (0 : Int32)), (.int (0 : Int32)), (.int (0 : Int32)), (.int (0 : Int32)), (.int (0 : Int32)), (.int (0 : Int32)), (.int (0 : Int32)), (.int (0 : Int32))] := A109
  have Zs109 := Nat.le_trans Zs108 (Nat.le_of_eq W109.size.symm)
  have N109 := Fr.snoc X109 N0 n0_b108
  refine own_step (fun _ kc_ => st109 _ kc_) ?_
  show own_Ends p e below s _ _ _ (T109.setTop (mkF m 90 #[.val (.int p1), .val (.int p2), .val (.int p3), .val (.int p4), .val (.int p5), .val (.int p6), .val (.int nn), .val (.int (4 : Int32)), .val (.int fr), .val (.int qb), .val (.ref b108), .unset, .unset, .unset, .unset, .unset, .unset, .unset] []))
  refine own_step (fun _ kc_ => XS.aload X109.here hx rfl (hb hby at_90) rfl rfl (XS.iconst X109.here hx rfl (hb hby at_92) (XS.iload X109.here hx rfl (hb hby at_93) rfl kc_))) ?_
  show own_Ends p e below s _ _ _ (T109.setTop (mkF m 95 #[.val (.int p1), .val (.int p2), .val (.int p3), .val (.int p4), .val (.int p5), .val (.int p6), .val (.int nn), .val (.int (4 : Int32)), .val (.int fr), .val (.int qb), .val (.ref b108), .unset, .unset, .unset, .unset, .unset, .unset, .unset] [(.int qb), (.int (1 : Int32)), (.ref b108)]))
  obtain ⟨T110, h110, X110, e110, W110, A110, st110⟩ := own_bastore X109 hx hZ e109 A_b108_109 (j := (1 : Int32)) (x := qb) (by decide) (i := 1) rfl (Nat.le_of_ble_eq_true rfl) (Ls := #[.val (.int p1), .val (.int p2), .val (.int p3), .val (.int p4), .val (.int p5), .val (.int p6), .val (.int nn), .val (.int (4 : Int32)), .val (.int fr), .val (.int qb), .val (.ref b108), .unset, .unset, .unset, .unset, .unset, .unset, .unset]) (st := []) (hb hby at_95)
  have A_b108_110 : own_Ar Z h110 b108 .byte [(.int (nar .byte qb)), (.int (nar .byte qb)), (.int (0 : Int32)), (.int (0 : Int32)), (.int (0 : Int32)), (.int (0 : Int32)), (.int (0 : Int32)), (.int (0 : Int32)), (.int (0 : Int32))] := A110
  have Zs110 := Nat.le_trans Zs109 (Nat.le_of_eq W110.size.symm)
  have N110 := Fr.snoc X110 N109 n0_b108
  refine own_step (fun _ kc_ => st110 _ kc_) ?_
  show own_Ends p e below s _ _ _ (T110.setTop (mkF m 96 #[.val (.int p1), .val (.int p2), .val (.int p3), .val (.int p4), .val (.int p5), .val (.int p6), .val (.int nn), .val (.int (4 : Int32)), .val (.int fr), .val (.int qb), .val (.ref b108), .unset, .unset, .unset, .unset, .unset, .unset, .unset] []))
  refine own_step (fun _ kc_ => XS.aload X110.here hx rfl (hb hby at_96) rfl rfl (XS.iconst X110.here hx rfl (hb hby at_98) (XS.iload X110.here hx rfl (hb hby at_99) rfl kc_))) ?_
  show own_Ends p e below s _ _ _ (T110.setTop (mkF m 101 #[.val (.int p1), .val (.int p2), .val (.int p3), .val (.int p4), .val (.int p5), .val (.int p6), .val (.int nn), .val (.int (4 : Int32)), .val (.int fr), .val (.int qb), .val (.ref b108), .unset, .unset, .unset, .unset, .unset, .unset, .unset] [(.int qb), (.int (2 : Int32)), (.ref b108)]))
  obtain ⟨T111, h111, X111, e111, W111, A111, st111⟩ := own_bastore X110 hx hZ e110 A_b108_110 (j := (2 : Int32)) (x := qb) (by decide) (i := 2) rfl (Nat.le_of_ble_eq_true rfl) (Ls := #[.val (.int p1), .val (.int p2), .val (.int p3), .val (.int p4), .val (.int p5), .val (.int p6), .val (.int nn), .val (.int (4 : Int32)), .val (.int fr), .val (.int qb), .val (.ref b108), .unset, .unset, .unset, .unset, .unset, .unset, .unset]) (st := []) (hb hby at_101)
  have A_b108_111 : own_Ar Z h111 b108 .byte [(.int (nar .byte qb)), (.int (nar .byte qb)), (.int (nar .byte qb)), (.int (0 : Int32)), (.int (0 : Int32)), (.int (0 : Int32)), (.int (0 : Int32)), (.int (0 : Int32)), (.int (0 : Int32))] := A111
  have Zs111 := Nat.le_trans Zs110 (Nat.le_of_eq W111.size.symm)
  have N111 := Fr.snoc X111 N110 n0_b108
  refine own_step (fun _ kc_ => st111 _ kc_) ?_
  show own_Ends p e below s _ _ _ (T111.setTop (mkF m 102 #[.val (.int p1), .val (.int p2), .val (.int p3), .val (.int p4), .val (.int p5), .val (.int p6), .val (.int nn), .val (.int (4 : Int32)), .val (.int fr), .val (.int qb), .val (.ref b108), .unset, .unset, .unset, .unset, .unset, .unset, .unset] []))
  refine own_step (fun _ kc_ => XS.aload X111.here hx rfl (hb hby at_102) rfl rfl (XS.iconst X111.here hx rfl (hb hby at_104) (XS.iload X111.here hx rfl (hb hby at_105) rfl kc_))) ?_
  show own_Ends p e below s _ _ _ (T111.setTop (mkF m 107 #[.val (.int p1), .val (.int p2), .val (.int p3), .val (.int p4), .val (.int p5), .val (.int p6), .val (.int nn), .val (.int (4 : Int32)), .val (.int fr), .val (.int qb), .val (.ref b108), .unset, .unset, .unset, .unset, .unset, .unset, .unset] [(.int qb), (.int (3 : Int32)), (.ref b108)]))
  obtain ⟨T112, h112, X112, e112, W112, A112, st112⟩ := own_bastore X111 hx hZ e111 A_b108_111 (j := (3 : Int32)) (x := qb) (by decide) (i := 3) rfl (Nat.le_of_ble_eq_true rfl) (Ls := #[.val (.int p1), .val (.int p2), .val (.int p3), .val (.int p4), .val (.int p5), .val (.int p6), .val (.int nn), .val (.int (4 : Int32)), .val (.int fr), .val (.int qb), .val (.ref b108), .unset, .unset, .unset, .unset, .unset, .unset, .unset]) (st := []) (hb hby at_107)
  have A_b108_112 : own_Ar Z h112 b108 .byte [(.int (nar .byte qb)), (.int (nar .byte qb)), (.int (nar .byte qb)), (.int (nar .byte qb)), (.int (0 : Int32)), (.int (0 : Int32)), (.int (0 : Int32)), (.int (0 : Int32)), (.int (0 : Int32))] := A112
  have Zs112 := Nat.le_trans Zs111 (Nat.le_of_eq W112.size.symm)
  have N112 := Fr.snoc X112 N111 n0_b108
  refine own_step (fun _ kc_ => st112 _ kc_) ?_
  show own_Ends p e below s _ _ _ (T112.setTop (mkF m 108 #[.val (.int p1), .val (.int p2), .val (.int p3), .val (.int p4), .val (.int p5), .val (.int p6), .val (.int nn), .val (.int (4 : Int32)), .val (.int fr), .val (.int qb), .val (.ref b108), .unset, .unset, .unset, .unset, .unset, .unset, .unset] []))
  refine own_step (fun _ kc_ => XS.aload X112.here hx rfl (hb hby at_108) rfl rfl (XS.iconst X112.here hx rfl (hb hby at_110) (XS.iload X112.here hx rfl (hb hby at_111) rfl kc_))) ?_
  show own_Ends p e below s _ _ _ (T112.setTop (mkF m 113 #[.val (.int p1), .val (.int p2), .val (.int p3), .val (.int p4), .val (.int p5), .val (.int p6), .val (.int nn), .val (.int (4 : Int32)), .val (.int fr), .val (.int qb), .val (.ref b108), .unset, .unset, .unset, .unset, .unset, .unset, .unset] [(.int qb), (.int (4 : Int32)), (.ref b108)]))
  obtain ⟨T113, h113, X113, e113, W113, A113, st113⟩ := own_bastore X112 hx hZ e112 A_b108_112 (j := (4 : Int32)) (x := qb) (by decide) (i := 4) rfl (Nat.le_of_ble_eq_true rfl) (Ls := #[.val (.int p1), .val (.int p2), .val (.int p3), .val (.int p4), .val (.int p5), .val (.int p6), .val (.int nn), .val (.int (4 : Int32)), .val (.int fr), .val (.int qb), .val (.ref b108), .unset, .unset, .unset, .unset, .unset, .unset, .unset]) (st := []) (hb hby at_113)
  have A_b108_113 : own_Ar Z h113 b108 .byte [(.int (nar .byte qb)), (.int (nar .byte qb)), (.int (nar .byte qb)), (.int (nar .byte qb)), (.int (nar .byte qb)), (.int (0 : Int32)), (.int (0 : Int32)), (.int (0 : Int32)), (.int (0 : Int32))] := A113
  have Zs113 := Nat.le_trans Zs112 (Nat.le_of_eq W113.size.symm)
  have N113 := Fr.snoc X113 N112 n0_b108
  refine own_step (fun _ kc_ => st113 _ kc_) ?_
  show own_Ends p e below s _ _ _ (T113.setTop (mkF m 114 #[.val (.int p1), .val (.int p2), .val (.int p3), .val (.int p4), .val (.int p5), .val (.int p6), .val (.int nn), .val (.int (4 : Int32)), .val (.int fr), .val (.int qb), .val (.ref b108), .unset, .unset, .unset, .unset, .unset, .unset, .unset] []))
  refine own_step (fun _ kc_ => XS.aload X113.here hx rfl (hb hby at_114) rfl rfl (XS.iconst X113.here hx rfl (hb hby at_116) (XS.iload X113.here hx rfl (hb hby at_117) rfl kc_))) ?_
  show own_Ends p e below s _ _ _ (T113.setTop (mkF m 119 #[.val (.int p1), .val (.int p2), .val (.int p3), .val (.int p4), .val (.int p5), .val (.int p6), .val (.int nn), .val (.int (4 : Int32)), .val (.int fr), .val (.int qb), .val (.ref b108), .unset, .unset, .unset, .unset, .unset, .unset, .unset] [(.int qb), (.int (5 : Int32)), (.ref b108)]))
  obtain ⟨T114, h114, X114, e114, W114, A114, st114⟩ := own_bastore X113 hx hZ e113 A_b108_113 (j := (5 : Int32)) (x := qb) (by decide) (i := 5) rfl (Nat.le_of_ble_eq_true rfl) (Ls := #[.val (.int p1), .val (.int p2), .val (.int p3), .val (.int p4), .val (.int p5), .val (.int p6), .val (.int nn), .val (.int (4 : Int32)), .val (.int fr), .val (.int qb), .val (.ref b108), .unset, .unset, .unset, .unset, .unset, .unset, .unset]) (st := []) (hb hby at_119)
  have A_b108_114 : own_Ar Z h114 b108 .byte [(.int (nar .byte qb)), (.int (nar .byte qb)), (.int (nar .byte qb)), (.int (nar .byte qb)), (.int (nar .byte qb)), (.int (nar .byte qb)), (.int (0 : Int32)), (.int (0 : Int32)), (.int (0 : Int32))] := A114
  have Zs114 := Nat.le_trans Zs113 (Nat.le_of_eq W114.size.symm)
  have N114 := Fr.snoc X114 N113 n0_b108
  refine own_step (fun _ kc_ => st114 _ kc_) ?_
  show own_Ends p e below s _ _ _ (T114.setTop (mkF m 120 #[.val (.int p1), .val (.int p2), .val (.int p3), .val (.int p4), .val (.int p5), .val (.int p6), .val (.int nn), .val (.int (4 : Int32)), .val (.int fr), .val (.int qb), .val (.ref b108), .unset, .unset, .unset, .unset, .unset, .unset, .unset] []))
  refine own_step (fun _ kc_ => XS.aload X114.here hx rfl (hb hby at_120) rfl rfl (XS.bipush X114.here hx rfl (hb hby at_122) (XS.iload X114.here hx rfl (hb hby at_124) rfl kc_))) ?_
  show own_Ends p e below s _ _ _ (T114.setTop (mkF m 126 #[.val (.int p1), .val (.int p2), .val (.int p3), .val (.int p4), .val (.int p5), .val (.int p6), .val (.int nn), .val (.int (4 : Int32)), .val (.int fr), .val (.int qb), .val (.ref b108), .unset, .unset, .unset, .unset, .unset, .unset, .unset] [(.int qb), (.int (6 : Int32)), (.ref b108)]))
  obtain ⟨T115, h115, X115, e115, W115, A115, st115⟩ := own_bastore X114 hx hZ e114 A_b108_114 (j := (6 : Int32)) (x := qb) (by decide) (i := 6) rfl (Nat.le_of_ble_eq_true rfl) (Ls := #[.val (.int p1), .val (.int p2), .val (.int p3), .val (.int p4), .val (.int p5), .val (.int p6), .val (.int nn), .val (.int (4 : Int32)), .val (.int fr), .val (.int qb), .val (.ref b108), .unset, .unset, .unset, .unset, .unset, .unset, .unset]) (st := []) (hb hby at_126)
  have A_b108_115 : own_Ar Z h115 b108 .byte [(.int (nar .byte qb)), (.int (nar .byte qb)), (.int (nar .byte qb)), (.int (nar .byte qb)), (.int (nar .byte qb)), (.int (nar .byte qb)), (.int (nar .byte qb)), (.int (0 : Int32)), (.int (0 : Int32))] := A115
  have Zs115 := Nat.le_trans Zs114 (Nat.le_of_eq W115.size.symm)
  have N115 := Fr.snoc X115 N114 n0_b108
  refine own_step (fun _ kc_ => st115 _ kc_) ?_
  show own_Ends p e below s _ _ _ (T115.setTop (mkF m 127 #[.val (.int p1), .val (.int p2), .val (.int p3), .val (.int p4), .val (.int p5), .val (.int p6), .val (.int nn), .val (.int (4 : Int32)), .val (.int fr), .val (.int qb), .val (.ref b108), .unset, .unset, .unset, .unset, .unset, .unset, .unset] []))
  refine own_step (fun _ kc_ => XS.aload X115.here hx rfl (hb hby at_127) rfl rfl (XS.bipush X115.here hx rfl (hb hby at_129) (XS.iload X115.here hx rfl (hb hby at_131) rfl kc_))) ?_
  show own_Ends p e below s _ _ _ (T115.setTop (mkF m 133 #[.val (.int p1), .val (.int p2), .val (.int p3), .val (.int p4), .val (.int p5), .val (.int p6), .val (.int nn), .val (.int (4 : Int32)), .val (.int fr), .val (.int qb), .val (.ref b108), .unset, .unset, .unset, .unset, .unset, .unset, .unset] [(.int qb), (.int (7 : Int32)), (.ref b108)]))
  obtain ⟨T116, h116, X116, e116, W116, A116, st116⟩ := own_bastore X115 hx hZ e115 A_b108_115 (j := (7 : Int32)) (x := qb) (by decide) (i := 7) rfl (Nat.le_of_ble_eq_true rfl) (Ls := #[.val (.int p1), .val (.int p2), .val (.int p3), .val (.int p4), .val (.int p5), .val (.int p6), .val (.int nn), .val (.int (4 : Int32)), .val (.int fr), .val (.int qb), .val (.ref b108), .unset, .unset, .unset, .unset, .unset, .unset, .unset]) (st := []) (hb hby at_133)
  have A_b108_116 : own_Ar Z h116 b108 .byte [(.int (nar .byte qb)), (.int (nar .byte qb)), (.int (nar .byte qb)), (.int (nar .byte qb)), (.int (nar .byte qb)), (.int (nar .byte qb)), (.int (nar .byte qb)), (.int (nar .byte qb)), (.int (0 : Int32))] := A116
  have Zs116 := Nat.le_trans Zs115 (Nat.le_of_eq W116.size.symm)
  have N116 := Fr.snoc X116 N115 n0_b108
  refine own_step (fun _ kc_ => st116 _ kc_) ?_
  show own_Ends p e below s _ _ _ (T116.setTop (mkF m 134 #[.val (.int p1), .val (.int p2), .val (.int p3), .val (.int p4), .val (.int p5), .val (.int p6), .val (.int nn), .val (.int (4 : Int32)), .val (.int fr), .val (.int qb), .val (.ref b108), .unset, .unset, .unset, .unset, .unset, .unset, .unset] []))
  refine own_step (fun _ kc_ => XS.aload X116.here hx rfl (hb hby at_134) rfl rfl (XS.bipush X116.here hx rfl (hb hby at_136) (XS.iload X116.here hx rfl (hb hby at_138) rfl kc_))) ?_
  show own_Ends p e below s _ _ _ (T116.setTop (mkF m 140 #[.val (.int p1), .val (.int p2), .val (.int p3), .val (.int p4), .val (.int p5), .val (.int p6), .val (.int nn), .val (.int (4 : Int32)), .val (.int fr), .val (.int qb), .val (.ref b108), .unset, .unset, .unset, .unset, .unset, .unset, .unset] [(.int qb), (.int (8 : Int32)), (.ref b108)]))
  obtain ⟨T117, h117, X117, e117, W117, A117, st117⟩ := own_bastore X116 hx hZ e116 A_b108_116 (j := (8 : Int32)) (x := qb) (by decide) (i := 8) rfl (Nat.le_of_ble_eq_true rfl) (Ls := #[.val (.int p1), .val (.int p2), .val (.int p3), .val (.int p4), .val (.int p5), .val (.int p6), .val (.int nn), .val (.int (4 : Int32)), .val (.int fr), .val (.int qb), .val (.ref b108), .unset, .unset, .unset, .unset, .unset, .unset, .unset]) (st := []) (hb hby at_140)
  have A_b108_117 : own_Ar Z h117 b108 .byte [(.int (nar .byte qb)), (.int (nar .byte qb)), (.int (nar .byte qb)), (.int (nar .byte qb)), (.int (nar .byte qb)), (.int (nar .byte qb)), (.int (nar .byte qb)), (.int (nar .byte qb)), (.int (nar .byte qb))] := A117
  have Zs117 := Nat.le_trans Zs116 (Nat.le_of_eq W117.size.symm)
  have N117 := Fr.snoc X117 N116 n0_b108
  refine own_step (fun _ kc_ => st117 _ kc_) ?_
  show own_Ends p e below s _ _ _ (T117.setTop (mkF m 141 #[.val (.int p1), .val (.int p2), .val (.int p3), .val (.int p4), .val (.int p5), .val (.int p6), .val (.int nn), .val (.int (4 : Int32)), .val (.int fr), .val (.int qb), .val (.ref b108), .unset, .unset, .unset, .unset, .unset, .unset, .unset] []))
  refine own_step (fun _ kc_ => XS.aload X117.here hx rfl (hb hby at_141) rfl rfl (XS.iload X117.here hx rfl (hb hby at_143) rfl (XS.iload X117.here hx rfl (hb hby at_145) rfl (XS.iconst X117.here hx rfl (hb hby at_147) (XS.iload X117.here hx rfl (hb hby at_148) rfl kc_))))) ?_
  show own_Ends p e below s _ _ _ (T117.setTop (mkF m 150 #[.val (.int p1), .val (.int p2), .val (.int p3), .val (.int p4), .val (.int p5), .val (.int p6), .val (.int nn), .val (.int (4 : Int32)), .val (.int fr), .val (.int qb), .val (.ref b108), .unset, .unset, .unset, .unset, .unset, .unset, .unset] [(.int (4 : Int32)), (.int (0 : Int32)), (.int nn), (.int fr), (.ref b108)]))
  obtain ⟨_, _, ⟨T118, L118, k118, n118⟩, -, X118, ⟨Lc118, hQ118, l118, y118, z118⟩, st118⟩ := Jvm.LawKit.callS X117 hx (y := (⟨"com/example/wakachi/wakachi/ReaderNextPinLaw", "enc", "(III)B"⟩ : MethodName)) hown (mvT hZ (hw _ (List.mem_of_getElem? (i := 2) rfl))) (mvT hZ (hw _ (List.mem_of_getElem? (i := 3) rfl))) (mvT hZ (hw _ (List.mem_of_getElem? (i := 4) rfl))) (mvT hZ (hw _ (List.mem_of_getElem? (i := 5) rfl))) (by decide) (backOf (W := 2) (rm1 l Z a0 hw [] nn (0 : Int32) (4 : Int32)  h117 n0 Zs117 ) hZ (hw _ (List.mem_of_getElem? (i := 5) rfl)) (hw _ (List.mem_of_getElem? (i := 4) rfl)) (by decide) (by decide)) (g := (mkF m 150 #[.val (.int p1), .val (.int p2), .val (.int p3), .val (.int p4), .val (.int p5), .val (.int p6), .val (.int nn), .val (.int (4 : Int32)), .val (.int fr), .val (.int qb), .val (.ref b108), .unset, .unset, .unset, .unset, .unset, .unset, .unset] [(.int (4 : Int32)), (.int (0 : Int32)), (.int nn), (.int fr), (.ref b108)])) rfl (by rw [hml]; rfl) (argsL := [(.int nn), (.int (0 : Int32)), (.int (4 : Int32))]) (rest := [(.int fr), (.ref b108)]) (lenOf pd_1 rfl) rfl (by show 2 * 0 + _ ≤ _; exact Nat.le_of_eq rfl) (hb hby at_150) (fun _ _ => ⟨rfl, e117, (by decide : 1 + 0 ≤ _), (by decide : 9 + 0 ≤ _)⟩)
  dsimp only [Pt.U, Pt.locs, Pt.cells, Pt.slots] at X118 l118 y118 z118 st118 hQ118
  subst y118 z118
  obtain ⟨rfl, N118q, e118⟩ := hQ118
  have e118h : T118.heap = h117 := e118
  have N118 : Fr n0 L118 := by rw [l118]; exact Fr.app N117 N118q
  refine own_step (fun _ kc_ => st118 _ kc_) ?_
  show own_Ends p e below s _ _ _ (T118.setTop (mkF m 153 #[.val (.int p1), .val (.int p2), .val (.int p3), .val (.int p4), .val (.int p5), .val (.int p6), .val (.int nn), .val (.int (4 : Int32)), .val (.int fr), .val (.int qb), .val (.ref b108), .unset, .unset, .unset, .unset, .unset, .unset, .unset] [(.int (own_enc nn (0 : Int32) (4 : Int32))), (.int fr), (.ref b108)]))
  obtain ⟨T119, h119, X119, e119, W119, A119, st119⟩ := own_bastore X118 hx hZ e118h A_b108_117 (j := fr) (x := (own_enc nn (0 : Int32) (4 : Int32))) (own_ixz0 hF hfr) (i := F) (own_ixz hF hfr) (by simp only [List.length_set, List.length_cons, List.length_nil]; omega) (Ls := #[.val (.int p1), .val (.int p2), .val (.int p3), .val (.int p4), .val (.int p5), .val (.int p6), .val (.int nn), .val (.int (4 : Int32)), .val (.int fr), .val (.int qb), .val (.ref b108), .unset, .unset, .unset, .unset, .unset, .unset, .unset]) (st := []) (hb hby at_153)
  have A_b108_119 : own_Ar Z h119 b108 .byte (([(.int (nar .byte qb)), (.int (nar .byte qb)), (.int (nar .byte qb)), (.int (nar .byte qb)), (.int (nar .byte qb)), (.int (nar .byte qb)), (.int (nar .byte qb)), (.int (nar .byte qb)), (.int (nar .byte qb))]).set F (.int (nar .byte (own_enc nn (0 : Int32) (4 : Int32))))) := A119.cast rfl
  have Zs119 := Nat.le_trans Zs117 (Nat.le_of_eq W119.size.symm)
  have N119 := Fr.snoc X119 N118 n0_b108
  refine own_step (fun _ kc_ => st119 _ kc_) ?_
  show own_Ends p e below s _ _ _ (T119.setTop (mkF m 154 #[.val (.int p1), .val (.int p2), .val (.int p3), .val (.int p4), .val (.int p5), .val (.int p6), .val (.int nn), .val (.int (4 : Int32)), .val (.int fr), .val (.int qb), .val (.ref b108), .unset, .unset, .unset, .unset, .unset, .unset, .unset] []))
  refine own_step (fun _ kc_ => XS.iload X119.here hx rfl (hb hby at_154) rfl (XS.iconst X119.here hx rfl (hb hby at_156) (XS.icmpNo X119.here hx rfl (hb hby at_157) rfl (XT.ii_le_f (by decide : (1 : Int32) < (4 : Int32))) (XS.aload X119.here hx rfl (hb hby at_160) rfl rfl (XS.iload X119.here hx rfl (hb hby at_162) rfl (XS.iconst X119.here hx rfl (hb hby at_164) (XS.iadd X119.here hx rfl (hb hby at_165) rfl (XS.iload X119.here hx rfl (hb hby at_166) rfl kc_)))))))) ?_
  show own_Ends p e below s _ _ _ (T119.setTop (mkF m 168 #[.val (.int p1), .val (.int p2), .val (.int p3), .val (.int p4), .val (.int p5), .val (.int p6), .val (.int nn), .val (.int (4 : Int32)), .val (.int fr), .val (.int qb), .val (.ref b108), .unset, .unset, .unset, .unset, .unset, .unset, .unset] [(.int nn), (.int (fr + (1 : Int32))), (.ref b108)]))
  refine own_step (fun _ kc_ => XS.iconst X119.here hx rfl (hb hby at_168) (XS.iload X119.here hx rfl (hb hby at_169) rfl kc_)) ?_
  show own_Ends p e below s _ _ _ (T119.setTop (mkF m 171 #[.val (.int p1), .val (.int p2), .val (.int p3), .val (.int p4), .val (.int p5), .val (.int p6), .val (.int nn), .val (.int (4 : Int32)), .val (.int fr), .val (.int qb), .val (.ref b108), .unset, .unset, .unset, .unset, .unset, .unset, .unset] [(.int (4 : Int32)), (.int (1 : Int32)), (.int nn), (.int (fr + (1 : Int32))), (.ref b108)]))
  obtain ⟨_, _, ⟨T120, L120, k120, n120⟩, -, X120, ⟨Lc120, hQ120, l120, y120, z120⟩, st120⟩ := Jvm.LawKit.callS X119 hx (y := (⟨"com/example/wakachi/wakachi/ReaderNextPinLaw", "enc", "(III)B"⟩ : MethodName)) hown (mvT hZ (hw _ (List.mem_of_getElem? (i := 2) rfl))) (mvT hZ (hw _ (List.mem_of_getElem? (i := 3) rfl))) (mvT hZ (hw _ (List.mem_of_getElem? (i := 4) rfl))) (mvT hZ (hw _ (List.mem_of_getElem? (i := 5) rfl))) (by decide) (backOf (W := 2) (rm1 l Z a0 hw [] nn (1 : Int32) (4 : Int32)  h119 n0 Zs119 ) hZ (hw _ (List.mem_of_getElem? (i := 5) rfl)) (hw _ (List.mem_of_getElem? (i := 4) rfl)) (by decide) (by decide)) (g := (mkF m 171 #[.val (.int p1), .val (.int p2), .val (.int p3), .val (.int p4), .val (.int p5), .val (.int p6), .val (.int nn), .val (.int (4 : Int32)), .val (.int fr), .val (.int qb), .val (.ref b108), .unset, .unset, .unset, .unset, .unset, .unset, .unset] [(.int (4 : Int32)), (.int (1 : Int32)), (.int nn), (.int (fr + (1 : Int32))), (.ref b108)])) rfl (by rw [hml]; rfl) (argsL := [(.int nn), (.int (1 : Int32)), (.int (4 : Int32))]) (rest := [(.int (fr + (1 : Int32))), (.ref b108)]) (lenOf pd_1 rfl) rfl (by show 2 * 0 + _ ≤ _; exact Nat.le_of_eq rfl) (hb hby at_171) (fun _ _ => ⟨rfl, e119, (by decide : 1 + 0 ≤ _), (by decide : 9 + 0 ≤ _)⟩)
  dsimp only [Pt.U, Pt.locs, Pt.cells, Pt.slots] at X120 l120 y120 z120 st120 hQ120
  subst y120 z120
  obtain ⟨rfl, N120q, e120⟩ := hQ120
  have e120h : T120.heap = h119 := e120
  have N120 : Fr n0 L120 := by rw [l120]; exact Fr.app N119 N120q
  refine own_step (fun _ kc_ => st120 _ kc_) ?_
  show own_Ends p e below s _ _ _ (T120.setTop (mkF m 174 #[.val (.int p1), .val (.int p2), .val (.int p3), .val (.int p4), .val (.int p5), .val (.int p6), .val (.int nn), .val (.int (4 : Int32)), .val (.int fr), .val (.int qb), .val (.ref b108), .unset, .unset, .unset, .unset, .unset, .unset, .unset] [(.int (own_enc nn (1 : Int32) (4 : Int32))), (.int (fr + (1 : Int32))), (.ref b108)]))
  obtain ⟨T121, h121, X121, e121, W121, A121, st121⟩ := own_bastore X120 hx hZ e120h A_b108_119 (j := (fr + (1 : Int32))) (x := (own_enc nn (1 : Int32) (4 : Int32))) (own_ix0 hF hfr (k := 1) (by decide)) (i := F + 1) (own_ix hF hfr (k := 1) (by decide)) (by simp only [List.length_set, List.length_cons, List.length_nil]; omega) (Ls := #[.val (.int p1), .val (.int p2), .val (.int p3), .val (.int p4), .val (.int p5), .val (.int p6), .val (.int nn), .val (.int (4 : Int32)), .val (.int fr), .val (.int qb), .val (.ref b108), .unset, .unset, .unset, .unset, .unset, .unset, .unset]) (st := []) (hb hby at_174)
  have A_b108_121 : own_Ar Z h121 b108 .byte (((([(.int (nar .byte qb)), (.int (nar .byte qb)), (.int (nar .byte qb)), (.int (nar .byte qb)), (.int (nar .byte qb)), (.int (nar .byte qb)), (.int (nar .byte qb)), (.int (nar .byte qb)), (.int (nar .byte qb))]).set F (.int (nar .byte (own_enc nn (0 : Int32) (4 : Int32)))))).set (F + 1) (.int (nar .byte (own_enc nn (1 : Int32) (4 : Int32))))) := A121.cast rfl
  have Zs121 := Nat.le_trans Zs119 (Nat.le_of_eq W121.size.symm)
  have N121 := Fr.snoc X121 N120 n0_b108
  refine own_step (fun _ kc_ => st121 _ kc_) ?_
  show own_Ends p e below s _ _ _ (T121.setTop (mkF m 175 #[.val (.int p1), .val (.int p2), .val (.int p3), .val (.int p4), .val (.int p5), .val (.int p6), .val (.int nn), .val (.int (4 : Int32)), .val (.int fr), .val (.int qb), .val (.ref b108), .unset, .unset, .unset, .unset, .unset, .unset, .unset] []))
  refine own_step (fun _ kc_ => XS.iload X121.here hx rfl (hb hby at_175) rfl (XS.iconst X121.here hx rfl (hb hby at_177) (XS.icmpNo X121.here hx rfl (hb hby at_178) rfl (XT.ii_le_f (by decide : (2 : Int32) < (4 : Int32))) (XS.aload X121.here hx rfl (hb hby at_181) rfl rfl (XS.iload X121.here hx rfl (hb hby at_183) rfl (XS.iconst X121.here hx rfl (hb hby at_185) (XS.iadd X121.here hx rfl (hb hby at_186) rfl (XS.iload X121.here hx rfl (hb hby at_187) rfl kc_)))))))) ?_
  show own_Ends p e below s _ _ _ (T121.setTop (mkF m 189 #[.val (.int p1), .val (.int p2), .val (.int p3), .val (.int p4), .val (.int p5), .val (.int p6), .val (.int nn), .val (.int (4 : Int32)), .val (.int fr), .val (.int qb), .val (.ref b108), .unset, .unset, .unset, .unset, .unset, .unset, .unset] [(.int nn), (.int (fr + (2 : Int32))), (.ref b108)]))
  refine own_step (fun _ kc_ => XS.iconst X121.here hx rfl (hb hby at_189) (XS.iload X121.here hx rfl (hb hby at_190) rfl kc_)) ?_
  show own_Ends p e below s _ _ _ (T121.setTop (mkF m 192 #[.val (.int p1), .val (.int p2), .val (.int p3), .val (.int p4), .val (.int p5), .val (.int p6), .val (.int nn), .val (.int (4 : Int32)), .val (.int fr), .val (.int qb), .val (.ref b108), .unset, .unset, .unset, .unset, .unset, .unset, .unset] [(.int (4 : Int32)), (.int (2 : Int32)), (.int nn), (.int (fr + (2 : Int32))), (.ref b108)]))
  obtain ⟨_, _, ⟨T122, L122, k122, n122⟩, -, X122, ⟨Lc122, hQ122, l122, y122, z122⟩, st122⟩ := Jvm.LawKit.callS X121 hx (y := (⟨"com/example/wakachi/wakachi/ReaderNextPinLaw", "enc", "(III)B"⟩ : MethodName)) hown (mvT hZ (hw _ (List.mem_of_getElem? (i := 2) rfl))) (mvT hZ (hw _ (List.mem_of_getElem? (i := 3) rfl))) (mvT hZ (hw _ (List.mem_of_getElem? (i := 4) rfl))) (mvT hZ (hw _ (List.mem_of_getElem? (i := 5) rfl))) (by decide) (backOf (W := 2) (rm1 l Z a0 hw [] nn (2 : Int32) (4 : Int32)  h121 n0 Zs121 ) hZ (hw _ (List.mem_of_getElem? (i := 5) rfl)) (hw _ (List.mem_of_getElem? (i := 4) rfl)) (by decide) (by decide)) (g := (mkF m 192 #[.val (.int p1), .val (.int p2), .val (.int p3), .val (.int p4), .val (.int p5), .val (.int p6), .val (.int nn), .val (.int (4 : Int32)), .val (.int fr), .val (.int qb), .val (.ref b108), .unset, .unset, .unset, .unset, .unset, .unset, .unset] [(.int (4 : Int32)), (.int (2 : Int32)), (.int nn), (.int (fr + (2 : Int32))), (.ref b108)])) rfl (by rw [hml]; rfl) (argsL := [(.int nn), (.int (2 : Int32)), (.int (4 : Int32))]) (rest := [(.int (fr + (2 : Int32))), (.ref b108)]) (lenOf pd_1 rfl) rfl (by show 2 * 0 + _ ≤ _; exact Nat.le_of_eq rfl) (hb hby at_192) (fun _ _ => ⟨rfl, e121, (by decide : 1 + 0 ≤ _), (by decide : 9 + 0 ≤ _)⟩)
  dsimp only [Pt.U, Pt.locs, Pt.cells, Pt.slots] at X122 l122 y122 z122 st122 hQ122
  subst y122 z122
  obtain ⟨rfl, N122q, e122⟩ := hQ122
  have e122h : T122.heap = h121 := e122
  have N122 : Fr n0 L122 := by rw [l122]; exact Fr.app N121 N122q
  refine own_step (fun _ kc_ => st122 _ kc_) ?_
  show own_Ends p e below s _ _ _ (T122.setTop (mkF m 195 #[.val (.int p1), .val (.int p2), .val (.int p3), .val (.int p4), .val (.int p5), .val (.int p6), .val (.int nn), .val (.int (4 : Int32)), .val (.int fr), .val (.int qb), .val (.ref b108), .unset, .unset, .unset, .unset, .unset, .unset, .unset] [(.int (own_enc nn (2 : Int32) (4 : Int32))), (.int (fr + (2 : Int32))), (.ref b108)]))
  obtain ⟨T123, h123, X123, e123, W123, A123, st123⟩ := own_bastore X122 hx hZ e122h A_b108_121 (j := (fr + (2 : Int32))) (x := (own_enc nn (2 : Int32) (4 : Int32))) (own_ix0 hF hfr (k := 2) (by decide)) (i := F + 2) (own_ix hF hfr (k := 2) (by decide)) (by simp only [List.length_set, List.length_cons, List.length_nil]; omega) (Ls := #[.val (.int p1), .val (.int p2), .val (.int p3), .val (.int p4), .val (.int p5), .val (.int p6), .val (.int nn), .val (.int (4 : Int32)), .val (.int fr), .val (.int qb), .val (.ref b108), .unset, .unset, .unset, .unset, .unset, .unset, .unset]) (st := []) (hb hby at_195)
  have A_b108_123 : own_Ar Z h123 b108 .byte (((((([(.int (nar .byte qb)), (.int (nar .byte qb)), (.int (nar .byte qb)), (.int (nar .byte qb)), (.int (nar .byte qb)), (.int (nar .byte qb)), (.int (nar .byte qb)), (.int (nar .byte qb)), (.int (nar .byte qb))]).set F (.int (nar .byte (own_enc nn (0 : Int32) (4 : Int32)))))).set (F + 1) (.int (nar .byte (own_enc nn (1 : Int32) (4 : Int32)))))).set (F + 2) (.int (nar .byte (own_enc nn (2 : Int32) (4 : Int32))))) := A123.cast rfl
  have Zs123 := Nat.le_trans Zs121 (Nat.le_of_eq W123.size.symm)
  have N123 := Fr.snoc X123 N122 n0_b108
  refine own_step (fun _ kc_ => st123 _ kc_) ?_
  show own_Ends p e below s _ _ _ (T123.setTop (mkF m 196 #[.val (.int p1), .val (.int p2), .val (.int p3), .val (.int p4), .val (.int p5), .val (.int p6), .val (.int nn), .val (.int (4 : Int32)), .val (.int fr), .val (.int qb), .val (.ref b108), .unset, .unset, .unset, .unset, .unset, .unset, .unset] []))
  refine own_step (fun _ kc_ => XS.iload X123.here hx rfl (hb hby at_196) rfl (XS.iconst X123.here hx rfl (hb hby at_198) (XS.icmpNo X123.here hx rfl (hb hby at_199) rfl (XT.ii_le_f (by decide : (3 : Int32) < (4 : Int32))) (XS.aload X123.here hx rfl (hb hby at_202) rfl rfl (XS.iload X123.here hx rfl (hb hby at_204) rfl (XS.iconst X123.here hx rfl (hb hby at_206) (XS.iadd X123.here hx rfl (hb hby at_207) rfl (XS.iload X123.here hx rfl (hb hby at_208) rfl kc_)))))))) ?_
  show own_Ends p e below s _ _ _ (T123.setTop (mkF m 210 #[.val (.int p1), .val (.int p2), .val (.int p3), .val (.int p4), .val (.int p5), .val (.int p6), .val (.int nn), .val (.int (4 : Int32)), .val (.int fr), .val (.int qb), .val (.ref b108), .unset, .unset, .unset, .unset, .unset, .unset, .unset] [(.int nn), (.int (fr + (3 : Int32))), (.ref b108)]))
  refine own_step (fun _ kc_ => XS.iconst X123.here hx rfl (hb hby at_210) (XS.iload X123.here hx rfl (hb hby at_211) rfl kc_)) ?_
  show own_Ends p e below s _ _ _ (T123.setTop (mkF m 213 #[.val (.int p1), .val (.int p2), .val (.int p3), .val (.int p4), .val (.int p5), .val (.int p6), .val (.int nn), .val (.int (4 : Int32)), .val (.int fr), .val (.int qb), .val (.ref b108), .unset, .unset, .unset, .unset, .unset, .unset, .unset] [(.int (4 : Int32)), (.int (3 : Int32)), (.int nn), (.int (fr + (3 : Int32))), (.ref b108)]))
  obtain ⟨_, _, ⟨T124, L124, k124, n124⟩, -, X124, ⟨Lc124, hQ124, l124, y124, z124⟩, st124⟩ := Jvm.LawKit.callS X123 hx (y := (⟨"com/example/wakachi/wakachi/ReaderNextPinLaw", "enc", "(III)B"⟩ : MethodName)) hown (mvT hZ (hw _ (List.mem_of_getElem? (i := 2) rfl))) (mvT hZ (hw _ (List.mem_of_getElem? (i := 3) rfl))) (mvT hZ (hw _ (List.mem_of_getElem? (i := 4) rfl))) (mvT hZ (hw _ (List.mem_of_getElem? (i := 5) rfl))) (by decide) (backOf (W := 2) (rm1 l Z a0 hw [] nn (3 : Int32) (4 : Int32)  h123 n0 Zs123 ) hZ (hw _ (List.mem_of_getElem? (i := 5) rfl)) (hw _ (List.mem_of_getElem? (i := 4) rfl)) (by decide) (by decide)) (g := (mkF m 213 #[.val (.int p1), .val (.int p2), .val (.int p3), .val (.int p4), .val (.int p5), .val (.int p6), .val (.int nn), .val (.int (4 : Int32)), .val (.int fr), .val (.int qb), .val (.ref b108), .unset, .unset, .unset, .unset, .unset, .unset, .unset] [(.int (4 : Int32)), (.int (3 : Int32)), (.int nn), (.int (fr + (3 : Int32))), (.ref b108)])) rfl (by rw [hml]; rfl) (argsL := [(.int nn), (.int (3 : Int32)), (.int (4 : Int32))]) (rest := [(.int (fr + (3 : Int32))), (.ref b108)]) (lenOf pd_1 rfl) rfl (by show 2 * 0 + _ ≤ _; exact Nat.le_of_eq rfl) (hb hby at_213) (fun _ _ => ⟨rfl, e123, (by decide : 1 + 0 ≤ _), (by decide : 9 + 0 ≤ _)⟩)
  dsimp only [Pt.U, Pt.locs, Pt.cells, Pt.slots] at X124 l124 y124 z124 st124 hQ124
  subst y124 z124
  obtain ⟨rfl, N124q, e124⟩ := hQ124
  have e124h : T124.heap = h123 := e124
  have N124 : Fr n0 L124 := by rw [l124]; exact Fr.app N123 N124q
  refine own_step (fun _ kc_ => st124 _ kc_) ?_
  show own_Ends p e below s _ _ _ (T124.setTop (mkF m 216 #[.val (.int p1), .val (.int p2), .val (.int p3), .val (.int p4), .val (.int p5), .val (.int p6), .val (.int nn), .val (.int (4 : Int32)), .val (.int fr), .val (.int qb), .val (.ref b108), .unset, .unset, .unset, .unset, .unset, .unset, .unset] [(.int (own_enc nn (3 : Int32) (4 : Int32))), (.int (fr + (3 : Int32))), (.ref b108)]))
  obtain ⟨T125, h125, X125, e125, W125, A125, st125⟩ := own_bastore X124 hx hZ e124h A_b108_123 (j := (fr + (3 : Int32))) (x := (own_enc nn (3 : Int32) (4 : Int32))) (own_ix0 hF hfr (k := 3) (by decide)) (i := F + 3) (own_ix hF hfr (k := 3) (by decide)) (by simp only [List.length_set, List.length_cons, List.length_nil]; omega) (Ls := #[.val (.int p1), .val (.int p2), .val (.int p3), .val (.int p4), .val (.int p5), .val (.int p6), .val (.int nn), .val (.int (4 : Int32)), .val (.int fr), .val (.int qb), .val (.ref b108), .unset, .unset, .unset, .unset, .unset, .unset, .unset]) (st := []) (hb hby at_216)
  have A_b108_125 : own_Ar Z h125 b108 .byte (((((((([(.int (nar .byte qb)), (.int (nar .byte qb)), (.int (nar .byte qb)), (.int (nar .byte qb)), (.int (nar .byte qb)), (.int (nar .byte qb)), (.int (nar .byte qb)), (.int (nar .byte qb)), (.int (nar .byte qb))]).set F (.int (nar .byte (own_enc nn (0 : Int32) (4 : Int32)))))).set (F + 1) (.int (nar .byte (own_enc nn (1 : Int32) (4 : Int32)))))).set (F + 2) (.int (nar .byte (own_enc nn (2 : Int32) (4 : Int32)))))).set (F + 3) (.int (nar .byte (own_enc nn (3 : Int32) (4 : Int32))))) := A125.cast rfl
  have Zs125 := Nat.le_trans Zs123 (Nat.le_of_eq W125.size.symm)
  have N125 := Fr.snoc X125 N124 n0_b108
  refine own_step (fun _ kc_ => st125 _ kc_) ?_
  show own_Ends p e below s _ _ _ (T125.setTop (mkF m 217 #[.val (.int p1), .val (.int p2), .val (.int p3), .val (.int p4), .val (.int p5), .val (.int p6), .val (.int nn), .val (.int (4 : Int32)), .val (.int fr), .val (.int qb), .val (.ref b108), .unset, .unset, .unset, .unset, .unset, .unset, .unset] []))
  refine own_step (fun _ kc_ => XS.iload X125.here hx rfl (hb hby at_217) rfl (XS.iconst X125.here hx rfl (hb hby at_219) (XS.icmpYes X125.here hx rfl (pc0 := 220) (pc' := 238) rfl (hb hby at_220) rfl (XT.ii_le_t (by decide : ¬ ((4 : Int32) < (4 : Int32)))) (by decide) (by decide) (XS.iload X125.here hx rfl (hb hby at_238) rfl (XS.bipush X125.here hx rfl (hb hby at_240) (XS.iand X125.here hx rfl (hb hby at_242) rfl (XS.istore X125.here hx rfl (hb hby at_243) rfl (l' := #[.val (.int p1), .val (.int p2), .val (.int p3), .val (.int p4), .val (.int p5), .val (.int p6), .val (.int nn), .val (.int (4 : Int32)), .val (.int fr), .val (.int qb), .val (.ref b108), .val (.int (p5 &&& (127 : Int32))), .unset, .unset, .unset, .unset, .unset, .unset]) rfl kc_))))))) ?_
  show own_Ends p e below s _ _ _ (T125.setTop (mkF m 245 #[.val (.int p1), .val (.int p2), .val (.int p3), .val (.int p4), .val (.int p5), .val (.int p6), .val (.int nn), .val (.int (4 : Int32)), .val (.int fr), .val (.int qb), .val (.ref b108), .val (.int (p5 &&& (127 : Int32))), .unset, .unset, .unset, .unset, .unset, .unset] []))
  generalize hsc : (p5 &&& (127 : Int32)) = sc
  show own_Ends p e below s _ _ _ (T125.setTop (mkF m 245 #[.val (.int p1), .val (.int p2), .val (.int p3), .val (.int p4), .val (.int p5), .val (.int p6), .val (.int nn), .val (.int (4 : Int32)), .val (.int fr), .val (.int qb), .val (.ref b108), .val (.int sc), .unset, .unset, .unset, .unset, .unset, .unset] []))
  refine own_step (fun _ kc_ => XS.aload X125.here hx rfl (hb hby at_245) rfl rfl (XS.iload X125.here hx rfl (hb hby at_247) rfl (XS.iload X125.here hx rfl (hb hby at_249) rfl (XS.iadd X125.here hx rfl (hb hby at_251) rfl (XS.iload X125.here hx rfl (hb hby at_252) rfl (XS.i2b X125.here hx rfl (hb hby at_254) rfl kc_)))))) ?_
  show own_Ends p e below s _ _ _ (T125.setTop (mkF m 255 #[.val (.int p1), .val (.int p2), .val (.int p3), .val (.int p4), .val (.int p5), .val (.int p6), .val (.int nn), .val (.int (4 : Int32)), .val (.int fr), .val (.int qb), .val (.ref b108), .val (.int sc), .unset, .unset, .unset, .unset, .unset, .unset] [(.int (sc.toInt8.toInt32)), (.int (fr + (4 : Int32))), (.ref b108)]))
  obtain ⟨T126, h126, X126, e126, W126, A126, st126⟩ := own_bastore X125 hx hZ e125 A_b108_125 (j := (fr + (4 : Int32))) (x := (sc.toInt8.toInt32)) (own_ix0 hF hfr (k := 4) (by decide)) (i := F + 4) (own_ix hF hfr (k := 4) (by decide)) (by simp only [List.length_set, List.length_cons, List.length_nil]; omega) (Ls := #[.val (.int p1), .val (.int p2), .val (.int p3), .val (.int p4), .val (.int p5), .val (.int p6), .val (.int nn), .val (.int (4 : Int32)), .val (.int fr), .val (.int qb), .val (.ref b108), .val (.int sc), .unset, .unset, .unset, .unset, .unset, .unset]) (st := []) (hb hby at_255)
  have A_b108_126 : own_Ar Z h126 b108 .byte (((((((((([(.int (nar .byte qb)), (.int (nar .byte qb)), (.int (nar .byte qb)), (.int (nar .byte qb)), (.int (nar .byte qb)), (.int (nar .byte qb)), (.int (nar .byte qb)), (.int (nar .byte qb)), (.int (nar .byte qb))]).set F (.int (nar .byte (own_enc nn (0 : Int32) (4 : Int32)))))).set (F + 1) (.int (nar .byte (own_enc nn (1 : Int32) (4 : Int32)))))).set (F + 2) (.int (nar .byte (own_enc nn (2 : Int32) (4 : Int32)))))).set (F + 3) (.int (nar .byte (own_enc nn (3 : Int32) (4 : Int32)))))).set (F + 4) (.int (nar .byte (sc.toInt8.toInt32)))) := A126.cast rfl
  have Zs126 := Nat.le_trans Zs125 (Nat.le_of_eq W126.size.symm)
  have N126 := Fr.snoc X126 N125 n0_b108
  refine own_step (fun _ kc_ => st126 _ kc_) ?_
  show own_Ends p e below s _ _ _ (T126.setTop (mkF m 256 #[.val (.int p1), .val (.int p2), .val (.int p3), .val (.int p4), .val (.int p5), .val (.int p6), .val (.int nn), .val (.int (4 : Int32)), .val (.int fr), .val (.int qb), .val (.ref b108), .val (.int sc), .unset, .unset, .unset, .unset, .unset, .unset] []))
  refine own_step (fun _ kc_ => XS.iloadN X126.here hx rfl (hb hby at_256) rfl (X126.ldcI hx hown (mvT hZ (hw _ (List.mem_of_getElem? (i := 0) rfl))) rfl (hb hby at_257) (XS.iand X126.here hx rfl (hb hby at_259) rfl (XS.iload X126.here hx rfl (hb hby at_260) rfl (XS.iconst X126.here hx rfl (hb hby at_262) (XS.iadd X126.here hx rfl (hb hby at_263) rfl kc_)))))) ?_
  show own_Ends p e below s _ _ _ (T126.setTop (mkF m 264 #[.val (.int p1), .val (.int p2), .val (.int p3), .val (.int p4), .val (.int p5), .val (.int p6), .val (.int nn), .val (.int (4 : Int32)), .val (.int fr), .val (.int qb), .val (.ref b108), .val (.int sc), .unset, .unset, .unset, .unset, .unset, .unset] [(.int ((4 : Int32) + (2 : Int32))), (.int (p4 &&& (2147483647 : Int32)))]))
  rw [show ((4 : Int32) + (2 : Int32)) = (6 : Int32) from by decide]
  show own_Ends p e below s _ _ _ (T126.setTop (mkF m 264 #[.val (.int p1), .val (.int p2), .val (.int p3), .val (.int p4), .val (.int p5), .val (.int p6), .val (.int nn), .val (.int (4 : Int32)), .val (.int fr), .val (.int qb), .val (.ref b108), .val (.int sc), .unset, .unset, .unset, .unset, .unset, .unset] [(.int (6 : Int32)), (.int (p4 &&& (2147483647 : Int32)))]))
  refine own_step (fun _ kc_ => Jvm.RoadKit.iremM X126 hx rfl (hb hby at_264) rfl (by decide) (XS.istore X126.here hx rfl (hb hby at_265) rfl (l' := #[.val (.int p1), .val (.int p2), .val (.int p3), .val (.int p4), .val (.int p5), .val (.int p6), .val (.int nn), .val (.int (4 : Int32)), .val (.int fr), .val (.int qb), .val (.ref b108), .val (.int sc), .val (.int ((p4 &&& (2147483647 : Int32)) % (6 : Int32))), .unset, .unset, .unset, .unset, .unset]) rfl kc_)) ?_
  show own_Ends p e below s _ _ _ (T126.setTop (mkF m 267 #[.val (.int p1), .val (.int p2), .val (.int p3), .val (.int p4), .val (.int p5), .val (.int p6), .val (.int nn), .val (.int (4 : Int32)), .val (.int fr), .val (.int qb), .val (.ref b108), .val (.int sc), .val (.int ((p4 &&& (2147483647 : Int32)) % (6 : Int32))), .unset, .unset, .unset, .unset, .unset] []))
  generalize hcc : ((p4 &&& (2147483647 : Int32)) % (6 : Int32)) = cc
  show own_Ends p e below s _ _ _ (T126.setTop (mkF m 267 #[.val (.int p1), .val (.int p2), .val (.int p3), .val (.int p4), .val (.int p5), .val (.int p6), .val (.int nn), .val (.int (4 : Int32)), .val (.int fr), .val (.int qb), .val (.ref b108), .val (.int sc), .val (.int cc), .unset, .unset, .unset, .unset, .unset] []))
  obtain ⟨T127, h127, X127, e127, E127, A127, D127, -, st127⟩ := newO X126 hx hZ hown (hw _ (List.mem_of_getElem? (i := 6) rfl)) (hw _ (List.mem_of_getElem? (i := 7) rfl)) (hw _ (List.mem_of_getElem? (i := 8) rfl)) e126 (g := (mkF m 267 #[.val (.int p1), .val (.int p2), .val (.int p3), .val (.int p4), .val (.int p5), .val (.int p6), .val (.int nn), .val (.int (4 : Int32)), .val (.int fr), .val (.int qb), .val (.ref b108), .val (.int sc), .val (.int cc), .unset, .unset, .unset, .unset, .unset] [])) rfl (hb hby at_267) (by decide : 1 + 1 ≤ _) (by decide : 9 + 3 ≤ _)
  obtain ⟨b127, g127⟩ : ∃ z, z = h126.size := ⟨_, rfl⟩
  rw [← g127] at A127 D127 st127
  have ne_b108_b127 : b108 ≠ b127 := Nat.ne_of_lt (Nat.lt_of_lt_of_le (A_b108_126).lt (Nat.le_of_eq g127.symm))
  have n0_b127 : n0 ≤ b127 := Nat.le_trans Zs126 (Nat.le_of_eq g127.symm)
  have A_b108_127 := (A_b108_126).ext E127
  have Zs127 := Nat.le_trans Zs126 E127.1
  have F_bytes_b127 : Fld Z h127 b127 "com/example/wakachi/wakachi/VarInts$Reader" "bytes" "[B" .null := D127 (Or.inr (hw _ (List.mem_of_getElem? (i := 16) rfl))) (ty := (.array .byte)) (by decide)
  have F_position_b127 : Fld Z h127 b127 "com/example/wakachi/wakachi/VarInts$Reader" "position" "I" (.int (0 : Int32)) := D127 (Or.inl (hw _ (List.mem_of_getElem? (i := 18) rfl))) (ty := .int) (by decide)
  have F_to_b127 : Fld Z h127 b127 "com/example/wakachi/wakachi/VarInts$Reader" "to" "I" (.int (0 : Int32)) := D127 (Or.inr (hw _ (List.mem_of_getElem? (i := 20) rfl))) (ty := .int) (by decide)
  refine own_step (fun _ kc_ => st127 _ kc_) ?_
  show own_Ends p e below s _ _ _ (T127.setTop (mkF m 270 #[.val (.int p1), .val (.int p2), .val (.int p3), .val (.int p4), .val (.int p5), .val (.int p6), .val (.int nn), .val (.int (4 : Int32)), .val (.int fr), .val (.int qb), .val (.ref b108), .val (.int sc), .val (.int cc), .unset, .unset, .unset, .unset, .unset] [(.ref b127)]))
  refine own_step (fun _ kc_ => XS.dup X127.here hx rfl (hb hby at_270) rfl rfl (XS.aload X127.here hx rfl (hb hby at_271) rfl rfl (XS.iload X127.here hx rfl (hb hby at_273) rfl (XS.iload X127.here hx rfl (hb hby at_275) rfl (XS.iload X127.here hx rfl (hb hby at_277) rfl (XS.iadd X127.here hx rfl (hb hby at_279) rfl kc_)))))) ?_
  show own_Ends p e below s _ _ _ (T127.setTop (mkF m 280 #[.val (.int p1), .val (.int p2), .val (.int p3), .val (.int p4), .val (.int p5), .val (.int p6), .val (.int nn), .val (.int (4 : Int32)), .val (.int fr), .val (.int qb), .val (.ref b108), .val (.int sc), .val (.int cc), .unset, .unset, .unset, .unset, .unset] [(.int (fr + cc)), (.int fr), (.ref b108), (.ref b127), (.ref b127)]))
  obtain ⟨C, hC, hcC⟩ : ∃ C : Nat, C < 6 ∧ cc = Int32.ofNat C := own_cut p4 (6 : Int32) 6 (by decide) rfl hcc
  have hto : fr + cc = Int32.ofNat (F + C) := by rw [hfr, hcC, Int32.ofNat_add]
  rw [hto]
  show own_Ends p e below s _ _ _ (T127.setTop (mkF m 280 #[.val (.int p1), .val (.int p2), .val (.int p3), .val (.int p4), .val (.int p5), .val (.int p6), .val (.int nn), .val (.int (4 : Int32)), .val (.int fr), .val (.int qb), .val (.ref b108), .val (.int sc), .val (.int cc), .unset, .unset, .unset, .unset, .unset] [(.int (Int32.ofNat (F + C))), (.int fr), (.ref b108), (.ref b127), (.ref b127)]))
  obtain ⟨vs, hvs⟩ : ∃ v : List Value, (((((((((([(.int (nar .byte qb)), (.int (nar .byte qb)), (.int (nar .byte qb)), (.int (nar .byte qb)), (.int (nar .byte qb)), (.int (nar .byte qb)), (.int (nar .byte qb)), (.int (nar .byte qb)), (.int (nar .byte qb))]).set F (.int (nar .byte (own_enc nn (0 : Int32) (4 : Int32)))))).set (F + 1) (.int (nar .byte (own_enc nn (1 : Int32) (4 : Int32)))))).set (F + 2) (.int (nar .byte (own_enc nn (2 : Int32) (4 : Int32)))))).set (F + 3) (.int (nar .byte (own_enc nn (3 : Int32) (4 : Int32)))))).set (F + 4) (.int (nar .byte (sc.toInt8.toInt32)))) = v := ⟨_, rfl⟩
  have A_vs : own_Ar Z h127 b108 .byte vs := by rw [← hvs]; exact A_b108_127
  have hints : own_ints vs := by rw [← hvs]; exact own_ints_set (own_ints_set (own_ints_set (own_ints_set (own_ints_set (own_ints9 _ _ _ _ _ _ _ _ _)))))
  have hlen : vs.length = 9 := by rw [← hvs]; simp only [List.length_set, List.length_cons, List.length_nil]
  have hb0 : own_iv vs (F + 0) = nar .byte (own_enc nn (0 : Int32) (4 : Int32)) := by rw [← hvs]; exact own_pk4_0 _ _ _ _ _ _  F hF
  have hb1 : own_iv vs (F + 1) = nar .byte (own_enc nn (1 : Int32) (4 : Int32)) := by rw [← hvs]; exact own_pk4_1 _ _ _ _ _ _  F hF
  have hb2 : own_iv vs (F + 2) = nar .byte (own_enc nn (2 : Int32) (4 : Int32)) := by rw [← hvs]; exact own_pk4_2 _ _ _ _ _ _  F hF
  have hb3 : own_iv vs (F + 3) = nar .byte (own_enc nn (3 : Int32) (4 : Int32)) := by rw [← hvs]; exact own_pk4_3 _ _ _ _ _ _  F hF
  have hb4 : own_iv vs (F + 4) = nar .byte (sc.toInt8.toInt32) := by rw [← hvs]; exact own_pk4_4 _ _ _ _ _ _  F hF
  obtain ⟨_, _, ⟨T128, L128, k128, n128⟩, -, X128, ⟨Lc128, hQ128, l128, y128, z128⟩, st128⟩ := X127.specialBack hx (y := (⟨"com/example/wakachi/wakachi/VarInts$Reader", "<init>", "([BII)V"⟩ : MethodName)) rfl hown (mvT hZ (hw _ (List.mem_of_getElem? (i := 9) rfl))) (mvT hZ (hw _ (List.mem_of_getElem? (i := 10) rfl))) (mvT hZ (hw _ (List.mem_of_getElem? (i := 11) rfl))) (by decide) (backOf (W := 1) (rm2 l Z a0 hw [] b127 b108 fr (Int32.ofNat (F + C))  h127 n0 Zs127 A127 F_bytes_b127 F_position_b127 F_to_b127 n0_b127) hZ (hw _ (List.mem_of_getElem? (i := 11) rfl)) (hw _ (List.mem_of_getElem? (i := 8) rfl)) (by decide) (by decide)) (g := (mkF m 280 #[.val (.int p1), .val (.int p2), .val (.int p3), .val (.int p4), .val (.int p5), .val (.int p6), .val (.int nn), .val (.int (4 : Int32)), .val (.int fr), .val (.int qb), .val (.ref b108), .val (.int sc), .val (.int cc), .unset, .unset, .unset, .unset, .unset] [(.int (Int32.ofNat (F + C))), (.int fr), (.ref b108), (.ref b127), (.ref b127)])) rfl (by rw [hml]; rfl) (Steps.refl _) (a := b127) (argsL := [(.ref b108), (.int fr), (.int (Int32.ofNat (F + C)))]) (rest := [(.ref b127)]) (lenOf pd_2 rfl) rfl (by show 2 * 0 + _ ≤ _; exact Nat.le_of_eq rfl) (hb hby at_280) (fun _ _ => ⟨rfl, e127, (by decide : 2 + 0 ≤ _), (by decide : 12 + 0 ≤ _)⟩)
  dsimp only [Pt.U, Pt.locs, Pt.cells, Pt.slots] at X128 l128 y128 z128 st128 hQ128
  subst y128 z128
  obtain ⟨rfl, N128q, K128k, fB128, fP128, fT128⟩ := hQ128
  rw [hfr] at fP128
  have A_b108_128 := (A_vs).keep K128k (ninS ne_b108_b127 nin0)
  have E_b127_128 := (A127).keep K128k
  have Zs128 := Nat.le_trans Zs127 K128k.1
  have N128 : Fr n0 L128 := by rw [l128]; exact Fr.app N126 N128q
  refine own_step (fun _ kc_ => st128.trans kc_) ?_
  show own_Ends p e below s _ _ _ (T128.setTop (mkF m 283 #[.val (.int p1), .val (.int p2), .val (.int p3), .val (.int p4), .val (.int p5), .val (.int p6), .val (.int nn), .val (.int (4 : Int32)), .val (.int fr), .val (.int qb), .val (.ref b108), .val (.int sc), .val (.int cc), .unset, .unset, .unset, .unset, .unset] [(.ref b127)]))
  refine own_step (fun _ kc_ => XS.astore X128.here hx rfl (hb hby at_283) rfl rfl (l' := #[.val (.int p1), .val (.int p2), .val (.int p3), .val (.int p4), .val (.int p5), .val (.int p6), .val (.int nn), .val (.int (4 : Int32)), .val (.int fr), .val (.int qb), .val (.ref b108), .val (.int sc), .val (.int cc), .val (.ref b127), .unset, .unset, .unset, .unset]) rfl kc_) ?_
  show own_Ends p e below s _ _ _ (T128.setTop (mkF m 285 #[.val (.int p1), .val (.int p2), .val (.int p3), .val (.int p4), .val (.int p5), .val (.int p6), .val (.int nn), .val (.int (4 : Int32)), .val (.int fr), .val (.int qb), .val (.ref b108), .val (.int sc), .val (.int cc), .val (.ref b127), .unset, .unset, .unset, .unset] []))
  rcases (show C < 4 ∨ C = 4 ∨ C = 5 by omega) with hC1 | hC1 | hC1
  · have hx1 : own_nx vs F 0 0 C = (-1, F + C) := own_nx_all vs C F 0 0 (own_neg4 vs F C nn hC1 hb0 hb1 hb2 hb3)
    have hx2 : own_nx vs (F + C) 0 0 0 = (-1, F + C) := rfl
    have hh1 := own_hasEq (F + C)
    have hh2 := own_hasEq (F + C)
    show own_Ends p e below s _ _ _ (T128.setTop (mkF m 285 #[.val (.int p1), .val (.int p2), .val (.int p3), .val (.int p4), .val (.int p5), .val (.int p6), .val (.int nn), .val (.int (4 : Int32)), .val (.int fr), .val (.int qb), .val (.ref b108), .val (.int sc), .val (.int cc), .val (.ref b127), .unset, .unset, .unset, .unset] []))
    refine own_step (fun _ kc_ => XS.aload X128.here hx rfl (hb hby at_285) rfl rfl kc_) ?_
    show own_Ends p e below s _ _ _ (T128.setTop (mkF m 287 #[.val (.int p1), .val (.int p2), .val (.int p3), .val (.int p4), .val (.int p5), .val (.int p6), .val (.int nn), .val (.int (4 : Int32)), .val (.int fr), .val (.int qb), .val (.ref b108), .val (.int sc), .val (.int cc), .val (.ref b127), .unset, .unset, .unset, .unset] [(.ref b127)]))
    obtain ⟨cq129, kq129, q129a, q129b, q129c⟩ := isOf hZ rfl E_b127_128
    obtain ⟨_, _, ⟨T129, L129, k129, n129⟩, -, X129, ⟨Lc129, hQ129, l129, y129, z129⟩, st129⟩ := X128.virtualBack hx (y := (⟨"com/example/wakachi/wakachi/VarInts$Reader", "next", "()I"⟩ : MethodName)) (z := (⟨"com/example/wakachi/wakachi/VarInts$Reader", "next", "()I"⟩ : MethodName)) hown (mvT hZ (hw _ (List.mem_of_getElem? (i := 21) rfl))) (mvT hZ (hw _ (List.mem_of_getElem? (i := 22) rfl))) (notFace_of_selects (args := #[]) (mvT hZ (hw _ (List.mem_of_getElem? (i := 24) rfl)))) (mvT hZ (hw _ (List.mem_of_getElem? (i := 24) rfl))) (mvT hZ (hw _ (List.mem_of_getElem? (i := 23) rfl))) (by decide) (backOf (W := 0) (rm4 l Z a0 hw [] b127 b108 vs F C T128.heap n0 Zs128 E_b127_128 fB128 fP128 fT128 A_b108_128 hints (by rw [hlen]; omega) n0_b127 (Ne.symm ne_b108_b127)) hZ (hw _ (List.mem_of_getElem? (i := 25) rfl)) (hw _ (List.mem_of_getElem? (i := 8) rfl)) (by decide) (by decide)) q129a q129c (g := (mkF m 287 #[.val (.int p1), .val (.int p2), .val (.int p3), .val (.int p4), .val (.int p5), .val (.int p6), .val (.int nn), .val (.int (4 : Int32)), .val (.int fr), .val (.int qb), .val (.ref b108), .val (.int sc), .val (.int cc), .val (.ref b127), .unset, .unset, .unset, .unset] [(.ref b127)])) rfl (by rw [hml]; rfl) (Steps.refl _) (argsL := []) (rest := []) (lenOf pd_3 rfl) rfl (by show 2 * 0 + _ ≤ _; exact Nat.le_of_eq rfl) (hb hby at_287) (fun _ _ => ⟨rfl, rfl, (by decide : 2 + 0 ≤ _), (by decide : 12 + 0 ≤ _)⟩)
    dsimp only [Pt.U, Pt.locs, Pt.cells, Pt.slots] at X129 l129 y129 z129 st129 hQ129
    subst y129 z129
    obtain ⟨hv129, N129q, K129k, fP129, fB129, fT129⟩ := hQ129
    rw [hx1] at hv129 fP129
    subst hv129
    have A_b108_129 := (A_b108_128).keep K129k (ninS ne_b108_b127 nin0)
    have E_b127_129 := (E_b127_128).keep K129k
    have Zs129 := Nat.le_trans Zs128 K129k.1
    have N129 : Fr n0 L129 := by rw [l129]; exact Fr.app N128 N129q
    refine own_step (fun _ kc_ => st129.trans kc_) ?_
    show own_Ends p e below s _ _ _ (T129.setTop (mkF m 290 #[.val (.int p1), .val (.int p2), .val (.int p3), .val (.int p4), .val (.int p5), .val (.int p6), .val (.int nn), .val (.int (4 : Int32)), .val (.int fr), .val (.int qb), .val (.ref b108), .val (.int sc), .val (.int cc), .val (.ref b127), .unset, .unset, .unset, .unset] [(.int (-1 : Int32))]))
    refine own_step (fun _ kc_ => XS.istore X129.here hx rfl (hb hby at_290) rfl (l' := #[.val (.int p1), .val (.int p2), .val (.int p3), .val (.int p4), .val (.int p5), .val (.int p6), .val (.int nn), .val (.int (4 : Int32)), .val (.int fr), .val (.int qb), .val (.ref b108), .val (.int sc), .val (.int cc), .val (.ref b127), .val (.int (-1 : Int32)), .unset, .unset, .unset]) rfl (XS.aload X129.here hx rfl (hb hby at_292) rfl rfl kc_)) ?_
    show own_Ends p e below s _ _ _ (T129.setTop (mkF m 294 #[.val (.int p1), .val (.int p2), .val (.int p3), .val (.int p4), .val (.int p5), .val (.int p6), .val (.int nn), .val (.int (4 : Int32)), .val (.int fr), .val (.int qb), .val (.ref b108), .val (.int sc), .val (.int cc), .val (.ref b127), .val (.int (-1 : Int32)), .unset, .unset, .unset] [(.ref b127)]))
    obtain ⟨cq130, kq130, q130a, q130b, q130c⟩ := isOf hZ rfl E_b127_129
    obtain ⟨_, _, ⟨T130, L130, k130, n130⟩, -, X130, ⟨Lc130, hQ130, l130, y130, z130⟩, st130⟩ := X129.virtualBack hx (y := (⟨"com/example/wakachi/wakachi/VarInts$Reader", "hasNext", "()Z"⟩ : MethodName)) (z := (⟨"com/example/wakachi/wakachi/VarInts$Reader", "hasNext", "()Z"⟩ : MethodName)) hown (mvT hZ (hw _ (List.mem_of_getElem? (i := 26) rfl))) (mvT hZ (hw _ (List.mem_of_getElem? (i := 27) rfl))) (notFace_of_selects (args := #[]) (mvT hZ (hw _ (List.mem_of_getElem? (i := 29) rfl)))) (mvT hZ (hw _ (List.mem_of_getElem? (i := 29) rfl))) (mvT hZ (hw _ (List.mem_of_getElem? (i := 28) rfl))) (by decide) (backOf (W := 0) (rm5 l Z a0 hw [] b127 (Int32.ofNat (F + C)) (Int32.ofNat (F + C)) T129.heap n0 Zs129 fP129 fT129) hZ (hw _ (List.mem_of_getElem? (i := 30) rfl)) (hw _ (List.mem_of_getElem? (i := 8) rfl)) (by decide) (by decide)) q130a q130c (g := (mkF m 294 #[.val (.int p1), .val (.int p2), .val (.int p3), .val (.int p4), .val (.int p5), .val (.int p6), .val (.int nn), .val (.int (4 : Int32)), .val (.int fr), .val (.int qb), .val (.ref b108), .val (.int sc), .val (.int cc), .val (.ref b127), .val (.int (-1 : Int32)), .unset, .unset, .unset] [(.ref b127)])) rfl (by rw [hml]; rfl) (Steps.refl _) (argsL := []) (rest := []) (lenOf pd_4 rfl) rfl (by show 2 * 0 + _ ≤ _; exact Nat.le_of_eq rfl) (hb hby at_294) (fun _ _ => ⟨rfl, rfl, (by decide : 2 + 0 ≤ _), (by decide : 12 + 0 ≤ _)⟩)
    dsimp only [Pt.U, Pt.locs, Pt.cells, Pt.slots] at X130 l130 y130 z130 st130 hQ130
    subst y130 z130
    obtain ⟨hv130, N130q, e130⟩ := hQ130
    rw [hh1] at hv130
    subst hv130
    have e130h : T130.heap = T129.heap := e130
    have N130 : Fr n0 L130 := by rw [l130]; exact Fr.app N129 N130q
    refine own_step (fun _ kc_ => st130.trans kc_) ?_
    show own_Ends p e below s _ _ _ (T130.setTop (mkF m 297 #[.val (.int p1), .val (.int p2), .val (.int p3), .val (.int p4), .val (.int p5), .val (.int p6), .val (.int nn), .val (.int (4 : Int32)), .val (.int fr), .val (.int qb), .val (.ref b108), .val (.int sc), .val (.int cc), .val (.ref b127), .val (.int (-1 : Int32)), .unset, .unset, .unset] [(.int (0 : Int32))]))
    refine own_step (fun _ kc_ => XS.istore X130.here hx rfl (hb hby at_297) rfl (l' := #[.val (.int p1), .val (.int p2), .val (.int p3), .val (.int p4), .val (.int p5), .val (.int p6), .val (.int nn), .val (.int (4 : Int32)), .val (.int fr), .val (.int qb), .val (.ref b108), .val (.int sc), .val (.int cc), .val (.ref b127), .val (.int (-1 : Int32)), .val (.int (0 : Int32)), .unset, .unset]) rfl (XS.aload X130.here hx rfl (hb hby at_299) rfl rfl kc_)) ?_
    show own_Ends p e below s _ _ _ (T130.setTop (mkF m 301 #[.val (.int p1), .val (.int p2), .val (.int p3), .val (.int p4), .val (.int p5), .val (.int p6), .val (.int nn), .val (.int (4 : Int32)), .val (.int fr), .val (.int qb), .val (.ref b108), .val (.int sc), .val (.int cc), .val (.ref b127), .val (.int (-1 : Int32)), .val (.int (0 : Int32)), .unset, .unset] [(.ref b127)]))
    obtain ⟨cq131, kq131, q131a, q131b, q131c⟩ := isOf hZ e130h E_b127_129
    obtain ⟨_, _, ⟨T131, L131, k131, n131⟩, -, X131, ⟨Lc131, hQ131, l131, y131, z131⟩, st131⟩ := X130.virtualBack hx (y := (⟨"com/example/wakachi/wakachi/VarInts$Reader", "next", "()I"⟩ : MethodName)) (z := (⟨"com/example/wakachi/wakachi/VarInts$Reader", "next", "()I"⟩ : MethodName)) hown (mvT hZ (hw _ (List.mem_of_getElem? (i := 21) rfl))) (mvT hZ (hw _ (List.mem_of_getElem? (i := 22) rfl))) (notFace_of_selects (args := #[]) (mvT hZ (hw _ (List.mem_of_getElem? (i := 24) rfl)))) (mvT hZ (hw _ (List.mem_of_getElem? (i := 24) rfl))) (mvT hZ (hw _ (List.mem_of_getElem? (i := 23) rfl))) (by decide) (backOf (W := 0) (rm4 l Z a0 hw [] b127 b108 vs (F + C) 0 T129.heap n0 Zs129 E_b127_129 fB129 fP129 fT129 A_b108_129 hints (by rw [hlen]; omega) n0_b127 (Ne.symm ne_b108_b127)) hZ (hw _ (List.mem_of_getElem? (i := 25) rfl)) (hw _ (List.mem_of_getElem? (i := 8) rfl)) (by decide) (by decide)) q131a q131c (g := (mkF m 301 #[.val (.int p1), .val (.int p2), .val (.int p3), .val (.int p4), .val (.int p5), .val (.int p6), .val (.int nn), .val (.int (4 : Int32)), .val (.int fr), .val (.int qb), .val (.ref b108), .val (.int sc), .val (.int cc), .val (.ref b127), .val (.int (-1 : Int32)), .val (.int (0 : Int32)), .unset, .unset] [(.ref b127)])) rfl (by rw [hml]; rfl) (Steps.refl _) (argsL := []) (rest := []) (lenOf pd_3 rfl) rfl (by show 2 * 0 + _ ≤ _; exact Nat.le_of_eq rfl) (hb hby at_301) (fun _ _ => ⟨rfl, e130h, (by decide : 2 + 0 ≤ _), (by decide : 12 + 0 ≤ _)⟩)
    dsimp only [Pt.U, Pt.locs, Pt.cells, Pt.slots] at X131 l131 y131 z131 st131 hQ131
    subst y131 z131
    obtain ⟨hv131, N131q, K131k, fP131, fB131, fT131⟩ := hQ131
    rw [hx2] at hv131 fP131
    subst hv131
    have A_b108_131 := (A_b108_129).keep K131k (ninS ne_b108_b127 nin0)
    have E_b127_131 := (E_b127_129).keep K131k
    have Zs131 := Nat.le_trans Zs129 K131k.1
    have N131 : Fr n0 L131 := by rw [l131]; exact Fr.app N130 N131q
    refine own_step (fun _ kc_ => st131.trans kc_) ?_
    show own_Ends p e below s _ _ _ (T131.setTop (mkF m 304 #[.val (.int p1), .val (.int p2), .val (.int p3), .val (.int p4), .val (.int p5), .val (.int p6), .val (.int nn), .val (.int (4 : Int32)), .val (.int fr), .val (.int qb), .val (.ref b108), .val (.int sc), .val (.int cc), .val (.ref b127), .val (.int (-1 : Int32)), .val (.int (0 : Int32)), .unset, .unset] [(.int (-1 : Int32))]))
    refine own_step (fun _ kc_ => XS.istore X131.here hx rfl (hb hby at_304) rfl (l' := #[.val (.int p1), .val (.int p2), .val (.int p3), .val (.int p4), .val (.int p5), .val (.int p6), .val (.int nn), .val (.int (4 : Int32)), .val (.int fr), .val (.int qb), .val (.ref b108), .val (.int sc), .val (.int cc), .val (.ref b127), .val (.int (-1 : Int32)), .val (.int (0 : Int32)), .val (.int (-1 : Int32)), .unset]) rfl (XS.aload X131.here hx rfl (hb hby at_306) rfl rfl kc_)) ?_
    show own_Ends p e below s _ _ _ (T131.setTop (mkF m 308 #[.val (.int p1), .val (.int p2), .val (.int p3), .val (.int p4), .val (.int p5), .val (.int p6), .val (.int nn), .val (.int (4 : Int32)), .val (.int fr), .val (.int qb), .val (.ref b108), .val (.int sc), .val (.int cc), .val (.ref b127), .val (.int (-1 : Int32)), .val (.int (0 : Int32)), .val (.int (-1 : Int32)), .unset] [(.ref b127)]))
    obtain ⟨cq132, kq132, q132a, q132b, q132c⟩ := isOf hZ rfl E_b127_131
    obtain ⟨_, _, ⟨T132, L132, k132, n132⟩, -, X132, ⟨Lc132, hQ132, l132, y132, z132⟩, st132⟩ := X131.virtualBack hx (y := (⟨"com/example/wakachi/wakachi/VarInts$Reader", "hasNext", "()Z"⟩ : MethodName)) (z := (⟨"com/example/wakachi/wakachi/VarInts$Reader", "hasNext", "()Z"⟩ : MethodName)) hown (mvT hZ (hw _ (List.mem_of_getElem? (i := 26) rfl))) (mvT hZ (hw _ (List.mem_of_getElem? (i := 27) rfl))) (notFace_of_selects (args := #[]) (mvT hZ (hw _ (List.mem_of_getElem? (i := 29) rfl)))) (mvT hZ (hw _ (List.mem_of_getElem? (i := 29) rfl))) (mvT hZ (hw _ (List.mem_of_getElem? (i := 28) rfl))) (by decide) (backOf (W := 0) (rm5 l Z a0 hw [] b127 (Int32.ofNat (F + C)) (Int32.ofNat (F + C)) T131.heap n0 Zs131 fP131 fT131) hZ (hw _ (List.mem_of_getElem? (i := 30) rfl)) (hw _ (List.mem_of_getElem? (i := 8) rfl)) (by decide) (by decide)) q132a q132c (g := (mkF m 308 #[.val (.int p1), .val (.int p2), .val (.int p3), .val (.int p4), .val (.int p5), .val (.int p6), .val (.int nn), .val (.int (4 : Int32)), .val (.int fr), .val (.int qb), .val (.ref b108), .val (.int sc), .val (.int cc), .val (.ref b127), .val (.int (-1 : Int32)), .val (.int (0 : Int32)), .val (.int (-1 : Int32)), .unset] [(.ref b127)])) rfl (by rw [hml]; rfl) (Steps.refl _) (argsL := []) (rest := []) (lenOf pd_4 rfl) rfl (by show 2 * 0 + _ ≤ _; exact Nat.le_of_eq rfl) (hb hby at_308) (fun _ _ => ⟨rfl, rfl, (by decide : 2 + 0 ≤ _), (by decide : 12 + 0 ≤ _)⟩)
    dsimp only [Pt.U, Pt.locs, Pt.cells, Pt.slots] at X132 l132 y132 z132 st132 hQ132
    subst y132 z132
    obtain ⟨hv132, N132q, e132⟩ := hQ132
    rw [hh2] at hv132
    subst hv132
    have e132h : T132.heap = T131.heap := e132
    have N132 : Fr n0 L132 := by rw [l132]; exact Fr.app N131 N132q
    refine own_step (fun _ kc_ => st132.trans kc_) ?_
    show own_Ends p e below s _ _ _ (T132.setTop (mkF m 311 #[.val (.int p1), .val (.int p2), .val (.int p3), .val (.int p4), .val (.int p5), .val (.int p6), .val (.int nn), .val (.int (4 : Int32)), .val (.int fr), .val (.int qb), .val (.ref b108), .val (.int sc), .val (.int cc), .val (.ref b127), .val (.int (-1 : Int32)), .val (.int (0 : Int32)), .val (.int (-1 : Int32)), .unset] [(.int (0 : Int32))]))
    refine own_step (fun _ kc_ => XS.istore X132.here hx rfl (hb hby at_311) rfl (l' := #[.val (.int p1), .val (.int p2), .val (.int p3), .val (.int p4), .val (.int p5), .val (.int p6), .val (.int nn), .val (.int (4 : Int32)), .val (.int fr), .val (.int qb), .val (.ref b108), .val (.int sc), .val (.int cc), .val (.ref b127), .val (.int (-1 : Int32)), .val (.int (0 : Int32)), .val (.int (-1 : Int32)), .val (.int (0 : Int32))]) rfl (XS.iload X132.here hx rfl (hb hby at_313) rfl (XS.iload X132.here hx rfl (hb hby at_315) rfl (XS.icmpNo X132.here hx rfl (hb hby at_317) rfl (XT.ii_ge_f (by rw [hcC]; exact own_ofNat_lt hC1 (by decide) : cc < (4 : Int32))) (XS.iload X132.here hx rfl (hb hby at_320) rfl (XS.iconst X132.here hx rfl (hb hby at_322) (XS.icmpNo X132.here hx rfl (hb hby at_323) rfl (XT.ii_ne_f (by decide : (-1 : Int32) = (-1 : Int32))) (XS.iload X132.here hx rfl (hb hby at_326) rfl kc_)))))))) ?_
    show own_Ends p e below s _ _ _ (T132.setTop (mkF m 328 #[.val (.int p1), .val (.int p2), .val (.int p3), .val (.int p4), .val (.int p5), .val (.int p6), .val (.int nn), .val (.int (4 : Int32)), .val (.int fr), .val (.int qb), .val (.ref b108), .val (.int sc), .val (.int cc), .val (.ref b127), .val (.int (-1 : Int32)), .val (.int (0 : Int32)), .val (.int (-1 : Int32)), .val (.int (0 : Int32))] [(.int (0 : Int32))]))
    refine own_step (fun _ kc_ => XS.ifNo X132.here hx rfl (hb hby at_328) rfl (XT.i0_ne_f (by decide : (0 : Int32) = 0)) (XS.iload X132.here hx rfl (hb hby at_331) rfl (XS.iconst X132.here hx rfl (hb hby at_333) (XS.icmpNo X132.here hx rfl (hb hby at_334) rfl (XT.ii_ne_f (by decide : (-1 : Int32) = (-1 : Int32))) (XS.iload X132.here hx rfl (hb hby at_337) rfl (XS.ifNo X132.here hx rfl (hb hby at_339) rfl (XT.i0_ne_f (by decide : (0 : Int32) = 0)) (XS.iconst X132.here hx rfl (hb hby at_342) (XS.goto X132.here hx rfl (pc0 := 343) (pc' := 347) rfl (hb hby at_343) (by decide) (by decide) kc_)))))))) ?_
    show own_Ends p e below s _ _ _ (T132.setTop (mkF m 347 #[.val (.int p1), .val (.int p2), .val (.int p3), .val (.int p4), .val (.int p5), .val (.int p6), .val (.int nn), .val (.int (4 : Int32)), .val (.int fr), .val (.int qb), .val (.ref b108), .val (.int sc), .val (.int cc), .val (.ref b127), .val (.int (-1 : Int32)), .val (.int (0 : Int32)), .val (.int (-1 : Int32)), .val (.int (0 : Int32))] [(.int (1 : Int32))]))
    exact own_retN X132 hx (t := .boolean) hret (by simp) hlk (hb hby at_347) (by decide) (by decide) rfl ⟨rfl, N132⟩
  · subst hC1
    have hx1 : own_nx vs F 0 0 4 = (nn, F + 4) := own_run4 vs F 0 nn hn0 hn1 hb0 hb1 hb2 hb3
    have hx2 : own_nx vs (F + 4) 0 0 0 = (-1, F + 4) := rfl
    have hh1 := own_hasEq (F + 4)
    have hh2 := own_hasEq (F + 4)
    show own_Ends p e below s _ _ _ (T128.setTop (mkF m 285 #[.val (.int p1), .val (.int p2), .val (.int p3), .val (.int p4), .val (.int p5), .val (.int p6), .val (.int nn), .val (.int (4 : Int32)), .val (.int fr), .val (.int qb), .val (.ref b108), .val (.int sc), .val (.int cc), .val (.ref b127), .unset, .unset, .unset, .unset] []))
    refine own_step (fun _ kc_ => XS.aload X128.here hx rfl (hb hby at_285) rfl rfl kc_) ?_
    show own_Ends p e below s _ _ _ (T128.setTop (mkF m 287 #[.val (.int p1), .val (.int p2), .val (.int p3), .val (.int p4), .val (.int p5), .val (.int p6), .val (.int nn), .val (.int (4 : Int32)), .val (.int fr), .val (.int qb), .val (.ref b108), .val (.int sc), .val (.int cc), .val (.ref b127), .unset, .unset, .unset, .unset] [(.ref b127)]))
    obtain ⟨cq133, kq133, q133a, q133b, q133c⟩ := isOf hZ rfl E_b127_128
    obtain ⟨_, _, ⟨T133, L133, k133, n133⟩, -, X133, ⟨Lc133, hQ133, l133, y133, z133⟩, st133⟩ := X128.virtualBack hx (y := (⟨"com/example/wakachi/wakachi/VarInts$Reader", "next", "()I"⟩ : MethodName)) (z := (⟨"com/example/wakachi/wakachi/VarInts$Reader", "next", "()I"⟩ : MethodName)) hown (mvT hZ (hw _ (List.mem_of_getElem? (i := 21) rfl))) (mvT hZ (hw _ (List.mem_of_getElem? (i := 22) rfl))) (notFace_of_selects (args := #[]) (mvT hZ (hw _ (List.mem_of_getElem? (i := 24) rfl)))) (mvT hZ (hw _ (List.mem_of_getElem? (i := 24) rfl))) (mvT hZ (hw _ (List.mem_of_getElem? (i := 23) rfl))) (by decide) (backOf (W := 0) (rm4 l Z a0 hw [] b127 b108 vs F 4 T128.heap n0 Zs128 E_b127_128 fB128 fP128 fT128 A_b108_128 hints (by rw [hlen]; omega) n0_b127 (Ne.symm ne_b108_b127)) hZ (hw _ (List.mem_of_getElem? (i := 25) rfl)) (hw _ (List.mem_of_getElem? (i := 8) rfl)) (by decide) (by decide)) q133a q133c (g := (mkF m 287 #[.val (.int p1), .val (.int p2), .val (.int p3), .val (.int p4), .val (.int p5), .val (.int p6), .val (.int nn), .val (.int (4 : Int32)), .val (.int fr), .val (.int qb), .val (.ref b108), .val (.int sc), .val (.int cc), .val (.ref b127), .unset, .unset, .unset, .unset] [(.ref b127)])) rfl (by rw [hml]; rfl) (Steps.refl _) (argsL := []) (rest := []) (lenOf pd_3 rfl) rfl (by show 2 * 0 + _ ≤ _; exact Nat.le_of_eq rfl) (hb hby at_287) (fun _ _ => ⟨rfl, rfl, (by decide : 2 + 0 ≤ _), (by decide : 12 + 0 ≤ _)⟩)
    dsimp only [Pt.U, Pt.locs, Pt.cells, Pt.slots] at X133 l133 y133 z133 st133 hQ133
    subst y133 z133
    obtain ⟨hv133, N133q, K133k, fP133, fB133, fT133⟩ := hQ133
    rw [hx1] at hv133 fP133
    subst hv133
    have A_b108_133 := (A_b108_128).keep K133k (ninS ne_b108_b127 nin0)
    have E_b127_133 := (E_b127_128).keep K133k
    have Zs133 := Nat.le_trans Zs128 K133k.1
    have N133 : Fr n0 L133 := by rw [l133]; exact Fr.app N128 N133q
    refine own_step (fun _ kc_ => st133.trans kc_) ?_
    show own_Ends p e below s _ _ _ (T133.setTop (mkF m 290 #[.val (.int p1), .val (.int p2), .val (.int p3), .val (.int p4), .val (.int p5), .val (.int p6), .val (.int nn), .val (.int (4 : Int32)), .val (.int fr), .val (.int qb), .val (.ref b108), .val (.int sc), .val (.int cc), .val (.ref b127), .unset, .unset, .unset, .unset] [(.int nn)]))
    refine own_step (fun _ kc_ => XS.istore X133.here hx rfl (hb hby at_290) rfl (l' := #[.val (.int p1), .val (.int p2), .val (.int p3), .val (.int p4), .val (.int p5), .val (.int p6), .val (.int nn), .val (.int (4 : Int32)), .val (.int fr), .val (.int qb), .val (.ref b108), .val (.int sc), .val (.int cc), .val (.ref b127), .val (.int nn), .unset, .unset, .unset]) rfl (XS.aload X133.here hx rfl (hb hby at_292) rfl rfl kc_)) ?_
    show own_Ends p e below s _ _ _ (T133.setTop (mkF m 294 #[.val (.int p1), .val (.int p2), .val (.int p3), .val (.int p4), .val (.int p5), .val (.int p6), .val (.int nn), .val (.int (4 : Int32)), .val (.int fr), .val (.int qb), .val (.ref b108), .val (.int sc), .val (.int cc), .val (.ref b127), .val (.int nn), .unset, .unset, .unset] [(.ref b127)]))
    obtain ⟨cq134, kq134, q134a, q134b, q134c⟩ := isOf hZ rfl E_b127_133
    obtain ⟨_, _, ⟨T134, L134, k134, n134⟩, -, X134, ⟨Lc134, hQ134, l134, y134, z134⟩, st134⟩ := X133.virtualBack hx (y := (⟨"com/example/wakachi/wakachi/VarInts$Reader", "hasNext", "()Z"⟩ : MethodName)) (z := (⟨"com/example/wakachi/wakachi/VarInts$Reader", "hasNext", "()Z"⟩ : MethodName)) hown (mvT hZ (hw _ (List.mem_of_getElem? (i := 26) rfl))) (mvT hZ (hw _ (List.mem_of_getElem? (i := 27) rfl))) (notFace_of_selects (args := #[]) (mvT hZ (hw _ (List.mem_of_getElem? (i := 29) rfl)))) (mvT hZ (hw _ (List.mem_of_getElem? (i := 29) rfl))) (mvT hZ (hw _ (List.mem_of_getElem? (i := 28) rfl))) (by decide) (backOf (W := 0) (rm5 l Z a0 hw [] b127 (Int32.ofNat (F + 4)) (Int32.ofNat (F + 4)) T133.heap n0 Zs133 fP133 fT133) hZ (hw _ (List.mem_of_getElem? (i := 30) rfl)) (hw _ (List.mem_of_getElem? (i := 8) rfl)) (by decide) (by decide)) q134a q134c (g := (mkF m 294 #[.val (.int p1), .val (.int p2), .val (.int p3), .val (.int p4), .val (.int p5), .val (.int p6), .val (.int nn), .val (.int (4 : Int32)), .val (.int fr), .val (.int qb), .val (.ref b108), .val (.int sc), .val (.int cc), .val (.ref b127), .val (.int nn), .unset, .unset, .unset] [(.ref b127)])) rfl (by rw [hml]; rfl) (Steps.refl _) (argsL := []) (rest := []) (lenOf pd_4 rfl) rfl (by show 2 * 0 + _ ≤ _; exact Nat.le_of_eq rfl) (hb hby at_294) (fun _ _ => ⟨rfl, rfl, (by decide : 2 + 0 ≤ _), (by decide : 12 + 0 ≤ _)⟩)
    dsimp only [Pt.U, Pt.locs, Pt.cells, Pt.slots] at X134 l134 y134 z134 st134 hQ134
    subst y134 z134
    obtain ⟨hv134, N134q, e134⟩ := hQ134
    rw [hh1] at hv134
    subst hv134
    have e134h : T134.heap = T133.heap := e134
    have N134 : Fr n0 L134 := by rw [l134]; exact Fr.app N133 N134q
    refine own_step (fun _ kc_ => st134.trans kc_) ?_
    show own_Ends p e below s _ _ _ (T134.setTop (mkF m 297 #[.val (.int p1), .val (.int p2), .val (.int p3), .val (.int p4), .val (.int p5), .val (.int p6), .val (.int nn), .val (.int (4 : Int32)), .val (.int fr), .val (.int qb), .val (.ref b108), .val (.int sc), .val (.int cc), .val (.ref b127), .val (.int nn), .unset, .unset, .unset] [(.int (0 : Int32))]))
    refine own_step (fun _ kc_ => XS.istore X134.here hx rfl (hb hby at_297) rfl (l' := #[.val (.int p1), .val (.int p2), .val (.int p3), .val (.int p4), .val (.int p5), .val (.int p6), .val (.int nn), .val (.int (4 : Int32)), .val (.int fr), .val (.int qb), .val (.ref b108), .val (.int sc), .val (.int cc), .val (.ref b127), .val (.int nn), .val (.int (0 : Int32)), .unset, .unset]) rfl (XS.aload X134.here hx rfl (hb hby at_299) rfl rfl kc_)) ?_
    show own_Ends p e below s _ _ _ (T134.setTop (mkF m 301 #[.val (.int p1), .val (.int p2), .val (.int p3), .val (.int p4), .val (.int p5), .val (.int p6), .val (.int nn), .val (.int (4 : Int32)), .val (.int fr), .val (.int qb), .val (.ref b108), .val (.int sc), .val (.int cc), .val (.ref b127), .val (.int nn), .val (.int (0 : Int32)), .unset, .unset] [(.ref b127)]))
    obtain ⟨cq135, kq135, q135a, q135b, q135c⟩ := isOf hZ e134h E_b127_133
    obtain ⟨_, _, ⟨T135, L135, k135, n135⟩, -, X135, ⟨Lc135, hQ135, l135, y135, z135⟩, st135⟩ := X134.virtualBack hx (y := (⟨"com/example/wakachi/wakachi/VarInts$Reader", "next", "()I"⟩ : MethodName)) (z := (⟨"com/example/wakachi/wakachi/VarInts$Reader", "next", "()I"⟩ : MethodName)) hown (mvT hZ (hw _ (List.mem_of_getElem? (i := 21) rfl))) (mvT hZ (hw _ (List.mem_of_getElem? (i := 22) rfl))) (notFace_of_selects (args := #[]) (mvT hZ (hw _ (List.mem_of_getElem? (i := 24) rfl)))) (mvT hZ (hw _ (List.mem_of_getElem? (i := 24) rfl))) (mvT hZ (hw _ (List.mem_of_getElem? (i := 23) rfl))) (by decide) (backOf (W := 0) (rm4 l Z a0 hw [] b127 b108 vs (F + 4) 0 T133.heap n0 Zs133 E_b127_133 fB133 fP133 fT133 A_b108_133 hints (by rw [hlen]; omega) n0_b127 (Ne.symm ne_b108_b127)) hZ (hw _ (List.mem_of_getElem? (i := 25) rfl)) (hw _ (List.mem_of_getElem? (i := 8) rfl)) (by decide) (by decide)) q135a q135c (g := (mkF m 301 #[.val (.int p1), .val (.int p2), .val (.int p3), .val (.int p4), .val (.int p5), .val (.int p6), .val (.int nn), .val (.int (4 : Int32)), .val (.int fr), .val (.int qb), .val (.ref b108), .val (.int sc), .val (.int cc), .val (.ref b127), .val (.int nn), .val (.int (0 : Int32)), .unset, .unset] [(.ref b127)])) rfl (by rw [hml]; rfl) (Steps.refl _) (argsL := []) (rest := []) (lenOf pd_3 rfl) rfl (by show 2 * 0 + _ ≤ _; exact Nat.le_of_eq rfl) (hb hby at_301) (fun _ _ => ⟨rfl, e134h, (by decide : 2 + 0 ≤ _), (by decide : 12 + 0 ≤ _)⟩)
    dsimp only [Pt.U, Pt.locs, Pt.cells, Pt.slots] at X135 l135 y135 z135 st135 hQ135
    subst y135 z135
    obtain ⟨hv135, N135q, K135k, fP135, fB135, fT135⟩ := hQ135
    rw [hx2] at hv135 fP135
    subst hv135
    have A_b108_135 := (A_b108_133).keep K135k (ninS ne_b108_b127 nin0)
    have E_b127_135 := (E_b127_133).keep K135k
    have Zs135 := Nat.le_trans Zs133 K135k.1
    have N135 : Fr n0 L135 := by rw [l135]; exact Fr.app N134 N135q
    refine own_step (fun _ kc_ => st135.trans kc_) ?_
    show own_Ends p e below s _ _ _ (T135.setTop (mkF m 304 #[.val (.int p1), .val (.int p2), .val (.int p3), .val (.int p4), .val (.int p5), .val (.int p6), .val (.int nn), .val (.int (4 : Int32)), .val (.int fr), .val (.int qb), .val (.ref b108), .val (.int sc), .val (.int cc), .val (.ref b127), .val (.int nn), .val (.int (0 : Int32)), .unset, .unset] [(.int (-1 : Int32))]))
    refine own_step (fun _ kc_ => XS.istore X135.here hx rfl (hb hby at_304) rfl (l' := #[.val (.int p1), .val (.int p2), .val (.int p3), .val (.int p4), .val (.int p5), .val (.int p6), .val (.int nn), .val (.int (4 : Int32)), .val (.int fr), .val (.int qb), .val (.ref b108), .val (.int sc), .val (.int cc), .val (.ref b127), .val (.int nn), .val (.int (0 : Int32)), .val (.int (-1 : Int32)), .unset]) rfl (XS.aload X135.here hx rfl (hb hby at_306) rfl rfl kc_)) ?_
    show own_Ends p e below s _ _ _ (T135.setTop (mkF m 308 #[.val (.int p1), .val (.int p2), .val (.int p3), .val (.int p4), .val (.int p5), .val (.int p6), .val (.int nn), .val (.int (4 : Int32)), .val (.int fr), .val (.int qb), .val (.ref b108), .val (.int sc), .val (.int cc), .val (.ref b127), .val (.int nn), .val (.int (0 : Int32)), .val (.int (-1 : Int32)), .unset] [(.ref b127)]))
    obtain ⟨cq136, kq136, q136a, q136b, q136c⟩ := isOf hZ rfl E_b127_135
    obtain ⟨_, _, ⟨T136, L136, k136, n136⟩, -, X136, ⟨Lc136, hQ136, l136, y136, z136⟩, st136⟩ := X135.virtualBack hx (y := (⟨"com/example/wakachi/wakachi/VarInts$Reader", "hasNext", "()Z"⟩ : MethodName)) (z := (⟨"com/example/wakachi/wakachi/VarInts$Reader", "hasNext", "()Z"⟩ : MethodName)) hown (mvT hZ (hw _ (List.mem_of_getElem? (i := 26) rfl))) (mvT hZ (hw _ (List.mem_of_getElem? (i := 27) rfl))) (notFace_of_selects (args := #[]) (mvT hZ (hw _ (List.mem_of_getElem? (i := 29) rfl)))) (mvT hZ (hw _ (List.mem_of_getElem? (i := 29) rfl))) (mvT hZ (hw _ (List.mem_of_getElem? (i := 28) rfl))) (by decide) (backOf (W := 0) (rm5 l Z a0 hw [] b127 (Int32.ofNat (F + 4)) (Int32.ofNat (F + 4)) T135.heap n0 Zs135 fP135 fT135) hZ (hw _ (List.mem_of_getElem? (i := 30) rfl)) (hw _ (List.mem_of_getElem? (i := 8) rfl)) (by decide) (by decide)) q136a q136c (g := (mkF m 308 #[.val (.int p1), .val (.int p2), .val (.int p3), .val (.int p4), .val (.int p5), .val (.int p6), .val (.int nn), .val (.int (4 : Int32)), .val (.int fr), .val (.int qb), .val (.ref b108), .val (.int sc), .val (.int cc), .val (.ref b127), .val (.int nn), .val (.int (0 : Int32)), .val (.int (-1 : Int32)), .unset] [(.ref b127)])) rfl (by rw [hml]; rfl) (Steps.refl _) (argsL := []) (rest := []) (lenOf pd_4 rfl) rfl (by show 2 * 0 + _ ≤ _; exact Nat.le_of_eq rfl) (hb hby at_308) (fun _ _ => ⟨rfl, rfl, (by decide : 2 + 0 ≤ _), (by decide : 12 + 0 ≤ _)⟩)
    dsimp only [Pt.U, Pt.locs, Pt.cells, Pt.slots] at X136 l136 y136 z136 st136 hQ136
    subst y136 z136
    obtain ⟨hv136, N136q, e136⟩ := hQ136
    rw [hh2] at hv136
    subst hv136
    have e136h : T136.heap = T135.heap := e136
    have N136 : Fr n0 L136 := by rw [l136]; exact Fr.app N135 N136q
    refine own_step (fun _ kc_ => st136.trans kc_) ?_
    show own_Ends p e below s _ _ _ (T136.setTop (mkF m 311 #[.val (.int p1), .val (.int p2), .val (.int p3), .val (.int p4), .val (.int p5), .val (.int p6), .val (.int nn), .val (.int (4 : Int32)), .val (.int fr), .val (.int qb), .val (.ref b108), .val (.int sc), .val (.int cc), .val (.ref b127), .val (.int nn), .val (.int (0 : Int32)), .val (.int (-1 : Int32)), .unset] [(.int (0 : Int32))]))
    refine own_step (fun _ kc_ => XS.istore X136.here hx rfl (hb hby at_311) rfl (l' := #[.val (.int p1), .val (.int p2), .val (.int p3), .val (.int p4), .val (.int p5), .val (.int p6), .val (.int nn), .val (.int (4 : Int32)), .val (.int fr), .val (.int qb), .val (.ref b108), .val (.int sc), .val (.int cc), .val (.ref b127), .val (.int nn), .val (.int (0 : Int32)), .val (.int (-1 : Int32)), .val (.int (0 : Int32))]) rfl (XS.iload X136.here hx rfl (hb hby at_313) rfl (XS.iload X136.here hx rfl (hb hby at_315) rfl (XS.icmpYes X136.here hx rfl (pc0 := 317) (pc' := 348) rfl (hb hby at_317) rfl (XT.ii_ge_t (by rw [hcC]; decide : ¬ (cc < (4 : Int32)))) (by decide) (by decide) (XS.iload X136.here hx rfl (hb hby at_348) rfl (XS.iload X136.here hx rfl (hb hby at_350) rfl (XS.icmpNo X136.here hx rfl (hb hby at_352) rfl (XT.ii_ne_f (by rw [hcC]; decide : cc = (4 : Int32))) (XS.iload X136.here hx rfl (hb hby at_355) rfl kc_)))))))) ?_
    show own_Ends p e below s _ _ _ (T136.setTop (mkF m 357 #[.val (.int p1), .val (.int p2), .val (.int p3), .val (.int p4), .val (.int p5), .val (.int p6), .val (.int nn), .val (.int (4 : Int32)), .val (.int fr), .val (.int qb), .val (.ref b108), .val (.int sc), .val (.int cc), .val (.ref b127), .val (.int nn), .val (.int (0 : Int32)), .val (.int (-1 : Int32)), .val (.int (0 : Int32))] [(.int nn)]))
    refine own_step (fun _ kc_ => XS.iload X136.here hx rfl (hb hby at_357) rfl (XS.icmpNo X136.here hx rfl (hb hby at_359) rfl (XT.ii_ne_f (rfl : nn = nn)) (XS.iload X136.here hx rfl (hb hby at_362) rfl (XS.ifNo X136.here hx rfl (hb hby at_364) rfl (XT.i0_ne_f (by decide : (0 : Int32) = 0)) (XS.iload X136.here hx rfl (hb hby at_367) rfl (XS.iconst X136.here hx rfl (hb hby at_369) (XS.icmpNo X136.here hx rfl (hb hby at_370) rfl (XT.ii_ne_f (by decide : (-1 : Int32) = (-1 : Int32))) (XS.iload X136.here hx rfl (hb hby at_373) rfl kc_)))))))) ?_
    show own_Ends p e below s _ _ _ (T136.setTop (mkF m 375 #[.val (.int p1), .val (.int p2), .val (.int p3), .val (.int p4), .val (.int p5), .val (.int p6), .val (.int nn), .val (.int (4 : Int32)), .val (.int fr), .val (.int qb), .val (.ref b108), .val (.int sc), .val (.int cc), .val (.ref b127), .val (.int nn), .val (.int (0 : Int32)), .val (.int (-1 : Int32)), .val (.int (0 : Int32))] [(.int (0 : Int32))]))
    refine own_step (fun _ kc_ => XS.ifNo X136.here hx rfl (hb hby at_375) rfl (XT.i0_ne_f (by decide : (0 : Int32) = 0)) (XS.iconst X136.here hx rfl (hb hby at_378) (XS.goto X136.here hx rfl (pc0 := 379) (pc' := 383) rfl (hb hby at_379) (by decide) (by decide) kc_))) ?_
    show own_Ends p e below s _ _ _ (T136.setTop (mkF m 383 #[.val (.int p1), .val (.int p2), .val (.int p3), .val (.int p4), .val (.int p5), .val (.int p6), .val (.int nn), .val (.int (4 : Int32)), .val (.int fr), .val (.int qb), .val (.ref b108), .val (.int sc), .val (.int cc), .val (.ref b127), .val (.int nn), .val (.int (0 : Int32)), .val (.int (-1 : Int32)), .val (.int (0 : Int32))] [(.int (1 : Int32))]))
    exact own_retN X136 hx (t := .boolean) hret (by simp) hlk (hb hby at_383) (by decide) (by decide) rfl ⟨rfl, N136⟩
  · subst hC1
    have hx1 : own_nx vs F 0 0 5 = (nn, F + 4) := own_run4 vs F 1 nn hn0 hn1 hb0 hb1 hb2 hb3
    have hs := own_sec p5
    rw [hsc, ← hb4] at hs
    have hx2 : own_nx vs (F + 4) 0 0 1 = (sc, F + 5) := by
      rw [own_nxF hs.1, hs.2, own_or0]
    have hh1 := own_hasLt (F + 4) (by omega)
    have hh2 := own_hasEq (F + 5)
    show own_Ends p e below s _ _ _ (T128.setTop (mkF m 285 #[.val (.int p1), .val (.int p2), .val (.int p3), .val (.int p4), .val (.int p5), .val (.int p6), .val (.int nn), .val (.int (4 : Int32)), .val (.int fr), .val (.int qb), .val (.ref b108), .val (.int sc), .val (.int cc), .val (.ref b127), .unset, .unset, .unset, .unset] []))
    refine own_step (fun _ kc_ => XS.aload X128.here hx rfl (hb hby at_285) rfl rfl kc_) ?_
    show own_Ends p e below s _ _ _ (T128.setTop (mkF m 287 #[.val (.int p1), .val (.int p2), .val (.int p3), .val (.int p4), .val (.int p5), .val (.int p6), .val (.int nn), .val (.int (4 : Int32)), .val (.int fr), .val (.int qb), .val (.ref b108), .val (.int sc), .val (.int cc), .val (.ref b127), .unset, .unset, .unset, .unset] [(.ref b127)]))
    obtain ⟨cq137, kq137, q137a, q137b, q137c⟩ := isOf hZ rfl E_b127_128
    obtain ⟨_, _, ⟨T137, L137, k137, n137⟩, -, X137, ⟨Lc137, hQ137, l137, y137, z137⟩, st137⟩ := X128.virtualBack hx (y := (⟨"com/example/wakachi/wakachi/VarInts$Reader", "next", "()I"⟩ : MethodName)) (z := (⟨"com/example/wakachi/wakachi/VarInts$Reader", "next", "()I"⟩ : MethodName)) hown (mvT hZ (hw _ (List.mem_of_getElem? (i := 21) rfl))) (mvT hZ (hw _ (List.mem_of_getElem? (i := 22) rfl))) (notFace_of_selects (args := #[]) (mvT hZ (hw _ (List.mem_of_getElem? (i := 24) rfl)))) (mvT hZ (hw _ (List.mem_of_getElem? (i := 24) rfl))) (mvT hZ (hw _ (List.mem_of_getElem? (i := 23) rfl))) (by decide) (backOf (W := 0) (rm4 l Z a0 hw [] b127 b108 vs F 5 T128.heap n0 Zs128 E_b127_128 fB128 fP128 fT128 A_b108_128 hints (by rw [hlen]; omega) n0_b127 (Ne.symm ne_b108_b127)) hZ (hw _ (List.mem_of_getElem? (i := 25) rfl)) (hw _ (List.mem_of_getElem? (i := 8) rfl)) (by decide) (by decide)) q137a q137c (g := (mkF m 287 #[.val (.int p1), .val (.int p2), .val (.int p3), .val (.int p4), .val (.int p5), .val (.int p6), .val (.int nn), .val (.int (4 : Int32)), .val (.int fr), .val (.int qb), .val (.ref b108), .val (.int sc), .val (.int cc), .val (.ref b127), .unset, .unset, .unset, .unset] [(.ref b127)])) rfl (by rw [hml]; rfl) (Steps.refl _) (argsL := []) (rest := []) (lenOf pd_3 rfl) rfl (by show 2 * 0 + _ ≤ _; exact Nat.le_of_eq rfl) (hb hby at_287) (fun _ _ => ⟨rfl, rfl, (by decide : 2 + 0 ≤ _), (by decide : 12 + 0 ≤ _)⟩)
    dsimp only [Pt.U, Pt.locs, Pt.cells, Pt.slots] at X137 l137 y137 z137 st137 hQ137
    subst y137 z137
    obtain ⟨hv137, N137q, K137k, fP137, fB137, fT137⟩ := hQ137
    rw [hx1] at hv137 fP137
    subst hv137
    have A_b108_137 := (A_b108_128).keep K137k (ninS ne_b108_b127 nin0)
    have E_b127_137 := (E_b127_128).keep K137k
    have Zs137 := Nat.le_trans Zs128 K137k.1
    have N137 : Fr n0 L137 := by rw [l137]; exact Fr.app N128 N137q
    refine own_step (fun _ kc_ => st137.trans kc_) ?_
    show own_Ends p e below s _ _ _ (T137.setTop (mkF m 290 #[.val (.int p1), .val (.int p2), .val (.int p3), .val (.int p4), .val (.int p5), .val (.int p6), .val (.int nn), .val (.int (4 : Int32)), .val (.int fr), .val (.int qb), .val (.ref b108), .val (.int sc), .val (.int cc), .val (.ref b127), .unset, .unset, .unset, .unset] [(.int nn)]))
    refine own_step (fun _ kc_ => XS.istore X137.here hx rfl (hb hby at_290) rfl (l' := #[.val (.int p1), .val (.int p2), .val (.int p3), .val (.int p4), .val (.int p5), .val (.int p6), .val (.int nn), .val (.int (4 : Int32)), .val (.int fr), .val (.int qb), .val (.ref b108), .val (.int sc), .val (.int cc), .val (.ref b127), .val (.int nn), .unset, .unset, .unset]) rfl (XS.aload X137.here hx rfl (hb hby at_292) rfl rfl kc_)) ?_
    show own_Ends p e below s _ _ _ (T137.setTop (mkF m 294 #[.val (.int p1), .val (.int p2), .val (.int p3), .val (.int p4), .val (.int p5), .val (.int p6), .val (.int nn), .val (.int (4 : Int32)), .val (.int fr), .val (.int qb), .val (.ref b108), .val (.int sc), .val (.int cc), .val (.ref b127), .val (.int nn), .unset, .unset, .unset] [(.ref b127)]))
    obtain ⟨cq138, kq138, q138a, q138b, q138c⟩ := isOf hZ rfl E_b127_137
    obtain ⟨_, _, ⟨T138, L138, k138, n138⟩, -, X138, ⟨Lc138, hQ138, l138, y138, z138⟩, st138⟩ := X137.virtualBack hx (y := (⟨"com/example/wakachi/wakachi/VarInts$Reader", "hasNext", "()Z"⟩ : MethodName)) (z := (⟨"com/example/wakachi/wakachi/VarInts$Reader", "hasNext", "()Z"⟩ : MethodName)) hown (mvT hZ (hw _ (List.mem_of_getElem? (i := 26) rfl))) (mvT hZ (hw _ (List.mem_of_getElem? (i := 27) rfl))) (notFace_of_selects (args := #[]) (mvT hZ (hw _ (List.mem_of_getElem? (i := 29) rfl)))) (mvT hZ (hw _ (List.mem_of_getElem? (i := 29) rfl))) (mvT hZ (hw _ (List.mem_of_getElem? (i := 28) rfl))) (by decide) (backOf (W := 0) (rm5 l Z a0 hw [] b127 (Int32.ofNat (F + 4)) (Int32.ofNat (F + 5)) T137.heap n0 Zs137 fP137 fT137) hZ (hw _ (List.mem_of_getElem? (i := 30) rfl)) (hw _ (List.mem_of_getElem? (i := 8) rfl)) (by decide) (by decide)) q138a q138c (g := (mkF m 294 #[.val (.int p1), .val (.int p2), .val (.int p3), .val (.int p4), .val (.int p5), .val (.int p6), .val (.int nn), .val (.int (4 : Int32)), .val (.int fr), .val (.int qb), .val (.ref b108), .val (.int sc), .val (.int cc), .val (.ref b127), .val (.int nn), .unset, .unset, .unset] [(.ref b127)])) rfl (by rw [hml]; rfl) (Steps.refl _) (argsL := []) (rest := []) (lenOf pd_4 rfl) rfl (by show 2 * 0 + _ ≤ _; exact Nat.le_of_eq rfl) (hb hby at_294) (fun _ _ => ⟨rfl, rfl, (by decide : 2 + 0 ≤ _), (by decide : 12 + 0 ≤ _)⟩)
    dsimp only [Pt.U, Pt.locs, Pt.cells, Pt.slots] at X138 l138 y138 z138 st138 hQ138
    subst y138 z138
    obtain ⟨hv138, N138q, e138⟩ := hQ138
    rw [hh1] at hv138
    subst hv138
    have e138h : T138.heap = T137.heap := e138
    have N138 : Fr n0 L138 := by rw [l138]; exact Fr.app N137 N138q
    refine own_step (fun _ kc_ => st138.trans kc_) ?_
    show own_Ends p e below s _ _ _ (T138.setTop (mkF m 297 #[.val (.int p1), .val (.int p2), .val (.int p3), .val (.int p4), .val (.int p5), .val (.int p6), .val (.int nn), .val (.int (4 : Int32)), .val (.int fr), .val (.int qb), .val (.ref b108), .val (.int sc), .val (.int cc), .val (.ref b127), .val (.int nn), .unset, .unset, .unset] [(.int (1 : Int32))]))
    refine own_step (fun _ kc_ => XS.istore X138.here hx rfl (hb hby at_297) rfl (l' := #[.val (.int p1), .val (.int p2), .val (.int p3), .val (.int p4), .val (.int p5), .val (.int p6), .val (.int nn), .val (.int (4 : Int32)), .val (.int fr), .val (.int qb), .val (.ref b108), .val (.int sc), .val (.int cc), .val (.ref b127), .val (.int nn), .val (.int (1 : Int32)), .unset, .unset]) rfl (XS.aload X138.here hx rfl (hb hby at_299) rfl rfl kc_)) ?_
    show own_Ends p e below s _ _ _ (T138.setTop (mkF m 301 #[.val (.int p1), .val (.int p2), .val (.int p3), .val (.int p4), .val (.int p5), .val (.int p6), .val (.int nn), .val (.int (4 : Int32)), .val (.int fr), .val (.int qb), .val (.ref b108), .val (.int sc), .val (.int cc), .val (.ref b127), .val (.int nn), .val (.int (1 : Int32)), .unset, .unset] [(.ref b127)]))
    obtain ⟨cq139, kq139, q139a, q139b, q139c⟩ := isOf hZ e138h E_b127_137
    obtain ⟨_, _, ⟨T139, L139, k139, n139⟩, -, X139, ⟨Lc139, hQ139, l139, y139, z139⟩, st139⟩ := X138.virtualBack hx (y := (⟨"com/example/wakachi/wakachi/VarInts$Reader", "next", "()I"⟩ : MethodName)) (z := (⟨"com/example/wakachi/wakachi/VarInts$Reader", "next", "()I"⟩ : MethodName)) hown (mvT hZ (hw _ (List.mem_of_getElem? (i := 21) rfl))) (mvT hZ (hw _ (List.mem_of_getElem? (i := 22) rfl))) (notFace_of_selects (args := #[]) (mvT hZ (hw _ (List.mem_of_getElem? (i := 24) rfl)))) (mvT hZ (hw _ (List.mem_of_getElem? (i := 24) rfl))) (mvT hZ (hw _ (List.mem_of_getElem? (i := 23) rfl))) (by decide) (backOf (W := 0) (rm4 l Z a0 hw [] b127 b108 vs (F + 4) 1 T137.heap n0 Zs137 E_b127_137 fB137 fP137 fT137 A_b108_137 hints (by rw [hlen]; omega) n0_b127 (Ne.symm ne_b108_b127)) hZ (hw _ (List.mem_of_getElem? (i := 25) rfl)) (hw _ (List.mem_of_getElem? (i := 8) rfl)) (by decide) (by decide)) q139a q139c (g := (mkF m 301 #[.val (.int p1), .val (.int p2), .val (.int p3), .val (.int p4), .val (.int p5), .val (.int p6), .val (.int nn), .val (.int (4 : Int32)), .val (.int fr), .val (.int qb), .val (.ref b108), .val (.int sc), .val (.int cc), .val (.ref b127), .val (.int nn), .val (.int (1 : Int32)), .unset, .unset] [(.ref b127)])) rfl (by rw [hml]; rfl) (Steps.refl _) (argsL := []) (rest := []) (lenOf pd_3 rfl) rfl (by show 2 * 0 + _ ≤ _; exact Nat.le_of_eq rfl) (hb hby at_301) (fun _ _ => ⟨rfl, e138h, (by decide : 2 + 0 ≤ _), (by decide : 12 + 0 ≤ _)⟩)
    dsimp only [Pt.U, Pt.locs, Pt.cells, Pt.slots] at X139 l139 y139 z139 st139 hQ139
    subst y139 z139
    obtain ⟨hv139, N139q, K139k, fP139, fB139, fT139⟩ := hQ139
    rw [hx2] at hv139 fP139
    subst hv139
    have A_b108_139 := (A_b108_137).keep K139k (ninS ne_b108_b127 nin0)
    have E_b127_139 := (E_b127_137).keep K139k
    have Zs139 := Nat.le_trans Zs137 K139k.1
    have N139 : Fr n0 L139 := by rw [l139]; exact Fr.app N138 N139q
    refine own_step (fun _ kc_ => st139.trans kc_) ?_
    show own_Ends p e below s _ _ _ (T139.setTop (mkF m 304 #[.val (.int p1), .val (.int p2), .val (.int p3), .val (.int p4), .val (.int p5), .val (.int p6), .val (.int nn), .val (.int (4 : Int32)), .val (.int fr), .val (.int qb), .val (.ref b108), .val (.int sc), .val (.int cc), .val (.ref b127), .val (.int nn), .val (.int (1 : Int32)), .unset, .unset] [(.int sc)]))
    refine own_step (fun _ kc_ => XS.istore X139.here hx rfl (hb hby at_304) rfl (l' := #[.val (.int p1), .val (.int p2), .val (.int p3), .val (.int p4), .val (.int p5), .val (.int p6), .val (.int nn), .val (.int (4 : Int32)), .val (.int fr), .val (.int qb), .val (.ref b108), .val (.int sc), .val (.int cc), .val (.ref b127), .val (.int nn), .val (.int (1 : Int32)), .val (.int sc), .unset]) rfl (XS.aload X139.here hx rfl (hb hby at_306) rfl rfl kc_)) ?_
    show own_Ends p e below s _ _ _ (T139.setTop (mkF m 308 #[.val (.int p1), .val (.int p2), .val (.int p3), .val (.int p4), .val (.int p5), .val (.int p6), .val (.int nn), .val (.int (4 : Int32)), .val (.int fr), .val (.int qb), .val (.ref b108), .val (.int sc), .val (.int cc), .val (.ref b127), .val (.int nn), .val (.int (1 : Int32)), .val (.int sc), .unset] [(.ref b127)]))
    obtain ⟨cq140, kq140, q140a, q140b, q140c⟩ := isOf hZ rfl E_b127_139
    obtain ⟨_, _, ⟨T140, L140, k140, n140⟩, -, X140, ⟨Lc140, hQ140, l140, y140, z140⟩, st140⟩ := X139.virtualBack hx (y := (⟨"com/example/wakachi/wakachi/VarInts$Reader", "hasNext", "()Z"⟩ : MethodName)) (z := (⟨"com/example/wakachi/wakachi/VarInts$Reader", "hasNext", "()Z"⟩ : MethodName)) hown (mvT hZ (hw _ (List.mem_of_getElem? (i := 26) rfl))) (mvT hZ (hw _ (List.mem_of_getElem? (i := 27) rfl))) (notFace_of_selects (args := #[]) (mvT hZ (hw _ (List.mem_of_getElem? (i := 29) rfl)))) (mvT hZ (hw _ (List.mem_of_getElem? (i := 29) rfl))) (mvT hZ (hw _ (List.mem_of_getElem? (i := 28) rfl))) (by decide) (backOf (W := 0) (rm5 l Z a0 hw [] b127 (Int32.ofNat (F + 5)) (Int32.ofNat (F + 5)) T139.heap n0 Zs139 fP139 fT139) hZ (hw _ (List.mem_of_getElem? (i := 30) rfl)) (hw _ (List.mem_of_getElem? (i := 8) rfl)) (by decide) (by decide)) q140a q140c (g := (mkF m 308 #[.val (.int p1), .val (.int p2), .val (.int p3), .val (.int p4), .val (.int p5), .val (.int p6), .val (.int nn), .val (.int (4 : Int32)), .val (.int fr), .val (.int qb), .val (.ref b108), .val (.int sc), .val (.int cc), .val (.ref b127), .val (.int nn), .val (.int (1 : Int32)), .val (.int sc), .unset] [(.ref b127)])) rfl (by rw [hml]; rfl) (Steps.refl _) (argsL := []) (rest := []) (lenOf pd_4 rfl) rfl (by show 2 * 0 + _ ≤ _; exact Nat.le_of_eq rfl) (hb hby at_308) (fun _ _ => ⟨rfl, rfl, (by decide : 2 + 0 ≤ _), (by decide : 12 + 0 ≤ _)⟩)
    dsimp only [Pt.U, Pt.locs, Pt.cells, Pt.slots] at X140 l140 y140 z140 st140 hQ140
    subst y140 z140
    obtain ⟨hv140, N140q, e140⟩ := hQ140
    rw [hh2] at hv140
    subst hv140
    have e140h : T140.heap = T139.heap := e140
    have N140 : Fr n0 L140 := by rw [l140]; exact Fr.app N139 N140q
    refine own_step (fun _ kc_ => st140.trans kc_) ?_
    show own_Ends p e below s _ _ _ (T140.setTop (mkF m 311 #[.val (.int p1), .val (.int p2), .val (.int p3), .val (.int p4), .val (.int p5), .val (.int p6), .val (.int nn), .val (.int (4 : Int32)), .val (.int fr), .val (.int qb), .val (.ref b108), .val (.int sc), .val (.int cc), .val (.ref b127), .val (.int nn), .val (.int (1 : Int32)), .val (.int sc), .unset] [(.int (0 : Int32))]))
    refine own_step (fun _ kc_ => XS.istore X140.here hx rfl (hb hby at_311) rfl (l' := #[.val (.int p1), .val (.int p2), .val (.int p3), .val (.int p4), .val (.int p5), .val (.int p6), .val (.int nn), .val (.int (4 : Int32)), .val (.int fr), .val (.int qb), .val (.ref b108), .val (.int sc), .val (.int cc), .val (.ref b127), .val (.int nn), .val (.int (1 : Int32)), .val (.int sc), .val (.int (0 : Int32))]) rfl (XS.iload X140.here hx rfl (hb hby at_313) rfl (XS.iload X140.here hx rfl (hb hby at_315) rfl (XS.icmpYes X140.here hx rfl (pc0 := 317) (pc' := 348) rfl (hb hby at_317) rfl (XT.ii_ge_t (by rw [hcC]; decide : ¬ (cc < (4 : Int32)))) (by decide) (by decide) (XS.iload X140.here hx rfl (hb hby at_348) rfl (XS.iload X140.here hx rfl (hb hby at_350) rfl (XS.icmpYes X140.here hx rfl (pc0 := 352) (pc' := 384) rfl (hb hby at_352) rfl (XT.ii_ne_t (by rw [hcC]; decide : ¬ (cc = (4 : Int32)))) (by decide) (by decide) (XS.iload X140.here hx rfl (hb hby at_384) rfl kc_)))))))) ?_
    show own_Ends p e below s _ _ _ (T140.setTop (mkF m 386 #[.val (.int p1), .val (.int p2), .val (.int p3), .val (.int p4), .val (.int p5), .val (.int p6), .val (.int nn), .val (.int (4 : Int32)), .val (.int fr), .val (.int qb), .val (.ref b108), .val (.int sc), .val (.int cc), .val (.ref b127), .val (.int nn), .val (.int (1 : Int32)), .val (.int sc), .val (.int (0 : Int32))] [(.int nn)]))
    refine own_step (fun _ kc_ => XS.iload X140.here hx rfl (hb hby at_386) rfl (XS.icmpNo X140.here hx rfl (hb hby at_388) rfl (XT.ii_ne_f (rfl : nn = nn)) (XS.iload X140.here hx rfl (hb hby at_391) rfl (XS.ifNo X140.here hx rfl (hb hby at_393) rfl (XT.i0_eq_f (by decide : ¬ ((1 : Int32) = 0))) (XS.iload X140.here hx rfl (hb hby at_396) rfl (XS.iload X140.here hx rfl (hb hby at_398) rfl (XS.icmpNo X140.here hx rfl (hb hby at_400) rfl (XT.ii_ne_f (rfl : sc = sc)) (XS.iload X140.here hx rfl (hb hby at_403) rfl kc_)))))))) ?_
    show own_Ends p e below s _ _ _ (T140.setTop (mkF m 405 #[.val (.int p1), .val (.int p2), .val (.int p3), .val (.int p4), .val (.int p5), .val (.int p6), .val (.int nn), .val (.int (4 : Int32)), .val (.int fr), .val (.int qb), .val (.ref b108), .val (.int sc), .val (.int cc), .val (.ref b127), .val (.int nn), .val (.int (1 : Int32)), .val (.int sc), .val (.int (0 : Int32))] [(.int (0 : Int32))]))
    refine own_step (fun _ kc_ => XS.ifNo X140.here hx rfl (hb hby at_405) rfl (XT.i0_ne_f (by decide : (0 : Int32) = 0)) (XS.iconst X140.here hx rfl (hb hby at_408) (XS.goto X140.here hx rfl (pc0 := 409) (pc' := 413) rfl (hb hby at_409) (by decide) (by decide) kc_))) ?_
    show own_Ends p e below s _ _ _ (T140.setTop (mkF m 413 #[.val (.int p1), .val (.int p2), .val (.int p3), .val (.int p4), .val (.int p5), .val (.int p6), .val (.int nn), .val (.int (4 : Int32)), .val (.int fr), .val (.int qb), .val (.ref b108), .val (.int sc), .val (.int cc), .val (.ref b127), .val (.int nn), .val (.int (1 : Int32)), .val (.int sc), .val (.int (0 : Int32))] [(.int (1 : Int32))]))
    exact own_retN X140 hx (t := .boolean) hret (by simp) hlk (hb hby at_413) (by decide) (by decide) rfl ⟨rfl, N140⟩
set_option maxRecDepth 65536 in
set_option maxHeartbeats 40000000 in
theorem seg_5 {p : Program} {l : Launch} {e : Env} {s : State} {m : MethodId} {below : List Frame} {meth : Method} {c : Code} {Z : State} {a0 : Array Value} (hw : ∀ d ∈ tables_1, d.before a0 Z = true) (hZ : Z.Warmed39 s.vm) (hx : p.tables.exec = Jvm.exec) (hby : c.code = code) (hlk : meth.locks = false) (hret : meth.sig.returnType = some .boolean) (hml : c.maxLocals = 18) (hown : s.vm.findClass "com/example/wakachi/wakachi/ReaderNextPinLaw" = some m.cls) (p1 : Int32) (p2 : Int32) (p3 : Int32) (p4 : Int32) (p5 : Int32) (p6 : Int32)  {h0 : Heap} {n0 : Nat} {nn fr qb : Int32} (F : Nat) (hF : F ≤ 3) (hfr : fr = Int32.ofNat F) (hn0 : 0 ≤ nn.toInt) (hn1 : nn.toInt < 2 ^ 31) {h : Heap}  :
    ∀ {T : State} {locs : List Loc} {cells slots : Nat} (X : Stand p l e room_1 s m #[(.int p1), (.int p2), (.int p3), (.int p4), (.int p5), (.int p6)] below meth c T locs cells slots) (e0 : T.heap = h) (N0 : Fr n0 locs) (Z0 : n0 ≤ h.size) (hcs : cells = 0) (hsl : slots = 0), own_Ends p e below s 16 128 (Q0 Z p1 p2 p3 p4 p5 p6  h0 n0) (T.setTop (mkF m 78 #[.val (.int p1), .val (.int p2), .val (.int p3), .val (.int p4), .val (.int p5), .val (.int p6), .val (.int nn), .val (.int (5 : Int32)), .val (.int fr), .val (.int qb), .unset, .unset, .unset, .unset, .unset, .unset, .unset, .unset] [])) := by
  intro T locs cells slots X e0 N0 Z0 hcs hsl
  subst hcs hsl
  show own_Ends p e below s _ _ _ (T.setTop (mkF m 78 #[.val (.int p1), .val (.int p2), .val (.int p3), .val (.int p4), .val (.int p5), .val (.int p6), .val (.int nn), .val (.int (5 : Int32)), .val (.int fr), .val (.int qb), .unset, .unset, .unset, .unset, .unset, .unset, .unset, .unset] []))
  refine own_step (fun _ kc_ => XS.bipush X.here hx rfl (hb hby at_78) kc_) ?_
  show own_Ends p e below s _ _ _ (T.setTop (mkF m 80 #[.val (.int p1), .val (.int p2), .val (.int p3), .val (.int p4), .val (.int p5), .val (.int p6), .val (.int nn), .val (.int (5 : Int32)), .val (.int fr), .val (.int qb), .unset, .unset, .unset, .unset, .unset, .unset, .unset, .unset] [(.int (9 : Int32))]))
  obtain ⟨T141, h141, k141, X141, e141, E141, A141, st141⟩ := newP X hx hZ (hw _ (List.mem_of_getElem? (i := 1) rfl)) e0 (g := (mkF m 80 #[.val (.int p1), .val (.int p2), .val (.int p3), .val (.int p4), .val (.int p5), .val (.int p6), .val (.int nn), .val (.int (5 : Int32)), .val (.int fr), .val (.int qb), .unset, .unset, .unset, .unset, .unset, .unset, .unset, .unset] [(.int (9 : Int32))])) rfl (hb hby at_80) rfl (by decide) (cap := 9) (by decide) (by decide) (by decide : 0 + 1 ≤ _) (by decide : 0 + 9 ≤ _)
  obtain ⟨b141, g141⟩ : ∃ z, z = h.size := ⟨_, rfl⟩
  rw [← g141] at A141 st141
  have n0_b141 : n0 ≤ b141 := Nat.le_trans Z0 (Nat.le_of_eq g141.symm)
  have Zs141 := Nat.le_trans Z0 E141.1
  have A_b141 : own_Ar Z h141 b141 .byte [(.int (0 : Int32)), (.int (0 : Int32)), (.int (0 : Int32)), (.int (0 : Int32)), (.int (0 : Int32)), (.int (0 : Int32)), (.int (0 : Int32)), (.int (0 : Int32)), (.int (0 : Int32))] := own_Ar.new A141 (by decide)
  refine own_step (fun _ kc_ => st141 _ kc_) ?_
  show own_Ends p e below s _ _ _ (T141.setTop (mkF m 82 #[.val (.int p1), .val (.int p2), .val (.int p3), .val (.int p4), .val (.int p5), .val (.int p6), .val (.int nn), .val (.int (5 : Int32)), .val (.int fr), .val (.int qb), .unset, .unset, .unset, .unset, .unset, .unset, .unset, .unset] [(.ref b141)]))
  refine own_step (fun _ kc_ => XS.astore X141.here hx rfl (hb hby at_82) rfl rfl (l' := #[.val (.int p1), .val (.int p2), .val (.int p3), .val (.int p4), .val (.int p5), .val (.int p6), .val (.int nn), .val (.int (5 : Int32)), .val (.int fr), .val (.int qb), .val (.ref b141), .unset, .unset, .unset, .unset, .unset, .unset, .unset]) rfl (XS.aload X141.here hx rfl (hb hby at_84) rfl rfl (XS.iconst X141.here hx rfl (hb hby at_86) (XS.iload X141.here hx rfl (hb hby at_87) rfl kc_)))) ?_
  show own_Ends p e below s _ _ _ (T141.setTop (mkF m 89 #[.val (.int p1), .val (.int p2), .val (.int p3), .val (.int p4), .val (.int p5), .val (.int p6), .val (.int nn), .val (.int (5 : Int32)), .val (.int fr), .val (.int qb), .val (.ref b141), .unset, .unset, .unset, .unset, .unset, .unset, .unset] [(.int qb), (.int (0 : Int32)), (.ref b141)]))
  obtain ⟨T142, h142, X142, e142, W142, A142, st142⟩ := own_bastore X141 hx hZ e141 A_b141 (j := (0 : Int32)) (x := qb) (by decide) (i := 0) rfl (Nat.le_of_ble_eq_true rfl) (Ls := #[.val (.int p1), .val (.int p2), .val (.int p3), .val (.int p4), .val (.int p5), .val (.int p6), .val (.int nn), .val (.int (5 : Int32)), .val (.int fr), .val (.int qb), .val (.ref b141), .unset, .unset, .unset, .unset, .unset, .unset, .unset]) (st := []) (hb hby at_89)
  have A_b141_142 : own_Ar Z h142 b141 .byte [(.int (nar .byte qb)), (.int (0 : Int32)), (.int (0 : Int32)), (.int (0 : Int32)), (.int (0 : Int32)), (.int (0 : Int32)), (.int (0 : Int32)), (.int (0 : Int32)), (.int (0 : Int32))] := A142
  have Zs142 := Nat.le_trans Zs141 (Nat.le_of_eq W142.size.symm)
  have N142 := Fr.snoc X142 N0 n0_b141
  refine own_step (fun _ kc_ => st142 _ kc_) ?_
  show own_Ends p e below s _ _ _ (T142.setTop (mkF m 90 #[.val (.int p1), .val (.int p2), .val (.int p3), .val (.int p4), .val (.int p5), .val (.int p6), .val (.int nn), .val (.int (5 : Int32)), .val (.int fr), .val (.int qb), .val (.ref b141), .unset, .unset, .unset, .unset, .unset, .unset, .unset] []))
  refine own_step (fun _ kc_ => XS.aload X142.here hx rfl (hb hby at_90) rfl rfl (XS.iconst X142.here hx rfl (hb hby at_92) (XS.iload X142.here hx rfl (hb hby at_93) rfl kc_))) ?_
  show own_Ends p e below s _ _ _ (T142.setTop (mkF m 95 #[.val (.int p1), .val (.int p2), .val (.int p3), .val (.int p4), .val (.int p5), .val (.int p6), .val (.int nn), .val (.int (5 : Int32)), .val (.int fr), .val (.int qb), .val (.ref b141), .unset, .unset, .unset, .unset, .unset, .unset, .unset] [(.int qb), (.int (1 : Int32)), (.ref b141)]))
  obtain ⟨T143, h143, X143, e143, W143, A143, st143⟩ := own_bastore X142 hx hZ e142 A_b141_142 (j := (1 : Int32)) (x := qb) (by decide) (i := 1) rfl (Nat.le_of_ble_eq_true rfl) (Ls := #[.val (.int p1), .val (.int p2), .val (.int p3), .val (.int p4), .val (.int p5), .val (.int p6), .val (.int nn), .val (.int (5 : Int32)), .val (.int fr), .val (.int qb), .val (.ref b141), .unset, .unset, .unset, .unset, .unset, .unset, .unset]) (st := []) (hb hby at_95)
  have A_b141_143 : own_Ar Z h143 b141 .byte [(.int (nar .byte qb)), (.int (nar .byte qb)), (.int (0 : Int32)), (.int (0 : Int32)), (.int (0 : Int32)), (.int (0 : Int32)), (.int (0 : Int32)), (.int (0 : Int32)), (.int (0 : Int32))] := A143
  have Zs143 := Nat.le_trans Zs142 (Nat.le_of_eq W143.size.symm)
  have N143 := Fr.snoc X143 N142 n0_b141
  refine own_step (fun _ kc_ => st143 _ kc_) ?_
  show own_Ends p e below s _ _ _ (T143.setTop (mkF m 96 #[.val (.int p1), .val (.int p2), .val (.int p3), .val (.int p4), .val (.int p5), .val (.int p6), .val (.int nn), .val (.int (5 : Int32)), .val (.int fr), .val (.int qb), .val (.ref b141), .unset, .unset, .unset, .unset, .unset, .unset, .unset] []))
  refine own_step (fun _ kc_ => XS.aload X143.here hx rfl (hb hby at_96) rfl rfl (XS.iconst X143.here hx rfl (hb hby at_98) (XS.iload X143.here hx rfl (hb hby at_99) rfl kc_))) ?_
  show own_Ends p e below s _ _ _ (T143.setTop (mkF m 101 #[.val (.int p1), .val (.int p2), .val (.int p3), .val (.int p4), .val (.int p5), .val (.int p6), .val (.int nn), .val (.int (5 : Int32)), .val (.int fr), .val (.int qb), .val (.ref b141), .unset, .unset, .unset, .unset, .unset, .unset, .unset] [(.int qb), (.int (2 : Int32)), (.ref b141)]))
  obtain ⟨T144, h144, X144, e144, W144, A144, st144⟩ := own_bastore X143 hx hZ e143 A_b141_143 (j := (2 : Int32)) (x := qb) (by decide) (i := 2) rfl (Nat.le_of_ble_eq_true rfl) (Ls := #[.val (.int p1), .val (.int p2), .val (.int p3), .val (.int p4), .val (.int p5), .val (.int p6), .val (.int nn), .val (.int (5 : Int32)), .val (.int fr), .val (.int qb), .val (.ref b141), .unset, .unset, .unset, .unset, .unset, .unset, .unset]) (st := []) (hb hby at_101)
  have A_b141_144 : own_Ar Z h144 b141 .byte [(.int (nar .byte qb)), (.int (nar .byte qb)), (.int (nar .byte qb)), (.int (0 : Int32)), (.int (0 : Int32)), (.int (0 : Int32)), (.int (0 : Int32)), (.int (0 : Int32)), (.int (0 : Int32))] := A144
  have Zs144 := Nat.le_trans Zs143 (Nat.le_of_eq W144.size.symm)
  have N144 := Fr.snoc X144 N143 n0_b141
  refine own_step (fun _ kc_ => st144 _ kc_) ?_
  show own_Ends p e below s _ _ _ (T144.setTop (mkF m 102 #[.val (.int p1), .val (.int p2), .val (.int p3), .val (.int p4), .val (.int p5), .val (.int p6), .val (.int nn), .val (.int (5 : Int32)), .val (.int fr), .val (.int qb), .val (.ref b141), .unset, .unset, .unset, .unset, .unset, .unset, .unset] []))
  refine own_step (fun _ kc_ => XS.aload X144.here hx rfl (hb hby at_102) rfl rfl (XS.iconst X144.here hx rfl (hb hby at_104) (XS.iload X144.here hx rfl (hb hby at_105) rfl kc_))) ?_
  show own_Ends p e below s _ _ _ (T144.setTop (mkF m 107 #[.val (.int p1), .val (.int p2), .val (.int p3), .val (.int p4), .val (.int p5), .val (.int p6), .val (.int nn), .val (.int (5 : Int32)), .val (.int fr), .val (.int qb), .val (.ref b141), .unset, .unset, .unset, .unset, .unset, .unset, .unset] [(.int qb), (.int (3 : Int32)), (.ref b141)]))
  obtain ⟨T145, h145, X145, e145, W145, A145, st145⟩ := own_bastore X144 hx hZ e144 A_b141_144 (j := (3 : Int32)) (x := qb) (by decide) (i := 3) rfl (Nat.le_of_ble_eq_true rfl) (Ls := #[.val (.int p1), .val (.int p2), .val (.int p3), .val (.int p4), .val (.int p5), .val (.int p6), .val (.int nn), .val (.int (5 : Int32)), .val (.int fr), .val (.int qb), .val (.ref b141), .unset, .unset, .unset, .unset, .unset, .unset, .unset]) (st := []) (hb hby at_107)
  have A_b141_145 : own_Ar Z h145 b141 .byte [(.int (nar .byte qb)), (.int (nar .byte qb)), (.int (nar .byte qb)), (.int (nar .byte qb)), (.int (0 : Int32)), (.int (0 : Int32)), (.int (0 : Int32)), (.int (0 : Int32)), (.int (0 : Int32))] := A145
  have Zs145 := Nat.le_trans Zs144 (Nat.le_of_eq W145.size.symm)
  have N145 := Fr.snoc X145 N144 n0_b141
  refine own_step (fun _ kc_ => st145 _ kc_) ?_
  show own_Ends p e below s _ _ _ (T145.setTop (mkF m 108 #[.val (.int p1), .val (.int p2), .val (.int p3), .val (.int p4), .val (.int p5), .val (.int p6), .val (.int nn), .val (.int (5 : Int32)), .val (.int fr), .val (.int qb), .val (.ref b141), .unset, .unset, .unset, .unset, .unset, .unset, .unset] []))
  refine own_step (fun _ kc_ => XS.aload X145.here hx rfl (hb hby at_108) rfl rfl (XS.iconst X145.here hx rfl (hb hby at_110) (XS.iload X145.here hx rfl (hb hby at_111) rfl kc_))) ?_
  show own_Ends p e below s _ _ _ (T145.setTop (mkF m 113 #[.val (.int p1), .val (.int p2), .val (.int p3), .val (.int p4), .val (.int p5), .val (.int p6), .val (.int nn), .val (.int (5 : Int32)), .val (.int fr), .val (.int qb), .val (.ref b141), .unset, .unset, .unset, .unset, .unset, .unset, .unset] [(.int qb), (.int (4 : Int32)), (.ref b141)]))
  obtain ⟨T146, h146, X146, e146, W146, A146, st146⟩ := own_bastore X145 hx hZ e145 A_b141_145 (j := (4 : Int32)) (x := qb) (by decide) (i := 4) rfl (Nat.le_of_ble_eq_true rfl) (Ls := #[.val (.int p1), .val (.int p2), .val (.int p3), .val (.int p4), .val (.int p5), .val (.int p6), .val (.int nn), .val (.int (5 : Int32)), .val (.int fr), .val (.int qb), .val (.ref b141), .unset, .unset, .unset, .unset, .unset, .unset, .unset]) (st := []) (hb hby at_113)
  have A_b141_146 : own_Ar Z h146 b141 .byte [(.int (nar .byte qb)), (.int (nar .byte qb)), (.int (nar .byte qb)), (.int (nar .byte qb)), (.int (nar .byte qb)), (.int (0 : Int32)), (.int (0 : Int32)), (.int (0 : Int32)), (.int (0 : Int32))] := A146
  have Zs146 := Nat.le_trans Zs145 (Nat.le_of_eq W146.size.symm)
  have N146 := Fr.snoc X146 N145 n0_b141
  refine own_step (fun _ kc_ => st146 _ kc_) ?_
  show own_Ends p e below s _ _ _ (T146.setTop (mkF m 114 #[.val (.int p1), .val (.int p2), .val (.int p3), .val (.int p4), .val (.int p5), .val (.int p6), .val (.int nn), .val (.int (5 : Int32)), .val (.int fr), .val (.int qb), .val (.ref b141), .unset, .unset, .unset, .unset, .unset, .unset, .unset] []))
  refine own_step (fun _ kc_ => XS.aload X146.here hx rfl (hb hby at_114) rfl rfl (XS.iconst X146.here hx rfl (hb hby at_116) (XS.iload X146.here hx rfl (hb hby at_117) rfl kc_))) ?_
  show own_Ends p e below s _ _ _ (T146.setTop (mkF m 119 #[.val (.int p1), .val (.int p2), .val (.int p3), .val (.int p4), .val (.int p5), .val (.int p6), .val (.int nn), .val (.int (5 : Int32)), .val (.int fr), .val (.int qb), .val (.ref b141), .unset, .unset, .unset, .unset, .unset, .unset, .unset] [(.int qb), (.int (5 : Int32)), (.ref b141)]))
  obtain ⟨T147, h147, X147, e147, W147, A147, st147⟩ := own_bastore X146 hx hZ e146 A_b141_146 (j := (5 : Int32)) (x := qb) (by decide) (i := 5) rfl (Nat.le_of_ble_eq_true rfl) (Ls := #[.val (.int p1), .val (.int p2), .val (.int p3), .val (.int p4), .val (.int p5), .val (.int p6), .val (.int nn), .val (.int (5 : Int32)), .val (.int fr), .val (.int qb), .val (.ref b141), .unset, .unset, .unset, .unset, .unset, .unset, .unset]) (st := []) (hb hby at_119)
  have A_b141_147 : own_Ar Z h147 b141 .byte [(.int (nar .byte qb)), (.int (nar .byte qb)), (.int (nar .byte qb)), (.int (nar .byte qb)), (.int (nar .byte qb)), (.int (nar .byte qb)), (.int (0 : Int32)), (.int (0 : Int32)), (.int (0 : Int32))] := A147
  have Zs147 := Nat.le_trans Zs146 (Nat.le_of_eq W147.size.symm)
  have N147 := Fr.snoc X147 N146 n0_b141
  refine own_step (fun _ kc_ => st147 _ kc_) ?_
  show own_Ends p e below s _ _ _ (T147.setTop (mkF m 120 #[.val (.int p1), .val (.int p2), .val (.int p3), .val (.int p4), .val (.int p5), .val (.int p6), .val (.int nn), .val (.int (5 : Int32)), .val (.int fr), .val (.int qb), .val (.ref b141), .unset, .unset, .unset, .unset, .unset, .unset, .unset] []))
  refine own_step (fun _ kc_ => XS.aload X147.here hx rfl (hb hby at_120) rfl rfl (XS.bipush X147.here hx rfl (hb hby at_122) (XS.iload X147.here hx rfl (hb hby at_124) rfl kc_))) ?_
  show own_Ends p e below s _ _ _ (T147.setTop (mkF m 126 #[.val (.int p1), .val (.int p2), .val (.int p3), .val (.int p4), .val (.int p5), .val (.int p6), .val (.int nn), .val (.int (5 : Int32)), .val (.int fr), .val (.int qb), .val (.ref b141), .unset, .unset, .unset, .unset, .unset, .unset, .unset] [(.int qb), (.int (6 : Int32)), (.ref b141)]))
  obtain ⟨T148, h148, X148, e148, W148, A148, st148⟩ := own_bastore X147 hx hZ e147 A_b141_147 (j := (6 : Int32)) (x := qb) (by decide) (i := 6) rfl (Nat.le_of_ble_eq_true rfl) (Ls := #[.val (.int p1), .val (.int p2), .val (.int p3), .val (.int p4), .val (.int p5), .val (.int p6), .val (.int nn), .val (.int (5 : Int32)), .val (.int fr), .val (.int qb), .val (.ref b141), .unset, .unset, .unset, .unset, .unset, .unset, .unset]) (st := []) (hb hby at_126)
  have A_b141_148 : own_Ar Z h148 b141 .byte [(.int (nar .byte qb)), (.int (nar .byte qb)), (.int (nar .byte qb)), (.int (nar .byte qb)), (.int (nar .byte qb)), (.int (nar .byte qb)), (.int (nar .byte qb)), (.int (0 : Int32)), (.int (0 : Int32))] := A148
  have Zs148 := Nat.le_trans Zs147 (Nat.le_of_eq W148.size.symm)
  have N148 := Fr.snoc X148 N147 n0_b141
  refine own_step (fun _ kc_ => st148 _ kc_) ?_
  show own_Ends p e below s _ _ _ (T148.setTop (mkF m 127 #[.val (.int p1), .val (.int p2), .val (.int p3), .val (.int p4), .val (.int p5), .val (.int p6), .val (.int nn), .val (.int (5 : Int32)), .val (.int fr), .val (.int qb), .val (.ref b141), .unset, .unset, .unset, .unset, .unset, .unset, .unset] []))
  refine own_step (fun _ kc_ => XS.aload X148.here hx rfl (hb hby at_127) rfl rfl (XS.bipush X148.here hx rfl (hb hby at_129) (XS.iload X148.here hx rfl (hb hby at_131) rfl kc_))) ?_
  show own_Ends p e below s _ _ _ (T148.setTop (mkF m 133 #[.val (.int p1), .val (.int p2), .val (.int p3), .val (.int p4), .val (.int p5), .val (.int p6), .val (.int nn), .val (.int (5 : Int32)), .val (.int fr), .val (.int qb), .val (.ref b141), .unset, .unset, .unset, .unset, .unset, .unset, .unset] [(.int qb), (.int (7 : Int32)), (.ref b141)]))
  obtain ⟨T149, h149, X149, e149, W149, A149, st149⟩ := own_bastore X148 hx hZ e148 A_b141_148 (j := (7 : Int32)) (x := qb) (by decide) (i := 7) rfl (Nat.le_of_ble_eq_true rfl) (Ls := #[.val (.int p1), .val (.int p2), .val (.int p3), .val (.int p4), .val (.int p5), .val (.int p6), .val (.int nn), .val (.int (5 : Int32)), .val (.int fr), .val (.int qb), .val (.ref b141), .unset, .unset, .unset, .unset, .unset, .unset, .unset]) (st := []) (hb hby at_133)
  have A_b141_149 : own_Ar Z h149 b141 .byte [(.int (nar .byte qb)), (.int (nar .byte qb)), (.int (nar .byte qb)), (.int (nar .byte qb)), (.int (nar .byte qb)), (.int (nar .byte qb)), (.int (nar .byte qb)), (.int (nar .byte qb)), (.int (0 : Int32))] := A149
  have Zs149 := Nat.le_trans Zs148 (Nat.le_of_eq W149.size.symm)
  have N149 := Fr.snoc X149 N148 n0_b141
  refine own_step (fun _ kc_ => st149 _ kc_) ?_
  show own_Ends p e below s _ _ _ (T149.setTop (mkF m 134 #[.val (.int p1), .val (.int p2), .val (.int p3), .val (.int p4), .val (.int p5), .val (.int p6), .val (.int nn), .val (.int (5 : Int32)), .val (.int fr), .val (.int qb), .val (.ref b141), .unset, .unset, .unset, .unset, .unset, .unset, .unset] []))
  refine own_step (fun _ kc_ => XS.aload X149.here hx rfl (hb hby at_134) rfl rfl (XS.bipush X149.here hx rfl (hb hby at_136) (XS.iload X149.here hx rfl (hb hby at_138) rfl kc_))) ?_
  show own_Ends p e below s _ _ _ (T149.setTop (mkF m 140 #[.val (.int p1), .val (.int p2), .val (.int p3), .val (.int p4), .val (.int p5), .val (.int p6), .val (.int nn), .val (.int (5 : Int32)), .val (.int fr), .val (.int qb), .val (.ref b141), .unset, .unset, .unset, .unset, .unset, .unset, .unset] [(.int qb), (.int (8 : Int32)), (.ref b141)]))
  obtain ⟨T150, h150, X150, e150, W150, A150, st150⟩ := own_bastore X149 hx hZ e149 A_b141_149 (j := (8 : Int32)) (x := qb) (by decide) (i := 8) rfl (Nat.le_of_ble_eq_true rfl) (Ls := #[.val (.int p1), .val (.int p2), .val (.int p3), .val (.int p4), .val (.int p5), .val (.int p6), .val (.int nn), .val (.int (5 : Int32)), .val (.int fr), .val (.int qb), .val (.ref b141), .unset, .unset, .unset, .unset, .unset, .unset, .unset]) (st := []) (hb hby at_140)
  have A_b141_150 : own_Ar Z h150 b141 .byte [(.int (nar .byte qb)), (.int (nar .byte qb)), (.int (nar .byte qb)), (.int (nar .byte qb)), (.int (nar .byte qb)), (.int (nar .byte qb)), (.int (nar .byte qb)), (.int (nar .byte qb)), (.int (nar .byte qb))] := A150
  have Zs150 := Nat.le_trans Zs149 (Nat.le_of_eq W150.size.symm)
  have N150 := Fr.snoc X150 N149 n0_b141
  refine own_step (fun _ kc_ => st150 _ kc_) ?_
  show own_Ends p e below s _ _ _ (T150.setTop (mkF m 141 #[.val (.int p1), .val (.int p2), .val (.int p3), .val (.int p4), .val (.int p5), .val (.int p6), .val (.int nn), .val (.int (5 : Int32)), .val (.int fr), .val (.int qb), .val (.ref b141), .unset, .unset, .unset, .unset, .unset, .unset, .unset] []))
  refine own_step (fun _ kc_ => XS.aload X150.here hx rfl (hb hby at_141) rfl rfl (XS.iload X150.here hx rfl (hb hby at_143) rfl (XS.iload X150.here hx rfl (hb hby at_145) rfl (XS.iconst X150.here hx rfl (hb hby at_147) (XS.iload X150.here hx rfl (hb hby at_148) rfl kc_))))) ?_
  show own_Ends p e below s _ _ _ (T150.setTop (mkF m 150 #[.val (.int p1), .val (.int p2), .val (.int p3), .val (.int p4), .val (.int p5), .val (.int p6), .val (.int nn), .val (.int (5 : Int32)), .val (.int fr), .val (.int qb), .val (.ref b141), .unset, .unset, .unset, .unset, .unset, .unset, .unset] [(.int (5 : Int32)), (.int (0 : Int32)), (.int nn), (.int fr), (.ref b141)]))
  obtain ⟨_, _, ⟨T151, L151, k151, n151⟩, -, X151, ⟨Lc151, hQ151, l151, y151, z151⟩, st151⟩ := Jvm.LawKit.callS X150 hx (y := (⟨"com/example/wakachi/wakachi/ReaderNextPinLaw", "enc", "(III)B"⟩ : MethodName)) hown (mvT hZ (hw _ (List.mem_of_getElem? (i := 2) rfl))) (mvT hZ (hw _ (List.mem_of_getElem? (i := 3) rfl))) (mvT hZ (hw _ (List.mem_of_getElem? (i := 4) rfl))) (mvT hZ (hw _ (List.mem_of_getElem? (i := 5) rfl))) (by decide) (backOf (W := 2) (rm1 l Z a0 hw [] nn (0 : Int32) (5 : Int32)  h150 n0 Zs150 ) hZ (hw _ (List.mem_of_getElem? (i := 5) rfl)) (hw _ (List.mem_of_getElem? (i := 4) rfl)) (by decide) (by decide)) (g := (mkF m 150 #[.val (.int p1), .val (.int p2), .val (.int p3), .val (.int p4), .val (.int p5), .val (.int p6), .val (.int nn), .val (.int (5 : Int32)), .val (.int fr), .val (.int qb), .val (.ref b141), .unset, .unset, .unset, .unset, .unset, .unset, .unset] [(.int (5 : Int32)), (.int (0 : Int32)), (.int nn), (.int fr), (.ref b141)])) rfl (by rw [hml]; rfl) (argsL := [(.int nn), (.int (0 : Int32)), (.int (5 : Int32))]) (rest := [(.int fr), (.ref b141)]) (lenOf pd_1 rfl) rfl (by show 2 * 0 + _ ≤ _; exact Nat.le_of_eq rfl) (hb hby at_150) (fun _ _ => ⟨rfl, e150, (by decide : 1 + 0 ≤ _), (by decide : 9 + 0 ≤ _)⟩)
  dsimp only [Pt.U, Pt.locs, Pt.cells, Pt.slots] at X151 l151 y151 z151 st151 hQ151
  subst y151 z151
  obtain ⟨rfl, N151q, e151⟩ := hQ151
  have e151h : T151.heap = h150 := e151
  have N151 : Fr n0 L151 := by rw [l151]; exact Fr.app N150 N151q
  refine own_step (fun _ kc_ => st151 _ kc_) ?_
  show own_Ends p e below s _ _ _ (T151.setTop (mkF m 153 #[.val (.int p1), .val (.int p2), .val (.int p3), .val (.int p4), .val (.int p5), .val (.int p6), .val (.int nn), .val (.int (5 : Int32)), .val (.int fr), .val (.int qb), .val (.ref b141), .unset, .unset, .unset, .unset, .unset, .unset, .unset] [(.int (own_enc nn (0 : Int32) (5 : Int32))), (.int fr), (.ref b141)]))
  obtain ⟨T152, h152, X152, e152, W152, A152, st152⟩ := own_bastore X151 hx hZ e151h A_b141_150 (j := fr) (x := (own_enc nn (0 : Int32) (5 : Int32))) (own_ixz0 hF hfr) (i := F) (own_ixz hF hfr) (by simp only [List.length_set, List.length_cons, List.length_nil]; omega) (Ls := #[.val (.int p1), .val (.int p2), .val (.int p3), .val (.int p4), .val (.int p5), .val (.int p6), .val (.int nn), .val (.int (5 : Int32)), .val (.int fr), .val (.int qb), .val (.ref b141), .unset, .unset, .unset, .unset, .unset, .unset, .unset]) (st := []) (hb hby at_153)
  have A_b141_152 : own_Ar Z h152 b141 .byte (([(.int (nar .byte qb)), (.int (nar .byte qb)), (.int (nar .byte qb)), (.int (nar .byte qb)), (.int (nar .byte qb)), (.int (nar .byte qb)), (.int (nar .byte qb)), (.int (nar .byte qb)), (.int (nar .byte qb))]).set F (.int (nar .byte (own_enc nn (0 : Int32) (5 : Int32))))) := A152.cast rfl
  have Zs152 := Nat.le_trans Zs150 (Nat.le_of_eq W152.size.symm)
  have N152 := Fr.snoc X152 N151 n0_b141
  refine own_step (fun _ kc_ => st152 _ kc_) ?_
  show own_Ends p e below s _ _ _ (T152.setTop (mkF m 154 #[.val (.int p1), .val (.int p2), .val (.int p3), .val (.int p4), .val (.int p5), .val (.int p6), .val (.int nn), .val (.int (5 : Int32)), .val (.int fr), .val (.int qb), .val (.ref b141), .unset, .unset, .unset, .unset, .unset, .unset, .unset] []))
  refine own_step (fun _ kc_ => XS.iload X152.here hx rfl (hb hby at_154) rfl (XS.iconst X152.here hx rfl (hb hby at_156) (XS.icmpNo X152.here hx rfl (hb hby at_157) rfl (XT.ii_le_f (by decide : (1 : Int32) < (5 : Int32))) (XS.aload X152.here hx rfl (hb hby at_160) rfl rfl (XS.iload X152.here hx rfl (hb hby at_162) rfl (XS.iconst X152.here hx rfl (hb hby at_164) (XS.iadd X152.here hx rfl (hb hby at_165) rfl (XS.iload X152.here hx rfl (hb hby at_166) rfl kc_)))))))) ?_
  show own_Ends p e below s _ _ _ (T152.setTop (mkF m 168 #[.val (.int p1), .val (.int p2), .val (.int p3), .val (.int p4), .val (.int p5), .val (.int p6), .val (.int nn), .val (.int (5 : Int32)), .val (.int fr), .val (.int qb), .val (.ref b141), .unset, .unset, .unset, .unset, .unset, .unset, .unset] [(.int nn), (.int (fr + (1 : Int32))), (.ref b141)]))
  refine own_step (fun _ kc_ => XS.iconst X152.here hx rfl (hb hby at_168) (XS.iload X152.here hx rfl (hb hby at_169) rfl kc_)) ?_
  show own_Ends p e below s _ _ _ (T152.setTop (mkF m 171 #[.val (.int p1), .val (.int p2), .val (.int p3), .val (.int p4), .val (.int p5), .val (.int p6), .val (.int nn), .val (.int (5 : Int32)), .val (.int fr), .val (.int qb), .val (.ref b141), .unset, .unset, .unset, .unset, .unset, .unset, .unset] [(.int (5 : Int32)), (.int (1 : Int32)), (.int nn), (.int (fr + (1 : Int32))), (.ref b141)]))
  obtain ⟨_, _, ⟨T153, L153, k153, n153⟩, -, X153, ⟨Lc153, hQ153, l153, y153, z153⟩, st153⟩ := Jvm.LawKit.callS X152 hx (y := (⟨"com/example/wakachi/wakachi/ReaderNextPinLaw", "enc", "(III)B"⟩ : MethodName)) hown (mvT hZ (hw _ (List.mem_of_getElem? (i := 2) rfl))) (mvT hZ (hw _ (List.mem_of_getElem? (i := 3) rfl))) (mvT hZ (hw _ (List.mem_of_getElem? (i := 4) rfl))) (mvT hZ (hw _ (List.mem_of_getElem? (i := 5) rfl))) (by decide) (backOf (W := 2) (rm1 l Z a0 hw [] nn (1 : Int32) (5 : Int32)  h152 n0 Zs152 ) hZ (hw _ (List.mem_of_getElem? (i := 5) rfl)) (hw _ (List.mem_of_getElem? (i := 4) rfl)) (by decide) (by decide)) (g := (mkF m 171 #[.val (.int p1), .val (.int p2), .val (.int p3), .val (.int p4), .val (.int p5), .val (.int p6), .val (.int nn), .val (.int (5 : Int32)), .val (.int fr), .val (.int qb), .val (.ref b141), .unset, .unset, .unset, .unset, .unset, .unset, .unset] [(.int (5 : Int32)), (.int (1 : Int32)), (.int nn), (.int (fr + (1 : Int32))), (.ref b141)])) rfl (by rw [hml]; rfl) (argsL := [(.int nn), (.int (1 : Int32)), (.int (5 : Int32))]) (rest := [(.int (fr + (1 : Int32))), (.ref b141)]) (lenOf pd_1 rfl) rfl (by show 2 * 0 + _ ≤ _; exact Nat.le_of_eq rfl) (hb hby at_171) (fun _ _ => ⟨rfl, e152, (by decide : 1 + 0 ≤ _), (by decide : 9 + 0 ≤ _)⟩)
  dsimp only [Pt.U, Pt.locs, Pt.cells, Pt.slots] at X153 l153 y153 z153 st153 hQ153
  subst y153 z153
  obtain ⟨rfl, N153q, e153⟩ := hQ153
  have e153h : T153.heap = h152 := e153
  have N153 : Fr n0 L153 := by rw [l153]; exact Fr.app N152 N153q
  refine own_step (fun _ kc_ => st153 _ kc_) ?_
  show own_Ends p e below s _ _ _ (T153.setTop (mkF m 174 #[.val (.int p1), .val (.int p2), .val (.int p3), .val (.int p4), .val (.int p5), .val (.int p6), .val (.int nn), .val (.int (5 : Int32)), .val (.int fr), .val (.int qb), .val (.ref b141), .unset, .unset, .unset, .unset, .unset, .unset, .unset] [(.int (own_enc nn (1 : Int32) (5 : Int32))), (.int (fr + (1 : Int32))), (.ref b141)]))
  obtain ⟨T154, h154, X154, e154, W154, A154, st154⟩ := own_bastore X153 hx hZ e153h A_b141_152 (j := (fr + (1 : Int32))) (x := (own_enc nn (1 : Int32) (5 : Int32))) (own_ix0 hF hfr (k := 1) (by decide)) (i := F + 1) (own_ix hF hfr (k := 1) (by decide)) (by simp only [List.length_set, List.length_cons, List.length_nil]; omega) (Ls := #[.val (.int p1), .val (.int p2), .val (.int p3), .val (.int p4), .val (.int p5), .val (.int p6), .val (.int nn), .val (.int (5 : Int32)), .val (.int fr), .val (.int qb), .val (.ref b141), .unset, .unset, .unset, .unset, .unset, .unset, .unset]) (st := []) (hb hby at_174)
  have A_b141_154 : own_Ar Z h154 b141 .byte (((([(.int (nar .byte qb)), (.int (nar .byte qb)), (.int (nar .byte qb)), (.int (nar .byte qb)), (.int (nar .byte qb)), (.int (nar .byte qb)), (.int (nar .byte qb)), (.int (nar .byte qb)), (.int (nar .byte qb))]).set F (.int (nar .byte (own_enc nn (0 : Int32) (5 : Int32)))))).set (F + 1) (.int (nar .byte (own_enc nn (1 : Int32) (5 : Int32))))) := A154.cast rfl
  have Zs154 := Nat.le_trans Zs152 (Nat.le_of_eq W154.size.symm)
  have N154 := Fr.snoc X154 N153 n0_b141
  refine own_step (fun _ kc_ => st154 _ kc_) ?_
  show own_Ends p e below s _ _ _ (T154.setTop (mkF m 175 #[.val (.int p1), .val (.int p2), .val (.int p3), .val (.int p4), .val (.int p5), .val (.int p6), .val (.int nn), .val (.int (5 : Int32)), .val (.int fr), .val (.int qb), .val (.ref b141), .unset, .unset, .unset, .unset, .unset, .unset, .unset] []))
  refine own_step (fun _ kc_ => XS.iload X154.here hx rfl (hb hby at_175) rfl (XS.iconst X154.here hx rfl (hb hby at_177) (XS.icmpNo X154.here hx rfl (hb hby at_178) rfl (XT.ii_le_f (by decide : (2 : Int32) < (5 : Int32))) (XS.aload X154.here hx rfl (hb hby at_181) rfl rfl (XS.iload X154.here hx rfl (hb hby at_183) rfl (XS.iconst X154.here hx rfl (hb hby at_185) (XS.iadd X154.here hx rfl (hb hby at_186) rfl (XS.iload X154.here hx rfl (hb hby at_187) rfl kc_)))))))) ?_
  show own_Ends p e below s _ _ _ (T154.setTop (mkF m 189 #[.val (.int p1), .val (.int p2), .val (.int p3), .val (.int p4), .val (.int p5), .val (.int p6), .val (.int nn), .val (.int (5 : Int32)), .val (.int fr), .val (.int qb), .val (.ref b141), .unset, .unset, .unset, .unset, .unset, .unset, .unset] [(.int nn), (.int (fr + (2 : Int32))), (.ref b141)]))
  refine own_step (fun _ kc_ => XS.iconst X154.here hx rfl (hb hby at_189) (XS.iload X154.here hx rfl (hb hby at_190) rfl kc_)) ?_
  show own_Ends p e below s _ _ _ (T154.setTop (mkF m 192 #[.val (.int p1), .val (.int p2), .val (.int p3), .val (.int p4), .val (.int p5), .val (.int p6), .val (.int nn), .val (.int (5 : Int32)), .val (.int fr), .val (.int qb), .val (.ref b141), .unset, .unset, .unset, .unset, .unset, .unset, .unset] [(.int (5 : Int32)), (.int (2 : Int32)), (.int nn), (.int (fr + (2 : Int32))), (.ref b141)]))
  obtain ⟨_, _, ⟨T155, L155, k155, n155⟩, -, X155, ⟨Lc155, hQ155, l155, y155, z155⟩, st155⟩ := Jvm.LawKit.callS X154 hx (y := (⟨"com/example/wakachi/wakachi/ReaderNextPinLaw", "enc", "(III)B"⟩ : MethodName)) hown (mvT hZ (hw _ (List.mem_of_getElem? (i := 2) rfl))) (mvT hZ (hw _ (List.mem_of_getElem? (i := 3) rfl))) (mvT hZ (hw _ (List.mem_of_getElem? (i := 4) rfl))) (mvT hZ (hw _ (List.mem_of_getElem? (i := 5) rfl))) (by decide) (backOf (W := 2) (rm1 l Z a0 hw [] nn (2 : Int32) (5 : Int32)  h154 n0 Zs154 ) hZ (hw _ (List.mem_of_getElem? (i := 5) rfl)) (hw _ (List.mem_of_getElem? (i := 4) rfl)) (by decide) (by decide)) (g := (mkF m 192 #[.val (.int p1), .val (.int p2), .val (.int p3), .val (.int p4), .val (.int p5), .val (.int p6), .val (.int nn), .val (.int (5 : Int32)), .val (.int fr), .val (.int qb), .val (.ref b141), .unset, .unset, .unset, .unset, .unset, .unset, .unset] [(.int (5 : Int32)), (.int (2 : Int32)), (.int nn), (.int (fr + (2 : Int32))), (.ref b141)])) rfl (by rw [hml]; rfl) (argsL := [(.int nn), (.int (2 : Int32)), (.int (5 : Int32))]) (rest := [(.int (fr + (2 : Int32))), (.ref b141)]) (lenOf pd_1 rfl) rfl (by show 2 * 0 + _ ≤ _; exact Nat.le_of_eq rfl) (hb hby at_192) (fun _ _ => ⟨rfl, e154, (by decide : 1 + 0 ≤ _), (by decide : 9 + 0 ≤ _)⟩)
  dsimp only [Pt.U, Pt.locs, Pt.cells, Pt.slots] at X155 l155 y155 z155 st155 hQ155
  subst y155 z155
  obtain ⟨rfl, N155q, e155⟩ := hQ155
  have e155h : T155.heap = h154 := e155
  have N155 : Fr n0 L155 := by rw [l155]; exact Fr.app N154 N155q
  refine own_step (fun _ kc_ => st155 _ kc_) ?_
  show own_Ends p e below s _ _ _ (T155.setTop (mkF m 195 #[.val (.int p1), .val (.int p2), .val (.int p3), .val (.int p4), .val (.int p5), .val (.int p6), .val (.int nn), .val (.int (5 : Int32)), .val (.int fr), .val (.int qb), .val (.ref b141), .unset, .unset, .unset, .unset, .unset, .unset, .unset] [(.int (own_enc nn (2 : Int32) (5 : Int32))), (.int (fr + (2 : Int32))), (.ref b141)]))
  obtain ⟨T156, h156, X156, e156, W156, A156, st156⟩ := own_bastore X155 hx hZ e155h A_b141_154 (j := (fr + (2 : Int32))) (x := (own_enc nn (2 : Int32) (5 : Int32))) (own_ix0 hF hfr (k := 2) (by decide)) (i := F + 2) (own_ix hF hfr (k := 2) (by decide)) (by simp only [List.length_set, List.length_cons, List.length_nil]; omega) (Ls := #[.val (.int p1), .val (.int p2), .val (.int p3), .val (.int p4), .val (.int p5), .val (.int p6), .val (.int nn), .val (.int (5 : Int32)), .val (.int fr), .val (.int qb), .val (.ref b141), .unset, .unset, .unset, .unset, .unset, .unset, .unset]) (st := []) (hb hby at_195)
  have A_b141_156 : own_Ar Z h156 b141 .byte (((((([(.int (nar .byte qb)), (.int (nar .byte qb)), (.int (nar .byte qb)), (.int (nar .byte qb)), (.int (nar .byte qb)), (.int (nar .byte qb)), (.int (nar .byte qb)), (.int (nar .byte qb)), (.int (nar .byte qb))]).set F (.int (nar .byte (own_enc nn (0 : Int32) (5 : Int32)))))).set (F + 1) (.int (nar .byte (own_enc nn (1 : Int32) (5 : Int32)))))).set (F + 2) (.int (nar .byte (own_enc nn (2 : Int32) (5 : Int32))))) := A156.cast rfl
  have Zs156 := Nat.le_trans Zs154 (Nat.le_of_eq W156.size.symm)
  have N156 := Fr.snoc X156 N155 n0_b141
  refine own_step (fun _ kc_ => st156 _ kc_) ?_
  show own_Ends p e below s _ _ _ (T156.setTop (mkF m 196 #[.val (.int p1), .val (.int p2), .val (.int p3), .val (.int p4), .val (.int p5), .val (.int p6), .val (.int nn), .val (.int (5 : Int32)), .val (.int fr), .val (.int qb), .val (.ref b141), .unset, .unset, .unset, .unset, .unset, .unset, .unset] []))
  refine own_step (fun _ kc_ => XS.iload X156.here hx rfl (hb hby at_196) rfl (XS.iconst X156.here hx rfl (hb hby at_198) (XS.icmpNo X156.here hx rfl (hb hby at_199) rfl (XT.ii_le_f (by decide : (3 : Int32) < (5 : Int32))) (XS.aload X156.here hx rfl (hb hby at_202) rfl rfl (XS.iload X156.here hx rfl (hb hby at_204) rfl (XS.iconst X156.here hx rfl (hb hby at_206) (XS.iadd X156.here hx rfl (hb hby at_207) rfl (XS.iload X156.here hx rfl (hb hby at_208) rfl kc_)))))))) ?_
  show own_Ends p e below s _ _ _ (T156.setTop (mkF m 210 #[.val (.int p1), .val (.int p2), .val (.int p3), .val (.int p4), .val (.int p5), .val (.int p6), .val (.int nn), .val (.int (5 : Int32)), .val (.int fr), .val (.int qb), .val (.ref b141), .unset, .unset, .unset, .unset, .unset, .unset, .unset] [(.int nn), (.int (fr + (3 : Int32))), (.ref b141)]))
  refine own_step (fun _ kc_ => XS.iconst X156.here hx rfl (hb hby at_210) (XS.iload X156.here hx rfl (hb hby at_211) rfl kc_)) ?_
  show own_Ends p e below s _ _ _ (T156.setTop (mkF m 213 #[.val (.int p1), .val (.int p2), .val (.int p3), .val (.int p4), .val (.int p5), .val (.int p6), .val (.int nn), .val (.int (5 : Int32)), .val (.int fr), .val (.int qb), .val (.ref b141), .unset, .unset, .unset, .unset, .unset, .unset, .unset] [(.int (5 : Int32)), (.int (3 : Int32)), (.int nn), (.int (fr + (3 : Int32))), (.ref b141)]))
  obtain ⟨_, _, ⟨T157, L157, k157, n157⟩, -, X157, ⟨Lc157, hQ157, l157, y157, z157⟩, st157⟩ := Jvm.LawKit.callS X156 hx (y := (⟨"com/example/wakachi/wakachi/ReaderNextPinLaw", "enc", "(III)B"⟩ : MethodName)) hown (mvT hZ (hw _ (List.mem_of_getElem? (i := 2) rfl))) (mvT hZ (hw _ (List.mem_of_getElem? (i := 3) rfl))) (mvT hZ (hw _ (List.mem_of_getElem? (i := 4) rfl))) (mvT hZ (hw _ (List.mem_of_getElem? (i := 5) rfl))) (by decide) (backOf (W := 2) (rm1 l Z a0 hw [] nn (3 : Int32) (5 : Int32)  h156 n0 Zs156 ) hZ (hw _ (List.mem_of_getElem? (i := 5) rfl)) (hw _ (List.mem_of_getElem? (i := 4) rfl)) (by decide) (by decide)) (g := (mkF m 213 #[.val (.int p1), .val (.int p2), .val (.int p3), .val (.int p4), .val (.int p5), .val (.int p6), .val (.int nn), .val (.int (5 : Int32)), .val (.int fr), .val (.int qb), .val (.ref b141), .unset, .unset, .unset, .unset, .unset, .unset, .unset] [(.int (5 : Int32)), (.int (3 : Int32)), (.int nn), (.int (fr + (3 : Int32))), (.ref b141)])) rfl (by rw [hml]; rfl) (argsL := [(.int nn), (.int (3 : Int32)), (.int (5 : Int32))]) (rest := [(.int (fr + (3 : Int32))), (.ref b141)]) (lenOf pd_1 rfl) rfl (by show 2 * 0 + _ ≤ _; exact Nat.le_of_eq rfl) (hb hby at_213) (fun _ _ => ⟨rfl, e156, (by decide : 1 + 0 ≤ _), (by decide : 9 + 0 ≤ _)⟩)
  dsimp only [Pt.U, Pt.locs, Pt.cells, Pt.slots] at X157 l157 y157 z157 st157 hQ157
  subst y157 z157
  obtain ⟨rfl, N157q, e157⟩ := hQ157
  have e157h : T157.heap = h156 := e157
  have N157 : Fr n0 L157 := by rw [l157]; exact Fr.app N156 N157q
  refine own_step (fun _ kc_ => st157 _ kc_) ?_
  show own_Ends p e below s _ _ _ (T157.setTop (mkF m 216 #[.val (.int p1), .val (.int p2), .val (.int p3), .val (.int p4), .val (.int p5), .val (.int p6), .val (.int nn), .val (.int (5 : Int32)), .val (.int fr), .val (.int qb), .val (.ref b141), .unset, .unset, .unset, .unset, .unset, .unset, .unset] [(.int (own_enc nn (3 : Int32) (5 : Int32))), (.int (fr + (3 : Int32))), (.ref b141)]))
  obtain ⟨T158, h158, X158, e158, W158, A158, st158⟩ := own_bastore X157 hx hZ e157h A_b141_156 (j := (fr + (3 : Int32))) (x := (own_enc nn (3 : Int32) (5 : Int32))) (own_ix0 hF hfr (k := 3) (by decide)) (i := F + 3) (own_ix hF hfr (k := 3) (by decide)) (by simp only [List.length_set, List.length_cons, List.length_nil]; omega) (Ls := #[.val (.int p1), .val (.int p2), .val (.int p3), .val (.int p4), .val (.int p5), .val (.int p6), .val (.int nn), .val (.int (5 : Int32)), .val (.int fr), .val (.int qb), .val (.ref b141), .unset, .unset, .unset, .unset, .unset, .unset, .unset]) (st := []) (hb hby at_216)
  have A_b141_158 : own_Ar Z h158 b141 .byte (((((((([(.int (nar .byte qb)), (.int (nar .byte qb)), (.int (nar .byte qb)), (.int (nar .byte qb)), (.int (nar .byte qb)), (.int (nar .byte qb)), (.int (nar .byte qb)), (.int (nar .byte qb)), (.int (nar .byte qb))]).set F (.int (nar .byte (own_enc nn (0 : Int32) (5 : Int32)))))).set (F + 1) (.int (nar .byte (own_enc nn (1 : Int32) (5 : Int32)))))).set (F + 2) (.int (nar .byte (own_enc nn (2 : Int32) (5 : Int32)))))).set (F + 3) (.int (nar .byte (own_enc nn (3 : Int32) (5 : Int32))))) := A158.cast rfl
  have Zs158 := Nat.le_trans Zs156 (Nat.le_of_eq W158.size.symm)
  have N158 := Fr.snoc X158 N157 n0_b141
  refine own_step (fun _ kc_ => st158 _ kc_) ?_
  show own_Ends p e below s _ _ _ (T158.setTop (mkF m 217 #[.val (.int p1), .val (.int p2), .val (.int p3), .val (.int p4), .val (.int p5), .val (.int p6), .val (.int nn), .val (.int (5 : Int32)), .val (.int fr), .val (.int qb), .val (.ref b141), .unset, .unset, .unset, .unset, .unset, .unset, .unset] []))
  refine own_step (fun _ kc_ => XS.iload X158.here hx rfl (hb hby at_217) rfl (XS.iconst X158.here hx rfl (hb hby at_219) (XS.icmpNo X158.here hx rfl (hb hby at_220) rfl (XT.ii_le_f (by decide : (4 : Int32) < (5 : Int32))) (XS.aload X158.here hx rfl (hb hby at_223) rfl rfl (XS.iload X158.here hx rfl (hb hby at_225) rfl (XS.iconst X158.here hx rfl (hb hby at_227) (XS.iadd X158.here hx rfl (hb hby at_228) rfl (XS.iload X158.here hx rfl (hb hby at_229) rfl kc_)))))))) ?_
  show own_Ends p e below s _ _ _ (T158.setTop (mkF m 231 #[.val (.int p1), .val (.int p2), .val (.int p3), .val (.int p4), .val (.int p5), .val (.int p6), .val (.int nn), .val (.int (5 : Int32)), .val (.int fr), .val (.int qb), .val (.ref b141), .unset, .unset, .unset, .unset, .unset, .unset, .unset] [(.int nn), (.int (fr + (4 : Int32))), (.ref b141)]))
  refine own_step (fun _ kc_ => XS.iconst X158.here hx rfl (hb hby at_231) (XS.iload X158.here hx rfl (hb hby at_232) rfl kc_)) ?_
  show own_Ends p e below s _ _ _ (T158.setTop (mkF m 234 #[.val (.int p1), .val (.int p2), .val (.int p3), .val (.int p4), .val (.int p5), .val (.int p6), .val (.int nn), .val (.int (5 : Int32)), .val (.int fr), .val (.int qb), .val (.ref b141), .unset, .unset, .unset, .unset, .unset, .unset, .unset] [(.int (5 : Int32)), (.int (4 : Int32)), (.int nn), (.int (fr + (4 : Int32))), (.ref b141)]))
  obtain ⟨_, _, ⟨T159, L159, k159, n159⟩, -, X159, ⟨Lc159, hQ159, l159, y159, z159⟩, st159⟩ := Jvm.LawKit.callS X158 hx (y := (⟨"com/example/wakachi/wakachi/ReaderNextPinLaw", "enc", "(III)B"⟩ : MethodName)) hown (mvT hZ (hw _ (List.mem_of_getElem? (i := 2) rfl))) (mvT hZ (hw _ (List.mem_of_getElem? (i := 3) rfl))) (mvT hZ (hw _ (List.mem_of_getElem? (i := 4) rfl))) (mvT hZ (hw _ (List.mem_of_getElem? (i := 5) rfl))) (by decide) (backOf (W := 2) (rm1 l Z a0 hw [] nn (4 : Int32) (5 : Int32)  h158 n0 Zs158 ) hZ (hw _ (List.mem_of_getElem? (i := 5) rfl)) (hw _ (List.mem_of_getElem? (i := 4) rfl)) (by decide) (by decide)) (g := (mkF m 234 #[.val (.int p1), .val (.int p2), .val (.int p3), .val (.int p4), .val (.int p5), .val (.int p6), .val (.int nn), .val (.int (5 : Int32)), .val (.int fr), .val (.int qb), .val (.ref b141), .unset, .unset, .unset, .unset, .unset, .unset, .unset] [(.int (5 : Int32)), (.int (4 : Int32)), (.int nn), (.int (fr + (4 : Int32))), (.ref b141)])) rfl (by rw [hml]; rfl) (argsL := [(.int nn), (.int (4 : Int32)), (.int (5 : Int32))]) (rest := [(.int (fr + (4 : Int32))), (.ref b141)]) (lenOf pd_1 rfl) rfl (by show 2 * 0 + _ ≤ _; exact Nat.le_of_eq rfl) (hb hby at_234) (fun _ _ => ⟨rfl, e158, (by decide : 1 + 0 ≤ _), (by decide : 9 + 0 ≤ _)⟩)
  dsimp only [Pt.U, Pt.locs, Pt.cells, Pt.slots] at X159 l159 y159 z159 st159 hQ159
  subst y159 z159
  obtain ⟨rfl, N159q, e159⟩ := hQ159
  have e159h : T159.heap = h158 := e159
  have N159 : Fr n0 L159 := by rw [l159]; exact Fr.app N158 N159q
  refine own_step (fun _ kc_ => st159 _ kc_) ?_
  show own_Ends p e below s _ _ _ (T159.setTop (mkF m 237 #[.val (.int p1), .val (.int p2), .val (.int p3), .val (.int p4), .val (.int p5), .val (.int p6), .val (.int nn), .val (.int (5 : Int32)), .val (.int fr), .val (.int qb), .val (.ref b141), .unset, .unset, .unset, .unset, .unset, .unset, .unset] [(.int (own_enc nn (4 : Int32) (5 : Int32))), (.int (fr + (4 : Int32))), (.ref b141)]))
  obtain ⟨T160, h160, X160, e160, W160, A160, st160⟩ := own_bastore X159 hx hZ e159h A_b141_158 (j := (fr + (4 : Int32))) (x := (own_enc nn (4 : Int32) (5 : Int32))) (own_ix0 hF hfr (k := 4) (by decide)) (i := F + 4) (own_ix hF hfr (k := 4) (by decide)) (by simp only [List.length_set, List.length_cons, List.length_nil]; omega) (Ls := #[.val (.int p1), .val (.int p2), .val (.int p3), .val (.int p4), .val (.int p5), .val (.int p6), .val (.int nn), .val (.int (5 : Int32)), .val (.int fr), .val (.int qb), .val (.ref b141), .unset, .unset, .unset, .unset, .unset, .unset, .unset]) (st := []) (hb hby at_237)
  have A_b141_160 : own_Ar Z h160 b141 .byte (((((((((([(.int (nar .byte qb)), (.int (nar .byte qb)), (.int (nar .byte qb)), (.int (nar .byte qb)), (.int (nar .byte qb)), (.int (nar .byte qb)), (.int (nar .byte qb)), (.int (nar .byte qb)), (.int (nar .byte qb))]).set F (.int (nar .byte (own_enc nn (0 : Int32) (5 : Int32)))))).set (F + 1) (.int (nar .byte (own_enc nn (1 : Int32) (5 : Int32)))))).set (F + 2) (.int (nar .byte (own_enc nn (2 : Int32) (5 : Int32)))))).set (F + 3) (.int (nar .byte (own_enc nn (3 : Int32) (5 : Int32)))))).set (F + 4) (.int (nar .byte (own_enc nn (4 : Int32) (5 : Int32))))) := A160.cast rfl
  have Zs160 := Nat.le_trans Zs158 (Nat.le_of_eq W160.size.symm)
  have N160 := Fr.snoc X160 N159 n0_b141
  refine own_step (fun _ kc_ => st160 _ kc_) ?_
  show own_Ends p e below s _ _ _ (T160.setTop (mkF m 238 #[.val (.int p1), .val (.int p2), .val (.int p3), .val (.int p4), .val (.int p5), .val (.int p6), .val (.int nn), .val (.int (5 : Int32)), .val (.int fr), .val (.int qb), .val (.ref b141), .unset, .unset, .unset, .unset, .unset, .unset, .unset] []))
  refine own_step (fun _ kc_ => XS.iload X160.here hx rfl (hb hby at_238) rfl (XS.bipush X160.here hx rfl (hb hby at_240) (XS.iand X160.here hx rfl (hb hby at_242) rfl (XS.istore X160.here hx rfl (hb hby at_243) rfl (l' := #[.val (.int p1), .val (.int p2), .val (.int p3), .val (.int p4), .val (.int p5), .val (.int p6), .val (.int nn), .val (.int (5 : Int32)), .val (.int fr), .val (.int qb), .val (.ref b141), .val (.int (p5 &&& (127 : Int32))), .unset, .unset, .unset, .unset, .unset, .unset]) rfl kc_)))) ?_
  show own_Ends p e below s _ _ _ (T160.setTop (mkF m 245 #[.val (.int p1), .val (.int p2), .val (.int p3), .val (.int p4), .val (.int p5), .val (.int p6), .val (.int nn), .val (.int (5 : Int32)), .val (.int fr), .val (.int qb), .val (.ref b141), .val (.int (p5 &&& (127 : Int32))), .unset, .unset, .unset, .unset, .unset, .unset] []))
  generalize hsc : (p5 &&& (127 : Int32)) = sc
  show own_Ends p e below s _ _ _ (T160.setTop (mkF m 245 #[.val (.int p1), .val (.int p2), .val (.int p3), .val (.int p4), .val (.int p5), .val (.int p6), .val (.int nn), .val (.int (5 : Int32)), .val (.int fr), .val (.int qb), .val (.ref b141), .val (.int sc), .unset, .unset, .unset, .unset, .unset, .unset] []))
  refine own_step (fun _ kc_ => XS.aload X160.here hx rfl (hb hby at_245) rfl rfl (XS.iload X160.here hx rfl (hb hby at_247) rfl (XS.iload X160.here hx rfl (hb hby at_249) rfl (XS.iadd X160.here hx rfl (hb hby at_251) rfl (XS.iload X160.here hx rfl (hb hby at_252) rfl (XS.i2b X160.here hx rfl (hb hby at_254) rfl kc_)))))) ?_
  show own_Ends p e below s _ _ _ (T160.setTop (mkF m 255 #[.val (.int p1), .val (.int p2), .val (.int p3), .val (.int p4), .val (.int p5), .val (.int p6), .val (.int nn), .val (.int (5 : Int32)), .val (.int fr), .val (.int qb), .val (.ref b141), .val (.int sc), .unset, .unset, .unset, .unset, .unset, .unset] [(.int (sc.toInt8.toInt32)), (.int (fr + (5 : Int32))), (.ref b141)]))
  obtain ⟨T161, h161, X161, e161, W161, A161, st161⟩ := own_bastore X160 hx hZ e160 A_b141_160 (j := (fr + (5 : Int32))) (x := (sc.toInt8.toInt32)) (own_ix0 hF hfr (k := 5) (by decide)) (i := F + 5) (own_ix hF hfr (k := 5) (by decide)) (by simp only [List.length_set, List.length_cons, List.length_nil]; omega) (Ls := #[.val (.int p1), .val (.int p2), .val (.int p3), .val (.int p4), .val (.int p5), .val (.int p6), .val (.int nn), .val (.int (5 : Int32)), .val (.int fr), .val (.int qb), .val (.ref b141), .val (.int sc), .unset, .unset, .unset, .unset, .unset, .unset]) (st := []) (hb hby at_255)
  have A_b141_161 : own_Ar Z h161 b141 .byte (((((((((((([(.int (nar .byte qb)), (.int (nar .byte qb)), (.int (nar .byte qb)), (.int (nar .byte qb)), (.int (nar .byte qb)), (.int (nar .byte qb)), (.int (nar .byte qb)), (.int (nar .byte qb)), (.int (nar .byte qb))]).set F (.int (nar .byte (own_enc nn (0 : Int32) (5 : Int32)))))).set (F + 1) (.int (nar .byte (own_enc nn (1 : Int32) (5 : Int32)))))).set (F + 2) (.int (nar .byte (own_enc nn (2 : Int32) (5 : Int32)))))).set (F + 3) (.int (nar .byte (own_enc nn (3 : Int32) (5 : Int32)))))).set (F + 4) (.int (nar .byte (own_enc nn (4 : Int32) (5 : Int32)))))).set (F + 5) (.int (nar .byte (sc.toInt8.toInt32)))) := A161.cast rfl
  have Zs161 := Nat.le_trans Zs160 (Nat.le_of_eq W161.size.symm)
  have N161 := Fr.snoc X161 N160 n0_b141
  refine own_step (fun _ kc_ => st161 _ kc_) ?_
  show own_Ends p e below s _ _ _ (T161.setTop (mkF m 256 #[.val (.int p1), .val (.int p2), .val (.int p3), .val (.int p4), .val (.int p5), .val (.int p6), .val (.int nn), .val (.int (5 : Int32)), .val (.int fr), .val (.int qb), .val (.ref b141), .val (.int sc), .unset, .unset, .unset, .unset, .unset, .unset] []))
  refine own_step (fun _ kc_ => XS.iloadN X161.here hx rfl (hb hby at_256) rfl (X161.ldcI hx hown (mvT hZ (hw _ (List.mem_of_getElem? (i := 0) rfl))) rfl (hb hby at_257) (XS.iand X161.here hx rfl (hb hby at_259) rfl (XS.iload X161.here hx rfl (hb hby at_260) rfl (XS.iconst X161.here hx rfl (hb hby at_262) (XS.iadd X161.here hx rfl (hb hby at_263) rfl kc_)))))) ?_
  show own_Ends p e below s _ _ _ (T161.setTop (mkF m 264 #[.val (.int p1), .val (.int p2), .val (.int p3), .val (.int p4), .val (.int p5), .val (.int p6), .val (.int nn), .val (.int (5 : Int32)), .val (.int fr), .val (.int qb), .val (.ref b141), .val (.int sc), .unset, .unset, .unset, .unset, .unset, .unset] [(.int ((5 : Int32) + (2 : Int32))), (.int (p4 &&& (2147483647 : Int32)))]))
  rw [show ((5 : Int32) + (2 : Int32)) = (7 : Int32) from by decide]
  show own_Ends p e below s _ _ _ (T161.setTop (mkF m 264 #[.val (.int p1), .val (.int p2), .val (.int p3), .val (.int p4), .val (.int p5), .val (.int p6), .val (.int nn), .val (.int (5 : Int32)), .val (.int fr), .val (.int qb), .val (.ref b141), .val (.int sc), .unset, .unset, .unset, .unset, .unset, .unset] [(.int (7 : Int32)), (.int (p4 &&& (2147483647 : Int32)))]))
  refine own_step (fun _ kc_ => Jvm.RoadKit.iremM X161 hx rfl (hb hby at_264) rfl (by decide) (XS.istore X161.here hx rfl (hb hby at_265) rfl (l' := #[.val (.int p1), .val (.int p2), .val (.int p3), .val (.int p4), .val (.int p5), .val (.int p6), .val (.int nn), .val (.int (5 : Int32)), .val (.int fr), .val (.int qb), .val (.ref b141), .val (.int sc), .val (.int ((p4 &&& (2147483647 : Int32)) % (7 : Int32))), .unset, .unset, .unset, .unset, .unset]) rfl kc_)) ?_
  show own_Ends p e below s _ _ _ (T161.setTop (mkF m 267 #[.val (.int p1), .val (.int p2), .val (.int p3), .val (.int p4), .val (.int p5), .val (.int p6), .val (.int nn), .val (.int (5 : Int32)), .val (.int fr), .val (.int qb), .val (.ref b141), .val (.int sc), .val (.int ((p4 &&& (2147483647 : Int32)) % (7 : Int32))), .unset, .unset, .unset, .unset, .unset] []))
  generalize hcc : ((p4 &&& (2147483647 : Int32)) % (7 : Int32)) = cc
  show own_Ends p e below s _ _ _ (T161.setTop (mkF m 267 #[.val (.int p1), .val (.int p2), .val (.int p3), .val (.int p4), .val (.int p5), .val (.int p6), .val (.int nn), .val (.int (5 : Int32)), .val (.int fr), .val (.int qb), .val (.ref b141), .val (.int sc), .val (.int cc), .unset, .unset, .unset, .unset, .unset] []))
  obtain ⟨T162, h162, X162, e162, E162, A162, D162, -, st162⟩ := newO X161 hx hZ hown (hw _ (List.mem_of_getElem? (i := 6) rfl)) (hw _ (List.mem_of_getElem? (i := 7) rfl)) (hw _ (List.mem_of_getElem? (i := 8) rfl)) e161 (g := (mkF m 267 #[.val (.int p1), .val (.int p2), .val (.int p3), .val (.int p4), .val (.int p5), .val (.int p6), .val (.int nn), .val (.int (5 : Int32)), .val (.int fr), .val (.int qb), .val (.ref b141), .val (.int sc), .val (.int cc), .unset, .unset, .unset, .unset, .unset] [])) rfl (hb hby at_267) (by decide : 1 + 1 ≤ _) (by decide : 9 + 3 ≤ _)
  obtain ⟨b162, g162⟩ : ∃ z, z = h161.size := ⟨_, rfl⟩
  rw [← g162] at A162 D162 st162
  have ne_b141_b162 : b141 ≠ b162 := Nat.ne_of_lt (Nat.lt_of_lt_of_le (A_b141_161).lt (Nat.le_of_eq g162.symm))
  have n0_b162 : n0 ≤ b162 := Nat.le_trans Zs161 (Nat.le_of_eq g162.symm)
  have A_b141_162 := (A_b141_161).ext E162
  have Zs162 := Nat.le_trans Zs161 E162.1
  have F_bytes_b162 : Fld Z h162 b162 "com/example/wakachi/wakachi/VarInts$Reader" "bytes" "[B" .null := D162 (Or.inr (hw _ (List.mem_of_getElem? (i := 16) rfl))) (ty := (.array .byte)) (by decide)
  have F_position_b162 : Fld Z h162 b162 "com/example/wakachi/wakachi/VarInts$Reader" "position" "I" (.int (0 : Int32)) := D162 (Or.inl (hw _ (List.mem_of_getElem? (i := 18) rfl))) (ty := .int) (by decide)
  have F_to_b162 : Fld Z h162 b162 "com/example/wakachi/wakachi/VarInts$Reader" "to" "I" (.int (0 : Int32)) := D162 (Or.inr (hw _ (List.mem_of_getElem? (i := 20) rfl))) (ty := .int) (by decide)
  refine own_step (fun _ kc_ => st162 _ kc_) ?_
  show own_Ends p e below s _ _ _ (T162.setTop (mkF m 270 #[.val (.int p1), .val (.int p2), .val (.int p3), .val (.int p4), .val (.int p5), .val (.int p6), .val (.int nn), .val (.int (5 : Int32)), .val (.int fr), .val (.int qb), .val (.ref b141), .val (.int sc), .val (.int cc), .unset, .unset, .unset, .unset, .unset] [(.ref b162)]))
  refine own_step (fun _ kc_ => XS.dup X162.here hx rfl (hb hby at_270) rfl rfl (XS.aload X162.here hx rfl (hb hby at_271) rfl rfl (XS.iload X162.here hx rfl (hb hby at_273) rfl (XS.iload X162.here hx rfl (hb hby at_275) rfl (XS.iload X162.here hx rfl (hb hby at_277) rfl (XS.iadd X162.here hx rfl (hb hby at_279) rfl kc_)))))) ?_
  show own_Ends p e below s _ _ _ (T162.setTop (mkF m 280 #[.val (.int p1), .val (.int p2), .val (.int p3), .val (.int p4), .val (.int p5), .val (.int p6), .val (.int nn), .val (.int (5 : Int32)), .val (.int fr), .val (.int qb), .val (.ref b141), .val (.int sc), .val (.int cc), .unset, .unset, .unset, .unset, .unset] [(.int (fr + cc)), (.int fr), (.ref b141), (.ref b162), (.ref b162)]))
  obtain ⟨C, hC, hcC⟩ : ∃ C : Nat, C < 7 ∧ cc = Int32.ofNat C := own_cut p4 (7 : Int32) 7 (by decide) rfl hcc
  have hto : fr + cc = Int32.ofNat (F + C) := by rw [hfr, hcC, Int32.ofNat_add]
  rw [hto]
  show own_Ends p e below s _ _ _ (T162.setTop (mkF m 280 #[.val (.int p1), .val (.int p2), .val (.int p3), .val (.int p4), .val (.int p5), .val (.int p6), .val (.int nn), .val (.int (5 : Int32)), .val (.int fr), .val (.int qb), .val (.ref b141), .val (.int sc), .val (.int cc), .unset, .unset, .unset, .unset, .unset] [(.int (Int32.ofNat (F + C))), (.int fr), (.ref b141), (.ref b162), (.ref b162)]))
  obtain ⟨vs, hvs⟩ : ∃ v : List Value, (((((((((((([(.int (nar .byte qb)), (.int (nar .byte qb)), (.int (nar .byte qb)), (.int (nar .byte qb)), (.int (nar .byte qb)), (.int (nar .byte qb)), (.int (nar .byte qb)), (.int (nar .byte qb)), (.int (nar .byte qb))]).set F (.int (nar .byte (own_enc nn (0 : Int32) (5 : Int32)))))).set (F + 1) (.int (nar .byte (own_enc nn (1 : Int32) (5 : Int32)))))).set (F + 2) (.int (nar .byte (own_enc nn (2 : Int32) (5 : Int32)))))).set (F + 3) (.int (nar .byte (own_enc nn (3 : Int32) (5 : Int32)))))).set (F + 4) (.int (nar .byte (own_enc nn (4 : Int32) (5 : Int32)))))).set (F + 5) (.int (nar .byte (sc.toInt8.toInt32)))) = v := ⟨_, rfl⟩
  have A_vs : own_Ar Z h162 b141 .byte vs := by rw [← hvs]; exact A_b141_162
  have hints : own_ints vs := by rw [← hvs]; exact own_ints_set (own_ints_set (own_ints_set (own_ints_set (own_ints_set (own_ints_set (own_ints9 _ _ _ _ _ _ _ _ _))))))
  have hlen : vs.length = 9 := by rw [← hvs]; simp only [List.length_set, List.length_cons, List.length_nil]
  have hb0 : own_iv vs (F + 0) = nar .byte (own_enc nn (0 : Int32) (5 : Int32)) := by rw [← hvs]; exact own_pk5_0 _ _ _ _ _ _ _  F hF
  have hb1 : own_iv vs (F + 1) = nar .byte (own_enc nn (1 : Int32) (5 : Int32)) := by rw [← hvs]; exact own_pk5_1 _ _ _ _ _ _ _  F hF
  have hb2 : own_iv vs (F + 2) = nar .byte (own_enc nn (2 : Int32) (5 : Int32)) := by rw [← hvs]; exact own_pk5_2 _ _ _ _ _ _ _  F hF
  have hb3 : own_iv vs (F + 3) = nar .byte (own_enc nn (3 : Int32) (5 : Int32)) := by rw [← hvs]; exact own_pk5_3 _ _ _ _ _ _ _  F hF
  have hb4 : own_iv vs (F + 4) = nar .byte (own_enc nn (4 : Int32) (5 : Int32)) := by rw [← hvs]; exact own_pk5_4 _ _ _ _ _ _ _  F hF
  have hb5 : own_iv vs (F + 5) = nar .byte (sc.toInt8.toInt32) := by rw [← hvs]; exact own_pk5_5 _ _ _ _ _ _ _  F hF
  obtain ⟨_, _, ⟨T163, L163, k163, n163⟩, -, X163, ⟨Lc163, hQ163, l163, y163, z163⟩, st163⟩ := X162.specialBack hx (y := (⟨"com/example/wakachi/wakachi/VarInts$Reader", "<init>", "([BII)V"⟩ : MethodName)) rfl hown (mvT hZ (hw _ (List.mem_of_getElem? (i := 9) rfl))) (mvT hZ (hw _ (List.mem_of_getElem? (i := 10) rfl))) (mvT hZ (hw _ (List.mem_of_getElem? (i := 11) rfl))) (by decide) (backOf (W := 1) (rm2 l Z a0 hw [] b162 b141 fr (Int32.ofNat (F + C))  h162 n0 Zs162 A162 F_bytes_b162 F_position_b162 F_to_b162 n0_b162) hZ (hw _ (List.mem_of_getElem? (i := 11) rfl)) (hw _ (List.mem_of_getElem? (i := 8) rfl)) (by decide) (by decide)) (g := (mkF m 280 #[.val (.int p1), .val (.int p2), .val (.int p3), .val (.int p4), .val (.int p5), .val (.int p6), .val (.int nn), .val (.int (5 : Int32)), .val (.int fr), .val (.int qb), .val (.ref b141), .val (.int sc), .val (.int cc), .unset, .unset, .unset, .unset, .unset] [(.int (Int32.ofNat (F + C))), (.int fr), (.ref b141), (.ref b162), (.ref b162)])) rfl (by rw [hml]; rfl) (Steps.refl _) (a := b162) (argsL := [(.ref b141), (.int fr), (.int (Int32.ofNat (F + C)))]) (rest := [(.ref b162)]) (lenOf pd_2 rfl) rfl (by show 2 * 0 + _ ≤ _; exact Nat.le_of_eq rfl) (hb hby at_280) (fun _ _ => ⟨rfl, e162, (by decide : 2 + 0 ≤ _), (by decide : 12 + 0 ≤ _)⟩)
  dsimp only [Pt.U, Pt.locs, Pt.cells, Pt.slots] at X163 l163 y163 z163 st163 hQ163
  subst y163 z163
  obtain ⟨rfl, N163q, K163k, fB163, fP163, fT163⟩ := hQ163
  rw [hfr] at fP163
  have A_b141_163 := (A_vs).keep K163k (ninS ne_b141_b162 nin0)
  have E_b162_163 := (A162).keep K163k
  have Zs163 := Nat.le_trans Zs162 K163k.1
  have N163 : Fr n0 L163 := by rw [l163]; exact Fr.app N161 N163q
  refine own_step (fun _ kc_ => st163.trans kc_) ?_
  show own_Ends p e below s _ _ _ (T163.setTop (mkF m 283 #[.val (.int p1), .val (.int p2), .val (.int p3), .val (.int p4), .val (.int p5), .val (.int p6), .val (.int nn), .val (.int (5 : Int32)), .val (.int fr), .val (.int qb), .val (.ref b141), .val (.int sc), .val (.int cc), .unset, .unset, .unset, .unset, .unset] [(.ref b162)]))
  refine own_step (fun _ kc_ => XS.astore X163.here hx rfl (hb hby at_283) rfl rfl (l' := #[.val (.int p1), .val (.int p2), .val (.int p3), .val (.int p4), .val (.int p5), .val (.int p6), .val (.int nn), .val (.int (5 : Int32)), .val (.int fr), .val (.int qb), .val (.ref b141), .val (.int sc), .val (.int cc), .val (.ref b162), .unset, .unset, .unset, .unset]) rfl kc_) ?_
  show own_Ends p e below s _ _ _ (T163.setTop (mkF m 285 #[.val (.int p1), .val (.int p2), .val (.int p3), .val (.int p4), .val (.int p5), .val (.int p6), .val (.int nn), .val (.int (5 : Int32)), .val (.int fr), .val (.int qb), .val (.ref b141), .val (.int sc), .val (.int cc), .val (.ref b162), .unset, .unset, .unset, .unset] []))
  rcases (show C < 5 ∨ C = 5 ∨ C = 6 by omega) with hC1 | hC1 | hC1
  · have hx1 : own_nx vs F 0 0 C = (-1, F + C) := own_nx_all vs C F 0 0 (own_neg5 vs F C nn hC1 hb0 hb1 hb2 hb3 hb4)
    have hx2 : own_nx vs (F + C) 0 0 0 = (-1, F + C) := rfl
    have hh1 := own_hasEq (F + C)
    have hh2 := own_hasEq (F + C)
    show own_Ends p e below s _ _ _ (T163.setTop (mkF m 285 #[.val (.int p1), .val (.int p2), .val (.int p3), .val (.int p4), .val (.int p5), .val (.int p6), .val (.int nn), .val (.int (5 : Int32)), .val (.int fr), .val (.int qb), .val (.ref b141), .val (.int sc), .val (.int cc), .val (.ref b162), .unset, .unset, .unset, .unset] []))
    refine own_step (fun _ kc_ => XS.aload X163.here hx rfl (hb hby at_285) rfl rfl kc_) ?_
    show own_Ends p e below s _ _ _ (T163.setTop (mkF m 287 #[.val (.int p1), .val (.int p2), .val (.int p3), .val (.int p4), .val (.int p5), .val (.int p6), .val (.int nn), .val (.int (5 : Int32)), .val (.int fr), .val (.int qb), .val (.ref b141), .val (.int sc), .val (.int cc), .val (.ref b162), .unset, .unset, .unset, .unset] [(.ref b162)]))
    obtain ⟨cq164, kq164, q164a, q164b, q164c⟩ := isOf hZ rfl E_b162_163
    obtain ⟨_, _, ⟨T164, L164, k164, n164⟩, -, X164, ⟨Lc164, hQ164, l164, y164, z164⟩, st164⟩ := X163.virtualBack hx (y := (⟨"com/example/wakachi/wakachi/VarInts$Reader", "next", "()I"⟩ : MethodName)) (z := (⟨"com/example/wakachi/wakachi/VarInts$Reader", "next", "()I"⟩ : MethodName)) hown (mvT hZ (hw _ (List.mem_of_getElem? (i := 21) rfl))) (mvT hZ (hw _ (List.mem_of_getElem? (i := 22) rfl))) (notFace_of_selects (args := #[]) (mvT hZ (hw _ (List.mem_of_getElem? (i := 24) rfl)))) (mvT hZ (hw _ (List.mem_of_getElem? (i := 24) rfl))) (mvT hZ (hw _ (List.mem_of_getElem? (i := 23) rfl))) (by decide) (backOf (W := 0) (rm4 l Z a0 hw [] b162 b141 vs F C T163.heap n0 Zs163 E_b162_163 fB163 fP163 fT163 A_b141_163 hints (by rw [hlen]; omega) n0_b162 (Ne.symm ne_b141_b162)) hZ (hw _ (List.mem_of_getElem? (i := 25) rfl)) (hw _ (List.mem_of_getElem? (i := 8) rfl)) (by decide) (by decide)) q164a q164c (g := (mkF m 287 #[.val (.int p1), .val (.int p2), .val (.int p3), .val (.int p4), .val (.int p5), .val (.int p6), .val (.int nn), .val (.int (5 : Int32)), .val (.int fr), .val (.int qb), .val (.ref b141), .val (.int sc), .val (.int cc), .val (.ref b162), .unset, .unset, .unset, .unset] [(.ref b162)])) rfl (by rw [hml]; rfl) (Steps.refl _) (argsL := []) (rest := []) (lenOf pd_3 rfl) rfl (by show 2 * 0 + _ ≤ _; exact Nat.le_of_eq rfl) (hb hby at_287) (fun _ _ => ⟨rfl, rfl, (by decide : 2 + 0 ≤ _), (by decide : 12 + 0 ≤ _)⟩)
    dsimp only [Pt.U, Pt.locs, Pt.cells, Pt.slots] at X164 l164 y164 z164 st164 hQ164
    subst y164 z164
    obtain ⟨hv164, N164q, K164k, fP164, fB164, fT164⟩ := hQ164
    rw [hx1] at hv164 fP164
    subst hv164
    have A_b141_164 := (A_b141_163).keep K164k (ninS ne_b141_b162 nin0)
    have E_b162_164 := (E_b162_163).keep K164k
    have Zs164 := Nat.le_trans Zs163 K164k.1
    have N164 : Fr n0 L164 := by rw [l164]; exact Fr.app N163 N164q
    refine own_step (fun _ kc_ => st164.trans kc_) ?_
    show own_Ends p e below s _ _ _ (T164.setTop (mkF m 290 #[.val (.int p1), .val (.int p2), .val (.int p3), .val (.int p4), .val (.int p5), .val (.int p6), .val (.int nn), .val (.int (5 : Int32)), .val (.int fr), .val (.int qb), .val (.ref b141), .val (.int sc), .val (.int cc), .val (.ref b162), .unset, .unset, .unset, .unset] [(.int (-1 : Int32))]))
    refine own_step (fun _ kc_ => XS.istore X164.here hx rfl (hb hby at_290) rfl (l' := #[.val (.int p1), .val (.int p2), .val (.int p3), .val (.int p4), .val (.int p5), .val (.int p6), .val (.int nn), .val (.int (5 : Int32)), .val (.int fr), .val (.int qb), .val (.ref b141), .val (.int sc), .val (.int cc), .val (.ref b162), .val (.int (-1 : Int32)), .unset, .unset, .unset]) rfl (XS.aload X164.here hx rfl (hb hby at_292) rfl rfl kc_)) ?_
    show own_Ends p e below s _ _ _ (T164.setTop (mkF m 294 #[.val (.int p1), .val (.int p2), .val (.int p3), .val (.int p4), .val (.int p5), .val (.int p6), .val (.int nn), .val (.int (5 : Int32)), .val (.int fr), .val (.int qb), .val (.ref b141), .val (.int sc), .val (.int cc), .val (.ref b162), .val (.int (-1 : Int32)), .unset, .unset, .unset] [(.ref b162)]))
    obtain ⟨cq165, kq165, q165a, q165b, q165c⟩ := isOf hZ rfl E_b162_164
    obtain ⟨_, _, ⟨T165, L165, k165, n165⟩, -, X165, ⟨Lc165, hQ165, l165, y165, z165⟩, st165⟩ := X164.virtualBack hx (y := (⟨"com/example/wakachi/wakachi/VarInts$Reader", "hasNext", "()Z"⟩ : MethodName)) (z := (⟨"com/example/wakachi/wakachi/VarInts$Reader", "hasNext", "()Z"⟩ : MethodName)) hown (mvT hZ (hw _ (List.mem_of_getElem? (i := 26) rfl))) (mvT hZ (hw _ (List.mem_of_getElem? (i := 27) rfl))) (notFace_of_selects (args := #[]) (mvT hZ (hw _ (List.mem_of_getElem? (i := 29) rfl)))) (mvT hZ (hw _ (List.mem_of_getElem? (i := 29) rfl))) (mvT hZ (hw _ (List.mem_of_getElem? (i := 28) rfl))) (by decide) (backOf (W := 0) (rm5 l Z a0 hw [] b162 (Int32.ofNat (F + C)) (Int32.ofNat (F + C)) T164.heap n0 Zs164 fP164 fT164) hZ (hw _ (List.mem_of_getElem? (i := 30) rfl)) (hw _ (List.mem_of_getElem? (i := 8) rfl)) (by decide) (by decide)) q165a q165c (g := (mkF m 294 #[.val (.int p1), .val (.int p2), .val (.int p3), .val (.int p4), .val (.int p5), .val (.int p6), .val (.int nn), .val (.int (5 : Int32)), .val (.int fr), .val (.int qb), .val (.ref b141), .val (.int sc), .val (.int cc), .val (.ref b162), .val (.int (-1 : Int32)), .unset, .unset, .unset] [(.ref b162)])) rfl (by rw [hml]; rfl) (Steps.refl _) (argsL := []) (rest := []) (lenOf pd_4 rfl) rfl (by show 2 * 0 + _ ≤ _; exact Nat.le_of_eq rfl) (hb hby at_294) (fun _ _ => ⟨rfl, rfl, (by decide : 2 + 0 ≤ _), (by decide : 12 + 0 ≤ _)⟩)
    dsimp only [Pt.U, Pt.locs, Pt.cells, Pt.slots] at X165 l165 y165 z165 st165 hQ165
    subst y165 z165
    obtain ⟨hv165, N165q, e165⟩ := hQ165
    rw [hh1] at hv165
    subst hv165
    have e165h : T165.heap = T164.heap := e165
    have N165 : Fr n0 L165 := by rw [l165]; exact Fr.app N164 N165q
    refine own_step (fun _ kc_ => st165.trans kc_) ?_
    show own_Ends p e below s _ _ _ (T165.setTop (mkF m 297 #[.val (.int p1), .val (.int p2), .val (.int p3), .val (.int p4), .val (.int p5), .val (.int p6), .val (.int nn), .val (.int (5 : Int32)), .val (.int fr), .val (.int qb), .val (.ref b141), .val (.int sc), .val (.int cc), .val (.ref b162), .val (.int (-1 : Int32)), .unset, .unset, .unset] [(.int (0 : Int32))]))
    refine own_step (fun _ kc_ => XS.istore X165.here hx rfl (hb hby at_297) rfl (l' := #[.val (.int p1), .val (.int p2), .val (.int p3), .val (.int p4), .val (.int p5), .val (.int p6), .val (.int nn), .val (.int (5 : Int32)), .val (.int fr), .val (.int qb), .val (.ref b141), .val (.int sc), .val (.int cc), .val (.ref b162), .val (.int (-1 : Int32)), .val (.int (0 : Int32)), .unset, .unset]) rfl (XS.aload X165.here hx rfl (hb hby at_299) rfl rfl kc_)) ?_
    show own_Ends p e below s _ _ _ (T165.setTop (mkF m 301 #[.val (.int p1), .val (.int p2), .val (.int p3), .val (.int p4), .val (.int p5), .val (.int p6), .val (.int nn), .val (.int (5 : Int32)), .val (.int fr), .val (.int qb), .val (.ref b141), .val (.int sc), .val (.int cc), .val (.ref b162), .val (.int (-1 : Int32)), .val (.int (0 : Int32)), .unset, .unset] [(.ref b162)]))
    obtain ⟨cq166, kq166, q166a, q166b, q166c⟩ := isOf hZ e165h E_b162_164
    obtain ⟨_, _, ⟨T166, L166, k166, n166⟩, -, X166, ⟨Lc166, hQ166, l166, y166, z166⟩, st166⟩ := X165.virtualBack hx (y := (⟨"com/example/wakachi/wakachi/VarInts$Reader", "next", "()I"⟩ : MethodName)) (z := (⟨"com/example/wakachi/wakachi/VarInts$Reader", "next", "()I"⟩ : MethodName)) hown (mvT hZ (hw _ (List.mem_of_getElem? (i := 21) rfl))) (mvT hZ (hw _ (List.mem_of_getElem? (i := 22) rfl))) (notFace_of_selects (args := #[]) (mvT hZ (hw _ (List.mem_of_getElem? (i := 24) rfl)))) (mvT hZ (hw _ (List.mem_of_getElem? (i := 24) rfl))) (mvT hZ (hw _ (List.mem_of_getElem? (i := 23) rfl))) (by decide) (backOf (W := 0) (rm4 l Z a0 hw [] b162 b141 vs (F + C) 0 T164.heap n0 Zs164 E_b162_164 fB164 fP164 fT164 A_b141_164 hints (by rw [hlen]; omega) n0_b162 (Ne.symm ne_b141_b162)) hZ (hw _ (List.mem_of_getElem? (i := 25) rfl)) (hw _ (List.mem_of_getElem? (i := 8) rfl)) (by decide) (by decide)) q166a q166c (g := (mkF m 301 #[.val (.int p1), .val (.int p2), .val (.int p3), .val (.int p4), .val (.int p5), .val (.int p6), .val (.int nn), .val (.int (5 : Int32)), .val (.int fr), .val (.int qb), .val (.ref b141), .val (.int sc), .val (.int cc), .val (.ref b162), .val (.int (-1 : Int32)), .val (.int (0 : Int32)), .unset, .unset] [(.ref b162)])) rfl (by rw [hml]; rfl) (Steps.refl _) (argsL := []) (rest := []) (lenOf pd_3 rfl) rfl (by show 2 * 0 + _ ≤ _; exact Nat.le_of_eq rfl) (hb hby at_301) (fun _ _ => ⟨rfl, e165h, (by decide : 2 + 0 ≤ _), (by decide : 12 + 0 ≤ _)⟩)
    dsimp only [Pt.U, Pt.locs, Pt.cells, Pt.slots] at X166 l166 y166 z166 st166 hQ166
    subst y166 z166
    obtain ⟨hv166, N166q, K166k, fP166, fB166, fT166⟩ := hQ166
    rw [hx2] at hv166 fP166
    subst hv166
    have A_b141_166 := (A_b141_164).keep K166k (ninS ne_b141_b162 nin0)
    have E_b162_166 := (E_b162_164).keep K166k
    have Zs166 := Nat.le_trans Zs164 K166k.1
    have N166 : Fr n0 L166 := by rw [l166]; exact Fr.app N165 N166q
    refine own_step (fun _ kc_ => st166.trans kc_) ?_
    show own_Ends p e below s _ _ _ (T166.setTop (mkF m 304 #[.val (.int p1), .val (.int p2), .val (.int p3), .val (.int p4), .val (.int p5), .val (.int p6), .val (.int nn), .val (.int (5 : Int32)), .val (.int fr), .val (.int qb), .val (.ref b141), .val (.int sc), .val (.int cc), .val (.ref b162), .val (.int (-1 : Int32)), .val (.int (0 : Int32)), .unset, .unset] [(.int (-1 : Int32))]))
    refine own_step (fun _ kc_ => XS.istore X166.here hx rfl (hb hby at_304) rfl (l' := #[.val (.int p1), .val (.int p2), .val (.int p3), .val (.int p4), .val (.int p5), .val (.int p6), .val (.int nn), .val (.int (5 : Int32)), .val (.int fr), .val (.int qb), .val (.ref b141), .val (.int sc), .val (.int cc), .val (.ref b162), .val (.int (-1 : Int32)), .val (.int (0 : Int32)), .val (.int (-1 : Int32)), .unset]) rfl (XS.aload X166.here hx rfl (hb hby at_306) rfl rfl kc_)) ?_
    show own_Ends p e below s _ _ _ (T166.setTop (mkF m 308 #[.val (.int p1), .val (.int p2), .val (.int p3), .val (.int p4), .val (.int p5), .val (.int p6), .val (.int nn), .val (.int (5 : Int32)), .val (.int fr), .val (.int qb), .val (.ref b141), .val (.int sc), .val (.int cc), .val (.ref b162), .val (.int (-1 : Int32)), .val (.int (0 : Int32)), .val (.int (-1 : Int32)), .unset] [(.ref b162)]))
    obtain ⟨cq167, kq167, q167a, q167b, q167c⟩ := isOf hZ rfl E_b162_166
    obtain ⟨_, _, ⟨T167, L167, k167, n167⟩, -, X167, ⟨Lc167, hQ167, l167, y167, z167⟩, st167⟩ := X166.virtualBack hx (y := (⟨"com/example/wakachi/wakachi/VarInts$Reader", "hasNext", "()Z"⟩ : MethodName)) (z := (⟨"com/example/wakachi/wakachi/VarInts$Reader", "hasNext", "()Z"⟩ : MethodName)) hown (mvT hZ (hw _ (List.mem_of_getElem? (i := 26) rfl))) (mvT hZ (hw _ (List.mem_of_getElem? (i := 27) rfl))) (notFace_of_selects (args := #[]) (mvT hZ (hw _ (List.mem_of_getElem? (i := 29) rfl)))) (mvT hZ (hw _ (List.mem_of_getElem? (i := 29) rfl))) (mvT hZ (hw _ (List.mem_of_getElem? (i := 28) rfl))) (by decide) (backOf (W := 0) (rm5 l Z a0 hw [] b162 (Int32.ofNat (F + C)) (Int32.ofNat (F + C)) T166.heap n0 Zs166 fP166 fT166) hZ (hw _ (List.mem_of_getElem? (i := 30) rfl)) (hw _ (List.mem_of_getElem? (i := 8) rfl)) (by decide) (by decide)) q167a q167c (g := (mkF m 308 #[.val (.int p1), .val (.int p2), .val (.int p3), .val (.int p4), .val (.int p5), .val (.int p6), .val (.int nn), .val (.int (5 : Int32)), .val (.int fr), .val (.int qb), .val (.ref b141), .val (.int sc), .val (.int cc), .val (.ref b162), .val (.int (-1 : Int32)), .val (.int (0 : Int32)), .val (.int (-1 : Int32)), .unset] [(.ref b162)])) rfl (by rw [hml]; rfl) (Steps.refl _) (argsL := []) (rest := []) (lenOf pd_4 rfl) rfl (by show 2 * 0 + _ ≤ _; exact Nat.le_of_eq rfl) (hb hby at_308) (fun _ _ => ⟨rfl, rfl, (by decide : 2 + 0 ≤ _), (by decide : 12 + 0 ≤ _)⟩)
    dsimp only [Pt.U, Pt.locs, Pt.cells, Pt.slots] at X167 l167 y167 z167 st167 hQ167
    subst y167 z167
    obtain ⟨hv167, N167q, e167⟩ := hQ167
    rw [hh2] at hv167
    subst hv167
    have e167h : T167.heap = T166.heap := e167
    have N167 : Fr n0 L167 := by rw [l167]; exact Fr.app N166 N167q
    refine own_step (fun _ kc_ => st167.trans kc_) ?_
    show own_Ends p e below s _ _ _ (T167.setTop (mkF m 311 #[.val (.int p1), .val (.int p2), .val (.int p3), .val (.int p4), .val (.int p5), .val (.int p6), .val (.int nn), .val (.int (5 : Int32)), .val (.int fr), .val (.int qb), .val (.ref b141), .val (.int sc), .val (.int cc), .val (.ref b162), .val (.int (-1 : Int32)), .val (.int (0 : Int32)), .val (.int (-1 : Int32)), .unset] [(.int (0 : Int32))]))
    refine own_step (fun _ kc_ => XS.istore X167.here hx rfl (hb hby at_311) rfl (l' := #[.val (.int p1), .val (.int p2), .val (.int p3), .val (.int p4), .val (.int p5), .val (.int p6), .val (.int nn), .val (.int (5 : Int32)), .val (.int fr), .val (.int qb), .val (.ref b141), .val (.int sc), .val (.int cc), .val (.ref b162), .val (.int (-1 : Int32)), .val (.int (0 : Int32)), .val (.int (-1 : Int32)), .val (.int (0 : Int32))]) rfl (XS.iload X167.here hx rfl (hb hby at_313) rfl (XS.iload X167.here hx rfl (hb hby at_315) rfl (XS.icmpNo X167.here hx rfl (hb hby at_317) rfl (XT.ii_ge_f (by rw [hcC]; exact own_ofNat_lt hC1 (by decide) : cc < (5 : Int32))) (XS.iload X167.here hx rfl (hb hby at_320) rfl (XS.iconst X167.here hx rfl (hb hby at_322) (XS.icmpNo X167.here hx rfl (hb hby at_323) rfl (XT.ii_ne_f (by decide : (-1 : Int32) = (-1 : Int32))) (XS.iload X167.here hx rfl (hb hby at_326) rfl kc_)))))))) ?_
    show own_Ends p e below s _ _ _ (T167.setTop (mkF m 328 #[.val (.int p1), .val (.int p2), .val (.int p3), .val (.int p4), .val (.int p5), .val (.int p6), .val (.int nn), .val (.int (5 : Int32)), .val (.int fr), .val (.int qb), .val (.ref b141), .val (.int sc), .val (.int cc), .val (.ref b162), .val (.int (-1 : Int32)), .val (.int (0 : Int32)), .val (.int (-1 : Int32)), .val (.int (0 : Int32))] [(.int (0 : Int32))]))
    refine own_step (fun _ kc_ => XS.ifNo X167.here hx rfl (hb hby at_328) rfl (XT.i0_ne_f (by decide : (0 : Int32) = 0)) (XS.iload X167.here hx rfl (hb hby at_331) rfl (XS.iconst X167.here hx rfl (hb hby at_333) (XS.icmpNo X167.here hx rfl (hb hby at_334) rfl (XT.ii_ne_f (by decide : (-1 : Int32) = (-1 : Int32))) (XS.iload X167.here hx rfl (hb hby at_337) rfl (XS.ifNo X167.here hx rfl (hb hby at_339) rfl (XT.i0_ne_f (by decide : (0 : Int32) = 0)) (XS.iconst X167.here hx rfl (hb hby at_342) (XS.goto X167.here hx rfl (pc0 := 343) (pc' := 347) rfl (hb hby at_343) (by decide) (by decide) kc_)))))))) ?_
    show own_Ends p e below s _ _ _ (T167.setTop (mkF m 347 #[.val (.int p1), .val (.int p2), .val (.int p3), .val (.int p4), .val (.int p5), .val (.int p6), .val (.int nn), .val (.int (5 : Int32)), .val (.int fr), .val (.int qb), .val (.ref b141), .val (.int sc), .val (.int cc), .val (.ref b162), .val (.int (-1 : Int32)), .val (.int (0 : Int32)), .val (.int (-1 : Int32)), .val (.int (0 : Int32))] [(.int (1 : Int32))]))
    exact own_retN X167 hx (t := .boolean) hret (by simp) hlk (hb hby at_347) (by decide) (by decide) rfl ⟨rfl, N167⟩
  · subst hC1
    have hx1 : own_nx vs F 0 0 5 = (nn, F + 5) := own_run5 vs F 0 nn hn0 hn1 hb0 hb1 hb2 hb3 hb4
    have hx2 : own_nx vs (F + 5) 0 0 0 = (-1, F + 5) := rfl
    have hh1 := own_hasEq (F + 5)
    have hh2 := own_hasEq (F + 5)
    show own_Ends p e below s _ _ _ (T163.setTop (mkF m 285 #[.val (.int p1), .val (.int p2), .val (.int p3), .val (.int p4), .val (.int p5), .val (.int p6), .val (.int nn), .val (.int (5 : Int32)), .val (.int fr), .val (.int qb), .val (.ref b141), .val (.int sc), .val (.int cc), .val (.ref b162), .unset, .unset, .unset, .unset] []))
    refine own_step (fun _ kc_ => XS.aload X163.here hx rfl (hb hby at_285) rfl rfl kc_) ?_
    show own_Ends p e below s _ _ _ (T163.setTop (mkF m 287 #[.val (.int p1), .val (.int p2), .val (.int p3), .val (.int p4), .val (.int p5), .val (.int p6), .val (.int nn), .val (.int (5 : Int32)), .val (.int fr), .val (.int qb), .val (.ref b141), .val (.int sc), .val (.int cc), .val (.ref b162), .unset, .unset, .unset, .unset] [(.ref b162)]))
    obtain ⟨cq168, kq168, q168a, q168b, q168c⟩ := isOf hZ rfl E_b162_163
    obtain ⟨_, _, ⟨T168, L168, k168, n168⟩, -, X168, ⟨Lc168, hQ168, l168, y168, z168⟩, st168⟩ := X163.virtualBack hx (y := (⟨"com/example/wakachi/wakachi/VarInts$Reader", "next", "()I"⟩ : MethodName)) (z := (⟨"com/example/wakachi/wakachi/VarInts$Reader", "next", "()I"⟩ : MethodName)) hown (mvT hZ (hw _ (List.mem_of_getElem? (i := 21) rfl))) (mvT hZ (hw _ (List.mem_of_getElem? (i := 22) rfl))) (notFace_of_selects (args := #[]) (mvT hZ (hw _ (List.mem_of_getElem? (i := 24) rfl)))) (mvT hZ (hw _ (List.mem_of_getElem? (i := 24) rfl))) (mvT hZ (hw _ (List.mem_of_getElem? (i := 23) rfl))) (by decide) (backOf (W := 0) (rm4 l Z a0 hw [] b162 b141 vs F 5 T163.heap n0 Zs163 E_b162_163 fB163 fP163 fT163 A_b141_163 hints (by rw [hlen]; omega) n0_b162 (Ne.symm ne_b141_b162)) hZ (hw _ (List.mem_of_getElem? (i := 25) rfl)) (hw _ (List.mem_of_getElem? (i := 8) rfl)) (by decide) (by decide)) q168a q168c (g := (mkF m 287 #[.val (.int p1), .val (.int p2), .val (.int p3), .val (.int p4), .val (.int p5), .val (.int p6), .val (.int nn), .val (.int (5 : Int32)), .val (.int fr), .val (.int qb), .val (.ref b141), .val (.int sc), .val (.int cc), .val (.ref b162), .unset, .unset, .unset, .unset] [(.ref b162)])) rfl (by rw [hml]; rfl) (Steps.refl _) (argsL := []) (rest := []) (lenOf pd_3 rfl) rfl (by show 2 * 0 + _ ≤ _; exact Nat.le_of_eq rfl) (hb hby at_287) (fun _ _ => ⟨rfl, rfl, (by decide : 2 + 0 ≤ _), (by decide : 12 + 0 ≤ _)⟩)
    dsimp only [Pt.U, Pt.locs, Pt.cells, Pt.slots] at X168 l168 y168 z168 st168 hQ168
    subst y168 z168
    obtain ⟨hv168, N168q, K168k, fP168, fB168, fT168⟩ := hQ168
    rw [hx1] at hv168 fP168
    subst hv168
    have A_b141_168 := (A_b141_163).keep K168k (ninS ne_b141_b162 nin0)
    have E_b162_168 := (E_b162_163).keep K168k
    have Zs168 := Nat.le_trans Zs163 K168k.1
    have N168 : Fr n0 L168 := by rw [l168]; exact Fr.app N163 N168q
    refine own_step (fun _ kc_ => st168.trans kc_) ?_
    show own_Ends p e below s _ _ _ (T168.setTop (mkF m 290 #[.val (.int p1), .val (.int p2), .val (.int p3), .val (.int p4), .val (.int p5), .val (.int p6), .val (.int nn), .val (.int (5 : Int32)), .val (.int fr), .val (.int qb), .val (.ref b141), .val (.int sc), .val (.int cc), .val (.ref b162), .unset, .unset, .unset, .unset] [(.int nn)]))
    refine own_step (fun _ kc_ => XS.istore X168.here hx rfl (hb hby at_290) rfl (l' := #[.val (.int p1), .val (.int p2), .val (.int p3), .val (.int p4), .val (.int p5), .val (.int p6), .val (.int nn), .val (.int (5 : Int32)), .val (.int fr), .val (.int qb), .val (.ref b141), .val (.int sc), .val (.int cc), .val (.ref b162), .val (.int nn), .unset, .unset, .unset]) rfl (XS.aload X168.here hx rfl (hb hby at_292) rfl rfl kc_)) ?_
    show own_Ends p e below s _ _ _ (T168.setTop (mkF m 294 #[.val (.int p1), .val (.int p2), .val (.int p3), .val (.int p4), .val (.int p5), .val (.int p6), .val (.int nn), .val (.int (5 : Int32)), .val (.int fr), .val (.int qb), .val (.ref b141), .val (.int sc), .val (.int cc), .val (.ref b162), .val (.int nn), .unset, .unset, .unset] [(.ref b162)]))
    obtain ⟨cq169, kq169, q169a, q169b, q169c⟩ := isOf hZ rfl E_b162_168
    obtain ⟨_, _, ⟨T169, L169, k169, n169⟩, -, X169, ⟨Lc169, hQ169, l169, y169, z169⟩, st169⟩ := X168.virtualBack hx (y := (⟨"com/example/wakachi/wakachi/VarInts$Reader", "hasNext", "()Z"⟩ : MethodName)) (z := (⟨"com/example/wakachi/wakachi/VarInts$Reader", "hasNext", "()Z"⟩ : MethodName)) hown (mvT hZ (hw _ (List.mem_of_getElem? (i := 26) rfl))) (mvT hZ (hw _ (List.mem_of_getElem? (i := 27) rfl))) (notFace_of_selects (args := #[]) (mvT hZ (hw _ (List.mem_of_getElem? (i := 29) rfl)))) (mvT hZ (hw _ (List.mem_of_getElem? (i := 29) rfl))) (mvT hZ (hw _ (List.mem_of_getElem? (i := 28) rfl))) (by decide) (backOf (W := 0) (rm5 l Z a0 hw [] b162 (Int32.ofNat (F + 5)) (Int32.ofNat (F + 5)) T168.heap n0 Zs168 fP168 fT168) hZ (hw _ (List.mem_of_getElem? (i := 30) rfl)) (hw _ (List.mem_of_getElem? (i := 8) rfl)) (by decide) (by decide)) q169a q169c (g := (mkF m 294 #[.val (.int p1), .val (.int p2), .val (.int p3), .val (.int p4), .val (.int p5), .val (.int p6), .val (.int nn), .val (.int (5 : Int32)), .val (.int fr), .val (.int qb), .val (.ref b141), .val (.int sc), .val (.int cc), .val (.ref b162), .val (.int nn), .unset, .unset, .unset] [(.ref b162)])) rfl (by rw [hml]; rfl) (Steps.refl _) (argsL := []) (rest := []) (lenOf pd_4 rfl) rfl (by show 2 * 0 + _ ≤ _; exact Nat.le_of_eq rfl) (hb hby at_294) (fun _ _ => ⟨rfl, rfl, (by decide : 2 + 0 ≤ _), (by decide : 12 + 0 ≤ _)⟩)
    dsimp only [Pt.U, Pt.locs, Pt.cells, Pt.slots] at X169 l169 y169 z169 st169 hQ169
    subst y169 z169
    obtain ⟨hv169, N169q, e169⟩ := hQ169
    rw [hh1] at hv169
    subst hv169
    have e169h : T169.heap = T168.heap := e169
    have N169 : Fr n0 L169 := by rw [l169]; exact Fr.app N168 N169q
    refine own_step (fun _ kc_ => st169.trans kc_) ?_
    show own_Ends p e below s _ _ _ (T169.setTop (mkF m 297 #[.val (.int p1), .val (.int p2), .val (.int p3), .val (.int p4), .val (.int p5), .val (.int p6), .val (.int nn), .val (.int (5 : Int32)), .val (.int fr), .val (.int qb), .val (.ref b141), .val (.int sc), .val (.int cc), .val (.ref b162), .val (.int nn), .unset, .unset, .unset] [(.int (0 : Int32))]))
    refine own_step (fun _ kc_ => XS.istore X169.here hx rfl (hb hby at_297) rfl (l' := #[.val (.int p1), .val (.int p2), .val (.int p3), .val (.int p4), .val (.int p5), .val (.int p6), .val (.int nn), .val (.int (5 : Int32)), .val (.int fr), .val (.int qb), .val (.ref b141), .val (.int sc), .val (.int cc), .val (.ref b162), .val (.int nn), .val (.int (0 : Int32)), .unset, .unset]) rfl (XS.aload X169.here hx rfl (hb hby at_299) rfl rfl kc_)) ?_
    show own_Ends p e below s _ _ _ (T169.setTop (mkF m 301 #[.val (.int p1), .val (.int p2), .val (.int p3), .val (.int p4), .val (.int p5), .val (.int p6), .val (.int nn), .val (.int (5 : Int32)), .val (.int fr), .val (.int qb), .val (.ref b141), .val (.int sc), .val (.int cc), .val (.ref b162), .val (.int nn), .val (.int (0 : Int32)), .unset, .unset] [(.ref b162)]))
    obtain ⟨cq170, kq170, q170a, q170b, q170c⟩ := isOf hZ e169h E_b162_168
    obtain ⟨_, _, ⟨T170, L170, k170, n170⟩, -, X170, ⟨Lc170, hQ170, l170, y170, z170⟩, st170⟩ := X169.virtualBack hx (y := (⟨"com/example/wakachi/wakachi/VarInts$Reader", "next", "()I"⟩ : MethodName)) (z := (⟨"com/example/wakachi/wakachi/VarInts$Reader", "next", "()I"⟩ : MethodName)) hown (mvT hZ (hw _ (List.mem_of_getElem? (i := 21) rfl))) (mvT hZ (hw _ (List.mem_of_getElem? (i := 22) rfl))) (notFace_of_selects (args := #[]) (mvT hZ (hw _ (List.mem_of_getElem? (i := 24) rfl)))) (mvT hZ (hw _ (List.mem_of_getElem? (i := 24) rfl))) (mvT hZ (hw _ (List.mem_of_getElem? (i := 23) rfl))) (by decide) (backOf (W := 0) (rm4 l Z a0 hw [] b162 b141 vs (F + 5) 0 T168.heap n0 Zs168 E_b162_168 fB168 fP168 fT168 A_b141_168 hints (by rw [hlen]; omega) n0_b162 (Ne.symm ne_b141_b162)) hZ (hw _ (List.mem_of_getElem? (i := 25) rfl)) (hw _ (List.mem_of_getElem? (i := 8) rfl)) (by decide) (by decide)) q170a q170c (g := (mkF m 301 #[.val (.int p1), .val (.int p2), .val (.int p3), .val (.int p4), .val (.int p5), .val (.int p6), .val (.int nn), .val (.int (5 : Int32)), .val (.int fr), .val (.int qb), .val (.ref b141), .val (.int sc), .val (.int cc), .val (.ref b162), .val (.int nn), .val (.int (0 : Int32)), .unset, .unset] [(.ref b162)])) rfl (by rw [hml]; rfl) (Steps.refl _) (argsL := []) (rest := []) (lenOf pd_3 rfl) rfl (by show 2 * 0 + _ ≤ _; exact Nat.le_of_eq rfl) (hb hby at_301) (fun _ _ => ⟨rfl, e169h, (by decide : 2 + 0 ≤ _), (by decide : 12 + 0 ≤ _)⟩)
    dsimp only [Pt.U, Pt.locs, Pt.cells, Pt.slots] at X170 l170 y170 z170 st170 hQ170
    subst y170 z170
    obtain ⟨hv170, N170q, K170k, fP170, fB170, fT170⟩ := hQ170
    rw [hx2] at hv170 fP170
    subst hv170
    have A_b141_170 := (A_b141_168).keep K170k (ninS ne_b141_b162 nin0)
    have E_b162_170 := (E_b162_168).keep K170k
    have Zs170 := Nat.le_trans Zs168 K170k.1
    have N170 : Fr n0 L170 := by rw [l170]; exact Fr.app N169 N170q
    refine own_step (fun _ kc_ => st170.trans kc_) ?_
    show own_Ends p e below s _ _ _ (T170.setTop (mkF m 304 #[.val (.int p1), .val (.int p2), .val (.int p3), .val (.int p4), .val (.int p5), .val (.int p6), .val (.int nn), .val (.int (5 : Int32)), .val (.int fr), .val (.int qb), .val (.ref b141), .val (.int sc), .val (.int cc), .val (.ref b162), .val (.int nn), .val (.int (0 : Int32)), .unset, .unset] [(.int (-1 : Int32))]))
    refine own_step (fun _ kc_ => XS.istore X170.here hx rfl (hb hby at_304) rfl (l' := #[.val (.int p1), .val (.int p2), .val (.int p3), .val (.int p4), .val (.int p5), .val (.int p6), .val (.int nn), .val (.int (5 : Int32)), .val (.int fr), .val (.int qb), .val (.ref b141), .val (.int sc), .val (.int cc), .val (.ref b162), .val (.int nn), .val (.int (0 : Int32)), .val (.int (-1 : Int32)), .unset]) rfl (XS.aload X170.here hx rfl (hb hby at_306) rfl rfl kc_)) ?_
    show own_Ends p e below s _ _ _ (T170.setTop (mkF m 308 #[.val (.int p1), .val (.int p2), .val (.int p3), .val (.int p4), .val (.int p5), .val (.int p6), .val (.int nn), .val (.int (5 : Int32)), .val (.int fr), .val (.int qb), .val (.ref b141), .val (.int sc), .val (.int cc), .val (.ref b162), .val (.int nn), .val (.int (0 : Int32)), .val (.int (-1 : Int32)), .unset] [(.ref b162)]))
    obtain ⟨cq171, kq171, q171a, q171b, q171c⟩ := isOf hZ rfl E_b162_170
    obtain ⟨_, _, ⟨T171, L171, k171, n171⟩, -, X171, ⟨Lc171, hQ171, l171, y171, z171⟩, st171⟩ := X170.virtualBack hx (y := (⟨"com/example/wakachi/wakachi/VarInts$Reader", "hasNext", "()Z"⟩ : MethodName)) (z := (⟨"com/example/wakachi/wakachi/VarInts$Reader", "hasNext", "()Z"⟩ : MethodName)) hown (mvT hZ (hw _ (List.mem_of_getElem? (i := 26) rfl))) (mvT hZ (hw _ (List.mem_of_getElem? (i := 27) rfl))) (notFace_of_selects (args := #[]) (mvT hZ (hw _ (List.mem_of_getElem? (i := 29) rfl)))) (mvT hZ (hw _ (List.mem_of_getElem? (i := 29) rfl))) (mvT hZ (hw _ (List.mem_of_getElem? (i := 28) rfl))) (by decide) (backOf (W := 0) (rm5 l Z a0 hw [] b162 (Int32.ofNat (F + 5)) (Int32.ofNat (F + 5)) T170.heap n0 Zs170 fP170 fT170) hZ (hw _ (List.mem_of_getElem? (i := 30) rfl)) (hw _ (List.mem_of_getElem? (i := 8) rfl)) (by decide) (by decide)) q171a q171c (g := (mkF m 308 #[.val (.int p1), .val (.int p2), .val (.int p3), .val (.int p4), .val (.int p5), .val (.int p6), .val (.int nn), .val (.int (5 : Int32)), .val (.int fr), .val (.int qb), .val (.ref b141), .val (.int sc), .val (.int cc), .val (.ref b162), .val (.int nn), .val (.int (0 : Int32)), .val (.int (-1 : Int32)), .unset] [(.ref b162)])) rfl (by rw [hml]; rfl) (Steps.refl _) (argsL := []) (rest := []) (lenOf pd_4 rfl) rfl (by show 2 * 0 + _ ≤ _; exact Nat.le_of_eq rfl) (hb hby at_308) (fun _ _ => ⟨rfl, rfl, (by decide : 2 + 0 ≤ _), (by decide : 12 + 0 ≤ _)⟩)
    dsimp only [Pt.U, Pt.locs, Pt.cells, Pt.slots] at X171 l171 y171 z171 st171 hQ171
    subst y171 z171
    obtain ⟨hv171, N171q, e171⟩ := hQ171
    rw [hh2] at hv171
    subst hv171
    have e171h : T171.heap = T170.heap := e171
    have N171 : Fr n0 L171 := by rw [l171]; exact Fr.app N170 N171q
    refine own_step (fun _ kc_ => st171.trans kc_) ?_
    show own_Ends p e below s _ _ _ (T171.setTop (mkF m 311 #[.val (.int p1), .val (.int p2), .val (.int p3), .val (.int p4), .val (.int p5), .val (.int p6), .val (.int nn), .val (.int (5 : Int32)), .val (.int fr), .val (.int qb), .val (.ref b141), .val (.int sc), .val (.int cc), .val (.ref b162), .val (.int nn), .val (.int (0 : Int32)), .val (.int (-1 : Int32)), .unset] [(.int (0 : Int32))]))
    refine own_step (fun _ kc_ => XS.istore X171.here hx rfl (hb hby at_311) rfl (l' := #[.val (.int p1), .val (.int p2), .val (.int p3), .val (.int p4), .val (.int p5), .val (.int p6), .val (.int nn), .val (.int (5 : Int32)), .val (.int fr), .val (.int qb), .val (.ref b141), .val (.int sc), .val (.int cc), .val (.ref b162), .val (.int nn), .val (.int (0 : Int32)), .val (.int (-1 : Int32)), .val (.int (0 : Int32))]) rfl (XS.iload X171.here hx rfl (hb hby at_313) rfl (XS.iload X171.here hx rfl (hb hby at_315) rfl (XS.icmpYes X171.here hx rfl (pc0 := 317) (pc' := 348) rfl (hb hby at_317) rfl (XT.ii_ge_t (by rw [hcC]; decide : ¬ (cc < (5 : Int32)))) (by decide) (by decide) (XS.iload X171.here hx rfl (hb hby at_348) rfl (XS.iload X171.here hx rfl (hb hby at_350) rfl (XS.icmpNo X171.here hx rfl (hb hby at_352) rfl (XT.ii_ne_f (by rw [hcC]; decide : cc = (5 : Int32))) (XS.iload X171.here hx rfl (hb hby at_355) rfl kc_)))))))) ?_
    show own_Ends p e below s _ _ _ (T171.setTop (mkF m 357 #[.val (.int p1), .val (.int p2), .val (.int p3), .val (.int p4), .val (.int p5), .val (.int p6), .val (.int nn), .val (.int (5 : Int32)), .val (.int fr), .val (.int qb), .val (.ref b141), .val (.int sc), .val (.int cc), .val (.ref b162), .val (.int nn), .val (.int (0 : Int32)), .val (.int (-1 : Int32)), .val (.int (0 : Int32))] [(.int nn)]))
    refine own_step (fun _ kc_ => XS.iload X171.here hx rfl (hb hby at_357) rfl (XS.icmpNo X171.here hx rfl (hb hby at_359) rfl (XT.ii_ne_f (rfl : nn = nn)) (XS.iload X171.here hx rfl (hb hby at_362) rfl (XS.ifNo X171.here hx rfl (hb hby at_364) rfl (XT.i0_ne_f (by decide : (0 : Int32) = 0)) (XS.iload X171.here hx rfl (hb hby at_367) rfl (XS.iconst X171.here hx rfl (hb hby at_369) (XS.icmpNo X171.here hx rfl (hb hby at_370) rfl (XT.ii_ne_f (by decide : (-1 : Int32) = (-1 : Int32))) (XS.iload X171.here hx rfl (hb hby at_373) rfl kc_)))))))) ?_
    show own_Ends p e below s _ _ _ (T171.setTop (mkF m 375 #[.val (.int p1), .val (.int p2), .val (.int p3), .val (.int p4), .val (.int p5), .val (.int p6), .val (.int nn), .val (.int (5 : Int32)), .val (.int fr), .val (.int qb), .val (.ref b141), .val (.int sc), .val (.int cc), .val (.ref b162), .val (.int nn), .val (.int (0 : Int32)), .val (.int (-1 : Int32)), .val (.int (0 : Int32))] [(.int (0 : Int32))]))
    refine own_step (fun _ kc_ => XS.ifNo X171.here hx rfl (hb hby at_375) rfl (XT.i0_ne_f (by decide : (0 : Int32) = 0)) (XS.iconst X171.here hx rfl (hb hby at_378) (XS.goto X171.here hx rfl (pc0 := 379) (pc' := 383) rfl (hb hby at_379) (by decide) (by decide) kc_))) ?_
    show own_Ends p e below s _ _ _ (T171.setTop (mkF m 383 #[.val (.int p1), .val (.int p2), .val (.int p3), .val (.int p4), .val (.int p5), .val (.int p6), .val (.int nn), .val (.int (5 : Int32)), .val (.int fr), .val (.int qb), .val (.ref b141), .val (.int sc), .val (.int cc), .val (.ref b162), .val (.int nn), .val (.int (0 : Int32)), .val (.int (-1 : Int32)), .val (.int (0 : Int32))] [(.int (1 : Int32))]))
    exact own_retN X171 hx (t := .boolean) hret (by simp) hlk (hb hby at_383) (by decide) (by decide) rfl ⟨rfl, N171⟩
  · subst hC1
    have hx1 : own_nx vs F 0 0 6 = (nn, F + 5) := own_run5 vs F 1 nn hn0 hn1 hb0 hb1 hb2 hb3 hb4
    have hs := own_sec p5
    rw [hsc, ← hb5] at hs
    have hx2 : own_nx vs (F + 5) 0 0 1 = (sc, F + 6) := by
      rw [own_nxF hs.1, hs.2, own_or0]
    have hh1 := own_hasLt (F + 5) (by omega)
    have hh2 := own_hasEq (F + 6)
    show own_Ends p e below s _ _ _ (T163.setTop (mkF m 285 #[.val (.int p1), .val (.int p2), .val (.int p3), .val (.int p4), .val (.int p5), .val (.int p6), .val (.int nn), .val (.int (5 : Int32)), .val (.int fr), .val (.int qb), .val (.ref b141), .val (.int sc), .val (.int cc), .val (.ref b162), .unset, .unset, .unset, .unset] []))
    refine own_step (fun _ kc_ => XS.aload X163.here hx rfl (hb hby at_285) rfl rfl kc_) ?_
    show own_Ends p e below s _ _ _ (T163.setTop (mkF m 287 #[.val (.int p1), .val (.int p2), .val (.int p3), .val (.int p4), .val (.int p5), .val (.int p6), .val (.int nn), .val (.int (5 : Int32)), .val (.int fr), .val (.int qb), .val (.ref b141), .val (.int sc), .val (.int cc), .val (.ref b162), .unset, .unset, .unset, .unset] [(.ref b162)]))
    obtain ⟨cq172, kq172, q172a, q172b, q172c⟩ := isOf hZ rfl E_b162_163
    obtain ⟨_, _, ⟨T172, L172, k172, n172⟩, -, X172, ⟨Lc172, hQ172, l172, y172, z172⟩, st172⟩ := X163.virtualBack hx (y := (⟨"com/example/wakachi/wakachi/VarInts$Reader", "next", "()I"⟩ : MethodName)) (z := (⟨"com/example/wakachi/wakachi/VarInts$Reader", "next", "()I"⟩ : MethodName)) hown (mvT hZ (hw _ (List.mem_of_getElem? (i := 21) rfl))) (mvT hZ (hw _ (List.mem_of_getElem? (i := 22) rfl))) (notFace_of_selects (args := #[]) (mvT hZ (hw _ (List.mem_of_getElem? (i := 24) rfl)))) (mvT hZ (hw _ (List.mem_of_getElem? (i := 24) rfl))) (mvT hZ (hw _ (List.mem_of_getElem? (i := 23) rfl))) (by decide) (backOf (W := 0) (rm4 l Z a0 hw [] b162 b141 vs F 6 T163.heap n0 Zs163 E_b162_163 fB163 fP163 fT163 A_b141_163 hints (by rw [hlen]; omega) n0_b162 (Ne.symm ne_b141_b162)) hZ (hw _ (List.mem_of_getElem? (i := 25) rfl)) (hw _ (List.mem_of_getElem? (i := 8) rfl)) (by decide) (by decide)) q172a q172c (g := (mkF m 287 #[.val (.int p1), .val (.int p2), .val (.int p3), .val (.int p4), .val (.int p5), .val (.int p6), .val (.int nn), .val (.int (5 : Int32)), .val (.int fr), .val (.int qb), .val (.ref b141), .val (.int sc), .val (.int cc), .val (.ref b162), .unset, .unset, .unset, .unset] [(.ref b162)])) rfl (by rw [hml]; rfl) (Steps.refl _) (argsL := []) (rest := []) (lenOf pd_3 rfl) rfl (by show 2 * 0 + _ ≤ _; exact Nat.le_of_eq rfl) (hb hby at_287) (fun _ _ => ⟨rfl, rfl, (by decide : 2 + 0 ≤ _), (by decide : 12 + 0 ≤ _)⟩)
    dsimp only [Pt.U, Pt.locs, Pt.cells, Pt.slots] at X172 l172 y172 z172 st172 hQ172
    subst y172 z172
    obtain ⟨hv172, N172q, K172k, fP172, fB172, fT172⟩ := hQ172
    rw [hx1] at hv172 fP172
    subst hv172
    have A_b141_172 := (A_b141_163).keep K172k (ninS ne_b141_b162 nin0)
    have E_b162_172 := (E_b162_163).keep K172k
    have Zs172 := Nat.le_trans Zs163 K172k.1
    have N172 : Fr n0 L172 := by rw [l172]; exact Fr.app N163 N172q
    refine own_step (fun _ kc_ => st172.trans kc_) ?_
    show own_Ends p e below s _ _ _ (T172.setTop (mkF m 290 #[.val (.int p1), .val (.int p2), .val (.int p3), .val (.int p4), .val (.int p5), .val (.int p6), .val (.int nn), .val (.int (5 : Int32)), .val (.int fr), .val (.int qb), .val (.ref b141), .val (.int sc), .val (.int cc), .val (.ref b162), .unset, .unset, .unset, .unset] [(.int nn)]))
    refine own_step (fun _ kc_ => XS.istore X172.here hx rfl (hb hby at_290) rfl (l' := #[.val (.int p1), .val (.int p2), .val (.int p3), .val (.int p4), .val (.int p5), .val (.int p6), .val (.int nn), .val (.int (5 : Int32)), .val (.int fr), .val (.int qb), .val (.ref b141), .val (.int sc), .val (.int cc), .val (.ref b162), .val (.int nn), .unset, .unset, .unset]) rfl (XS.aload X172.here hx rfl (hb hby at_292) rfl rfl kc_)) ?_
    show own_Ends p e below s _ _ _ (T172.setTop (mkF m 294 #[.val (.int p1), .val (.int p2), .val (.int p3), .val (.int p4), .val (.int p5), .val (.int p6), .val (.int nn), .val (.int (5 : Int32)), .val (.int fr), .val (.int qb), .val (.ref b141), .val (.int sc), .val (.int cc), .val (.ref b162), .val (.int nn), .unset, .unset, .unset] [(.ref b162)]))
    obtain ⟨cq173, kq173, q173a, q173b, q173c⟩ := isOf hZ rfl E_b162_172
    obtain ⟨_, _, ⟨T173, L173, k173, n173⟩, -, X173, ⟨Lc173, hQ173, l173, y173, z173⟩, st173⟩ := X172.virtualBack hx (y := (⟨"com/example/wakachi/wakachi/VarInts$Reader", "hasNext", "()Z"⟩ : MethodName)) (z := (⟨"com/example/wakachi/wakachi/VarInts$Reader", "hasNext", "()Z"⟩ : MethodName)) hown (mvT hZ (hw _ (List.mem_of_getElem? (i := 26) rfl))) (mvT hZ (hw _ (List.mem_of_getElem? (i := 27) rfl))) (notFace_of_selects (args := #[]) (mvT hZ (hw _ (List.mem_of_getElem? (i := 29) rfl)))) (mvT hZ (hw _ (List.mem_of_getElem? (i := 29) rfl))) (mvT hZ (hw _ (List.mem_of_getElem? (i := 28) rfl))) (by decide) (backOf (W := 0) (rm5 l Z a0 hw [] b162 (Int32.ofNat (F + 5)) (Int32.ofNat (F + 6)) T172.heap n0 Zs172 fP172 fT172) hZ (hw _ (List.mem_of_getElem? (i := 30) rfl)) (hw _ (List.mem_of_getElem? (i := 8) rfl)) (by decide) (by decide)) q173a q173c (g := (mkF m 294 #[.val (.int p1), .val (.int p2), .val (.int p3), .val (.int p4), .val (.int p5), .val (.int p6), .val (.int nn), .val (.int (5 : Int32)), .val (.int fr), .val (.int qb), .val (.ref b141), .val (.int sc), .val (.int cc), .val (.ref b162), .val (.int nn), .unset, .unset, .unset] [(.ref b162)])) rfl (by rw [hml]; rfl) (Steps.refl _) (argsL := []) (rest := []) (lenOf pd_4 rfl) rfl (by show 2 * 0 + _ ≤ _; exact Nat.le_of_eq rfl) (hb hby at_294) (fun _ _ => ⟨rfl, rfl, (by decide : 2 + 0 ≤ _), (by decide : 12 + 0 ≤ _)⟩)
    dsimp only [Pt.U, Pt.locs, Pt.cells, Pt.slots] at X173 l173 y173 z173 st173 hQ173
    subst y173 z173
    obtain ⟨hv173, N173q, e173⟩ := hQ173
    rw [hh1] at hv173
    subst hv173
    have e173h : T173.heap = T172.heap := e173
    have N173 : Fr n0 L173 := by rw [l173]; exact Fr.app N172 N173q
    refine own_step (fun _ kc_ => st173.trans kc_) ?_
    show own_Ends p e below s _ _ _ (T173.setTop (mkF m 297 #[.val (.int p1), .val (.int p2), .val (.int p3), .val (.int p4), .val (.int p5), .val (.int p6), .val (.int nn), .val (.int (5 : Int32)), .val (.int fr), .val (.int qb), .val (.ref b141), .val (.int sc), .val (.int cc), .val (.ref b162), .val (.int nn), .unset, .unset, .unset] [(.int (1 : Int32))]))
    refine own_step (fun _ kc_ => XS.istore X173.here hx rfl (hb hby at_297) rfl (l' := #[.val (.int p1), .val (.int p2), .val (.int p3), .val (.int p4), .val (.int p5), .val (.int p6), .val (.int nn), .val (.int (5 : Int32)), .val (.int fr), .val (.int qb), .val (.ref b141), .val (.int sc), .val (.int cc), .val (.ref b162), .val (.int nn), .val (.int (1 : Int32)), .unset, .unset]) rfl (XS.aload X173.here hx rfl (hb hby at_299) rfl rfl kc_)) ?_
    show own_Ends p e below s _ _ _ (T173.setTop (mkF m 301 #[.val (.int p1), .val (.int p2), .val (.int p3), .val (.int p4), .val (.int p5), .val (.int p6), .val (.int nn), .val (.int (5 : Int32)), .val (.int fr), .val (.int qb), .val (.ref b141), .val (.int sc), .val (.int cc), .val (.ref b162), .val (.int nn), .val (.int (1 : Int32)), .unset, .unset] [(.ref b162)]))
    obtain ⟨cq174, kq174, q174a, q174b, q174c⟩ := isOf hZ e173h E_b162_172
    obtain ⟨_, _, ⟨T174, L174, k174, n174⟩, -, X174, ⟨Lc174, hQ174, l174, y174, z174⟩, st174⟩ := X173.virtualBack hx (y := (⟨"com/example/wakachi/wakachi/VarInts$Reader", "next", "()I"⟩ : MethodName)) (z := (⟨"com/example/wakachi/wakachi/VarInts$Reader", "next", "()I"⟩ : MethodName)) hown (mvT hZ (hw _ (List.mem_of_getElem? (i := 21) rfl))) (mvT hZ (hw _ (List.mem_of_getElem? (i := 22) rfl))) (notFace_of_selects (args := #[]) (mvT hZ (hw _ (List.mem_of_getElem? (i := 24) rfl)))) (mvT hZ (hw _ (List.mem_of_getElem? (i := 24) rfl))) (mvT hZ (hw _ (List.mem_of_getElem? (i := 23) rfl))) (by decide) (backOf (W := 0) (rm4 l Z a0 hw [] b162 b141 vs (F + 5) 1 T172.heap n0 Zs172 E_b162_172 fB172 fP172 fT172 A_b141_172 hints (by rw [hlen]; omega) n0_b162 (Ne.symm ne_b141_b162)) hZ (hw _ (List.mem_of_getElem? (i := 25) rfl)) (hw _ (List.mem_of_getElem? (i := 8) rfl)) (by decide) (by decide)) q174a q174c (g := (mkF m 301 #[.val (.int p1), .val (.int p2), .val (.int p3), .val (.int p4), .val (.int p5), .val (.int p6), .val (.int nn), .val (.int (5 : Int32)), .val (.int fr), .val (.int qb), .val (.ref b141), .val (.int sc), .val (.int cc), .val (.ref b162), .val (.int nn), .val (.int (1 : Int32)), .unset, .unset] [(.ref b162)])) rfl (by rw [hml]; rfl) (Steps.refl _) (argsL := []) (rest := []) (lenOf pd_3 rfl) rfl (by show 2 * 0 + _ ≤ _; exact Nat.le_of_eq rfl) (hb hby at_301) (fun _ _ => ⟨rfl, e173h, (by decide : 2 + 0 ≤ _), (by decide : 12 + 0 ≤ _)⟩)
    dsimp only [Pt.U, Pt.locs, Pt.cells, Pt.slots] at X174 l174 y174 z174 st174 hQ174
    subst y174 z174
    obtain ⟨hv174, N174q, K174k, fP174, fB174, fT174⟩ := hQ174
    rw [hx2] at hv174 fP174
    subst hv174
    have A_b141_174 := (A_b141_172).keep K174k (ninS ne_b141_b162 nin0)
    have E_b162_174 := (E_b162_172).keep K174k
    have Zs174 := Nat.le_trans Zs172 K174k.1
    have N174 : Fr n0 L174 := by rw [l174]; exact Fr.app N173 N174q
    refine own_step (fun _ kc_ => st174.trans kc_) ?_
    show own_Ends p e below s _ _ _ (T174.setTop (mkF m 304 #[.val (.int p1), .val (.int p2), .val (.int p3), .val (.int p4), .val (.int p5), .val (.int p6), .val (.int nn), .val (.int (5 : Int32)), .val (.int fr), .val (.int qb), .val (.ref b141), .val (.int sc), .val (.int cc), .val (.ref b162), .val (.int nn), .val (.int (1 : Int32)), .unset, .unset] [(.int sc)]))
    refine own_step (fun _ kc_ => XS.istore X174.here hx rfl (hb hby at_304) rfl (l' := #[.val (.int p1), .val (.int p2), .val (.int p3), .val (.int p4), .val (.int p5), .val (.int p6), .val (.int nn), .val (.int (5 : Int32)), .val (.int fr), .val (.int qb), .val (.ref b141), .val (.int sc), .val (.int cc), .val (.ref b162), .val (.int nn), .val (.int (1 : Int32)), .val (.int sc), .unset]) rfl (XS.aload X174.here hx rfl (hb hby at_306) rfl rfl kc_)) ?_
    show own_Ends p e below s _ _ _ (T174.setTop (mkF m 308 #[.val (.int p1), .val (.int p2), .val (.int p3), .val (.int p4), .val (.int p5), .val (.int p6), .val (.int nn), .val (.int (5 : Int32)), .val (.int fr), .val (.int qb), .val (.ref b141), .val (.int sc), .val (.int cc), .val (.ref b162), .val (.int nn), .val (.int (1 : Int32)), .val (.int sc), .unset] [(.ref b162)]))
    obtain ⟨cq175, kq175, q175a, q175b, q175c⟩ := isOf hZ rfl E_b162_174
    obtain ⟨_, _, ⟨T175, L175, k175, n175⟩, -, X175, ⟨Lc175, hQ175, l175, y175, z175⟩, st175⟩ := X174.virtualBack hx (y := (⟨"com/example/wakachi/wakachi/VarInts$Reader", "hasNext", "()Z"⟩ : MethodName)) (z := (⟨"com/example/wakachi/wakachi/VarInts$Reader", "hasNext", "()Z"⟩ : MethodName)) hown (mvT hZ (hw _ (List.mem_of_getElem? (i := 26) rfl))) (mvT hZ (hw _ (List.mem_of_getElem? (i := 27) rfl))) (notFace_of_selects (args := #[]) (mvT hZ (hw _ (List.mem_of_getElem? (i := 29) rfl)))) (mvT hZ (hw _ (List.mem_of_getElem? (i := 29) rfl))) (mvT hZ (hw _ (List.mem_of_getElem? (i := 28) rfl))) (by decide) (backOf (W := 0) (rm5 l Z a0 hw [] b162 (Int32.ofNat (F + 6)) (Int32.ofNat (F + 6)) T174.heap n0 Zs174 fP174 fT174) hZ (hw _ (List.mem_of_getElem? (i := 30) rfl)) (hw _ (List.mem_of_getElem? (i := 8) rfl)) (by decide) (by decide)) q175a q175c (g := (mkF m 308 #[.val (.int p1), .val (.int p2), .val (.int p3), .val (.int p4), .val (.int p5), .val (.int p6), .val (.int nn), .val (.int (5 : Int32)), .val (.int fr), .val (.int qb), .val (.ref b141), .val (.int sc), .val (.int cc), .val (.ref b162), .val (.int nn), .val (.int (1 : Int32)), .val (.int sc), .unset] [(.ref b162)])) rfl (by rw [hml]; rfl) (Steps.refl _) (argsL := []) (rest := []) (lenOf pd_4 rfl) rfl (by show 2 * 0 + _ ≤ _; exact Nat.le_of_eq rfl) (hb hby at_308) (fun _ _ => ⟨rfl, rfl, (by decide : 2 + 0 ≤ _), (by decide : 12 + 0 ≤ _)⟩)
    dsimp only [Pt.U, Pt.locs, Pt.cells, Pt.slots] at X175 l175 y175 z175 st175 hQ175
    subst y175 z175
    obtain ⟨hv175, N175q, e175⟩ := hQ175
    rw [hh2] at hv175
    subst hv175
    have e175h : T175.heap = T174.heap := e175
    have N175 : Fr n0 L175 := by rw [l175]; exact Fr.app N174 N175q
    refine own_step (fun _ kc_ => st175.trans kc_) ?_
    show own_Ends p e below s _ _ _ (T175.setTop (mkF m 311 #[.val (.int p1), .val (.int p2), .val (.int p3), .val (.int p4), .val (.int p5), .val (.int p6), .val (.int nn), .val (.int (5 : Int32)), .val (.int fr), .val (.int qb), .val (.ref b141), .val (.int sc), .val (.int cc), .val (.ref b162), .val (.int nn), .val (.int (1 : Int32)), .val (.int sc), .unset] [(.int (0 : Int32))]))
    refine own_step (fun _ kc_ => XS.istore X175.here hx rfl (hb hby at_311) rfl (l' := #[.val (.int p1), .val (.int p2), .val (.int p3), .val (.int p4), .val (.int p5), .val (.int p6), .val (.int nn), .val (.int (5 : Int32)), .val (.int fr), .val (.int qb), .val (.ref b141), .val (.int sc), .val (.int cc), .val (.ref b162), .val (.int nn), .val (.int (1 : Int32)), .val (.int sc), .val (.int (0 : Int32))]) rfl (XS.iload X175.here hx rfl (hb hby at_313) rfl (XS.iload X175.here hx rfl (hb hby at_315) rfl (XS.icmpYes X175.here hx rfl (pc0 := 317) (pc' := 348) rfl (hb hby at_317) rfl (XT.ii_ge_t (by rw [hcC]; decide : ¬ (cc < (5 : Int32)))) (by decide) (by decide) (XS.iload X175.here hx rfl (hb hby at_348) rfl (XS.iload X175.here hx rfl (hb hby at_350) rfl (XS.icmpYes X175.here hx rfl (pc0 := 352) (pc' := 384) rfl (hb hby at_352) rfl (XT.ii_ne_t (by rw [hcC]; decide : ¬ (cc = (5 : Int32)))) (by decide) (by decide) (XS.iload X175.here hx rfl (hb hby at_384) rfl kc_)))))))) ?_
    show own_Ends p e below s _ _ _ (T175.setTop (mkF m 386 #[.val (.int p1), .val (.int p2), .val (.int p3), .val (.int p4), .val (.int p5), .val (.int p6), .val (.int nn), .val (.int (5 : Int32)), .val (.int fr), .val (.int qb), .val (.ref b141), .val (.int sc), .val (.int cc), .val (.ref b162), .val (.int nn), .val (.int (1 : Int32)), .val (.int sc), .val (.int (0 : Int32))] [(.int nn)]))
    refine own_step (fun _ kc_ => XS.iload X175.here hx rfl (hb hby at_386) rfl (XS.icmpNo X175.here hx rfl (hb hby at_388) rfl (XT.ii_ne_f (rfl : nn = nn)) (XS.iload X175.here hx rfl (hb hby at_391) rfl (XS.ifNo X175.here hx rfl (hb hby at_393) rfl (XT.i0_eq_f (by decide : ¬ ((1 : Int32) = 0))) (XS.iload X175.here hx rfl (hb hby at_396) rfl (XS.iload X175.here hx rfl (hb hby at_398) rfl (XS.icmpNo X175.here hx rfl (hb hby at_400) rfl (XT.ii_ne_f (rfl : sc = sc)) (XS.iload X175.here hx rfl (hb hby at_403) rfl kc_)))))))) ?_
    show own_Ends p e below s _ _ _ (T175.setTop (mkF m 405 #[.val (.int p1), .val (.int p2), .val (.int p3), .val (.int p4), .val (.int p5), .val (.int p6), .val (.int nn), .val (.int (5 : Int32)), .val (.int fr), .val (.int qb), .val (.ref b141), .val (.int sc), .val (.int cc), .val (.ref b162), .val (.int nn), .val (.int (1 : Int32)), .val (.int sc), .val (.int (0 : Int32))] [(.int (0 : Int32))]))
    refine own_step (fun _ kc_ => XS.ifNo X175.here hx rfl (hb hby at_405) rfl (XT.i0_ne_f (by decide : (0 : Int32) = 0)) (XS.iconst X175.here hx rfl (hb hby at_408) (XS.goto X175.here hx rfl (pc0 := 409) (pc' := 413) rfl (hb hby at_409) (by decide) (by decide) kc_))) ?_
    show own_Ends p e below s _ _ _ (T175.setTop (mkF m 413 #[.val (.int p1), .val (.int p2), .val (.int p3), .val (.int p4), .val (.int p5), .val (.int p6), .val (.int nn), .val (.int (5 : Int32)), .val (.int fr), .val (.int qb), .val (.ref b141), .val (.int sc), .val (.int cc), .val (.ref b162), .val (.int nn), .val (.int (1 : Int32)), .val (.int sc), .val (.int (0 : Int32))] [(.int (1 : Int32))]))
    exact own_retN X175 hx (t := .boolean) hret (by simp) hlk (hb hby at_413) (by decide) (by decide) rfl ⟨rfl, N175⟩
theorem ef_rm0 (m : MethodId) (p1 : Int32) (p2 : Int32) (p3 : Int32) (p4 : Int32) (p5 : Int32) (p6 : Int32) : entryFrame m #[(.int p1), (.int p2), (.int p3), (.int p4), (.int p5), (.int p6)] maxLocals = mkF m 0 #[.val (.int p1), .val (.int p2), .val (.int p3), .val (.int p4), .val (.int p5), .val (.int p6), .unset, .unset, .unset, .unset, .unset, .unset, .unset, .unset, .unset, .unset, .unset, .unset] [] := by first | (simp [entryFrame, mkF, argsToLocals, Value.category, maxLocals]; done) | rfl
set_option maxRecDepth 65536 in
set_option maxHeartbeats 40000000 in
theorem rm0 (l : Launch) (Z : State) (a0 : Array Value) (hw : ∀ d ∈ tables_1, d.before a0 Z = true) (ws : List Jvm.Cond) (p1 : Int32) (p2 : Int32) (p3 : Int32) (p4 : Int32) (p5 : Int32) (p6 : Int32)  (h0 : Heap) (n0 : Nat) (Z0 : n0 ≤ h0.size)  :
    MetFree l x (head1 (Jvm.Cond.code x code maxLocals ret :: ws) room_1) (fun a U => a = #[(.int p1), (.int p2), (.int p3), (.int p4), (.int p5), (.int p6)] ∧ Z.Warmed39 U.vm ∧ U.heap = h0) (fun _ _ _ _ _ => True) (fun _ U o U' => ∃ v L, o = .returned v ∧ Q0 Z p1 p2 p3 p4 p5 p6  h0 n0 v U'.heap L ∧ FrameEnd U o U' L room_1.cells room_1.slots) := by
  refine MetFree.of_bodySF (plainFor_of_name pn_0) hisR ?_
  intro p e s m args below meth c s₁ Bd hml0 hP hK
  obtain ⟨rfl, hZ, hh⟩ := hP
  have hx := Bd.exec
  have hby := Bd.bytes
  have hlk : meth.locks = false := BodyLoose.notSynchronized Bd
  have hret := Bd.returns
  have hml : c.maxLocals = 18 := hml0
  have hown : s.vm.findClass "com/example/wakachi/wakachi/ReaderNextPinLaw" = some m.cls := findClass_of_methodNamed Bd.named
  have hnm := (name_of_methodNamed Bd.named Bd.method).1
  have X0 : Stand p l e room_1 s m #[(.int p1), (.int p2), (.int p3), (.int p4), (.int p5), (.int p6)] below meth c s₁ [] 0 0 := Stand.of_body Bd
  have e0 : s₁.heap = h0 := by rw [← hh, Bd.state]; rfl
  have N0 := Fr.nil n0
  show own_Ends p e below s 16 128 (Q0 Z p1 p2 p3 p4 p5 p6  h0 n0) (s₁.setTop (entryFrame m #[(.int p1), (.int p2), (.int p3), (.int p4), (.int p5), (.int p6)] maxLocals))
  refine own_step (fun t k => castTop (ef_rm0 m p1 p2 p3 p4 p5 p6) k) ?_
  show own_Ends p e below s _ _ _ (s₁.setTop (mkF m 0 #[.val (.int p1), .val (.int p2), .val (.int p3), .val (.int p4), .val (.int p5), .val (.int p6), .unset, .unset, .unset, .unset, .unset, .unset, .unset, .unset, .unset, .unset, .unset, .unset] []))
  refine own_step (fun _ kc_ => XS.iloadN X0.here hx rfl (hb hby at_0) rfl (X0.ldcI hx hown (mvT hZ (hw _ (List.mem_of_getElem? (i := 0) rfl))) rfl (hb hby at_1) (XS.iand X0.here hx rfl (hb hby at_3) rfl (XS.iloadN X0.here hx rfl (hb hby at_4) rfl (XS.bipush X0.here hx rfl (hb hby at_5) (XS.iand X0.here hx rfl (hb hby at_7) rfl (XS.iushr X0.here hx rfl (hb hby at_8) rfl (XS.istore X0.here hx rfl (hb hby at_9) rfl (l' := #[.val (.int p1), .val (.int p2), .val (.int p3), .val (.int p4), .val (.int p5), .val (.int p6), .val (.int (((p1 &&& (2147483647 : Int32)).toUInt32 >>> ((p2 &&& (31 : Int32)) &&& 31).toUInt32).toInt32)), .unset, .unset, .unset, .unset, .unset, .unset, .unset, .unset, .unset, .unset, .unset]) rfl kc_)))))))) ?_
  show own_Ends p e below s _ _ _ (s₁.setTop (mkF m 11 #[.val (.int p1), .val (.int p2), .val (.int p3), .val (.int p4), .val (.int p5), .val (.int p6), .val (.int (((p1 &&& (2147483647 : Int32)).toUInt32 >>> ((p2 &&& (31 : Int32)) &&& 31).toUInt32).toInt32)), .unset, .unset, .unset, .unset, .unset, .unset, .unset, .unset, .unset, .unset, .unset] []))
  generalize hnn : (((p1 &&& (2147483647 : Int32)).toUInt32 >>> ((p2 &&& (31 : Int32)) &&& 31).toUInt32).toInt32) = nn
  show own_Ends p e below s _ _ _ (s₁.setTop (mkF m 11 #[.val (.int p1), .val (.int p2), .val (.int p3), .val (.int p4), .val (.int p5), .val (.int p6), .val (.int nn), .unset, .unset, .unset, .unset, .unset, .unset, .unset, .unset, .unset, .unset, .unset] []))
  have hn := own_n0 p1 p2
  rw [hnn] at hn
  refine own_step (fun _ kc_ => XS.iload X0.here hx rfl (hb hby at_11) rfl (XS.sipush X0.here hx rfl (hb hby at_13) kc_)) ?_
  show own_Ends p e below s _ _ _ (s₁.setTop (mkF m 16 #[.val (.int p1), .val (.int p2), .val (.int p3), .val (.int p4), .val (.int p5), .val (.int p6), .val (.int nn), .unset, .unset, .unset, .unset, .unset, .unset, .unset, .unset, .unset, .unset, .unset] [(.int (128 : Int32)), (.int nn)]))
  by_cases hc16 : nn < (128 : Int32)
  · refine own_step (fun _ kc_ => XS.icmpNo X0.here hx rfl (hb hby at_16) rfl (XT.ii_ge_f hc16) (XS.iconst X0.here hx rfl (hb hby at_19) (XS.istore X0.here hx rfl (hb hby at_20) rfl (l' := #[.val (.int p1), .val (.int p2), .val (.int p3), .val (.int p4), .val (.int p5), .val (.int p6), .val (.int nn), .val (.int (1 : Int32)), .unset, .unset, .unset, .unset, .unset, .unset, .unset, .unset, .unset, .unset]) rfl (XS.goto X0.here hx rfl (pc0 := 22) (pc' := 68) rfl (hb hby at_22) (by decide) (by decide) (XS.iloadN X0.here hx rfl (hb hby at_68) rfl (XS.iconst X0.here hx rfl (hb hby at_69) (XS.iand X0.here hx rfl (hb hby at_70) rfl (XS.istore X0.here hx rfl (hb hby at_71) rfl (l' := #[.val (.int p1), .val (.int p2), .val (.int p3), .val (.int p4), .val (.int p5), .val (.int p6), .val (.int nn), .val (.int (1 : Int32)), .val (.int (p3 &&& (3 : Int32))), .unset, .unset, .unset, .unset, .unset, .unset, .unset, .unset, .unset]) rfl kc_)))))))) ?_
    show own_Ends p e below s _ _ _ (s₁.setTop (mkF m 73 #[.val (.int p1), .val (.int p2), .val (.int p3), .val (.int p4), .val (.int p5), .val (.int p6), .val (.int nn), .val (.int (1 : Int32)), .val (.int (p3 &&& (3 : Int32))), .unset, .unset, .unset, .unset, .unset, .unset, .unset, .unset, .unset] []))
    generalize hfr : (p3 &&& (3 : Int32)) = fr
    show own_Ends p e below s _ _ _ (s₁.setTop (mkF m 73 #[.val (.int p1), .val (.int p2), .val (.int p3), .val (.int p4), .val (.int p5), .val (.int p6), .val (.int nn), .val (.int (1 : Int32)), .val (.int fr), .unset, .unset, .unset, .unset, .unset, .unset, .unset, .unset, .unset] []))
    refine own_step (fun _ kc_ => XS.iload X0.here hx rfl (hb hby at_73) rfl (XS.i2b X0.here hx rfl (hb hby at_75) rfl (XS.istore X0.here hx rfl (hb hby at_76) rfl (l' := #[.val (.int p1), .val (.int p2), .val (.int p3), .val (.int p4), .val (.int p5), .val (.int p6), .val (.int nn), .val (.int (1 : Int32)), .val (.int fr), .val (.int (p6.toInt8.toInt32)), .unset, .unset, .unset, .unset, .unset, .unset, .unset, .unset]) rfl kc_))) ?_
    show own_Ends p e below s _ _ _ (s₁.setTop (mkF m 78 #[.val (.int p1), .val (.int p2), .val (.int p3), .val (.int p4), .val (.int p5), .val (.int p6), .val (.int nn), .val (.int (1 : Int32)), .val (.int fr), .val (.int (p6.toInt8.toInt32)), .unset, .unset, .unset, .unset, .unset, .unset, .unset, .unset] []))
    generalize hqb : (p6.toInt8.toInt32) = qb
    show own_Ends p e below s _ _ _ (s₁.setTop (mkF m 78 #[.val (.int p1), .val (.int p2), .val (.int p3), .val (.int p4), .val (.int p5), .val (.int p6), .val (.int nn), .val (.int (1 : Int32)), .val (.int fr), .val (.int qb), .unset, .unset, .unset, .unset, .unset, .unset, .unset, .unset] []))
    obtain ⟨F, hF, hfF⟩ := own_from p3 hfr
    exact seg_1 hw hZ hx hby hlk hret hml hown p1 p2 p3 p4 p5 p6 F hF hfF hn (by have q := Int32.lt_iff_toInt_lt.mp hc16; exact q) X0 e0 N0 Z0 rfl rfl
  · refine own_step (fun _ kc_ => XS.icmpYes X0.here hx rfl (pc0 := 16) (pc' := 25) rfl (hb hby at_16) rfl (XT.ii_ge_t hc16) (by decide) (by decide) (XS.iload X0.here hx rfl (hb hby at_25) rfl (XS.sipush X0.here hx rfl (hb hby at_27) kc_))) ?_
    show own_Ends p e below s _ _ _ (s₁.setTop (mkF m 30 #[.val (.int p1), .val (.int p2), .val (.int p3), .val (.int p4), .val (.int p5), .val (.int p6), .val (.int nn), .unset, .unset, .unset, .unset, .unset, .unset, .unset, .unset, .unset, .unset, .unset] [(.int (16384 : Int32)), (.int nn)]))
    by_cases hc30 : nn < (16384 : Int32)
    · refine own_step (fun _ kc_ => XS.icmpNo X0.here hx rfl (hb hby at_30) rfl (XT.ii_ge_f hc30) (XS.iconst X0.here hx rfl (hb hby at_33) (XS.istore X0.here hx rfl (hb hby at_34) rfl (l' := #[.val (.int p1), .val (.int p2), .val (.int p3), .val (.int p4), .val (.int p5), .val (.int p6), .val (.int nn), .val (.int (2 : Int32)), .unset, .unset, .unset, .unset, .unset, .unset, .unset, .unset, .unset, .unset]) rfl (XS.goto X0.here hx rfl (pc0 := 36) (pc' := 68) rfl (hb hby at_36) (by decide) (by decide) (XS.iloadN X0.here hx rfl (hb hby at_68) rfl (XS.iconst X0.here hx rfl (hb hby at_69) (XS.iand X0.here hx rfl (hb hby at_70) rfl (XS.istore X0.here hx rfl (hb hby at_71) rfl (l' := #[.val (.int p1), .val (.int p2), .val (.int p3), .val (.int p4), .val (.int p5), .val (.int p6), .val (.int nn), .val (.int (2 : Int32)), .val (.int (p3 &&& (3 : Int32))), .unset, .unset, .unset, .unset, .unset, .unset, .unset, .unset, .unset]) rfl kc_)))))))) ?_
      show own_Ends p e below s _ _ _ (s₁.setTop (mkF m 73 #[.val (.int p1), .val (.int p2), .val (.int p3), .val (.int p4), .val (.int p5), .val (.int p6), .val (.int nn), .val (.int (2 : Int32)), .val (.int (p3 &&& (3 : Int32))), .unset, .unset, .unset, .unset, .unset, .unset, .unset, .unset, .unset] []))
      generalize hfr : (p3 &&& (3 : Int32)) = fr
      show own_Ends p e below s _ _ _ (s₁.setTop (mkF m 73 #[.val (.int p1), .val (.int p2), .val (.int p3), .val (.int p4), .val (.int p5), .val (.int p6), .val (.int nn), .val (.int (2 : Int32)), .val (.int fr), .unset, .unset, .unset, .unset, .unset, .unset, .unset, .unset, .unset] []))
      refine own_step (fun _ kc_ => XS.iload X0.here hx rfl (hb hby at_73) rfl (XS.i2b X0.here hx rfl (hb hby at_75) rfl (XS.istore X0.here hx rfl (hb hby at_76) rfl (l' := #[.val (.int p1), .val (.int p2), .val (.int p3), .val (.int p4), .val (.int p5), .val (.int p6), .val (.int nn), .val (.int (2 : Int32)), .val (.int fr), .val (.int (p6.toInt8.toInt32)), .unset, .unset, .unset, .unset, .unset, .unset, .unset, .unset]) rfl kc_))) ?_
      show own_Ends p e below s _ _ _ (s₁.setTop (mkF m 78 #[.val (.int p1), .val (.int p2), .val (.int p3), .val (.int p4), .val (.int p5), .val (.int p6), .val (.int nn), .val (.int (2 : Int32)), .val (.int fr), .val (.int (p6.toInt8.toInt32)), .unset, .unset, .unset, .unset, .unset, .unset, .unset, .unset] []))
      generalize hqb : (p6.toInt8.toInt32) = qb
      show own_Ends p e below s _ _ _ (s₁.setTop (mkF m 78 #[.val (.int p1), .val (.int p2), .val (.int p3), .val (.int p4), .val (.int p5), .val (.int p6), .val (.int nn), .val (.int (2 : Int32)), .val (.int fr), .val (.int qb), .unset, .unset, .unset, .unset, .unset, .unset, .unset, .unset] []))
      obtain ⟨F, hF, hfF⟩ := own_from p3 hfr
      exact seg_2 hw hZ hx hby hlk hret hml hown p1 p2 p3 p4 p5 p6 F hF hfF hn (by have q := Int32.lt_iff_toInt_lt.mp hc30; exact q) X0 e0 N0 Z0 rfl rfl
    · refine own_step (fun _ kc_ => XS.icmpYes X0.here hx rfl (pc0 := 30) (pc' := 39) rfl (hb hby at_30) rfl (XT.ii_ge_t hc30) (by decide) (by decide) (XS.iload X0.here hx rfl (hb hby at_39) rfl (X0.ldcI hx hown (mvT hZ (hw _ (List.mem_of_getElem? (i := 31) rfl))) rfl (hb hby at_41) kc_))) ?_
      show own_Ends p e below s _ _ _ (s₁.setTop (mkF m 43 #[.val (.int p1), .val (.int p2), .val (.int p3), .val (.int p4), .val (.int p5), .val (.int p6), .val (.int nn), .unset, .unset, .unset, .unset, .unset, .unset, .unset, .unset, .unset, .unset, .unset] [(.int (2097152 : Int32)), (.int nn)]))
      by_cases hc43 : nn < (2097152 : Int32)
      · refine own_step (fun _ kc_ => XS.icmpNo X0.here hx rfl (hb hby at_43) rfl (XT.ii_ge_f hc43) (XS.iconst X0.here hx rfl (hb hby at_46) (XS.istore X0.here hx rfl (hb hby at_47) rfl (l' := #[.val (.int p1), .val (.int p2), .val (.int p3), .val (.int p4), .val (.int p5), .val (.int p6), .val (.int nn), .val (.int (3 : Int32)), .unset, .unset, .unset, .unset, .unset, .unset, .unset, .unset, .unset, .unset]) rfl (XS.goto X0.here hx rfl (pc0 := 49) (pc' := 68) rfl (hb hby at_49) (by decide) (by decide) (XS.iloadN X0.here hx rfl (hb hby at_68) rfl (XS.iconst X0.here hx rfl (hb hby at_69) (XS.iand X0.here hx rfl (hb hby at_70) rfl (XS.istore X0.here hx rfl (hb hby at_71) rfl (l' := #[.val (.int p1), .val (.int p2), .val (.int p3), .val (.int p4), .val (.int p5), .val (.int p6), .val (.int nn), .val (.int (3 : Int32)), .val (.int (p3 &&& (3 : Int32))), .unset, .unset, .unset, .unset, .unset, .unset, .unset, .unset, .unset]) rfl kc_)))))))) ?_
        show own_Ends p e below s _ _ _ (s₁.setTop (mkF m 73 #[.val (.int p1), .val (.int p2), .val (.int p3), .val (.int p4), .val (.int p5), .val (.int p6), .val (.int nn), .val (.int (3 : Int32)), .val (.int (p3 &&& (3 : Int32))), .unset, .unset, .unset, .unset, .unset, .unset, .unset, .unset, .unset] []))
        generalize hfr : (p3 &&& (3 : Int32)) = fr
        show own_Ends p e below s _ _ _ (s₁.setTop (mkF m 73 #[.val (.int p1), .val (.int p2), .val (.int p3), .val (.int p4), .val (.int p5), .val (.int p6), .val (.int nn), .val (.int (3 : Int32)), .val (.int fr), .unset, .unset, .unset, .unset, .unset, .unset, .unset, .unset, .unset] []))
        refine own_step (fun _ kc_ => XS.iload X0.here hx rfl (hb hby at_73) rfl (XS.i2b X0.here hx rfl (hb hby at_75) rfl (XS.istore X0.here hx rfl (hb hby at_76) rfl (l' := #[.val (.int p1), .val (.int p2), .val (.int p3), .val (.int p4), .val (.int p5), .val (.int p6), .val (.int nn), .val (.int (3 : Int32)), .val (.int fr), .val (.int (p6.toInt8.toInt32)), .unset, .unset, .unset, .unset, .unset, .unset, .unset, .unset]) rfl kc_))) ?_
        show own_Ends p e below s _ _ _ (s₁.setTop (mkF m 78 #[.val (.int p1), .val (.int p2), .val (.int p3), .val (.int p4), .val (.int p5), .val (.int p6), .val (.int nn), .val (.int (3 : Int32)), .val (.int fr), .val (.int (p6.toInt8.toInt32)), .unset, .unset, .unset, .unset, .unset, .unset, .unset, .unset] []))
        generalize hqb : (p6.toInt8.toInt32) = qb
        show own_Ends p e below s _ _ _ (s₁.setTop (mkF m 78 #[.val (.int p1), .val (.int p2), .val (.int p3), .val (.int p4), .val (.int p5), .val (.int p6), .val (.int nn), .val (.int (3 : Int32)), .val (.int fr), .val (.int qb), .unset, .unset, .unset, .unset, .unset, .unset, .unset, .unset] []))
        obtain ⟨F, hF, hfF⟩ := own_from p3 hfr
        exact seg_3 hw hZ hx hby hlk hret hml hown p1 p2 p3 p4 p5 p6 F hF hfF hn (by have q := Int32.lt_iff_toInt_lt.mp hc43; exact q) X0 e0 N0 Z0 rfl rfl
      · refine own_step (fun _ kc_ => XS.icmpYes X0.here hx rfl (pc0 := 43) (pc' := 52) rfl (hb hby at_43) rfl (XT.ii_ge_t hc43) (by decide) (by decide) (XS.iload X0.here hx rfl (hb hby at_52) rfl (X0.ldcI hx hown (mvT hZ (hw _ (List.mem_of_getElem? (i := 32) rfl))) rfl (hb hby at_54) kc_))) ?_
        show own_Ends p e below s _ _ _ (s₁.setTop (mkF m 56 #[.val (.int p1), .val (.int p2), .val (.int p3), .val (.int p4), .val (.int p5), .val (.int p6), .val (.int nn), .unset, .unset, .unset, .unset, .unset, .unset, .unset, .unset, .unset, .unset, .unset] [(.int (268435456 : Int32)), (.int nn)]))
        by_cases hc56 : nn < (268435456 : Int32)
        · refine own_step (fun _ kc_ => XS.icmpNo X0.here hx rfl (hb hby at_56) rfl (XT.ii_ge_f hc56) (XS.iconst X0.here hx rfl (hb hby at_59) (XS.istore X0.here hx rfl (hb hby at_60) rfl (l' := #[.val (.int p1), .val (.int p2), .val (.int p3), .val (.int p4), .val (.int p5), .val (.int p6), .val (.int nn), .val (.int (4 : Int32)), .unset, .unset, .unset, .unset, .unset, .unset, .unset, .unset, .unset, .unset]) rfl (XS.goto X0.here hx rfl (pc0 := 62) (pc' := 68) rfl (hb hby at_62) (by decide) (by decide) (XS.iloadN X0.here hx rfl (hb hby at_68) rfl (XS.iconst X0.here hx rfl (hb hby at_69) (XS.iand X0.here hx rfl (hb hby at_70) rfl (XS.istore X0.here hx rfl (hb hby at_71) rfl (l' := #[.val (.int p1), .val (.int p2), .val (.int p3), .val (.int p4), .val (.int p5), .val (.int p6), .val (.int nn), .val (.int (4 : Int32)), .val (.int (p3 &&& (3 : Int32))), .unset, .unset, .unset, .unset, .unset, .unset, .unset, .unset, .unset]) rfl kc_)))))))) ?_
          show own_Ends p e below s _ _ _ (s₁.setTop (mkF m 73 #[.val (.int p1), .val (.int p2), .val (.int p3), .val (.int p4), .val (.int p5), .val (.int p6), .val (.int nn), .val (.int (4 : Int32)), .val (.int (p3 &&& (3 : Int32))), .unset, .unset, .unset, .unset, .unset, .unset, .unset, .unset, .unset] []))
          generalize hfr : (p3 &&& (3 : Int32)) = fr
          show own_Ends p e below s _ _ _ (s₁.setTop (mkF m 73 #[.val (.int p1), .val (.int p2), .val (.int p3), .val (.int p4), .val (.int p5), .val (.int p6), .val (.int nn), .val (.int (4 : Int32)), .val (.int fr), .unset, .unset, .unset, .unset, .unset, .unset, .unset, .unset, .unset] []))
          refine own_step (fun _ kc_ => XS.iload X0.here hx rfl (hb hby at_73) rfl (XS.i2b X0.here hx rfl (hb hby at_75) rfl (XS.istore X0.here hx rfl (hb hby at_76) rfl (l' := #[.val (.int p1), .val (.int p2), .val (.int p3), .val (.int p4), .val (.int p5), .val (.int p6), .val (.int nn), .val (.int (4 : Int32)), .val (.int fr), .val (.int (p6.toInt8.toInt32)), .unset, .unset, .unset, .unset, .unset, .unset, .unset, .unset]) rfl kc_))) ?_
          show own_Ends p e below s _ _ _ (s₁.setTop (mkF m 78 #[.val (.int p1), .val (.int p2), .val (.int p3), .val (.int p4), .val (.int p5), .val (.int p6), .val (.int nn), .val (.int (4 : Int32)), .val (.int fr), .val (.int (p6.toInt8.toInt32)), .unset, .unset, .unset, .unset, .unset, .unset, .unset, .unset] []))
          generalize hqb : (p6.toInt8.toInt32) = qb
          show own_Ends p e below s _ _ _ (s₁.setTop (mkF m 78 #[.val (.int p1), .val (.int p2), .val (.int p3), .val (.int p4), .val (.int p5), .val (.int p6), .val (.int nn), .val (.int (4 : Int32)), .val (.int fr), .val (.int qb), .unset, .unset, .unset, .unset, .unset, .unset, .unset, .unset] []))
          obtain ⟨F, hF, hfF⟩ := own_from p3 hfr
          exact seg_4 hw hZ hx hby hlk hret hml hown p1 p2 p3 p4 p5 p6 F hF hfF hn (by have q := Int32.lt_iff_toInt_lt.mp hc56; exact q) X0 e0 N0 Z0 rfl rfl
        · refine own_step (fun _ kc_ => XS.icmpYes X0.here hx rfl (pc0 := 56) (pc' := 65) rfl (hb hby at_56) rfl (XT.ii_ge_t hc56) (by decide) (by decide) (XS.iconst X0.here hx rfl (hb hby at_65) (XS.istore X0.here hx rfl (hb hby at_66) rfl (l' := #[.val (.int p1), .val (.int p2), .val (.int p3), .val (.int p4), .val (.int p5), .val (.int p6), .val (.int nn), .val (.int (5 : Int32)), .unset, .unset, .unset, .unset, .unset, .unset, .unset, .unset, .unset, .unset]) rfl (XS.iloadN X0.here hx rfl (hb hby at_68) rfl (XS.iconst X0.here hx rfl (hb hby at_69) (XS.iand X0.here hx rfl (hb hby at_70) rfl (XS.istore X0.here hx rfl (hb hby at_71) rfl (l' := #[.val (.int p1), .val (.int p2), .val (.int p3), .val (.int p4), .val (.int p5), .val (.int p6), .val (.int nn), .val (.int (5 : Int32)), .val (.int (p3 &&& (3 : Int32))), .unset, .unset, .unset, .unset, .unset, .unset, .unset, .unset, .unset]) rfl kc_))))))) ?_
          show own_Ends p e below s _ _ _ (s₁.setTop (mkF m 73 #[.val (.int p1), .val (.int p2), .val (.int p3), .val (.int p4), .val (.int p5), .val (.int p6), .val (.int nn), .val (.int (5 : Int32)), .val (.int (p3 &&& (3 : Int32))), .unset, .unset, .unset, .unset, .unset, .unset, .unset, .unset, .unset] []))
          generalize hfr : (p3 &&& (3 : Int32)) = fr
          show own_Ends p e below s _ _ _ (s₁.setTop (mkF m 73 #[.val (.int p1), .val (.int p2), .val (.int p3), .val (.int p4), .val (.int p5), .val (.int p6), .val (.int nn), .val (.int (5 : Int32)), .val (.int fr), .unset, .unset, .unset, .unset, .unset, .unset, .unset, .unset, .unset] []))
          refine own_step (fun _ kc_ => XS.iload X0.here hx rfl (hb hby at_73) rfl (XS.i2b X0.here hx rfl (hb hby at_75) rfl (XS.istore X0.here hx rfl (hb hby at_76) rfl (l' := #[.val (.int p1), .val (.int p2), .val (.int p3), .val (.int p4), .val (.int p5), .val (.int p6), .val (.int nn), .val (.int (5 : Int32)), .val (.int fr), .val (.int (p6.toInt8.toInt32)), .unset, .unset, .unset, .unset, .unset, .unset, .unset, .unset]) rfl kc_))) ?_
          show own_Ends p e below s _ _ _ (s₁.setTop (mkF m 78 #[.val (.int p1), .val (.int p2), .val (.int p3), .val (.int p4), .val (.int p5), .val (.int p6), .val (.int nn), .val (.int (5 : Int32)), .val (.int fr), .val (.int (p6.toInt8.toInt32)), .unset, .unset, .unset, .unset, .unset, .unset, .unset, .unset] []))
          generalize hqb : (p6.toInt8.toInt32) = qb
          show own_Ends p e below s _ _ _ (s₁.setTop (mkF m 78 #[.val (.int p1), .val (.int p2), .val (.int p3), .val (.int p4), .val (.int p5), .val (.int p6), .val (.int nn), .val (.int (5 : Int32)), .val (.int fr), .val (.int qb), .unset, .unset, .unset, .unset, .unset, .unset, .unset, .unset] []))
          obtain ⟨F, hF, hfF⟩ := own_from p3 hfr
          exact seg_5 hw hZ hx hby hlk hret hml hown p1 p2 p3 p4 p5 p6 F hF hfF hn (by have q := Int32.toInt_lt nn; omega) X0 e0 N0 Z0 rfl rfl
set_option maxRecDepth 65536 in
set_option maxHeartbeats 40000000 in
theorem comes_1 {Post : Tables → Env → Array Value → State → Outcome → State → Prop} (hpost : ∀ tb e args s v u, (limb_1_1.after args s (.returned v) u = true ∧ limb_1_2.after args s (.returned v) u = true ∧ True) → FrameEnd s (.returned v) u (Jvm.fieldLocs frame_1_writes args s ++ Jvm.arrayLocs frame_1_arrays args s ++ Jvm.staticLocs frame_1_statics s) 16 128 → Post tb e args s (.returned v) u) :
    ArmFor flags0 classFile x code maxLocals ret World_1 tables_1 room_1 Calls_1 rest_1 Pre_1 Post := by
  intro l hfl _ _ p e ha hc hk s m args below hf hA hF happ hP
  obtain ⟨hcalls, hrest, hpre⟩ := hP
  obtain ⟨-, -, -, hnamed, -, -, -, hat⟩ := (Spec.applies_iff hf).mp happ
  obtain ⟨hg, hn⟩ := and_e (Cond.before_iff.mp (show (Jvm.Cond.and given_1 narrow_1).before args s = true from hpre))
  obtain ⟨g_c, g_0⟩ := and_e hg
  obtain ⟨w0, w1, w2, w3, w4, w5, rfl⟩ : ∃ w0 w1 w2 w3 w4 w5 : Value, args = #[w0, w1, w2, w3, w4, w5] := by
    have hs : args.size = 6 := by simpa [Cond.value, given_1] using g_c
    obtain ⟨L⟩ := args
    match L, hs with
    | [w0, w1, w2, w3, w4, w5], _ => exact ⟨w0, w1, w2, w3, w4, w5, rfl⟩
  have hw := fun d (hd : d ∈ tables_1) => atoms_spec (ws := Jvm.Cond.code x code maxLocals ret :: tables_1) hat d (List.mem_cons_of_mem _ hd)
  obtain ⟨g_v0, g_1⟩ := and_e g_0
  obtain ⟨i0, ei0⟩ := is_v g_v0
  obtain rfl : w0 = (.int i0) := Option.some.inj ei0
  obtain ⟨g_v1, g_2⟩ := and_e g_1
  obtain ⟨i1, ei1⟩ := is_v g_v1
  obtain rfl : w1 = (.int i1) := Option.some.inj ei1
  obtain ⟨g_v2, g_3⟩ := and_e g_2
  obtain ⟨i2, ei2⟩ := is_v g_v2
  obtain rfl : w2 = (.int i2) := Option.some.inj ei2
  obtain ⟨g_v3, g_4⟩ := and_e g_3
  obtain ⟨i3, ei3⟩ := is_v g_v3
  obtain rfl : w3 = (.int i3) := Option.some.inj ei3
  obtain ⟨g_v4, g_5⟩ := and_e g_4
  obtain ⟨i4, ei4⟩ := is_v g_v4
  obtain rfl : w4 = (.int i4) := Option.some.inj ei4
  obtain ⟨i5, ei5⟩ := is_v g_5
  obtain rfl : w5 = (.int i5) := Option.some.inj ei5
  obtain ⟨n, o, h1, h2, h3, _, L, rfl, ⟨rfl, N⟩, hq⟩ := rm0 l s _ hw tables_1 i0 i1 i2 i3 i4 i5  s.heap s.heap.size (Nat.le_refl _) p e ha hc hk s m _ below hf ((Spec.applies_iff_loose hf).mp happ).1 ⟨rfl, State.Warmed39.refl s, rfl⟩ trivial
  refine ⟨n, _, h1, h2, h3, hpost _ _ _ _ _ _ ⟨Cond.after_iff.mpr rfl, Cond.after_iff.mpr (eq_i res_at (Term.int_eval (1)) rfl), trivial⟩ ⟨hq.1, hq.2.1, (hq.2.2.sift fun y hy => Or.inr (N y hy)).mono (by decide) (by decide)⟩⟩
theorem main_1_1 : Claimed_1_1 := comes_1 fun _ _ _ _ _ _ h hF => ⟨h.1, hF⟩
theorem main_1_2 : Claimed_1_2 := comes_1 fun _ _ _ _ _ _ h hF => ⟨h.2.1, hF⟩
end Jvm.Pilot.@@N@@
namespace Jvm.Pilot.@@N@@
open Jvm Jvm.ClassFile Sem Op Lib Jvm.Free Jvm.Stand Jvm.Pilot.@@N@@.Jvm.D
/-! MADE BY PROGRAM (witnessworld.py) out of the Statement's table words and the real class files: 9 classes; the members and pool entries that the words name. The judged class is class 1, her method 2. -/
namespace start1
open Jvm.ClassFile
def u (s : String) : CpInfo := .utf8 (stringToUtf16 s)
/-- a pool by its gaps: so many unusable entries, then the entry; so many at the end -/
def gap : Nat → List CpInfo → List CpInfo
  | 0, r => r
  | n + 1, r => .unusable :: gap n r
def poolList (es : List (Nat × CpInfo)) (last : Nat) : List CpInfo := es.foldr (fun e r => gap e.1 (e.2 :: r)) (gap last [])
def pool (es : List (Nat × CpInfo)) (last : Nat) : Array CpInfo := ⟨poolList es last⟩
def fileOf (pool : Array CpInfo) (this : Nat) (attrs : Array Attribute := #[]) (ms : Array MethodInfo := #[]) (fl : Nat := 33) (sup : Nat := 0) (ifs : Array Nat := #[]) (fds : Array FieldInfo := #[]) : ClassFile where
  minorVersion := 0
  majorVersion := 65
  constantPool := pool
  accessFlags := fl
  thisClass := this
  superClass := sup
  interfaces := ifs
  fields := fds
  methods := ms
  attributes := attrs
def plain (name : String) (sup : Option ClassId) : Class where
  name := name
  kind := .ordinary
  loader := none
  accessFlags := 33
  super := sup
  interfaces := #[]
  cf := none
  fields := #[]
  methods := #[]
  instanceTypes := #[]
  staticTypes := #[]
  resolved := #[]
  callSites := []
  init := .initialized
  statics := none
  mirror := none

def pool0 : Array CpInfo := pool [(5, u "<init>"), (0, u "()V"), (1, .class_ 10), (1, u "java/lang/Object")] 113

def k0c0 : Code := { maxStack := 0, maxLocals := 1, code := object_method_1_code, exceptionTable := #[], attributes := #[] }
def k0m0 : Method := { name := "<init>", desc := "()V", sig := { parameters := [], returnType := none }, accessFlags := 1, code := some k0c0 }
/-- java/lang/Object -/
def k0 : Class := { plain "java/lang/Object" none with
  accessFlags := 33
  interfaces := #[]
  cf := some (fileOf pool0 8 #[] #[{ accessFlags := 1, nameIndex := 5, descriptorIndex := 6, attributes := #[] }] 33 0 #[] #[])
  fields := #[]
  methods := #[k0m0]
  instanceTypes := #[]
  staticTypes := #[]
  resolved := Array.replicate 124 none
  statics := none }

def pool1 : Array CpInfo := pool [(2, .class_ 4), (1, u "java/lang/Object"), (0, u "<init>"), (0, u "()V"), (0, .integer 2147483647), (0, .integer 2097152), (0, .integer 268435456), (0, .methodref 11 12), (0, .class_ 13), (0, .nameAndType 14 15), (0, u "com/example/wakachi/wakachi/ReaderNextPinLaw"), (0, u "enc"), (0, u "(III)B"), (0, .class_ 17), (0, u "com/example/wakachi/wakachi/VarInts$Reader"), (0, .methodref 16 19), (0, .nameAndType 5 20), (0, u "([BII)V"), (0, .methodref 16 22), (0, .nameAndType 23 24), (0, u "next"), (0, u "()I"), (0, .methodref 16 26), (0, .nameAndType 27 28), (0, u "hasNext"), (0, u "()Z"), (3, u "law"), (0, u "(IIIIII)Z")] 8

def k1m0 : Method := { name := "<init>", desc := "()V", sig := { parameters := [], returnType := none }, accessFlags := 2, code := none }
def k1c1 : Code := { maxStack := 3, maxLocals := 4, code := method_2_code, exceptionTable := #[], attributes := #[] }
def k1m1 : Method := { name := "enc", desc := "(III)B", sig := { parameters := [.int, .int, .int], returnType := some .byte }, accessFlags := 10, code := some k1c1 }
def k1c2 : Code := { maxStack := 6, maxLocals := 18, code := code, exceptionTable := #[], attributes := #[] }
def k1m2 : Method := { name := "law", desc := "(IIIIII)Z", sig := { parameters := [.int, .int, .int, .int, .int, .int], returnType := some .boolean }, accessFlags := 9, code := some k1c2 }
/-- com/example/wakachi/wakachi/ReaderNextPinLaw -/
def k1 : Class := { plain "com/example/wakachi/wakachi/ReaderNextPinLaw" (some 0) with
  accessFlags := 49
  interfaces := #[]
  cf := some (fileOf pool1 11 #[] #[{ accessFlags := 2, nameIndex := 5, descriptorIndex := 6, attributes := #[] }, { accessFlags := 10, nameIndex := 14, descriptorIndex := 15, attributes := #[] }, { accessFlags := 9, nameIndex := 32, descriptorIndex := 33, attributes := #[] }] 49 2 #[] #[])
  fields := #[]
  methods := #[k1m0, k1m1, k1m2]
  instanceTypes := #[]
  staticTypes := #[]
  resolved := Array.replicate 42 none
  statics := none }

def pool2 : Array CpInfo := pool [(1, .class_ 2), (0, u "com/example/wakachi/wakachi/VarInts"), (0, .methodref 4 5), (0, .class_ 6), (0, .nameAndType 7 8), (0, u "java/lang/Object"), (0, u "<init>"), (0, u "()V"), (0, .fieldref 10 11), (0, .class_ 12), (0, .nameAndType 13 14), (0, u "com/example/wakachi/wakachi/VarInts$Reader"), (0, u "bytes"), (0, u "[B"), (0, .fieldref 10 16), (0, .nameAndType 17 18), (0, u "position"), (0, u "I"), (0, .fieldref 10 20), (0, .nameAndType 21 18), (0, u "to"), (0, u "([BII)V"), (2, u "hasNext"), (0, u "()Z"), (1, u "next"), (0, u "()I")] 5

def k2c0 : Code := { maxStack := 2, maxLocals := 4, code := prog_238_method_1_code, exceptionTable := #[], attributes := #[] }
def k2m0 : Method := { name := "<init>", desc := "([BII)V", sig := { parameters := [(.array .byte), .int, .int], returnType := none }, accessFlags := 0, code := some k2c0 }
def k2c1 : Code := { maxStack := 2, maxLocals := 1, code := prog_238_method_2_code, exceptionTable := #[], attributes := #[] }
def k2m1 : Method := { name := "hasNext", desc := "()Z", sig := { parameters := [], returnType := some .boolean }, accessFlags := 0, code := some k2c1 }
def k2c2 : Code := { maxStack := 5, maxLocals := 4, code := prog_238_method_3_code, exceptionTable := #[], attributes := #[] }
def k2m2 : Method := { name := "next", desc := "()I", sig := { parameters := [], returnType := some .int }, accessFlags := 0, code := some k2c2 }
/-- com/example/wakachi/wakachi/VarInts$Reader -/
def k2 : Class := { plain "com/example/wakachi/wakachi/VarInts$Reader" (some 0) with
  accessFlags := 48
  interfaces := #[]
  cf := some (fileOf pool2 10 #[.nestHost 1] #[{ accessFlags := 0, nameIndex := 7, descriptorIndex := 22, attributes := #[] }, { accessFlags := 0, nameIndex := 25, descriptorIndex := 26, attributes := #[] }, { accessFlags := 0, nameIndex := 28, descriptorIndex := 29, attributes := #[] }] 48 4 #[] #[{ accessFlags := 18, nameIndex := 13, descriptorIndex := 14, attributes := #[] }, { accessFlags := 18, nameIndex := 21, descriptorIndex := 18, attributes := #[] }, { accessFlags := 2, nameIndex := 17, descriptorIndex := 18, attributes := #[] }])
  fields := #[{ name := "bytes", type := (.array .byte), accessFlags := 18, slot := 0, constantValue := 0 }, { name := "to", type := .int, accessFlags := 18, slot := 1, constantValue := 0 }, { name := "position", type := .int, accessFlags := 2, slot := 2, constantValue := 0 }]
  methods := #[k2m0, k2m1, k2m2]
  instanceTypes := #[(.array .byte), .int, .int]
  staticTypes := #[]
  resolved := Array.replicate 35 none
  statics := none }

def pool3 : Array CpInfo := pool [(1, u "java/lang/Cloneable"), (0, .class_ 1), (0, u "java/lang/Object"), (0, .class_ 3)] 3

/-- java/lang/Cloneable -/
def k3 : Class := { plain "java/lang/Cloneable" (some 0) with
  accessFlags := 1537
  interfaces := #[]
  cf := some (fileOf pool3 2 #[] #[] 1537 4 #[] #[])
  fields := #[]
  methods := #[]
  instanceTypes := #[]
  staticTypes := #[]
  resolved := Array.replicate 8 none
  statics := none }

def pool4 : Array CpInfo := pool [(1, u "java/io/Serializable"), (0, .class_ 1), (0, u "java/lang/Object"), (0, .class_ 3)] 3

/-- java/io/Serializable -/
def k4 : Class := { plain "java/io/Serializable" (some 0) with
  accessFlags := 1537
  interfaces := #[]
  cf := some (fileOf pool4 2 #[] #[] 1537 4 #[] #[])
  fields := #[]
  methods := #[]
  instanceTypes := #[]
  staticTypes := #[]
  resolved := Array.replicate 8 none
  statics := none }

/-- the primitive byte -/
def k5 : Class := { plain "byte" none with kind := .primitive 'B', accessFlags := 0x411 }
/-- [B -/
def k6 : Class := { plain "[B" (some 0) with kind := .array 5 .byte, interfaces := #[3, 4], accessFlags := 1041 }

/-- the primitive int -/
def k7 : Class := { plain "int" none with kind := .primitive 'I', accessFlags := 0x411 }
/-- [I -/
def k8 : Class := { plain "[I" (some 0) with kind := .array 7 .int, interfaces := #[3, 4], accessFlags := 1041 }

def heap : Heap := #[]
def classes : Array Class := #[k0, k1, k2, k3, k4, k5, k6, k7, k8]
def interned : List (Array UInt16 × Addr) := []
def slotsUsed : Nat := 0
def theMethod : MethodId := ⟨1, 2⟩
def args0 : Array Value := #[.int 300, .int 0, .int 1, .int 2, .int 5, .int 9]
def aboutOver (below : List Frame) : State where
  vm := { classes := classes, interned := interned.toArray }
  heap := heap
  slotsUsed := slotsUsed
  threads := #[{ frames := .invoking theMethod args0 :: below }]
def below0 : List Frame := [.native { method := ⟨0, 0⟩, args := #[] }]
def about1 : State := aboutOver below0
def p0 : Program := .bare "" "" ""
def e0 : Env := launch0.env 0 0 0
theorem w_frames : about1.frames = Frame.invoking theMethod args0 :: below0 := rfl
set_option maxRecDepth 65536 in
theorem w_args : argsFit about1.vm theMethod args0 = true := by decide +kernel
set_option maxRecDepth 65536 in
theorem w_heap : heapFits about1 = true := by decide +kernel
set_option maxRecDepth 65536 in
theorem w_runnable : about1.curStatus? = some .runnable := by decide +kernel
set_option maxRecDepth 65536 in
theorem w_alone : about1.alone = true := by decide +kernel
set_option maxRecDepth 65536 in
theorem w_named : about1.methodNamed? x = some theMethod := by decide +kernel
set_option maxRecDepth 65536 in
theorem w_hears : about1.hears theMethod below0 = true := by decide +kernel
set_option maxRecDepth 65536 in
theorem w_ripe : about1.ripe theMethod args0 below0 = true := by decide +kernel
theorem w_running : about1.status = .running := rfl
set_option maxRecDepth 65536 in
theorem w_room : about1.hasRoom e0.platform room_1 = true :=
  launch0.hasRoom_least _ room_1 (by decide +kernel) (by decide +kernel) (by decide +kernel) (by decide +kernel) (by decide +kernel) (by decide +kernel)
theorem allAtoms_all (ts : List Jvm.Cond) (a : Array Jvm.Value) (st : Jvm.State) : (allAtoms ts).before a st = ts.all (fun c => c.before a st) := by
  induction ts with
  | nil => rfl
  | cons c t ih =>
    show (Jvm.Cond.and c (allAtoms t)).before a st = _
    rw [Jvm.Cond.before_and, ih, List.all_cons]
def words1 : List Jvm.Cond := Jvm.Cond.code x code maxLocals ret :: tables_1
/-- a 'code' word, met by the world's own term for the bytes: nothing is compared byte by byte -/
theorem code_word {y : MethodName} {bytes : ByteArray} {mx : Nat} {rt : Option FieldType} {a : Array Value} {s : State} {m : MethodId} {meth : Method} {c : Code} (h1 : s.methodNamed? y = some m) (h2 : s.vm.method? m = some meth) (h3 : meth.code = some c) (h4 : c.code = bytes)
    (h5 : (c.maxLocals == mx && c.exceptionTable.isEmpty && decide (c.maxStack ≤ mostOperands) && decide (meth.sig.returnType = rt) && !meth.locks && decide (parseMethodDescriptor y.desc = some meth.sig)) = true) : (Jvm.Cond.code y bytes mx rt).before a s = true := by
  simp only [Bool.and_eq_true, beq_iff_eq, Bool.not_eq_true', decide_eq_true_eq] at h5
  obtain ⟨⟨⟨⟨⟨g1, g2⟩, g3⟩, g4⟩, g5⟩, g6⟩ := h5
  simp [Cond.before, Cond.holds, Cond.value, h1, h2, h3, h4, g1, g2, g3, g4, g5, g6]
def isCode : Jvm.Cond → Bool
  | .code _ _ _ _ => true
  | _ => false
theorem all_split {L : List Jvm.Cond} {P : Jvm.Cond → Bool} (h1 : L.all (fun c => isCode c || P c) = true) (h2 : ∀ c ∈ L.filter isCode, P c = true) : L.all P = true := by
  refine List.all_eq_true.mpr fun c hc => ?_
  have h := List.all_eq_true.mp h1 c hc
  rcases Bool.eq_false_or_eq_true (isCode c) with hi | hi
  · exact h2 c (List.mem_filter.mpr ⟨hc, hi⟩)
  · simpa [hi] using h
set_option maxRecDepth 65536 in
theorem w_c0 : (Jvm.Cond.code x code maxLocals ret).before args0 about1 = true := code_word (m := ⟨1, 2⟩) (meth := k1m2) (c := k1c2) (by decide +kernel) rfl rfl rfl (by decide +kernel)
set_option maxRecDepth 65536 in
theorem w_c1 : (Jvm.Cond.code ({ cls := "com/example/wakachi/wakachi/ReaderNextPinLaw", name := "enc", desc := "(III)B" } : Jvm.MethodName) method_2_code (4 : Nat) (Option.some Jvm.ClassFile.FieldType.byte)).before args0 about1 = true := code_word (m := ⟨1, 1⟩) (meth := k1m1) (c := k1c1) (by decide +kernel) rfl rfl rfl (by decide +kernel)
set_option maxRecDepth 65536 in
theorem w_c2 : (Jvm.Cond.code ({ cls := "com/example/wakachi/wakachi/VarInts$Reader", name := "<init>", desc := "([BII)V" } : Jvm.MethodName) prog_238_method_1_code (4 : Nat) (Option.none : Option Jvm.ClassFile.FieldType)).before args0 about1 = true := code_word (m := ⟨2, 0⟩) (meth := k2m0) (c := k2c0) (by decide +kernel) rfl rfl rfl (by decide +kernel)
set_option maxRecDepth 65536 in
theorem w_c3 : (Jvm.Cond.code ({ cls := "java/lang/Object", name := "<init>", desc := "()V" } : Jvm.MethodName) object_method_1_code (1 : Nat) (Option.none : Option Jvm.ClassFile.FieldType)).before args0 about1 = true := code_word (m := ⟨0, 0⟩) (meth := k0m0) (c := k0c0) (by decide +kernel) rfl rfl rfl (by decide +kernel)
set_option maxRecDepth 65536 in
theorem w_c4 : (Jvm.Cond.code ({ cls := "com/example/wakachi/wakachi/VarInts$Reader", name := "next", desc := "()I" } : Jvm.MethodName) prog_238_method_3_code (4 : Nat) (Option.some Jvm.ClassFile.FieldType.int)).before args0 about1 = true := code_word (m := ⟨2, 2⟩) (meth := k2m2) (c := k2c2) (by decide +kernel) rfl rfl rfl (by decide +kernel)
set_option maxRecDepth 65536 in
theorem w_c5 : (Jvm.Cond.code ({ cls := "com/example/wakachi/wakachi/VarInts$Reader", name := "hasNext", desc := "()Z" } : Jvm.MethodName) prog_238_method_2_code (1 : Nat) (Option.some Jvm.ClassFile.FieldType.boolean)).before args0 about1 = true := code_word (m := ⟨2, 1⟩) (meth := k2m1) (c := k2c1) (by decide +kernel) rfl rfl rfl (by decide +kernel)
def codes1 : List Jvm.Cond := [Jvm.Cond.code x code maxLocals ret, Jvm.Cond.code ({ cls := "com/example/wakachi/wakachi/ReaderNextPinLaw", name := "enc", desc := "(III)B" } : Jvm.MethodName) method_2_code (4 : Nat) (Option.some Jvm.ClassFile.FieldType.byte), Jvm.Cond.code ({ cls := "com/example/wakachi/wakachi/VarInts$Reader", name := "<init>", desc := "([BII)V" } : Jvm.MethodName) prog_238_method_1_code (4 : Nat) (Option.none : Option Jvm.ClassFile.FieldType), Jvm.Cond.code ({ cls := "java/lang/Object", name := "<init>", desc := "()V" } : Jvm.MethodName) object_method_1_code (1 : Nat) (Option.none : Option Jvm.ClassFile.FieldType), Jvm.Cond.code ({ cls := "com/example/wakachi/wakachi/VarInts$Reader", name := "next", desc := "()I" } : Jvm.MethodName) prog_238_method_3_code (4 : Nat) (Option.some Jvm.ClassFile.FieldType.int), Jvm.Cond.code ({ cls := "com/example/wakachi/wakachi/VarInts$Reader", name := "hasNext", desc := "()Z" } : Jvm.MethodName) prog_238_method_2_code (1 : Nat) (Option.some Jvm.ClassFile.FieldType.boolean)]
set_option maxRecDepth 65536 in
theorem codes_eq : words1.filter isCode = codes1 := rfl
theorem w_codes : ∀ c ∈ words1.filter isCode, c.before args0 about1 = true := by
  rw [codes_eq]
  intro c hc
  simp only [codes1, List.mem_cons, List.not_mem_nil, or_false] at hc
  rcases hc with rfl | rfl | rfl | rfl | rfl | rfl
  · exact w_c0
  · exact w_c1
  · exact w_c2
  · exact w_c3
  · exact w_c4
  · exact w_c5
set_option maxRecDepth 65536 in
theorem w_t1 : (words1.take 24).all (fun c => isCode c || c.before args0 about1) = true := by decide +kernel
set_option maxRecDepth 65536 in
theorem w_t2 : (words1.drop 24).all (fun c => isCode c || c.before args0 about1) = true := by decide +kernel
theorem w_tables : (allAtoms (Jvm.Cond.code x code maxLocals ret :: tables_1)).before args0 about1 = true := by
  rw [allAtoms_all]
  show words1.all (fun c => c.before args0 about1) = true
  refine all_split ?_ w_codes
  rw [← List.take_append_drop 24 words1, List.all_append, w_t1, w_t2]
  rfl
set_option maxRecDepth 65536 in
theorem w_case : (Jvm.Cond.and given_1 narrow_1).before args0 about1 = true := by decide +kernel
theorem w_applies : (headSpec (Jvm.Cond.code x code maxLocals ret :: tables_1) room_1).applies x e0.platform about1 = true :=
  (Spec.applies_iff w_frames).mpr ⟨w_running, w_runnable, w_alone, w_named, w_hears, w_ripe, w_room, w_tables⟩
theorem atStart : AtStart classFile x code maxLocals ret World_1 tables_1 room_1 Calls_1 rest_1 Pre_1 launch0 p0 e0 about1 theMethod args0 below0 :=
  ⟨lists_1, trivial, launch0.admits_env _ _ _, launch0.least_env, fairChoices_fair.cas, fairChoices_fair.clock, w_frames, w_args, w_heap, w_applies, trivial, trivial, w_case⟩
end start1
theorem witness_1 : WitnessClaimed_1 := ⟨start1.p0, start1.e0, start1.about1, start1.theMethod, start1.args0, start1.below0, start1.atStart⟩
end Jvm.Pilot.@@N@@
