import JvmDerived
import JvmDerived.Pilot.@@N@@Statement
import JvmDerived.Pilot.@@N@@Code
set_option linter.unusedVariables false
set_option linter.unusedSimpArgs false
@@BLOCK:NumsL.lean.txt@@
namespace Jvm.RoadKit
open Sem ClassFile Op Lib Jvm.Stand Jvm.Free Jvm.LawKit
section New
variable {p : Program} {l : Launch} {e : Env} {R : Room} {s : State} {m : MethodId} {args : Array Value} {below : List Frame} {meth : Method} {c : Code} {T : State} {locs : List Loc} {cells slots : Nat}
theorem retI (X : Stand p l e R s m args below meth c T locs cells slots) (hx : p.tables.exec = Jvm.exec) {pc : Nat} {Ls : Array Slot} {z : Int32} {rest : List Value} (hret : meth.sig.returnType = some .int) (hd : decode c.code pc = .ok (.ireturn, 1)) {fs : List Frame}
    (hl : ∀ (f : JFrame) (acts : List Action), f.method = m → f.locked = none → f.entered = [] → (doReturn e (T.setTop f) acts (some (.int z))).1 = T.setFrames fs) : Steps p.tables e below (T.setTop (mkF m pc Ls (.int z :: rest))) (T.setFrames fs) := by
  have hm' : T.vm.method? m = some meth := X.method'
  have hn : narrow .int (.int z) = .int z := rfl
  show Steps p.tables e below (T.setTop { method := m, pc := pc, locals := Ls, stack := _ :: rest, locked := none }) _
  jvm_step X.here [X.here.top, hx, hd, hm', hret, hn]
  first | (intro acts; rw [hl _ acts rfl rfl rfl]) | rw [hl _ _ rfl rfl rfl]
  exact Steps.refl _
end New
end Jvm.RoadKit
namespace Jvm.Pilot.@@N@@
open Jvm Jvm.ClassFile Sem Op Lib Jvm.Free Jvm.Stand Jvm.LawKit Jvm.RoadKit Bundle Jvm.Pilot.@@N@@.Jvm.D
/-- from F the invocation ends: it returns, and Q holds of what it returned, the heap and the places written -/
def own_Ends (p : Program) (e : Env) (below : List Frame) (s : State) (C S : Nat) (Q : Option Value → Heap → List Loc → Prop) (F : State) : Prop :=
  ∃ s₂ o, Steps p.tables e below F s₂ ∧ s₂.status = .running ∧ Ended s₂ below o ∧ ∃ v L, o = .returned v ∧ Q v s₂.heap L ∧ FrameEnd s o s₂ L C S
theorem own_step {p : Program} {e : Env} {below : List Frame} {s : State} {C S : Nat} {Q : Option Value → Heap → List Loc → Prop} {F F' : State} (h : ∀ t, Steps p.tables e below F' t → Steps p.tables e below F t) (k : own_Ends p e below s C S Q F') : own_Ends p e below s C S Q F := by
  obtain ⟨s₂, o, st, r⟩ := k
  exact ⟨s₂, o, h _ st, r⟩
section OwnRet
variable {p : Program} {l : Launch} {e : Env} {R : Room} {s : State} {m : MethodId} {args : Array Value} {below : List Frame} {meth : Method} {c : Code} {T : State} {locs : List Loc} {cells slots : Nat} {C S : Nat} {Q : Option Value → Heap → List Loc → Prop}
theorem own_retI (X : Stand p l e R s m args below meth c T locs cells slots) (hx : p.tables.exec = Jvm.exec) {pc : Nat} {Ls : Array Slot} {z : Int32} {rest : List Value} (hret : meth.sig.returnType = some .int) (hlk : meth.locks = false) (hd : decode c.code pc = .ok (.ireturn, 1)) (hc : cells ≤ C) (hs : slots ≤ S)
    (hQ : Q (some (.int z)) T.heap locs) : own_Ends p e below s C S Q (T.setTop (mkF m pc Ls (.int z :: rest))) := by
  obtain ⟨fs, hr, hrun, hended, hW, hsame⟩ := X.leave (v := some (.int z)) (fun h => by rw [hret] at h; cases h) hlk
  exact ⟨_, _, retI X hx hret hd hr, hrun, hended, _, _, rfl, hQ, ⟨_, rfl⟩, hW, hsame.mono hc hs⟩
theorem own_retN (X : Stand p l e R s m args below meth c T locs cells slots) (hx : p.tables.exec = Jvm.exec) {pc : Nat} {Ls : Array Slot} {z z' : Int32} {rest : List Value} {t : FieldType} (hret : meth.sig.returnType = some t) (ht : t = .boolean ∨ t = .byte ∨ t = .char ∨ t = .short) (hlk : meth.locks = false) (hd : decode c.code pc = .ok (.ireturn, 1)) (hc : cells ≤ C) (hs : slots ≤ S)
    (hz : nar t z = z') (hQ : Q (some (.int z')) T.heap locs) : own_Ends p e below s C S Q (T.setTop (mkF m pc Ls (.int z :: rest))) := by
  subst hz
  obtain ⟨fs, hr, hrun, hended, hW, hsame⟩ := X.leave (v := some (.int (nar t z))) (fun h => by rw [hret] at h; cases h) hlk
  exact ⟨_, _, retN X hx hret ht hd hr, hrun, hended, _, _, rfl, hQ, ⟨_, rfl⟩, hW, hsame.mono hc hs⟩
theorem own_retJ (X : Stand p l e R s m args below meth c T locs cells slots) (hx : p.tables.exec = Jvm.exec) {pc : Nat} {Ls : Array Slot} {z : Int64} (hret : meth.sig.returnType = some .long) (hlk : meth.locks = false) (hd : decode c.code pc = .ok (.lreturn, 1)) (hc : cells ≤ C) (hs : slots ≤ S)
    (hQ : Q (some (.long z)) T.heap locs) : own_Ends p e below s C S Q (T.setTop (mkF m pc Ls [.long z])) := by
  obtain ⟨fs, hr, hrun, hended, hW, hsame⟩ := X.leave (v := some (.long z)) (fun h => by rw [hret] at h; cases h) hlk
  exact ⟨_, _, X.lreturnOut hx hret hd hr, hrun, hended, _, _, rfl, hQ, ⟨_, rfl⟩, hW, hsame.mono hc hs⟩
theorem own_retV (X : Stand p l e R s m args below meth c T locs cells slots) (hx : p.tables.exec = Jvm.exec) {pc : Nat} {Ls : Array Slot} (hret : meth.sig.returnType = none) (hlk : meth.locks = false) (hd : decode c.code pc = .ok (.return_, 1)) (hc : cells ≤ C) (hs : slots ≤ S)
    (hQ : Q none T.heap locs) : own_Ends p e below s C S Q (T.setTop (mkF m pc Ls [])) := by
  obtain ⟨fs, hr, hrun, hended, hW, hsame⟩ := X.leave (v := none) (fun _ => rfl) hlk
  exact ⟨_, _, X.returnOut hx hret hd hr, hrun, hended, _, _, rfl, hQ, ⟨_, rfl⟩, hW, hsame.mono hc hs⟩
theorem own_retR (X : Stand p l e R s m args below meth c T locs cells slots) (hx : p.tables.exec = Jvm.exec) {pc : Nat} {Ls : Array Slot} {w : Value} {t : FieldType} {rest : List Value} (hret : meth.sig.returnType = some t) (ht : t.isReference = true) (hw : w.isRef = true) (hn : narrow t w = w) (hlk : meth.locks = false) (hd : decode c.code pc = .ok (.areturn, 1)) (hc : cells ≤ C) (hs : slots ≤ S)
    (hQ : Q (some w) T.heap locs) : own_Ends p e below s C S Q (T.setTop (mkF m pc Ls (w :: rest))) := by
  obtain ⟨fs, hr, hrun, hended, hW, hsame⟩ := X.leave (v := some w) (fun h => by rw [hret] at h; cases h) hlk
  exact ⟨_, _, retOut X hx hret hn (Or.inr (Or.inr (Or.inr (Or.inr ⟨rfl, ht, hw⟩)))) hd hr, hrun, hended, _, _, rfl, hQ, ⟨_, rfl⟩, hW, hsame.mono hc hs⟩
end OwnRet
theorem own_top (x : Int64) : ((x.toUInt64 >>> ((63 : Int32) &&& 0x3f).toInt64.toUInt64).toInt64).toInt32 = if x < 0 then 1 else 0 := by
  have h : ((x.toUInt64 >>> ((63 : Int32) &&& 0x3f).toInt64.toUInt64).toInt64).toBitVec = x.toBitVec >>> 63 := rfl
  have hm : (x < 0) ↔ x.toBitVec.msb = true := XT.neg64 x
  have hb : x.toBitVec >>> 63 = if x.toBitVec.msb then 1#64 else 0#64 := by
    apply BitVec.eq_of_toNat_eq
    have hlt := x.toBitVec.isLt
    rw [BitVec.msb_eq_decide, BitVec.toNat_ushiftRight, Nat.shiftRight_eq_div_pow]
    by_cases h2 : 2 ^ (64 - 1) ≤ x.toBitVec.toNat
    · rw [if_pos (by simpa using h2)]; simp at h2 ⊢; omega
    · rw [if_neg (by simpa using h2)]; simp at h2 ⊢; omega
  apply Int32.toBitVec_inj.mp
  show BitVec.signExtend 32 ((x.toUInt64 >>> ((63 : Int32) &&& 0x3f).toInt64.toUInt64).toInt64).toBitVec = _
  rw [h, hb]
  by_cases hx : x < 0
  · rw [if_pos hx, if_pos (hm.mp hx)]; decide
  · rw [if_neg hx, if_neg (fun q => hx (hm.mpr q))]; decide
theorem own_low (D : Int64) (b : Int32) : ((D.toInt32 * b).toInt64 &&& (4294967295 : Int64)) = ((D * b.toInt64) &&& (4294967295 : Int64)) := by
  apply Int64.toInt_inj.mp
  rw [Jvm.Kit.i64_mask _ _ (k := 32) (by decide) (by decide), Jvm.Kit.i64_mask _ _ (k := 32) (by decide) (by decide), Int32.toInt_toInt64, Int32.toInt_mul, Int64.toInt_mul, Int64.toInt_toInt32, Int32.toInt_toInt64]
  have a1 : ∀ z : Int, (z.bmod (2 ^ 32)) % 2 ^ 32 = z % 2 ^ 32 := fun z => Int.bmod_emod
  have a2 : ∀ z : Int, (z.bmod (2 ^ 64)) % 2 ^ 32 = z % 2 ^ 32 := fun z => by
    have h := Int.bmod_emod (x := z) (m := 2 ^ 64)
    have h1 : (z.bmod (2 ^ 64)) % 2 ^ 32 = ((z.bmod (2 ^ 64)) % ((2 ^ 64 : Nat) : Int)) % 2 ^ 32 := (Int.emod_emod_of_dvd _ (by decide)).symm
    rw [h1, h]; exact Int.emod_emod_of_dvd _ (by decide)
  rw [a1, a2, Int.mul_emod, a1, ← Int.mul_emod]
theorem own_bnd (b : Int32) : 1 ≤ ((1 : Int32) + ((b &&& (2147483647 : Int32)) % (2147483647 : Int32))).toInt := by
  have h1 : (b &&& (2147483647 : Int32)).toInt = b.toInt % 2 ^ 31 := Jvm.Kit.i32_mask b 2147483647 (k := 31) (by decide) (by decide)
  have h2 : ((b &&& (2147483647 : Int32)) % (2147483647 : Int32)).toInt = (b &&& (2147483647 : Int32)).toInt % 2147483647 := Jvm.Kit.i32_rem_nonneg (by omega)
  have h3 : ((1 : Int32) + ((b &&& (2147483647 : Int32)) % (2147483647 : Int32))).toInt = (1 : Int32).toInt + ((b &&& (2147483647 : Int32)) % (2147483647 : Int32)).toInt := Jvm.Kit.i32_add (by rw [show (1 : Int32).toInt = 1 from rfl]; omega) (by rw [show (1 : Int32).toInt = 1 from rfl]; omega)
  rw [h3, show (1 : Int32).toInt = 1 from rfl]; omega
/-- what mayRedraw answers: is the low half below the bound -/
theorem own_redraw (D : Int64) (b : Int32) (hb : 1 ≤ b.toInt) : (((((D * b.toInt64) &&& (4294967295 : Int64)) - b.toInt64) < 0)) ↔ (((D * b.toInt64) &&& (4294967295 : Int64)) < b.toInt64) := by
  have h1 : ((D * b.toInt64) &&& (4294967295 : Int64)).toInt = (D * b.toInt64).toInt % 2 ^ 32 := Jvm.Kit.i64_mask _ _ (k := 32) (by decide) (by decide)
  have h2 := Jvm.Kit.i64_of_i32 b
  have h3 := Int32.toInt_lt b
  have h4 : (((D * b.toInt64) &&& (4294967295 : Int64)) - b.toInt64).toInt = ((D * b.toInt64) &&& (4294967295 : Int64)).toInt - b.toInt64.toInt := Jvm.Kit.i64_sub (by omega) (by omega)
  rw [Int64.lt_iff_toInt_lt, Int64.lt_iff_toInt_lt, h4]
  have h0 : (0 : Int64).toInt = 0 := rfl
  omega
theorem d1_0 : decode prog_37_method_13_code 0 = .ok (.lload_n 0, 1) := by decide +kernel
theorem d1_1 : decode prog_37_method_13_code 1 = .ok (.bipush 32, 2) := by decide +kernel
theorem d1_3 : decode prog_37_method_13_code 3 = .ok (.lushr, 1) := by decide +kernel
theorem d1_4 : decode prog_37_method_13_code 4 = .ok (.iload_n 2, 1) := by decide +kernel
theorem d1_5 : decode prog_37_method_13_code 5 = .ok (.i2l, 1) := by decide +kernel
theorem d1_6 : decode prog_37_method_13_code 6 = .ok (.lmul, 1) := by decide +kernel
theorem d1_7 : decode prog_37_method_13_code 7 = .ok (.ldc2_w 47, 3) := by decide +kernel
theorem d1_10 : decode prog_37_method_13_code 10 = .ok (.land, 1) := by decide +kernel
theorem d1_11 : decode prog_37_method_13_code 11 = .ok (.iload_n 2, 1) := by decide +kernel
theorem d1_12 : decode prog_37_method_13_code 12 = .ok (.i2l, 1) := by decide +kernel
theorem d1_13 : decode prog_37_method_13_code 13 = .ok (.lsub, 1) := by decide +kernel
theorem d1_14 : decode prog_37_method_13_code 14 = .ok (.bipush 63, 2) := by decide +kernel
theorem d1_16 : decode prog_37_method_13_code 16 = .ok (.lushr, 1) := by decide +kernel
theorem d1_17 : decode prog_37_method_13_code 17 = .ok (.l2i, 1) := by decide +kernel
theorem d1_18 : decode prog_37_method_13_code 18 = .ok (.ireturn, 1) := by decide +kernel
theorem pn_0 : plainName "com/example/surfeit/surfeit/SplitMix64" = true := by first | (simp [plainName, overriddenIn]; done) | decide +kernel
theorem ef_rm1 (m : MethodId) (p1 : Int64) (p2 : Int32) : entryFrame m #[(.long p1), (.int p2)] 3 = mkF m 0 #[.val (.long p1), .second, .val (.int p2)] [] := by first | (simp [entryFrame, mkF, argsToLocals, Value.category]; done) | rfl
def Q1 (Z : State) (p1 : Int64) (p2 : Int32)  (h0 : Heap) (n0 : Nat) (v : Option Value) (h : Heap) (L : List Loc) : Prop := v = some (.int (if (((p1.toUInt64 >>> ((32 : Int32) &&& 0x3f).toInt64.toUInt64).toInt64 * p2.toInt64) &&& (4294967295 : Int64)) - p2.toInt64 < 0 then (1 : Int32) else 0)) ∧ Fr n0 L ∧ h = h0
set_option maxRecDepth 65536 in
set_option maxHeartbeats 40000000 in
theorem rm1 (l : Launch) (Z : State) (a0 : Array Value) (hw : ∀ d ∈ tables_1, d.before a0 Z = true) (ws : List Jvm.Cond) (p1 : Int64) (p2 : Int32)  (h0 : Heap) (n0 : Nat) (Z0 : n0 ≤ h0.size)  :
    MetFree l (⟨"com/example/surfeit/surfeit/SplitMix64", "mayRedraw", "(JI)I"⟩ : MethodName) (head1 (Jvm.Cond.code (⟨"com/example/surfeit/surfeit/SplitMix64", "mayRedraw", "(JI)I"⟩ : MethodName) prog_37_method_13_code 3 (some .int) :: ws) ({ frames := 0, cells := 0, slots := 0, locals := 0 } : Room)) (fun a U => a = #[(.long p1), (.int p2)] ∧ Z.Warmed39 U.vm ∧ U.heap = h0) (fun _ _ _ _ _ => True) (fun _ U o U' => ∃ v L, o = .returned v ∧ Q1 Z p1 p2  h0 n0 v U'.heap L ∧ FrameEnd U o U' L ({ frames := 0, cells := 0, slots := 0, locals := 0 } : Room).cells ({ frames := 0, cells := 0, slots := 0, locals := 0 } : Room).slots) := by
  refine MetFree.of_bodySF (plainFor_of_name pn_0) hisR ?_
  intro p e s m args below meth c s₁ Bd hml0 hP hK
  obtain ⟨rfl, hZ, hh⟩ := hP
  have hx := Bd.exec
  have hby := Bd.bytes
  have hlk : meth.locks = false := BodyLoose.notSynchronized Bd
  have hret := Bd.returns
  have hml : c.maxLocals = 3 := hml0
  have hown : s.vm.findClass "com/example/surfeit/surfeit/SplitMix64" = some m.cls := findClass_of_methodNamed Bd.named
  have hnm := (name_of_methodNamed Bd.named Bd.method).1
  have X0 : Stand p l e ({ frames := 0, cells := 0, slots := 0, locals := 0 } : Room) s m #[(.long p1), (.int p2)] below meth c s₁ [] 0 0 := Stand.of_body Bd
  have e0 : s₁.heap = h0 := by rw [← hh, Bd.state]; rfl
  have N0 := Fr.nil n0
  show own_Ends p e below s 0 0 (Q1 Z p1 p2  h0 n0) (s₁.setTop (entryFrame m #[(.long p1), (.int p2)] 3))
  refine own_step (fun t k => castTop (ef_rm1 m p1 p2) k) ?_
  show own_Ends p e below s _ _ _ (s₁.setTop (mkF m 0 #[.val (.long p1), .second, .val (.int p2)] []))
  refine own_step (fun _ k => XS.lloadN X0.here hx rfl (hb hby d1_0) rfl (XS.bipush X0.here hx rfl (hb hby d1_1) (XS.lushr X0.here hx rfl (hb hby d1_3) rfl (XS.iloadN X0.here hx rfl (hb hby d1_4) rfl (XS.i2l X0.here hx rfl (hb hby d1_5) rfl (XS.lmul X0.here hx rfl (hb hby d1_6) rfl (X0.ldc2J hx hown (mvT hZ (hw _ (List.mem_of_getElem? (i := 6) rfl))) rfl (hb hby d1_7) (XS.land X0.here hx rfl (hb hby d1_10) rfl k)))))))) ?_
  show own_Ends p e below s _ _ _ (s₁.setTop (mkF m 11 #[.val (.long p1), .second, .val (.int p2)] [(.long ((((p1.toUInt64 >>> ((32 : Int32) &&& 0x3f).toInt64.toUInt64).toInt64) * (p2.toInt64)) &&& (4294967295 : Int64)))]))
  refine own_step (fun _ k => XS.iloadN X0.here hx rfl (hb hby d1_11) rfl (XS.i2l X0.here hx rfl (hb hby d1_12) rfl (XS.lsub X0.here hx rfl (hb hby d1_13) rfl (XS.bipush X0.here hx rfl (hb hby d1_14) (XS.lushr X0.here hx rfl (hb hby d1_16) rfl (XS.l2i X0.here hx rfl (hb hby d1_17) rfl k)))))) ?_
  show own_Ends p e below s _ _ _ (s₁.setTop (mkF m 18 #[.val (.long p1), .second, .val (.int p2)] [(.int ((((((((p1.toUInt64 >>> ((32 : Int32) &&& 0x3f).toInt64.toUInt64).toInt64) * (p2.toInt64)) &&& (4294967295 : Int64)) - (p2.toInt64)).toUInt64 >>> ((63 : Int32) &&& 0x3f).toInt64.toUInt64).toInt64).toInt32))]))
  exact own_retI X0 hx hret hlk (hb hby d1_18) (by decide) (by decide) ⟨by rw [own_top], N0, e0⟩
theorem pn_1 : plainName "com/example/surfeit/surfeit/SplitMix64MayRedrawPinLaw" = true := by first | (simp [plainName, overriddenIn]; done) | decide +kernel
theorem pd_0 : parseMethodDescriptor "(JI)I" = some ⟨[.long, .int], some .int⟩ := by decide +kernel
theorem ef_rm0 (m : MethodId) (p1 : Int64) (p2 : Int32) : entryFrame m #[(.long p1), (.int p2)] maxLocals = mkF m 0 #[.val (.long p1), .second, .val (.int p2), .unset, .unset, .unset, .unset, .unset, .unset] [] := by first | (simp [entryFrame, mkF, argsToLocals, Value.category, maxLocals]; done) | rfl
def Q0 (Z : State) (p1 : Int64) (p2 : Int32)  (h0 : Heap) (n0 : Nat) (v : Option Value) (h : Heap) (L : List Loc) : Prop := v = some (.int (1 : Int32)) ∧ Fr n0 L
set_option maxRecDepth 65536 in
set_option maxHeartbeats 40000000 in
theorem rm0 (l : Launch) (Z : State) (a0 : Array Value) (hw : ∀ d ∈ tables_1, d.before a0 Z = true) (ws : List Jvm.Cond) (p1 : Int64) (p2 : Int32)  (h0 : Heap) (n0 : Nat) (Z0 : n0 ≤ h0.size)  :
    MetFree l x (head1 (Jvm.Cond.code x code maxLocals ret :: ws) room_1) (fun a U => a = #[(.long p1), (.int p2)] ∧ Z.Warmed39 U.vm ∧ U.heap = h0) (fun _ _ _ _ _ => True) (fun _ U o U' => ∃ v L, o = .returned v ∧ Q0 Z p1 p2  h0 n0 v U'.heap L ∧ FrameEnd U o U' L room_1.cells room_1.slots) := by
  refine MetFree.of_bodySF (plainFor_of_name pn_1) hisR ?_
  intro p e s m args below meth c s₁ Bd hml0 hP hK
  obtain ⟨rfl, hZ, hh⟩ := hP
  have hx := Bd.exec
  have hby := Bd.bytes
  have hlk : meth.locks = false := BodyLoose.notSynchronized Bd
  have hret := Bd.returns
  have hml : c.maxLocals = 9 := hml0
  have hown : s.vm.findClass "com/example/surfeit/surfeit/SplitMix64MayRedrawPinLaw" = some m.cls := findClass_of_methodNamed Bd.named
  have hnm := (name_of_methodNamed Bd.named Bd.method).1
  have X0 : Stand p l e room_1 s m #[(.long p1), (.int p2)] below meth c s₁ [] 0 0 := Stand.of_body Bd
  have e0 : s₁.heap = h0 := by rw [← hh, Bd.state]; rfl
  have N0 := Fr.nil n0
  show own_Ends p e below s 0 0 (Q0 Z p1 p2  h0 n0) (s₁.setTop (entryFrame m #[(.long p1), (.int p2)] maxLocals))
  refine own_step (fun t k => castTop (ef_rm0 m p1 p2) k) ?_
  show own_Ends p e below s _ _ _ (s₁.setTop (mkF m 0 #[.val (.long p1), .second, .val (.int p2), .unset, .unset, .unset, .unset, .unset, .unset] []))
  refine own_step (fun _ k => XS.iconst X0.here hx rfl (hb hby at_0) (XS.iloadN X0.here hx rfl (hb hby at_1) rfl (X0.ldcI hx hown (mvT hZ (hw _ (List.mem_of_getElem? (i := 0) rfl))) rfl (hb hby at_2) (XS.iand X0.here hx rfl (hb hby at_4) rfl (X0.ldcI hx hown (mvT hZ (hw _ (List.mem_of_getElem? (i := 0) rfl))) rfl (hb hby at_5) (Jvm.RoadKit.iremM X0 hx rfl (hb hby at_7) rfl (by decide) (XS.iadd X0.here hx rfl (hb hby at_8) rfl (XS.istoreN X0.here hx rfl (hb hby at_9) rfl (l' := #[.val (.long p1), .second, .val (.int p2), .val (.int ((1 : Int32) + ((p2 &&& (2147483647 : Int32)) % (2147483647 : Int32)))), .unset, .unset, .unset, .unset, .unset]) rfl k)))))))) ?_
  show own_Ends p e below s _ _ _ (s₁.setTop (mkF m 10 #[.val (.long p1), .second, .val (.int p2), .val (.int ((1 : Int32) + ((p2 &&& (2147483647 : Int32)) % (2147483647 : Int32)))), .unset, .unset, .unset, .unset, .unset] []))
  generalize hbd : ((1 : Int32) + ((p2 &&& (2147483647 : Int32)) % (2147483647 : Int32))) = bd
  show own_Ends p e below s _ _ _ (s₁.setTop (mkF m 10 #[.val (.long p1), .second, .val (.int p2), .val (.int bd), .unset, .unset, .unset, .unset, .unset] []))
  have hbd1 : 1 ≤ bd.toInt := by rw [← hbd]; exact own_bnd p2
  refine own_step (fun _ k => XS.lloadN X0.here hx rfl (hb hby at_10) rfl (XS.bipush X0.here hx rfl (hb hby at_11) (XS.lushr X0.here hx rfl (hb hby at_13) rfl (XS.l2i X0.here hx rfl (hb hby at_14) rfl (XS.istore X0.here hx rfl (hb hby at_15) rfl (l' := #[.val (.long p1), .second, .val (.int p2), .val (.int bd), .val (.int (((p1.toUInt64 >>> ((32 : Int32) &&& 0x3f).toInt64.toUInt64).toInt64).toInt32)), .unset, .unset, .unset, .unset]) rfl (XS.iload X0.here hx rfl (hb hby at_17) rfl (XS.iloadN X0.here hx rfl (hb hby at_19) rfl (XS.imul X0.here hx rfl (hb hby at_20) rfl k)))))))) ?_
  show own_Ends p e below s _ _ _ (s₁.setTop (mkF m 21 #[.val (.long p1), .second, .val (.int p2), .val (.int bd), .val (.int (((p1.toUInt64 >>> ((32 : Int32) &&& 0x3f).toInt64.toUInt64).toInt64).toInt32)), .unset, .unset, .unset, .unset] [(.int ((((p1.toUInt64 >>> ((32 : Int32) &&& 0x3f).toInt64.toUInt64).toInt64).toInt32) * bd))]))
  refine own_step (fun _ k => XS.istore X0.here hx rfl (hb hby at_21) rfl (l' := #[.val (.long p1), .second, .val (.int p2), .val (.int bd), .val (.int (((p1.toUInt64 >>> ((32 : Int32) &&& 0x3f).toInt64.toUInt64).toInt64).toInt32)), .val (.int ((((p1.toUInt64 >>> ((32 : Int32) &&& 0x3f).toInt64.toUInt64).toInt64).toInt32) * bd)), .unset, .unset, .unset]) rfl (XS.iload X0.here hx rfl (hb hby at_23) rfl (XS.i2l X0.here hx rfl (hb hby at_25) rfl (X0.ldc2J hx hown (mvT hZ (hw _ (List.mem_of_getElem? (i := 1) rfl))) rfl (hb hby at_26) (XS.land X0.here hx rfl (hb hby at_29) rfl (XS.lstore X0.here hx rfl (hb hby at_30) rfl (l' := #[.val (.long p1), .second, .val (.int p2), .val (.int bd), .val (.int (((p1.toUInt64 >>> ((32 : Int32) &&& 0x3f).toInt64.toUInt64).toInt64).toInt32)), .val (.int ((((p1.toUInt64 >>> ((32 : Int32) &&& 0x3f).toInt64.toUInt64).toInt64).toInt32) * bd)), .val (.long ((((((p1.toUInt64 >>> ((32 : Int32) &&& 0x3f).toInt64.toUInt64).toInt64).toInt32) * bd).toInt64) &&& (4294967295 : Int64))), .second, .unset]) rfl k)))))) ?_
  show own_Ends p e below s _ _ _ (s₁.setTop (mkF m 32 #[.val (.long p1), .second, .val (.int p2), .val (.int bd), .val (.int (((p1.toUInt64 >>> ((32 : Int32) &&& 0x3f).toInt64.toUInt64).toInt64).toInt32)), .val (.int ((((p1.toUInt64 >>> ((32 : Int32) &&& 0x3f).toInt64.toUInt64).toInt64).toInt32) * bd)), .val (.long ((((((p1.toUInt64 >>> ((32 : Int32) &&& 0x3f).toInt64.toUInt64).toInt64).toInt32) * bd).toInt64) &&& (4294967295 : Int64))), .second, .unset] []))
  generalize hlo : ((((((p1.toUInt64 >>> ((32 : Int32) &&& 0x3f).toInt64.toUInt64).toInt64).toInt32) * bd).toInt64) &&& (4294967295 : Int64)) = lo
  show own_Ends p e below s _ _ _ (s₁.setTop (mkF m 32 #[.val (.long p1), .second, .val (.int p2), .val (.int bd), .val (.int (((p1.toUInt64 >>> ((32 : Int32) &&& 0x3f).toInt64.toUInt64).toInt64).toInt32)), .val (.int ((((p1.toUInt64 >>> ((32 : Int32) &&& 0x3f).toInt64.toUInt64).toInt64).toInt32) * bd)), .val (.long lo), .second, .unset] []))
  refine own_step (fun _ k => XS.lload X0.here hx rfl (hb hby at_32) rfl (XS.iloadN X0.here hx rfl (hb hby at_34) rfl (XS.i2l X0.here hx rfl (hb hby at_35) rfl (XT.lcmp X0.here hx rfl (hb hby at_36) rfl k)))) ?_
  show own_Ends p e below s _ _ _ (s₁.setTop (mkF m 37 #[.val (.long p1), .second, .val (.int p2), .val (.int bd), .val (.int (((p1.toUInt64 >>> ((32 : Int32) &&& 0x3f).toInt64.toUInt64).toInt64).toInt32)), .val (.int ((((p1.toUInt64 >>> ((32 : Int32) &&& 0x3f).toInt64.toUInt64).toInt64).toInt32) * bd)), .val (.long lo), .second, .unset] [(.int (XT.cmpL lo (bd.toInt64)))]))
  by_cases hc37 : lo < (bd.toInt64)
  · refine own_step (fun _ k => XS.ifNo X0.here hx rfl (hb hby at_37) rfl (XT.ll_ge_f hc37) (XS.iconst X0.here hx rfl (hb hby at_40) (XS.istore X0.here hx rfl (hb hby at_41) rfl (l' := #[.val (.long p1), .second, .val (.int p2), .val (.int bd), .val (.int (((p1.toUInt64 >>> ((32 : Int32) &&& 0x3f).toInt64.toUInt64).toInt64).toInt32)), .val (.int ((((p1.toUInt64 >>> ((32 : Int32) &&& 0x3f).toInt64.toUInt64).toInt64).toInt32) * bd)), .val (.long lo), .second, .val (.int (1 : Int32))]) rfl (XS.goto X0.here hx rfl (pc0 := 43) (pc' := 49) rfl (hb hby at_43) (by decide) (by decide) (XS.lloadN X0.here hx rfl (hb hby at_49) rfl (XS.iloadN X0.here hx rfl (hb hby at_50) rfl k)))))) ?_
    show own_Ends p e below s _ _ _ (s₁.setTop (mkF m 51 #[.val (.long p1), .second, .val (.int p2), .val (.int bd), .val (.int (((p1.toUInt64 >>> ((32 : Int32) &&& 0x3f).toInt64.toUInt64).toInt64).toInt32)), .val (.int ((((p1.toUInt64 >>> ((32 : Int32) &&& 0x3f).toInt64.toUInt64).toInt64).toInt32) * bd)), .val (.long lo), .second, .val (.int (1 : Int32))] [(.int bd), (.long p1)]))
    obtain ⟨_, _, ⟨T1, L1, k1, n1⟩, -, X1, ⟨Lc1, hQ1, l1, y1, z1⟩, st1⟩ := Jvm.LawKit.callS X0 hx (y := (⟨"com/example/surfeit/surfeit/SplitMix64", "mayRedraw", "(JI)I"⟩ : MethodName)) hown (mvT hZ (hw _ (List.mem_of_getElem? (i := 2) rfl))) (mvT hZ (hw _ (List.mem_of_getElem? (i := 3) rfl))) (mvT hZ (hw _ (List.mem_of_getElem? (i := 4) rfl))) (mvT hZ (hw _ (List.mem_of_getElem? (i := 5) rfl))) (by decide) (backOf (W := 0) (rm1 l Z a0 hw [] p1 bd  h0 n0 Z0 ) hZ (hw _ (List.mem_of_getElem? (i := 5) rfl)) (hw _ (List.mem_of_getElem? (i := 4) rfl)) (by decide) (by decide)) (g := (mkF m 51 #[.val (.long p1), .second, .val (.int p2), .val (.int bd), .val (.int (((p1.toUInt64 >>> ((32 : Int32) &&& 0x3f).toInt64.toUInt64).toInt64).toInt32)), .val (.int ((((p1.toUInt64 >>> ((32 : Int32) &&& 0x3f).toInt64.toUInt64).toInt64).toInt32) * bd)), .val (.long lo), .second, .val (.int (1 : Int32))] [(.int bd), (.long p1)])) rfl (by rw [hml]; rfl) (argsL := [(.long p1), (.int bd)]) (rest := []) (lenOf pd_0 rfl) rfl (by show 2 * 0 + _ ≤ _; exact Nat.le_of_eq rfl) (hb hby at_51) (fun _ _ => ⟨rfl, e0, (by decide : 0 + 0 ≤ _), (by decide : 0 + 0 ≤ _)⟩)
    dsimp only [Pt.U, Pt.locs, Pt.cells, Pt.slots] at X1 l1 y1 z1 st1 hQ1
    subst l1 y1 z1
    obtain ⟨rfl, N1q, e1⟩ := hQ1
    have e1h : T1.heap = h0 := e1
    have N1 := Fr.app N0 N1q
    refine own_step (fun _ k => st1 _ k) ?_
    show own_Ends p e below s _ _ _ (T1.setTop (mkF m 54 #[.val (.long p1), .second, .val (.int p2), .val (.int bd), .val (.int (((p1.toUInt64 >>> ((32 : Int32) &&& 0x3f).toInt64.toUInt64).toInt64).toInt32)), .val (.int ((((p1.toUInt64 >>> ((32 : Int32) &&& 0x3f).toInt64.toUInt64).toInt64).toInt32) * bd)), .val (.long lo), .second, .val (.int (1 : Int32))] [(.int (if (((p1.toUInt64 >>> ((32 : Int32) &&& 0x3f).toInt64.toUInt64).toInt64 * bd.toInt64) &&& (4294967295 : Int64)) - bd.toInt64 < 0 then (1 : Int32) else 0))]))
    refine own_step (fun _ k => XS.iload X1.here hx rfl (hb hby at_54) rfl (XS.icmpNo X1.here hx rfl (hb hby at_56) rfl (XT.ii_ne_f (by first | (rw [if_pos ((own_redraw _ bd hbd1).mpr (by rw [← own_low, hlo]; exact hc37))]) | (rw [if_neg (fun q => hc37 (by rw [← hlo, own_low]; exact (own_redraw _ bd hbd1).mp q))]) : (if (((p1.toUInt64 >>> ((32 : Int32) &&& 0x3f).toInt64.toUInt64).toInt64 * bd.toInt64) &&& (4294967295 : Int64)) - bd.toInt64 < 0 then (1 : Int32) else 0) = (1 : Int32))) (XS.iconst X1.here hx rfl (hb hby at_59) (XS.goto X1.here hx rfl (pc0 := 60) (pc' := 64) rfl (hb hby at_60) (by decide) (by decide) k)))) ?_
    show own_Ends p e below s _ _ _ (T1.setTop (mkF m 64 #[.val (.long p1), .second, .val (.int p2), .val (.int bd), .val (.int (((p1.toUInt64 >>> ((32 : Int32) &&& 0x3f).toInt64.toUInt64).toInt64).toInt32)), .val (.int ((((p1.toUInt64 >>> ((32 : Int32) &&& 0x3f).toInt64.toUInt64).toInt64).toInt32) * bd)), .val (.long lo), .second, .val (.int (1 : Int32))] [(.int (1 : Int32))]))
    exact own_retN X1 hx (t := .boolean) hret (by simp) hlk (hb hby at_64) (by decide) (by decide) rfl ⟨rfl, N1⟩
  · refine own_step (fun _ k => XS.ifYes X0.here hx rfl (pc0 := 37) (pc' := 46) rfl (hb hby at_37) rfl (XT.ll_ge_t hc37) (by decide) (by decide) (XS.iconst X0.here hx rfl (hb hby at_46) (XS.istore X0.here hx rfl (hb hby at_47) rfl (l' := #[.val (.long p1), .second, .val (.int p2), .val (.int bd), .val (.int (((p1.toUInt64 >>> ((32 : Int32) &&& 0x3f).toInt64.toUInt64).toInt64).toInt32)), .val (.int ((((p1.toUInt64 >>> ((32 : Int32) &&& 0x3f).toInt64.toUInt64).toInt64).toInt32) * bd)), .val (.long lo), .second, .val (.int (0 : Int32))]) rfl (XS.lloadN X0.here hx rfl (hb hby at_49) rfl (XS.iloadN X0.here hx rfl (hb hby at_50) rfl k))))) ?_
    show own_Ends p e below s _ _ _ (s₁.setTop (mkF m 51 #[.val (.long p1), .second, .val (.int p2), .val (.int bd), .val (.int (((p1.toUInt64 >>> ((32 : Int32) &&& 0x3f).toInt64.toUInt64).toInt64).toInt32)), .val (.int ((((p1.toUInt64 >>> ((32 : Int32) &&& 0x3f).toInt64.toUInt64).toInt64).toInt32) * bd)), .val (.long lo), .second, .val (.int (0 : Int32))] [(.int bd), (.long p1)]))
    obtain ⟨_, _, ⟨T2, L2, k2, n2⟩, -, X2, ⟨Lc2, hQ2, l2, y2, z2⟩, st2⟩ := Jvm.LawKit.callS X0 hx (y := (⟨"com/example/surfeit/surfeit/SplitMix64", "mayRedraw", "(JI)I"⟩ : MethodName)) hown (mvT hZ (hw _ (List.mem_of_getElem? (i := 2) rfl))) (mvT hZ (hw _ (List.mem_of_getElem? (i := 3) rfl))) (mvT hZ (hw _ (List.mem_of_getElem? (i := 4) rfl))) (mvT hZ (hw _ (List.mem_of_getElem? (i := 5) rfl))) (by decide) (backOf (W := 0) (rm1 l Z a0 hw [] p1 bd  h0 n0 Z0 ) hZ (hw _ (List.mem_of_getElem? (i := 5) rfl)) (hw _ (List.mem_of_getElem? (i := 4) rfl)) (by decide) (by decide)) (g := (mkF m 51 #[.val (.long p1), .second, .val (.int p2), .val (.int bd), .val (.int (((p1.toUInt64 >>> ((32 : Int32) &&& 0x3f).toInt64.toUInt64).toInt64).toInt32)), .val (.int ((((p1.toUInt64 >>> ((32 : Int32) &&& 0x3f).toInt64.toUInt64).toInt64).toInt32) * bd)), .val (.long lo), .second, .val (.int (0 : Int32))] [(.int bd), (.long p1)])) rfl (by rw [hml]; rfl) (argsL := [(.long p1), (.int bd)]) (rest := []) (lenOf pd_0 rfl) rfl (by show 2 * 0 + _ ≤ _; exact Nat.le_of_eq rfl) (hb hby at_51) (fun _ _ => ⟨rfl, e0, (by decide : 0 + 0 ≤ _), (by decide : 0 + 0 ≤ _)⟩)
    dsimp only [Pt.U, Pt.locs, Pt.cells, Pt.slots] at X2 l2 y2 z2 st2 hQ2
    subst l2 y2 z2
    obtain ⟨rfl, N2q, e2⟩ := hQ2
    have e2h : T2.heap = h0 := e2
    have N2 := Fr.app N0 N2q
    refine own_step (fun _ k => st2 _ k) ?_
    show own_Ends p e below s _ _ _ (T2.setTop (mkF m 54 #[.val (.long p1), .second, .val (.int p2), .val (.int bd), .val (.int (((p1.toUInt64 >>> ((32 : Int32) &&& 0x3f).toInt64.toUInt64).toInt64).toInt32)), .val (.int ((((p1.toUInt64 >>> ((32 : Int32) &&& 0x3f).toInt64.toUInt64).toInt64).toInt32) * bd)), .val (.long lo), .second, .val (.int (0 : Int32))] [(.int (if (((p1.toUInt64 >>> ((32 : Int32) &&& 0x3f).toInt64.toUInt64).toInt64 * bd.toInt64) &&& (4294967295 : Int64)) - bd.toInt64 < 0 then (1 : Int32) else 0))]))
    refine own_step (fun _ k => XS.iload X2.here hx rfl (hb hby at_54) rfl (XS.icmpNo X2.here hx rfl (hb hby at_56) rfl (XT.ii_ne_f (by first | (rw [if_pos ((own_redraw _ bd hbd1).mpr (by rw [← own_low, hlo]; exact hc37))]) | (rw [if_neg (fun q => hc37 (by rw [← hlo, own_low]; exact (own_redraw _ bd hbd1).mp q))]) : (if (((p1.toUInt64 >>> ((32 : Int32) &&& 0x3f).toInt64.toUInt64).toInt64 * bd.toInt64) &&& (4294967295 : Int64)) - bd.toInt64 < 0 then (1 : Int32) else 0) = (0 : Int32))) (XS.iconst X2.here hx rfl (hb hby at_59) (XS.goto X2.here hx rfl (pc0 := 60) (pc' := 64) rfl (hb hby at_60) (by decide) (by decide) k)))) ?_
    show own_Ends p e below s _ _ _ (T2.setTop (mkF m 64 #[.val (.long p1), .second, .val (.int p2), .val (.int bd), .val (.int (((p1.toUInt64 >>> ((32 : Int32) &&& 0x3f).toInt64.toUInt64).toInt64).toInt32)), .val (.int ((((p1.toUInt64 >>> ((32 : Int32) &&& 0x3f).toInt64.toUInt64).toInt64).toInt32) * bd)), .val (.long lo), .second, .val (.int (0 : Int32))] [(.int (1 : Int32))]))
    exact own_retN X2 hx (t := .boolean) hret (by simp) hlk (hb hby at_64) (by decide) (by decide) rfl ⟨rfl, N2⟩
set_option maxRecDepth 65536 in
set_option maxHeartbeats 40000000 in
theorem comes_1 {Post : Tables → Env → Array Value → State → Outcome → State → Prop} (hpost : ∀ tb e args s v u, (limb_1_1.after args s (.returned v) u = true ∧ limb_1_2.after args s (.returned v) u = true ∧ True) → FrameEnd s (.returned v) u (Jvm.fieldLocs frame_1_writes args s ++ Jvm.arrayLocs frame_1_arrays args s ++ Jvm.staticLocs frame_1_statics s) 0 0 → Post tb e args s (.returned v) u) :
    ArmFor flags0 classFile x code maxLocals ret World_1 tables_1 room_1 Calls_1 rest_1 Pre_1 Post := by
  intro l hfl _ _ p e ha hc hk s m args below hf hA hF happ hP
  obtain ⟨hcalls, hrest, hpre⟩ := hP
  obtain ⟨-, -, -, hnamed, -, -, -, hat⟩ := (Spec.applies_iff hf).mp happ
  obtain ⟨hg, hn⟩ := and_e (Cond.before_iff.mp (show (Jvm.Cond.and given_1 narrow_1).before args s = true from hpre))
  obtain ⟨g_c, g_0⟩ := and_e hg
  obtain ⟨w0, w1, rfl⟩ : ∃ w0 w1 : Value, args = #[w0, w1] := by
    have hs : args.size = 2 := by simpa [Cond.value, given_1] using g_c
    obtain ⟨L⟩ := args
    match L, hs with
    | [w0, w1], _ => exact ⟨w0, w1, rfl⟩
  have hw := fun d (hd : d ∈ tables_1) => atoms_spec (ws := Jvm.Cond.code x code maxLocals ret :: tables_1) hat d (List.mem_cons_of_mem _ hd)
  obtain ⟨g_v0, g_1⟩ := and_e g_0
  obtain ⟨i0, ei0⟩ := isL_v g_v0
  obtain rfl : w0 = (.long i0) := Option.some.inj ei0
  obtain ⟨i1, ei1⟩ := is_v g_1
  obtain rfl : w1 = (.int i1) := Option.some.inj ei1
  obtain ⟨n, o, h1, h2, h3, _, L, rfl, ⟨rfl, N⟩, hq⟩ := rm0 l s _ hw tables_1 i0 i1  s.heap s.heap.size (Nat.le_refl _) p e ha hc hk s m _ below hf ((Spec.applies_iff_loose hf).mp happ).1 ⟨rfl, State.Warmed39.refl s, rfl⟩ trivial
  refine ⟨n, _, h1, h2, h3, hpost _ _ _ _ _ _ ⟨Cond.after_iff.mpr rfl, Cond.after_iff.mpr (eq_i res_at (Term.int_eval (1)) rfl), trivial⟩ ⟨hq.1, hq.2.1, (hq.2.2.sift fun y hy => Or.inr (N y hy)).mono (by decide) (by decide)⟩⟩
theorem main_1_1 : Claimed_1_1 := comes_1 fun _ _ _ _ _ _ h hF => ⟨h.1, hF⟩
theorem main_1_2 : Claimed_1_2 := comes_1 fun _ _ _ _ _ _ h hF => ⟨h.2.1, hF⟩
end Jvm.Pilot.@@N@@
namespace Jvm.Pilot.@@N@@
open Jvm Jvm.ClassFile Sem Op Lib Jvm.Free Jvm.Stand Jvm.Pilot.@@N@@.Jvm.D
/-! MADE BY PROGRAM (witnessworld.py) out of the Statement's table words and the real class files: 9 classes; the members and pool entries that the words name. The judged class is class 1, her method 1. -/
namespace start1
open Jvm.ClassFile
def u (s : String) : CpInfo := .utf8 (stringToUtf16 s)
/-- a pool by its gaps: so many unusable entries, then the entry; so many at the end -/
def gap : Nat → List CpInfo → List CpInfo
  | 0, r => r
  | n + 1, r => .unusable :: gap n r
def poolList (es : List (Nat × CpInfo)) (last : Nat) : List CpInfo := es.foldr (fun e r => gap e.1 (e.2 :: r)) (gap last [])
def pool (es : List (Nat × CpInfo)) (last : Nat) : Array CpInfo := ⟨poolList es last⟩
def fileOf (pool : Array CpInfo) (this : Nat) (attrs : Array Attribute := #[]) (ms : Array MethodInfo := #[]) (fl : Nat := 33) (sup : Nat := 0) (ifs : Array Nat := #[]) (fds : Array FieldInfo := #[]) : ClassFile where
  minorVersion := 0
  majorVersion := 65
  constantPool := pool
  accessFlags := fl
  thisClass := this
  superClass := sup
  interfaces := ifs
  fields := fds
  methods := ms
  attributes := attrs
def plain (name : String) (sup : Option ClassId) : Class where
  name := name
  kind := .ordinary
  loader := none
  accessFlags := 33
  super := sup
  interfaces := #[]
  cf := none
  fields := #[]
  methods := #[]
  instanceTypes := #[]
  staticTypes := #[]
  resolved := #[]
  callSites := []
  init := .initialized
  statics := none
  mirror := none

def pool0 : Array CpInfo := pool [(5, u "<init>"), (0, u "()V"), (1, .class_ 10), (1, u "java/lang/Object")] 113

def k0m0 : Method := { name := "<init>", desc := "()V", sig := { parameters := [], returnType := none }, accessFlags := 1, code := none }
/-- java/lang/Object -/
def k0 : Class := { plain "java/lang/Object" none with
  accessFlags := 33
  interfaces := #[]
  cf := some (fileOf pool0 8 #[] #[{ accessFlags := 1, nameIndex := 5, descriptorIndex := 6, attributes := #[] }] 33 0 #[] #[])
  fields := #[]
  methods := #[k0m0]
  instanceTypes := #[]
  staticTypes := #[]
  resolved := Array.replicate 124 none
  statics := none }

def pool1 : Array CpInfo := pool [(2, .class_ 4), (1, u "java/lang/Object"), (0, u "<init>"), (0, u "()V"), (0, .integer 2147483647), (0, .long 4294967295), (1, .methodref 11 12), (0, .class_ 13), (0, .nameAndType 14 15), (0, u "com/example/surfeit/surfeit/SplitMix64"), (0, u "mayRedraw"), (0, u "(JI)I"), (0, .class_ 17), (0, u "com/example/surfeit/surfeit/SplitMix64MayRedrawPinLaw"), (2, u "law"), (0, u "(JI)Z")] 3

def k1m0 : Method := { name := "<init>", desc := "()V", sig := { parameters := [], returnType := none }, accessFlags := 1, code := none }
def k1c1 : Code := { maxStack := 4, maxLocals := 9, code := code, exceptionTable := #[], attributes := #[] }
def k1m1 : Method := { name := "law", desc := "(JI)Z", sig := { parameters := [.long, .int], returnType := some .boolean }, accessFlags := 9, code := some k1c1 }
/-- com/example/surfeit/surfeit/SplitMix64MayRedrawPinLaw -/
def k1 : Class := { plain "com/example/surfeit/surfeit/SplitMix64MayRedrawPinLaw" (some 0) with
  accessFlags := 49
  interfaces := #[]
  cf := some (fileOf pool1 16 #[] #[{ accessFlags := 1, nameIndex := 5, descriptorIndex := 6, attributes := #[] }, { accessFlags := 9, nameIndex := 20, descriptorIndex := 21, attributes := #[] }] 49 2 #[] #[])
  fields := #[]
  methods := #[k1m0, k1m1]
  instanceTypes := #[]
  staticTypes := #[]
  resolved := Array.replicate 25 none
  statics := none }

def pool2 : Array CpInfo := pool [(2, .class_ 4), (1, u "java/lang/Object"), (3, .class_ 10), (1, u "com/example/surfeit/surfeit/SplitMix64"), (0, u "state"), (0, u "J"), (33, u "(JI)I"), (0, .long 4294967295), (3, u "GAMMA"), (1, u "LOW_32"), (14, u "mayRedraw")] 3

def k2c0 : Code := { maxStack := 4, maxLocals := 3, code := prog_37_method_13_code, exceptionTable := #[], attributes := #[] }
def k2m0 : Method := { name := "mayRedraw", desc := "(JI)I", sig := { parameters := [.long, .int], returnType := some .int }, accessFlags := 8, code := some k2c0 }
/-- com/example/surfeit/surfeit/SplitMix64 -/
def k2 : Class := { plain "com/example/surfeit/surfeit/SplitMix64" (some 0) with
  accessFlags := 32
  interfaces := #[]
  cf := some (fileOf pool2 8 #[] #[{ accessFlags := 8, nameIndex := 68, descriptorIndex := 46, attributes := #[] }] 32 2 #[] #[{ accessFlags := 26, nameIndex := 51, descriptorIndex := 12, attributes := #[] }, { accessFlags := 26, nameIndex := 53, descriptorIndex := 12, attributes := #[] }, { accessFlags := 2, nameIndex := 11, descriptorIndex := 12, attributes := #[] }])
  fields := #[{ name := "GAMMA", type := .long, accessFlags := 26, slot := 0, constantValue := 0 }, { name := "LOW_32", type := .long, accessFlags := 26, slot := 1, constantValue := 0 }, { name := "state", type := .long, accessFlags := 2, slot := 0, constantValue := 0 }]
  methods := #[k2m0]
  instanceTypes := #[.long]
  staticTypes := #[.long, .long]
  resolved := Array.replicate 72 none
  statics := none }

def pool3 : Array CpInfo := pool [(1, u "java/lang/Cloneable"), (0, .class_ 1), (0, u "java/lang/Object"), (0, .class_ 3)] 3

/-- java/lang/Cloneable -/
def k3 : Class := { plain "java/lang/Cloneable" (some 0) with
  accessFlags := 1537
  interfaces := #[]
  cf := some (fileOf pool3 2 #[] #[] 1537 4 #[] #[])
  fields := #[]
  methods := #[]
  instanceTypes := #[]
  staticTypes := #[]
  resolved := Array.replicate 8 none
  statics := none }

def pool4 : Array CpInfo := pool [(1, u "java/io/Serializable"), (0, .class_ 1), (0, u "java/lang/Object"), (0, .class_ 3)] 3

/-- java/io/Serializable -/
def k4 : Class := { plain "java/io/Serializable" (some 0) with
  accessFlags := 1537
  interfaces := #[]
  cf := some (fileOf pool4 2 #[] #[] 1537 4 #[] #[])
  fields := #[]
  methods := #[]
  instanceTypes := #[]
  staticTypes := #[]
  resolved := Array.replicate 8 none
  statics := none }

/-- the primitive byte -/
def k5 : Class := { plain "byte" none with kind := .primitive 'B', accessFlags := 0x411 }
/-- [B -/
def k6 : Class := { plain "[B" (some 0) with kind := .array 5 .byte, interfaces := #[3, 4], accessFlags := 1041 }

/-- the primitive int -/
def k7 : Class := { plain "int" none with kind := .primitive 'I', accessFlags := 0x411 }
/-- [I -/
def k8 : Class := { plain "[I" (some 0) with kind := .array 7 .int, interfaces := #[3, 4], accessFlags := 1041 }

def heap : Heap := #[]
def classes : Array Class := #[k0, k1, k2, k3, k4, k5, k6, k7, k8]
def interned : List (Array UInt16 × Addr) := []
def slotsUsed : Nat := 0
def theMethod : MethodId := ⟨1, 1⟩
def args0 : Array Value := #[.long 5, .int 7]
def aboutOver (below : List Frame) : State where
  vm := { classes := classes, interned := interned.toArray }
  heap := heap
  slotsUsed := slotsUsed
  threads := #[{ frames := .invoking theMethod args0 :: below }]
def below0 : List Frame := [.native { method := ⟨0, 0⟩, args := #[] }]
def about1 : State := aboutOver below0
def p0 : Program := .bare "" "" ""
def e0 : Env := launch0.env 0 0 0
theorem w_frames : about1.frames = Frame.invoking theMethod args0 :: below0 := rfl
set_option maxRecDepth 65536 in
theorem w_args : argsFit about1.vm theMethod args0 = true := by decide +kernel
set_option maxRecDepth 65536 in
theorem w_heap : heapFits about1 = true := by decide +kernel
set_option maxRecDepth 65536 in
theorem w_runnable : about1.curStatus? = some .runnable := by decide +kernel
set_option maxRecDepth 65536 in
theorem w_alone : about1.alone = true := by decide +kernel
set_option maxRecDepth 65536 in
theorem w_named : about1.methodNamed? x = some theMethod := by decide +kernel
set_option maxRecDepth 65536 in
theorem w_hears : about1.hears theMethod below0 = true := by decide +kernel
set_option maxRecDepth 65536 in
theorem w_ripe : about1.ripe theMethod args0 below0 = true := by decide +kernel
theorem w_running : about1.status = .running := rfl
set_option maxRecDepth 65536 in
theorem w_room : about1.hasRoom e0.platform room_1 = true :=
  launch0.hasRoom_least _ room_1 (by decide +kernel) (by decide +kernel) (by decide +kernel) (by decide +kernel) (by decide +kernel) (by decide +kernel)
theorem allAtoms_all (ts : List Jvm.Cond) (a : Array Jvm.Value) (st : Jvm.State) : (allAtoms ts).before a st = ts.all (fun c => c.before a st) := by
  induction ts with
  | nil => rfl
  | cons c t ih =>
    show (Jvm.Cond.and c (allAtoms t)).before a st = _
    rw [Jvm.Cond.before_and, ih, List.all_cons]
def words1 : List Jvm.Cond := Jvm.Cond.code x code maxLocals ret :: tables_1
/-- a 'code' word, met by the world's own term for the bytes: nothing is compared byte by byte -/
theorem code_word {y : MethodName} {bytes : ByteArray} {mx : Nat} {rt : Option FieldType} {a : Array Value} {s : State} {m : MethodId} {meth : Method} {c : Code} (h1 : s.methodNamed? y = some m) (h2 : s.vm.method? m = some meth) (h3 : meth.code = some c) (h4 : c.code = bytes)
    (h5 : (c.maxLocals == mx && c.exceptionTable.isEmpty && decide (c.maxStack ≤ mostOperands) && decide (meth.sig.returnType = rt) && !meth.locks && decide (parseMethodDescriptor y.desc = some meth.sig)) = true) : (Jvm.Cond.code y bytes mx rt).before a s = true := by
  simp only [Bool.and_eq_true, beq_iff_eq, Bool.not_eq_true', decide_eq_true_eq] at h5
  obtain ⟨⟨⟨⟨⟨g1, g2⟩, g3⟩, g4⟩, g5⟩, g6⟩ := h5
  simp [Cond.before, Cond.holds, Cond.value, h1, h2, h3, h4, g1, g2, g3, g4, g5, g6]
def isCode : Jvm.Cond → Bool
  | .code _ _ _ _ => true
  | _ => false
theorem all_split {L : List Jvm.Cond} {P : Jvm.Cond → Bool} (h1 : L.all (fun c => isCode c || P c) = true) (h2 : ∀ c ∈ L.filter isCode, P c = true) : L.all P = true := by
  refine List.all_eq_true.mpr fun c hc => ?_
  have h := List.all_eq_true.mp h1 c hc
  rcases Bool.eq_false_or_eq_true (isCode c) with hi | hi
  · exact h2 c (List.mem_filter.mpr ⟨hc, hi⟩)
  · simpa [hi] using h
set_option maxRecDepth 65536 in
theorem w_c0 : (Jvm.Cond.code x code maxLocals ret).before args0 about1 = true := code_word (m := ⟨1, 1⟩) (meth := k1m1) (c := k1c1) (by decide +kernel) rfl rfl rfl (by decide +kernel)
set_option maxRecDepth 65536 in
theorem w_c1 : (Jvm.Cond.code ({ cls := "com/example/surfeit/surfeit/SplitMix64", name := "mayRedraw", desc := "(JI)I" } : Jvm.MethodName) prog_37_method_13_code (3 : Nat) (Option.some Jvm.ClassFile.FieldType.int)).before args0 about1 = true := code_word (m := ⟨2, 0⟩) (meth := k2m0) (c := k2c0) (by decide +kernel) rfl rfl rfl (by decide +kernel)
def codes1 : List Jvm.Cond := [Jvm.Cond.code x code maxLocals ret, Jvm.Cond.code ({ cls := "com/example/surfeit/surfeit/SplitMix64", name := "mayRedraw", desc := "(JI)I" } : Jvm.MethodName) prog_37_method_13_code (3 : Nat) (Option.some Jvm.ClassFile.FieldType.int)]
set_option maxRecDepth 65536 in
theorem codes_eq : words1.filter isCode = codes1 := rfl
theorem w_codes : ∀ c ∈ words1.filter isCode, c.before args0 about1 = true := by
  rw [codes_eq]
  intro c hc
  simp only [codes1, List.mem_cons, List.not_mem_nil, or_false] at hc
  rcases hc with rfl | rfl
  · exact w_c0
  · exact w_c1
set_option maxRecDepth 65536 in
theorem w_t1 : words1.all (fun c => isCode c || c.before args0 about1) = true := by decide +kernel
theorem w_tables : (allAtoms (Jvm.Cond.code x code maxLocals ret :: tables_1)).before args0 about1 = true := by
  rw [allAtoms_all]
  show words1.all (fun c => c.before args0 about1) = true
  refine all_split ?_ w_codes
  rw [w_t1]
set_option maxRecDepth 65536 in
theorem w_case : (Jvm.Cond.and given_1 narrow_1).before args0 about1 = true := by decide +kernel
theorem w_applies : (headSpec (Jvm.Cond.code x code maxLocals ret :: tables_1) room_1).applies x e0.platform about1 = true :=
  (Spec.applies_iff w_frames).mpr ⟨w_running, w_runnable, w_alone, w_named, w_hears, w_ripe, w_room, w_tables⟩
theorem atStart : AtStart classFile x code maxLocals ret World_1 tables_1 room_1 Calls_1 rest_1 Pre_1 launch0 p0 e0 about1 theMethod args0 below0 :=
  ⟨lists_1, trivial, launch0.admits_env _ _ _, launch0.least_env, fairChoices_fair.cas, fairChoices_fair.clock, w_frames, w_args, w_heap, w_applies, trivial, trivial, w_case⟩
end start1
theorem witness_1 : WitnessClaimed_1 := ⟨start1.p0, start1.e0, start1.about1, start1.theMethod, start1.args0, start1.below0, start1.atStart⟩
end Jvm.Pilot.@@N@@
