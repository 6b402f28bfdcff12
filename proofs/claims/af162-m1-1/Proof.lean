import JvmDerived
import JvmDerived.Pilot.@@N@@Statement
import JvmDerived.Pilot.@@N@@Code
set_option linter.unusedVariables false
set_option linter.unusedSimpArgs false
namespace Jvm.RoadKit
open Sem ClassFile Op Lib Jvm.Stand Jvm.Free Jvm.LawKit
section New
variable {p : Program} {l : Launch} {e : Env} {R : Room} {s : State} {m : MethodId} {args : Array Value} {below : List Frame} {meth : Method} {c : Code} {T : State} {locs : List Loc} {cells slots : Nat}
theorem retI (X : Stand p l e R s m args below meth c T locs cells slots) (hx : p.tables.exec = Jvm.exec) {pc : Nat} {Ls : Array Slot} {z : Int32} {rest : List Value} (hret : meth.sig.returnType = some .int) (hd : decode c.code pc = .ok (.ireturn, 1)) {fs : List Frame}
    (hl : ∀ (f : JFrame) (acts : List Action), f.method = m → f.locked = none → f.entered = [] → (doReturn e (T.setTop f) acts (some (.int z))).1 = T.setFrames fs) : Steps p.tables e below (T.setTop (mkF m pc Ls (.int z :: rest))) (T.setFrames fs) := by
  have hm' : T.vm.method? m = some meth := X.method'
  have hn : narrow .int (.int z) = .int z := rfl
  show Steps p.tables e below (T.setTop { method := m, pc := pc, locals := Ls, stack := _ :: rest, locked := none }) _
  jvm_step X.here [X.here.top, hx, hd, hm', hret, hn]
  first | (intro acts; rw [hl _ acts rfl rfl rfl]) | rw [hl _ _ rfl rfl rfl]
  exact Steps.refl _
end New
end Jvm.RoadKit
namespace Jvm.Pilot.@@N@@
open Jvm Jvm.ClassFile Sem Op Lib Jvm.Free Jvm.Stand Jvm.LawKit Jvm.RoadKit Bundle Jvm.Pilot.@@N@@.Jvm.D
/-- from F the invocation ends: it returns, and Q holds of what it returned, the heap and the places written -/
def own_Ends (p : Program) (e : Env) (below : List Frame) (s : State) (C S : Nat) (Q : Option Value → Heap → List Loc → Prop) (F : State) : Prop :=
  ∃ s₂ o, Steps p.tables e below F s₂ ∧ s₂.status = .running ∧ Ended s₂ below o ∧ ∃ v L, o = .returned v ∧ Q v s₂.heap L ∧ FrameEnd s o s₂ L C S
theorem own_step {p : Program} {e : Env} {below : List Frame} {s : State} {C S : Nat} {Q : Option Value → Heap → List Loc → Prop} {F F' : State} (h : ∀ t, Steps p.tables e below F' t → Steps p.tables e below F t) (k : own_Ends p e below s C S Q F') : own_Ends p e below s C S Q F := by
  obtain ⟨s₂, o, st, r⟩ := k
  exact ⟨s₂, o, h _ st, r⟩
section OwnRet
variable {p : Program} {l : Launch} {e : Env} {R : Room} {s : State} {m : MethodId} {args : Array Value} {below : List Frame} {meth : Method} {c : Code} {T : State} {locs : List Loc} {cells slots : Nat} {C S : Nat} {Q : Option Value → Heap → List Loc → Prop}
theorem own_retI (X : Stand p l e R s m args below meth c T locs cells slots) (hx : p.tables.exec = Jvm.exec) {pc : Nat} {Ls : Array Slot} {z : Int32} {rest : List Value} (hret : meth.sig.returnType = some .int) (hlk : meth.locks = false) (hd : decode c.code pc = .ok (.ireturn, 1)) (hc : cells ≤ C) (hs : slots ≤ S)
    (hQ : Q (some (.int z)) T.heap locs) : own_Ends p e below s C S Q (T.setTop (mkF m pc Ls (.int z :: rest))) := by
  obtain ⟨fs, hr, hrun, hended, hW, hsame⟩ := X.leave (v := some (.int z)) (fun h => by rw [hret] at h; cases h) hlk
  exact ⟨_, _, retI X hx hret hd hr, hrun, hended, _, _, rfl, hQ, ⟨_, rfl⟩, hW, hsame.mono hc hs⟩
theorem own_retN (X : Stand p l e R s m args below meth c T locs cells slots) (hx : p.tables.exec = Jvm.exec) {pc : Nat} {Ls : Array Slot} {z z' : Int32} {rest : List Value} {t : FieldType} (hret : meth.sig.returnType = some t) (ht : t = .boolean ∨ t = .byte ∨ t = .char ∨ t = .short) (hlk : meth.locks = false) (hd : decode c.code pc = .ok (.ireturn, 1)) (hc : cells ≤ C) (hs : slots ≤ S)
    (hz : nar t z = z') (hQ : Q (some (.int z')) T.heap locs) : own_Ends p e below s C S Q (T.setTop (mkF m pc Ls (.int z :: rest))) := by
  subst hz
  obtain ⟨fs, hr, hrun, hended, hW, hsame⟩ := X.leave (v := some (.int (nar t z))) (fun h => by rw [hret] at h; cases h) hlk
  exact ⟨_, _, retN X hx hret ht hd hr, hrun, hended, _, _, rfl, hQ, ⟨_, rfl⟩, hW, hsame.mono hc hs⟩
theorem own_retJ (X : Stand p l e R s m args below meth c T locs cells slots) (hx : p.tables.exec = Jvm.exec) {pc : Nat} {Ls : Array Slot} {z : Int64} (hret : meth.sig.returnType = some .long) (hlk : meth.locks = false) (hd : decode c.code pc = .ok (.lreturn, 1)) (hc : cells ≤ C) (hs : slots ≤ S)
    (hQ : Q (some (.long z)) T.heap locs) : own_Ends p e below s C S Q (T.setTop (mkF m pc Ls [.long z])) := by
  obtain ⟨fs, hr, hrun, hended, hW, hsame⟩ := X.leave (v := some (.long z)) (fun h => by rw [hret] at h; cases h) hlk
  exact ⟨_, _, X.lreturnOut hx hret hd hr, hrun, hended, _, _, rfl, hQ, ⟨_, rfl⟩, hW, hsame.mono hc hs⟩
theorem own_retV (X : Stand p l e R s m args below meth c T locs cells slots) (hx : p.tables.exec = Jvm.exec) {pc : Nat} {Ls : Array Slot} (hret : meth.sig.returnType = none) (hlk : meth.locks = false) (hd : decode c.code pc = .ok (.return_, 1)) (hc : cells ≤ C) (hs : slots ≤ S)
    (hQ : Q none T.heap locs) : own_Ends p e below s C S Q (T.setTop (mkF m pc Ls [])) := by
  obtain ⟨fs, hr, hrun, hended, hW, hsame⟩ := X.leave (v := none) (fun _ => rfl) hlk
  exact ⟨_, _, X.returnOut hx hret hd hr, hrun, hended, _, _, rfl, hQ, ⟨_, rfl⟩, hW, hsame.mono hc hs⟩
theorem own_retR (X : Stand p l e R s m args below meth c T locs cells slots) (hx : p.tables.exec = Jvm.exec) {pc : Nat} {Ls : Array Slot} {w : Value} {t : FieldType} {rest : List Value} (hret : meth.sig.returnType = some t) (ht : t.isReference = true) (hw : w.isRef = true) (hn : narrow t w = w) (hlk : meth.locks = false) (hd : decode c.code pc = .ok (.areturn, 1)) (hc : cells ≤ C) (hs : slots ≤ S)
    (hQ : Q (some w) T.heap locs) : own_Ends p e below s C S Q (T.setTop (mkF m pc Ls (w :: rest))) := by
  obtain ⟨fs, hr, hrun, hended, hW, hsame⟩ := X.leave (v := some w) (fun h => by rw [hret] at h; cases h) hlk
  exact ⟨_, _, retOut X hx hret hn (Or.inr (Or.inr (Or.inr (Or.inr ⟨rfl, ht, hw⟩)))) hd hr, hrun, hended, _, _, rfl, hQ, ⟨_, rfl⟩, hW, hsame.mono hc hs⟩
end OwnRet
open Jvm.FP.Core in
theorem own_dc (k : Int32) (h0 : k.toInt ≠ 0) : Jvm.FP.Core.dcmp (Jvm.FP.Core.ddiv (Jvm.FP.Core.i2d k) 4616189618054758400) 4611686018427387904 = some (compare k.toInt 8) := by
  have v4 : val64 4616189618054758400 = .fin false (2 ^ 52) (-50) := by decide +kernel
  have v2 : val64 4611686018427387904 = .fin false (2 ^ 52) (-51) := by decide +kernel
  have hW := i2d_int k
  have hF := val64_fits (Jvm.FP.Core.i2d k)
  have hd := val64_ddiv (Jvm.FP.Core.i2d k) 4616189618054758400
  unfold DInt at hW
  have hk1 := Int32.toInt_lt k
  have hk2 := Int32.le_toInt k
  cases hv : val64 (Jvm.FP.Core.i2d k) with
  | nan => rw [hv] at hW; exact hW.elim
  | inf s => rw [hv] at hW; exact hW.elim
  | fin s c q =>
    rw [hv] at hW hF hd
    have hA := whole_natAbs hW
    have hc0 : c ≠ 0 := fun z => h0 ((whole_zero hW).mp z)
    have hqm : b64.qmin = -1074 := by decide
    have hqM : b64.qmax = 971 := by decide
    have ht : b64.tails = 2 ^ 52 := by decide
    have hp : b64.p = 53 := rfl
    unfold Jvm.FP.Core.fits at hF
    rw [hqm, hqM, ht, hp] at hF
    obtain ⟨f1, f2, f3, f4⟩ := hF
    have hn1 : 1 ≤ k.toInt.natAbs := by omega
    have hn2 : k.toInt.natAbs ≤ 2 ^ 31 := by omega
    -- the exponent
    have hq : -52 ≤ q := by
      rcases Int.lt_or_le q (-52) with h | h
      · exfalso
        have e0 : q.toNat = 0 := by omega
        have e1 : 53 ≤ (-q).toNat := by omega
        have e2 : 2 ^ 53 ≤ 2 ^ (-q).toNat := Nat.pow_le_pow_right (by decide) e1
        rw [e0, Nat.pow_zero, Nat.mul_one] at hA
        have e3 : 1 * 2 ^ (-q).toNat ≤ k.toInt.natAbs * 2 ^ (-q).toNat := Nat.mul_le_mul_right _ hn1
        omega
      · exact h
    have hct : 2 ^ 52 ≤ c := by
      rcases f4 with f4 | f4
      · omega
      · exact f4
    have hE : roundRatio b64 (s != false) c (2 ^ 52) (q - (-50)) = .fin (s != false) c (q - 2) := by
      refine roundRatio_exact good_b64 (by decide) ?_ ?_
      · unfold Jvm.FP.Core.fits; rw [hqm, hqM, ht, hp]; exact ⟨f1, by omega, by omega, Or.inr hct⟩
      · rw [show (q - (-50) - (q - 2)).toNat = 52 from by omega, show (q - 2 - (q - (-50))).toNat = 0 from by omega, Nat.pow_zero, Nat.mul_one]
    have hq4 : quotient b64 (.fin s c q) (.fin false (2 ^ 52) (-50)) = .fin (s != false) c (q - 2) := by
      show (if (2 ^ 52 : Nat) = 0 then (if c = 0 then Datum.nan else Datum.inf (s != false)) else roundRatio b64 (s != false) c (2 ^ 52) (q - (-50))) = _
      rw [if_neg (by decide), hE]
    rw [v4, hq4] at hd
    show order (val64 (Jvm.FP.Core.ddiv (Jvm.FP.Core.i2d k) 4616189618054758400)) (val64 4611686018427387904) = _
    rw [hd, v2]
    show some (compare (signed (s != false) (inUnits c (q - 2) (min (q - 2) (-51)))) (signed false (inUnits (2 ^ 52) (-51) (min (q - 2) (-51))))) = _
    have hs : (s != false) = s := by cases s <;> rfl
    rw [hs]
    obtain ⟨e, he⟩ : ∃ e : Int, e = min (q - 2) (-51) := ⟨_, rfl⟩
    rw [← he]
    have hU := whole_units hW (e := e + 2) (by omega)
    rw [show (e + 2).toNat = 0 from by omega, Nat.pow_zero] at hU
    have i1 : inUnits c (q - 2) e = inUnits c q (e + 2) := by unfold inUnits; rw [show q - 2 - e = q - (e + 2) from by omega]
    have i2 : ((inUnits (2 ^ 52) (-51) e : Nat) : Int) = 8 * ((2 ^ (-(e + 2)).toNat : Nat) : Int) := by
      unfold inUnits
      obtain ⟨j, hj⟩ : ∃ j : Nat, (-51 - e).toNat = j := ⟨_, rfl⟩
      have hj2 : (-(e + 2)).toNat = j + 49 := by omega
      rw [hj, hj2, Nat.pow_add]
      have : (2 ^ 52 : Nat) * 2 ^ j = 8 * (2 ^ j * 2 ^ 49) := by rw [Nat.mul_comm (2 ^ j) (2 ^ 49), ← Nat.mul_assoc]
      omega
    have i3 : signed s (inUnits c q (e + 2)) = k.toInt * ((2 ^ (-(e + 2)).toNat : Nat) : Int) := by simpa using hU
    rw [i1, i3, show signed false (inUnits (2 ^ 52) (-51) e) = ((inUnits (2 ^ 52) (-51) e : Nat) : Int) from rfl, i2]
    have hP : (0 : Int) < ((2 ^ (-(e + 2)).toNat : Nat) : Int) := by have := Nat.two_pow_pos (-(e + 2)).toNat; omega
    generalize ((2 ^ (-(e + 2)).toNat : Nat) : Int) = P at hP
    congr 1
    show compareOfLessAndEq _ _ = compareOfLessAndEq _ _
    unfold compareOfLessAndEq
    by_cases h1 : k.toInt < 8
    · rw [if_pos h1, if_pos (Int.mul_lt_mul_of_pos_right h1 hP)]
    · by_cases h2 : k.toInt = 8
      · rw [if_neg h1, if_pos h2, h2, if_neg (Int.lt_irrefl _), if_pos rfl]
      · have h3 : 8 * P < k.toInt * P := Int.mul_lt_mul_of_pos_right (by omega) hP
        rw [if_neg h1, if_neg h2, if_neg (by omega), if_neg (by omega)]
theorem own_cv (k : Int32) : 0 < cmpValue (FP.dcmp (FP.ddiv (FP.i2d k) 4616189618054758400) 4611686018427387904) .l ↔ 8 < k := by
  by_cases h0 : k = 0
  · subst h0; decide +kernel
  · have h1 : k.toInt ≠ 0 := fun q => h0 (Int32.toInt_inj.mp (by rw [q]; rfl))
    rw [show FP.dcmp (FP.ddiv (FP.i2d k) 4616189618054758400) 4611686018427387904 = some (compare k.toInt 8) from own_dc k h1, Int32.lt_iff_toInt_lt (x := 8), show (8 : Int32).toInt = 8 from rfl]
    rcases Int.lt_trichotomy k.toInt 8 with h | h | h
    · rw [show compare k.toInt 8 = .lt from by show compareOfLessAndEq _ _ = _; unfold compareOfLessAndEq; rw [if_pos h]]
      constructor
      · intro q; exact absurd q (by decide)
      · intro q; omega
    · rw [show compare k.toInt 8 = .eq from by rw [h]; decide]
      constructor
      · intro q; exact absurd q (by decide)
      · intro q; omega
    · rw [show compare k.toInt 8 = .gt from by show compareOfLessAndEq _ _ = _; unfold compareOfLessAndEq; rw [if_neg (by omega), if_neg (by omega)]]
      constructor
      · intro q; exact h
      · intro q; decide
theorem own_nnan (k : Int32) : Jvm.Free.Fl.NoNaN64 (FP.ddiv (FP.i2d k) 4616189618054758400) := Jvm.Free.Fl.ddiv_out (Jvm.Free.Fl.i2d_fin k).noNaN (by unfold Jvm.Free.Fl.Fin64; decide) (by unfold Jvm.Free.Fl.Nz64; decide)

def own_gt (d : UInt64) : Int32 := if 0 < cmpValue (FP.dcmp d 4611686018427387904) .l then 1 else 0
theorem d1_0 : decode prog_105_method_4_code 0 = .ok (.aload_n 0, 1) := by decide +kernel
theorem d1_1 : decode prog_105_method_4_code 1 = .ok (.getstatic 9, 3) := by decide +kernel
theorem d1_4 : decode prog_105_method_4_code 4 = .ok (.if_acmp .ne 15, 3) := by decide +kernel
theorem d1_7 : decode prog_105_method_4_code 7 = .ok (.dload_n 1, 1) := by decide +kernel
theorem d1_8 : decode prog_105_method_4_code 8 = .ok (.ldc2_w 31, 3) := by decide +kernel
theorem d1_11 : decode prog_105_method_4_code 11 = .ok (.dcmp .l, 1) := by decide +kernel
theorem d1_12 : decode prog_105_method_4_code 12 = .ok (.ifCond .le 7, 3) := by decide +kernel
theorem d1_15 : decode prog_105_method_4_code 15 = .ok (.iconst 1, 1) := by decide +kernel
theorem d1_16 : decode prog_105_method_4_code 16 = .ok (.goto 4, 3) := by decide +kernel
theorem d1_19 : decode prog_105_method_4_code 19 = .ok (.iconst 0, 1) := by decide +kernel
theorem d1_20 : decode prog_105_method_4_code 20 = .ok (.ireturn, 1) := by decide +kernel
theorem pn_0 : plainName "com/example/pipewright/pipewright/service/Vasicek$Step" = true := by first | (simp [plainName, overriddenIn]; done) | decide +kernel
theorem ef_rmR1 (m : MethodId) (ra : Addr) (dd : UInt64) : entryFrame m #[(.ref ra), (.double dd)] 3 = mkF m 0 #[.val (.ref ra), .val (.double dd), .second] [] := by first | (simp [entryFrame, mkF, argsToLocals, Value.category]; done) | rfl
def QR1 (Z : State) (ra : Addr) (dd : UInt64)  (h0 : Heap) (n0 : Nat) (v : Option Value) (h : Heap) (L : List Loc) : Prop := v = some (.int (own_gt dd)) ∧ Fr n0 L ∧ h = h0
set_option maxRecDepth 65536 in
set_option maxHeartbeats 40000000 in
theorem rmR1 (l : Launch) (Z : State) (a0 : Array Value) (hw : ∀ d ∈ tables_1, d.before a0 Z = true) (ws : List Jvm.Cond) (ra : Addr) (dd : UInt64)  (h0 : Heap) (n0 : Nat) (Z0 : n0 ≤ h0.size) (S1 : Sta Z h0 "com/example/pipewright/pipewright/service/Vasicek$Step" "EULER" "Lcom/example/pipewright/pipewright/service/Vasicek$Step;" (.ref ra)) :
    MetFree l (⟨"com/example/pipewright/pipewright/service/Vasicek$Step", "runsAwayAt", "(D)Z"⟩ : MethodName) (head1 (Jvm.Cond.code (⟨"com/example/pipewright/pipewright/service/Vasicek$Step", "runsAwayAt", "(D)Z"⟩ : MethodName) prog_105_method_4_code 3 (some .boolean) :: ws) ({ frames := 0, cells := 0, slots := 0, locals := 0 } : Room)) (fun a U => a = #[(.ref ra), (.double dd)] ∧ Z.Warmed39 U.vm ∧ U.heap = h0) (fun _ _ _ _ _ => True) (fun _ U o U' => ∃ v L, o = .returned v ∧ QR1 Z ra dd  h0 n0 v U'.heap L ∧ FrameEnd U o U' L ({ frames := 0, cells := 0, slots := 0, locals := 0 } : Room).cells ({ frames := 0, cells := 0, slots := 0, locals := 0 } : Room).slots) := by
  refine MetFree.of_bodySF (plainFor_of_name pn_0) hisR ?_
  intro p e s m args below meth c s₁ Bd hml0 hP hK
  obtain ⟨rfl, hZ, hh⟩ := hP
  have hx := Bd.exec
  have hby := Bd.bytes
  have hlk : meth.locks = false := BodyLoose.notSynchronized Bd
  have hret := Bd.returns
  have hml : c.maxLocals = 3 := hml0
  have hown : s.vm.findClass "com/example/pipewright/pipewright/service/Vasicek$Step" = some m.cls := findClass_of_methodNamed Bd.named
  have hnm := (name_of_methodNamed Bd.named Bd.method).1
  have X0 : Stand p l e ({ frames := 0, cells := 0, slots := 0, locals := 0 } : Room) s m #[(.ref ra), (.double dd)] below meth c s₁ [] 0 0 := Stand.of_body Bd
  have e0 : s₁.heap = h0 := by rw [← hh, Bd.state]; rfl
  have N0 := Fr.nil n0
  show own_Ends p e below s 0 0 (QR1 Z ra dd  h0 n0) (s₁.setTop (entryFrame m #[(.ref ra), (.double dd)] 3))
  refine own_step (fun t k => castTop (ef_rmR1 m ra dd) k) ?_
  show own_Ends p e below s _ _ _ (s₁.setTop (mkF m 0 #[.val (.ref ra), .val (.double dd), .second] []))
  refine own_step (fun _ kc_ => XS.aloadN X0.here hx rfl (hb hby d1_0) rfl rfl kc_) ?_
  show own_Ends p e below s _ _ _ (s₁.setTop (mkF m 1 #[.val (.ref ra), .val (.double dd), .second] [(.ref ra)]))
  obtain ⟨T1, X1, e1, st1⟩ := getS2 X0 hx hZ hown (host := "") (Or.inl (hw _ (List.mem_of_getElem? (i := 9) rfl))) Via.refl e0 S1 (g := (mkF m 1 #[.val (.ref ra), .val (.double dd), .second] [(.ref ra)])) rfl (hb hby d1_1)
  refine own_step (fun _ kc_ => st1 _ kc_) ?_
  show own_Ends p e below s _ _ _ (T1.setTop (mkF m 4 #[.val (.ref ra), .val (.double dd), .second] [(.ref ra), (.ref ra)]))
  refine own_step (fun _ kc_ => Jvm.RoadKit.acmp (g := (mkF m 4 #[.val (.ref ra), .val (.double dd), .second] [(.ref ra), (.ref ra)])) X1 hx rfl rfl rfl (pc0 := 4) (pc' := 7) (same := true) rfl (hb hby d1_4) rfl (decide_eq_true rfl) (by decide) (by decide) (XS.dloadN X1.here hx rfl (hb hby d1_7) rfl (X1.ldc2DoubleC hx hown (mvT hZ (hw _ (List.mem_of_getElem? (i := 10) rfl))) (g := (mkF m 8 #[.val (.ref ra), .val (.double dd), .second] [(.double dd)])) rfl (hb hby d1_8) _ (XS.dcmpS X1.here hx rfl (hb hby d1_11) rfl rfl kc_)))) ?_
  show own_Ends p e below s _ _ _ (T1.setTop (mkF m 12 #[.val (.ref ra), .val (.double dd), .second] [(.int (cmpValue (FP.dcmp dd (4611686018427387904 : UInt64)) .l))]))
  by_cases hc12 : 0 < (cmpValue (FP.dcmp dd (4611686018427387904 : UInt64)) .l)
  · refine own_step (fun _ kc_ => XS.ifNo X1.here hx rfl (hb hby d1_12) rfl (XT.i0_le_f hc12) (XS.iconst X1.here hx rfl (hb hby d1_15) (XS.goto X1.here hx rfl (pc0 := 16) (pc' := 20) rfl (hb hby d1_16) (by decide) (by decide) kc_))) ?_
    show own_Ends p e below s _ _ _ (T1.setTop (mkF m 20 #[.val (.ref ra), .val (.double dd), .second] [(.int (1 : Int32))]))
    exact own_retN X1 hx (t := .boolean) (z' := own_gt dd) hret (by simp) hlk (hb hby d1_20) (by decide) (by decide) (by rw [show own_gt dd = (1 : Int32) from by simp [own_gt, hc12]]; rfl) ⟨rfl, N0, e1⟩
  · refine own_step (fun _ kc_ => XS.ifYes X1.here hx rfl (pc0 := 12) (pc' := 19) rfl (hb hby d1_12) rfl (XT.i0_le_t hc12) (by decide) (by decide) (XS.iconst X1.here hx rfl (hb hby d1_19) kc_)) ?_
    show own_Ends p e below s _ _ _ (T1.setTop (mkF m 20 #[.val (.ref ra), .val (.double dd), .second] [(.int (0 : Int32))]))
    exact own_retN X1 hx (t := .boolean) (z' := own_gt dd) hret (by simp) hlk (hb hby d1_20) (by decide) (by decide) (by rw [show own_gt dd = (0 : Int32) from by simp [own_gt, hc12]]; rfl) ⟨rfl, N0, e1⟩
theorem ef_rmR0 (m : MethodId) (ra : Addr) (dd : UInt64) : entryFrame m #[(.ref ra), (.double dd)] 3 = mkF m 0 #[.val (.ref ra), .val (.double dd), .second] [] := by first | (simp [entryFrame, mkF, argsToLocals, Value.category]; done) | rfl
def QR0 (Z : State) (ra : Addr) (dd : UInt64) (aE : Addr) (h0 : Heap) (n0 : Nat) (v : Option Value) (h : Heap) (L : List Loc) : Prop := v = some (.int (0 : Int32)) ∧ Fr n0 L ∧ h = h0
set_option maxRecDepth 65536 in
set_option maxHeartbeats 40000000 in
theorem rmR0 (l : Launch) (Z : State) (a0 : Array Value) (hw : ∀ d ∈ tables_1, d.before a0 Z = true) (ws : List Jvm.Cond) (ra : Addr) (dd : UInt64) (aE : Addr) (h0 : Heap) (n0 : Nat) (Z0 : n0 ≤ h0.size) (S1 : Sta Z h0 "com/example/pipewright/pipewright/service/Vasicek$Step" "EULER" "Lcom/example/pipewright/pipewright/service/Vasicek$Step;" (.ref aE)) (hne : ra ≠ aE) :
    MetFree l (⟨"com/example/pipewright/pipewright/service/Vasicek$Step", "runsAwayAt", "(D)Z"⟩ : MethodName) (head1 (Jvm.Cond.code (⟨"com/example/pipewright/pipewright/service/Vasicek$Step", "runsAwayAt", "(D)Z"⟩ : MethodName) prog_105_method_4_code 3 (some .boolean) :: ws) ({ frames := 0, cells := 0, slots := 0, locals := 0 } : Room)) (fun a U => a = #[(.ref ra), (.double dd)] ∧ Z.Warmed39 U.vm ∧ U.heap = h0) (fun _ _ _ _ _ => True) (fun _ U o U' => ∃ v L, o = .returned v ∧ QR0 Z ra dd aE h0 n0 v U'.heap L ∧ FrameEnd U o U' L ({ frames := 0, cells := 0, slots := 0, locals := 0 } : Room).cells ({ frames := 0, cells := 0, slots := 0, locals := 0 } : Room).slots) := by
  refine MetFree.of_bodySF (plainFor_of_name pn_0) hisR ?_
  intro p e s m args below meth c s₁ Bd hml0 hP hK
  obtain ⟨rfl, hZ, hh⟩ := hP
  have hx := Bd.exec
  have hby := Bd.bytes
  have hlk : meth.locks = false := BodyLoose.notSynchronized Bd
  have hret := Bd.returns
  have hml : c.maxLocals = 3 := hml0
  have hown : s.vm.findClass "com/example/pipewright/pipewright/service/Vasicek$Step" = some m.cls := findClass_of_methodNamed Bd.named
  have hnm := (name_of_methodNamed Bd.named Bd.method).1
  have X0 : Stand p l e ({ frames := 0, cells := 0, slots := 0, locals := 0 } : Room) s m #[(.ref ra), (.double dd)] below meth c s₁ [] 0 0 := Stand.of_body Bd
  have e0 : s₁.heap = h0 := by rw [← hh, Bd.state]; rfl
  have N0 := Fr.nil n0
  show own_Ends p e below s 0 0 (QR0 Z ra dd aE h0 n0) (s₁.setTop (entryFrame m #[(.ref ra), (.double dd)] 3))
  refine own_step (fun t k => castTop (ef_rmR0 m ra dd) k) ?_
  show own_Ends p e below s _ _ _ (s₁.setTop (mkF m 0 #[.val (.ref ra), .val (.double dd), .second] []))
  refine own_step (fun _ kc_ => XS.aloadN X0.here hx rfl (hb hby d1_0) rfl rfl kc_) ?_
  show own_Ends p e below s _ _ _ (s₁.setTop (mkF m 1 #[.val (.ref ra), .val (.double dd), .second] [(.ref ra)]))
  obtain ⟨T2, X2, e2, st2⟩ := getS2 X0 hx hZ hown (host := "") (Or.inl (hw _ (List.mem_of_getElem? (i := 9) rfl))) Via.refl e0 S1 (g := (mkF m 1 #[.val (.ref ra), .val (.double dd), .second] [(.ref ra)])) rfl (hb hby d1_1)
  refine own_step (fun _ kc_ => st2 _ kc_) ?_
  show own_Ends p e below s _ _ _ (T2.setTop (mkF m 4 #[.val (.ref ra), .val (.double dd), .second] [(.ref aE), (.ref ra)]))
  refine own_step (fun _ kc_ => Jvm.RoadKit.acmp (g := (mkF m 4 #[.val (.ref ra), .val (.double dd), .second] [(.ref aE), (.ref ra)])) X2 hx rfl rfl rfl (pc0 := 4) (pc' := 19) (same := false) rfl (hb hby d1_4) rfl (decide_eq_false fun q => hne (Value.ref.inj q)) (by decide) (by decide) (XS.iconst X2.here hx rfl (hb hby d1_19) kc_)) ?_
  show own_Ends p e below s _ _ _ (T2.setTop (mkF m 20 #[.val (.ref ra), .val (.double dd), .second] [(.int (0 : Int32))]))
  exact own_retN X2 hx (t := .boolean) hret (by simp) hlk (hb hby d1_20) (by decide) (by decide) rfl ⟨rfl, N0, e2⟩
theorem pn_1 : plainName "com/example/pipewright/pipewright/service/StepRunsAwayAtPinLaw" = true := by first | (simp [plainName, overriddenIn]; done) | decide +kernel
theorem pd_0 : parseMethodDescriptor "(D)Z" = some ⟨[.double], some .boolean⟩ := by decide +kernel
theorem ef_rm0 (m : MethodId) (p1 : Int32) (p2 : Int32) : entryFrame m #[(.int p1), (.int p2)] maxLocals = mkF m 0 #[.val (.int p1), .val (.int p2), .unset, .unset, .unset, .unset, .unset] [] := by first | (simp [entryFrame, mkF, argsToLocals, Value.category, maxLocals]; done) | rfl
def Q0 (Z : State) (p1 : Int32) (p2 : Int32) (aE aX : Addr) (h0 : Heap) (n0 : Nat) (v : Option Value) (h : Heap) (L : List Loc) : Prop := v = some (.int (1 : Int32)) ∧ Fr n0 L
set_option maxRecDepth 65536 in
set_option maxHeartbeats 40000000 in
theorem rm0 (l : Launch) (Z : State) (a0 : Array Value) (hw : ∀ d ∈ tables_1, d.before a0 Z = true) (ws : List Jvm.Cond) (p1 : Int32) (p2 : Int32) (aE aX : Addr) (h0 : Heap) (n0 : Nat) (Z0 : n0 ≤ h0.size) (S1 : Sta Z h0 "com/example/pipewright/pipewright/service/Vasicek$Step" "EULER" "Lcom/example/pipewright/pipewright/service/Vasicek$Step;" (.ref aE)) (S2 : Sta Z h0 "com/example/pipewright/pipewright/service/Vasicek$Step" "EXACT" "Lcom/example/pipewright/pipewright/service/Vasicek$Step;" (.ref aX)) (E1 : Exa Z h0 aE "com/example/pipewright/pipewright/service/Vasicek$Step") (E2 : Exa Z h0 aX "com/example/pipewright/pipewright/service/Vasicek$Step") (hne : aX ≠ aE) :
    MetFree l x (head1 (Jvm.Cond.code x code maxLocals ret :: ws) room_1) (fun a U => a = #[(.int p1), (.int p2)] ∧ Z.Warmed39 U.vm ∧ U.heap = h0) (fun _ _ _ _ _ => True) (fun _ U o U' => ∃ v L, o = .returned v ∧ Q0 Z p1 p2 aE aX h0 n0 v U'.heap L ∧ FrameEnd U o U' L room_1.cells room_1.slots) := by
  refine MetFree.of_bodySF (plainFor_of_name pn_1) hisR ?_
  intro p e s m args below meth c s₁ Bd hml0 hP hK
  obtain ⟨rfl, hZ, hh⟩ := hP
  have hx := Bd.exec
  have hby := Bd.bytes
  have hlk : meth.locks = false := BodyLoose.notSynchronized Bd
  have hret := Bd.returns
  have hml : c.maxLocals = 7 := hml0
  have hown : s.vm.findClass "com/example/pipewright/pipewright/service/StepRunsAwayAtPinLaw" = some m.cls := findClass_of_methodNamed Bd.named
  have hnm := (name_of_methodNamed Bd.named Bd.method).1
  have X0 : Stand p l e room_1 s m #[(.int p1), (.int p2)] below meth c s₁ [] 0 0 := Stand.of_body Bd
  have e0 : s₁.heap = h0 := by rw [← hh, Bd.state]; rfl
  have N0 := Fr.nil n0
  show own_Ends p e below s 0 0 (Q0 Z p1 p2 aE aX h0 n0) (s₁.setTop (entryFrame m #[(.int p1), (.int p2)] maxLocals))
  refine own_step (fun t k => castTop (ef_rm0 m p1 p2) k) ?_
  show own_Ends p e below s _ _ _ (s₁.setTop (mkF m 0 #[.val (.int p1), .val (.int p2), .unset, .unset, .unset, .unset, .unset] []))
  refine own_step (fun _ kc_ => XS.iloadN X0.here hx rfl (hb hby at_0) rfl (XS.iconst X0.here hx rfl (hb hby at_1) (XS.iand X0.here hx rfl (hb hby at_2) rfl kc_))) ?_
  show own_Ends p e below s _ _ _ (s₁.setTop (mkF m 3 #[.val (.int p1), .val (.int p2), .unset, .unset, .unset, .unset, .unset] [(.int (p2 &&& (1 : Int32)))]))
  by_cases hc3 : (p2 &&& (1 : Int32)) = 0
  · refine own_step (fun _ kc_ => XS.ifYes X0.here hx rfl (pc0 := 3) (pc' := 10) rfl (hb hby at_3) rfl (XT.i0_eq_t hc3) (by decide) (by decide) (XS.iconst X0.here hx rfl (hb hby at_10) (XS.istoreN X0.here hx rfl (hb hby at_11) rfl (l' := #[.val (.int p1), .val (.int p2), .val (.int (0 : Int32)), .unset, .unset, .unset, .unset]) rfl (XS.iloadN X0.here hx rfl (hb hby at_12) rfl (XS.ifYes X0.here hx rfl (pc0 := 13) (pc' := 22) rfl (hb hby at_13) rfl (XT.i0_eq_t (by decide : (0 : Int32) = 0)) (by decide) (by decide) kc_))))) ?_
    show own_Ends p e below s _ _ _ (s₁.setTop (mkF m 22 #[.val (.int p1), .val (.int p2), .val (.int (0 : Int32)), .unset, .unset, .unset, .unset] []))
    obtain ⟨T3, X3, e3, st3⟩ := getS2 X0 hx hZ hown (host := "") (Or.inl (hw _ (List.mem_of_getElem? (i := 11) rfl))) Via.refl e0 S2 (g := (mkF m 22 #[.val (.int p1), .val (.int p2), .val (.int (0 : Int32)), .unset, .unset, .unset, .unset] [])) rfl (hb hby at_22)
    refine own_step (fun _ kc_ => st3 _ kc_) ?_
    show own_Ends p e below s _ _ _ (T3.setTop (mkF m 25 #[.val (.int p1), .val (.int p2), .val (.int (0 : Int32)), .unset, .unset, .unset, .unset] [(.ref aX)]))
    refine own_step (fun _ kc_ => XS.astoreN X3.here hx rfl (hb hby at_25) rfl rfl (l' := #[.val (.int p1), .val (.int p2), .val (.int (0 : Int32)), .val (.ref aX), .unset, .unset, .unset]) rfl (XS.iloadN X3.here hx rfl (hb hby at_26) rfl (XS.i2dS X3.here hx rfl (hb hby at_27) rfl rfl (X3.ldc2DoubleC hx hown (mvT hZ (hw _ (List.mem_of_getElem? (i := 3) rfl))) (g := (mkF m 28 #[.val (.int p1), .val (.int p2), .val (.int (0 : Int32)), .val (.ref aX), .unset, .unset, .unset] [(.double (FP.i2d p1))])) rfl (hb hby at_28) _ (XS.ddivS X3.here hx rfl (hb hby at_31) rfl (own_nnan p1) rfl (XS.dstore X3.here hx rfl (hb hby at_32) rfl (l' := #[.val (.int p1), .val (.int p2), .val (.int (0 : Int32)), .val (.ref aX), .val (.double (FP.ddiv (FP.i2d p1) (4616189618054758400 : UInt64))), .second, .unset]) rfl (XS.iloadN X3.here hx rfl (hb hby at_34) rfl (XS.ifYes X3.here hx rfl (pc0 := 35) (pc' := 48) rfl (hb hby at_35) rfl (XT.i0_eq_t (by decide : (0 : Int32) = 0)) (by decide) (by decide) kc_)))))))) ?_
    show own_Ends p e below s _ _ _ (T3.setTop (mkF m 48 #[.val (.int p1), .val (.int p2), .val (.int (0 : Int32)), .val (.ref aX), .val (.double (FP.ddiv (FP.i2d p1) (4616189618054758400 : UInt64))), .second, .unset] []))
    refine own_step (fun _ kc_ => XS.iconst X3.here hx rfl (hb hby at_48) (XS.istore X3.here hx rfl (hb hby at_49) rfl (l' := #[.val (.int p1), .val (.int p2), .val (.int (0 : Int32)), .val (.ref aX), .val (.double (FP.ddiv (FP.i2d p1) (4616189618054758400 : UInt64))), .second, .val (.int (0 : Int32))]) rfl (XS.aloadN X3.here hx rfl (hb hby at_51) rfl rfl (XS.dload X3.here hx rfl (hb hby at_52) rfl kc_)))) ?_
    show own_Ends p e below s _ _ _ (T3.setTop (mkF m 54 #[.val (.int p1), .val (.int p2), .val (.int (0 : Int32)), .val (.ref aX), .val (.double (FP.ddiv (FP.i2d p1) (4616189618054758400 : UInt64))), .second, .val (.int (0 : Int32))] [(.double (FP.ddiv (FP.i2d p1) (4616189618054758400 : UInt64))), (.ref aX)]))
    obtain ⟨cq4, kq4, q4a, q4b, q4c⟩ := isOf hZ e3 E2
    obtain ⟨_, _, ⟨T4, L4, k4, n4⟩, -, X4, ⟨Lc4, hQ4, l4, y4, z4⟩, st4⟩ := X3.virtualBack hx (y := (⟨"com/example/pipewright/pipewright/service/Vasicek$Step", "runsAwayAt", "(D)Z"⟩ : MethodName)) (z := (⟨"com/example/pipewright/pipewright/service/Vasicek$Step", "runsAwayAt", "(D)Z"⟩ : MethodName)) hown (mvT hZ (hw _ (List.mem_of_getElem? (i := 4) rfl))) (mvT hZ (hw _ (List.mem_of_getElem? (i := 5) rfl))) (notFace_of_selects (args := #[]) (mvT hZ (hw _ (List.mem_of_getElem? (i := 7) rfl)))) (mvT hZ (hw _ (List.mem_of_getElem? (i := 7) rfl))) (mvT hZ (hw _ (List.mem_of_getElem? (i := 6) rfl))) (by decide) (backOf (W := 0) (rmR0 l Z a0 hw [] aX (FP.ddiv (FP.i2d p1) (4616189618054758400 : UInt64)) aE h0 n0 Z0 S1 hne) hZ (hw _ (List.mem_of_getElem? (i := 8) rfl)) (hw _ (List.mem_of_getElem? (i := 1) rfl)) (by decide) (by decide)) q4a q4c (g := (mkF m 54 #[.val (.int p1), .val (.int p2), .val (.int (0 : Int32)), .val (.ref aX), .val (.double (FP.ddiv (FP.i2d p1) (4616189618054758400 : UInt64))), .second, .val (.int (0 : Int32))] [(.double (FP.ddiv (FP.i2d p1) (4616189618054758400 : UInt64))), (.ref aX)])) rfl (by rw [hml]; rfl) (Steps.refl _) (argsL := [(.double (FP.ddiv (FP.i2d p1) (4616189618054758400 : UInt64)))]) (rest := []) (lenOf pd_0 rfl) rfl (by show 2 * 0 + _ ≤ _; exact Nat.le_of_eq rfl) (hb hby at_54) (fun _ _ => ⟨rfl, e3, (by decide : 0 + 0 ≤ _), (by decide : 0 + 0 ≤ _)⟩)
    dsimp only [Pt.U, Pt.locs, Pt.cells, Pt.slots] at X4 l4 y4 z4 st4 hQ4
    subst y4 z4
    obtain ⟨rfl, N4q, e4⟩ := hQ4
    have e4h : T4.heap = h0 := e4
    have N4 : Fr n0 L4 := by rw [l4]; exact Fr.app N0 N4q
    refine own_step (fun _ kc_ => st4.trans kc_) ?_
    show own_Ends p e below s _ _ _ (T4.setTop (mkF m 57 #[.val (.int p1), .val (.int p2), .val (.int (0 : Int32)), .val (.ref aX), .val (.double (FP.ddiv (FP.i2d p1) (4616189618054758400 : UInt64))), .second, .val (.int (0 : Int32))] [(.int (0 : Int32))]))
    refine own_step (fun _ kc_ => XS.iload X4.here hx rfl (hb hby at_57) rfl (XS.icmpNo X4.here hx rfl (hb hby at_59) rfl (XT.ii_ne_f (by decide : (0 : Int32) = (0 : Int32))) (XS.iconst X4.here hx rfl (hb hby at_62) (XS.goto X4.here hx rfl (pc0 := 63) (pc' := 67) rfl (hb hby at_63) (by decide) (by decide) kc_)))) ?_
    show own_Ends p e below s _ _ _ (T4.setTop (mkF m 67 #[.val (.int p1), .val (.int p2), .val (.int (0 : Int32)), .val (.ref aX), .val (.double (FP.ddiv (FP.i2d p1) (4616189618054758400 : UInt64))), .second, .val (.int (0 : Int32))] [(.int (1 : Int32))]))
    exact own_retN X4 hx (t := .boolean) hret (by simp) hlk (hb hby at_67) (by decide) (by decide) rfl ⟨rfl, N4⟩
  · refine own_step (fun _ kc_ => XS.ifNo X0.here hx rfl (hb hby at_3) rfl (XT.i0_eq_f hc3) (XS.iconst X0.here hx rfl (hb hby at_6) (XS.goto X0.here hx rfl (pc0 := 7) (pc' := 11) rfl (hb hby at_7) (by decide) (by decide) (XS.istoreN X0.here hx rfl (hb hby at_11) rfl (l' := #[.val (.int p1), .val (.int p2), .val (.int (1 : Int32)), .unset, .unset, .unset, .unset]) rfl (XS.iloadN X0.here hx rfl (hb hby at_12) rfl (XS.ifNo X0.here hx rfl (hb hby at_13) rfl (XT.i0_eq_f (by decide : ¬ ((1 : Int32) = 0))) kc_)))))) ?_
    show own_Ends p e below s _ _ _ (s₁.setTop (mkF m 16 #[.val (.int p1), .val (.int p2), .val (.int (1 : Int32)), .unset, .unset, .unset, .unset] []))
    obtain ⟨T5, X5, e5, st5⟩ := getS2 X0 hx hZ hown (host := "") (Or.inl (hw _ (List.mem_of_getElem? (i := 0) rfl))) Via.refl e0 S1 (g := (mkF m 16 #[.val (.int p1), .val (.int p2), .val (.int (1 : Int32)), .unset, .unset, .unset, .unset] [])) rfl (hb hby at_16)
    refine own_step (fun _ kc_ => st5 _ kc_) ?_
    show own_Ends p e below s _ _ _ (T5.setTop (mkF m 19 #[.val (.int p1), .val (.int p2), .val (.int (1 : Int32)), .unset, .unset, .unset, .unset] [(.ref aE)]))
    refine own_step (fun _ kc_ => XS.goto X5.here hx rfl (pc0 := 19) (pc' := 25) rfl (hb hby at_19) (by decide) (by decide) (XS.astoreN X5.here hx rfl (hb hby at_25) rfl rfl (l' := #[.val (.int p1), .val (.int p2), .val (.int (1 : Int32)), .val (.ref aE), .unset, .unset, .unset]) rfl (XS.iloadN X5.here hx rfl (hb hby at_26) rfl (XS.i2dS X5.here hx rfl (hb hby at_27) rfl rfl (X5.ldc2DoubleC hx hown (mvT hZ (hw _ (List.mem_of_getElem? (i := 3) rfl))) (g := (mkF m 28 #[.val (.int p1), .val (.int p2), .val (.int (1 : Int32)), .val (.ref aE), .unset, .unset, .unset] [(.double (FP.i2d p1))])) rfl (hb hby at_28) _ (XS.ddivS X5.here hx rfl (hb hby at_31) rfl (own_nnan p1) rfl (XS.dstore X5.here hx rfl (hb hby at_32) rfl (l' := #[.val (.int p1), .val (.int p2), .val (.int (1 : Int32)), .val (.ref aE), .val (.double (FP.ddiv (FP.i2d p1) (4616189618054758400 : UInt64))), .second, .unset]) rfl (XS.iloadN X5.here hx rfl (hb hby at_34) rfl kc_)))))))) ?_
    show own_Ends p e below s _ _ _ (T5.setTop (mkF m 35 #[.val (.int p1), .val (.int p2), .val (.int (1 : Int32)), .val (.ref aE), .val (.double (FP.ddiv (FP.i2d p1) (4616189618054758400 : UInt64))), .second, .unset] [(.int (1 : Int32))]))
    refine own_step (fun _ kc_ => XS.ifNo X5.here hx rfl (hb hby at_35) rfl (XT.i0_eq_f (by decide : ¬ ((1 : Int32) = 0))) (XS.iloadN X5.here hx rfl (hb hby at_38) rfl (XS.bipush X5.here hx rfl (hb hby at_39) kc_))) ?_
    show own_Ends p e below s _ _ _ (T5.setTop (mkF m 41 #[.val (.int p1), .val (.int p2), .val (.int (1 : Int32)), .val (.ref aE), .val (.double (FP.ddiv (FP.i2d p1) (4616189618054758400 : UInt64))), .second, .unset] [(.int (8 : Int32)), (.int p1)]))
    by_cases hc41 : (8 : Int32) < p1
    · refine own_step (fun _ kc_ => XS.icmpNo X5.here hx rfl (hb hby at_41) rfl (XT.ii_le_f hc41) (XS.iconst X5.here hx rfl (hb hby at_44) (XS.goto X5.here hx rfl (pc0 := 45) (pc' := 49) rfl (hb hby at_45) (by decide) (by decide) (XS.istore X5.here hx rfl (hb hby at_49) rfl (l' := #[.val (.int p1), .val (.int p2), .val (.int (1 : Int32)), .val (.ref aE), .val (.double (FP.ddiv (FP.i2d p1) (4616189618054758400 : UInt64))), .second, .val (.int (1 : Int32))]) rfl (XS.aloadN X5.here hx rfl (hb hby at_51) rfl rfl (XS.dload X5.here hx rfl (hb hby at_52) rfl kc_)))))) ?_
      show own_Ends p e below s _ _ _ (T5.setTop (mkF m 54 #[.val (.int p1), .val (.int p2), .val (.int (1 : Int32)), .val (.ref aE), .val (.double (FP.ddiv (FP.i2d p1) (4616189618054758400 : UInt64))), .second, .val (.int (1 : Int32))] [(.double (FP.ddiv (FP.i2d p1) (4616189618054758400 : UInt64))), (.ref aE)]))
      obtain ⟨cq6, kq6, q6a, q6b, q6c⟩ := isOf hZ e5 E1
      obtain ⟨_, _, ⟨T6, L6, k6, n6⟩, -, X6, ⟨Lc6, hQ6, l6, y6, z6⟩, st6⟩ := X5.virtualBack hx (y := (⟨"com/example/pipewright/pipewright/service/Vasicek$Step", "runsAwayAt", "(D)Z"⟩ : MethodName)) (z := (⟨"com/example/pipewright/pipewright/service/Vasicek$Step", "runsAwayAt", "(D)Z"⟩ : MethodName)) hown (mvT hZ (hw _ (List.mem_of_getElem? (i := 4) rfl))) (mvT hZ (hw _ (List.mem_of_getElem? (i := 5) rfl))) (notFace_of_selects (args := #[]) (mvT hZ (hw _ (List.mem_of_getElem? (i := 7) rfl)))) (mvT hZ (hw _ (List.mem_of_getElem? (i := 7) rfl))) (mvT hZ (hw _ (List.mem_of_getElem? (i := 6) rfl))) (by decide) (backOf (W := 0) (rmR1 l Z a0 hw [] aE (FP.ddiv (FP.i2d p1) (4616189618054758400 : UInt64))  h0 n0 Z0 S1) hZ (hw _ (List.mem_of_getElem? (i := 8) rfl)) (hw _ (List.mem_of_getElem? (i := 1) rfl)) (by decide) (by decide)) q6a q6c (g := (mkF m 54 #[.val (.int p1), .val (.int p2), .val (.int (1 : Int32)), .val (.ref aE), .val (.double (FP.ddiv (FP.i2d p1) (4616189618054758400 : UInt64))), .second, .val (.int (1 : Int32))] [(.double (FP.ddiv (FP.i2d p1) (4616189618054758400 : UInt64))), (.ref aE)])) rfl (by rw [hml]; rfl) (Steps.refl _) (argsL := [(.double (FP.ddiv (FP.i2d p1) (4616189618054758400 : UInt64)))]) (rest := []) (lenOf pd_0 rfl) rfl (by show 2 * 0 + _ ≤ _; exact Nat.le_of_eq rfl) (hb hby at_54) (fun _ _ => ⟨rfl, e5, (by decide : 0 + 0 ≤ _), (by decide : 0 + 0 ≤ _)⟩)
      dsimp only [Pt.U, Pt.locs, Pt.cells, Pt.slots] at X6 l6 y6 z6 st6 hQ6
      subst y6 z6
      obtain ⟨rfl, N6q, e6⟩ := hQ6
      have e6h : T6.heap = h0 := e6
      have N6 : Fr n0 L6 := by rw [l6]; exact Fr.app N0 N6q
      refine own_step (fun _ kc_ => st6.trans kc_) ?_
      show own_Ends p e below s _ _ _ (T6.setTop (mkF m 57 #[.val (.int p1), .val (.int p2), .val (.int (1 : Int32)), .val (.ref aE), .val (.double (FP.ddiv (FP.i2d p1) (4616189618054758400 : UInt64))), .second, .val (.int (1 : Int32))] [(.int (own_gt (FP.ddiv (FP.i2d p1) (4616189618054758400 : UInt64))))]))
      refine own_step (fun _ kc_ => XS.iload X6.here hx rfl (hb hby at_57) rfl (XS.icmpNo X6.here hx rfl (hb hby at_59) rfl (XT.ii_ne_f (by rw [own_gt, if_pos ((own_cv p1).mpr hc41)] : (own_gt (FP.ddiv (FP.i2d p1) (4616189618054758400 : UInt64))) = (1 : Int32))) (XS.iconst X6.here hx rfl (hb hby at_62) (XS.goto X6.here hx rfl (pc0 := 63) (pc' := 67) rfl (hb hby at_63) (by decide) (by decide) kc_)))) ?_
      show own_Ends p e below s _ _ _ (T6.setTop (mkF m 67 #[.val (.int p1), .val (.int p2), .val (.int (1 : Int32)), .val (.ref aE), .val (.double (FP.ddiv (FP.i2d p1) (4616189618054758400 : UInt64))), .second, .val (.int (1 : Int32))] [(.int (1 : Int32))]))
      exact own_retN X6 hx (t := .boolean) hret (by simp) hlk (hb hby at_67) (by decide) (by decide) rfl ⟨rfl, N6⟩
    · refine own_step (fun _ kc_ => XS.icmpYes X5.here hx rfl (pc0 := 41) (pc' := 48) rfl (hb hby at_41) rfl (XT.ii_le_t hc41) (by decide) (by decide) (XS.iconst X5.here hx rfl (hb hby at_48) (XS.istore X5.here hx rfl (hb hby at_49) rfl (l' := #[.val (.int p1), .val (.int p2), .val (.int (1 : Int32)), .val (.ref aE), .val (.double (FP.ddiv (FP.i2d p1) (4616189618054758400 : UInt64))), .second, .val (.int (0 : Int32))]) rfl (XS.aloadN X5.here hx rfl (hb hby at_51) rfl rfl (XS.dload X5.here hx rfl (hb hby at_52) rfl kc_))))) ?_
      show own_Ends p e below s _ _ _ (T5.setTop (mkF m 54 #[.val (.int p1), .val (.int p2), .val (.int (1 : Int32)), .val (.ref aE), .val (.double (FP.ddiv (FP.i2d p1) (4616189618054758400 : UInt64))), .second, .val (.int (0 : Int32))] [(.double (FP.ddiv (FP.i2d p1) (4616189618054758400 : UInt64))), (.ref aE)]))
      obtain ⟨cq7, kq7, q7a, q7b, q7c⟩ := isOf hZ e5 E1
      obtain ⟨_, _, ⟨T7, L7, k7, n7⟩, -, X7, ⟨Lc7, hQ7, l7, y7, z7⟩, st7⟩ := X5.virtualBack hx (y := (⟨"com/example/pipewright/pipewright/service/Vasicek$Step", "runsAwayAt", "(D)Z"⟩ : MethodName)) (z := (⟨"com/example/pipewright/pipewright/service/Vasicek$Step", "runsAwayAt", "(D)Z"⟩ : MethodName)) hown (mvT hZ (hw _ (List.mem_of_getElem? (i := 4) rfl))) (mvT hZ (hw _ (List.mem_of_getElem? (i := 5) rfl))) (notFace_of_selects (args := #[]) (mvT hZ (hw _ (List.mem_of_getElem? (i := 7) rfl)))) (mvT hZ (hw _ (List.mem_of_getElem? (i := 7) rfl))) (mvT hZ (hw _ (List.mem_of_getElem? (i := 6) rfl))) (by decide) (backOf (W := 0) (rmR1 l Z a0 hw [] aE (FP.ddiv (FP.i2d p1) (4616189618054758400 : UInt64))  h0 n0 Z0 S1) hZ (hw _ (List.mem_of_getElem? (i := 8) rfl)) (hw _ (List.mem_of_getElem? (i := 1) rfl)) (by decide) (by decide)) q7a q7c (g := (mkF m 54 #[.val (.int p1), .val (.int p2), .val (.int (1 : Int32)), .val (.ref aE), .val (.double (FP.ddiv (FP.i2d p1) (4616189618054758400 : UInt64))), .second, .val (.int (0 : Int32))] [(.double (FP.ddiv (FP.i2d p1) (4616189618054758400 : UInt64))), (.ref aE)])) rfl (by rw [hml]; rfl) (Steps.refl _) (argsL := [(.double (FP.ddiv (FP.i2d p1) (4616189618054758400 : UInt64)))]) (rest := []) (lenOf pd_0 rfl) rfl (by show 2 * 0 + _ ≤ _; exact Nat.le_of_eq rfl) (hb hby at_54) (fun _ _ => ⟨rfl, e5, (by decide : 0 + 0 ≤ _), (by decide : 0 + 0 ≤ _)⟩)
      dsimp only [Pt.U, Pt.locs, Pt.cells, Pt.slots] at X7 l7 y7 z7 st7 hQ7
      subst y7 z7
      obtain ⟨rfl, N7q, e7⟩ := hQ7
      have e7h : T7.heap = h0 := e7
      have N7 : Fr n0 L7 := by rw [l7]; exact Fr.app N0 N7q
      refine own_step (fun _ kc_ => st7.trans kc_) ?_
      show own_Ends p e below s _ _ _ (T7.setTop (mkF m 57 #[.val (.int p1), .val (.int p2), .val (.int (1 : Int32)), .val (.ref aE), .val (.double (FP.ddiv (FP.i2d p1) (4616189618054758400 : UInt64))), .second, .val (.int (0 : Int32))] [(.int (own_gt (FP.ddiv (FP.i2d p1) (4616189618054758400 : UInt64))))]))
      refine own_step (fun _ kc_ => XS.iload X7.here hx rfl (hb hby at_57) rfl (XS.icmpNo X7.here hx rfl (hb hby at_59) rfl (XT.ii_ne_f (by rw [own_gt, if_neg (fun q => hc41 ((own_cv p1).mp q))] : (own_gt (FP.ddiv (FP.i2d p1) (4616189618054758400 : UInt64))) = (0 : Int32))) (XS.iconst X7.here hx rfl (hb hby at_62) (XS.goto X7.here hx rfl (pc0 := 63) (pc' := 67) rfl (hb hby at_63) (by decide) (by decide) kc_)))) ?_
      show own_Ends p e below s _ _ _ (T7.setTop (mkF m 67 #[.val (.int p1), .val (.int p2), .val (.int (1 : Int32)), .val (.ref aE), .val (.double (FP.ddiv (FP.i2d p1) (4616189618054758400 : UInt64))), .second, .val (.int (0 : Int32))] [(.int (1 : Int32))]))
      exact own_retN X7 hx (t := .boolean) hret (by simp) hlk (hb hby at_67) (by decide) (by decide) rfl ⟨rfl, N7⟩
set_option maxRecDepth 65536 in
set_option maxHeartbeats 40000000 in
theorem comes_1 {Post : Tables → Env → Array Value → State → Outcome → State → Prop} (hpost : ∀ tb e args s v u, (limb_1_1.after args s (.returned v) u = true ∧ limb_1_2.after args s (.returned v) u = true ∧ True) → FrameEnd s (.returned v) u (Jvm.fieldLocs frame_1_writes args s ++ Jvm.arrayLocs frame_1_arrays args s ++ Jvm.staticLocs frame_1_statics s) 0 0 → Post tb e args s (.returned v) u) :
    ArmFor flags0 classFile x code maxLocals ret World_1 tables_1 room_1 Calls_1 rest_1 Pre_1 Post := by
  intro l hfl _ _ p e ha hc hk s m args below hf hA hF happ hP
  obtain ⟨hcalls, hrest, hpre⟩ := hP
  obtain ⟨-, -, -, hnamed, -, -, -, hat⟩ := (Spec.applies_iff hf).mp happ
  obtain ⟨hg, hn⟩ := and_e (Cond.before_iff.mp (show (Jvm.Cond.and given_1 narrow_1).before args s = true from hpre))
  obtain ⟨g_c, g_0⟩ := and_e hg
  obtain ⟨w0, w1, rfl⟩ : ∃ w0 w1 : Value, args = #[w0, w1] := by
    have hs : args.size = 2 := by simpa [Cond.value, given_1] using g_c
    obtain ⟨L⟩ := args
    match L, hs with
    | [w0, w1], _ => exact ⟨w0, w1, rfl⟩
  have hw := fun d (hd : d ∈ tables_1) => atoms_spec (ws := Jvm.Cond.code x code maxLocals ret :: tables_1) hat d (List.mem_cons_of_mem _ hd)
  obtain ⟨g_v0, g_1⟩ := and_e g_0
  obtain ⟨i0, ei0⟩ := is_v g_v0
  obtain rfl : w0 = (.int i0) := Option.some.inj ei0
  obtain ⟨i1, ei1⟩ := is_v g_1
  obtain rfl : w1 = (.int i1) := Option.some.inj ei1
  obtain ⟨hn1, hn2⟩ := and_e hn
  obtain ⟨hn3, hn4⟩ := and_e hn2
  obtain ⟨hn5, hn6⟩ := and_e hn4
  obtain ⟨aE, evE⟩ := exa_v hn1
  obtain ⟨aX, evX⟩ := exa_v hn3
  have S1 := Sta.start evE (Or.inr ⟨(hw _ (List.mem_of_getElem? (i := 1) rfl)), (hw _ (List.mem_of_getElem? (i := 2) rfl))⟩)
  have S2 := Sta.start evX (Or.inr ⟨(hw _ (List.mem_of_getElem? (i := 1) rfl)), (hw _ (List.mem_of_getElem? (i := 12) rfl))⟩)
  have E1 := Exa.start evE hn1
  have E2 := Exa.start evX hn3
  have o1 : s.fieldOf? aE "java/lang/Enum" "ordinal" "I" = some (.int 1) := by rw [← fld_at evE]; exact eqv_i rfl hn6
  have o2 : s.fieldOf? aX "java/lang/Enum" "ordinal" "I" = some (.int 0) := by rw [← fld_at evX]; exact eqv_i rfl hn5
  have hne : aX ≠ aE := fun q => by rw [q, o1] at o2; exact absurd o2 (by decide)
  obtain ⟨n, o, h1, h2, h3, _, L, rfl, ⟨rfl, N⟩, hq⟩ := rm0 l s _ hw tables_1 i0 i1 aE aX s.heap s.heap.size (Nat.le_refl _) S1 S2 E1 E2 hne p e ha hc hk s m _ below hf ((Spec.applies_iff_loose hf).mp happ).1 ⟨rfl, State.Warmed39.refl s, rfl⟩ trivial
  refine ⟨n, _, h1, h2, h3, hpost _ _ _ _ _ _ ⟨Cond.after_iff.mpr rfl, Cond.after_iff.mpr (eq_i res_at (Term.int_eval (1)) rfl), trivial⟩ ⟨hq.1, hq.2.1, (hq.2.2.sift fun y hy => Or.inr (N y hy)).mono (by decide) (by decide)⟩⟩
theorem main_1_1 : Claimed_1_1 := comes_1 fun _ _ _ _ _ _ h hF => ⟨h.1, hF⟩
theorem main_1_2 : Claimed_1_2 := comes_1 fun _ _ _ _ _ _ h hF => ⟨h.2.1, hF⟩
end Jvm.Pilot.@@N@@
namespace Jvm.Pilot.@@N@@
open Jvm Jvm.ClassFile Sem Op Lib Jvm.Free Jvm.Stand Jvm.Pilot.@@N@@.Jvm.D
/-! MADE BY PROGRAM (witnessworld.py) out of the Statement's table words and the real class files: 12 classes; the members and pool entries that the words name. The judged class is class 1, her method 1. -/
namespace start1
open Jvm.ClassFile
def u (s : String) : CpInfo := .utf8 (stringToUtf16 s)
/-- a pool by its gaps: so many unusable entries, then the entry; so many at the end -/
def gap : Nat → List CpInfo → List CpInfo
  | 0, r => r
  | n + 1, r => .unusable :: gap n r
def poolList (es : List (Nat × CpInfo)) (last : Nat) : List CpInfo := es.foldr (fun e r => gap e.1 (e.2 :: r)) (gap last [])
def pool (es : List (Nat × CpInfo)) (last : Nat) : Array CpInfo := ⟨poolList es last⟩
def fileOf (pool : Array CpInfo) (this : Nat) (attrs : Array Attribute := #[]) (ms : Array MethodInfo := #[]) (fl : Nat := 33) (sup : Nat := 0) (ifs : Array Nat := #[]) (fds : Array FieldInfo := #[]) : ClassFile where
  minorVersion := 0
  majorVersion := 65
  constantPool := pool
  accessFlags := fl
  thisClass := this
  superClass := sup
  interfaces := ifs
  fields := fds
  methods := ms
  attributes := attrs
def plain (name : String) (sup : Option ClassId) : Class where
  name := name
  kind := .ordinary
  loader := none
  accessFlags := 33
  super := sup
  interfaces := #[]
  cf := none
  fields := #[]
  methods := #[]
  instanceTypes := #[]
  staticTypes := #[]
  resolved := #[]
  callSites := []
  init := .initialized
  statics := none
  mirror := none

def pool0 : Array CpInfo := pool [(5, u "<init>"), (0, u "()V"), (1, .class_ 10), (1, u "java/lang/Object")] 113

def k0m0 : Method := { name := "<init>", desc := "()V", sig := { parameters := [], returnType := none }, accessFlags := 1, code := none }
/-- java/lang/Object -/
def k0 : Class := { plain "java/lang/Object" none with
  accessFlags := 33
  interfaces := #[]
  cf := some (fileOf pool0 8 #[] #[{ accessFlags := 1, nameIndex := 5, descriptorIndex := 6, attributes := #[] }] 33 0 #[] #[])
  fields := #[]
  methods := #[k0m0]
  instanceTypes := #[]
  staticTypes := #[]
  resolved := Array.replicate 124 none
  statics := none }

def pool1 : Array CpInfo := pool [(2, .class_ 4), (1, u "java/lang/Object"), (0, u "<init>"), (0, u "()V"), (0, .fieldref 8 9), (0, .class_ 10), (0, .nameAndType 11 12), (0, u "com/example/pipewright/pipewright/service/Vasicek$Step"), (0, u "EULER"), (0, u "Lcom/example/pipewright/pipewright/service/Vasicek$Step;"), (0, .fieldref 8 14), (0, .nameAndType 15 12), (0, u "EXACT"), (0, .double 4616189618054758400), (1, .methodref 8 19), (0, .nameAndType 20 21), (0, u "runsAwayAt"), (0, u "(D)Z"), (0, .class_ 23), (0, u "com/example/pipewright/pipewright/service/StepRunsAwayAtPinLaw"), (2, u "law"), (0, u "(II)Z")] 7

def k1m0 : Method := { name := "<init>", desc := "()V", sig := { parameters := [], returnType := none }, accessFlags := 2, code := none }
def k1c1 : Code := { maxStack := 4, maxLocals := 7, code := code, exceptionTable := #[], attributes := #[] }
def k1m1 : Method := { name := "law", desc := "(II)Z", sig := { parameters := [.int, .int], returnType := some .boolean }, accessFlags := 9, code := some k1c1 }
/-- com/example/pipewright/pipewright/service/StepRunsAwayAtPinLaw -/
def k1 : Class := { plain "com/example/pipewright/pipewright/service/StepRunsAwayAtPinLaw" (some 0) with
  accessFlags := 49
  interfaces := #[]
  cf := some (fileOf pool1 22 #[] #[{ accessFlags := 2, nameIndex := 5, descriptorIndex := 6, attributes := #[] }, { accessFlags := 9, nameIndex := 26, descriptorIndex := 27, attributes := #[] }] 49 2 #[] #[])
  fields := #[]
  methods := #[k1m0, k1m1]
  instanceTypes := #[]
  staticTypes := #[]
  resolved := Array.replicate 35 none
  statics := none }

def pool2 : Array CpInfo := pool [(1, .class_ 2), (0, u "java/lang/constant/Constable"), (0, .class_ 4), (0, u "java/lang/Object")] 6

/-- java/lang/constant/Constable -/
def k2 : Class := { plain "java/lang/constant/Constable" (some 0) with
  accessFlags := 1537
  interfaces := #[]
  cf := some (fileOf pool2 1 #[] #[] 1537 3 #[] #[])
  fields := #[]
  methods := #[]
  instanceTypes := #[]
  staticTypes := #[]
  resolved := Array.replicate 11 none
  statics := none }

def pool3 : Array CpInfo := pool [(1, .class_ 2), (0, u "java/lang/Comparable"), (0, .class_ 4), (0, u "java/lang/Object")] 7

/-- java/lang/Comparable -/
def k3 : Class := { plain "java/lang/Comparable" (some 0) with
  accessFlags := 1537
  interfaces := #[]
  cf := some (fileOf pool3 1 #[] #[] 1537 3 #[] #[])
  fields := #[]
  methods := #[]
  instanceTypes := #[]
  staticTypes := #[]
  resolved := Array.replicate 12 none
  statics := none }

def pool4 : Array CpInfo := pool [(1, .class_ 2), (0, u "java/io/Serializable"), (0, .class_ 4), (0, u "java/lang/Object")] 2

/-- java/io/Serializable -/
def k4 : Class := { plain "java/io/Serializable" (some 0) with
  accessFlags := 1537
  interfaces := #[]
  cf := some (fileOf pool4 1 #[] #[] 1537 3 #[] #[])
  fields := #[]
  methods := #[]
  instanceTypes := #[]
  staticTypes := #[]
  resolved := Array.replicate 7 none
  statics := none }

def pool5 : Array CpInfo := pool [(2, .class_ 4), (1, u "java/lang/Enum"), (0, u "name"), (0, u "Ljava/lang/String;"), (2, u "ordinal"), (0, u "I"), (1, .class_ 14), (1, u "java/lang/Object"), (4, u "hash"), (86, .class_ 108), (1, u "java/lang/Enum$EnumDesc"), (2, .class_ 112), (0, u "java/lang/constant/Constable"), (0, .class_ 114), (0, u "java/lang/Comparable"), (0, .class_ 116), (0, u "java/io/Serializable")] 87

/-- java/lang/Enum -/
def k5 : Class := { plain "java/lang/Enum" (some 0) with
  accessFlags := 1057
  interfaces := #[2, 3, 4]
  cf := some (fileOf pool5 2 #[.nestMembers #[106]] #[] 1057 12 #[111, 113, 115] #[{ accessFlags := 18, nameIndex := 5, descriptorIndex := 6, attributes := #[] }, { accessFlags := 18, nameIndex := 9, descriptorIndex := 10, attributes := #[] }, { accessFlags := 2, nameIndex := 19, descriptorIndex := 10, attributes := #[] }])
  fields := #[{ name := "name", type := (.object "java/lang/String"), accessFlags := 18, slot := 0, constantValue := 0 }, { name := "ordinal", type := .int, accessFlags := 18, slot := 1, constantValue := 0 }, { name := "hash", type := .int, accessFlags := 2, slot := 2, constantValue := 0 }]
  methods := #[]
  instanceTypes := #[(.object "java/lang/String"), .int, .int]
  staticTypes := #[]
  resolved := Array.replicate 204 none
  statics := none }

def pool6 : Array CpInfo := pool [(1, .class_ 2), (0, u "com/example/pipewright/pipewright/service/Vasicek"), (0, .class_ 4), (0, u "com/example/pipewright/pipewright/service/Vasicek$Step"), (2, u "EXACT"), (0, u "Lcom/example/pipewright/pipewright/service/Vasicek$Step;"), (0, .fieldref 3 10), (0, .nameAndType 11 8), (0, u "EULER"), (2, u "$VALUES"), (0, u "[Lcom/example/pipewright/pipewright/service/Vasicek$Step;"), (6, .class_ 24), (1, u "java/lang/Enum"), (6, .double 4611686018427387904), (15, u "runsAwayAt"), (0, u "(D)Z")] 8

def k6c0 : Code := { maxStack := 4, maxLocals := 3, code := prog_105_method_4_code, exceptionTable := #[], attributes := #[] }
def k6m0 : Method := { name := "runsAwayAt", desc := "(D)Z", sig := { parameters := [.double], returnType := some .boolean }, accessFlags := 1, code := some k6c0 }
/-- com/example/pipewright/pipewright/service/Vasicek$Step -/
def k6 : Class := { plain "com/example/pipewright/pipewright/service/Vasicek$Step" (some 5) with
  accessFlags := 16433
  interfaces := #[]
  cf := some (fileOf pool6 3 #[.nestHost 1] #[{ accessFlags := 1, nameIndex := 47, descriptorIndex := 48, attributes := #[] }] 16433 22 #[] #[{ accessFlags := 16409, nameIndex := 7, descriptorIndex := 8, attributes := #[] }, { accessFlags := 16409, nameIndex := 11, descriptorIndex := 8, attributes := #[] }, { accessFlags := 4122, nameIndex := 14, descriptorIndex := 15, attributes := #[] }])
  fields := #[{ name := "EXACT", type := (.object "com/example/pipewright/pipewright/service/Vasicek$Step"), accessFlags := 16409, slot := 0, constantValue := 0 }, { name := "EULER", type := (.object "com/example/pipewright/pipewright/service/Vasicek$Step"), accessFlags := 16409, slot := 1, constantValue := 0 }, { name := "$VALUES", type := (.array (.object "com/example/pipewright/pipewright/service/Vasicek$Step")), accessFlags := 4122, slot := 2, constantValue := 0 }]
  methods := #[k6m0]
  instanceTypes := #[(.object "java/lang/String"), .int, .int]
  staticTypes := #[(.object "com/example/pipewright/pipewright/service/Vasicek$Step"), (.object "com/example/pipewright/pipewright/service/Vasicek$Step"), (.array (.object "com/example/pipewright/pipewright/service/Vasicek$Step"))]
  resolved := Array.replicate 57 none
  statics := some 0 }

def pool7 : Array CpInfo := pool [(1, u "java/lang/Cloneable"), (0, .class_ 1), (0, u "java/lang/Object"), (0, .class_ 3)] 3

/-- java/lang/Cloneable -/
def k7 : Class := { plain "java/lang/Cloneable" (some 0) with
  accessFlags := 1537
  interfaces := #[]
  cf := some (fileOf pool7 2 #[] #[] 1537 4 #[] #[])
  fields := #[]
  methods := #[]
  instanceTypes := #[]
  staticTypes := #[]
  resolved := Array.replicate 8 none
  statics := none }

/-- the primitive byte -/
def k8 : Class := { plain "byte" none with kind := .primitive 'B', accessFlags := 0x411 }
/-- [B -/
def k9 : Class := { plain "[B" (some 0) with kind := .array 8 .byte, interfaces := #[7, 4], accessFlags := 1041 }

/-- the primitive int -/
def k10 : Class := { plain "int" none with kind := .primitive 'I', accessFlags := 0x411 }
/-- [I -/
def k11 : Class := { plain "[I" (some 0) with kind := .array 10 .int, interfaces := #[7, 4], accessFlags := 1041 }

def heap : Heap := #[{ cls := 6, slots := #[.ref 2, .ref 1, .null], vm := .statics 6 },
  { cls := 6, slots := #[.null, .int 1, .int 0], vm := .none },
  { cls := 6, slots := #[.null, .int 0, .int 0], vm := .none }]
def classes : Array Class := #[k0, k1, k2, k3, k4, k5, k6, k7, k8, k9, k10, k11]
def interned : List (Array UInt16 × Addr) := []
def slotsUsed : Nat := 9
def theMethod : MethodId := ⟨1, 1⟩
def args0 : Array Value := #[.int 5, .int 1]
def aboutOver (below : List Frame) : State where
  vm := { classes := classes, interned := interned.toArray }
  heap := heap
  slotsUsed := slotsUsed
  threads := #[{ frames := .invoking theMethod args0 :: below }]
def below0 : List Frame := [.native { method := ⟨0, 0⟩, args := #[] }]
def about1 : State := aboutOver below0
def p0 : Program := .bare "" "" ""
def e0 : Env := launch0.env 0 0 0
theorem w_frames : about1.frames = Frame.invoking theMethod args0 :: below0 := rfl
set_option maxRecDepth 65536 in
theorem w_args : argsFit about1.vm theMethod args0 = true := by decide +kernel
set_option maxRecDepth 65536 in
theorem w_heap : heapFits about1 = true := by decide +kernel
set_option maxRecDepth 65536 in
theorem w_runnable : about1.curStatus? = some .runnable := by decide +kernel
set_option maxRecDepth 65536 in
theorem w_alone : about1.alone = true := by decide +kernel
set_option maxRecDepth 65536 in
theorem w_named : about1.methodNamed? x = some theMethod := by decide +kernel
set_option maxRecDepth 65536 in
theorem w_hears : about1.hears theMethod below0 = true := by decide +kernel
set_option maxRecDepth 65536 in
theorem w_ripe : about1.ripe theMethod args0 below0 = true := by decide +kernel
theorem w_running : about1.status = .running := rfl
set_option maxRecDepth 65536 in
theorem w_room : about1.hasRoom e0.platform room_1 = true :=
  launch0.hasRoom_least _ room_1 (by decide +kernel) (by decide +kernel) (by decide +kernel) (by decide +kernel) (by decide +kernel) (by decide +kernel)
theorem allAtoms_all (ts : List Jvm.Cond) (a : Array Jvm.Value) (st : Jvm.State) : (allAtoms ts).before a st = ts.all (fun c => c.before a st) := by
  induction ts with
  | nil => rfl
  | cons c t ih =>
    show (Jvm.Cond.and c (allAtoms t)).before a st = _
    rw [Jvm.Cond.before_and, ih, List.all_cons]
def words1 : List Jvm.Cond := Jvm.Cond.code x code maxLocals ret :: tables_1
/-- a 'code' word, met by the world's own term for the bytes: nothing is compared byte by byte -/
theorem code_word {y : MethodName} {bytes : ByteArray} {mx : Nat} {rt : Option FieldType} {a : Array Value} {s : State} {m : MethodId} {meth : Method} {c : Code} (h1 : s.methodNamed? y = some m) (h2 : s.vm.method? m = some meth) (h3 : meth.code = some c) (h4 : c.code = bytes)
    (h5 : (c.maxLocals == mx && c.exceptionTable.isEmpty && decide (c.maxStack ≤ mostOperands) && decide (meth.sig.returnType = rt) && !meth.locks && decide (parseMethodDescriptor y.desc = some meth.sig)) = true) : (Jvm.Cond.code y bytes mx rt).before a s = true := by
  simp only [Bool.and_eq_true, beq_iff_eq, Bool.not_eq_true', decide_eq_true_eq] at h5
  obtain ⟨⟨⟨⟨⟨g1, g2⟩, g3⟩, g4⟩, g5⟩, g6⟩ := h5
  simp [Cond.before, Cond.holds, Cond.value, h1, h2, h3, h4, g1, g2, g3, g4, g5, g6]
def isCode : Jvm.Cond → Bool
  | .code _ _ _ _ => true
  | _ => false
theorem all_split {L : List Jvm.Cond} {P : Jvm.Cond → Bool} (h1 : L.all (fun c => isCode c || P c) = true) (h2 : ∀ c ∈ L.filter isCode, P c = true) : L.all P = true := by
  refine List.all_eq_true.mpr fun c hc => ?_
  have h := List.all_eq_true.mp h1 c hc
  rcases Bool.eq_false_or_eq_true (isCode c) with hi | hi
  · exact h2 c (List.mem_filter.mpr ⟨hc, hi⟩)
  · simpa [hi] using h
set_option maxRecDepth 65536 in
theorem w_c0 : (Jvm.Cond.code x code maxLocals ret).before args0 about1 = true := code_word (m := ⟨1, 1⟩) (meth := k1m1) (c := k1c1) (by decide +kernel) rfl rfl rfl (by decide +kernel)
set_option maxRecDepth 65536 in
theorem w_c1 : (Jvm.Cond.code ({ cls := "com/example/pipewright/pipewright/service/Vasicek$Step", name := "runsAwayAt", desc := "(D)Z" } : Jvm.MethodName) prog_105_method_4_code (3 : Nat) (Option.some Jvm.ClassFile.FieldType.boolean)).before args0 about1 = true := code_word (m := ⟨6, 0⟩) (meth := k6m0) (c := k6c0) (by decide +kernel) rfl rfl rfl (by decide +kernel)
def codes1 : List Jvm.Cond := [Jvm.Cond.code x code maxLocals ret, Jvm.Cond.code ({ cls := "com/example/pipewright/pipewright/service/Vasicek$Step", name := "runsAwayAt", desc := "(D)Z" } : Jvm.MethodName) prog_105_method_4_code (3 : Nat) (Option.some Jvm.ClassFile.FieldType.boolean)]
set_option maxRecDepth 65536 in
theorem codes_eq : words1.filter isCode = codes1 := rfl
theorem w_codes : ∀ c ∈ words1.filter isCode, c.before args0 about1 = true := by
  rw [codes_eq]
  intro c hc
  simp only [codes1, List.mem_cons, List.not_mem_nil, or_false] at hc
  rcases hc with rfl | rfl
  · exact w_c0
  · exact w_c1
set_option maxRecDepth 65536 in
theorem w_t1 : words1.all (fun c => isCode c || c.before args0 about1) = true := by decide +kernel
theorem w_tables : (allAtoms (Jvm.Cond.code x code maxLocals ret :: tables_1)).before args0 about1 = true := by
  rw [allAtoms_all]
  show words1.all (fun c => c.before args0 about1) = true
  refine all_split ?_ w_codes
  rw [w_t1]
set_option maxRecDepth 65536 in
theorem w_case : (Jvm.Cond.and given_1 narrow_1).before args0 about1 = true := by decide +kernel
theorem w_applies : (headSpec (Jvm.Cond.code x code maxLocals ret :: tables_1) room_1).applies x e0.platform about1 = true :=
  (Spec.applies_iff w_frames).mpr ⟨w_running, w_runnable, w_alone, w_named, w_hears, w_ripe, w_room, w_tables⟩
theorem atStart : AtStart classFile x code maxLocals ret World_1 tables_1 room_1 Calls_1 rest_1 Pre_1 launch0 p0 e0 about1 theMethod args0 below0 :=
  ⟨lists_1, trivial, launch0.admits_env _ _ _, launch0.least_env, fairChoices_fair.cas, fairChoices_fair.clock, w_frames, w_args, w_heap, w_applies, trivial, trivial, w_case⟩
end start1
theorem witness_1 : WitnessClaimed_1 := ⟨start1.p0, start1.e0, start1.about1, start1.theMethod, start1.args0, start1.below0, start1.atStart⟩
end Jvm.Pilot.@@N@@
