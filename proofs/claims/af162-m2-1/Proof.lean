import JvmDerived
import JvmDerived.Pilot.@@N@@Statement
import JvmDerived.Pilot.@@N@@Code
set_option linter.unusedVariables false
set_option linter.unusedSimpArgs false
@@BLOCK:NumsL.lean.txt@@
namespace Jvm.RoadKit
open Sem ClassFile Op Lib Jvm.Stand Jvm.Free Jvm.LawKit
section New
variable {p : Program} {l : Launch} {e : Env} {R : Room} {s : State} {m : MethodId} {args : Array Value} {below : List Frame} {meth : Method} {c : Code} {T : State} {locs : List Loc} {cells slots : Nat}
theorem retI (X : Stand p l e R s m args below meth c T locs cells slots) (hx : p.tables.exec = Jvm.exec) {pc : Nat} {Ls : Array Slot} {z : Int32} {rest : List Value} (hret : meth.sig.returnType = some .int) (hd : decode c.code pc = .ok (.ireturn, 1)) {fs : List Frame}
    (hl : ∀ (f : JFrame) (acts : List Action), f.method = m → f.locked = none → f.entered = [] → (doReturn e (T.setTop f) acts (some (.int z))).1 = T.setFrames fs) : Steps p.tables e below (T.setTop (mkF m pc Ls (.int z :: rest))) (T.setFrames fs) := by
  have hm' : T.vm.method? m = some meth := X.method'
  have hn : narrow .int (.int z) = .int z := rfl
  show Steps p.tables e below (T.setTop { method := m, pc := pc, locals := Ls, stack := _ :: rest, locked := none }) _
  jvm_step X.here [X.here.top, hx, hd, hm', hret, hn]
  first | (intro acts; rw [hl _ acts rfl rfl rfl]) | rw [hl _ _ rfl rfl rfl]
  exact Steps.refl _
end New
end Jvm.RoadKit
namespace Jvm.Pilot.@@N@@
open Jvm Jvm.ClassFile Sem Op Lib Jvm.Free Jvm.Stand Jvm.LawKit Jvm.RoadKit Bundle Jvm.Pilot.@@N@@.Jvm.D
/-- from F the invocation ends: it returns, and Q holds of what it returned, the heap and the places written -/
def own_Ends (p : Program) (e : Env) (below : List Frame) (s : State) (C S : Nat) (Q : Option Value → Heap → List Loc → Prop) (F : State) : Prop :=
  ∃ s₂ o, Steps p.tables e below F s₂ ∧ s₂.status = .running ∧ Ended s₂ below o ∧ ∃ v L, o = .returned v ∧ Q v s₂.heap L ∧ FrameEnd s o s₂ L C S
theorem own_step {p : Program} {e : Env} {below : List Frame} {s : State} {C S : Nat} {Q : Option Value → Heap → List Loc → Prop} {F F' : State} (h : ∀ t, Steps p.tables e below F' t → Steps p.tables e below F t) (k : own_Ends p e below s C S Q F') : own_Ends p e below s C S Q F := by
  obtain ⟨s₂, o, st, r⟩ := k
  exact ⟨s₂, o, h _ st, r⟩
section OwnRet
variable {p : Program} {l : Launch} {e : Env} {R : Room} {s : State} {m : MethodId} {args : Array Value} {below : List Frame} {meth : Method} {c : Code} {T : State} {locs : List Loc} {cells slots : Nat} {C S : Nat} {Q : Option Value → Heap → List Loc → Prop}
theorem own_retI (X : Stand p l e R s m args below meth c T locs cells slots) (hx : p.tables.exec = Jvm.exec) {pc : Nat} {Ls : Array Slot} {z : Int32} {rest : List Value} (hret : meth.sig.returnType = some .int) (hlk : meth.locks = false) (hd : decode c.code pc = .ok (.ireturn, 1)) (hc : cells ≤ C) (hs : slots ≤ S)
    (hQ : Q (some (.int z)) T.heap locs) : own_Ends p e below s C S Q (T.setTop (mkF m pc Ls (.int z :: rest))) := by
  obtain ⟨fs, hr, hrun, hended, hW, hsame⟩ := X.leave (v := some (.int z)) (fun h => by rw [hret] at h; cases h) hlk
  exact ⟨_, _, retI X hx hret hd hr, hrun, hended, _, _, rfl, hQ, ⟨_, rfl⟩, hW, hsame.mono hc hs⟩
theorem own_retN (X : Stand p l e R s m args below meth c T locs cells slots) (hx : p.tables.exec = Jvm.exec) {pc : Nat} {Ls : Array Slot} {z z' : Int32} {rest : List Value} {t : FieldType} (hret : meth.sig.returnType = some t) (ht : t = .boolean ∨ t = .byte ∨ t = .char ∨ t = .short) (hlk : meth.locks = false) (hd : decode c.code pc = .ok (.ireturn, 1)) (hc : cells ≤ C) (hs : slots ≤ S)
    (hz : nar t z = z') (hQ : Q (some (.int z')) T.heap locs) : own_Ends p e below s C S Q (T.setTop (mkF m pc Ls (.int z :: rest))) := by
  subst hz
  obtain ⟨fs, hr, hrun, hended, hW, hsame⟩ := X.leave (v := some (.int (nar t z))) (fun h => by rw [hret] at h; cases h) hlk
  exact ⟨_, _, retN X hx hret ht hd hr, hrun, hended, _, _, rfl, hQ, ⟨_, rfl⟩, hW, hsame.mono hc hs⟩
theorem own_retJ (X : Stand p l e R s m args below meth c T locs cells slots) (hx : p.tables.exec = Jvm.exec) {pc : Nat} {Ls : Array Slot} {z : Int64} (hret : meth.sig.returnType = some .long) (hlk : meth.locks = false) (hd : decode c.code pc = .ok (.lreturn, 1)) (hc : cells ≤ C) (hs : slots ≤ S)
    (hQ : Q (some (.long z)) T.heap locs) : own_Ends p e below s C S Q (T.setTop (mkF m pc Ls [.long z])) := by
  obtain ⟨fs, hr, hrun, hended, hW, hsame⟩ := X.leave (v := some (.long z)) (fun h => by rw [hret] at h; cases h) hlk
  exact ⟨_, _, X.lreturnOut hx hret hd hr, hrun, hended, _, _, rfl, hQ, ⟨_, rfl⟩, hW, hsame.mono hc hs⟩
theorem own_retV (X : Stand p l e R s m args below meth c T locs cells slots) (hx : p.tables.exec = Jvm.exec) {pc : Nat} {Ls : Array Slot} (hret : meth.sig.returnType = none) (hlk : meth.locks = false) (hd : decode c.code pc = .ok (.return_, 1)) (hc : cells ≤ C) (hs : slots ≤ S)
    (hQ : Q none T.heap locs) : own_Ends p e below s C S Q (T.setTop (mkF m pc Ls [])) := by
  obtain ⟨fs, hr, hrun, hended, hW, hsame⟩ := X.leave (v := none) (fun _ => rfl) hlk
  exact ⟨_, _, X.returnOut hx hret hd hr, hrun, hended, _, _, rfl, hQ, ⟨_, rfl⟩, hW, hsame.mono hc hs⟩
theorem own_retR (X : Stand p l e R s m args below meth c T locs cells slots) (hx : p.tables.exec = Jvm.exec) {pc : Nat} {Ls : Array Slot} {w : Value} {t : FieldType} {rest : List Value} (hret : meth.sig.returnType = some t) (ht : t.isReference = true) (hw : w.isRef = true) (hn : narrow t w = w) (hlk : meth.locks = false) (hd : decode c.code pc = .ok (.areturn, 1)) (hc : cells ≤ C) (hs : slots ≤ S)
    (hQ : Q (some w) T.heap locs) : own_Ends p e below s C S Q (T.setTop (mkF m pc Ls (w :: rest))) := by
  obtain ⟨fs, hr, hrun, hended, hW, hsame⟩ := X.leave (v := some w) (fun h => by rw [hret] at h; cases h) hlk
  exact ⟨_, _, retOut X hx hret hn (Or.inr (Or.inr (Or.inr (Or.inr ⟨rfl, ht, hw⟩)))) hd hr, hrun, hended, _, _, rfl, hQ, ⟨_, rfl⟩, hW, hsame.mono hc hs⟩
end OwnRet
def own_mi (p : Int32) : Int32 := if p < 1 then 0 else if 1200 < p then 0 else 1
def own_min (p q : Int32) : Int32 := if q < p then q else p
def own_max (p q : Int32) : Int32 := if p < q then q else p
theorem own_min_i (p q : Int32) : (own_min p q).toInt = min p.toInt q.toInt := by
  rw [own_min]; split <;> rename_i h <;> rw [Int32.lt_iff_toInt_lt] at h <;> omega
theorem own_max_i (p q : Int32) : (own_max p q).toInt = max p.toInt q.toInt := by
  rw [own_max]; split <;> rename_i h <;> rw [Int32.lt_iff_toInt_lt] at h <;> omega
theorem own_mi_iff (p : Int32) : own_mi p = 0 ↔ (p.toInt < 1 ∨ 1200 < p.toInt) := by
  have e1 : (1 : Int32).toInt = 1 := rfl
  have e2 : (1200 : Int32).toInt = 1200 := rfl
  rw [own_mi]; split <;> rename_i h <;> rw [Int32.lt_iff_toInt_lt] at h
  · simp; omega
  · split <;> rename_i h' <;> rw [Int32.lt_iff_toInt_lt] at h'
    · simp; omega
    · simp; omega
theorem own_mid (a b c lo hi : Int32) (h1 : own_min a (own_min b c) = lo) (h2 : own_max a (own_max b c) = hi) : (((((a.toInt64 + b.toInt64) + c.toInt64) - lo.toInt64) - hi.toInt64).toInt32).toInt = a.toInt + b.toInt + c.toInt - lo.toInt - hi.toInt := by
  have g1 : lo.toInt = min a.toInt (min b.toInt c.toInt) := by rw [← h1, own_min_i, own_min_i]
  have g2 : hi.toInt = max a.toInt (max b.toInt c.toInt) := by rw [← h2, own_max_i, own_max_i]
  have a1 := Int32.toInt_lt a
  have a2 := Int32.le_toInt a
  have b1 := Int32.toInt_lt b
  have b2 := Int32.le_toInt b
  have c1 := Int32.toInt_lt c
  have c2 := Int32.le_toInt c
  have ea := Jvm.Kit.i64_of_i32 a
  have eb := Jvm.Kit.i64_of_i32 b
  have ec := Jvm.Kit.i64_of_i32 c
  have el := Jvm.Kit.i64_of_i32 lo
  have eh := Jvm.Kit.i64_of_i32 hi
  have s1 : (a.toInt64 + b.toInt64).toInt = a.toInt64.toInt + b.toInt64.toInt := Jvm.Kit.i64_add (by omega) (by omega)
  have s2 : (a.toInt64 + b.toInt64 + c.toInt64).toInt = (a.toInt64 + b.toInt64).toInt + c.toInt64.toInt := Jvm.Kit.i64_add (by omega) (by omega)
  have s3 : (a.toInt64 + b.toInt64 + c.toInt64 - lo.toInt64).toInt = (a.toInt64 + b.toInt64 + c.toInt64).toInt - lo.toInt64.toInt := Jvm.Kit.i64_sub (by omega) (by omega)
  have s4 : (a.toInt64 + b.toInt64 + c.toInt64 - lo.toInt64 - hi.toInt64).toInt = (a.toInt64 + b.toInt64 + c.toInt64 - lo.toInt64).toInt - hi.toInt64.toInt := Jvm.Kit.i64_sub (by omega) (by omega)
  rw [Jvm.Kit.i32_of_i64] <;> omega
theorem own_conv (a b c lo hi mid : Int32) (h1 : own_min a (own_min b c) = lo) (h2 : own_max a (own_max b c) = hi) (h3 : (((((a.toInt64 + b.toInt64) + c.toInt64) - lo.toInt64) - hi.toInt64).toInt32) = mid) : lo.toInt ≤ mid.toInt ∧ mid.toInt ≤ hi.toInt ∧ (¬ lo = a → ¬ lo = b → lo = c) ∧ (¬ hi = a → ¬ hi = b → hi = c) ∧ (¬ mid = a → ¬ mid = b → mid = c) := by
  have g1 : lo.toInt = min a.toInt (min b.toInt c.toInt) := by rw [← h1, own_min_i, own_min_i]
  have g2 : hi.toInt = max a.toInt (max b.toInt c.toInt) := by rw [← h2, own_max_i, own_max_i]
  have g3 := own_mid a b c lo hi h1 h2
  rw [h3] at g3
  simp only [← Int32.toInt_inj]
  refine ⟨?_, ?_, ?_, ?_, ?_⟩ <;> omega
theorem d1_0 : decode prog_80_method_2_code 0 = .ok (.iload_n 0, 1) := by decide +kernel
theorem d1_1 : decode prog_80_method_2_code 1 = .ok (.iconst 1, 1) := by decide +kernel
theorem d1_2 : decode prog_80_method_2_code 2 = .ok (.if_icmp .lt 14, 3) := by decide +kernel
theorem d1_5 : decode prog_80_method_2_code 5 = .ok (.iload_n 0, 1) := by decide +kernel
theorem d1_6 : decode prog_80_method_2_code 6 = .ok (.sipush 1200, 3) := by decide +kernel
theorem d1_9 : decode prog_80_method_2_code 9 = .ok (.if_icmp .gt 7, 3) := by decide +kernel
theorem d1_12 : decode prog_80_method_2_code 12 = .ok (.iconst 1, 1) := by decide +kernel
theorem d1_13 : decode prog_80_method_2_code 13 = .ok (.goto 4, 3) := by decide +kernel
theorem d1_16 : decode prog_80_method_2_code 16 = .ok (.iconst 0, 1) := by decide +kernel
theorem d1_17 : decode prog_80_method_2_code 17 = .ok (.ireturn, 1) := by decide +kernel
theorem pn_0 : plainName "com/example/pipewright/pipewright/service/Limits" = true := by first | (simp [plainName, overriddenIn]; done) | decide +kernel
theorem ef_rm1 (m : MethodId) (p1 : Int32) : entryFrame m #[(.int p1)] 1 = mkF m 0 #[.val (.int p1)] [] := by first | (simp [entryFrame, mkF, argsToLocals, Value.category]; done) | rfl
def Q1 (Z : State) (p1 : Int32)  (h0 : Heap) (n0 : Nat) (v : Option Value) (h : Heap) (L : List Loc) : Prop := v = some (.int (own_mi p1)) ∧ Fr n0 L ∧ h = h0
set_option maxRecDepth 65536 in
set_option maxHeartbeats 40000000 in
theorem rm1 (l : Launch) (Z : State) (a0 : Array Value) (hw : ∀ d ∈ tables_1, d.before a0 Z = true) (ws : List Jvm.Cond) (p1 : Int32)  (h0 : Heap) (n0 : Nat) (Z0 : n0 ≤ h0.size)  :
    MetFree l (⟨"com/example/pipewright/pipewright/service/Limits", "monthsInRange", "(I)Z"⟩ : MethodName) (head1 (Jvm.Cond.code (⟨"com/example/pipewright/pipewright/service/Limits", "monthsInRange", "(I)Z"⟩ : MethodName) prog_80_method_2_code 1 (some .boolean) :: ws) ({ frames := 0, cells := 0, slots := 0, locals := 0 } : Room)) (fun a U => a = #[(.int p1)] ∧ Z.Warmed39 U.vm ∧ U.heap = h0) (fun _ _ _ _ _ => True) (fun _ U o U' => ∃ v L, o = .returned v ∧ Q1 Z p1  h0 n0 v U'.heap L ∧ FrameEnd U o U' L ({ frames := 0, cells := 0, slots := 0, locals := 0 } : Room).cells ({ frames := 0, cells := 0, slots := 0, locals := 0 } : Room).slots) := by
  refine MetFree.of_bodySF (plainFor_of_name pn_0) hisR ?_
  intro p e s m args below meth c s₁ Bd hml0 hP hK
  obtain ⟨rfl, hZ, hh⟩ := hP
  have hx := Bd.exec
  have hby := Bd.bytes
  have hlk : meth.locks = false := BodyLoose.notSynchronized Bd
  have hret := Bd.returns
  have hml : c.maxLocals = 1 := hml0
  have hown : s.vm.findClass "com/example/pipewright/pipewright/service/Limits" = some m.cls := findClass_of_methodNamed Bd.named
  have hnm := (name_of_methodNamed Bd.named Bd.method).1
  have X0 : Stand p l e ({ frames := 0, cells := 0, slots := 0, locals := 0 } : Room) s m #[(.int p1)] below meth c s₁ [] 0 0 := Stand.of_body Bd
  have e0 : s₁.heap = h0 := by rw [← hh, Bd.state]; rfl
  have N0 := Fr.nil n0
  show own_Ends p e below s 0 0 (Q1 Z p1  h0 n0) (s₁.setTop (entryFrame m #[(.int p1)] 1))
  refine own_step (fun t k => castTop (ef_rm1 m p1) k) ?_
  show own_Ends p e below s _ _ _ (s₁.setTop (mkF m 0 #[.val (.int p1)] []))
  refine own_step (fun _ k => XS.iloadN X0.here hx rfl (hb hby d1_0) rfl (XS.iconst X0.here hx rfl (hb hby d1_1) k)) ?_
  show own_Ends p e below s _ _ _ (s₁.setTop (mkF m 2 #[.val (.int p1)] [(.int (1 : Int32)), (.int p1)]))
  by_cases hc2 : p1 < (1 : Int32)
  · refine own_step (fun _ k => XS.icmpYes X0.here hx rfl (pc0 := 2) (pc' := 16) rfl (hb hby d1_2) rfl (XT.ii_lt_t hc2) (by decide) (by decide) (XS.iconst X0.here hx rfl (hb hby d1_16) k)) ?_
    show own_Ends p e below s _ _ _ (s₁.setTop (mkF m 17 #[.val (.int p1)] [(.int (0 : Int32))]))
    exact own_retN X0 hx (t := .boolean) (z' := own_mi p1) hret (by simp) hlk (hb hby d1_17) (by decide) (by decide) (by rw [show own_mi p1 = (0 : Int32) from by simp [own_mi, hc2]]; rfl) ⟨rfl, N0, e0⟩
  · refine own_step (fun _ k => XS.icmpNo X0.here hx rfl (hb hby d1_2) rfl (XT.ii_lt_f hc2) (XS.iloadN X0.here hx rfl (hb hby d1_5) rfl (XS.sipush X0.here hx rfl (hb hby d1_6) k))) ?_
    show own_Ends p e below s _ _ _ (s₁.setTop (mkF m 9 #[.val (.int p1)] [(.int (1200 : Int32)), (.int p1)]))
    by_cases hc9 : (1200 : Int32) < p1
    · refine own_step (fun _ k => XS.icmpYes X0.here hx rfl (pc0 := 9) (pc' := 16) rfl (hb hby d1_9) rfl (XT.ii_gt_t hc9) (by decide) (by decide) (XS.iconst X0.here hx rfl (hb hby d1_16) k)) ?_
      show own_Ends p e below s _ _ _ (s₁.setTop (mkF m 17 #[.val (.int p1)] [(.int (0 : Int32))]))
      exact own_retN X0 hx (t := .boolean) (z' := own_mi p1) hret (by simp) hlk (hb hby d1_17) (by decide) (by decide) (by rw [show own_mi p1 = (0 : Int32) from by simp [own_mi, hc2, hc9]]; rfl) ⟨rfl, N0, e0⟩
    · refine own_step (fun _ k => XS.icmpNo X0.here hx rfl (hb hby d1_9) rfl (XT.ii_gt_f hc9) (XS.iconst X0.here hx rfl (hb hby d1_12) (XS.goto X0.here hx rfl (pc0 := 13) (pc' := 17) rfl (hb hby d1_13) (by decide) (by decide) k))) ?_
      show own_Ends p e below s _ _ _ (s₁.setTop (mkF m 17 #[.val (.int p1)] [(.int (1 : Int32))]))
      exact own_retN X0 hx (t := .boolean) (z' := own_mi p1) hret (by simp) hlk (hb hby d1_17) (by decide) (by decide) (by rw [show own_mi p1 = (1 : Int32) from by simp [own_mi, hc2, hc9]]; rfl) ⟨rfl, N0, e0⟩
theorem d2_0 : decode jdk_29_method_69_code 0 = .ok (.iload_n 0, 1) := by decide +kernel
theorem d2_1 : decode jdk_29_method_69_code 1 = .ok (.iload_n 1, 1) := by decide +kernel
theorem d2_2 : decode jdk_29_method_69_code 2 = .ok (.if_icmp .gt 7, 3) := by decide +kernel
theorem d2_5 : decode jdk_29_method_69_code 5 = .ok (.iload_n 0, 1) := by decide +kernel
theorem d2_6 : decode jdk_29_method_69_code 6 = .ok (.goto 4, 3) := by decide +kernel
theorem d2_9 : decode jdk_29_method_69_code 9 = .ok (.iload_n 1, 1) := by decide +kernel
theorem d2_10 : decode jdk_29_method_69_code 10 = .ok (.ireturn, 1) := by decide +kernel
theorem ef_rm2 (m : MethodId) (p1 : Int32) (p2 : Int32) : entryFrame m #[(.int p1), (.int p2)] 2 = mkF m 0 #[.val (.int p1), .val (.int p2)] [] := by first | (simp [entryFrame, mkF, argsToLocals, Value.category]; done) | rfl
def Q2 (Z : State) (p1 : Int32) (p2 : Int32)  (h0 : Heap) (n0 : Nat) (v : Option Value) (h : Heap) (L : List Loc) : Prop := v = some (.int (own_min p1 p2)) ∧ Fr n0 L ∧ h = h0
set_option maxRecDepth 65536 in
set_option maxHeartbeats 40000000 in
theorem rm2 (l : Launch) (Z : State) (a0 : Array Value) (hw : ∀ d ∈ tables_1, d.before a0 Z = true) (ws : List Jvm.Cond) (p1 : Int32) (p2 : Int32)  (h0 : Heap) (n0 : Nat) (Z0 : n0 ≤ h0.size)  :
    MetFree l (⟨"java/lang/Math", "min", "(II)I"⟩ : MethodName) (head1 (Jvm.Cond.code (⟨"java/lang/Math", "min", "(II)I"⟩ : MethodName) jdk_29_method_69_code 2 (some .int) :: ws) ({ frames := 0, cells := 0, slots := 0, locals := 0 } : Room)) (fun a U => a = #[(.int p1), (.int p2)] ∧ Z.Warmed39 U.vm ∧ U.heap = h0) (fun _ _ _ _ _ => True) (fun _ U o U' => ∃ v L, o = .returned v ∧ Q2 Z p1 p2  h0 n0 v U'.heap L ∧ FrameEnd U o U' L ({ frames := 0, cells := 0, slots := 0, locals := 0 } : Room).cells ({ frames := 0, cells := 0, slots := 0, locals := 0 } : Room).slots) := by
  refine MetFree.of_bodySF (Jvm.Free.JP.mathPlain rfl (by decide)) hisR ?_
  intro p e s m args below meth c s₁ Bd hml0 hP hK
  obtain ⟨rfl, hZ, hh⟩ := hP
  have hx := Bd.exec
  have hby := Bd.bytes
  have hlk : meth.locks = false := BodyLoose.notSynchronized Bd
  have hret := Bd.returns
  have hml : c.maxLocals = 2 := hml0
  have hown : s.vm.findClass "java/lang/Math" = some m.cls := findClass_of_methodNamed Bd.named
  have hnm := (name_of_methodNamed Bd.named Bd.method).1
  have X0 : Stand p l e ({ frames := 0, cells := 0, slots := 0, locals := 0 } : Room) s m #[(.int p1), (.int p2)] below meth c s₁ [] 0 0 := Stand.of_body Bd
  have e0 : s₁.heap = h0 := by rw [← hh, Bd.state]; rfl
  have N0 := Fr.nil n0
  show own_Ends p e below s 0 0 (Q2 Z p1 p2  h0 n0) (s₁.setTop (entryFrame m #[(.int p1), (.int p2)] 2))
  refine own_step (fun t k => castTop (ef_rm2 m p1 p2) k) ?_
  show own_Ends p e below s _ _ _ (s₁.setTop (mkF m 0 #[.val (.int p1), .val (.int p2)] []))
  refine own_step (fun _ k => XS.iloadN X0.here hx rfl (hb hby d2_0) rfl (XS.iloadN X0.here hx rfl (hb hby d2_1) rfl k)) ?_
  show own_Ends p e below s _ _ _ (s₁.setTop (mkF m 2 #[.val (.int p1), .val (.int p2)] [(.int p2), (.int p1)]))
  by_cases hc2 : p2 < p1
  · refine own_step (fun _ k => XS.icmpYes X0.here hx rfl (pc0 := 2) (pc' := 9) rfl (hb hby d2_2) rfl (XT.ii_gt_t hc2) (by decide) (by decide) (XS.iloadN X0.here hx rfl (hb hby d2_9) rfl k)) ?_
    show own_Ends p e below s _ _ _ (s₁.setTop (mkF m 10 #[.val (.int p1), .val (.int p2)] [(.int p2)]))
    exact own_retI X0 hx hret hlk (hb hby d2_10) (by decide) (by decide) ⟨by simp [own_min, hc2], N0, e0⟩
  · refine own_step (fun _ k => XS.icmpNo X0.here hx rfl (hb hby d2_2) rfl (XT.ii_gt_f hc2) (XS.iloadN X0.here hx rfl (hb hby d2_5) rfl (XS.goto X0.here hx rfl (pc0 := 6) (pc' := 10) rfl (hb hby d2_6) (by decide) (by decide) k))) ?_
    show own_Ends p e below s _ _ _ (s₁.setTop (mkF m 10 #[.val (.int p1), .val (.int p2)] [(.int p1)]))
    exact own_retI X0 hx hret hlk (hb hby d2_10) (by decide) (by decide) ⟨by simp [own_min, hc2], N0, e0⟩
theorem d3_0 : decode jdk_29_method_65_code 0 = .ok (.iload_n 0, 1) := by decide +kernel
theorem d3_1 : decode jdk_29_method_65_code 1 = .ok (.iload_n 1, 1) := by decide +kernel
theorem d3_2 : decode jdk_29_method_65_code 2 = .ok (.if_icmp .lt 7, 3) := by decide +kernel
theorem d3_5 : decode jdk_29_method_65_code 5 = .ok (.iload_n 0, 1) := by decide +kernel
theorem d3_6 : decode jdk_29_method_65_code 6 = .ok (.goto 4, 3) := by decide +kernel
theorem d3_9 : decode jdk_29_method_65_code 9 = .ok (.iload_n 1, 1) := by decide +kernel
theorem d3_10 : decode jdk_29_method_65_code 10 = .ok (.ireturn, 1) := by decide +kernel
theorem ef_rm3 (m : MethodId) (p1 : Int32) (p2 : Int32) : entryFrame m #[(.int p1), (.int p2)] 2 = mkF m 0 #[.val (.int p1), .val (.int p2)] [] := by first | (simp [entryFrame, mkF, argsToLocals, Value.category]; done) | rfl
def Q3 (Z : State) (p1 : Int32) (p2 : Int32)  (h0 : Heap) (n0 : Nat) (v : Option Value) (h : Heap) (L : List Loc) : Prop := v = some (.int (own_max p1 p2)) ∧ Fr n0 L ∧ h = h0
set_option maxRecDepth 65536 in
set_option maxHeartbeats 40000000 in
theorem rm3 (l : Launch) (Z : State) (a0 : Array Value) (hw : ∀ d ∈ tables_1, d.before a0 Z = true) (ws : List Jvm.Cond) (p1 : Int32) (p2 : Int32)  (h0 : Heap) (n0 : Nat) (Z0 : n0 ≤ h0.size)  :
    MetFree l (⟨"java/lang/Math", "max", "(II)I"⟩ : MethodName) (head1 (Jvm.Cond.code (⟨"java/lang/Math", "max", "(II)I"⟩ : MethodName) jdk_29_method_65_code 2 (some .int) :: ws) ({ frames := 0, cells := 0, slots := 0, locals := 0 } : Room)) (fun a U => a = #[(.int p1), (.int p2)] ∧ Z.Warmed39 U.vm ∧ U.heap = h0) (fun _ _ _ _ _ => True) (fun _ U o U' => ∃ v L, o = .returned v ∧ Q3 Z p1 p2  h0 n0 v U'.heap L ∧ FrameEnd U o U' L ({ frames := 0, cells := 0, slots := 0, locals := 0 } : Room).cells ({ frames := 0, cells := 0, slots := 0, locals := 0 } : Room).slots) := by
  refine MetFree.of_bodySF (Jvm.Free.JP.mathPlain rfl (by decide)) hisR ?_
  intro p e s m args below meth c s₁ Bd hml0 hP hK
  obtain ⟨rfl, hZ, hh⟩ := hP
  have hx := Bd.exec
  have hby := Bd.bytes
  have hlk : meth.locks = false := BodyLoose.notSynchronized Bd
  have hret := Bd.returns
  have hml : c.maxLocals = 2 := hml0
  have hown : s.vm.findClass "java/lang/Math" = some m.cls := findClass_of_methodNamed Bd.named
  have hnm := (name_of_methodNamed Bd.named Bd.method).1
  have X0 : Stand p l e ({ frames := 0, cells := 0, slots := 0, locals := 0 } : Room) s m #[(.int p1), (.int p2)] below meth c s₁ [] 0 0 := Stand.of_body Bd
  have e0 : s₁.heap = h0 := by rw [← hh, Bd.state]; rfl
  have N0 := Fr.nil n0
  show own_Ends p e below s 0 0 (Q3 Z p1 p2  h0 n0) (s₁.setTop (entryFrame m #[(.int p1), (.int p2)] 2))
  refine own_step (fun t k => castTop (ef_rm3 m p1 p2) k) ?_
  show own_Ends p e below s _ _ _ (s₁.setTop (mkF m 0 #[.val (.int p1), .val (.int p2)] []))
  refine own_step (fun _ k => XS.iloadN X0.here hx rfl (hb hby d3_0) rfl (XS.iloadN X0.here hx rfl (hb hby d3_1) rfl k)) ?_
  show own_Ends p e below s _ _ _ (s₁.setTop (mkF m 2 #[.val (.int p1), .val (.int p2)] [(.int p2), (.int p1)]))
  by_cases hc2 : p1 < p2
  · refine own_step (fun _ k => XS.icmpYes X0.here hx rfl (pc0 := 2) (pc' := 9) rfl (hb hby d3_2) rfl (XT.ii_lt_t hc2) (by decide) (by decide) (XS.iloadN X0.here hx rfl (hb hby d3_9) rfl k)) ?_
    show own_Ends p e below s _ _ _ (s₁.setTop (mkF m 10 #[.val (.int p1), .val (.int p2)] [(.int p2)]))
    exact own_retI X0 hx hret hlk (hb hby d3_10) (by decide) (by decide) ⟨by simp [own_max, hc2], N0, e0⟩
  · refine own_step (fun _ k => XS.icmpNo X0.here hx rfl (hb hby d3_2) rfl (XT.ii_lt_f hc2) (XS.iloadN X0.here hx rfl (hb hby d3_5) rfl (XS.goto X0.here hx rfl (pc0 := 6) (pc' := 10) rfl (hb hby d3_6) (by decide) (by decide) k))) ?_
    show own_Ends p e below s _ _ _ (s₁.setTop (mkF m 10 #[.val (.int p1), .val (.int p2)] [(.int p1)]))
    exact own_retI X0 hx hret hlk (hb hby d3_10) (by decide) (by decide) ⟨by simp [own_max, hc2], N0, e0⟩
theorem pn_1 : plainName "com/example/pipewright/pipewright/service/LimitsMonthsInRangePinLaw" = true := by first | (simp [plainName, overriddenIn]; done) | decide +kernel
theorem pd_0 : parseMethodDescriptor "(I)Z" = some ⟨[.int], some .boolean⟩ := by decide +kernel
theorem pd_1 : parseMethodDescriptor "(II)I" = some ⟨[.int, .int], some .int⟩ := by decide +kernel
theorem ef_rm0 (m : MethodId) (p1 : Int32) (p2 : Int32) (p3 : Int32) : entryFrame m #[(.int p1), (.int p2), (.int p3)] maxLocals = mkF m 0 #[.val (.int p1), .val (.int p2), .val (.int p3), .unset, .unset, .unset, .unset, .unset, .unset, .unset, .unset, .unset, .unset, .unset, .unset, .unset] [] := by first | (simp [entryFrame, mkF, argsToLocals, Value.category, maxLocals]; done) | rfl
def Q0 (Z : State) (p1 : Int32) (p2 : Int32) (p3 : Int32)  (h0 : Heap) (n0 : Nat) (v : Option Value) (h : Heap) (L : List Loc) : Prop := v = some (.int (1 : Int32)) ∧ Fr n0 L
set_option maxRecDepth 65536 in
set_option maxHeartbeats 40000000 in
theorem rm0 (l : Launch) (Z : State) (a0 : Array Value) (hw : ∀ d ∈ tables_1, d.before a0 Z = true) (ws : List Jvm.Cond) (p1 : Int32) (p2 : Int32) (p3 : Int32)  (h0 : Heap) (n0 : Nat) (Z0 : n0 ≤ h0.size)  :
    MetFree l x (head1 (Jvm.Cond.code x code maxLocals ret :: ws) room_1) (fun a U => a = #[(.int p1), (.int p2), (.int p3)] ∧ Z.Warmed39 U.vm ∧ U.heap = h0) (fun _ _ _ _ _ => True) (fun _ U o U' => ∃ v L, o = .returned v ∧ Q0 Z p1 p2 p3  h0 n0 v U'.heap L ∧ FrameEnd U o U' L room_1.cells room_1.slots) := by
  refine MetFree.of_bodySF (plainFor_of_name pn_1) hisR ?_
  intro p e s m args below meth c s₁ Bd hml0 hP hK
  obtain ⟨rfl, hZ, hh⟩ := hP
  have hx := Bd.exec
  have hby := Bd.bytes
  have hlk : meth.locks = false := BodyLoose.notSynchronized Bd
  have hret := Bd.returns
  have hml : c.maxLocals = 16 := hml0
  have hown : s.vm.findClass "com/example/pipewright/pipewright/service/LimitsMonthsInRangePinLaw" = some m.cls := findClass_of_methodNamed Bd.named
  have hnm := (name_of_methodNamed Bd.named Bd.method).1
  have X0 : Stand p l e room_1 s m #[(.int p1), (.int p2), (.int p3)] below meth c s₁ [] 0 0 := Stand.of_body Bd
  have e0 : s₁.heap = h0 := by rw [← hh, Bd.state]; rfl
  have N0 := Fr.nil n0
  show own_Ends p e below s 0 0 (Q0 Z p1 p2 p3  h0 n0) (s₁.setTop (entryFrame m #[(.int p1), (.int p2), (.int p3)] maxLocals))
  refine own_step (fun t k => castTop (ef_rm0 m p1 p2 p3) k) ?_
  show own_Ends p e below s _ _ _ (s₁.setTop (mkF m 0 #[.val (.int p1), .val (.int p2), .val (.int p3), .unset, .unset, .unset, .unset, .unset, .unset, .unset, .unset, .unset, .unset, .unset, .unset, .unset] []))
  refine own_step (fun _ k => XS.iconst X0.here hx rfl (hb hby at_0) k) ?_
  show own_Ends p e below s _ _ _ (s₁.setTop (mkF m 1 #[.val (.int p1), .val (.int p2), .val (.int p3), .unset, .unset, .unset, .unset, .unset, .unset, .unset, .unset, .unset, .unset, .unset, .unset, .unset] [(.int (1 : Int32))]))
  obtain ⟨_, _, ⟨T1, L1, k1, n1⟩, -, X1, ⟨Lc1, hQ1, l1, y1, z1⟩, st1⟩ := Jvm.LawKit.callS X0 hx (y := (⟨"com/example/pipewright/pipewright/service/Limits", "monthsInRange", "(I)Z"⟩ : MethodName)) hown (mvT hZ (hw _ (List.mem_of_getElem? (i := 0) rfl))) (mvT hZ (hw _ (List.mem_of_getElem? (i := 1) rfl))) (mvT hZ (hw _ (List.mem_of_getElem? (i := 2) rfl))) (mvT hZ (hw _ (List.mem_of_getElem? (i := 3) rfl))) (by decide) (backOf (W := 0) (rm1 l Z a0 hw [] (1 : Int32)  h0 n0 Z0 ) hZ (hw _ (List.mem_of_getElem? (i := 3) rfl)) (hw _ (List.mem_of_getElem? (i := 2) rfl)) (by decide) (by decide)) (g := (mkF m 1 #[.val (.int p1), .val (.int p2), .val (.int p3), .unset, .unset, .unset, .unset, .unset, .unset, .unset, .unset, .unset, .unset, .unset, .unset, .unset] [(.int (1 : Int32))])) rfl (by rw [hml]; rfl) (argsL := [(.int (1 : Int32))]) (rest := []) (lenOf pd_0 rfl) rfl (by show 2 * 0 + _ ≤ _; exact Nat.le_of_eq rfl) (hb hby at_1) (fun _ _ => ⟨rfl, e0, (by decide : 0 + 0 ≤ _), (by decide : 0 + 0 ≤ _)⟩)
  dsimp only [Pt.U, Pt.locs, Pt.cells, Pt.slots] at X1 l1 y1 z1 st1 hQ1
  subst l1 y1 z1
  obtain ⟨rfl, N1q, e1⟩ := hQ1
  have e1h : T1.heap = h0 := e1
  have N1 := Fr.app N0 N1q
  refine own_step (fun _ k => st1 _ k) ?_
  show own_Ends p e below s _ _ _ (T1.setTop (mkF m 4 #[.val (.int p1), .val (.int p2), .val (.int p3), .unset, .unset, .unset, .unset, .unset, .unset, .unset, .unset, .unset, .unset, .unset, .unset, .unset] [(.int (own_mi (1 : Int32)))]))
  refine own_step (fun _ k => XS.ifNo X1.here hx rfl (hb hby at_4) rfl (XT.i0_eq_f (by decide : ¬ ((own_mi (1 : Int32)) = 0))) (XS.sipush X1.here hx rfl (hb hby at_7) k)) ?_
  show own_Ends p e below s _ _ _ (T1.setTop (mkF m 10 #[.val (.int p1), .val (.int p2), .val (.int p3), .unset, .unset, .unset, .unset, .unset, .unset, .unset, .unset, .unset, .unset, .unset, .unset, .unset] [(.int (1200 : Int32))]))
  obtain ⟨_, _, ⟨T2, L2, k2, n2⟩, -, X2, ⟨Lc2, hQ2, l2, y2, z2⟩, st2⟩ := Jvm.LawKit.callS X1 hx (y := (⟨"com/example/pipewright/pipewright/service/Limits", "monthsInRange", "(I)Z"⟩ : MethodName)) hown (mvT hZ (hw _ (List.mem_of_getElem? (i := 0) rfl))) (mvT hZ (hw _ (List.mem_of_getElem? (i := 1) rfl))) (mvT hZ (hw _ (List.mem_of_getElem? (i := 2) rfl))) (mvT hZ (hw _ (List.mem_of_getElem? (i := 3) rfl))) (by decide) (backOf (W := 0) (rm1 l Z a0 hw [] (1200 : Int32)  h0 n0 Z0 ) hZ (hw _ (List.mem_of_getElem? (i := 3) rfl)) (hw _ (List.mem_of_getElem? (i := 2) rfl)) (by decide) (by decide)) (g := (mkF m 10 #[.val (.int p1), .val (.int p2), .val (.int p3), .unset, .unset, .unset, .unset, .unset, .unset, .unset, .unset, .unset, .unset, .unset, .unset, .unset] [(.int (1200 : Int32))])) rfl (by rw [hml]; rfl) (argsL := [(.int (1200 : Int32))]) (rest := []) (lenOf pd_0 rfl) rfl (by show 2 * 0 + _ ≤ _; exact Nat.le_of_eq rfl) (hb hby at_10) (fun _ _ => ⟨rfl, e1h, (by decide : 0 + 0 ≤ _), (by decide : 0 + 0 ≤ _)⟩)
  dsimp only [Pt.U, Pt.locs, Pt.cells, Pt.slots] at X2 l2 y2 z2 st2 hQ2
  subst l2 y2 z2
  obtain ⟨rfl, N2q, e2⟩ := hQ2
  have e2h : T2.heap = h0 := e2
  have N2 := Fr.app N1 N2q
  refine own_step (fun _ k => st2 _ k) ?_
  show own_Ends p e below s _ _ _ (T2.setTop (mkF m 13 #[.val (.int p1), .val (.int p2), .val (.int p3), .unset, .unset, .unset, .unset, .unset, .unset, .unset, .unset, .unset, .unset, .unset, .unset, .unset] [(.int (own_mi (1200 : Int32)))]))
  refine own_step (fun _ k => XS.ifNo X2.here hx rfl (hb hby at_13) rfl (XT.i0_eq_f (by decide : ¬ ((own_mi (1200 : Int32)) = 0))) (XS.iconst X2.here hx rfl (hb hby at_16) k)) ?_
  show own_Ends p e below s _ _ _ (T2.setTop (mkF m 17 #[.val (.int p1), .val (.int p2), .val (.int p3), .unset, .unset, .unset, .unset, .unset, .unset, .unset, .unset, .unset, .unset, .unset, .unset, .unset] [(.int (0 : Int32))]))
  obtain ⟨_, _, ⟨T3, L3, k3, n3⟩, -, X3, ⟨Lc3, hQ3, l3, y3, z3⟩, st3⟩ := Jvm.LawKit.callS X2 hx (y := (⟨"com/example/pipewright/pipewright/service/Limits", "monthsInRange", "(I)Z"⟩ : MethodName)) hown (mvT hZ (hw _ (List.mem_of_getElem? (i := 0) rfl))) (mvT hZ (hw _ (List.mem_of_getElem? (i := 1) rfl))) (mvT hZ (hw _ (List.mem_of_getElem? (i := 2) rfl))) (mvT hZ (hw _ (List.mem_of_getElem? (i := 3) rfl))) (by decide) (backOf (W := 0) (rm1 l Z a0 hw [] (0 : Int32)  h0 n0 Z0 ) hZ (hw _ (List.mem_of_getElem? (i := 3) rfl)) (hw _ (List.mem_of_getElem? (i := 2) rfl)) (by decide) (by decide)) (g := (mkF m 17 #[.val (.int p1), .val (.int p2), .val (.int p3), .unset, .unset, .unset, .unset, .unset, .unset, .unset, .unset, .unset, .unset, .unset, .unset, .unset] [(.int (0 : Int32))])) rfl (by rw [hml]; rfl) (argsL := [(.int (0 : Int32))]) (rest := []) (lenOf pd_0 rfl) rfl (by show 2 * 0 + _ ≤ _; exact Nat.le_of_eq rfl) (hb hby at_17) (fun _ _ => ⟨rfl, e2h, (by decide : 0 + 0 ≤ _), (by decide : 0 + 0 ≤ _)⟩)
  dsimp only [Pt.U, Pt.locs, Pt.cells, Pt.slots] at X3 l3 y3 z3 st3 hQ3
  subst l3 y3 z3
  obtain ⟨rfl, N3q, e3⟩ := hQ3
  have e3h : T3.heap = h0 := e3
  have N3 := Fr.app N2 N3q
  refine own_step (fun _ k => st3 _ k) ?_
  show own_Ends p e below s _ _ _ (T3.setTop (mkF m 20 #[.val (.int p1), .val (.int p2), .val (.int p3), .unset, .unset, .unset, .unset, .unset, .unset, .unset, .unset, .unset, .unset, .unset, .unset, .unset] [(.int (own_mi (0 : Int32)))]))
  refine own_step (fun _ k => XS.ifNo X3.here hx rfl (hb hby at_20) rfl (XT.i0_ne_f (by decide : (own_mi (0 : Int32)) = 0)) (XS.sipush X3.here hx rfl (hb hby at_23) k)) ?_
  show own_Ends p e below s _ _ _ (T3.setTop (mkF m 26 #[.val (.int p1), .val (.int p2), .val (.int p3), .unset, .unset, .unset, .unset, .unset, .unset, .unset, .unset, .unset, .unset, .unset, .unset, .unset] [(.int (1201 : Int32))]))
  obtain ⟨_, _, ⟨T4, L4, k4, n4⟩, -, X4, ⟨Lc4, hQ4, l4, y4, z4⟩, st4⟩ := Jvm.LawKit.callS X3 hx (y := (⟨"com/example/pipewright/pipewright/service/Limits", "monthsInRange", "(I)Z"⟩ : MethodName)) hown (mvT hZ (hw _ (List.mem_of_getElem? (i := 0) rfl))) (mvT hZ (hw _ (List.mem_of_getElem? (i := 1) rfl))) (mvT hZ (hw _ (List.mem_of_getElem? (i := 2) rfl))) (mvT hZ (hw _ (List.mem_of_getElem? (i := 3) rfl))) (by decide) (backOf (W := 0) (rm1 l Z a0 hw [] (1201 : Int32)  h0 n0 Z0 ) hZ (hw _ (List.mem_of_getElem? (i := 3) rfl)) (hw _ (List.mem_of_getElem? (i := 2) rfl)) (by decide) (by decide)) (g := (mkF m 26 #[.val (.int p1), .val (.int p2), .val (.int p3), .unset, .unset, .unset, .unset, .unset, .unset, .unset, .unset, .unset, .unset, .unset, .unset, .unset] [(.int (1201 : Int32))])) rfl (by rw [hml]; rfl) (argsL := [(.int (1201 : Int32))]) (rest := []) (lenOf pd_0 rfl) rfl (by show 2 * 0 + _ ≤ _; exact Nat.le_of_eq rfl) (hb hby at_26) (fun _ _ => ⟨rfl, e3h, (by decide : 0 + 0 ≤ _), (by decide : 0 + 0 ≤ _)⟩)
  dsimp only [Pt.U, Pt.locs, Pt.cells, Pt.slots] at X4 l4 y4 z4 st4 hQ4
  subst l4 y4 z4
  obtain ⟨rfl, N4q, e4⟩ := hQ4
  have e4h : T4.heap = h0 := e4
  have N4 := Fr.app N3 N4q
  refine own_step (fun _ k => st4 _ k) ?_
  show own_Ends p e below s _ _ _ (T4.setTop (mkF m 29 #[.val (.int p1), .val (.int p2), .val (.int p3), .unset, .unset, .unset, .unset, .unset, .unset, .unset, .unset, .unset, .unset, .unset, .unset, .unset] [(.int (own_mi (1201 : Int32)))]))
  refine own_step (fun _ k => XS.ifNo X4.here hx rfl (hb hby at_29) rfl (XT.i0_ne_f (by decide : (own_mi (1201 : Int32)) = 0)) (XS.iconst X4.here hx rfl (hb hby at_32) (XS.goto X4.here hx rfl (pc0 := 33) (pc' := 37) rfl (hb hby at_33) (by decide) (by decide) (XS.istoreN X4.here hx rfl (hb hby at_37) rfl (l' := #[.val (.int p1), .val (.int p2), .val (.int p3), .val (.int (1 : Int32)), .unset, .unset, .unset, .unset, .unset, .unset, .unset, .unset, .unset, .unset, .unset, .unset]) rfl (XS.iloadN X4.here hx rfl (hb hby at_38) rfl (XS.iloadN X4.here hx rfl (hb hby at_39) rfl (XS.iloadN X4.here hx rfl (hb hby at_40) rfl k))))))) ?_
  show own_Ends p e below s _ _ _ (T4.setTop (mkF m 41 #[.val (.int p1), .val (.int p2), .val (.int p3), .val (.int (1 : Int32)), .unset, .unset, .unset, .unset, .unset, .unset, .unset, .unset, .unset, .unset, .unset, .unset] [(.int p3), (.int p2), (.int p1)]))
  obtain ⟨_, _, ⟨T5, L5, k5, n5⟩, -, X5, ⟨Lc5, hQ5, l5, y5, z5⟩, st5⟩ := Jvm.LawKit.callS X4 hx (y := (⟨"java/lang/Math", "min", "(II)I"⟩ : MethodName)) hown (mvT hZ (hw _ (List.mem_of_getElem? (i := 4) rfl))) (mvT hZ (hw _ (List.mem_of_getElem? (i := 5) rfl))) (mvT hZ (hw _ (List.mem_of_getElem? (i := 6) rfl))) (mvT hZ (hw _ (List.mem_of_getElem? (i := 7) rfl))) (by decide) (backOf (W := 1) (rm2 l Z a0 hw [] p2 p3  h0 n0 Z0 ) hZ (hw _ (List.mem_of_getElem? (i := 7) rfl)) (hw _ (List.mem_of_getElem? (i := 6) rfl)) (by decide) (by decide)) (g := (mkF m 41 #[.val (.int p1), .val (.int p2), .val (.int p3), .val (.int (1 : Int32)), .unset, .unset, .unset, .unset, .unset, .unset, .unset, .unset, .unset, .unset, .unset, .unset] [(.int p3), (.int p2), (.int p1)])) rfl (by rw [hml]; rfl) (argsL := [(.int p2), (.int p3)]) (rest := [(.int p1)]) (lenOf pd_1 rfl) rfl (by show 2 * 0 + _ ≤ _; exact Nat.le_of_eq rfl) (hb hby at_41) (fun _ _ => ⟨rfl, e4h, (by decide : 0 + 0 ≤ _), (by decide : 0 + 0 ≤ _)⟩)
  dsimp only [Pt.U, Pt.locs, Pt.cells, Pt.slots] at X5 l5 y5 z5 st5 hQ5
  subst l5 y5 z5
  obtain ⟨rfl, N5q, e5⟩ := hQ5
  have e5h : T5.heap = h0 := e5
  have N5 := Fr.app N4 N5q
  refine own_step (fun _ k => st5 _ k) ?_
  show own_Ends p e below s _ _ _ (T5.setTop (mkF m 44 #[.val (.int p1), .val (.int p2), .val (.int p3), .val (.int (1 : Int32)), .unset, .unset, .unset, .unset, .unset, .unset, .unset, .unset, .unset, .unset, .unset, .unset] [(.int (own_min p2 p3)), (.int p1)]))
  obtain ⟨_, _, ⟨T6, L6, k6, n6⟩, -, X6, ⟨Lc6, hQ6, l6, y6, z6⟩, st6⟩ := Jvm.LawKit.callS X5 hx (y := (⟨"java/lang/Math", "min", "(II)I"⟩ : MethodName)) hown (mvT hZ (hw _ (List.mem_of_getElem? (i := 4) rfl))) (mvT hZ (hw _ (List.mem_of_getElem? (i := 5) rfl))) (mvT hZ (hw _ (List.mem_of_getElem? (i := 6) rfl))) (mvT hZ (hw _ (List.mem_of_getElem? (i := 7) rfl))) (by decide) (backOf (W := 0) (rm2 l Z a0 hw [] p1 (own_min p2 p3)  h0 n0 Z0 ) hZ (hw _ (List.mem_of_getElem? (i := 7) rfl)) (hw _ (List.mem_of_getElem? (i := 6) rfl)) (by decide) (by decide)) (g := (mkF m 44 #[.val (.int p1), .val (.int p2), .val (.int p3), .val (.int (1 : Int32)), .unset, .unset, .unset, .unset, .unset, .unset, .unset, .unset, .unset, .unset, .unset, .unset] [(.int (own_min p2 p3)), (.int p1)])) rfl (by rw [hml]; rfl) (argsL := [(.int p1), (.int (own_min p2 p3))]) (rest := []) (lenOf pd_1 rfl) rfl (by show 2 * 0 + _ ≤ _; exact Nat.le_of_eq rfl) (hb hby at_44) (fun _ _ => ⟨rfl, e5h, (by decide : 0 + 0 ≤ _), (by decide : 0 + 0 ≤ _)⟩)
  dsimp only [Pt.U, Pt.locs, Pt.cells, Pt.slots] at X6 l6 y6 z6 st6 hQ6
  subst l6 y6 z6
  obtain ⟨rfl, N6q, e6⟩ := hQ6
  have e6h : T6.heap = h0 := e6
  have N6 := Fr.app N5 N6q
  refine own_step (fun _ k => st6 _ k) ?_
  show own_Ends p e below s _ _ _ (T6.setTop (mkF m 47 #[.val (.int p1), .val (.int p2), .val (.int p3), .val (.int (1 : Int32)), .unset, .unset, .unset, .unset, .unset, .unset, .unset, .unset, .unset, .unset, .unset, .unset] [(.int (own_min p1 (own_min p2 p3)))]))
  refine own_step (fun _ k => XS.istore X6.here hx rfl (hb hby at_47) rfl (l' := #[.val (.int p1), .val (.int p2), .val (.int p3), .val (.int (1 : Int32)), .val (.int (own_min p1 (own_min p2 p3))), .unset, .unset, .unset, .unset, .unset, .unset, .unset, .unset, .unset, .unset, .unset]) rfl k) ?_
  show own_Ends p e below s _ _ _ (T6.setTop (mkF m 49 #[.val (.int p1), .val (.int p2), .val (.int p3), .val (.int (1 : Int32)), .val (.int (own_min p1 (own_min p2 p3))), .unset, .unset, .unset, .unset, .unset, .unset, .unset, .unset, .unset, .unset, .unset] []))
  generalize hlo : (own_min p1 (own_min p2 p3)) = lo
  show own_Ends p e below s _ _ _ (T6.setTop (mkF m 49 #[.val (.int p1), .val (.int p2), .val (.int p3), .val (.int (1 : Int32)), .val (.int lo), .unset, .unset, .unset, .unset, .unset, .unset, .unset, .unset, .unset, .unset, .unset] []))
  refine own_step (fun _ k => XS.iloadN X6.here hx rfl (hb hby at_49) rfl (XS.iloadN X6.here hx rfl (hb hby at_50) rfl (XS.iloadN X6.here hx rfl (hb hby at_51) rfl k))) ?_
  show own_Ends p e below s _ _ _ (T6.setTop (mkF m 52 #[.val (.int p1), .val (.int p2), .val (.int p3), .val (.int (1 : Int32)), .val (.int lo), .unset, .unset, .unset, .unset, .unset, .unset, .unset, .unset, .unset, .unset, .unset] [(.int p3), (.int p2), (.int p1)]))
  obtain ⟨_, _, ⟨T7, L7, k7, n7⟩, -, X7, ⟨Lc7, hQ7, l7, y7, z7⟩, st7⟩ := Jvm.LawKit.callS X6 hx (y := (⟨"java/lang/Math", "max", "(II)I"⟩ : MethodName)) hown (mvT hZ (hw _ (List.mem_of_getElem? (i := 8) rfl))) (mvT hZ (hw _ (List.mem_of_getElem? (i := 9) rfl))) (mvT hZ (hw _ (List.mem_of_getElem? (i := 6) rfl))) (mvT hZ (hw _ (List.mem_of_getElem? (i := 10) rfl))) (by decide) (backOf (W := 1) (rm3 l Z a0 hw [] p2 p3  h0 n0 Z0 ) hZ (hw _ (List.mem_of_getElem? (i := 10) rfl)) (hw _ (List.mem_of_getElem? (i := 6) rfl)) (by decide) (by decide)) (g := (mkF m 52 #[.val (.int p1), .val (.int p2), .val (.int p3), .val (.int (1 : Int32)), .val (.int lo), .unset, .unset, .unset, .unset, .unset, .unset, .unset, .unset, .unset, .unset, .unset] [(.int p3), (.int p2), (.int p1)])) rfl (by rw [hml]; rfl) (argsL := [(.int p2), (.int p3)]) (rest := [(.int p1)]) (lenOf pd_1 rfl) rfl (by show 2 * 0 + _ ≤ _; exact Nat.le_of_eq rfl) (hb hby at_52) (fun _ _ => ⟨rfl, e6h, (by decide : 0 + 0 ≤ _), (by decide : 0 + 0 ≤ _)⟩)
  dsimp only [Pt.U, Pt.locs, Pt.cells, Pt.slots] at X7 l7 y7 z7 st7 hQ7
  subst l7 y7 z7
  obtain ⟨rfl, N7q, e7⟩ := hQ7
  have e7h : T7.heap = h0 := e7
  have N7 := Fr.app N6 N7q
  refine own_step (fun _ k => st7 _ k) ?_
  show own_Ends p e below s _ _ _ (T7.setTop (mkF m 55 #[.val (.int p1), .val (.int p2), .val (.int p3), .val (.int (1 : Int32)), .val (.int lo), .unset, .unset, .unset, .unset, .unset, .unset, .unset, .unset, .unset, .unset, .unset] [(.int (own_max p2 p3)), (.int p1)]))
  obtain ⟨_, _, ⟨T8, L8, k8, n8⟩, -, X8, ⟨Lc8, hQ8, l8, y8, z8⟩, st8⟩ := Jvm.LawKit.callS X7 hx (y := (⟨"java/lang/Math", "max", "(II)I"⟩ : MethodName)) hown (mvT hZ (hw _ (List.mem_of_getElem? (i := 8) rfl))) (mvT hZ (hw _ (List.mem_of_getElem? (i := 9) rfl))) (mvT hZ (hw _ (List.mem_of_getElem? (i := 6) rfl))) (mvT hZ (hw _ (List.mem_of_getElem? (i := 10) rfl))) (by decide) (backOf (W := 0) (rm3 l Z a0 hw [] p1 (own_max p2 p3)  h0 n0 Z0 ) hZ (hw _ (List.mem_of_getElem? (i := 10) rfl)) (hw _ (List.mem_of_getElem? (i := 6) rfl)) (by decide) (by decide)) (g := (mkF m 55 #[.val (.int p1), .val (.int p2), .val (.int p3), .val (.int (1 : Int32)), .val (.int lo), .unset, .unset, .unset, .unset, .unset, .unset, .unset, .unset, .unset, .unset, .unset] [(.int (own_max p2 p3)), (.int p1)])) rfl (by rw [hml]; rfl) (argsL := [(.int p1), (.int (own_max p2 p3))]) (rest := []) (lenOf pd_1 rfl) rfl (by show 2 * 0 + _ ≤ _; exact Nat.le_of_eq rfl) (hb hby at_55) (fun _ _ => ⟨rfl, e7h, (by decide : 0 + 0 ≤ _), (by decide : 0 + 0 ≤ _)⟩)
  dsimp only [Pt.U, Pt.locs, Pt.cells, Pt.slots] at X8 l8 y8 z8 st8 hQ8
  subst l8 y8 z8
  obtain ⟨rfl, N8q, e8⟩ := hQ8
  have e8h : T8.heap = h0 := e8
  have N8 := Fr.app N7 N8q
  refine own_step (fun _ k => st8 _ k) ?_
  show own_Ends p e below s _ _ _ (T8.setTop (mkF m 58 #[.val (.int p1), .val (.int p2), .val (.int p3), .val (.int (1 : Int32)), .val (.int lo), .unset, .unset, .unset, .unset, .unset, .unset, .unset, .unset, .unset, .unset, .unset] [(.int (own_max p1 (own_max p2 p3)))]))
  refine own_step (fun _ k => XS.istore X8.here hx rfl (hb hby at_58) rfl (l' := #[.val (.int p1), .val (.int p2), .val (.int p3), .val (.int (1 : Int32)), .val (.int lo), .val (.int (own_max p1 (own_max p2 p3))), .unset, .unset, .unset, .unset, .unset, .unset, .unset, .unset, .unset, .unset]) rfl k) ?_
  show own_Ends p e below s _ _ _ (T8.setTop (mkF m 60 #[.val (.int p1), .val (.int p2), .val (.int p3), .val (.int (1 : Int32)), .val (.int lo), .val (.int (own_max p1 (own_max p2 p3))), .unset, .unset, .unset, .unset, .unset, .unset, .unset, .unset, .unset, .unset] []))
  generalize hhi : (own_max p1 (own_max p2 p3)) = hi
  show own_Ends p e below s _ _ _ (T8.setTop (mkF m 60 #[.val (.int p1), .val (.int p2), .val (.int p3), .val (.int (1 : Int32)), .val (.int lo), .val (.int hi), .unset, .unset, .unset, .unset, .unset, .unset, .unset, .unset, .unset, .unset] []))
  refine own_step (fun _ k => XS.iloadN X8.here hx rfl (hb hby at_60) rfl (XS.i2l X8.here hx rfl (hb hby at_61) rfl (XS.iloadN X8.here hx rfl (hb hby at_62) rfl (XS.i2l X8.here hx rfl (hb hby at_63) rfl (XS.ladd X8.here hx rfl (hb hby at_64) rfl (XS.iloadN X8.here hx rfl (hb hby at_65) rfl (XS.i2l X8.here hx rfl (hb hby at_66) rfl (XS.ladd X8.here hx rfl (hb hby at_67) rfl k)))))))) ?_
  show own_Ends p e below s _ _ _ (T8.setTop (mkF m 68 #[.val (.int p1), .val (.int p2), .val (.int p3), .val (.int (1 : Int32)), .val (.int lo), .val (.int hi), .unset, .unset, .unset, .unset, .unset, .unset, .unset, .unset, .unset, .unset] [(.long (((p1.toInt64) + (p2.toInt64)) + (p3.toInt64)))]))
  refine own_step (fun _ k => XS.lstore X8.here hx rfl (hb hby at_68) rfl (l' := #[.val (.int p1), .val (.int p2), .val (.int p3), .val (.int (1 : Int32)), .val (.int lo), .val (.int hi), .val (.long (((p1.toInt64) + (p2.toInt64)) + (p3.toInt64))), .second, .unset, .unset, .unset, .unset, .unset, .unset, .unset, .unset]) rfl (XS.lload X8.here hx rfl (hb hby at_70) rfl (XS.iload X8.here hx rfl (hb hby at_72) rfl (XS.i2l X8.here hx rfl (hb hby at_74) rfl (XS.lsub X8.here hx rfl (hb hby at_75) rfl (XS.iload X8.here hx rfl (hb hby at_76) rfl (XS.i2l X8.here hx rfl (hb hby at_78) rfl (XS.lsub X8.here hx rfl (hb hby at_79) rfl k)))))))) ?_
  show own_Ends p e below s _ _ _ (T8.setTop (mkF m 80 #[.val (.int p1), .val (.int p2), .val (.int p3), .val (.int (1 : Int32)), .val (.int lo), .val (.int hi), .val (.long (((p1.toInt64) + (p2.toInt64)) + (p3.toInt64))), .second, .unset, .unset, .unset, .unset, .unset, .unset, .unset, .unset] [(.long (((((p1.toInt64) + (p2.toInt64)) + (p3.toInt64)) - (lo.toInt64)) - (hi.toInt64)))]))
  refine own_step (fun _ k => XS.l2i X8.here hx rfl (hb hby at_80) rfl (XS.istore X8.here hx rfl (hb hby at_81) rfl (l' := #[.val (.int p1), .val (.int p2), .val (.int p3), .val (.int (1 : Int32)), .val (.int lo), .val (.int hi), .val (.long (((p1.toInt64) + (p2.toInt64)) + (p3.toInt64))), .second, .val (.int ((((((p1.toInt64) + (p2.toInt64)) + (p3.toInt64)) - (lo.toInt64)) - (hi.toInt64)).toInt32)), .unset, .unset, .unset, .unset, .unset, .unset, .unset]) rfl k)) ?_
  show own_Ends p e below s _ _ _ (T8.setTop (mkF m 83 #[.val (.int p1), .val (.int p2), .val (.int p3), .val (.int (1 : Int32)), .val (.int lo), .val (.int hi), .val (.long (((p1.toInt64) + (p2.toInt64)) + (p3.toInt64))), .second, .val (.int ((((((p1.toInt64) + (p2.toInt64)) + (p3.toInt64)) - (lo.toInt64)) - (hi.toInt64)).toInt32)), .unset, .unset, .unset, .unset, .unset, .unset, .unset] []))
  generalize hmid : ((((((p1.toInt64) + (p2.toInt64)) + (p3.toInt64)) - (lo.toInt64)) - (hi.toInt64)).toInt32) = mid
  show own_Ends p e below s _ _ _ (T8.setTop (mkF m 83 #[.val (.int p1), .val (.int p2), .val (.int p3), .val (.int (1 : Int32)), .val (.int lo), .val (.int hi), .val (.long (((p1.toInt64) + (p2.toInt64)) + (p3.toInt64))), .second, .val (.int mid), .unset, .unset, .unset, .unset, .unset, .unset, .unset] []))
  refine own_step (fun _ k => XS.iloadN X8.here hx rfl (hb hby at_83) rfl k) ?_
  show own_Ends p e below s _ _ _ (T8.setTop (mkF m 84 #[.val (.int p1), .val (.int p2), .val (.int p3), .val (.int (1 : Int32)), .val (.int lo), .val (.int hi), .val (.long (((p1.toInt64) + (p2.toInt64)) + (p3.toInt64))), .second, .val (.int mid), .unset, .unset, .unset, .unset, .unset, .unset, .unset] [(.int p1)]))
  obtain ⟨_, _, ⟨T9, L9, k9, n9⟩, -, X9, ⟨Lc9, hQ9, l9, y9, z9⟩, st9⟩ := Jvm.LawKit.callS X8 hx (y := (⟨"com/example/pipewright/pipewright/service/Limits", "monthsInRange", "(I)Z"⟩ : MethodName)) hown (mvT hZ (hw _ (List.mem_of_getElem? (i := 0) rfl))) (mvT hZ (hw _ (List.mem_of_getElem? (i := 1) rfl))) (mvT hZ (hw _ (List.mem_of_getElem? (i := 2) rfl))) (mvT hZ (hw _ (List.mem_of_getElem? (i := 3) rfl))) (by decide) (backOf (W := 0) (rm1 l Z a0 hw [] p1  h0 n0 Z0 ) hZ (hw _ (List.mem_of_getElem? (i := 3) rfl)) (hw _ (List.mem_of_getElem? (i := 2) rfl)) (by decide) (by decide)) (g := (mkF m 84 #[.val (.int p1), .val (.int p2), .val (.int p3), .val (.int (1 : Int32)), .val (.int lo), .val (.int hi), .val (.long (((p1.toInt64) + (p2.toInt64)) + (p3.toInt64))), .second, .val (.int mid), .unset, .unset, .unset, .unset, .unset, .unset, .unset] [(.int p1)])) rfl (by rw [hml]; rfl) (argsL := [(.int p1)]) (rest := []) (lenOf pd_0 rfl) rfl (by show 2 * 0 + _ ≤ _; exact Nat.le_of_eq rfl) (hb hby at_84) (fun _ _ => ⟨rfl, e8h, (by decide : 0 + 0 ≤ _), (by decide : 0 + 0 ≤ _)⟩)
  dsimp only [Pt.U, Pt.locs, Pt.cells, Pt.slots] at X9 l9 y9 z9 st9 hQ9
  subst l9 y9 z9
  obtain ⟨rfl, N9q, e9⟩ := hQ9
  have e9h : T9.heap = h0 := e9
  have N9 := Fr.app N8 N9q
  refine own_step (fun _ k => st9 _ k) ?_
  show own_Ends p e below s _ _ _ (T9.setTop (mkF m 87 #[.val (.int p1), .val (.int p2), .val (.int p3), .val (.int (1 : Int32)), .val (.int lo), .val (.int hi), .val (.long (((p1.toInt64) + (p2.toInt64)) + (p3.toInt64))), .second, .val (.int mid), .unset, .unset, .unset, .unset, .unset, .unset, .unset] [(.int (own_mi p1))]))
  refine own_step (fun _ k => XS.istore X9.here hx rfl (hb hby at_87) rfl (l' := #[.val (.int p1), .val (.int p2), .val (.int p3), .val (.int (1 : Int32)), .val (.int lo), .val (.int hi), .val (.long (((p1.toInt64) + (p2.toInt64)) + (p3.toInt64))), .second, .val (.int mid), .val (.int (own_mi p1)), .unset, .unset, .unset, .unset, .unset, .unset]) rfl (XS.iloadN X9.here hx rfl (hb hby at_89) rfl k)) ?_
  show own_Ends p e below s _ _ _ (T9.setTop (mkF m 90 #[.val (.int p1), .val (.int p2), .val (.int p3), .val (.int (1 : Int32)), .val (.int lo), .val (.int hi), .val (.long (((p1.toInt64) + (p2.toInt64)) + (p3.toInt64))), .second, .val (.int mid), .val (.int (own_mi p1)), .unset, .unset, .unset, .unset, .unset, .unset] [(.int p2)]))
  obtain ⟨_, _, ⟨T10, L10, k10, n10⟩, -, X10, ⟨Lc10, hQ10, l10, y10, z10⟩, st10⟩ := Jvm.LawKit.callS X9 hx (y := (⟨"com/example/pipewright/pipewright/service/Limits", "monthsInRange", "(I)Z"⟩ : MethodName)) hown (mvT hZ (hw _ (List.mem_of_getElem? (i := 0) rfl))) (mvT hZ (hw _ (List.mem_of_getElem? (i := 1) rfl))) (mvT hZ (hw _ (List.mem_of_getElem? (i := 2) rfl))) (mvT hZ (hw _ (List.mem_of_getElem? (i := 3) rfl))) (by decide) (backOf (W := 0) (rm1 l Z a0 hw [] p2  h0 n0 Z0 ) hZ (hw _ (List.mem_of_getElem? (i := 3) rfl)) (hw _ (List.mem_of_getElem? (i := 2) rfl)) (by decide) (by decide)) (g := (mkF m 90 #[.val (.int p1), .val (.int p2), .val (.int p3), .val (.int (1 : Int32)), .val (.int lo), .val (.int hi), .val (.long (((p1.toInt64) + (p2.toInt64)) + (p3.toInt64))), .second, .val (.int mid), .val (.int (own_mi p1)), .unset, .unset, .unset, .unset, .unset, .unset] [(.int p2)])) rfl (by rw [hml]; rfl) (argsL := [(.int p2)]) (rest := []) (lenOf pd_0 rfl) rfl (by show 2 * 0 + _ ≤ _; exact Nat.le_of_eq rfl) (hb hby at_90) (fun _ _ => ⟨rfl, e9h, (by decide : 0 + 0 ≤ _), (by decide : 0 + 0 ≤ _)⟩)
  dsimp only [Pt.U, Pt.locs, Pt.cells, Pt.slots] at X10 l10 y10 z10 st10 hQ10
  subst l10 y10 z10
  obtain ⟨rfl, N10q, e10⟩ := hQ10
  have e10h : T10.heap = h0 := e10
  have N10 := Fr.app N9 N10q
  refine own_step (fun _ k => st10 _ k) ?_
  show own_Ends p e below s _ _ _ (T10.setTop (mkF m 93 #[.val (.int p1), .val (.int p2), .val (.int p3), .val (.int (1 : Int32)), .val (.int lo), .val (.int hi), .val (.long (((p1.toInt64) + (p2.toInt64)) + (p3.toInt64))), .second, .val (.int mid), .val (.int (own_mi p1)), .unset, .unset, .unset, .unset, .unset, .unset] [(.int (own_mi p2))]))
  refine own_step (fun _ k => XS.istore X10.here hx rfl (hb hby at_93) rfl (l' := #[.val (.int p1), .val (.int p2), .val (.int p3), .val (.int (1 : Int32)), .val (.int lo), .val (.int hi), .val (.long (((p1.toInt64) + (p2.toInt64)) + (p3.toInt64))), .second, .val (.int mid), .val (.int (own_mi p1)), .val (.int (own_mi p2)), .unset, .unset, .unset, .unset, .unset]) rfl (XS.iloadN X10.here hx rfl (hb hby at_95) rfl k)) ?_
  show own_Ends p e below s _ _ _ (T10.setTop (mkF m 96 #[.val (.int p1), .val (.int p2), .val (.int p3), .val (.int (1 : Int32)), .val (.int lo), .val (.int hi), .val (.long (((p1.toInt64) + (p2.toInt64)) + (p3.toInt64))), .second, .val (.int mid), .val (.int (own_mi p1)), .val (.int (own_mi p2)), .unset, .unset, .unset, .unset, .unset] [(.int p3)]))
  obtain ⟨_, _, ⟨T11, L11, k11, n11⟩, -, X11, ⟨Lc11, hQ11, l11, y11, z11⟩, st11⟩ := Jvm.LawKit.callS X10 hx (y := (⟨"com/example/pipewright/pipewright/service/Limits", "monthsInRange", "(I)Z"⟩ : MethodName)) hown (mvT hZ (hw _ (List.mem_of_getElem? (i := 0) rfl))) (mvT hZ (hw _ (List.mem_of_getElem? (i := 1) rfl))) (mvT hZ (hw _ (List.mem_of_getElem? (i := 2) rfl))) (mvT hZ (hw _ (List.mem_of_getElem? (i := 3) rfl))) (by decide) (backOf (W := 0) (rm1 l Z a0 hw [] p3  h0 n0 Z0 ) hZ (hw _ (List.mem_of_getElem? (i := 3) rfl)) (hw _ (List.mem_of_getElem? (i := 2) rfl)) (by decide) (by decide)) (g := (mkF m 96 #[.val (.int p1), .val (.int p2), .val (.int p3), .val (.int (1 : Int32)), .val (.int lo), .val (.int hi), .val (.long (((p1.toInt64) + (p2.toInt64)) + (p3.toInt64))), .second, .val (.int mid), .val (.int (own_mi p1)), .val (.int (own_mi p2)), .unset, .unset, .unset, .unset, .unset] [(.int p3)])) rfl (by rw [hml]; rfl) (argsL := [(.int p3)]) (rest := []) (lenOf pd_0 rfl) rfl (by show 2 * 0 + _ ≤ _; exact Nat.le_of_eq rfl) (hb hby at_96) (fun _ _ => ⟨rfl, e10h, (by decide : 0 + 0 ≤ _), (by decide : 0 + 0 ≤ _)⟩)
  dsimp only [Pt.U, Pt.locs, Pt.cells, Pt.slots] at X11 l11 y11 z11 st11 hQ11
  subst l11 y11 z11
  obtain ⟨rfl, N11q, e11⟩ := hQ11
  have e11h : T11.heap = h0 := e11
  have N11 := Fr.app N10 N11q
  refine own_step (fun _ k => st11 _ k) ?_
  show own_Ends p e below s _ _ _ (T11.setTop (mkF m 99 #[.val (.int p1), .val (.int p2), .val (.int p3), .val (.int (1 : Int32)), .val (.int lo), .val (.int hi), .val (.long (((p1.toInt64) + (p2.toInt64)) + (p3.toInt64))), .second, .val (.int mid), .val (.int (own_mi p1)), .val (.int (own_mi p2)), .unset, .unset, .unset, .unset, .unset] [(.int (own_mi p3))]))
  refine own_step (fun _ k => XS.istore X11.here hx rfl (hb hby at_99) rfl (l' := #[.val (.int p1), .val (.int p2), .val (.int p3), .val (.int (1 : Int32)), .val (.int lo), .val (.int hi), .val (.long (((p1.toInt64) + (p2.toInt64)) + (p3.toInt64))), .second, .val (.int mid), .val (.int (own_mi p1)), .val (.int (own_mi p2)), .val (.int (own_mi p3)), .unset, .unset, .unset, .unset]) rfl k) ?_
  show own_Ends p e below s _ _ _ (T11.setTop (mkF m 101 #[.val (.int p1), .val (.int p2), .val (.int p3), .val (.int (1 : Int32)), .val (.int lo), .val (.int hi), .val (.long (((p1.toInt64) + (p2.toInt64)) + (p3.toInt64))), .second, .val (.int mid), .val (.int (own_mi p1)), .val (.int (own_mi p2)), .val (.int (own_mi p3)), .unset, .unset, .unset, .unset] []))
  obtain ⟨hq1, hq2, hq3, hq4, hq5⟩ := own_conv p1 p2 p3 lo hi mid hlo hhi hmid
  have J125 : ∀ (b125 : Int32) (hb125 : b125 = own_mi lo), own_Ends p e below s 0 0 (Q0 Z p1 p2 p3  h0 n0) (T11.setTop (mkF m 125 #[.val (.int p1), .val (.int p2), .val (.int p3), .val (.int (1 : Int32)), .val (.int lo), .val (.int hi), .val (.long (((p1.toInt64) + (p2.toInt64)) + (p3.toInt64))), .second, .val (.int mid), .val (.int (own_mi p1)), .val (.int (own_mi p2)), .val (.int (own_mi p3)), .unset, .unset, .unset, .unset] [(.int b125)])) := by
    intro b125 hb125
    show own_Ends p e below s _ _ _ (T11.setTop (mkF m 125 #[.val (.int p1), .val (.int p2), .val (.int p3), .val (.int (1 : Int32)), .val (.int lo), .val (.int hi), .val (.long (((p1.toInt64) + (p2.toInt64)) + (p3.toInt64))), .second, .val (.int mid), .val (.int (own_mi p1)), .val (.int (own_mi p2)), .val (.int (own_mi p3)), .unset, .unset, .unset, .unset] [(.int b125)]))
    refine own_step (fun _ k => XS.istore X11.here hx rfl (hb hby at_125) rfl (l' := #[.val (.int p1), .val (.int p2), .val (.int p3), .val (.int (1 : Int32)), .val (.int lo), .val (.int hi), .val (.long (((p1.toInt64) + (p2.toInt64)) + (p3.toInt64))), .second, .val (.int mid), .val (.int (own_mi p1)), .val (.int (own_mi p2)), .val (.int (own_mi p3)), .val (.int b125), .unset, .unset, .unset]) rfl k) ?_
    show own_Ends p e below s _ _ _ (T11.setTop (mkF m 127 #[.val (.int p1), .val (.int p2), .val (.int p3), .val (.int (1 : Int32)), .val (.int lo), .val (.int hi), .val (.long (((p1.toInt64) + (p2.toInt64)) + (p3.toInt64))), .second, .val (.int mid), .val (.int (own_mi p1)), .val (.int (own_mi p2)), .val (.int (own_mi p3)), .val (.int b125), .unset, .unset, .unset] []))
    have J151 : ∀ (b151 : Int32) (hb151 : b151 = own_mi hi), own_Ends p e below s 0 0 (Q0 Z p1 p2 p3  h0 n0) (T11.setTop (mkF m 151 #[.val (.int p1), .val (.int p2), .val (.int p3), .val (.int (1 : Int32)), .val (.int lo), .val (.int hi), .val (.long (((p1.toInt64) + (p2.toInt64)) + (p3.toInt64))), .second, .val (.int mid), .val (.int (own_mi p1)), .val (.int (own_mi p2)), .val (.int (own_mi p3)), .val (.int b125), .unset, .unset, .unset] [(.int b151)])) := by
      intro b151 hb151
      show own_Ends p e below s _ _ _ (T11.setTop (mkF m 151 #[.val (.int p1), .val (.int p2), .val (.int p3), .val (.int (1 : Int32)), .val (.int lo), .val (.int hi), .val (.long (((p1.toInt64) + (p2.toInt64)) + (p3.toInt64))), .second, .val (.int mid), .val (.int (own_mi p1)), .val (.int (own_mi p2)), .val (.int (own_mi p3)), .val (.int b125), .unset, .unset, .unset] [(.int b151)]))
      refine own_step (fun _ k => XS.istore X11.here hx rfl (hb hby at_151) rfl (l' := #[.val (.int p1), .val (.int p2), .val (.int p3), .val (.int (1 : Int32)), .val (.int lo), .val (.int hi), .val (.long (((p1.toInt64) + (p2.toInt64)) + (p3.toInt64))), .second, .val (.int mid), .val (.int (own_mi p1)), .val (.int (own_mi p2)), .val (.int (own_mi p3)), .val (.int b125), .val (.int b151), .unset, .unset]) rfl k) ?_
      show own_Ends p e below s _ _ _ (T11.setTop (mkF m 153 #[.val (.int p1), .val (.int p2), .val (.int p3), .val (.int (1 : Int32)), .val (.int lo), .val (.int hi), .val (.long (((p1.toInt64) + (p2.toInt64)) + (p3.toInt64))), .second, .val (.int mid), .val (.int (own_mi p1)), .val (.int (own_mi p2)), .val (.int (own_mi p3)), .val (.int b125), .val (.int b151), .unset, .unset] []))
      have J177 : ∀ (b177 : Int32) (hb177 : b177 = own_mi mid), own_Ends p e below s 0 0 (Q0 Z p1 p2 p3  h0 n0) (T11.setTop (mkF m 177 #[.val (.int p1), .val (.int p2), .val (.int p3), .val (.int (1 : Int32)), .val (.int lo), .val (.int hi), .val (.long (((p1.toInt64) + (p2.toInt64)) + (p3.toInt64))), .second, .val (.int mid), .val (.int (own_mi p1)), .val (.int (own_mi p2)), .val (.int (own_mi p3)), .val (.int b125), .val (.int b151), .unset, .unset] [(.int b177)])) := by
        intro b177 hb177
        show own_Ends p e below s _ _ _ (T11.setTop (mkF m 177 #[.val (.int p1), .val (.int p2), .val (.int p3), .val (.int (1 : Int32)), .val (.int lo), .val (.int hi), .val (.long (((p1.toInt64) + (p2.toInt64)) + (p3.toInt64))), .second, .val (.int mid), .val (.int (own_mi p1)), .val (.int (own_mi p2)), .val (.int (own_mi p3)), .val (.int b125), .val (.int b151), .unset, .unset] [(.int b177)]))
        refine own_step (fun _ k => XS.istore X11.here hx rfl (hb hby at_177) rfl (l' := #[.val (.int p1), .val (.int p2), .val (.int p3), .val (.int (1 : Int32)), .val (.int lo), .val (.int hi), .val (.long (((p1.toInt64) + (p2.toInt64)) + (p3.toInt64))), .second, .val (.int mid), .val (.int (own_mi p1)), .val (.int (own_mi p2)), .val (.int (own_mi p3)), .val (.int b125), .val (.int b151), .val (.int b177), .unset]) rfl (XS.iload X11.here hx rfl (hb hby at_179) rfl k)) ?_
        show own_Ends p e below s _ _ _ (T11.setTop (mkF m 181 #[.val (.int p1), .val (.int p2), .val (.int p3), .val (.int (1 : Int32)), .val (.int lo), .val (.int hi), .val (.long (((p1.toInt64) + (p2.toInt64)) + (p3.toInt64))), .second, .val (.int mid), .val (.int (own_mi p1)), .val (.int (own_mi p2)), .val (.int (own_mi p3)), .val (.int b125), .val (.int b151), .val (.int b177), .unset] [(.int b125)]))
        by_cases hc181 : b125 = 0
        · refine own_step (fun _ k => XS.ifYes X11.here hx rfl (pc0 := 181) (pc' := 194) rfl (hb hby at_181) rfl (XT.i0_eq_t hc181) (by decide) (by decide) (XS.iconst X11.here hx rfl (hb hby at_194) (XS.goto X11.here hx rfl (pc0 := 195) (pc' := 199) rfl (hb hby at_195) (by decide) (by decide) (XS.istore X11.here hx rfl (hb hby at_199) rfl (l' := #[.val (.int p1), .val (.int p2), .val (.int p3), .val (.int (1 : Int32)), .val (.int lo), .val (.int hi), .val (.long (((p1.toInt64) + (p2.toInt64)) + (p3.toInt64))), .second, .val (.int mid), .val (.int (own_mi p1)), .val (.int (own_mi p2)), .val (.int (own_mi p3)), .val (.int b125), .val (.int b151), .val (.int b177), .val (.int (1 : Int32))]) rfl (XS.iloadN X11.here hx rfl (hb hby at_201) rfl (XS.ifNo X11.here hx rfl (hb hby at_202) rfl (XT.i0_eq_f (by decide : ¬ ((1 : Int32) = 0))) (XS.iload X11.here hx rfl (hb hby at_205) rfl (XS.ifNo X11.here hx rfl (hb hby at_207) rfl (XT.i0_eq_f (by decide : ¬ ((1 : Int32) = 0))) k)))))))) ?_
          show own_Ends p e below s _ _ _ (T11.setTop (mkF m 210 #[.val (.int p1), .val (.int p2), .val (.int p3), .val (.int (1 : Int32)), .val (.int lo), .val (.int hi), .val (.long (((p1.toInt64) + (p2.toInt64)) + (p3.toInt64))), .second, .val (.int mid), .val (.int (own_mi p1)), .val (.int (own_mi p2)), .val (.int (own_mi p3)), .val (.int b125), .val (.int b151), .val (.int b177), .val (.int (1 : Int32))] []))
          refine own_step (fun _ k => XS.iconst X11.here hx rfl (hb hby at_210) (XS.goto X11.here hx rfl (pc0 := 211) (pc' := 215) rfl (hb hby at_211) (by decide) (by decide) k)) ?_
          show own_Ends p e below s _ _ _ (T11.setTop (mkF m 215 #[.val (.int p1), .val (.int p2), .val (.int p3), .val (.int (1 : Int32)), .val (.int lo), .val (.int hi), .val (.long (((p1.toInt64) + (p2.toInt64)) + (p3.toInt64))), .second, .val (.int mid), .val (.int (own_mi p1)), .val (.int (own_mi p2)), .val (.int (own_mi p3)), .val (.int b125), .val (.int b151), .val (.int b177), .val (.int (1 : Int32))] [(.int (1 : Int32))]))
          exact own_retN X11 hx (t := .boolean) hret (by simp) hlk (hb hby at_215) (by decide) (by decide) rfl ⟨rfl, N11⟩
        · refine own_step (fun _ k => XS.ifNo X11.here hx rfl (hb hby at_181) rfl (XT.i0_eq_f hc181) (XS.iload X11.here hx rfl (hb hby at_184) rfl k)) ?_
          show own_Ends p e below s _ _ _ (T11.setTop (mkF m 186 #[.val (.int p1), .val (.int p2), .val (.int p3), .val (.int (1 : Int32)), .val (.int lo), .val (.int hi), .val (.long (((p1.toInt64) + (p2.toInt64)) + (p3.toInt64))), .second, .val (.int mid), .val (.int (own_mi p1)), .val (.int (own_mi p2)), .val (.int (own_mi p3)), .val (.int b125), .val (.int b151), .val (.int b177), .unset] [(.int b151)]))
          by_cases hc186 : b151 = 0
          · refine own_step (fun _ k => XS.ifYes X11.here hx rfl (pc0 := 186) (pc' := 194) rfl (hb hby at_186) rfl (XT.i0_eq_t hc186) (by decide) (by decide) (XS.iconst X11.here hx rfl (hb hby at_194) (XS.goto X11.here hx rfl (pc0 := 195) (pc' := 199) rfl (hb hby at_195) (by decide) (by decide) (XS.istore X11.here hx rfl (hb hby at_199) rfl (l' := #[.val (.int p1), .val (.int p2), .val (.int p3), .val (.int (1 : Int32)), .val (.int lo), .val (.int hi), .val (.long (((p1.toInt64) + (p2.toInt64)) + (p3.toInt64))), .second, .val (.int mid), .val (.int (own_mi p1)), .val (.int (own_mi p2)), .val (.int (own_mi p3)), .val (.int b125), .val (.int b151), .val (.int b177), .val (.int (1 : Int32))]) rfl (XS.iloadN X11.here hx rfl (hb hby at_201) rfl (XS.ifNo X11.here hx rfl (hb hby at_202) rfl (XT.i0_eq_f (by decide : ¬ ((1 : Int32) = 0))) (XS.iload X11.here hx rfl (hb hby at_205) rfl (XS.ifNo X11.here hx rfl (hb hby at_207) rfl (XT.i0_eq_f (by decide : ¬ ((1 : Int32) = 0))) k)))))))) ?_
            show own_Ends p e below s _ _ _ (T11.setTop (mkF m 210 #[.val (.int p1), .val (.int p2), .val (.int p3), .val (.int (1 : Int32)), .val (.int lo), .val (.int hi), .val (.long (((p1.toInt64) + (p2.toInt64)) + (p3.toInt64))), .second, .val (.int mid), .val (.int (own_mi p1)), .val (.int (own_mi p2)), .val (.int (own_mi p3)), .val (.int b125), .val (.int b151), .val (.int b177), .val (.int (1 : Int32))] []))
            refine own_step (fun _ k => XS.iconst X11.here hx rfl (hb hby at_210) (XS.goto X11.here hx rfl (pc0 := 211) (pc' := 215) rfl (hb hby at_211) (by decide) (by decide) k)) ?_
            show own_Ends p e below s _ _ _ (T11.setTop (mkF m 215 #[.val (.int p1), .val (.int p2), .val (.int p3), .val (.int (1 : Int32)), .val (.int lo), .val (.int hi), .val (.long (((p1.toInt64) + (p2.toInt64)) + (p3.toInt64))), .second, .val (.int mid), .val (.int (own_mi p1)), .val (.int (own_mi p2)), .val (.int (own_mi p3)), .val (.int b125), .val (.int b151), .val (.int b177), .val (.int (1 : Int32))] [(.int (1 : Int32))]))
            exact own_retN X11 hx (t := .boolean) hret (by simp) hlk (hb hby at_215) (by decide) (by decide) rfl ⟨rfl, N11⟩
          · refine own_step (fun _ k => XS.ifNo X11.here hx rfl (hb hby at_186) rfl (XT.i0_eq_f hc186) (XS.iload X11.here hx rfl (hb hby at_189) rfl (XS.ifNo X11.here hx rfl (hb hby at_191) rfl (XT.i0_eq_f (by rw [hb125, own_mi_iff] at hc181; rw [hb151, own_mi_iff] at hc186; rw [hb177, own_mi_iff]; omega : ¬ (b177 = 0))) (XS.iconst X11.here hx rfl (hb hby at_194) (XS.goto X11.here hx rfl (pc0 := 195) (pc' := 199) rfl (hb hby at_195) (by decide) (by decide) (XS.istore X11.here hx rfl (hb hby at_199) rfl (l' := #[.val (.int p1), .val (.int p2), .val (.int p3), .val (.int (1 : Int32)), .val (.int lo), .val (.int hi), .val (.long (((p1.toInt64) + (p2.toInt64)) + (p3.toInt64))), .second, .val (.int mid), .val (.int (own_mi p1)), .val (.int (own_mi p2)), .val (.int (own_mi p3)), .val (.int b125), .val (.int b151), .val (.int b177), .val (.int (1 : Int32))]) rfl (XS.iloadN X11.here hx rfl (hb hby at_201) rfl (XS.ifNo X11.here hx rfl (hb hby at_202) rfl (XT.i0_eq_f (by decide : ¬ ((1 : Int32) = 0))) k)))))))) ?_
            show own_Ends p e below s _ _ _ (T11.setTop (mkF m 205 #[.val (.int p1), .val (.int p2), .val (.int p3), .val (.int (1 : Int32)), .val (.int lo), .val (.int hi), .val (.long (((p1.toInt64) + (p2.toInt64)) + (p3.toInt64))), .second, .val (.int mid), .val (.int (own_mi p1)), .val (.int (own_mi p2)), .val (.int (own_mi p3)), .val (.int b125), .val (.int b151), .val (.int b177), .val (.int (1 : Int32))] []))
            refine own_step (fun _ k => XS.iload X11.here hx rfl (hb hby at_205) rfl (XS.ifNo X11.here hx rfl (hb hby at_207) rfl (XT.i0_eq_f (by decide : ¬ ((1 : Int32) = 0))) (XS.iconst X11.here hx rfl (hb hby at_210) (XS.goto X11.here hx rfl (pc0 := 211) (pc' := 215) rfl (hb hby at_211) (by decide) (by decide) k)))) ?_
            show own_Ends p e below s _ _ _ (T11.setTop (mkF m 215 #[.val (.int p1), .val (.int p2), .val (.int p3), .val (.int (1 : Int32)), .val (.int lo), .val (.int hi), .val (.long (((p1.toInt64) + (p2.toInt64)) + (p3.toInt64))), .second, .val (.int mid), .val (.int (own_mi p1)), .val (.int (own_mi p2)), .val (.int (own_mi p3)), .val (.int b125), .val (.int b151), .val (.int b177), .val (.int (1 : Int32))] [(.int (1 : Int32))]))
            exact own_retN X11 hx (t := .boolean) hret (by simp) hlk (hb hby at_215) (by decide) (by decide) rfl ⟨rfl, N11⟩
      refine own_step (fun _ k => XS.iload X11.here hx rfl (hb hby at_153) rfl (XS.iloadN X11.here hx rfl (hb hby at_155) rfl k)) ?_
      show own_Ends p e below s _ _ _ (T11.setTop (mkF m 156 #[.val (.int p1), .val (.int p2), .val (.int p3), .val (.int (1 : Int32)), .val (.int lo), .val (.int hi), .val (.long (((p1.toInt64) + (p2.toInt64)) + (p3.toInt64))), .second, .val (.int mid), .val (.int (own_mi p1)), .val (.int (own_mi p2)), .val (.int (own_mi p3)), .val (.int b125), .val (.int b151), .unset, .unset] [(.int p1), (.int mid)]))
      by_cases hc156 : mid = p1
      · refine own_step (fun _ k => XS.icmpNo X11.here hx rfl (hb hby at_156) rfl (XT.ii_ne_f hc156) (XS.iload X11.here hx rfl (hb hby at_159) rfl (XS.goto X11.here hx rfl (pc0 := 161) (pc' := 177) rfl (hb hby at_161) (by decide) (by decide) k))) ?_
        show own_Ends p e below s _ _ _ (T11.setTop (mkF m 177 #[.val (.int p1), .val (.int p2), .val (.int p3), .val (.int (1 : Int32)), .val (.int lo), .val (.int hi), .val (.long (((p1.toInt64) + (p2.toInt64)) + (p3.toInt64))), .second, .val (.int mid), .val (.int (own_mi p1)), .val (.int (own_mi p2)), .val (.int (own_mi p3)), .val (.int b125), .val (.int b151), .unset, .unset] [(.int (own_mi p1))]))
        exact J177 _ (by rw [hc156])
      · refine own_step (fun _ k => XS.icmpYes X11.here hx rfl (pc0 := 156) (pc' := 164) rfl (hb hby at_156) rfl (XT.ii_ne_t hc156) (by decide) (by decide) (XS.iload X11.here hx rfl (hb hby at_164) rfl (XS.iloadN X11.here hx rfl (hb hby at_166) rfl k))) ?_
        show own_Ends p e below s _ _ _ (T11.setTop (mkF m 167 #[.val (.int p1), .val (.int p2), .val (.int p3), .val (.int (1 : Int32)), .val (.int lo), .val (.int hi), .val (.long (((p1.toInt64) + (p2.toInt64)) + (p3.toInt64))), .second, .val (.int mid), .val (.int (own_mi p1)), .val (.int (own_mi p2)), .val (.int (own_mi p3)), .val (.int b125), .val (.int b151), .unset, .unset] [(.int p2), (.int mid)]))
        by_cases hc167 : mid = p2
        · refine own_step (fun _ k => XS.icmpNo X11.here hx rfl (hb hby at_167) rfl (XT.ii_ne_f hc167) (XS.iload X11.here hx rfl (hb hby at_170) rfl (XS.goto X11.here hx rfl (pc0 := 172) (pc' := 177) rfl (hb hby at_172) (by decide) (by decide) k))) ?_
          show own_Ends p e below s _ _ _ (T11.setTop (mkF m 177 #[.val (.int p1), .val (.int p2), .val (.int p3), .val (.int (1 : Int32)), .val (.int lo), .val (.int hi), .val (.long (((p1.toInt64) + (p2.toInt64)) + (p3.toInt64))), .second, .val (.int mid), .val (.int (own_mi p1)), .val (.int (own_mi p2)), .val (.int (own_mi p3)), .val (.int b125), .val (.int b151), .unset, .unset] [(.int (own_mi p2))]))
          exact J177 _ (by rw [hc167])
        · refine own_step (fun _ k => XS.icmpYes X11.here hx rfl (pc0 := 167) (pc' := 175) rfl (hb hby at_167) rfl (XT.ii_ne_t hc167) (by decide) (by decide) (XS.iload X11.here hx rfl (hb hby at_175) rfl k)) ?_
          show own_Ends p e below s _ _ _ (T11.setTop (mkF m 177 #[.val (.int p1), .val (.int p2), .val (.int p3), .val (.int (1 : Int32)), .val (.int lo), .val (.int hi), .val (.long (((p1.toInt64) + (p2.toInt64)) + (p3.toInt64))), .second, .val (.int mid), .val (.int (own_mi p1)), .val (.int (own_mi p2)), .val (.int (own_mi p3)), .val (.int b125), .val (.int b151), .unset, .unset] [(.int (own_mi p3))]))
          exact J177 _ (by rw [hq5 hc156 hc167])
    refine own_step (fun _ k => XS.iload X11.here hx rfl (hb hby at_127) rfl (XS.iloadN X11.here hx rfl (hb hby at_129) rfl k)) ?_
    show own_Ends p e below s _ _ _ (T11.setTop (mkF m 130 #[.val (.int p1), .val (.int p2), .val (.int p3), .val (.int (1 : Int32)), .val (.int lo), .val (.int hi), .val (.long (((p1.toInt64) + (p2.toInt64)) + (p3.toInt64))), .second, .val (.int mid), .val (.int (own_mi p1)), .val (.int (own_mi p2)), .val (.int (own_mi p3)), .val (.int b125), .unset, .unset, .unset] [(.int p1), (.int hi)]))
    by_cases hc130 : hi = p1
    · refine own_step (fun _ k => XS.icmpNo X11.here hx rfl (hb hby at_130) rfl (XT.ii_ne_f hc130) (XS.iload X11.here hx rfl (hb hby at_133) rfl (XS.goto X11.here hx rfl (pc0 := 135) (pc' := 151) rfl (hb hby at_135) (by decide) (by decide) k))) ?_
      show own_Ends p e below s _ _ _ (T11.setTop (mkF m 151 #[.val (.int p1), .val (.int p2), .val (.int p3), .val (.int (1 : Int32)), .val (.int lo), .val (.int hi), .val (.long (((p1.toInt64) + (p2.toInt64)) + (p3.toInt64))), .second, .val (.int mid), .val (.int (own_mi p1)), .val (.int (own_mi p2)), .val (.int (own_mi p3)), .val (.int b125), .unset, .unset, .unset] [(.int (own_mi p1))]))
      exact J151 _ (by rw [hc130])
    · refine own_step (fun _ k => XS.icmpYes X11.here hx rfl (pc0 := 130) (pc' := 138) rfl (hb hby at_130) rfl (XT.ii_ne_t hc130) (by decide) (by decide) (XS.iload X11.here hx rfl (hb hby at_138) rfl (XS.iloadN X11.here hx rfl (hb hby at_140) rfl k))) ?_
      show own_Ends p e below s _ _ _ (T11.setTop (mkF m 141 #[.val (.int p1), .val (.int p2), .val (.int p3), .val (.int (1 : Int32)), .val (.int lo), .val (.int hi), .val (.long (((p1.toInt64) + (p2.toInt64)) + (p3.toInt64))), .second, .val (.int mid), .val (.int (own_mi p1)), .val (.int (own_mi p2)), .val (.int (own_mi p3)), .val (.int b125), .unset, .unset, .unset] [(.int p2), (.int hi)]))
      by_cases hc141 : hi = p2
      · refine own_step (fun _ k => XS.icmpNo X11.here hx rfl (hb hby at_141) rfl (XT.ii_ne_f hc141) (XS.iload X11.here hx rfl (hb hby at_144) rfl (XS.goto X11.here hx rfl (pc0 := 146) (pc' := 151) rfl (hb hby at_146) (by decide) (by decide) k))) ?_
        show own_Ends p e below s _ _ _ (T11.setTop (mkF m 151 #[.val (.int p1), .val (.int p2), .val (.int p3), .val (.int (1 : Int32)), .val (.int lo), .val (.int hi), .val (.long (((p1.toInt64) + (p2.toInt64)) + (p3.toInt64))), .second, .val (.int mid), .val (.int (own_mi p1)), .val (.int (own_mi p2)), .val (.int (own_mi p3)), .val (.int b125), .unset, .unset, .unset] [(.int (own_mi p2))]))
        exact J151 _ (by rw [hc141])
      · refine own_step (fun _ k => XS.icmpYes X11.here hx rfl (pc0 := 141) (pc' := 149) rfl (hb hby at_141) rfl (XT.ii_ne_t hc141) (by decide) (by decide) (XS.iload X11.here hx rfl (hb hby at_149) rfl k)) ?_
        show own_Ends p e below s _ _ _ (T11.setTop (mkF m 151 #[.val (.int p1), .val (.int p2), .val (.int p3), .val (.int (1 : Int32)), .val (.int lo), .val (.int hi), .val (.long (((p1.toInt64) + (p2.toInt64)) + (p3.toInt64))), .second, .val (.int mid), .val (.int (own_mi p1)), .val (.int (own_mi p2)), .val (.int (own_mi p3)), .val (.int b125), .unset, .unset, .unset] [(.int (own_mi p3))]))
        exact J151 _ (by rw [hq4 hc130 hc141])
  refine own_step (fun _ k => XS.iload X11.here hx rfl (hb hby at_101) rfl (XS.iloadN X11.here hx rfl (hb hby at_103) rfl k)) ?_
  show own_Ends p e below s _ _ _ (T11.setTop (mkF m 104 #[.val (.int p1), .val (.int p2), .val (.int p3), .val (.int (1 : Int32)), .val (.int lo), .val (.int hi), .val (.long (((p1.toInt64) + (p2.toInt64)) + (p3.toInt64))), .second, .val (.int mid), .val (.int (own_mi p1)), .val (.int (own_mi p2)), .val (.int (own_mi p3)), .unset, .unset, .unset, .unset] [(.int p1), (.int lo)]))
  by_cases hc104 : lo = p1
  · refine own_step (fun _ k => XS.icmpNo X11.here hx rfl (hb hby at_104) rfl (XT.ii_ne_f hc104) (XS.iload X11.here hx rfl (hb hby at_107) rfl (XS.goto X11.here hx rfl (pc0 := 109) (pc' := 125) rfl (hb hby at_109) (by decide) (by decide) k))) ?_
    show own_Ends p e below s _ _ _ (T11.setTop (mkF m 125 #[.val (.int p1), .val (.int p2), .val (.int p3), .val (.int (1 : Int32)), .val (.int lo), .val (.int hi), .val (.long (((p1.toInt64) + (p2.toInt64)) + (p3.toInt64))), .second, .val (.int mid), .val (.int (own_mi p1)), .val (.int (own_mi p2)), .val (.int (own_mi p3)), .unset, .unset, .unset, .unset] [(.int (own_mi p1))]))
    exact J125 _ (by rw [hc104])
  · refine own_step (fun _ k => XS.icmpYes X11.here hx rfl (pc0 := 104) (pc' := 112) rfl (hb hby at_104) rfl (XT.ii_ne_t hc104) (by decide) (by decide) (XS.iload X11.here hx rfl (hb hby at_112) rfl (XS.iloadN X11.here hx rfl (hb hby at_114) rfl k))) ?_
    show own_Ends p e below s _ _ _ (T11.setTop (mkF m 115 #[.val (.int p1), .val (.int p2), .val (.int p3), .val (.int (1 : Int32)), .val (.int lo), .val (.int hi), .val (.long (((p1.toInt64) + (p2.toInt64)) + (p3.toInt64))), .second, .val (.int mid), .val (.int (own_mi p1)), .val (.int (own_mi p2)), .val (.int (own_mi p3)), .unset, .unset, .unset, .unset] [(.int p2), (.int lo)]))
    by_cases hc115 : lo = p2
    · refine own_step (fun _ k => XS.icmpNo X11.here hx rfl (hb hby at_115) rfl (XT.ii_ne_f hc115) (XS.iload X11.here hx rfl (hb hby at_118) rfl (XS.goto X11.here hx rfl (pc0 := 120) (pc' := 125) rfl (hb hby at_120) (by decide) (by decide) k))) ?_
      show own_Ends p e below s _ _ _ (T11.setTop (mkF m 125 #[.val (.int p1), .val (.int p2), .val (.int p3), .val (.int (1 : Int32)), .val (.int lo), .val (.int hi), .val (.long (((p1.toInt64) + (p2.toInt64)) + (p3.toInt64))), .second, .val (.int mid), .val (.int (own_mi p1)), .val (.int (own_mi p2)), .val (.int (own_mi p3)), .unset, .unset, .unset, .unset] [(.int (own_mi p2))]))
      exact J125 _ (by rw [hc115])
    · refine own_step (fun _ k => XS.icmpYes X11.here hx rfl (pc0 := 115) (pc' := 123) rfl (hb hby at_115) rfl (XT.ii_ne_t hc115) (by decide) (by decide) (XS.iload X11.here hx rfl (hb hby at_123) rfl k)) ?_
      show own_Ends p e below s _ _ _ (T11.setTop (mkF m 125 #[.val (.int p1), .val (.int p2), .val (.int p3), .val (.int (1 : Int32)), .val (.int lo), .val (.int hi), .val (.long (((p1.toInt64) + (p2.toInt64)) + (p3.toInt64))), .second, .val (.int mid), .val (.int (own_mi p1)), .val (.int (own_mi p2)), .val (.int (own_mi p3)), .unset, .unset, .unset, .unset] [(.int (own_mi p3))]))
      exact J125 _ (by rw [hq3 hc104 hc115])
set_option maxRecDepth 65536 in
set_option maxHeartbeats 40000000 in
theorem comes_1 {Post : Tables → Env → Array Value → State → Outcome → State → Prop} (hpost : ∀ tb e args s v u, (limb_1_1.after args s (.returned v) u = true ∧ limb_1_2.after args s (.returned v) u = true ∧ True) → FrameEnd s (.returned v) u (Jvm.fieldLocs frame_1_writes args s ++ Jvm.arrayLocs frame_1_arrays args s ++ Jvm.staticLocs frame_1_statics s) 0 0 → Post tb e args s (.returned v) u) :
    ArmFor flags0 classFile x code maxLocals ret World_1 tables_1 room_1 Calls_1 rest_1 Pre_1 Post := by
  intro l hfl _ _ p e ha hc hk s m args below hf hA hF happ hP
  obtain ⟨hcalls, hrest, hpre⟩ := hP
  obtain ⟨-, -, -, hnamed, -, -, -, hat⟩ := (Spec.applies_iff hf).mp happ
  obtain ⟨hg, hn⟩ := and_e (Cond.before_iff.mp (show (Jvm.Cond.and given_1 narrow_1).before args s = true from hpre))
  obtain ⟨g_c, g_0⟩ := and_e hg
  obtain ⟨w0, w1, w2, rfl⟩ : ∃ w0 w1 w2 : Value, args = #[w0, w1, w2] := by
    have hs : args.size = 3 := by simpa [Cond.value, given_1] using g_c
    obtain ⟨L⟩ := args
    match L, hs with
    | [w0, w1, w2], _ => exact ⟨w0, w1, w2, rfl⟩
  have hw := fun d (hd : d ∈ tables_1) => atoms_spec (ws := Jvm.Cond.code x code maxLocals ret :: tables_1) hat d (List.mem_cons_of_mem _ hd)
  obtain ⟨g_v0, g_1⟩ := and_e g_0
  obtain ⟨i0, ei0⟩ := is_v g_v0
  obtain rfl : w0 = (.int i0) := Option.some.inj ei0
  obtain ⟨g_v1, g_2⟩ := and_e g_1
  obtain ⟨i1, ei1⟩ := is_v g_v1
  obtain rfl : w1 = (.int i1) := Option.some.inj ei1
  obtain ⟨i2, ei2⟩ := is_v g_2
  obtain rfl : w2 = (.int i2) := Option.some.inj ei2
  obtain ⟨n, o, h1, h2, h3, _, L, rfl, ⟨rfl, N⟩, hq⟩ := rm0 l s _ hw tables_1 i0 i1 i2  s.heap s.heap.size (Nat.le_refl _) p e ha hc hk s m _ below hf ((Spec.applies_iff_loose hf).mp happ).1 ⟨rfl, State.Warmed39.refl s, rfl⟩ trivial
  refine ⟨n, _, h1, h2, h3, hpost _ _ _ _ _ _ ⟨Cond.after_iff.mpr rfl, Cond.after_iff.mpr (eq_i res_at (Term.int_eval (1)) rfl), trivial⟩ ⟨hq.1, hq.2.1, (hq.2.2.sift fun y hy => Or.inr (N y hy)).mono (by decide) (by decide)⟩⟩
theorem main_1_1 : Claimed_1_1 := comes_1 fun _ _ _ _ _ _ h hF => ⟨h.1, hF⟩
theorem main_1_2 : Claimed_1_2 := comes_1 fun _ _ _ _ _ _ h hF => ⟨h.2.1, hF⟩
end Jvm.Pilot.@@N@@
namespace Jvm.Pilot.@@N@@
open Jvm Jvm.ClassFile Sem Op Lib Jvm.Free Jvm.Stand Jvm.Pilot.@@N@@.Jvm.D
/-! MADE BY PROGRAM (witnessworld.py) out of the Statement's table words and the real class files: 10 classes; the members and pool entries that the words name. The judged class is class 1, her method 1. -/
namespace start1
open Jvm.ClassFile
def u (s : String) : CpInfo := .utf8 (stringToUtf16 s)
/-- a pool by its gaps: so many unusable entries, then the entry; so many at the end -/
def gap : Nat → List CpInfo → List CpInfo
  | 0, r => r
  | n + 1, r => .unusable :: gap n r
def poolList (es : List (Nat × CpInfo)) (last : Nat) : List CpInfo := es.foldr (fun e r => gap e.1 (e.2 :: r)) (gap last [])
def pool (es : List (Nat × CpInfo)) (last : Nat) : Array CpInfo := ⟨poolList es last⟩
def fileOf (pool : Array CpInfo) (this : Nat) (attrs : Array Attribute := #[]) (ms : Array MethodInfo := #[]) (fl : Nat := 33) (sup : Nat := 0) (ifs : Array Nat := #[]) (fds : Array FieldInfo := #[]) : ClassFile where
  minorVersion := 0
  majorVersion := 65
  constantPool := pool
  accessFlags := fl
  thisClass := this
  superClass := sup
  interfaces := ifs
  fields := fds
  methods := ms
  attributes := attrs
def plain (name : String) (sup : Option ClassId) : Class where
  name := name
  kind := .ordinary
  loader := none
  accessFlags := 33
  super := sup
  interfaces := #[]
  cf := none
  fields := #[]
  methods := #[]
  instanceTypes := #[]
  staticTypes := #[]
  resolved := #[]
  callSites := []
  init := .initialized
  statics := none
  mirror := none

def pool0 : Array CpInfo := pool [(5, u "<init>"), (0, u "()V"), (1, .class_ 10), (1, u "java/lang/Object")] 113

def k0m0 : Method := { name := "<init>", desc := "()V", sig := { parameters := [], returnType := none }, accessFlags := 1, code := none }
/-- java/lang/Object -/
def k0 : Class := { plain "java/lang/Object" none with
  accessFlags := 33
  interfaces := #[]
  cf := some (fileOf pool0 8 #[] #[{ accessFlags := 1, nameIndex := 5, descriptorIndex := 6, attributes := #[] }] 33 0 #[] #[])
  fields := #[]
  methods := #[k0m0]
  instanceTypes := #[]
  staticTypes := #[]
  resolved := Array.replicate 124 none
  statics := none }

def pool1 : Array CpInfo := pool [(2, .class_ 4), (1, u "java/lang/Object"), (0, u "<init>"), (0, u "()V"), (0, .methodref 8 9), (0, .class_ 10), (0, .nameAndType 11 12), (0, u "com/example/pipewright/pipewright/service/Limits"), (0, u "monthsInRange"), (0, u "(I)Z"), (0, .methodref 14 15), (0, .class_ 16), (0, .nameAndType 17 18), (0, u "java/lang/Math"), (0, u "min"), (0, u "(II)I"), (0, .methodref 14 20), (0, .nameAndType 21 18), (0, u "max"), (0, .class_ 23), (0, u "com/example/pipewright/pipewright/service/LimitsMonthsInRangePinLaw"), (2, u "law"), (0, u "(III)Z")] 3

def k1m0 : Method := { name := "<init>", desc := "()V", sig := { parameters := [], returnType := none }, accessFlags := 2, code := none }
def k1c1 : Code := { maxStack := 4, maxLocals := 16, code := code, exceptionTable := #[], attributes := #[] }
def k1m1 : Method := { name := "law", desc := "(III)Z", sig := { parameters := [.int, .int, .int], returnType := some .boolean }, accessFlags := 9, code := some k1c1 }
/-- com/example/pipewright/pipewright/service/LimitsMonthsInRangePinLaw -/
def k1 : Class := { plain "com/example/pipewright/pipewright/service/LimitsMonthsInRangePinLaw" (some 0) with
  accessFlags := 49
  interfaces := #[]
  cf := some (fileOf pool1 22 #[] #[{ accessFlags := 2, nameIndex := 5, descriptorIndex := 6, attributes := #[] }, { accessFlags := 9, nameIndex := 26, descriptorIndex := 27, attributes := #[] }] 49 2 #[] #[])
  fields := #[]
  methods := #[k1m0, k1m1]
  instanceTypes := #[]
  staticTypes := #[]
  resolved := Array.replicate 31 none
  statics := none }

def pool2 : Array CpInfo := pool [(2, .class_ 4), (1, u "java/lang/Object"), (0, u "<init>"), (0, u "()V"), (0, .class_ 8), (0, u "com/example/pipewright/pipewright/service/Limits"), (3, u "monthsInRange"), (0, u "(I)Z"), (13, u "MAX_MONTHS"), (0, u "I"), (2, u "MAX_PATHS")] 25

def k2m0 : Method := { name := "<init>", desc := "()V", sig := { parameters := [], returnType := none }, accessFlags := 2, code := none }
def k2c1 : Code := { maxStack := 2, maxLocals := 1, code := prog_80_method_2_code, exceptionTable := #[], attributes := #[] }
def k2m1 : Method := { name := "monthsInRange", desc := "(I)Z", sig := { parameters := [.int], returnType := some .boolean }, accessFlags := 9, code := some k2c1 }
/-- com/example/pipewright/pipewright/service/Limits -/
def k2 : Class := { plain "com/example/pipewright/pipewright/service/Limits" (some 0) with
  accessFlags := 49
  interfaces := #[]
  cf := some (fileOf pool2 7 #[] #[{ accessFlags := 2, nameIndex := 5, descriptorIndex := 6, attributes := #[] }, { accessFlags := 9, nameIndex := 12, descriptorIndex := 13, attributes := #[] }] 49 2 #[] #[{ accessFlags := 25, nameIndex := 27, descriptorIndex := 28, attributes := #[] }, { accessFlags := 25, nameIndex := 31, descriptorIndex := 28, attributes := #[] }])
  fields := #[{ name := "MAX_MONTHS", type := .int, accessFlags := 25, slot := 0, constantValue := 0 }, { name := "MAX_PATHS", type := .int, accessFlags := 25, slot := 1, constantValue := 0 }]
  methods := #[k2m0, k2m1]
  instanceTypes := #[]
  staticTypes := #[.int, .int]
  resolved := Array.replicate 57 none
  statics := none }

def pool3 : Array CpInfo := pool [(1, .class_ 2), (0, u "java/lang/Math"), (1, .class_ 6), (1, u "java/lang/Object"), (0, u "<init>"), (0, u "()V"), (89, .class_ 100), (1, u "java/lang/Math$RandomNumberGeneratorHolder"), (71, u "negativeZeroFloatBits"), (0, u "J"), (2, u "negativeZeroDoubleBits"), (21, u "max"), (2, u "min"), (43, u "$assertionsDisabled"), (0, u "Z"), (88, u "(II)I"), (2, u "twoToTheDoubleScaleDown"), (0, u "D"), (4, u "twoToTheDoubleScaleUp"), (9, u "E"), (3, u "PI"), (2, u "TAU"), (2, u "DEGREES_TO_RADIANS"), (0, u "RADIANS_TO_DEGREES")] 94

def k3m0 : Method := { name := "<init>", desc := "()V", sig := { parameters := [], returnType := none }, accessFlags := 2, code := none }
def k3c1 : Code := { maxStack := 2, maxLocals := 2, code := jdk_29_method_65_code, exceptionTable := #[], attributes := #[] }
def k3m1 : Method := { name := "max", desc := "(II)I", sig := { parameters := [.int, .int], returnType := some .int }, accessFlags := 9, code := some k3c1 }
def k3c2 : Code := { maxStack := 2, maxLocals := 2, code := jdk_29_method_69_code, exceptionTable := #[], attributes := #[] }
def k3m2 : Method := { name := "min", desc := "(II)I", sig := { parameters := [.int, .int], returnType := some .int }, accessFlags := 9, code := some k3c2 }
/-- java/lang/Math -/
def k3 : Class := { plain "java/lang/Math" (some 0) with
  accessFlags := 49
  interfaces := #[]
  cf := some (fileOf pool3 1 #[.nestMembers #[98]] #[{ accessFlags := 2, nameIndex := 7, descriptorIndex := 8, attributes := #[] }, { accessFlags := 9, nameIndex := 198, descriptorIndex := 335, attributes := #[] }, { accessFlags := 9, nameIndex := 201, descriptorIndex := 335, attributes := #[] }] 49 4 #[] #[{ accessFlags := 25, nameIndex := 354, descriptorIndex := 339, attributes := #[] }, { accessFlags := 25, nameIndex := 358, descriptorIndex := 339, attributes := #[] }, { accessFlags := 25, nameIndex := 361, descriptorIndex := 339, attributes := #[] }, { accessFlags := 26, nameIndex := 364, descriptorIndex := 339, attributes := #[] }, { accessFlags := 26, nameIndex := 365, descriptorIndex := 339, attributes := #[] }, { accessFlags := 26, nameIndex := 172, descriptorIndex := 173, attributes := #[] }, { accessFlags := 26, nameIndex := 176, descriptorIndex := 173, attributes := #[] }, { accessFlags := 8, nameIndex := 344, descriptorIndex := 339, attributes := #[] }, { accessFlags := 8, nameIndex := 338, descriptorIndex := 339, attributes := #[] }, { accessFlags := 4120, nameIndex := 245, descriptorIndex := 246, attributes := #[] }])
  fields := #[{ name := "E", type := .double, accessFlags := 25, slot := 0, constantValue := 0 }, { name := "PI", type := .double, accessFlags := 25, slot := 1, constantValue := 0 }, { name := "TAU", type := .double, accessFlags := 25, slot := 2, constantValue := 0 }, { name := "DEGREES_TO_RADIANS", type := .double, accessFlags := 26, slot := 3, constantValue := 0 }, { name := "RADIANS_TO_DEGREES", type := .double, accessFlags := 26, slot := 4, constantValue := 0 }, { name := "negativeZeroFloatBits", type := .long, accessFlags := 26, slot := 5, constantValue := 0 }, { name := "negativeZeroDoubleBits", type := .long, accessFlags := 26, slot := 6, constantValue := 0 }, { name := "twoToTheDoubleScaleUp", type := .double, accessFlags := 8, slot := 7, constantValue := 0 }, { name := "twoToTheDoubleScaleDown", type := .double, accessFlags := 8, slot := 8, constantValue := 0 }, { name := "$assertionsDisabled", type := .boolean, accessFlags := 4120, slot := 9, constantValue := 0 }]
  methods := #[k3m0, k3m1, k3m2]
  instanceTypes := #[]
  staticTypes := #[.double, .double, .double, .double, .double, .long, .long, .double, .double, .boolean]
  resolved := Array.replicate 460 none
  statics := none }

def pool4 : Array CpInfo := pool [(1, u "java/lang/Cloneable"), (0, .class_ 1), (0, u "java/lang/Object"), (0, .class_ 3)] 3

/-- java/lang/Cloneable -/
def k4 : Class := { plain "java/lang/Cloneable" (some 0) with
  accessFlags := 1537
  interfaces := #[]
  cf := some (fileOf pool4 2 #[] #[] 1537 4 #[] #[])
  fields := #[]
  methods := #[]
  instanceTypes := #[]
  staticTypes := #[]
  resolved := Array.replicate 8 none
  statics := none }

def pool5 : Array CpInfo := pool [(1, u "java/io/Serializable"), (0, .class_ 1), (0, u "java/lang/Object"), (0, .class_ 3)] 3

/-- java/io/Serializable -/
def k5 : Class := { plain "java/io/Serializable" (some 0) with
  accessFlags := 1537
  interfaces := #[]
  cf := some (fileOf pool5 2 #[] #[] 1537 4 #[] #[])
  fields := #[]
  methods := #[]
  instanceTypes := #[]
  staticTypes := #[]
  resolved := Array.replicate 8 none
  statics := none }

/-- the primitive byte -/
def k6 : Class := { plain "byte" none with kind := .primitive 'B', accessFlags := 0x411 }
/-- [B -/
def k7 : Class := { plain "[B" (some 0) with kind := .array 6 .byte, interfaces := #[4, 5], accessFlags := 1041 }

/-- the primitive int -/
def k8 : Class := { plain "int" none with kind := .primitive 'I', accessFlags := 0x411 }
/-- [I -/
def k9 : Class := { plain "[I" (some 0) with kind := .array 8 .int, interfaces := #[4, 5], accessFlags := 1041 }

def heap : Heap := #[]
def classes : Array Class := #[k0, k1, k2, k3, k4, k5, k6, k7, k8, k9]
def interned : List (Array UInt16 × Addr) := []
def slotsUsed : Nat := 0
def theMethod : MethodId := ⟨1, 1⟩
def args0 : Array Value := #[.int 5, .int 7, .int 9]
def aboutOver (below : List Frame) : State where
  vm := { classes := classes, interned := interned.toArray }
  heap := heap
  slotsUsed := slotsUsed
  threads := #[{ frames := .invoking theMethod args0 :: below }]
def below0 : List Frame := [.native { method := ⟨0, 0⟩, args := #[] }]
def about1 : State := aboutOver below0
def p0 : Program := .bare "" "" ""
def e0 : Env := launch0.env 0 0 0
theorem w_frames : about1.frames = Frame.invoking theMethod args0 :: below0 := rfl
set_option maxRecDepth 65536 in
theorem w_args : argsFit about1.vm theMethod args0 = true := by decide +kernel
set_option maxRecDepth 65536 in
theorem w_heap : heapFits about1 = true := by decide +kernel
set_option maxRecDepth 65536 in
theorem w_runnable : about1.curStatus? = some .runnable := by decide +kernel
set_option maxRecDepth 65536 in
theorem w_alone : about1.alone = true := by decide +kernel
set_option maxRecDepth 65536 in
theorem w_named : about1.methodNamed? x = some theMethod := by decide +kernel
set_option maxRecDepth 65536 in
theorem w_hears : about1.hears theMethod below0 = true := by decide +kernel
set_option maxRecDepth 65536 in
theorem w_ripe : about1.ripe theMethod args0 below0 = true := by decide +kernel
theorem w_running : about1.status = .running := rfl
set_option maxRecDepth 65536 in
theorem w_room : about1.hasRoom e0.platform room_1 = true :=
  launch0.hasRoom_least _ room_1 (by decide +kernel) (by decide +kernel) (by decide +kernel) (by decide +kernel) (by decide +kernel) (by decide +kernel)
theorem allAtoms_all (ts : List Jvm.Cond) (a : Array Jvm.Value) (st : Jvm.State) : (allAtoms ts).before a st = ts.all (fun c => c.before a st) := by
  induction ts with
  | nil => rfl
  | cons c t ih =>
    show (Jvm.Cond.and c (allAtoms t)).before a st = _
    rw [Jvm.Cond.before_and, ih, List.all_cons]
def words1 : List Jvm.Cond := Jvm.Cond.code x code maxLocals ret :: tables_1
/-- a 'code' word, met by the world's own term for the bytes: nothing is compared byte by byte -/
theorem code_word {y : MethodName} {bytes : ByteArray} {mx : Nat} {rt : Option FieldType} {a : Array Value} {s : State} {m : MethodId} {meth : Method} {c : Code} (h1 : s.methodNamed? y = some m) (h2 : s.vm.method? m = some meth) (h3 : meth.code = some c) (h4 : c.code = bytes)
    (h5 : (c.maxLocals == mx && c.exceptionTable.isEmpty && decide (c.maxStack ≤ mostOperands) && decide (meth.sig.returnType = rt) && !meth.locks && decide (parseMethodDescriptor y.desc = some meth.sig)) = true) : (Jvm.Cond.code y bytes mx rt).before a s = true := by
  simp only [Bool.and_eq_true, beq_iff_eq, Bool.not_eq_true', decide_eq_true_eq] at h5
  obtain ⟨⟨⟨⟨⟨g1, g2⟩, g3⟩, g4⟩, g5⟩, g6⟩ := h5
  simp [Cond.before, Cond.holds, Cond.value, h1, h2, h3, h4, g1, g2, g3, g4, g5, g6]
def isCode : Jvm.Cond → Bool
  | .code _ _ _ _ => true
  | _ => false
theorem all_split {L : List Jvm.Cond} {P : Jvm.Cond → Bool} (h1 : L.all (fun c => isCode c || P c) = true) (h2 : ∀ c ∈ L.filter isCode, P c = true) : L.all P = true := by
  refine List.all_eq_true.mpr fun c hc => ?_
  have h := List.all_eq_true.mp h1 c hc
  rcases Bool.eq_false_or_eq_true (isCode c) with hi | hi
  · exact h2 c (List.mem_filter.mpr ⟨hc, hi⟩)
  · simpa [hi] using h
set_option maxRecDepth 65536 in
theorem w_c0 : (Jvm.Cond.code x code maxLocals ret).before args0 about1 = true := code_word (m := ⟨1, 1⟩) (meth := k1m1) (c := k1c1) (by decide +kernel) rfl rfl rfl (by decide +kernel)
set_option maxRecDepth 65536 in
theorem w_c1 : (Jvm.Cond.code ({ cls := "com/example/pipewright/pipewright/service/Limits", name := "monthsInRange", desc := "(I)Z" } : Jvm.MethodName) prog_80_method_2_code (1 : Nat) (Option.some Jvm.ClassFile.FieldType.boolean)).before args0 about1 = true := code_word (m := ⟨2, 1⟩) (meth := k2m1) (c := k2c1) (by decide +kernel) rfl rfl rfl (by decide +kernel)
set_option maxRecDepth 65536 in
theorem w_c2 : (Jvm.Cond.code ({ cls := "java/lang/Math", name := "min", desc := "(II)I" } : Jvm.MethodName) jdk_29_method_69_code (2 : Nat) (Option.some Jvm.ClassFile.FieldType.int)).before args0 about1 = true := code_word (m := ⟨3, 2⟩) (meth := k3m2) (c := k3c2) (by decide +kernel) rfl rfl rfl (by decide +kernel)
set_option maxRecDepth 65536 in
theorem w_c3 : (Jvm.Cond.code ({ cls := "java/lang/Math", name := "max", desc := "(II)I" } : Jvm.MethodName) jdk_29_method_65_code (2 : Nat) (Option.some Jvm.ClassFile.FieldType.int)).before args0 about1 = true := code_word (m := ⟨3, 1⟩) (meth := k3m1) (c := k3c1) (by decide +kernel) rfl rfl rfl (by decide +kernel)
def codes1 : List Jvm.Cond := [Jvm.Cond.code x code maxLocals ret, Jvm.Cond.code ({ cls := "com/example/pipewright/pipewright/service/Limits", name := "monthsInRange", desc := "(I)Z" } : Jvm.MethodName) prog_80_method_2_code (1 : Nat) (Option.some Jvm.ClassFile.FieldType.boolean), Jvm.Cond.code ({ cls := "java/lang/Math", name := "min", desc := "(II)I" } : Jvm.MethodName) jdk_29_method_69_code (2 : Nat) (Option.some Jvm.ClassFile.FieldType.int), Jvm.Cond.code ({ cls := "java/lang/Math", name := "max", desc := "(II)I" } : Jvm.MethodName) jdk_29_method_65_code (2 : Nat) (Option.some Jvm.ClassFile.FieldType.int)]
set_option maxRecDepth 65536 in
theorem codes_eq : words1.filter isCode = codes1 := rfl
theorem w_codes : ∀ c ∈ words1.filter isCode, c.before args0 about1 = true := by
  rw [codes_eq]
  intro c hc
  simp only [codes1, List.mem_cons, List.not_mem_nil, or_false] at hc
  rcases hc with rfl | rfl | rfl | rfl
  · exact w_c0
  · exact w_c1
  · exact w_c2
  · exact w_c3
set_option maxRecDepth 65536 in
theorem w_t1 : words1.all (fun c => isCode c || c.before args0 about1) = true := by decide +kernel
theorem w_tables : (allAtoms (Jvm.Cond.code x code maxLocals ret :: tables_1)).before args0 about1 = true := by
  rw [allAtoms_all]
  show words1.all (fun c => c.before args0 about1) = true
  refine all_split ?_ w_codes
  rw [w_t1]
set_option maxRecDepth 65536 in
theorem w_case : (Jvm.Cond.and given_1 narrow_1).before args0 about1 = true := by decide +kernel
theorem w_applies : (headSpec (Jvm.Cond.code x code maxLocals ret :: tables_1) room_1).applies x e0.platform about1 = true :=
  (Spec.applies_iff w_frames).mpr ⟨w_running, w_runnable, w_alone, w_named, w_hears, w_ripe, w_room, w_tables⟩
theorem atStart : AtStart classFile x code maxLocals ret World_1 tables_1 room_1 Calls_1 rest_1 Pre_1 launch0 p0 e0 about1 theMethod args0 below0 :=
  ⟨lists_1, trivial, launch0.admits_env _ _ _, launch0.least_env, fairChoices_fair.cas, fairChoices_fair.clock, w_frames, w_args, w_heap, w_applies, trivial, trivial, w_case⟩
end start1
theorem witness_1 : WitnessClaimed_1 := ⟨start1.p0, start1.e0, start1.about1, start1.theMethod, start1.args0, start1.below0, start1.atStart⟩
end Jvm.Pilot.@@N@@
