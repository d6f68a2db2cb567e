import JvmDerived
import JvmDerived.Pilot.@@N@@Statement
import JvmDerived.Pilot.@@N@@Code
set_option linter.unusedVariables false
set_option linter.unusedSimpArgs false
namespace Jvm.RoadKit
open Sem ClassFile Op Lib Jvm.Stand Jvm.Free Jvm.LawKit
section New
variable {p : Program} {l : Launch} {e : Env} {R : Room} {s : State} {m : MethodId} {args : Array Value} {below : List Frame} {meth : Method} {c : Code} {T : State} {locs : List Loc} {cells slots : Nat}
theorem retI (X : Stand p l e R s m args below meth c T locs cells slots) (hx : p.tables.exec = Jvm.exec) {pc : Nat} {Ls : Array Slot} {z : Int32} {rest : List Value} (hret : meth.sig.returnType = some .int) (hd : decode c.code pc = .ok (.ireturn, 1)) {fs : List Frame}
    (hl : ∀ (f : JFrame) (acts : List Action), f.method = m → f.locked = none → f.entered = [] → (doReturn e (T.setTop f) acts (some (.int z))).1 = T.setFrames fs) : Steps p.tables e below (T.setTop (mkF m pc Ls (.int z :: rest))) (T.setFrames fs) := by
  have hm' : T.vm.method? m = some meth := X.method'
  have hn : narrow .int (.int z) = .int z := rfl
  show Steps p.tables e below (T.setTop { method := m, pc := pc, locals := Ls, stack := _ :: rest, locked := none }) _
  jvm_step X.here [X.here.top, hx, hd, hm', hret, hn]
  first | (intro acts; rw [hl _ acts rfl rfl rfl]) | rw [hl _ _ rfl rfl rfl]
  exact Steps.refl _
end New
end Jvm.RoadKit
namespace Jvm.Pilot.@@N@@
open Jvm Jvm.ClassFile Sem Op Lib Jvm.Free Jvm.Stand Jvm.LawKit Jvm.RoadKit Bundle Jvm.Pilot.@@N@@.Jvm.D
/-! 0. what is still to be walked, as one predicate: from A the invocation comes to its end, and Q says how it ends -/
def own_Fin (p : Program) (e : Env) (below : List Frame) (s : State) (Q : Option Value → Heap → List Loc → Prop) (k n : Nat) (A : State) : Prop :=
  ∃ s₂ o, Steps p.tables e below A s₂ ∧ s₂.status = .running ∧ Ended s₂ below o ∧ ∃ v L, o = .returned v ∧ Q v s₂.heap L ∧ FrameEnd s o s₂ L k n
section Own
variable {p : Program} {l : Launch} {e : Env} {R : Room} {s : State} {m : MethodId} {args : Array Value} {below : List Frame} {meth : Method} {c : Code} {T : State} {locs : List Loc} {cells slots k n : Nat} {Q : Option Value → Heap → List Loc → Prop} {A B : State}
theorem own_pre (h : ∀ t, Steps p.tables e below B t → Steps p.tables e below A t) (q : own_Fin p e below s Q k n B) : own_Fin p e below s Q k n A := by
  obtain ⟨s₂, o, h1, h2⟩ := q; exact ⟨s₂, o, h _ h1, h2⟩
theorem own_retZ (X : Stand p l e R s m args below meth c T locs cells slots) (hx : p.tables.exec = Jvm.exec) (hlk : meth.locks = false) {pc : Nat} {Ls : Array Slot} {z : Int32} {rest : List Value} (hret : meth.sig.returnType = some .boolean) (hd : decode c.code pc = .ok (.ireturn, 1))
    (hQ : Q (some (.int (z &&& 1))) T.heap locs) (hk : cells ≤ k) (hn : slots ≤ n) : own_Fin p e below s Q k n (T.setTop (mkF m pc Ls (.int z :: rest))) := by
  obtain ⟨fs, hr, hrun, hended, hW, hsame⟩ := X.leave (v := some (.int (z &&& 1))) (fun h => by rw [hret] at h; cases h) hlk
  exact ⟨_, _, retN X hx (t := .boolean) hret (by simp) hd hr, hrun, hended, _, _, rfl, hQ, ⟨_, rfl⟩, hW, hsame.mono hk hn⟩
theorem own_retI (X : Stand p l e R s m args below meth c T locs cells slots) (hx : p.tables.exec = Jvm.exec) (hlk : meth.locks = false) {pc : Nat} {Ls : Array Slot} {z : Int32} {rest : List Value} (hret : meth.sig.returnType = some .int) (hd : decode c.code pc = .ok (.ireturn, 1))
    (hQ : Q (some (.int z)) T.heap locs) (hk : cells ≤ k) (hn : slots ≤ n) : own_Fin p e below s Q k n (T.setTop (mkF m pc Ls (.int z :: rest))) := by
  obtain ⟨fs, hr, hrun, hended, hW, hsame⟩ := X.leave (v := some (.int z)) (fun h => by rw [hret] at h; cases h) hlk
  exact ⟨_, _, retI X hx hret hd hr, hrun, hended, _, _, rfl, hQ, ⟨_, rfl⟩, hW, hsame.mono hk hn⟩
theorem own_retJ (X : Stand p l e R s m args below meth c T locs cells slots) (hx : p.tables.exec = Jvm.exec) (hlk : meth.locks = false) {pc : Nat} {Ls : Array Slot} {z : Int64} (hret : meth.sig.returnType = some .long) (hd : decode c.code pc = .ok (.lreturn, 1))
    (hQ : Q (some (.long z)) T.heap locs) (hk : cells ≤ k) (hn : slots ≤ n) : own_Fin p e below s Q k n (T.setTop (mkF m pc Ls [.long z])) := by
  obtain ⟨fs, hr, hrun, hended, hW, hsame⟩ := X.leave (v := some (.long z)) (fun h => by rw [hret] at h; cases h) hlk
  exact ⟨_, _, X.lreturnOut hx hret hd hr, hrun, hended, _, _, rfl, hQ, ⟨_, rfl⟩, hW, hsame.mono hk hn⟩
theorem own_retV (X : Stand p l e R s m args below meth c T locs cells slots) (hx : p.tables.exec = Jvm.exec) (hlk : meth.locks = false) {pc : Nat} {Ls : Array Slot} (hret : meth.sig.returnType = none) (hd : decode c.code pc = .ok (.return_, 1))
    (hQ : Q none T.heap locs) (hk : cells ≤ k) (hn : slots ≤ n) : own_Fin p e below s Q k n (T.setTop (mkF m pc Ls [])) := by
  obtain ⟨fs, hr, hrun, hended, hW, hsame⟩ := X.leave (v := none) (fun _ => rfl) hlk
  exact ⟨_, _, X.returnOut hx hret hd hr, hrun, hended, _, _, rfl, hQ, ⟨_, rfl⟩, hW, hsame.mono hk hn⟩
theorem own_at {v : Option Value} {h h' : Heap} {L : List Loc} (e : h' = h) (q : Q v h L) : Q v h' L := e ▸ q
theorem own_someI {r z : Int32} (h : r = z) : some (Value.int z) = some (Value.int r) := by rw [h]
theorem own_someJ {r z : Int64} (h : r = z) : some (Value.long z) = some (Value.long r) := by rw [h]
end Own
/-! body 1 -/
theorem d1_0 : decode prog_1_method_4_code 0 = .ok (.iload_n 0, 1) := by decide +kernel
theorem d1_1 : decode prog_1_method_4_code 1 = .ok (.sipush 200, 3) := by decide +kernel
theorem d1_4 : decode prog_1_method_4_code 4 = .ok (.if_icmp .lt 14, 3) := by decide +kernel
theorem d1_7 : decode prog_1_method_4_code 7 = .ok (.iload_n 0, 1) := by decide +kernel
theorem d1_8 : decode prog_1_method_4_code 8 = .ok (.sipush 599, 3) := by decide +kernel
theorem d1_11 : decode prog_1_method_4_code 11 = .ok (.if_icmp .gt 7, 3) := by decide +kernel
theorem d1_14 : decode prog_1_method_4_code 14 = .ok (.iconst 1, 1) := by decide +kernel
theorem d1_15 : decode prog_1_method_4_code 15 = .ok (.goto 4, 3) := by decide +kernel
theorem d1_18 : decode prog_1_method_4_code 18 = .ok (.iconst 0, 1) := by decide +kernel
theorem d1_19 : decode prog_1_method_4_code 19 = .ok (.ireturn, 1) := by decide +kernel
theorem pn_1 : plainName "com/example/dry_retry/dryretry/Answer" = true := by first | (simp [plainName, overriddenIn]; done) | decide +kernel
theorem ef_1 (m : MethodId) (p0 : Int32) : entryFrame m #[(.int p0)] 1 = mkF m 0 #[.val (.int p0)] [] := by first | (simp [entryFrame, mkF, argsToLocals, Value.category]; done) | rfl
def f1_19 (p0 : Int32) (t0 : Int32) : Int32 := (t0 &&& 1)
def f1_18 (p0 : Int32) : Int32 := (f1_19 p0 (0 : Int32))
def f1_0 (p0 : Int32) : Int32 := (if p0 < (200 : Int32) then (f1_18 p0) else (if (599 : Int32) < p0 then (f1_18 p0) else (f1_19 p0 (1 : Int32))))
def Q1 (p0 : Int32) (h0 : Heap) (n0 : Nat) (v : Option Value) (h : Heap) (L : List Loc) : Prop := v = some (.int (f1_0 p0)) ∧ Fr n0 L ∧ h = h0
set_option maxRecDepth 65536 in
set_option maxHeartbeats 40000000 in
theorem rm1 (l : Launch) (Z : State) (a0 : Array Value) (hw : ∀ d ∈ tables_1, d.before a0 Z = true) (ws : List Jvm.Cond) (p0 : Int32) (h0 : Heap) (n0 : Nat) (Z0 : n0 ≤ h0.size) :
    MetFree l (⟨"com/example/dry_retry/dryretry/Answer", "isFinalStatus", "(I)Z"⟩ : MethodName) (head1 (Jvm.Cond.code (⟨"com/example/dry_retry/dryretry/Answer", "isFinalStatus", "(I)Z"⟩ : MethodName) prog_1_method_4_code 1 (some .boolean) :: ws) ({ frames := 0, cells := 0, slots := 0, locals := 0 } : Room)) (fun a U => a = #[(.int p0)] ∧ Z.Warmed39 U.vm ∧ U.heap = h0) (fun _ _ _ _ _ => True) (fun _ U o U' => ∃ v L, o = .returned v ∧ Q1 p0 h0 n0 v U'.heap L ∧ FrameEnd U o U' L ({ frames := 0, cells := 0, slots := 0, locals := 0 } : Room).cells ({ frames := 0, cells := 0, slots := 0, locals := 0 } : Room).slots) := by
  refine MetFree.of_bodySF (plainFor_of_name pn_1) hisR ?_
  intro p e s m args below meth c s₁ Bd hml0 hP hK
  obtain ⟨rfl, hZ, hh⟩ := hP
  have hx := Bd.exec
  have hby := Bd.bytes
  have hml : c.maxLocals = 1 := hml0
  have hlk : meth.locks = false := BodyLoose.notSynchronized Bd
  have hown : s.vm.findClass "com/example/dry_retry/dryretry/Answer" = some m.cls := findClass_of_methodNamed Bd.named
  have X0 : Stand p l e ({ frames := 0, cells := 0, slots := 0, locals := 0 } : Room) s m #[(.int p0)] below meth c s₁ [] 0 0 := Stand.of_body Bd
  have e0 : s₁.heap = h0 := by rw [← hh, Bd.state]; rfl
  have N0 := Fr.nil n0
  have Zs0 : n0 ≤ s₁.heap.size := by rw [e0]; exact Z0
  have pre0 : ∀ t, Steps p.tables e below (s₁.setTop (mkF m 0 #[.val (.int p0)] [])) t → Steps p.tables e below (s₁.setTop (entryFrame m #[(.int p0)] 1)) t := fun t k => castTop (ef_1 m p0) k
  have hnm := (name_of_methodNamed Bd.named Bd.method).1
  have g_19 : ∀ (T : State) (locs : List Loc) (X : Stand p l e ({ frames := 0, cells := 0, slots := 0, locals := 0 } : Room) s m #[(.int p0)] below meth c T locs 0 0) (eT : T.heap = h0) (N : Fr n0 locs) (t0 : Int32)  (r : Int32), r = f1_19 p0 t0 → own_Fin p e below s (fun v h L => v = some (.int r) ∧ Fr n0 L ∧ h = h0) ({ frames := 0, cells := 0, slots := 0, locals := 0 } : Room).cells ({ frames := 0, cells := 0, slots := 0, locals := 0 } : Room).slots (T.setTop (mkF m 19 #[.val (.int p0)] [(.int t0)])) := by
    intro T locs X eT N t0  r hr
    have hr : r = (t0 &&& 1) := hr
    exact own_retZ X hx hlk Bd.returns (hb hby d1_19) ⟨own_someI hr, N, eT⟩ (by decide) (by decide)
  have g_18 : ∀ (T : State) (locs : List Loc) (X : Stand p l e ({ frames := 0, cells := 0, slots := 0, locals := 0 } : Room) s m #[(.int p0)] below meth c T locs 0 0) (eT : T.heap = h0) (N : Fr n0 locs)   (r : Int32), r = f1_18 p0 → own_Fin p e below s (fun v h L => v = some (.int r) ∧ Fr n0 L ∧ h = h0) ({ frames := 0, cells := 0, slots := 0, locals := 0 } : Room).cells ({ frames := 0, cells := 0, slots := 0, locals := 0 } : Room).slots (T.setTop (mkF m 18 #[.val (.int p0)] [])) := by
    intro T locs X eT N   r hr
    have hr : r = (f1_19 p0 (0 : Int32)) := hr
    refine own_pre (B := T.setTop (mkF m 19 #[.val (.int p0)] [(.int (0 : Int32))])) (fun t k => XS.iconst X.here hx rfl (hb hby d1_18) k) ?_
    exact g_19 T _ X eT N (0 : Int32) _ hr
  have g_0 : ∀ r, r = f1_0 p0 → own_Fin p e below s (fun v h L => v = some (.int r) ∧ Fr n0 L ∧ h = h0) ({ frames := 0, cells := 0, slots := 0, locals := 0 } : Room).cells ({ frames := 0, cells := 0, slots := 0, locals := 0 } : Room).slots (s₁.setTop (mkF m 0 #[.val (.int p0)] [])) := by
    intro r hr
    have hr : r = (if p0 < (200 : Int32) then (f1_18 p0) else (if (599 : Int32) < p0 then (f1_18 p0) else (f1_19 p0 (1 : Int32)))) := hr
    refine own_pre (B := s₁.setTop (mkF m 1 #[.val (.int p0)] [(.int p0)])) (fun t k => XS.iloadN X0.here hx rfl (hb hby d1_0) rfl k) ?_
    refine own_pre (B := s₁.setTop (mkF m 4 #[.val (.int p0)] [(.int (200 : Int32)), (.int p0)])) (fun t k => XS.sipush X0.here hx rfl (hb hby d1_1) k) ?_
    by_cases hc1 : p0 < (200 : Int32)
    · have hr2 := hr.trans (if_pos hc1)
      refine own_pre (B := s₁.setTop (mkF m 18 #[.val (.int p0)] [])) (fun t k => XS.icmpYes X0.here hx rfl (pc0 := 4) (pc' := 18) rfl (hb hby d1_4) rfl (tlt hc1).1 (by decide) (by decide) k) ?_
      exact g_18 s₁ _ X0 e0 N0  _ hr2
    · have hr3 := hr.trans (if_neg hc1)
      refine own_pre (B := s₁.setTop (mkF m 7 #[.val (.int p0)] [])) (fun t k => XS.icmpNo X0.here hx rfl (hb hby d1_4) rfl (flt hc1).1 k) ?_
      refine own_pre (B := s₁.setTop (mkF m 8 #[.val (.int p0)] [(.int p0)])) (fun t k => XS.iloadN X0.here hx rfl (hb hby d1_7) rfl k) ?_
      refine own_pre (B := s₁.setTop (mkF m 11 #[.val (.int p0)] [(.int (599 : Int32)), (.int p0)])) (fun t k => XS.sipush X0.here hx rfl (hb hby d1_8) k) ?_
      by_cases hc4 : (599 : Int32) < p0
      · have hr5 := hr3.trans (if_pos hc4)
        refine own_pre (B := s₁.setTop (mkF m 18 #[.val (.int p0)] [])) (fun t k => XS.icmpYes X0.here hx rfl (pc0 := 11) (pc' := 18) rfl (hb hby d1_11) rfl (tlt hc4).2.2.1 (by decide) (by decide) k) ?_
        exact g_18 s₁ _ X0 e0 N0  _ hr5
      · have hr6 := hr3.trans (if_neg hc4)
        refine own_pre (B := s₁.setTop (mkF m 14 #[.val (.int p0)] [])) (fun t k => XS.icmpNo X0.here hx rfl (hb hby d1_11) rfl (flt hc4).2.2.1 k) ?_
        refine own_pre (B := s₁.setTop (mkF m 15 #[.val (.int p0)] [(.int (1 : Int32))])) (fun t k => XS.iconst X0.here hx rfl (hb hby d1_14) k) ?_
        refine own_pre (B := s₁.setTop (mkF m 19 #[.val (.int p0)] [(.int (1 : Int32))])) (fun t k => XS.goto X0.here hx rfl (pc0 := 15) (pc' := 19) rfl (hb hby d1_15) (by decide) (by decide) k) ?_
        exact g_19 s₁ _ X0 e0 N0 (1 : Int32) _ hr6
  exact own_pre pre0 (g_0 _ rfl)
/-! body 2 -/
theorem d2_0 : decode method_2_code 0 = .ok (.iload_n 0, 1) := by decide +kernel
theorem d2_1 : decode method_2_code 1 = .ok (.bipush 100, 2) := by decide +kernel
theorem d2_3 : decode method_2_code 3 = .ok (.if_icmp .ge 5, 3) := by decide +kernel
theorem d2_6 : decode method_2_code 6 = .ok (.iconst 0, 1) := by decide +kernel
theorem d2_7 : decode method_2_code 7 = .ok (.ireturn, 1) := by decide +kernel
theorem d2_8 : decode method_2_code 8 = .ok (.iload_n 0, 1) := by decide +kernel
theorem d2_9 : decode method_2_code 9 = .ok (.sipush 999, 3) := by decide +kernel
theorem d2_12 : decode method_2_code 12 = .ok (.if_icmp .le 5, 3) := by decide +kernel
theorem d2_15 : decode method_2_code 15 = .ok (.iconst 0, 1) := by decide +kernel
theorem d2_16 : decode method_2_code 16 = .ok (.ireturn, 1) := by decide +kernel
theorem d2_17 : decode method_2_code 17 = .ok (.iload_n 0, 1) := by decide +kernel
theorem d2_18 : decode method_2_code 18 = .ok (.bipush 100, 2) := by decide +kernel
theorem d2_20 : decode method_2_code 20 = .ok (.idiv, 1) := by decide +kernel
theorem d2_21 : decode method_2_code 21 = .ok (.istore_n 1, 1) := by decide +kernel
theorem d2_22 : decode method_2_code 22 = .ok (.iload_n 1, 1) := by decide +kernel
theorem d2_23 : decode method_2_code 23 = .ok (.iconst 2, 1) := by decide +kernel
theorem d2_24 : decode method_2_code 24 = .ok (.if_icmp .lt 12, 3) := by decide +kernel
theorem d2_27 : decode method_2_code 27 = .ok (.iload_n 1, 1) := by decide +kernel
theorem d2_28 : decode method_2_code 28 = .ok (.iconst 5, 1) := by decide +kernel
theorem d2_29 : decode method_2_code 29 = .ok (.if_icmp .gt 7, 3) := by decide +kernel
theorem d2_32 : decode method_2_code 32 = .ok (.iconst 1, 1) := by decide +kernel
theorem d2_33 : decode method_2_code 33 = .ok (.goto 4, 3) := by decide +kernel
theorem d2_36 : decode method_2_code 36 = .ok (.iconst 0, 1) := by decide +kernel
theorem d2_37 : decode method_2_code 37 = .ok (.ireturn, 1) := by decide +kernel
theorem pn_2 : plainName "com/example/dry_retry/dryretry/AnswerIsFinalStatusPinLaw" = true := by first | (simp [plainName, overriddenIn]; done) | decide +kernel
theorem ef_2 (m : MethodId) (p0 : Int32) : entryFrame m #[(.int p0)] 2 = mkF m 0 #[.val (.int p0), .unset] [] := by first | (simp [entryFrame, mkF, argsToLocals, Value.category]; done) | rfl
def f2_37 (p0 : Int32) (i1 : Int32) (t0 : Int32) : Int32 := (t0 &&& 1)
def f2_36 (p0 : Int32) (i1 : Int32) : Int32 := (f2_37 p0 i1 (0 : Int32))
def f2_0 (p0 : Int32) : Int32 := (if p0 < (100 : Int32) then ((0 : Int32) &&& 1) else (if (999 : Int32) < p0 then ((0 : Int32) &&& 1) else (if (p0 / (100 : Int32)) < (2 : Int32) then (f2_36 p0 (p0 / (100 : Int32))) else (if (5 : Int32) < (p0 / (100 : Int32)) then (f2_36 p0 (p0 / (100 : Int32))) else (f2_37 p0 (p0 / (100 : Int32)) (1 : Int32))))))
def Q2 (p0 : Int32) (h0 : Heap) (n0 : Nat) (v : Option Value) (h : Heap) (L : List Loc) : Prop := v = some (.int (f2_0 p0)) ∧ Fr n0 L ∧ h = h0
set_option maxRecDepth 65536 in
set_option maxHeartbeats 40000000 in
theorem rm2 (l : Launch) (Z : State) (a0 : Array Value) (hw : ∀ d ∈ tables_1, d.before a0 Z = true) (ws : List Jvm.Cond) (p0 : Int32) (h0 : Heap) (n0 : Nat) (Z0 : n0 ≤ h0.size) :
    MetFree l (⟨"com/example/dry_retry/dryretry/AnswerIsFinalStatusPinLaw", "reference", "(I)Z"⟩ : MethodName) (head1 (Jvm.Cond.code (⟨"com/example/dry_retry/dryretry/AnswerIsFinalStatusPinLaw", "reference", "(I)Z"⟩ : MethodName) method_2_code 2 (some .boolean) :: ws) ({ frames := 0, cells := 0, slots := 0, locals := 0 } : Room)) (fun a U => a = #[(.int p0)] ∧ Z.Warmed39 U.vm ∧ U.heap = h0) (fun _ _ _ _ _ => True) (fun _ U o U' => ∃ v L, o = .returned v ∧ Q2 p0 h0 n0 v U'.heap L ∧ FrameEnd U o U' L ({ frames := 0, cells := 0, slots := 0, locals := 0 } : Room).cells ({ frames := 0, cells := 0, slots := 0, locals := 0 } : Room).slots) := by
  refine MetFree.of_bodySF (plainFor_of_name pn_2) hisR ?_
  intro p e s m args below meth c s₁ Bd hml0 hP hK
  obtain ⟨rfl, hZ, hh⟩ := hP
  have hx := Bd.exec
  have hby := Bd.bytes
  have hml : c.maxLocals = 2 := hml0
  have hlk : meth.locks = false := BodyLoose.notSynchronized Bd
  have hown : s.vm.findClass "com/example/dry_retry/dryretry/AnswerIsFinalStatusPinLaw" = some m.cls := findClass_of_methodNamed Bd.named
  have X0 : Stand p l e ({ frames := 0, cells := 0, slots := 0, locals := 0 } : Room) s m #[(.int p0)] below meth c s₁ [] 0 0 := Stand.of_body Bd
  have e0 : s₁.heap = h0 := by rw [← hh, Bd.state]; rfl
  have N0 := Fr.nil n0
  have Zs0 : n0 ≤ s₁.heap.size := by rw [e0]; exact Z0
  have pre0 : ∀ t, Steps p.tables e below (s₁.setTop (mkF m 0 #[.val (.int p0), .unset] [])) t → Steps p.tables e below (s₁.setTop (entryFrame m #[(.int p0)] 2)) t := fun t k => castTop (ef_2 m p0) k
  have hnm := (name_of_methodNamed Bd.named Bd.method).1
  have g_37 : ∀ (T : State) (locs : List Loc) (X : Stand p l e ({ frames := 0, cells := 0, slots := 0, locals := 0 } : Room) s m #[(.int p0)] below meth c T locs 0 0) (eT : T.heap = h0) (N : Fr n0 locs) (i1 : Int32) (t0 : Int32)  (r : Int32), r = f2_37 p0 i1 t0 → own_Fin p e below s (fun v h L => v = some (.int r) ∧ Fr n0 L ∧ h = h0) ({ frames := 0, cells := 0, slots := 0, locals := 0 } : Room).cells ({ frames := 0, cells := 0, slots := 0, locals := 0 } : Room).slots (T.setTop (mkF m 37 #[.val (.int p0), .val (.int i1)] [(.int t0)])) := by
    intro T locs X eT N i1 t0  r hr
    have hr : r = (t0 &&& 1) := hr
    exact own_retZ X hx hlk Bd.returns (hb hby d2_37) ⟨own_someI hr, N, eT⟩ (by decide) (by decide)
  have g_36 : ∀ (T : State) (locs : List Loc) (X : Stand p l e ({ frames := 0, cells := 0, slots := 0, locals := 0 } : Room) s m #[(.int p0)] below meth c T locs 0 0) (eT : T.heap = h0) (N : Fr n0 locs) (i1 : Int32)  (r : Int32), r = f2_36 p0 i1 → own_Fin p e below s (fun v h L => v = some (.int r) ∧ Fr n0 L ∧ h = h0) ({ frames := 0, cells := 0, slots := 0, locals := 0 } : Room).cells ({ frames := 0, cells := 0, slots := 0, locals := 0 } : Room).slots (T.setTop (mkF m 36 #[.val (.int p0), .val (.int i1)] [])) := by
    intro T locs X eT N i1  r hr
    have hr : r = (f2_37 p0 i1 (0 : Int32)) := hr
    refine own_pre (B := T.setTop (mkF m 37 #[.val (.int p0), .val (.int i1)] [(.int (0 : Int32))])) (fun t k => XS.iconst X.here hx rfl (hb hby d2_36) k) ?_
    exact g_37 T _ X eT N i1 (0 : Int32) _ hr
  have g_0 : ∀ r, r = f2_0 p0 → own_Fin p e below s (fun v h L => v = some (.int r) ∧ Fr n0 L ∧ h = h0) ({ frames := 0, cells := 0, slots := 0, locals := 0 } : Room).cells ({ frames := 0, cells := 0, slots := 0, locals := 0 } : Room).slots (s₁.setTop (mkF m 0 #[.val (.int p0), .unset] [])) := by
    intro r hr
    have hr : r = (if p0 < (100 : Int32) then ((0 : Int32) &&& 1) else (if (999 : Int32) < p0 then ((0 : Int32) &&& 1) else (if (p0 / (100 : Int32)) < (2 : Int32) then (f2_36 p0 (p0 / (100 : Int32))) else (if (5 : Int32) < (p0 / (100 : Int32)) then (f2_36 p0 (p0 / (100 : Int32))) else (f2_37 p0 (p0 / (100 : Int32)) (1 : Int32)))))) := hr
    refine own_pre (B := s₁.setTop (mkF m 1 #[.val (.int p0), .unset] [(.int p0)])) (fun t k => XS.iloadN X0.here hx rfl (hb hby d2_0) rfl k) ?_
    refine own_pre (B := s₁.setTop (mkF m 3 #[.val (.int p0), .unset] [(.int (100 : Int32)), (.int p0)])) (fun t k => XS.bipush X0.here hx rfl (hb hby d2_1) k) ?_
    by_cases hc1 : p0 < (100 : Int32)
    · have hr2 := hr.trans (if_pos hc1)
      refine own_pre (B := s₁.setTop (mkF m 6 #[.val (.int p0), .unset] [])) (fun t k => XS.icmpNo X0.here hx rfl (hb hby d2_3) rfl (tlt hc1).2.1 k) ?_
      refine own_pre (B := s₁.setTop (mkF m 7 #[.val (.int p0), .unset] [(.int (0 : Int32))])) (fun t k => XS.iconst X0.here hx rfl (hb hby d2_6) k) ?_
      exact own_retZ X0 hx hlk Bd.returns (hb hby d2_7) ⟨own_someI hr2, N0, e0⟩ (by decide) (by decide)
    · have hr3 := hr.trans (if_neg hc1)
      refine own_pre (B := s₁.setTop (mkF m 8 #[.val (.int p0), .unset] [])) (fun t k => XS.icmpYes X0.here hx rfl (pc0 := 3) (pc' := 8) rfl (hb hby d2_3) rfl (flt hc1).2.1 (by decide) (by decide) k) ?_
      refine own_pre (B := s₁.setTop (mkF m 9 #[.val (.int p0), .unset] [(.int p0)])) (fun t k => XS.iloadN X0.here hx rfl (hb hby d2_8) rfl k) ?_
      refine own_pre (B := s₁.setTop (mkF m 12 #[.val (.int p0), .unset] [(.int (999 : Int32)), (.int p0)])) (fun t k => XS.sipush X0.here hx rfl (hb hby d2_9) k) ?_
      by_cases hc4 : (999 : Int32) < p0
      · have hr5 := hr3.trans (if_pos hc4)
        refine own_pre (B := s₁.setTop (mkF m 15 #[.val (.int p0), .unset] [])) (fun t k => XS.icmpNo X0.here hx rfl (hb hby d2_12) rfl (tlt hc4).2.2.2 k) ?_
        refine own_pre (B := s₁.setTop (mkF m 16 #[.val (.int p0), .unset] [(.int (0 : Int32))])) (fun t k => XS.iconst X0.here hx rfl (hb hby d2_15) k) ?_
        exact own_retZ X0 hx hlk Bd.returns (hb hby d2_16) ⟨own_someI hr5, N0, e0⟩ (by decide) (by decide)
      · have hr6 := hr3.trans (if_neg hc4)
        refine own_pre (B := s₁.setTop (mkF m 17 #[.val (.int p0), .unset] [])) (fun t k => XS.icmpYes X0.here hx rfl (pc0 := 12) (pc' := 17) rfl (hb hby d2_12) rfl (flt hc4).2.2.2 (by decide) (by decide) k) ?_
        refine own_pre (B := s₁.setTop (mkF m 18 #[.val (.int p0), .unset] [(.int p0)])) (fun t k => XS.iloadN X0.here hx rfl (hb hby d2_17) rfl k) ?_
        refine own_pre (B := s₁.setTop (mkF m 20 #[.val (.int p0), .unset] [(.int (100 : Int32)), (.int p0)])) (fun t k => XS.bipush X0.here hx rfl (hb hby d2_18) k) ?_
        refine own_pre (B := s₁.setTop (mkF m 21 #[.val (.int p0), .unset] [(.int (p0 / (100 : Int32)))])) (fun t k => XS.idiv X0.here hx rfl (hb hby d2_20) rfl (by decide) k) ?_
        refine own_pre (B := s₁.setTop (mkF m 22 #[.val (.int p0), .val (.int (p0 / (100 : Int32)))] [])) (fun t k => XS.istoreN X0.here hx rfl (hb hby d2_21) rfl (l' := #[.val (.int p0), .val (.int (p0 / (100 : Int32)))]) rfl k) ?_
        refine own_pre (B := s₁.setTop (mkF m 23 #[.val (.int p0), .val (.int (p0 / (100 : Int32)))] [(.int (p0 / (100 : Int32)))])) (fun t k => XS.iloadN X0.here hx rfl (hb hby d2_22) rfl k) ?_
        refine own_pre (B := s₁.setTop (mkF m 24 #[.val (.int p0), .val (.int (p0 / (100 : Int32)))] [(.int (2 : Int32)), (.int (p0 / (100 : Int32)))])) (fun t k => XS.iconst X0.here hx rfl (hb hby d2_23) k) ?_
        by_cases hc7 : (p0 / (100 : Int32)) < (2 : Int32)
        · have hr8 := hr6.trans (if_pos hc7)
          refine own_pre (B := s₁.setTop (mkF m 36 #[.val (.int p0), .val (.int (p0 / (100 : Int32)))] [])) (fun t k => XS.icmpYes X0.here hx rfl (pc0 := 24) (pc' := 36) rfl (hb hby d2_24) rfl (tlt hc7).1 (by decide) (by decide) k) ?_
          exact g_36 s₁ _ X0 e0 N0 (p0 / (100 : Int32)) _ hr8
        · have hr9 := hr6.trans (if_neg hc7)
          refine own_pre (B := s₁.setTop (mkF m 27 #[.val (.int p0), .val (.int (p0 / (100 : Int32)))] [])) (fun t k => XS.icmpNo X0.here hx rfl (hb hby d2_24) rfl (flt hc7).1 k) ?_
          refine own_pre (B := s₁.setTop (mkF m 28 #[.val (.int p0), .val (.int (p0 / (100 : Int32)))] [(.int (p0 / (100 : Int32)))])) (fun t k => XS.iloadN X0.here hx rfl (hb hby d2_27) rfl k) ?_
          refine own_pre (B := s₁.setTop (mkF m 29 #[.val (.int p0), .val (.int (p0 / (100 : Int32)))] [(.int (5 : Int32)), (.int (p0 / (100 : Int32)))])) (fun t k => XS.iconst X0.here hx rfl (hb hby d2_28) k) ?_
          by_cases hc10 : (5 : Int32) < (p0 / (100 : Int32))
          · have hr11 := hr9.trans (if_pos hc10)
            refine own_pre (B := s₁.setTop (mkF m 36 #[.val (.int p0), .val (.int (p0 / (100 : Int32)))] [])) (fun t k => XS.icmpYes X0.here hx rfl (pc0 := 29) (pc' := 36) rfl (hb hby d2_29) rfl (tlt hc10).2.2.1 (by decide) (by decide) k) ?_
            exact g_36 s₁ _ X0 e0 N0 (p0 / (100 : Int32)) _ hr11
          · have hr12 := hr9.trans (if_neg hc10)
            refine own_pre (B := s₁.setTop (mkF m 32 #[.val (.int p0), .val (.int (p0 / (100 : Int32)))] [])) (fun t k => XS.icmpNo X0.here hx rfl (hb hby d2_29) rfl (flt hc10).2.2.1 k) ?_
            refine own_pre (B := s₁.setTop (mkF m 33 #[.val (.int p0), .val (.int (p0 / (100 : Int32)))] [(.int (1 : Int32))])) (fun t k => XS.iconst X0.here hx rfl (hb hby d2_32) k) ?_
            refine own_pre (B := s₁.setTop (mkF m 37 #[.val (.int p0), .val (.int (p0 / (100 : Int32)))] [(.int (1 : Int32))])) (fun t k => XS.goto X0.here hx rfl (pc0 := 33) (pc' := 37) rfl (hb hby d2_33) (by decide) (by decide) k) ?_
            exact g_37 s₁ _ X0 e0 N0 (p0 / (100 : Int32)) (1 : Int32) _ hr12
  exact own_pre pre0 (g_0 _ rfl)
/-! body 0 -/
theorem pn_0 : plainName "com/example/dry_retry/dryretry/AnswerIsFinalStatusPinLaw" = true := by first | (simp [plainName, overriddenIn]; done) | decide +kernel
theorem pd0_0 : parseMethodDescriptor "(I)Z" = some ⟨[.int], some .boolean⟩ := by decide +kernel
theorem ef_0 (m : MethodId) (p0 : Int32) (p1 : Int32) : entryFrame m #[(.int p0), (.int p1)] maxLocals = mkF m 0 #[.val (.int p0), .val (.int p1), .unset, .unset, .unset] [] := by first | (simp [entryFrame, mkF, argsToLocals, Value.category, maxLocals]; done) | rfl
def f0_104 (p0 : Int32) (p1 : Int32) (i2 : Int32) (i3 : Int32) (i4 : Int32) (t0 : Int32) : Int32 := (t0 &&& 1)
def f0_103 (p0 : Int32) (p1 : Int32) (i2 : Int32) (i3 : Int32) (i4 : Int32) : Int32 := (f0_104 p0 p1 i2 i3 i4 (0 : Int32))
def f0_59 (p0 : Int32) (p1 : Int32) (i2 : Int32) (i3 : Int32) (t0 : Int32) : Int32 := (if t0 = (0 : Int32) then (f0_103 p0 p1 i2 i3 t0) else (if (f1_0 p0) = (f2_0 p0) then (if (f1_0 i2) = (f2_0 i2) then (if (f1_0 i3) = (f2_0 i3) then (f0_104 p0 p1 i2 i3 t0 (1 : Int32)) else (f0_103 p0 p1 i2 i3 t0)) else (f0_103 p0 p1 i2 i3 t0)) else (f0_103 p0 p1 i2 i3 t0)))
def f0_58 (p0 : Int32) (p1 : Int32) (i2 : Int32) (i3 : Int32) : Int32 := (f0_59 p0 p1 i2 i3 (0 : Int32))
def f0_0 (p0 : Int32) (p1 : Int32) : Int32 := (if (f1_0 (200 : Int32)) = (0 : Int32) then (f0_58 p0 p1 ((190 : Int32) + (p1 &&& (15 : Int32))) ((590 : Int32) + (p1 &&& (15 : Int32)))) else (if (f1_0 (599 : Int32)) = (0 : Int32) then (f0_58 p0 p1 ((190 : Int32) + (p1 &&& (15 : Int32))) ((590 : Int32) + (p1 &&& (15 : Int32)))) else (if (f1_0 (199 : Int32)) = (0 : Int32) then (if (f1_0 (600 : Int32)) = (0 : Int32) then (f0_59 p0 p1 ((190 : Int32) + (p1 &&& (15 : Int32))) ((590 : Int32) + (p1 &&& (15 : Int32))) (1 : Int32)) else (f0_58 p0 p1 ((190 : Int32) + (p1 &&& (15 : Int32))) ((590 : Int32) + (p1 &&& (15 : Int32))))) else (f0_58 p0 p1 ((190 : Int32) + (p1 &&& (15 : Int32))) ((590 : Int32) + (p1 &&& (15 : Int32)))))))
def Q0 (p0 : Int32) (p1 : Int32) (h0 : Heap) (n0 : Nat) (v : Option Value) (h : Heap) (L : List Loc) : Prop := v = some (.int (f0_0 p0 p1)) ∧ Fr n0 L
set_option maxRecDepth 65536 in
set_option maxHeartbeats 40000000 in
theorem rm0 (l : Launch) (Z : State) (a0 : Array Value) (hw : ∀ d ∈ tables_1, d.before a0 Z = true) (ws : List Jvm.Cond) (p0 : Int32) (p1 : Int32) (h0 : Heap) (n0 : Nat) (Z0 : n0 ≤ h0.size) :
    MetFree l x (head1 (Jvm.Cond.code x code maxLocals ret :: ws) room_1) (fun a U => a = #[(.int p0), (.int p1)] ∧ Z.Warmed39 U.vm ∧ U.heap = h0) (fun _ _ _ _ _ => True) (fun _ U o U' => ∃ v L, o = .returned v ∧ Q0 p0 p1 h0 n0 v U'.heap L ∧ FrameEnd U o U' L room_1.cells room_1.slots) := by
  refine MetFree.of_bodySF (plainFor_of_name pn_0) hisR ?_
  intro p e s m args below meth c s₁ Bd hml0 hP hK
  obtain ⟨rfl, hZ, hh⟩ := hP
  have hx := Bd.exec
  have hby := Bd.bytes
  have hml : c.maxLocals = 5 := hml0
  have hlk : meth.locks = false := BodyLoose.notSynchronized Bd
  have hown : s.vm.findClass "com/example/dry_retry/dryretry/AnswerIsFinalStatusPinLaw" = some m.cls := findClass_of_methodNamed Bd.named
  have X0 : Stand p l e room_1 s m #[(.int p0), (.int p1)] below meth c s₁ [] 0 0 := Stand.of_body Bd
  have e0 : s₁.heap = h0 := by rw [← hh, Bd.state]; rfl
  have N0 := Fr.nil n0
  have Zs0 : n0 ≤ s₁.heap.size := by rw [e0]; exact Z0
  have pre0 : ∀ t, Steps p.tables e below (s₁.setTop (mkF m 0 #[.val (.int p0), .val (.int p1), .unset, .unset, .unset] [])) t → Steps p.tables e below (s₁.setTop (entryFrame m #[(.int p0), (.int p1)] maxLocals)) t := fun t k => castTop (ef_0 m p0 p1) k
  have hnm := (name_of_methodNamed Bd.named Bd.method).1
  have g_104 : ∀ (T : State) (locs : List Loc) (X : Stand p l e room_1 s m #[(.int p0), (.int p1)] below meth c T locs 0 0) (N : Fr n0 locs) (Zs : n0 ≤ T.heap.size) (i2 : Int32) (i3 : Int32) (i4 : Int32) (t0 : Int32)  (r : Int32), r = f0_104 p0 p1 i2 i3 i4 t0 → own_Fin p e below s (fun v h L => v = some (.int r) ∧ Fr n0 L) room_1.cells room_1.slots (T.setTop (mkF m 104 #[.val (.int p0), .val (.int p1), .val (.int i2), .val (.int i3), .val (.int i4)] [(.int t0)])) := by
    intro T locs X N Zs i2 i3 i4 t0  r hr
    have hr : r = (t0 &&& 1) := hr
    exact own_retZ X hx hlk Bd.returns (hb hby at_104) ⟨own_someI hr, N⟩ (by decide) (by decide)
  have g_103 : ∀ (T : State) (locs : List Loc) (X : Stand p l e room_1 s m #[(.int p0), (.int p1)] below meth c T locs 0 0) (N : Fr n0 locs) (Zs : n0 ≤ T.heap.size) (i2 : Int32) (i3 : Int32) (i4 : Int32)  (r : Int32), r = f0_103 p0 p1 i2 i3 i4 → own_Fin p e below s (fun v h L => v = some (.int r) ∧ Fr n0 L) room_1.cells room_1.slots (T.setTop (mkF m 103 #[.val (.int p0), .val (.int p1), .val (.int i2), .val (.int i3), .val (.int i4)] [])) := by
    intro T locs X N Zs i2 i3 i4  r hr
    have hr : r = (f0_104 p0 p1 i2 i3 i4 (0 : Int32)) := hr
    refine own_pre (B := T.setTop (mkF m 104 #[.val (.int p0), .val (.int p1), .val (.int i2), .val (.int i3), .val (.int i4)] [(.int (0 : Int32))])) (fun t k => XS.iconst X.here hx rfl (hb hby at_103) k) ?_
    exact g_104 T _ X N Zs i2 i3 i4 (0 : Int32) _ hr
  have g_59 : ∀ (T : State) (locs : List Loc) (X : Stand p l e room_1 s m #[(.int p0), (.int p1)] below meth c T locs 0 0) (N : Fr n0 locs) (Zs : n0 ≤ T.heap.size) (i2 : Int32) (i3 : Int32) (t0 : Int32)  (r : Int32), r = f0_59 p0 p1 i2 i3 t0 → own_Fin p e below s (fun v h L => v = some (.int r) ∧ Fr n0 L) room_1.cells room_1.slots (T.setTop (mkF m 59 #[.val (.int p0), .val (.int p1), .val (.int i2), .val (.int i3), .unset] [(.int t0)])) := by
    intro T locs X N Zs i2 i3 t0  r hr
    have hr : r = (if t0 = (0 : Int32) then (f0_103 p0 p1 i2 i3 t0) else (if (f1_0 p0) = (f2_0 p0) then (if (f1_0 i2) = (f2_0 i2) then (if (f1_0 i3) = (f2_0 i3) then (f0_104 p0 p1 i2 i3 t0 (1 : Int32)) else (f0_103 p0 p1 i2 i3 t0)) else (f0_103 p0 p1 i2 i3 t0)) else (f0_103 p0 p1 i2 i3 t0))) := hr
    refine own_pre (B := T.setTop (mkF m 61 #[.val (.int p0), .val (.int p1), .val (.int i2), .val (.int i3), .val (.int t0)] [])) (fun t k => XS.istore X.here hx rfl (hb hby at_59) rfl (l' := #[.val (.int p0), .val (.int p1), .val (.int i2), .val (.int i3), .val (.int t0)]) rfl k) ?_
    refine own_pre (B := T.setTop (mkF m 63 #[.val (.int p0), .val (.int p1), .val (.int i2), .val (.int i3), .val (.int t0)] [(.int t0)])) (fun t k => XS.iload X.here hx rfl (hb hby at_61) rfl k) ?_
    by_cases hc1 : t0 = (0 : Int32)
    · have hr2 := hr.trans (if_pos hc1)
      refine own_pre (B := T.setTop (mkF m 103 #[.val (.int p0), .val (.int p1), .val (.int i2), .val (.int i3), .val (.int t0)] [])) (fun t k => XS.ifYes X.here hx rfl (pc0 := 63) (pc' := 103) rfl (hb hby at_63) rfl ((if0 _ _).trans (teq hc1).1) (by decide) (by decide) k) ?_
      exact g_103 T _ X N Zs i2 i3 t0 _ hr2
    · have hr3 := hr.trans (if_neg hc1)
      refine own_pre (B := T.setTop (mkF m 66 #[.val (.int p0), .val (.int p1), .val (.int i2), .val (.int i3), .val (.int t0)] [])) (fun t k => XS.ifNo X.here hx rfl (hb hby at_63) rfl ((if0 _ _).trans (feq hc1).1) k) ?_
      refine own_pre (B := T.setTop (mkF m 67 #[.val (.int p0), .val (.int p1), .val (.int i2), .val (.int i3), .val (.int t0)] [(.int p0)])) (fun t k => XS.iloadN X.here hx rfl (hb hby at_66) rfl k) ?_
      obtain ⟨_, _, ⟨T4, L4, k4, n4⟩, -, X4, ⟨Lc4, hQ4, l4, y4, z4⟩, st4⟩ := Jvm.LawKit.callS X hx (y := (⟨"com/example/dry_retry/dryretry/Answer", "isFinalStatus", "(I)Z"⟩ : MethodName)) hown (mvT hZ (hw _ (List.mem_of_getElem? (i := 0) rfl))) (mvT hZ (hw _ (List.mem_of_getElem? (i := 1) rfl))) (mvT hZ (hw _ (List.mem_of_getElem? (i := 2) rfl))) (mvT hZ (hw _ (List.mem_of_getElem? (i := 3) rfl))) (by decide) (backOf (W := 0) (rm1 l Z a0 hw [] p0 T.heap n0 Zs) hZ (hw _ (List.mem_of_getElem? (i := 3) rfl)) (hw _ (List.mem_of_getElem? (i := 2) rfl)) (by decide) (by decide)) (g := (mkF m 67 #[.val (.int p0), .val (.int p1), .val (.int i2), .val (.int i3), .val (.int t0)] [(.int p0)])) rfl (by rw [hml]; rfl) (argsL := [(.int p0)]) (rest := []) (lenOf pd0_0 rfl) rfl (by show 2 * 0 + _ ≤ _; exact Nat.le_of_eq rfl) (hb hby at_67) (fun _ _ => ⟨rfl, rfl, (by decide : 0 + 0 ≤ _), (by decide : 0 + 0 ≤ _)⟩)
      dsimp only [Pt.U, Pt.locs, Pt.cells, Pt.slots] at X4 l4 y4 z4 st4 hQ4
      subst l4 y4 z4
      obtain ⟨rfl, Nq4, e4⟩ := hQ4
      have N4 := Fr.app N Nq4
      have Zs4 : n0 ≤ T4.heap.size := by rw [e4]; exact Zs
      refine own_pre (B := T4.setTop (mkF m 70 #[.val (.int p0), .val (.int p1), .val (.int i2), .val (.int i3), .val (.int t0)] [(.int (f1_0 p0))])) st4 ?_
      refine own_pre (B := T4.setTop (mkF m 71 #[.val (.int p0), .val (.int p1), .val (.int i2), .val (.int i3), .val (.int t0)] [(.int p0), (.int (f1_0 p0))])) (fun t k => XS.iloadN X4.here hx rfl (hb hby at_70) rfl k) ?_
      obtain ⟨_, _, ⟨T5, L5, k5, n5⟩, -, X5, ⟨Lc5, hQ5, l5, y5, z5⟩, st5⟩ := Jvm.LawKit.callS X4 hx (y := (⟨"com/example/dry_retry/dryretry/AnswerIsFinalStatusPinLaw", "reference", "(I)Z"⟩ : MethodName)) hown (mvT hZ (hw _ (List.mem_of_getElem? (i := 4) rfl))) (mvT hZ (hw _ (List.mem_of_getElem? (i := 5) rfl))) (mvT hZ (hw _ (List.mem_of_getElem? (i := 6) rfl))) (mvT hZ (hw _ (List.mem_of_getElem? (i := 7) rfl))) (by decide) (backOf (W := 1) (rm2 l Z a0 hw [] p0 T.heap n0 Zs) hZ (hw _ (List.mem_of_getElem? (i := 7) rfl)) (hw _ (List.mem_of_getElem? (i := 6) rfl)) (by decide) (by decide)) (g := (mkF m 71 #[.val (.int p0), .val (.int p1), .val (.int i2), .val (.int i3), .val (.int t0)] [(.int p0), (.int (f1_0 p0))])) rfl (by rw [hml]; rfl) (argsL := [(.int p0)]) (rest := [(.int (f1_0 p0))]) (lenOf pd0_0 rfl) rfl (by show 2 * 0 + _ ≤ _; exact Nat.le_of_eq rfl) (hb hby at_71) (fun _ _ => ⟨rfl, e4, (by decide : 0 + 0 ≤ _), (by decide : 0 + 0 ≤ _)⟩)
      dsimp only [Pt.U, Pt.locs, Pt.cells, Pt.slots] at X5 l5 y5 z5 st5 hQ5
      subst l5 y5 z5
      obtain ⟨rfl, Nq5, e5⟩ := hQ5
      have N5 := Fr.app N4 Nq5
      have Zs5 : n0 ≤ T5.heap.size := by rw [e5]; exact Zs
      refine own_pre (B := T5.setTop (mkF m 74 #[.val (.int p0), .val (.int p1), .val (.int i2), .val (.int i3), .val (.int t0)] [(.int (f2_0 p0)), (.int (f1_0 p0))])) st5 ?_
      by_cases hc6 : (f1_0 p0) = (f2_0 p0)
      · have hr7 := hr3.trans (if_pos hc6)
        refine own_pre (B := T5.setTop (mkF m 77 #[.val (.int p0), .val (.int p1), .val (.int i2), .val (.int i3), .val (.int t0)] [])) (fun t k => XS.icmpNo X5.here hx rfl (hb hby at_74) rfl (teq hc6).2 k) ?_
        refine own_pre (B := T5.setTop (mkF m 78 #[.val (.int p0), .val (.int p1), .val (.int i2), .val (.int i3), .val (.int t0)] [(.int i2)])) (fun t k => XS.iloadN X5.here hx rfl (hb hby at_77) rfl k) ?_
        obtain ⟨_, _, ⟨T8, L8, k8, n8⟩, -, X8, ⟨Lc8, hQ8, l8, y8, z8⟩, st8⟩ := Jvm.LawKit.callS X5 hx (y := (⟨"com/example/dry_retry/dryretry/Answer", "isFinalStatus", "(I)Z"⟩ : MethodName)) hown (mvT hZ (hw _ (List.mem_of_getElem? (i := 0) rfl))) (mvT hZ (hw _ (List.mem_of_getElem? (i := 1) rfl))) (mvT hZ (hw _ (List.mem_of_getElem? (i := 2) rfl))) (mvT hZ (hw _ (List.mem_of_getElem? (i := 3) rfl))) (by decide) (backOf (W := 0) (rm1 l Z a0 hw [] i2 T.heap n0 Zs) hZ (hw _ (List.mem_of_getElem? (i := 3) rfl)) (hw _ (List.mem_of_getElem? (i := 2) rfl)) (by decide) (by decide)) (g := (mkF m 78 #[.val (.int p0), .val (.int p1), .val (.int i2), .val (.int i3), .val (.int t0)] [(.int i2)])) rfl (by rw [hml]; rfl) (argsL := [(.int i2)]) (rest := []) (lenOf pd0_0 rfl) rfl (by show 2 * 0 + _ ≤ _; exact Nat.le_of_eq rfl) (hb hby at_78) (fun _ _ => ⟨rfl, e5, (by decide : 0 + 0 ≤ _), (by decide : 0 + 0 ≤ _)⟩)
        dsimp only [Pt.U, Pt.locs, Pt.cells, Pt.slots] at X8 l8 y8 z8 st8 hQ8
        subst l8 y8 z8
        obtain ⟨rfl, Nq8, e8⟩ := hQ8
        have N8 := Fr.app N5 Nq8
        have Zs8 : n0 ≤ T8.heap.size := by rw [e8]; exact Zs
        refine own_pre (B := T8.setTop (mkF m 81 #[.val (.int p0), .val (.int p1), .val (.int i2), .val (.int i3), .val (.int t0)] [(.int (f1_0 i2))])) st8 ?_
        refine own_pre (B := T8.setTop (mkF m 82 #[.val (.int p0), .val (.int p1), .val (.int i2), .val (.int i3), .val (.int t0)] [(.int i2), (.int (f1_0 i2))])) (fun t k => XS.iloadN X8.here hx rfl (hb hby at_81) rfl k) ?_
        obtain ⟨_, _, ⟨T9, L9, k9, n9⟩, -, X9, ⟨Lc9, hQ9, l9, y9, z9⟩, st9⟩ := Jvm.LawKit.callS X8 hx (y := (⟨"com/example/dry_retry/dryretry/AnswerIsFinalStatusPinLaw", "reference", "(I)Z"⟩ : MethodName)) hown (mvT hZ (hw _ (List.mem_of_getElem? (i := 4) rfl))) (mvT hZ (hw _ (List.mem_of_getElem? (i := 5) rfl))) (mvT hZ (hw _ (List.mem_of_getElem? (i := 6) rfl))) (mvT hZ (hw _ (List.mem_of_getElem? (i := 7) rfl))) (by decide) (backOf (W := 1) (rm2 l Z a0 hw [] i2 T.heap n0 Zs) hZ (hw _ (List.mem_of_getElem? (i := 7) rfl)) (hw _ (List.mem_of_getElem? (i := 6) rfl)) (by decide) (by decide)) (g := (mkF m 82 #[.val (.int p0), .val (.int p1), .val (.int i2), .val (.int i3), .val (.int t0)] [(.int i2), (.int (f1_0 i2))])) rfl (by rw [hml]; rfl) (argsL := [(.int i2)]) (rest := [(.int (f1_0 i2))]) (lenOf pd0_0 rfl) rfl (by show 2 * 0 + _ ≤ _; exact Nat.le_of_eq rfl) (hb hby at_82) (fun _ _ => ⟨rfl, e8, (by decide : 0 + 0 ≤ _), (by decide : 0 + 0 ≤ _)⟩)
        dsimp only [Pt.U, Pt.locs, Pt.cells, Pt.slots] at X9 l9 y9 z9 st9 hQ9
        subst l9 y9 z9
        obtain ⟨rfl, Nq9, e9⟩ := hQ9
        have N9 := Fr.app N8 Nq9
        have Zs9 : n0 ≤ T9.heap.size := by rw [e9]; exact Zs
        refine own_pre (B := T9.setTop (mkF m 85 #[.val (.int p0), .val (.int p1), .val (.int i2), .val (.int i3), .val (.int t0)] [(.int (f2_0 i2)), (.int (f1_0 i2))])) st9 ?_
        by_cases hc10 : (f1_0 i2) = (f2_0 i2)
        · have hr11 := hr7.trans (if_pos hc10)
          refine own_pre (B := T9.setTop (mkF m 88 #[.val (.int p0), .val (.int p1), .val (.int i2), .val (.int i3), .val (.int t0)] [])) (fun t k => XS.icmpNo X9.here hx rfl (hb hby at_85) rfl (teq hc10).2 k) ?_
          refine own_pre (B := T9.setTop (mkF m 89 #[.val (.int p0), .val (.int p1), .val (.int i2), .val (.int i3), .val (.int t0)] [(.int i3)])) (fun t k => XS.iloadN X9.here hx rfl (hb hby at_88) rfl k) ?_
          obtain ⟨_, _, ⟨T12, L12, k12, n12⟩, -, X12, ⟨Lc12, hQ12, l12, y12, z12⟩, st12⟩ := Jvm.LawKit.callS X9 hx (y := (⟨"com/example/dry_retry/dryretry/Answer", "isFinalStatus", "(I)Z"⟩ : MethodName)) hown (mvT hZ (hw _ (List.mem_of_getElem? (i := 0) rfl))) (mvT hZ (hw _ (List.mem_of_getElem? (i := 1) rfl))) (mvT hZ (hw _ (List.mem_of_getElem? (i := 2) rfl))) (mvT hZ (hw _ (List.mem_of_getElem? (i := 3) rfl))) (by decide) (backOf (W := 0) (rm1 l Z a0 hw [] i3 T.heap n0 Zs) hZ (hw _ (List.mem_of_getElem? (i := 3) rfl)) (hw _ (List.mem_of_getElem? (i := 2) rfl)) (by decide) (by decide)) (g := (mkF m 89 #[.val (.int p0), .val (.int p1), .val (.int i2), .val (.int i3), .val (.int t0)] [(.int i3)])) rfl (by rw [hml]; rfl) (argsL := [(.int i3)]) (rest := []) (lenOf pd0_0 rfl) rfl (by show 2 * 0 + _ ≤ _; exact Nat.le_of_eq rfl) (hb hby at_89) (fun _ _ => ⟨rfl, e9, (by decide : 0 + 0 ≤ _), (by decide : 0 + 0 ≤ _)⟩)
          dsimp only [Pt.U, Pt.locs, Pt.cells, Pt.slots] at X12 l12 y12 z12 st12 hQ12
          subst l12 y12 z12
          obtain ⟨rfl, Nq12, e12⟩ := hQ12
          have N12 := Fr.app N9 Nq12
          have Zs12 : n0 ≤ T12.heap.size := by rw [e12]; exact Zs
          refine own_pre (B := T12.setTop (mkF m 92 #[.val (.int p0), .val (.int p1), .val (.int i2), .val (.int i3), .val (.int t0)] [(.int (f1_0 i3))])) st12 ?_
          refine own_pre (B := T12.setTop (mkF m 93 #[.val (.int p0), .val (.int p1), .val (.int i2), .val (.int i3), .val (.int t0)] [(.int i3), (.int (f1_0 i3))])) (fun t k => XS.iloadN X12.here hx rfl (hb hby at_92) rfl k) ?_
          obtain ⟨_, _, ⟨T13, L13, k13, n13⟩, -, X13, ⟨Lc13, hQ13, l13, y13, z13⟩, st13⟩ := Jvm.LawKit.callS X12 hx (y := (⟨"com/example/dry_retry/dryretry/AnswerIsFinalStatusPinLaw", "reference", "(I)Z"⟩ : MethodName)) hown (mvT hZ (hw _ (List.mem_of_getElem? (i := 4) rfl))) (mvT hZ (hw _ (List.mem_of_getElem? (i := 5) rfl))) (mvT hZ (hw _ (List.mem_of_getElem? (i := 6) rfl))) (mvT hZ (hw _ (List.mem_of_getElem? (i := 7) rfl))) (by decide) (backOf (W := 1) (rm2 l Z a0 hw [] i3 T.heap n0 Zs) hZ (hw _ (List.mem_of_getElem? (i := 7) rfl)) (hw _ (List.mem_of_getElem? (i := 6) rfl)) (by decide) (by decide)) (g := (mkF m 93 #[.val (.int p0), .val (.int p1), .val (.int i2), .val (.int i3), .val (.int t0)] [(.int i3), (.int (f1_0 i3))])) rfl (by rw [hml]; rfl) (argsL := [(.int i3)]) (rest := [(.int (f1_0 i3))]) (lenOf pd0_0 rfl) rfl (by show 2 * 0 + _ ≤ _; exact Nat.le_of_eq rfl) (hb hby at_93) (fun _ _ => ⟨rfl, e12, (by decide : 0 + 0 ≤ _), (by decide : 0 + 0 ≤ _)⟩)
          dsimp only [Pt.U, Pt.locs, Pt.cells, Pt.slots] at X13 l13 y13 z13 st13 hQ13
          subst l13 y13 z13
          obtain ⟨rfl, Nq13, e13⟩ := hQ13
          have N13 := Fr.app N12 Nq13
          have Zs13 : n0 ≤ T13.heap.size := by rw [e13]; exact Zs
          refine own_pre (B := T13.setTop (mkF m 96 #[.val (.int p0), .val (.int p1), .val (.int i2), .val (.int i3), .val (.int t0)] [(.int (f2_0 i3)), (.int (f1_0 i3))])) st13 ?_
          by_cases hc14 : (f1_0 i3) = (f2_0 i3)
          · have hr15 := hr11.trans (if_pos hc14)
            refine own_pre (B := T13.setTop (mkF m 99 #[.val (.int p0), .val (.int p1), .val (.int i2), .val (.int i3), .val (.int t0)] [])) (fun t k => XS.icmpNo X13.here hx rfl (hb hby at_96) rfl (teq hc14).2 k) ?_
            refine own_pre (B := T13.setTop (mkF m 100 #[.val (.int p0), .val (.int p1), .val (.int i2), .val (.int i3), .val (.int t0)] [(.int (1 : Int32))])) (fun t k => XS.iconst X13.here hx rfl (hb hby at_99) k) ?_
            refine own_pre (B := T13.setTop (mkF m 104 #[.val (.int p0), .val (.int p1), .val (.int i2), .val (.int i3), .val (.int t0)] [(.int (1 : Int32))])) (fun t k => XS.goto X13.here hx rfl (pc0 := 100) (pc' := 104) rfl (hb hby at_100) (by decide) (by decide) k) ?_
            exact g_104 T13 _ X13 N13 Zs13 i2 i3 t0 (1 : Int32) _ hr15
          · have hr16 := hr11.trans (if_neg hc14)
            refine own_pre (B := T13.setTop (mkF m 103 #[.val (.int p0), .val (.int p1), .val (.int i2), .val (.int i3), .val (.int t0)] [])) (fun t k => XS.icmpYes X13.here hx rfl (pc0 := 96) (pc' := 103) rfl (hb hby at_96) rfl (feq hc14).2 (by decide) (by decide) k) ?_
            exact g_103 T13 _ X13 N13 Zs13 i2 i3 t0 _ hr16
        · have hr17 := hr7.trans (if_neg hc10)
          refine own_pre (B := T9.setTop (mkF m 103 #[.val (.int p0), .val (.int p1), .val (.int i2), .val (.int i3), .val (.int t0)] [])) (fun t k => XS.icmpYes X9.here hx rfl (pc0 := 85) (pc' := 103) rfl (hb hby at_85) rfl (feq hc10).2 (by decide) (by decide) k) ?_
          exact g_103 T9 _ X9 N9 Zs9 i2 i3 t0 _ hr17
      · have hr18 := hr3.trans (if_neg hc6)
        refine own_pre (B := T5.setTop (mkF m 103 #[.val (.int p0), .val (.int p1), .val (.int i2), .val (.int i3), .val (.int t0)] [])) (fun t k => XS.icmpYes X5.here hx rfl (pc0 := 74) (pc' := 103) rfl (hb hby at_74) rfl (feq hc6).2 (by decide) (by decide) k) ?_
        exact g_103 T5 _ X5 N5 Zs5 i2 i3 t0 _ hr18
  have g_58 : ∀ (T : State) (locs : List Loc) (X : Stand p l e room_1 s m #[(.int p0), (.int p1)] below meth c T locs 0 0) (N : Fr n0 locs) (Zs : n0 ≤ T.heap.size) (i2 : Int32) (i3 : Int32)  (r : Int32), r = f0_58 p0 p1 i2 i3 → own_Fin p e below s (fun v h L => v = some (.int r) ∧ Fr n0 L) room_1.cells room_1.slots (T.setTop (mkF m 58 #[.val (.int p0), .val (.int p1), .val (.int i2), .val (.int i3), .unset] [])) := by
    intro T locs X N Zs i2 i3  r hr
    have hr : r = (f0_59 p0 p1 i2 i3 (0 : Int32)) := hr
    refine own_pre (B := T.setTop (mkF m 59 #[.val (.int p0), .val (.int p1), .val (.int i2), .val (.int i3), .unset] [(.int (0 : Int32))])) (fun t k => XS.iconst X.here hx rfl (hb hby at_58) k) ?_
    exact g_59 T _ X N Zs i2 i3 (0 : Int32) _ hr
  have g_0 : ∀ r, r = f0_0 p0 p1 → own_Fin p e below s (fun v h L => v = some (.int r) ∧ Fr n0 L) room_1.cells room_1.slots (s₁.setTop (mkF m 0 #[.val (.int p0), .val (.int p1), .unset, .unset, .unset] [])) := by
    intro r hr
    have hr : r = (if (f1_0 (200 : Int32)) = (0 : Int32) then (f0_58 p0 p1 ((190 : Int32) + (p1 &&& (15 : Int32))) ((590 : Int32) + (p1 &&& (15 : Int32)))) else (if (f1_0 (599 : Int32)) = (0 : Int32) then (f0_58 p0 p1 ((190 : Int32) + (p1 &&& (15 : Int32))) ((590 : Int32) + (p1 &&& (15 : Int32)))) else (if (f1_0 (199 : Int32)) = (0 : Int32) then (if (f1_0 (600 : Int32)) = (0 : Int32) then (f0_59 p0 p1 ((190 : Int32) + (p1 &&& (15 : Int32))) ((590 : Int32) + (p1 &&& (15 : Int32))) (1 : Int32)) else (f0_58 p0 p1 ((190 : Int32) + (p1 &&& (15 : Int32))) ((590 : Int32) + (p1 &&& (15 : Int32))))) else (f0_58 p0 p1 ((190 : Int32) + (p1 &&& (15 : Int32))) ((590 : Int32) + (p1 &&& (15 : Int32))))))) := hr
    refine own_pre (B := s₁.setTop (mkF m 3 #[.val (.int p0), .val (.int p1), .unset, .unset, .unset] [(.int (190 : Int32))])) (fun t k => XS.sipush X0.here hx rfl (hb hby at_0) k) ?_
    refine own_pre (B := s₁.setTop (mkF m 4 #[.val (.int p0), .val (.int p1), .unset, .unset, .unset] [(.int p1), (.int (190 : Int32))])) (fun t k => XS.iloadN X0.here hx rfl (hb hby at_3) rfl k) ?_
    refine own_pre (B := s₁.setTop (mkF m 6 #[.val (.int p0), .val (.int p1), .unset, .unset, .unset] [(.int (15 : Int32)), (.int p1), (.int (190 : Int32))])) (fun t k => XS.bipush X0.here hx rfl (hb hby at_4) k) ?_
    refine own_pre (B := s₁.setTop (mkF m 7 #[.val (.int p0), .val (.int p1), .unset, .unset, .unset] [(.int (p1 &&& (15 : Int32))), (.int (190 : Int32))])) (fun t k => XS.iand X0.here hx rfl (hb hby at_6) rfl k) ?_
    refine own_pre (B := s₁.setTop (mkF m 8 #[.val (.int p0), .val (.int p1), .unset, .unset, .unset] [(.int ((190 : Int32) + (p1 &&& (15 : Int32))))])) (fun t k => XS.iadd X0.here hx rfl (hb hby at_7) rfl k) ?_
    refine own_pre (B := s₁.setTop (mkF m 9 #[.val (.int p0), .val (.int p1), .val (.int ((190 : Int32) + (p1 &&& (15 : Int32)))), .unset, .unset] [])) (fun t k => XS.istoreN X0.here hx rfl (hb hby at_8) rfl (l' := #[.val (.int p0), .val (.int p1), .val (.int ((190 : Int32) + (p1 &&& (15 : Int32)))), .unset, .unset]) rfl k) ?_
    refine own_pre (B := s₁.setTop (mkF m 12 #[.val (.int p0), .val (.int p1), .val (.int ((190 : Int32) + (p1 &&& (15 : Int32)))), .unset, .unset] [(.int (590 : Int32))])) (fun t k => XS.sipush X0.here hx rfl (hb hby at_9) k) ?_
    refine own_pre (B := s₁.setTop (mkF m 13 #[.val (.int p0), .val (.int p1), .val (.int ((190 : Int32) + (p1 &&& (15 : Int32)))), .unset, .unset] [(.int p1), (.int (590 : Int32))])) (fun t k => XS.iloadN X0.here hx rfl (hb hby at_12) rfl k) ?_
    refine own_pre (B := s₁.setTop (mkF m 15 #[.val (.int p0), .val (.int p1), .val (.int ((190 : Int32) + (p1 &&& (15 : Int32)))), .unset, .unset] [(.int (15 : Int32)), (.int p1), (.int (590 : Int32))])) (fun t k => XS.bipush X0.here hx rfl (hb hby at_13) k) ?_
    refine own_pre (B := s₁.setTop (mkF m 16 #[.val (.int p0), .val (.int p1), .val (.int ((190 : Int32) + (p1 &&& (15 : Int32)))), .unset, .unset] [(.int (p1 &&& (15 : Int32))), (.int (590 : Int32))])) (fun t k => XS.iand X0.here hx rfl (hb hby at_15) rfl k) ?_
    refine own_pre (B := s₁.setTop (mkF m 17 #[.val (.int p0), .val (.int p1), .val (.int ((190 : Int32) + (p1 &&& (15 : Int32)))), .unset, .unset] [(.int ((590 : Int32) + (p1 &&& (15 : Int32))))])) (fun t k => XS.iadd X0.here hx rfl (hb hby at_16) rfl k) ?_
    refine own_pre (B := s₁.setTop (mkF m 18 #[.val (.int p0), .val (.int p1), .val (.int ((190 : Int32) + (p1 &&& (15 : Int32)))), .val (.int ((590 : Int32) + (p1 &&& (15 : Int32)))), .unset] [])) (fun t k => XS.istoreN X0.here hx rfl (hb hby at_17) rfl (l' := #[.val (.int p0), .val (.int p1), .val (.int ((190 : Int32) + (p1 &&& (15 : Int32)))), .val (.int ((590 : Int32) + (p1 &&& (15 : Int32)))), .unset]) rfl k) ?_
    refine own_pre (B := s₁.setTop (mkF m 21 #[.val (.int p0), .val (.int p1), .val (.int ((190 : Int32) + (p1 &&& (15 : Int32)))), .val (.int ((590 : Int32) + (p1 &&& (15 : Int32)))), .unset] [(.int (200 : Int32))])) (fun t k => XS.sipush X0.here hx rfl (hb hby at_18) k) ?_
    obtain ⟨_, _, ⟨T1, L1, k1, n1⟩, -, X1, ⟨Lc1, hQ1, l1, y1, z1⟩, st1⟩ := Jvm.LawKit.callS X0 hx (y := (⟨"com/example/dry_retry/dryretry/Answer", "isFinalStatus", "(I)Z"⟩ : MethodName)) hown (mvT hZ (hw _ (List.mem_of_getElem? (i := 0) rfl))) (mvT hZ (hw _ (List.mem_of_getElem? (i := 1) rfl))) (mvT hZ (hw _ (List.mem_of_getElem? (i := 2) rfl))) (mvT hZ (hw _ (List.mem_of_getElem? (i := 3) rfl))) (by decide) (backOf (W := 0) (rm1 l Z a0 hw [] (200 : Int32) h0 n0 Z0) hZ (hw _ (List.mem_of_getElem? (i := 3) rfl)) (hw _ (List.mem_of_getElem? (i := 2) rfl)) (by decide) (by decide)) (g := (mkF m 21 #[.val (.int p0), .val (.int p1), .val (.int ((190 : Int32) + (p1 &&& (15 : Int32)))), .val (.int ((590 : Int32) + (p1 &&& (15 : Int32)))), .unset] [(.int (200 : Int32))])) rfl (by rw [hml]; rfl) (argsL := [(.int (200 : Int32))]) (rest := []) (lenOf pd0_0 rfl) rfl (by show 2 * 0 + _ ≤ _; exact Nat.le_of_eq rfl) (hb hby at_21) (fun _ _ => ⟨rfl, e0, (by decide : 0 + 0 ≤ _), (by decide : 0 + 0 ≤ _)⟩)
    dsimp only [Pt.U, Pt.locs, Pt.cells, Pt.slots] at X1 l1 y1 z1 st1 hQ1
    subst l1 y1 z1
    obtain ⟨rfl, Nq1, e1⟩ := hQ1
    have N1 := Fr.app N0 Nq1
    have Zs1 : n0 ≤ T1.heap.size := by rw [e1]; exact Z0
    refine own_pre (B := T1.setTop (mkF m 24 #[.val (.int p0), .val (.int p1), .val (.int ((190 : Int32) + (p1 &&& (15 : Int32)))), .val (.int ((590 : Int32) + (p1 &&& (15 : Int32)))), .unset] [(.int (f1_0 (200 : Int32)))])) st1 ?_
    by_cases hc2 : (f1_0 (200 : Int32)) = (0 : Int32)
    · have hr3 := hr.trans (if_pos hc2)
      refine own_pre (B := T1.setTop (mkF m 58 #[.val (.int p0), .val (.int p1), .val (.int ((190 : Int32) + (p1 &&& (15 : Int32)))), .val (.int ((590 : Int32) + (p1 &&& (15 : Int32)))), .unset] [])) (fun t k => XS.ifYes X1.here hx rfl (pc0 := 24) (pc' := 58) rfl (hb hby at_24) rfl ((if0 _ _).trans (teq hc2).1) (by decide) (by decide) k) ?_
      exact g_58 T1 _ X1 N1 Zs1 ((190 : Int32) + (p1 &&& (15 : Int32))) ((590 : Int32) + (p1 &&& (15 : Int32))) _ hr3
    · have hr4 := hr.trans (if_neg hc2)
      refine own_pre (B := T1.setTop (mkF m 27 #[.val (.int p0), .val (.int p1), .val (.int ((190 : Int32) + (p1 &&& (15 : Int32)))), .val (.int ((590 : Int32) + (p1 &&& (15 : Int32)))), .unset] [])) (fun t k => XS.ifNo X1.here hx rfl (hb hby at_24) rfl ((if0 _ _).trans (feq hc2).1) k) ?_
      refine own_pre (B := T1.setTop (mkF m 30 #[.val (.int p0), .val (.int p1), .val (.int ((190 : Int32) + (p1 &&& (15 : Int32)))), .val (.int ((590 : Int32) + (p1 &&& (15 : Int32)))), .unset] [(.int (599 : Int32))])) (fun t k => XS.sipush X1.here hx rfl (hb hby at_27) k) ?_
      obtain ⟨_, _, ⟨T5, L5, k5, n5⟩, -, X5, ⟨Lc5, hQ5, l5, y5, z5⟩, st5⟩ := Jvm.LawKit.callS X1 hx (y := (⟨"com/example/dry_retry/dryretry/Answer", "isFinalStatus", "(I)Z"⟩ : MethodName)) hown (mvT hZ (hw _ (List.mem_of_getElem? (i := 0) rfl))) (mvT hZ (hw _ (List.mem_of_getElem? (i := 1) rfl))) (mvT hZ (hw _ (List.mem_of_getElem? (i := 2) rfl))) (mvT hZ (hw _ (List.mem_of_getElem? (i := 3) rfl))) (by decide) (backOf (W := 0) (rm1 l Z a0 hw [] (599 : Int32) h0 n0 Z0) hZ (hw _ (List.mem_of_getElem? (i := 3) rfl)) (hw _ (List.mem_of_getElem? (i := 2) rfl)) (by decide) (by decide)) (g := (mkF m 30 #[.val (.int p0), .val (.int p1), .val (.int ((190 : Int32) + (p1 &&& (15 : Int32)))), .val (.int ((590 : Int32) + (p1 &&& (15 : Int32)))), .unset] [(.int (599 : Int32))])) rfl (by rw [hml]; rfl) (argsL := [(.int (599 : Int32))]) (rest := []) (lenOf pd0_0 rfl) rfl (by show 2 * 0 + _ ≤ _; exact Nat.le_of_eq rfl) (hb hby at_30) (fun _ _ => ⟨rfl, e1, (by decide : 0 + 0 ≤ _), (by decide : 0 + 0 ≤ _)⟩)
      dsimp only [Pt.U, Pt.locs, Pt.cells, Pt.slots] at X5 l5 y5 z5 st5 hQ5
      subst l5 y5 z5
      obtain ⟨rfl, Nq5, e5⟩ := hQ5
      have N5 := Fr.app N1 Nq5
      have Zs5 : n0 ≤ T5.heap.size := by rw [e5]; exact Z0
      refine own_pre (B := T5.setTop (mkF m 33 #[.val (.int p0), .val (.int p1), .val (.int ((190 : Int32) + (p1 &&& (15 : Int32)))), .val (.int ((590 : Int32) + (p1 &&& (15 : Int32)))), .unset] [(.int (f1_0 (599 : Int32)))])) st5 ?_
      by_cases hc6 : (f1_0 (599 : Int32)) = (0 : Int32)
      · have hr7 := hr4.trans (if_pos hc6)
        refine own_pre (B := T5.setTop (mkF m 58 #[.val (.int p0), .val (.int p1), .val (.int ((190 : Int32) + (p1 &&& (15 : Int32)))), .val (.int ((590 : Int32) + (p1 &&& (15 : Int32)))), .unset] [])) (fun t k => XS.ifYes X5.here hx rfl (pc0 := 33) (pc' := 58) rfl (hb hby at_33) rfl ((if0 _ _).trans (teq hc6).1) (by decide) (by decide) k) ?_
        exact g_58 T5 _ X5 N5 Zs5 ((190 : Int32) + (p1 &&& (15 : Int32))) ((590 : Int32) + (p1 &&& (15 : Int32))) _ hr7
      · have hr8 := hr4.trans (if_neg hc6)
        refine own_pre (B := T5.setTop (mkF m 36 #[.val (.int p0), .val (.int p1), .val (.int ((190 : Int32) + (p1 &&& (15 : Int32)))), .val (.int ((590 : Int32) + (p1 &&& (15 : Int32)))), .unset] [])) (fun t k => XS.ifNo X5.here hx rfl (hb hby at_33) rfl ((if0 _ _).trans (feq hc6).1) k) ?_
        refine own_pre (B := T5.setTop (mkF m 39 #[.val (.int p0), .val (.int p1), .val (.int ((190 : Int32) + (p1 &&& (15 : Int32)))), .val (.int ((590 : Int32) + (p1 &&& (15 : Int32)))), .unset] [(.int (199 : Int32))])) (fun t k => XS.sipush X5.here hx rfl (hb hby at_36) k) ?_
        obtain ⟨_, _, ⟨T9, L9, k9, n9⟩, -, X9, ⟨Lc9, hQ9, l9, y9, z9⟩, st9⟩ := Jvm.LawKit.callS X5 hx (y := (⟨"com/example/dry_retry/dryretry/Answer", "isFinalStatus", "(I)Z"⟩ : MethodName)) hown (mvT hZ (hw _ (List.mem_of_getElem? (i := 0) rfl))) (mvT hZ (hw _ (List.mem_of_getElem? (i := 1) rfl))) (mvT hZ (hw _ (List.mem_of_getElem? (i := 2) rfl))) (mvT hZ (hw _ (List.mem_of_getElem? (i := 3) rfl))) (by decide) (backOf (W := 0) (rm1 l Z a0 hw [] (199 : Int32) h0 n0 Z0) hZ (hw _ (List.mem_of_getElem? (i := 3) rfl)) (hw _ (List.mem_of_getElem? (i := 2) rfl)) (by decide) (by decide)) (g := (mkF m 39 #[.val (.int p0), .val (.int p1), .val (.int ((190 : Int32) + (p1 &&& (15 : Int32)))), .val (.int ((590 : Int32) + (p1 &&& (15 : Int32)))), .unset] [(.int (199 : Int32))])) rfl (by rw [hml]; rfl) (argsL := [(.int (199 : Int32))]) (rest := []) (lenOf pd0_0 rfl) rfl (by show 2 * 0 + _ ≤ _; exact Nat.le_of_eq rfl) (hb hby at_39) (fun _ _ => ⟨rfl, e5, (by decide : 0 + 0 ≤ _), (by decide : 0 + 0 ≤ _)⟩)
        dsimp only [Pt.U, Pt.locs, Pt.cells, Pt.slots] at X9 l9 y9 z9 st9 hQ9
        subst l9 y9 z9
        obtain ⟨rfl, Nq9, e9⟩ := hQ9
        have N9 := Fr.app N5 Nq9
        have Zs9 : n0 ≤ T9.heap.size := by rw [e9]; exact Z0
        refine own_pre (B := T9.setTop (mkF m 42 #[.val (.int p0), .val (.int p1), .val (.int ((190 : Int32) + (p1 &&& (15 : Int32)))), .val (.int ((590 : Int32) + (p1 &&& (15 : Int32)))), .unset] [(.int (f1_0 (199 : Int32)))])) st9 ?_
        by_cases hc10 : (f1_0 (199 : Int32)) = (0 : Int32)
        · have hr11 := hr8.trans (if_pos hc10)
          refine own_pre (B := T9.setTop (mkF m 45 #[.val (.int p0), .val (.int p1), .val (.int ((190 : Int32) + (p1 &&& (15 : Int32)))), .val (.int ((590 : Int32) + (p1 &&& (15 : Int32)))), .unset] [])) (fun t k => XS.ifNo X9.here hx rfl (hb hby at_42) rfl ((if0 _ _).trans (teq hc10).2) k) ?_
          refine own_pre (B := T9.setTop (mkF m 48 #[.val (.int p0), .val (.int p1), .val (.int ((190 : Int32) + (p1 &&& (15 : Int32)))), .val (.int ((590 : Int32) + (p1 &&& (15 : Int32)))), .unset] [(.int (600 : Int32))])) (fun t k => XS.sipush X9.here hx rfl (hb hby at_45) k) ?_
          obtain ⟨_, _, ⟨T12, L12, k12, n12⟩, -, X12, ⟨Lc12, hQ12, l12, y12, z12⟩, st12⟩ := Jvm.LawKit.callS X9 hx (y := (⟨"com/example/dry_retry/dryretry/Answer", "isFinalStatus", "(I)Z"⟩ : MethodName)) hown (mvT hZ (hw _ (List.mem_of_getElem? (i := 0) rfl))) (mvT hZ (hw _ (List.mem_of_getElem? (i := 1) rfl))) (mvT hZ (hw _ (List.mem_of_getElem? (i := 2) rfl))) (mvT hZ (hw _ (List.mem_of_getElem? (i := 3) rfl))) (by decide) (backOf (W := 0) (rm1 l Z a0 hw [] (600 : Int32) h0 n0 Z0) hZ (hw _ (List.mem_of_getElem? (i := 3) rfl)) (hw _ (List.mem_of_getElem? (i := 2) rfl)) (by decide) (by decide)) (g := (mkF m 48 #[.val (.int p0), .val (.int p1), .val (.int ((190 : Int32) + (p1 &&& (15 : Int32)))), .val (.int ((590 : Int32) + (p1 &&& (15 : Int32)))), .unset] [(.int (600 : Int32))])) rfl (by rw [hml]; rfl) (argsL := [(.int (600 : Int32))]) (rest := []) (lenOf pd0_0 rfl) rfl (by show 2 * 0 + _ ≤ _; exact Nat.le_of_eq rfl) (hb hby at_48) (fun _ _ => ⟨rfl, e9, (by decide : 0 + 0 ≤ _), (by decide : 0 + 0 ≤ _)⟩)
          dsimp only [Pt.U, Pt.locs, Pt.cells, Pt.slots] at X12 l12 y12 z12 st12 hQ12
          subst l12 y12 z12
          obtain ⟨rfl, Nq12, e12⟩ := hQ12
          have N12 := Fr.app N9 Nq12
          have Zs12 : n0 ≤ T12.heap.size := by rw [e12]; exact Z0
          refine own_pre (B := T12.setTop (mkF m 51 #[.val (.int p0), .val (.int p1), .val (.int ((190 : Int32) + (p1 &&& (15 : Int32)))), .val (.int ((590 : Int32) + (p1 &&& (15 : Int32)))), .unset] [(.int (f1_0 (600 : Int32)))])) st12 ?_
          by_cases hc13 : (f1_0 (600 : Int32)) = (0 : Int32)
          · have hr14 := hr11.trans (if_pos hc13)
            refine own_pre (B := T12.setTop (mkF m 54 #[.val (.int p0), .val (.int p1), .val (.int ((190 : Int32) + (p1 &&& (15 : Int32)))), .val (.int ((590 : Int32) + (p1 &&& (15 : Int32)))), .unset] [])) (fun t k => XS.ifNo X12.here hx rfl (hb hby at_51) rfl ((if0 _ _).trans (teq hc13).2) k) ?_
            refine own_pre (B := T12.setTop (mkF m 55 #[.val (.int p0), .val (.int p1), .val (.int ((190 : Int32) + (p1 &&& (15 : Int32)))), .val (.int ((590 : Int32) + (p1 &&& (15 : Int32)))), .unset] [(.int (1 : Int32))])) (fun t k => XS.iconst X12.here hx rfl (hb hby at_54) k) ?_
            refine own_pre (B := T12.setTop (mkF m 59 #[.val (.int p0), .val (.int p1), .val (.int ((190 : Int32) + (p1 &&& (15 : Int32)))), .val (.int ((590 : Int32) + (p1 &&& (15 : Int32)))), .unset] [(.int (1 : Int32))])) (fun t k => XS.goto X12.here hx rfl (pc0 := 55) (pc' := 59) rfl (hb hby at_55) (by decide) (by decide) k) ?_
            exact g_59 T12 _ X12 N12 Zs12 ((190 : Int32) + (p1 &&& (15 : Int32))) ((590 : Int32) + (p1 &&& (15 : Int32))) (1 : Int32) _ hr14
          · have hr15 := hr11.trans (if_neg hc13)
            refine own_pre (B := T12.setTop (mkF m 58 #[.val (.int p0), .val (.int p1), .val (.int ((190 : Int32) + (p1 &&& (15 : Int32)))), .val (.int ((590 : Int32) + (p1 &&& (15 : Int32)))), .unset] [])) (fun t k => XS.ifYes X12.here hx rfl (pc0 := 51) (pc' := 58) rfl (hb hby at_51) rfl ((if0 _ _).trans (feq hc13).2) (by decide) (by decide) k) ?_
            exact g_58 T12 _ X12 N12 Zs12 ((190 : Int32) + (p1 &&& (15 : Int32))) ((590 : Int32) + (p1 &&& (15 : Int32))) _ hr15
        · have hr16 := hr8.trans (if_neg hc10)
          refine own_pre (B := T9.setTop (mkF m 58 #[.val (.int p0), .val (.int p1), .val (.int ((190 : Int32) + (p1 &&& (15 : Int32)))), .val (.int ((590 : Int32) + (p1 &&& (15 : Int32)))), .unset] [])) (fun t k => XS.ifYes X9.here hx rfl (pc0 := 42) (pc' := 58) rfl (hb hby at_42) rfl ((if0 _ _).trans (feq hc10).2) (by decide) (by decide) k) ?_
          exact g_58 T9 _ X9 N9 Zs9 ((190 : Int32) + (p1 &&& (15 : Int32))) ((590 : Int32) + (p1 &&& (15 : Int32))) _ hr16
  exact own_pre pre0 (g_0 _ rfl)
/-! the plain law -/
theorem own_ite {P Q : Prop} [Decidable P] [Decidable Q] (h : P ↔ Q) : (if P then (1 : Int32) else 0) = if Q then 1 else 0 := by
  by_cases p : P
  · rw [if_pos p, if_pos (h.mp p)]
  · rw [if_neg p, if_neg (fun q => p (h.mpr q))]
theorem own_f1 (c : Int32) : f1_0 c = if 200 ≤ c.toInt ∧ c.toInt ≤ 599 then 1 else 0 := by
  unfold f1_0 f1_18 f1_19
  simp only [Int32.lt_iff_toInt_lt, Int32.reduceToInt]
  split
  · rw [if_neg (by omega)]; rfl
  · split
    · rw [if_neg (by omega)]; rfl
    · rw [if_pos (by omega)]; rfl
theorem own_f2 (c : Int32) : f2_0 c = if 200 ≤ c.toInt ∧ c.toInt ≤ 599 then 1 else 0 := by
  have hd : 0 ≤ c.toInt → (c / (100 : Int32)).toInt = c.toInt / 100 := fun h => by
    rw [Int32.toInt_div_of_ne_right c 100 (by decide)]
    exact Int.tdiv_eq_ediv_of_nonneg h
  unfold f2_0 f2_36 f2_37
  simp only [Int32.lt_iff_toInt_lt, Int32.reduceToInt]
  split
  · rw [if_neg (by omega)]; rfl
  · split
    · rw [if_neg (by omega)]; rfl
    · rw [hd (by omega)]
      split
      · rw [if_neg (by omega)]; rfl
      · split
        · rw [if_neg (by omega)]; rfl
        · rw [if_pos (by omega)]; rfl
theorem own_12 (c : Int32) : f1_0 c = f2_0 c := by rw [own_f1, own_f2]
theorem own_law (a b : Int32) : f0_0 a b = 1 := by
  have h1 : f1_0 200 = 1 := by decide
  have h2 : f1_0 599 = 1 := by decide
  have h3 : f1_0 199 = 0 := by decide
  have h4 : f1_0 600 = 0 := by decide
  unfold f0_0
  rw [h1, h2, h3, h4, if_neg (by decide), if_neg (by decide), if_pos rfl, if_pos rfl]
  unfold f0_59
  rw [if_neg (by decide), if_pos (own_12 _), if_pos (own_12 _), if_pos (own_12 _)]
  rfl
set_option maxRecDepth 65536 in
set_option maxHeartbeats 40000000 in
theorem comes_1 {Post : Tables → Env → Array Value → State → Outcome → State → Prop} (hpost : ∀ tb e args s v u, (limb_1_1.after args s (.returned v) u = true ∧ limb_1_2.after args s (.returned v) u = true ∧ True) → FrameEnd s (.returned v) u (Jvm.fieldLocs frame_1_writes args s ++ Jvm.arrayLocs frame_1_arrays args s ++ Jvm.staticLocs frame_1_statics s) 0 0 → Post tb e args s (.returned v) u) :
    ArmFor flags0 classFile x code maxLocals ret World_1 tables_1 room_1 Calls_1 rest_1 Pre_1 Post := by
  intro l hfl _ _ p e ha hc hk s m args below hf hA hF happ hP
  obtain ⟨hcalls, hrest, hpre⟩ := hP
  obtain ⟨-, -, -, hnamed, -, -, -, hat⟩ := (Spec.applies_iff hf).mp happ
  obtain ⟨hg, hn⟩ := and_e (Cond.before_iff.mp (show (Jvm.Cond.and given_1 narrow_1).before args s = true from hpre))
  obtain ⟨gg1, gg2⟩ := and_e hg
  obtain ⟨gg3, gg4⟩ := and_e gg2
  obtain ⟨w0, w1, rfl⟩ : ∃ w0 w1 : Value, args = #[w0, w1] := by
    have hs : args.size = 2 := by simpa [Cond.value, given_1] using gg1
    obtain ⟨L⟩ := args
    match L, hs with
    | [w0, w1], _ => exact ⟨w0, w1, rfl⟩
  have hw := fun d (hd : d ∈ tables_1) => atoms_spec (ws := Jvm.Cond.code x code maxLocals ret :: tables_1) hat d (List.mem_cons_of_mem _ hd)
  obtain ⟨i0, ei0⟩ := is_v gg3
  obtain rfl : w0 = (.int i0) := Option.some.inj ei0
  obtain ⟨i1, ei1⟩ := is_v gg4
  obtain rfl : w1 = (.int i1) := Option.some.inj ei1
  obtain ⟨n, o, h1, h2, h3, _, L, rfl, ⟨rfl, N⟩, hq⟩ := rm0 l s _ hw tables_1 i0 i1 s.heap s.heap.size (Nat.le_refl _) p e ha hc hk s m _ below hf ((Spec.applies_iff_loose hf).mp happ).1 ⟨rfl, State.Warmed39.refl s, rfl⟩ trivial
  refine ⟨n, _, h1, h2, h3, hpost _ _ _ _ _ _ ⟨Cond.after_iff.mpr rfl, Cond.after_iff.mpr (eq_i res_at (Term.int_eval (1)) (congrArg Value.int (own_law i0 i1))), trivial⟩ ⟨hq.1, hq.2.1, (hq.2.2.sift fun y hy => Or.inr (N y hy)).mono (by decide) (by decide)⟩⟩
theorem main_1_1 : Claimed_1_1 := comes_1 fun _ _ _ _ _ _ h hF => ⟨h.1, hF⟩
theorem main_1_2 : Claimed_1_2 := comes_1 fun _ _ _ _ _ _ h hF => ⟨h.2.1, hF⟩
end Jvm.Pilot.@@N@@
namespace Jvm.Pilot.@@N@@
open Jvm Jvm.ClassFile Sem Op Lib Jvm.Free Jvm.Stand Jvm.Pilot.@@N@@.Jvm.D
/-! MADE BY PROGRAM (witnessworld.py) out of the Statement's table words and the real class files: 7 classes; the members and pool entries that the words name. The judged class is class 1, her method 2. -/
namespace start1
open Jvm.ClassFile
def u (s : String) : CpInfo := .utf8 (stringToUtf16 s)
/-- a pool by its gaps: so many unusable entries, then the entry; so many at the end -/
def gap : Nat → List CpInfo → List CpInfo
  | 0, r => r
  | n + 1, r => .unusable :: gap n r
def poolList (es : List (Nat × CpInfo)) (last : Nat) : List CpInfo := es.foldr (fun e r => gap e.1 (e.2 :: r)) (gap last [])
def pool (es : List (Nat × CpInfo)) (last : Nat) : Array CpInfo := ⟨poolList es last⟩
def fileOf (pool : Array CpInfo) (this : Nat) (attrs : Array Attribute := #[]) (ms : Array MethodInfo := #[]) (fl : Nat := 33) (sup : Nat := 0) (ifs : Array Nat := #[]) (fds : Array FieldInfo := #[]) : ClassFile where
  minorVersion := 0
  majorVersion := 65
  constantPool := pool
  accessFlags := fl
  thisClass := this
  superClass := sup
  interfaces := ifs
  fields := fds
  methods := ms
  attributes := attrs
def plain (name : String) (sup : Option ClassId) : Class where
  name := name
  kind := .ordinary
  loader := none
  accessFlags := 33
  super := sup
  interfaces := #[]
  cf := none
  fields := #[]
  methods := #[]
  instanceTypes := #[]
  staticTypes := #[]
  resolved := #[]
  callSites := []
  init := .initialized
  statics := none
  mirror := none

def pool0 : Array CpInfo := pool [(5, u "<init>"), (0, u "()V"), (1, .class_ 10), (1, u "java/lang/Object")] 113

def k0m0 : Method := { name := "<init>", desc := "()V", sig := { parameters := [], returnType := none }, accessFlags := 1, code := none }
/-- java/lang/Object -/
def k0 : Class := { plain "java/lang/Object" none with
  accessFlags := 33
  interfaces := #[]
  cf := some (fileOf pool0 8 #[] #[{ accessFlags := 1, nameIndex := 5, descriptorIndex := 6, attributes := #[] }] 33 0 #[] #[])
  fields := #[]
  methods := #[k0m0]
  instanceTypes := #[]
  staticTypes := #[]
  resolved := Array.replicate 124 none
  statics := none }

def pool1 : Array CpInfo := pool [(2, .class_ 4), (1, u "java/lang/Object"), (0, u "<init>"), (0, u "()V"), (0, .methodref 8 9), (0, .class_ 10), (0, .nameAndType 11 12), (0, u "com/example/dry_retry/dryretry/Answer"), (0, u "isFinalStatus"), (0, u "(I)Z"), (0, .methodref 14 15), (0, .class_ 16), (0, .nameAndType 17 12), (0, u "com/example/dry_retry/dryretry/AnswerIsFinalStatusPinLaw"), (0, u "reference"), (3, u "law"), (0, u "(II)Z")] 2

def k1m0 : Method := { name := "<init>", desc := "()V", sig := { parameters := [], returnType := none }, accessFlags := 2, code := none }
def k1c1 : Code := { maxStack := 2, maxLocals := 2, code := method_2_code, exceptionTable := #[], attributes := #[] }
def k1m1 : Method := { name := "reference", desc := "(I)Z", sig := { parameters := [.int], returnType := some .boolean }, accessFlags := 10, code := some k1c1 }
def k1c2 : Code := { maxStack := 3, maxLocals := 5, code := code, exceptionTable := #[], attributes := #[] }
def k1m2 : Method := { name := "law", desc := "(II)Z", sig := { parameters := [.int, .int], returnType := some .boolean }, accessFlags := 9, code := some k1c2 }
/-- com/example/dry_retry/dryretry/AnswerIsFinalStatusPinLaw -/
def k1 : Class := { plain "com/example/dry_retry/dryretry/AnswerIsFinalStatusPinLaw" (some 0) with
  accessFlags := 49
  interfaces := #[]
  cf := some (fileOf pool1 14 #[] #[{ accessFlags := 2, nameIndex := 5, descriptorIndex := 6, attributes := #[] }, { accessFlags := 10, nameIndex := 17, descriptorIndex := 12, attributes := #[] }, { accessFlags := 9, nameIndex := 21, descriptorIndex := 22, attributes := #[] }] 49 2 #[] #[])
  fields := #[]
  methods := #[k1m0, k1m1, k1m2]
  instanceTypes := #[]
  staticTypes := #[]
  resolved := Array.replicate 25 none
  statics := none }

def pool2 : Array CpInfo := pool [(2, .class_ 4), (1, u "com/example/dry_retry/dryretry/Answer"), (3, .class_ 10), (1, u "java/lang/Object"), (3, u "status"), (0, u "I"), (8, u "headers"), (0, u "Ljava/util/List;"), (3, u "[B"), (4, u "body"), (2, u "rest"), (0, u "Ljava/io/InputStream;"), (40, u "isFinalStatus"), (0, u "(I)Z")] 17

def k2c0 : Code := { maxStack := 2, maxLocals := 1, code := prog_1_method_4_code, exceptionTable := #[], attributes := #[] }
def k2m0 : Method := { name := "isFinalStatus", desc := "(I)Z", sig := { parameters := [.int], returnType := some .boolean }, accessFlags := 9, code := some k2c0 }
/-- com/example/dry_retry/dryretry/Answer -/
def k2 : Class := { plain "com/example/dry_retry/dryretry/Answer" (some 0) with
  accessFlags := 33
  interfaces := #[]
  cf := some (fileOf pool2 2 #[] #[{ accessFlags := 9, nameIndex := 79, descriptorIndex := 80, attributes := #[] }] 33 8 #[] #[{ accessFlags := 18, nameIndex := 14, descriptorIndex := 15, attributes := #[] }, { accessFlags := 18, nameIndex := 24, descriptorIndex := 25, attributes := #[] }, { accessFlags := 18, nameIndex := 34, descriptorIndex := 29, attributes := #[] }, { accessFlags := 18, nameIndex := 37, descriptorIndex := 38, attributes := #[] }])
  fields := #[{ name := "status", type := .int, accessFlags := 18, slot := 0, constantValue := 0 }, { name := "headers", type := (.object "java/util/List"), accessFlags := 18, slot := 1, constantValue := 0 }, { name := "body", type := (.array .byte), accessFlags := 18, slot := 2, constantValue := 0 }, { name := "rest", type := (.object "java/io/InputStream"), accessFlags := 18, slot := 3, constantValue := 0 }]
  methods := #[k2m0]
  instanceTypes := #[.int, (.object "java/util/List"), (.array .byte), (.object "java/io/InputStream")]
  staticTypes := #[]
  resolved := Array.replicate 98 none
  statics := none }

def pool3 : Array CpInfo := pool [(1, u "java/lang/Cloneable"), (0, .class_ 1), (0, u "java/lang/Object"), (0, .class_ 3)] 3

/-- java/lang/Cloneable -/
def k3 : Class := { plain "java/lang/Cloneable" (some 0) with
  accessFlags := 1537
  interfaces := #[]
  cf := some (fileOf pool3 2 #[] #[] 1537 4 #[] #[])
  fields := #[]
  methods := #[]
  instanceTypes := #[]
  staticTypes := #[]
  resolved := Array.replicate 8 none
  statics := none }

def pool4 : Array CpInfo := pool [(1, u "java/io/Serializable"), (0, .class_ 1), (0, u "java/lang/Object"), (0, .class_ 3)] 3

/-- java/io/Serializable -/
def k4 : Class := { plain "java/io/Serializable" (some 0) with
  accessFlags := 1537
  interfaces := #[]
  cf := some (fileOf pool4 2 #[] #[] 1537 4 #[] #[])
  fields := #[]
  methods := #[]
  instanceTypes := #[]
  staticTypes := #[]
  resolved := Array.replicate 8 none
  statics := none }

/-- the primitive byte -/
def k5 : Class := { plain "byte" none with kind := .primitive 'B', accessFlags := 0x411 }
/-- [B -/
def k6 : Class := { plain "[B" (some 0) with kind := .array 5 .byte, interfaces := #[3, 4], accessFlags := 1041 }

def heap : Heap := #[]
def classes : Array Class := #[k0, k1, k2, k3, k4, k5, k6]
def interned : List (Array UInt16 × Addr) := []
def slotsUsed : Nat := 0
def theMethod : MethodId := ⟨1, 2⟩
def args0 : Array Value := #[.int 5, .int 7]
def aboutOver (below : List Frame) : State where
  vm := { classes := classes, interned := interned.toArray }
  heap := heap
  slotsUsed := slotsUsed
  threads := #[{ frames := .invoking theMethod args0 :: below }]
def below0 : List Frame := [.native { method := ⟨0, 0⟩, args := #[] }]
def about1 : State := aboutOver below0
def p0 : Program := .bare "" "" ""
def e0 : Env := launch0.env 0 0 0
theorem w_frames : about1.frames = Frame.invoking theMethod args0 :: below0 := rfl
set_option maxRecDepth 65536 in
theorem w_args : argsFit about1.vm theMethod args0 = true := by decide +kernel
set_option maxRecDepth 65536 in
theorem w_heap : heapFits about1 = true := by decide +kernel
set_option maxRecDepth 65536 in
theorem w_runnable : about1.curStatus? = some .runnable := by decide +kernel
set_option maxRecDepth 65536 in
theorem w_alone : about1.alone = true := by decide +kernel
set_option maxRecDepth 65536 in
theorem w_named : about1.methodNamed? x = some theMethod := by decide +kernel
set_option maxRecDepth 65536 in
theorem w_hears : about1.hears theMethod below0 = true := by decide +kernel
set_option maxRecDepth 65536 in
theorem w_ripe : about1.ripe theMethod args0 below0 = true := by decide +kernel
theorem w_running : about1.status = .running := rfl
set_option maxRecDepth 65536 in
theorem w_room : about1.hasRoom e0.platform room_1 = true :=
  launch0.hasRoom_least _ room_1 (by decide +kernel) (by decide +kernel) (by decide +kernel) (by decide +kernel) (by decide +kernel) (by decide +kernel)
theorem allAtoms_all (ts : List Jvm.Cond) (a : Array Jvm.Value) (st : Jvm.State) : (allAtoms ts).before a st = ts.all (fun c => c.before a st) := by
  induction ts with
  | nil => rfl
  | cons c t ih =>
    show (Jvm.Cond.and c (allAtoms t)).before a st = _
    rw [Jvm.Cond.before_and, ih, List.all_cons]
def words1 : List Jvm.Cond := Jvm.Cond.code x code maxLocals ret :: tables_1
/-- a 'code' word, met by the world's own term for the bytes: nothing is compared byte by byte -/
theorem code_word {y : MethodName} {bytes : ByteArray} {mx : Nat} {rt : Option FieldType} {a : Array Value} {s : State} {m : MethodId} {meth : Method} {c : Code} (h1 : s.methodNamed? y = some m) (h2 : s.vm.method? m = some meth) (h3 : meth.code = some c) (h4 : c.code = bytes)
    (h5 : (c.maxLocals == mx && c.exceptionTable.isEmpty && decide (c.maxStack ≤ mostOperands) && decide (meth.sig.returnType = rt) && !meth.locks && decide (parseMethodDescriptor y.desc = some meth.sig)) = true) : (Jvm.Cond.code y bytes mx rt).before a s = true := by
  simp only [Bool.and_eq_true, beq_iff_eq, Bool.not_eq_true', decide_eq_true_eq] at h5
  obtain ⟨⟨⟨⟨⟨g1, g2⟩, g3⟩, g4⟩, g5⟩, g6⟩ := h5
  simp [Cond.before, Cond.holds, Cond.value, h1, h2, h3, h4, g1, g2, g3, g4, g5, g6]
def isCode : Jvm.Cond → Bool
  | .code _ _ _ _ => true
  | _ => false
theorem all_split {L : List Jvm.Cond} {P : Jvm.Cond → Bool} (h1 : L.all (fun c => isCode c || P c) = true) (h2 : ∀ c ∈ L.filter isCode, P c = true) : L.all P = true := by
  refine List.all_eq_true.mpr fun c hc => ?_
  have h := List.all_eq_true.mp h1 c hc
  rcases Bool.eq_false_or_eq_true (isCode c) with hi | hi
  · exact h2 c (List.mem_filter.mpr ⟨hc, hi⟩)
  · simpa [hi] using h
set_option maxRecDepth 65536 in
theorem w_c0 : (Jvm.Cond.code x code maxLocals ret).before args0 about1 = true := code_word (m := ⟨1, 2⟩) (meth := k1m2) (c := k1c2) (by decide +kernel) rfl rfl rfl (by decide +kernel)
set_option maxRecDepth 65536 in
theorem w_c1 : (Jvm.Cond.code ({ cls := "com/example/dry_retry/dryretry/Answer", name := "isFinalStatus", desc := "(I)Z" } : Jvm.MethodName) prog_1_method_4_code (1 : Nat) (Option.some Jvm.ClassFile.FieldType.boolean)).before args0 about1 = true := code_word (m := ⟨2, 0⟩) (meth := k2m0) (c := k2c0) (by decide +kernel) rfl rfl rfl (by decide +kernel)
set_option maxRecDepth 65536 in
theorem w_c2 : (Jvm.Cond.code ({ cls := "com/example/dry_retry/dryretry/AnswerIsFinalStatusPinLaw", name := "reference", desc := "(I)Z" } : Jvm.MethodName) method_2_code (2 : Nat) (Option.some Jvm.ClassFile.FieldType.boolean)).before args0 about1 = true := code_word (m := ⟨1, 1⟩) (meth := k1m1) (c := k1c1) (by decide +kernel) rfl rfl rfl (by decide +kernel)
def codes1 : List Jvm.Cond := [Jvm.Cond.code x code maxLocals ret, Jvm.Cond.code ({ cls := "com/example/dry_retry/dryretry/Answer", name := "isFinalStatus", desc := "(I)Z" } : Jvm.MethodName) prog_1_method_4_code (1 : Nat) (Option.some Jvm.ClassFile.FieldType.boolean), Jvm.Cond.code ({ cls := "com/example/dry_retry/dryretry/AnswerIsFinalStatusPinLaw", name := "reference", desc := "(I)Z" } : Jvm.MethodName) method_2_code (2 : Nat) (Option.some Jvm.ClassFile.FieldType.boolean)]
set_option maxRecDepth 65536 in
theorem codes_eq : words1.filter isCode = codes1 := rfl
theorem w_codes : ∀ c ∈ words1.filter isCode, c.before args0 about1 = true := by
  rw [codes_eq]
  intro c hc
  simp only [codes1, List.mem_cons, List.not_mem_nil, or_false] at hc
  rcases hc with rfl | rfl | rfl
  · exact w_c0
  · exact w_c1
  · exact w_c2
set_option maxRecDepth 65536 in
theorem w_t1 : words1.all (fun c => isCode c || c.before args0 about1) = true := by decide +kernel
theorem w_tables : (allAtoms (Jvm.Cond.code x code maxLocals ret :: tables_1)).before args0 about1 = true := by
  rw [allAtoms_all]
  show words1.all (fun c => c.before args0 about1) = true
  refine all_split ?_ w_codes
  rw [w_t1]
set_option maxRecDepth 65536 in
theorem w_case : (Jvm.Cond.and given_1 narrow_1).before args0 about1 = true := by decide +kernel
theorem w_applies : (headSpec (Jvm.Cond.code x code maxLocals ret :: tables_1) room_1).applies x e0.platform about1 = true :=
  (Spec.applies_iff w_frames).mpr ⟨w_running, w_runnable, w_alone, w_named, w_hears, w_ripe, w_room, w_tables⟩
theorem atStart : AtStart classFile x code maxLocals ret World_1 tables_1 room_1 Calls_1 rest_1 Pre_1 launch0 p0 e0 about1 theMethod args0 below0 :=
  ⟨lists_1, trivial, launch0.admits_env _ _ _, launch0.least_env, fairChoices_fair.cas, fairChoices_fair.clock, w_frames, w_args, w_heap, w_applies, trivial, trivial, w_case⟩
end start1
theorem witness_1 : WitnessClaimed_1 := ⟨start1.p0, start1.e0, start1.about1, start1.theMethod, start1.args0, start1.below0, start1.atStart⟩
end Jvm.Pilot.@@N@@
