import JvmDerived
import JvmDerived.Pilot.@@N@@Statement
import JvmDerived.Pilot.@@N@@Code
set_option linter.unusedVariables false
set_option linter.unusedSimpArgs false
namespace Jvm.RoadKit
open Sem ClassFile Op Lib Jvm.Stand Jvm.Free Jvm.LawKit
section New
variable {p : Program} {l : Launch} {e : Env} {R : Room} {s : State} {m : MethodId} {args : Array Value} {below : List Frame} {meth : Method} {c : Code} {T : State} {locs : List Loc} {cells slots : Nat}
theorem retI (X : Stand p l e R s m args below meth c T locs cells slots) (hx : p.tables.exec = Jvm.exec) {pc : Nat} {Ls : Array Slot} {z : Int32} {rest : List Value} (hret : meth.sig.returnType = some .int) (hd : decode c.code pc = .ok (.ireturn, 1)) {fs : List Frame}
    (hl : ∀ (f : JFrame) (acts : List Action), f.method = m → f.locked = none → f.entered = [] → (doReturn e (T.setTop f) acts (some (.int z))).1 = T.setFrames fs) : Steps p.tables e below (T.setTop (mkF m pc Ls (.int z :: rest))) (T.setFrames fs) := by
  have hm' : T.vm.method? m = some meth := X.method'
  have hn : narrow .int (.int z) = .int z := rfl
  show Steps p.tables e below (T.setTop { method := m, pc := pc, locals := Ls, stack := _ :: rest, locked := none }) _
  jvm_step X.here [X.here.top, hx, hd, hm', hret, hn]
  first | (intro acts; rw [hl _ acts rfl rfl rfl]) | rw [hl _ _ rfl rfl rfl]
  exact Steps.refl _
end New
end Jvm.RoadKit
namespace Jvm.Pilot.@@N@@
open Jvm Jvm.ClassFile Sem Op Lib Jvm.Free Jvm.Stand Jvm.LawKit Jvm.RoadKit Bundle Jvm.Pilot.@@N@@.Jvm.D
/-! 0. what is still to be walked, as one predicate: from A the invocation comes to its end, and Q says how it ends -/
def own_Fin (p : Program) (e : Env) (below : List Frame) (s : State) (Q : Option Value → Heap → List Loc → Prop) (k n : Nat) (A : State) : Prop :=
  ∃ s₂ o, Steps p.tables e below A s₂ ∧ s₂.status = .running ∧ Ended s₂ below o ∧ ∃ v L, o = .returned v ∧ Q v s₂.heap L ∧ FrameEnd s o s₂ L k n
section Own
variable {p : Program} {l : Launch} {e : Env} {R : Room} {s : State} {m : MethodId} {args : Array Value} {below : List Frame} {meth : Method} {c : Code} {T : State} {locs : List Loc} {cells slots k n : Nat} {Q : Option Value → Heap → List Loc → Prop} {A B : State}
theorem own_pre (h : ∀ t, Steps p.tables e below B t → Steps p.tables e below A t) (q : own_Fin p e below s Q k n B) : own_Fin p e below s Q k n A := by
  obtain ⟨s₂, o, h1, h2⟩ := q; exact ⟨s₂, o, h _ h1, h2⟩
theorem own_retZ (X : Stand p l e R s m args below meth c T locs cells slots) (hx : p.tables.exec = Jvm.exec) (hlk : meth.locks = false) {pc : Nat} {Ls : Array Slot} {z : Int32} {rest : List Value} (hret : meth.sig.returnType = some .boolean) (hd : decode c.code pc = .ok (.ireturn, 1))
    (hQ : Q (some (.int (z &&& 1))) T.heap locs) (hk : cells ≤ k) (hn : slots ≤ n) : own_Fin p e below s Q k n (T.setTop (mkF m pc Ls (.int z :: rest))) := by
  obtain ⟨fs, hr, hrun, hended, hW, hsame⟩ := X.leave (v := some (.int (z &&& 1))) (fun h => by rw [hret] at h; cases h) hlk
  exact ⟨_, _, retN X hx (t := .boolean) hret (by simp) hd hr, hrun, hended, _, _, rfl, hQ, ⟨_, rfl⟩, hW, hsame.mono hk hn⟩
theorem own_retI (X : Stand p l e R s m args below meth c T locs cells slots) (hx : p.tables.exec = Jvm.exec) (hlk : meth.locks = false) {pc : Nat} {Ls : Array Slot} {z : Int32} {rest : List Value} (hret : meth.sig.returnType = some .int) (hd : decode c.code pc = .ok (.ireturn, 1))
    (hQ : Q (some (.int z)) T.heap locs) (hk : cells ≤ k) (hn : slots ≤ n) : own_Fin p e below s Q k n (T.setTop (mkF m pc Ls (.int z :: rest))) := by
  obtain ⟨fs, hr, hrun, hended, hW, hsame⟩ := X.leave (v := some (.int z)) (fun h => by rw [hret] at h; cases h) hlk
  exact ⟨_, _, retI X hx hret hd hr, hrun, hended, _, _, rfl, hQ, ⟨_, rfl⟩, hW, hsame.mono hk hn⟩
theorem own_retJ (X : Stand p l e R s m args below meth c T locs cells slots) (hx : p.tables.exec = Jvm.exec) (hlk : meth.locks = false) {pc : Nat} {Ls : Array Slot} {z : Int64} (hret : meth.sig.returnType = some .long) (hd : decode c.code pc = .ok (.lreturn, 1))
    (hQ : Q (some (.long z)) T.heap locs) (hk : cells ≤ k) (hn : slots ≤ n) : own_Fin p e below s Q k n (T.setTop (mkF m pc Ls [.long z])) := by
  obtain ⟨fs, hr, hrun, hended, hW, hsame⟩ := X.leave (v := some (.long z)) (fun h => by rw [hret] at h; cases h) hlk
  exact ⟨_, _, X.lreturnOut hx hret hd hr, hrun, hended, _, _, rfl, hQ, ⟨_, rfl⟩, hW, hsame.mono hk hn⟩
theorem own_retV (X : Stand p l e R s m args below meth c T locs cells slots) (hx : p.tables.exec = Jvm.exec) (hlk : meth.locks = false) {pc : Nat} {Ls : Array Slot} (hret : meth.sig.returnType = none) (hd : decode c.code pc = .ok (.return_, 1))
    (hQ : Q none T.heap locs) (hk : cells ≤ k) (hn : slots ≤ n) : own_Fin p e below s Q k n (T.setTop (mkF m pc Ls [])) := by
  obtain ⟨fs, hr, hrun, hended, hW, hsame⟩ := X.leave (v := none) (fun _ => rfl) hlk
  exact ⟨_, _, X.returnOut hx hret hd hr, hrun, hended, _, _, rfl, hQ, ⟨_, rfl⟩, hW, hsame.mono hk hn⟩
theorem own_at {v : Option Value} {h h' : Heap} {L : List Loc} (e : h' = h) (q : Q v h L) : Q v h' L := e ▸ q
theorem own_someI {r z : Int32} (h : r = z) : some (Value.int z) = some (Value.int r) := by rw [h]
theorem own_someJ {r z : Int64} (h : r = z) : some (Value.long z) = some (Value.long r) := by rw [h]
end Own
/-! body 2 -/
theorem d2_0 : decode prog_33_method_4_code 0 = .ok (.iload_n 0, 1) := by decide +kernel
theorem d2_1 : decode prog_33_method_4_code 1 = .ok (.sipush 200, 3) := by decide +kernel
theorem d2_4 : decode prog_33_method_4_code 4 = .ok (.if_icmp .lt 17, 3) := by decide +kernel
theorem d2_7 : decode prog_33_method_4_code 7 = .ok (.iload_n 0, 1) := by decide +kernel
theorem d2_8 : decode prog_33_method_4_code 8 = .ok (.sipush 204, 3) := by decide +kernel
theorem d2_11 : decode prog_33_method_4_code 11 = .ok (.if_icmp .eq 10, 3) := by decide +kernel
theorem d2_14 : decode prog_33_method_4_code 14 = .ok (.iload_n 0, 1) := by decide +kernel
theorem d2_15 : decode prog_33_method_4_code 15 = .ok (.sipush 205, 3) := by decide +kernel
theorem d2_18 : decode prog_33_method_4_code 18 = .ok (.if_icmp .ne 7, 3) := by decide +kernel
theorem d2_21 : decode prog_33_method_4_code 21 = .ok (.iconst 1, 1) := by decide +kernel
theorem d2_22 : decode prog_33_method_4_code 22 = .ok (.goto 4, 3) := by decide +kernel
theorem d2_25 : decode prog_33_method_4_code 25 = .ok (.iconst 0, 1) := by decide +kernel
theorem d2_26 : decode prog_33_method_4_code 26 = .ok (.ireturn, 1) := by decide +kernel
theorem pn_2 : plainName "com/example/dry_retry/dryretry/http/Messages" = true := by first | (simp [plainName, overriddenIn]; done) | decide +kernel
theorem ef_2 (m : MethodId) (p0 : Int32) : entryFrame m #[(.int p0)] 1 = mkF m 0 #[.val (.int p0)] [] := by first | (simp [entryFrame, mkF, argsToLocals, Value.category]; done) | rfl
def f2_26 (p0 : Int32) (t0 : Int32) : Int32 := (t0 &&& 1)
def f2_21 (p0 : Int32) : Int32 := (f2_26 p0 (1 : Int32))
def f2_0 (p0 : Int32) : Int32 := (if p0 < (200 : Int32) then (f2_21 p0) else (if p0 = (204 : Int32) then (f2_21 p0) else (if p0 = (205 : Int32) then (f2_21 p0) else (f2_26 p0 (0 : Int32)))))
def Q2 (p0 : Int32) (h0 : Heap) (n0 : Nat) (v : Option Value) (h : Heap) (L : List Loc) : Prop := v = some (.int (f2_0 p0)) ∧ Fr n0 L ∧ h = h0
set_option maxRecDepth 65536 in
set_option maxHeartbeats 40000000 in
theorem rm2 (l : Launch) (Z : State) (a0 : Array Value) (hw : ∀ d ∈ tables_1, d.before a0 Z = true) (ws : List Jvm.Cond) (p0 : Int32) (h0 : Heap) (n0 : Nat) (Z0 : n0 ≤ h0.size) :
    MetFree l (⟨"com/example/dry_retry/dryretry/http/Messages", "hasNoContentByStatus", "(I)Z"⟩ : MethodName) (head1 (Jvm.Cond.code (⟨"com/example/dry_retry/dryretry/http/Messages", "hasNoContentByStatus", "(I)Z"⟩ : MethodName) prog_33_method_4_code 1 (some .boolean) :: ws) ({ frames := 0, cells := 0, slots := 0, locals := 0 } : Room)) (fun a U => a = #[(.int p0)] ∧ Z.Warmed39 U.vm ∧ U.heap = h0) (fun _ _ _ _ _ => True) (fun _ U o U' => ∃ v L, o = .returned v ∧ Q2 p0 h0 n0 v U'.heap L ∧ FrameEnd U o U' L ({ frames := 0, cells := 0, slots := 0, locals := 0 } : Room).cells ({ frames := 0, cells := 0, slots := 0, locals := 0 } : Room).slots) := by
  refine MetFree.of_bodySF (plainFor_of_name pn_2) hisR ?_
  intro p e s m args below meth c s₁ Bd hml0 hP hK
  obtain ⟨rfl, hZ, hh⟩ := hP
  have hx := Bd.exec
  have hby := Bd.bytes
  have hml : c.maxLocals = 1 := hml0
  have hlk : meth.locks = false := BodyLoose.notSynchronized Bd
  have hown : s.vm.findClass "com/example/dry_retry/dryretry/http/Messages" = some m.cls := findClass_of_methodNamed Bd.named
  have X0 : Stand p l e ({ frames := 0, cells := 0, slots := 0, locals := 0 } : Room) s m #[(.int p0)] below meth c s₁ [] 0 0 := Stand.of_body Bd
  have e0 : s₁.heap = h0 := by rw [← hh, Bd.state]; rfl
  have N0 := Fr.nil n0
  have Zs0 : n0 ≤ s₁.heap.size := by rw [e0]; exact Z0
  have pre0 : ∀ t, Steps p.tables e below (s₁.setTop (mkF m 0 #[.val (.int p0)] [])) t → Steps p.tables e below (s₁.setTop (entryFrame m #[(.int p0)] 1)) t := fun t k => castTop (ef_2 m p0) k
  have hnm := (name_of_methodNamed Bd.named Bd.method).1
  have g_26 : ∀ (T : State) (locs : List Loc) (X : Stand p l e ({ frames := 0, cells := 0, slots := 0, locals := 0 } : Room) s m #[(.int p0)] below meth c T locs 0 0) (eT : T.heap = h0) (N : Fr n0 locs) (t0 : Int32)  (r : Int32), r = f2_26 p0 t0 → own_Fin p e below s (fun v h L => v = some (.int r) ∧ Fr n0 L ∧ h = h0) ({ frames := 0, cells := 0, slots := 0, locals := 0 } : Room).cells ({ frames := 0, cells := 0, slots := 0, locals := 0 } : Room).slots (T.setTop (mkF m 26 #[.val (.int p0)] [(.int t0)])) := by
    intro T locs X eT N t0  r hr
    have hr : r = (t0 &&& 1) := hr
    exact own_retZ X hx hlk Bd.returns (hb hby d2_26) ⟨own_someI hr, N, eT⟩ (by decide) (by decide)
  have g_21 : ∀ (T : State) (locs : List Loc) (X : Stand p l e ({ frames := 0, cells := 0, slots := 0, locals := 0 } : Room) s m #[(.int p0)] below meth c T locs 0 0) (eT : T.heap = h0) (N : Fr n0 locs)   (r : Int32), r = f2_21 p0 → own_Fin p e below s (fun v h L => v = some (.int r) ∧ Fr n0 L ∧ h = h0) ({ frames := 0, cells := 0, slots := 0, locals := 0 } : Room).cells ({ frames := 0, cells := 0, slots := 0, locals := 0 } : Room).slots (T.setTop (mkF m 21 #[.val (.int p0)] [])) := by
    intro T locs X eT N   r hr
    have hr : r = (f2_26 p0 (1 : Int32)) := hr
    refine own_pre (B := T.setTop (mkF m 22 #[.val (.int p0)] [(.int (1 : Int32))])) (fun t k => XS.iconst X.here hx rfl (hb hby d2_21) k) ?_
    refine own_pre (B := T.setTop (mkF m 26 #[.val (.int p0)] [(.int (1 : Int32))])) (fun t k => XS.goto X.here hx rfl (pc0 := 22) (pc' := 26) rfl (hb hby d2_22) (by decide) (by decide) k) ?_
    exact g_26 T _ X eT N (1 : Int32) _ hr
  have g_0 : ∀ r, r = f2_0 p0 → own_Fin p e below s (fun v h L => v = some (.int r) ∧ Fr n0 L ∧ h = h0) ({ frames := 0, cells := 0, slots := 0, locals := 0 } : Room).cells ({ frames := 0, cells := 0, slots := 0, locals := 0 } : Room).slots (s₁.setTop (mkF m 0 #[.val (.int p0)] [])) := by
    intro r hr
    have hr : r = (if p0 < (200 : Int32) then (f2_21 p0) else (if p0 = (204 : Int32) then (f2_21 p0) else (if p0 = (205 : Int32) then (f2_21 p0) else (f2_26 p0 (0 : Int32))))) := hr
    refine own_pre (B := s₁.setTop (mkF m 1 #[.val (.int p0)] [(.int p0)])) (fun t k => XS.iloadN X0.here hx rfl (hb hby d2_0) rfl k) ?_
    refine own_pre (B := s₁.setTop (mkF m 4 #[.val (.int p0)] [(.int (200 : Int32)), (.int p0)])) (fun t k => XS.sipush X0.here hx rfl (hb hby d2_1) k) ?_
    by_cases hc1 : p0 < (200 : Int32)
    · have hr2 := hr.trans (if_pos hc1)
      refine own_pre (B := s₁.setTop (mkF m 21 #[.val (.int p0)] [])) (fun t k => XS.icmpYes X0.here hx rfl (pc0 := 4) (pc' := 21) rfl (hb hby d2_4) rfl (tlt hc1).1 (by decide) (by decide) k) ?_
      exact g_21 s₁ _ X0 e0 N0  _ hr2
    · have hr3 := hr.trans (if_neg hc1)
      refine own_pre (B := s₁.setTop (mkF m 7 #[.val (.int p0)] [])) (fun t k => XS.icmpNo X0.here hx rfl (hb hby d2_4) rfl (flt hc1).1 k) ?_
      refine own_pre (B := s₁.setTop (mkF m 8 #[.val (.int p0)] [(.int p0)])) (fun t k => XS.iloadN X0.here hx rfl (hb hby d2_7) rfl k) ?_
      refine own_pre (B := s₁.setTop (mkF m 11 #[.val (.int p0)] [(.int (204 : Int32)), (.int p0)])) (fun t k => XS.sipush X0.here hx rfl (hb hby d2_8) k) ?_
      by_cases hc4 : p0 = (204 : Int32)
      · have hr5 := hr3.trans (if_pos hc4)
        refine own_pre (B := s₁.setTop (mkF m 21 #[.val (.int p0)] [])) (fun t k => XS.icmpYes X0.here hx rfl (pc0 := 11) (pc' := 21) rfl (hb hby d2_11) rfl (teq hc4).1 (by decide) (by decide) k) ?_
        exact g_21 s₁ _ X0 e0 N0  _ hr5
      · have hr6 := hr3.trans (if_neg hc4)
        refine own_pre (B := s₁.setTop (mkF m 14 #[.val (.int p0)] [])) (fun t k => XS.icmpNo X0.here hx rfl (hb hby d2_11) rfl (feq hc4).1 k) ?_
        refine own_pre (B := s₁.setTop (mkF m 15 #[.val (.int p0)] [(.int p0)])) (fun t k => XS.iloadN X0.here hx rfl (hb hby d2_14) rfl k) ?_
        refine own_pre (B := s₁.setTop (mkF m 18 #[.val (.int p0)] [(.int (205 : Int32)), (.int p0)])) (fun t k => XS.sipush X0.here hx rfl (hb hby d2_15) k) ?_
        by_cases hc7 : p0 = (205 : Int32)
        · have hr8 := hr6.trans (if_pos hc7)
          refine own_pre (B := s₁.setTop (mkF m 21 #[.val (.int p0)] [])) (fun t k => XS.icmpNo X0.here hx rfl (hb hby d2_18) rfl (teq hc7).2 k) ?_
          exact g_21 s₁ _ X0 e0 N0  _ hr8
        · have hr9 := hr6.trans (if_neg hc7)
          refine own_pre (B := s₁.setTop (mkF m 25 #[.val (.int p0)] [])) (fun t k => XS.icmpYes X0.here hx rfl (pc0 := 18) (pc' := 25) rfl (hb hby d2_18) rfl (feq hc7).2 (by decide) (by decide) k) ?_
          refine own_pre (B := s₁.setTop (mkF m 26 #[.val (.int p0)] [(.int (0 : Int32))])) (fun t k => XS.iconst X0.here hx rfl (hb hby d2_25) k) ?_
          exact g_26 s₁ _ X0 e0 N0 (0 : Int32) _ hr9
  exact own_pre pre0 (g_0 _ rfl)
/-! body 1 -/
theorem d1_0 : decode method_3_code 0 = .ok (.iload_n 0, 1) := by decide +kernel
theorem d1_1 : decode method_3_code 1 = .ok (.sipush 200, 3) := by decide +kernel
theorem d1_4 : decode method_3_code 4 = .ok (.if_icmp .ge 8, 3) := by decide +kernel
theorem d1_7 : decode method_3_code 7 = .ok (.iconst 1, 1) := by decide +kernel
theorem d1_8 : decode method_3_code 8 = .ok (.istore_n 1, 1) := by decide +kernel
theorem d1_9 : decode method_3_code 9 = .ok (.goto 29, 3) := by decide +kernel
theorem d1_12 : decode method_3_code 12 = .ok (.iload_n 0, 1) := by decide +kernel
theorem d1_13 : decode method_3_code 13 = .ok (.sipush 204, 3) := by decide +kernel
theorem d1_16 : decode method_3_code 16 = .ok (.if_icmp .ge 8, 3) := by decide +kernel
theorem d1_19 : decode method_3_code 19 = .ok (.iconst 0, 1) := by decide +kernel
theorem d1_20 : decode method_3_code 20 = .ok (.istore_n 1, 1) := by decide +kernel
theorem d1_21 : decode method_3_code 21 = .ok (.goto 17, 3) := by decide +kernel
theorem d1_24 : decode method_3_code 24 = .ok (.iload_n 0, 1) := by decide +kernel
theorem d1_25 : decode method_3_code 25 = .ok (.sipush 205, 3) := by decide +kernel
theorem d1_28 : decode method_3_code 28 = .ok (.if_icmp .gt 8, 3) := by decide +kernel
theorem d1_31 : decode method_3_code 31 = .ok (.iconst 1, 1) := by decide +kernel
theorem d1_32 : decode method_3_code 32 = .ok (.istore_n 1, 1) := by decide +kernel
theorem d1_33 : decode method_3_code 33 = .ok (.goto 5, 3) := by decide +kernel
theorem d1_36 : decode method_3_code 36 = .ok (.iconst 0, 1) := by decide +kernel
theorem d1_37 : decode method_3_code 37 = .ok (.istore_n 1, 1) := by decide +kernel
theorem d1_38 : decode method_3_code 38 = .ok (.iload_n 0, 1) := by decide +kernel
theorem d1_39 : decode method_3_code 39 = .ok (.invokestatic 13, 3) := by decide +kernel
theorem d1_42 : decode method_3_code 42 = .ok (.iload_n 1, 1) := by decide +kernel
theorem d1_43 : decode method_3_code 43 = .ok (.if_icmp .ne 7, 3) := by decide +kernel
theorem d1_46 : decode method_3_code 46 = .ok (.iconst 1, 1) := by decide +kernel
theorem d1_47 : decode method_3_code 47 = .ok (.goto 4, 3) := by decide +kernel
theorem d1_50 : decode method_3_code 50 = .ok (.iconst 0, 1) := by decide +kernel
theorem d1_51 : decode method_3_code 51 = .ok (.ireturn, 1) := by decide +kernel
theorem pn_1 : plainName "com/example/dry_retry/dryretry/http/MessagesHasNoContentByStatusPinLaw" = true := by first | (simp [plainName, overriddenIn]; done) | decide +kernel
theorem pd1_0 : parseMethodDescriptor "(I)Z" = some ⟨[.int], some .boolean⟩ := by decide +kernel
theorem ef_1 (m : MethodId) (p0 : Int32) : entryFrame m #[(.int p0)] 2 = mkF m 0 #[.val (.int p0), .unset] [] := by first | (simp [entryFrame, mkF, argsToLocals, Value.category]; done) | rfl
def f1_51 (p0 : Int32) (i1 : Int32) (t0 : Int32) : Int32 := (t0 &&& 1)
def f1_38 (p0 : Int32) (i1 : Int32) : Int32 := (if (f2_0 p0) = i1 then (f1_51 p0 i1 (1 : Int32)) else (f1_51 p0 i1 (0 : Int32)))
def f1_0 (p0 : Int32) : Int32 := (if p0 < (200 : Int32) then (f1_38 p0 (1 : Int32)) else (if p0 < (204 : Int32) then (f1_38 p0 (0 : Int32)) else (if (205 : Int32) < p0 then (f1_38 p0 (0 : Int32)) else (f1_38 p0 (1 : Int32)))))
def Q1 (p0 : Int32) (h0 : Heap) (n0 : Nat) (v : Option Value) (h : Heap) (L : List Loc) : Prop := v = some (.int (f1_0 p0)) ∧ Fr n0 L ∧ h = h0
set_option maxRecDepth 65536 in
set_option maxHeartbeats 40000000 in
theorem rm1 (l : Launch) (Z : State) (a0 : Array Value) (hw : ∀ d ∈ tables_1, d.before a0 Z = true) (ws : List Jvm.Cond) (p0 : Int32) (h0 : Heap) (n0 : Nat) (Z0 : n0 ≤ h0.size) :
    MetFree l (⟨"com/example/dry_retry/dryretry/http/MessagesHasNoContentByStatusPinLaw", "check", "(I)Z"⟩ : MethodName) (head1 (Jvm.Cond.code (⟨"com/example/dry_retry/dryretry/http/MessagesHasNoContentByStatusPinLaw", "check", "(I)Z"⟩ : MethodName) method_3_code 2 (some .boolean) :: ws) ({ frames := 1, cells := 0, slots := 0, locals := 12 } : Room)) (fun a U => a = #[(.int p0)] ∧ Z.Warmed39 U.vm ∧ U.heap = h0) (fun _ _ _ _ _ => True) (fun _ U o U' => ∃ v L, o = .returned v ∧ Q1 p0 h0 n0 v U'.heap L ∧ FrameEnd U o U' L ({ frames := 1, cells := 0, slots := 0, locals := 12 } : Room).cells ({ frames := 1, cells := 0, slots := 0, locals := 12 } : Room).slots) := by
  refine MetFree.of_bodySF (plainFor_of_name pn_1) hisR ?_
  intro p e s m args below meth c s₁ Bd hml0 hP hK
  obtain ⟨rfl, hZ, hh⟩ := hP
  have hx := Bd.exec
  have hby := Bd.bytes
  have hml : c.maxLocals = 2 := hml0
  have hlk : meth.locks = false := BodyLoose.notSynchronized Bd
  have hown : s.vm.findClass "com/example/dry_retry/dryretry/http/MessagesHasNoContentByStatusPinLaw" = some m.cls := findClass_of_methodNamed Bd.named
  have X0 : Stand p l e ({ frames := 1, cells := 0, slots := 0, locals := 12 } : Room) s m #[(.int p0)] below meth c s₁ [] 0 0 := Stand.of_body Bd
  have e0 : s₁.heap = h0 := by rw [← hh, Bd.state]; rfl
  have N0 := Fr.nil n0
  have Zs0 : n0 ≤ s₁.heap.size := by rw [e0]; exact Z0
  have pre0 : ∀ t, Steps p.tables e below (s₁.setTop (mkF m 0 #[.val (.int p0), .unset] [])) t → Steps p.tables e below (s₁.setTop (entryFrame m #[(.int p0)] 2)) t := fun t k => castTop (ef_1 m p0) k
  have hnm := (name_of_methodNamed Bd.named Bd.method).1
  have g_51 : ∀ (T : State) (locs : List Loc) (X : Stand p l e ({ frames := 1, cells := 0, slots := 0, locals := 12 } : Room) s m #[(.int p0)] below meth c T locs 0 0) (eT : T.heap = h0) (N : Fr n0 locs) (i1 : Int32) (t0 : Int32)  (r : Int32), r = f1_51 p0 i1 t0 → own_Fin p e below s (fun v h L => v = some (.int r) ∧ Fr n0 L ∧ h = h0) ({ frames := 1, cells := 0, slots := 0, locals := 12 } : Room).cells ({ frames := 1, cells := 0, slots := 0, locals := 12 } : Room).slots (T.setTop (mkF m 51 #[.val (.int p0), .val (.int i1)] [(.int t0)])) := by
    intro T locs X eT N i1 t0  r hr
    have hr : r = (t0 &&& 1) := hr
    exact own_retZ X hx hlk Bd.returns (hb hby d1_51) ⟨own_someI hr, N, eT⟩ (by decide) (by decide)
  have g_38 : ∀ (T : State) (locs : List Loc) (X : Stand p l e ({ frames := 1, cells := 0, slots := 0, locals := 12 } : Room) s m #[(.int p0)] below meth c T locs 0 0) (eT : T.heap = h0) (N : Fr n0 locs) (i1 : Int32)  (r : Int32), r = f1_38 p0 i1 → own_Fin p e below s (fun v h L => v = some (.int r) ∧ Fr n0 L ∧ h = h0) ({ frames := 1, cells := 0, slots := 0, locals := 12 } : Room).cells ({ frames := 1, cells := 0, slots := 0, locals := 12 } : Room).slots (T.setTop (mkF m 38 #[.val (.int p0), .val (.int i1)] [])) := by
    intro T locs X eT N i1  r hr
    have hr : r = (if (f2_0 p0) = i1 then (f1_51 p0 i1 (1 : Int32)) else (f1_51 p0 i1 (0 : Int32))) := hr
    refine own_pre (B := T.setTop (mkF m 39 #[.val (.int p0), .val (.int i1)] [(.int p0)])) (fun t k => XS.iloadN X.here hx rfl (hb hby d1_38) rfl k) ?_
    obtain ⟨_, _, ⟨T1, L1, k1, n1⟩, -, X1, ⟨Lc1, hQ1, l1, y1, z1⟩, st1⟩ := Jvm.LawKit.callS X hx (y := (⟨"com/example/dry_retry/dryretry/http/Messages", "hasNoContentByStatus", "(I)Z"⟩ : MethodName)) hown (mvT hZ (hw _ (List.mem_of_getElem? (i := 4) rfl))) (mvT hZ (hw _ (List.mem_of_getElem? (i := 5) rfl))) (mvT hZ (hw _ (List.mem_of_getElem? (i := 6) rfl))) (mvT hZ (hw _ (List.mem_of_getElem? (i := 7) rfl))) (by decide) (backOf (W := 0) (rm2 l Z a0 hw [] p0 h0 n0 Z0) hZ (hw _ (List.mem_of_getElem? (i := 7) rfl)) (hw _ (List.mem_of_getElem? (i := 6) rfl)) (by decide) (by decide)) (g := (mkF m 39 #[.val (.int p0), .val (.int i1)] [(.int p0)])) rfl (by rw [hml]; rfl) (argsL := [(.int p0)]) (rest := []) (lenOf pd1_0 rfl) rfl (by show 2 * 0 + _ ≤ _; exact Nat.le_of_eq rfl) (hb hby d1_39) (fun _ _ => ⟨rfl, eT, (by decide : 0 + 0 ≤ _), (by decide : 0 + 0 ≤ _)⟩)
    dsimp only [Pt.U, Pt.locs, Pt.cells, Pt.slots] at X1 l1 y1 z1 st1 hQ1
    subst l1 y1 z1
    obtain ⟨rfl, Nq1, e1⟩ := hQ1
    have N1 := Fr.app N Nq1
    refine own_pre (B := T1.setTop (mkF m 42 #[.val (.int p0), .val (.int i1)] [(.int (f2_0 p0))])) st1 ?_
    refine own_pre (B := T1.setTop (mkF m 43 #[.val (.int p0), .val (.int i1)] [(.int i1), (.int (f2_0 p0))])) (fun t k => XS.iloadN X1.here hx rfl (hb hby d1_42) rfl k) ?_
    by_cases hc2 : (f2_0 p0) = i1
    · have hr3 := hr.trans (if_pos hc2)
      refine own_pre (B := T1.setTop (mkF m 46 #[.val (.int p0), .val (.int i1)] [])) (fun t k => XS.icmpNo X1.here hx rfl (hb hby d1_43) rfl (teq hc2).2 k) ?_
      refine own_pre (B := T1.setTop (mkF m 47 #[.val (.int p0), .val (.int i1)] [(.int (1 : Int32))])) (fun t k => XS.iconst X1.here hx rfl (hb hby d1_46) k) ?_
      refine own_pre (B := T1.setTop (mkF m 51 #[.val (.int p0), .val (.int i1)] [(.int (1 : Int32))])) (fun t k => XS.goto X1.here hx rfl (pc0 := 47) (pc' := 51) rfl (hb hby d1_47) (by decide) (by decide) k) ?_
      exact g_51 T1 _ X1 e1 N1 i1 (1 : Int32) _ hr3
    · have hr4 := hr.trans (if_neg hc2)
      refine own_pre (B := T1.setTop (mkF m 50 #[.val (.int p0), .val (.int i1)] [])) (fun t k => XS.icmpYes X1.here hx rfl (pc0 := 43) (pc' := 50) rfl (hb hby d1_43) rfl (feq hc2).2 (by decide) (by decide) k) ?_
      refine own_pre (B := T1.setTop (mkF m 51 #[.val (.int p0), .val (.int i1)] [(.int (0 : Int32))])) (fun t k => XS.iconst X1.here hx rfl (hb hby d1_50) k) ?_
      exact g_51 T1 _ X1 e1 N1 i1 (0 : Int32) _ hr4
  have g_0 : ∀ r, r = f1_0 p0 → own_Fin p e below s (fun v h L => v = some (.int r) ∧ Fr n0 L ∧ h = h0) ({ frames := 1, cells := 0, slots := 0, locals := 12 } : Room).cells ({ frames := 1, cells := 0, slots := 0, locals := 12 } : Room).slots (s₁.setTop (mkF m 0 #[.val (.int p0), .unset] [])) := by
    intro r hr
    have hr : r = (if p0 < (200 : Int32) then (f1_38 p0 (1 : Int32)) else (if p0 < (204 : Int32) then (f1_38 p0 (0 : Int32)) else (if (205 : Int32) < p0 then (f1_38 p0 (0 : Int32)) else (f1_38 p0 (1 : Int32))))) := hr
    refine own_pre (B := s₁.setTop (mkF m 1 #[.val (.int p0), .unset] [(.int p0)])) (fun t k => XS.iloadN X0.here hx rfl (hb hby d1_0) rfl k) ?_
    refine own_pre (B := s₁.setTop (mkF m 4 #[.val (.int p0), .unset] [(.int (200 : Int32)), (.int p0)])) (fun t k => XS.sipush X0.here hx rfl (hb hby d1_1) k) ?_
    by_cases hc1 : p0 < (200 : Int32)
    · have hr2 := hr.trans (if_pos hc1)
      refine own_pre (B := s₁.setTop (mkF m 7 #[.val (.int p0), .unset] [])) (fun t k => XS.icmpNo X0.here hx rfl (hb hby d1_4) rfl (tlt hc1).2.1 k) ?_
      refine own_pre (B := s₁.setTop (mkF m 8 #[.val (.int p0), .unset] [(.int (1 : Int32))])) (fun t k => XS.iconst X0.here hx rfl (hb hby d1_7) k) ?_
      refine own_pre (B := s₁.setTop (mkF m 9 #[.val (.int p0), .val (.int (1 : Int32))] [])) (fun t k => XS.istoreN X0.here hx rfl (hb hby d1_8) rfl (l' := #[.val (.int p0), .val (.int (1 : Int32))]) rfl k) ?_
      refine own_pre (B := s₁.setTop (mkF m 38 #[.val (.int p0), .val (.int (1 : Int32))] [])) (fun t k => XS.goto X0.here hx rfl (pc0 := 9) (pc' := 38) rfl (hb hby d1_9) (by decide) (by decide) k) ?_
      exact g_38 s₁ _ X0 e0 N0 (1 : Int32) _ hr2
    · have hr3 := hr.trans (if_neg hc1)
      refine own_pre (B := s₁.setTop (mkF m 12 #[.val (.int p0), .unset] [])) (fun t k => XS.icmpYes X0.here hx rfl (pc0 := 4) (pc' := 12) rfl (hb hby d1_4) rfl (flt hc1).2.1 (by decide) (by decide) k) ?_
      refine own_pre (B := s₁.setTop (mkF m 13 #[.val (.int p0), .unset] [(.int p0)])) (fun t k => XS.iloadN X0.here hx rfl (hb hby d1_12) rfl k) ?_
      refine own_pre (B := s₁.setTop (mkF m 16 #[.val (.int p0), .unset] [(.int (204 : Int32)), (.int p0)])) (fun t k => XS.sipush X0.here hx rfl (hb hby d1_13) k) ?_
      by_cases hc4 : p0 < (204 : Int32)
      · have hr5 := hr3.trans (if_pos hc4)
        refine own_pre (B := s₁.setTop (mkF m 19 #[.val (.int p0), .unset] [])) (fun t k => XS.icmpNo X0.here hx rfl (hb hby d1_16) rfl (tlt hc4).2.1 k) ?_
        refine own_pre (B := s₁.setTop (mkF m 20 #[.val (.int p0), .unset] [(.int (0 : Int32))])) (fun t k => XS.iconst X0.here hx rfl (hb hby d1_19) k) ?_
        refine own_pre (B := s₁.setTop (mkF m 21 #[.val (.int p0), .val (.int (0 : Int32))] [])) (fun t k => XS.istoreN X0.here hx rfl (hb hby d1_20) rfl (l' := #[.val (.int p0), .val (.int (0 : Int32))]) rfl k) ?_
        refine own_pre (B := s₁.setTop (mkF m 38 #[.val (.int p0), .val (.int (0 : Int32))] [])) (fun t k => XS.goto X0.here hx rfl (pc0 := 21) (pc' := 38) rfl (hb hby d1_21) (by decide) (by decide) k) ?_
        exact g_38 s₁ _ X0 e0 N0 (0 : Int32) _ hr5
      · have hr6 := hr3.trans (if_neg hc4)
        refine own_pre (B := s₁.setTop (mkF m 24 #[.val (.int p0), .unset] [])) (fun t k => XS.icmpYes X0.here hx rfl (pc0 := 16) (pc' := 24) rfl (hb hby d1_16) rfl (flt hc4).2.1 (by decide) (by decide) k) ?_
        refine own_pre (B := s₁.setTop (mkF m 25 #[.val (.int p0), .unset] [(.int p0)])) (fun t k => XS.iloadN X0.here hx rfl (hb hby d1_24) rfl k) ?_
        refine own_pre (B := s₁.setTop (mkF m 28 #[.val (.int p0), .unset] [(.int (205 : Int32)), (.int p0)])) (fun t k => XS.sipush X0.here hx rfl (hb hby d1_25) k) ?_
        by_cases hc7 : (205 : Int32) < p0
        · have hr8 := hr6.trans (if_pos hc7)
          refine own_pre (B := s₁.setTop (mkF m 36 #[.val (.int p0), .unset] [])) (fun t k => XS.icmpYes X0.here hx rfl (pc0 := 28) (pc' := 36) rfl (hb hby d1_28) rfl (tlt hc7).2.2.1 (by decide) (by decide) k) ?_
          refine own_pre (B := s₁.setTop (mkF m 37 #[.val (.int p0), .unset] [(.int (0 : Int32))])) (fun t k => XS.iconst X0.here hx rfl (hb hby d1_36) k) ?_
          refine own_pre (B := s₁.setTop (mkF m 38 #[.val (.int p0), .val (.int (0 : Int32))] [])) (fun t k => XS.istoreN X0.here hx rfl (hb hby d1_37) rfl (l' := #[.val (.int p0), .val (.int (0 : Int32))]) rfl k) ?_
          exact g_38 s₁ _ X0 e0 N0 (0 : Int32) _ hr8
        · have hr9 := hr6.trans (if_neg hc7)
          refine own_pre (B := s₁.setTop (mkF m 31 #[.val (.int p0), .unset] [])) (fun t k => XS.icmpNo X0.here hx rfl (hb hby d1_28) rfl (flt hc7).2.2.1 k) ?_
          refine own_pre (B := s₁.setTop (mkF m 32 #[.val (.int p0), .unset] [(.int (1 : Int32))])) (fun t k => XS.iconst X0.here hx rfl (hb hby d1_31) k) ?_
          refine own_pre (B := s₁.setTop (mkF m 33 #[.val (.int p0), .val (.int (1 : Int32))] [])) (fun t k => XS.istoreN X0.here hx rfl (hb hby d1_32) rfl (l' := #[.val (.int p0), .val (.int (1 : Int32))]) rfl k) ?_
          refine own_pre (B := s₁.setTop (mkF m 38 #[.val (.int p0), .val (.int (1 : Int32))] [])) (fun t k => XS.goto X0.here hx rfl (pc0 := 33) (pc' := 38) rfl (hb hby d1_33) (by decide) (by decide) k) ?_
          exact g_38 s₁ _ X0 e0 N0 (1 : Int32) _ hr9
  exact own_pre pre0 (g_0 _ rfl)
/-! body 0 -/
theorem pn_0 : plainName "com/example/dry_retry/dryretry/http/MessagesHasNoContentByStatusPinLaw" = true := by first | (simp [plainName, overriddenIn]; done) | decide +kernel
theorem pd0_0 : parseMethodDescriptor "(I)Z" = some ⟨[.int], some .boolean⟩ := by decide +kernel
theorem ef_0 (m : MethodId) (p0 : Int32) (p1 : Int32) : entryFrame m #[(.int p0), (.int p1)] maxLocals = mkF m 0 #[.val (.int p0), .val (.int p1), .unset, .unset] [] := by first | (simp [entryFrame, mkF, argsToLocals, Value.category, maxLocals]; done) | rfl
def f0_46 (p0 : Int32) (p1 : Int32) (i2 : Int32) (i3 : Int32) (t0 : Int32) : Int32 := (t0 &&& 1)
def f0_45 (p0 : Int32) (p1 : Int32) (i2 : Int32) (i3 : Int32) : Int32 := (f0_46 p0 p1 i2 i3 (0 : Int32))
def f0_0 (p0 : Int32) (p1 : Int32) : Int32 := (if (f1_0 p0) = (0 : Int32) then (f0_45 p0 p1 ((196 : Int32) + (p1 &&& (15 : Int32))) ((300 : Int32) + (((p1.toUInt32 >>> ((4 : Int32) &&& 31).toUInt32).toInt32) &&& (7 : Int32)))) else (if (f1_0 ((196 : Int32) + (p1 &&& (15 : Int32)))) = (0 : Int32) then (f0_45 p0 p1 ((196 : Int32) + (p1 &&& (15 : Int32))) ((300 : Int32) + (((p1.toUInt32 >>> ((4 : Int32) &&& 31).toUInt32).toInt32) &&& (7 : Int32)))) else (if (f1_0 ((300 : Int32) + (((p1.toUInt32 >>> ((4 : Int32) &&& 31).toUInt32).toInt32) &&& (7 : Int32)))) = (0 : Int32) then (f0_45 p0 p1 ((196 : Int32) + (p1 &&& (15 : Int32))) ((300 : Int32) + (((p1.toUInt32 >>> ((4 : Int32) &&& 31).toUInt32).toInt32) &&& (7 : Int32)))) else (f0_46 p0 p1 ((196 : Int32) + (p1 &&& (15 : Int32))) ((300 : Int32) + (((p1.toUInt32 >>> ((4 : Int32) &&& 31).toUInt32).toInt32) &&& (7 : Int32))) (1 : Int32)))))
def Q0 (p0 : Int32) (p1 : Int32) (h0 : Heap) (n0 : Nat) (v : Option Value) (h : Heap) (L : List Loc) : Prop := v = some (.int (f0_0 p0 p1)) ∧ Fr n0 L
set_option maxRecDepth 65536 in
set_option maxHeartbeats 40000000 in
theorem rm0 (l : Launch) (Z : State) (a0 : Array Value) (hw : ∀ d ∈ tables_1, d.before a0 Z = true) (ws : List Jvm.Cond) (p0 : Int32) (p1 : Int32) (h0 : Heap) (n0 : Nat) (Z0 : n0 ≤ h0.size) :
    MetFree l x (head1 (Jvm.Cond.code x code maxLocals ret :: ws) room_1) (fun a U => a = #[(.int p0), (.int p1)] ∧ Z.Warmed39 U.vm ∧ U.heap = h0) (fun _ _ _ _ _ => True) (fun _ U o U' => ∃ v L, o = .returned v ∧ Q0 p0 p1 h0 n0 v U'.heap L ∧ FrameEnd U o U' L room_1.cells room_1.slots) := by
  refine MetFree.of_bodySF (plainFor_of_name pn_0) hisR ?_
  intro p e s m args below meth c s₁ Bd hml0 hP hK
  obtain ⟨rfl, hZ, hh⟩ := hP
  have hx := Bd.exec
  have hby := Bd.bytes
  have hml : c.maxLocals = 4 := hml0
  have hlk : meth.locks = false := BodyLoose.notSynchronized Bd
  have hown : s.vm.findClass "com/example/dry_retry/dryretry/http/MessagesHasNoContentByStatusPinLaw" = some m.cls := findClass_of_methodNamed Bd.named
  have X0 : Stand p l e room_1 s m #[(.int p0), (.int p1)] below meth c s₁ [] 0 0 := Stand.of_body Bd
  have e0 : s₁.heap = h0 := by rw [← hh, Bd.state]; rfl
  have N0 := Fr.nil n0
  have Zs0 : n0 ≤ s₁.heap.size := by rw [e0]; exact Z0
  have pre0 : ∀ t, Steps p.tables e below (s₁.setTop (mkF m 0 #[.val (.int p0), .val (.int p1), .unset, .unset] [])) t → Steps p.tables e below (s₁.setTop (entryFrame m #[(.int p0), (.int p1)] maxLocals)) t := fun t k => castTop (ef_0 m p0 p1) k
  have hnm := (name_of_methodNamed Bd.named Bd.method).1
  have g_46 : ∀ (T : State) (locs : List Loc) (X : Stand p l e room_1 s m #[(.int p0), (.int p1)] below meth c T locs 0 0) (N : Fr n0 locs) (Zs : n0 ≤ T.heap.size) (i2 : Int32) (i3 : Int32) (t0 : Int32)  (r : Int32), r = f0_46 p0 p1 i2 i3 t0 → own_Fin p e below s (fun v h L => v = some (.int r) ∧ Fr n0 L) room_1.cells room_1.slots (T.setTop (mkF m 46 #[.val (.int p0), .val (.int p1), .val (.int i2), .val (.int i3)] [(.int t0)])) := by
    intro T locs X N Zs i2 i3 t0  r hr
    have hr : r = (t0 &&& 1) := hr
    exact own_retZ X hx hlk Bd.returns (hb hby at_46) ⟨own_someI hr, N⟩ (by decide) (by decide)
  have g_45 : ∀ (T : State) (locs : List Loc) (X : Stand p l e room_1 s m #[(.int p0), (.int p1)] below meth c T locs 0 0) (N : Fr n0 locs) (Zs : n0 ≤ T.heap.size) (i2 : Int32) (i3 : Int32)  (r : Int32), r = f0_45 p0 p1 i2 i3 → own_Fin p e below s (fun v h L => v = some (.int r) ∧ Fr n0 L) room_1.cells room_1.slots (T.setTop (mkF m 45 #[.val (.int p0), .val (.int p1), .val (.int i2), .val (.int i3)] [])) := by
    intro T locs X N Zs i2 i3  r hr
    have hr : r = (f0_46 p0 p1 i2 i3 (0 : Int32)) := hr
    refine own_pre (B := T.setTop (mkF m 46 #[.val (.int p0), .val (.int p1), .val (.int i2), .val (.int i3)] [(.int (0 : Int32))])) (fun t k => XS.iconst X.here hx rfl (hb hby at_45) k) ?_
    exact g_46 T _ X N Zs i2 i3 (0 : Int32) _ hr
  have g_0 : ∀ r, r = f0_0 p0 p1 → own_Fin p e below s (fun v h L => v = some (.int r) ∧ Fr n0 L) room_1.cells room_1.slots (s₁.setTop (mkF m 0 #[.val (.int p0), .val (.int p1), .unset, .unset] [])) := by
    intro r hr
    have hr : r = (if (f1_0 p0) = (0 : Int32) then (f0_45 p0 p1 ((196 : Int32) + (p1 &&& (15 : Int32))) ((300 : Int32) + (((p1.toUInt32 >>> ((4 : Int32) &&& 31).toUInt32).toInt32) &&& (7 : Int32)))) else (if (f1_0 ((196 : Int32) + (p1 &&& (15 : Int32)))) = (0 : Int32) then (f0_45 p0 p1 ((196 : Int32) + (p1 &&& (15 : Int32))) ((300 : Int32) + (((p1.toUInt32 >>> ((4 : Int32) &&& 31).toUInt32).toInt32) &&& (7 : Int32)))) else (if (f1_0 ((300 : Int32) + (((p1.toUInt32 >>> ((4 : Int32) &&& 31).toUInt32).toInt32) &&& (7 : Int32)))) = (0 : Int32) then (f0_45 p0 p1 ((196 : Int32) + (p1 &&& (15 : Int32))) ((300 : Int32) + (((p1.toUInt32 >>> ((4 : Int32) &&& 31).toUInt32).toInt32) &&& (7 : Int32)))) else (f0_46 p0 p1 ((196 : Int32) + (p1 &&& (15 : Int32))) ((300 : Int32) + (((p1.toUInt32 >>> ((4 : Int32) &&& 31).toUInt32).toInt32) &&& (7 : Int32))) (1 : Int32))))) := hr
    refine own_pre (B := s₁.setTop (mkF m 3 #[.val (.int p0), .val (.int p1), .unset, .unset] [(.int (196 : Int32))])) (fun t k => XS.sipush X0.here hx rfl (hb hby at_0) k) ?_
    refine own_pre (B := s₁.setTop (mkF m 4 #[.val (.int p0), .val (.int p1), .unset, .unset] [(.int p1), (.int (196 : Int32))])) (fun t k => XS.iloadN X0.here hx rfl (hb hby at_3) rfl k) ?_
    refine own_pre (B := s₁.setTop (mkF m 6 #[.val (.int p0), .val (.int p1), .unset, .unset] [(.int (15 : Int32)), (.int p1), (.int (196 : Int32))])) (fun t k => XS.bipush X0.here hx rfl (hb hby at_4) k) ?_
    refine own_pre (B := s₁.setTop (mkF m 7 #[.val (.int p0), .val (.int p1), .unset, .unset] [(.int (p1 &&& (15 : Int32))), (.int (196 : Int32))])) (fun t k => XS.iand X0.here hx rfl (hb hby at_6) rfl k) ?_
    refine own_pre (B := s₁.setTop (mkF m 8 #[.val (.int p0), .val (.int p1), .unset, .unset] [(.int ((196 : Int32) + (p1 &&& (15 : Int32))))])) (fun t k => XS.iadd X0.here hx rfl (hb hby at_7) rfl k) ?_
    refine own_pre (B := s₁.setTop (mkF m 9 #[.val (.int p0), .val (.int p1), .val (.int ((196 : Int32) + (p1 &&& (15 : Int32)))), .unset] [])) (fun t k => XS.istoreN X0.here hx rfl (hb hby at_8) rfl (l' := #[.val (.int p0), .val (.int p1), .val (.int ((196 : Int32) + (p1 &&& (15 : Int32)))), .unset]) rfl k) ?_
    refine own_pre (B := s₁.setTop (mkF m 12 #[.val (.int p0), .val (.int p1), .val (.int ((196 : Int32) + (p1 &&& (15 : Int32)))), .unset] [(.int (300 : Int32))])) (fun t k => XS.sipush X0.here hx rfl (hb hby at_9) k) ?_
    refine own_pre (B := s₁.setTop (mkF m 13 #[.val (.int p0), .val (.int p1), .val (.int ((196 : Int32) + (p1 &&& (15 : Int32)))), .unset] [(.int p1), (.int (300 : Int32))])) (fun t k => XS.iloadN X0.here hx rfl (hb hby at_12) rfl k) ?_
    refine own_pre (B := s₁.setTop (mkF m 14 #[.val (.int p0), .val (.int p1), .val (.int ((196 : Int32) + (p1 &&& (15 : Int32)))), .unset] [(.int (4 : Int32)), (.int p1), (.int (300 : Int32))])) (fun t k => XS.iconst X0.here hx rfl (hb hby at_13) k) ?_
    refine own_pre (B := s₁.setTop (mkF m 15 #[.val (.int p0), .val (.int p1), .val (.int ((196 : Int32) + (p1 &&& (15 : Int32)))), .unset] [(.int ((p1.toUInt32 >>> ((4 : Int32) &&& 31).toUInt32).toInt32)), (.int (300 : Int32))])) (fun t k => XS.iushr X0.here hx rfl (hb hby at_14) rfl k) ?_
    refine own_pre (B := s₁.setTop (mkF m 17 #[.val (.int p0), .val (.int p1), .val (.int ((196 : Int32) + (p1 &&& (15 : Int32)))), .unset] [(.int (7 : Int32)), (.int ((p1.toUInt32 >>> ((4 : Int32) &&& 31).toUInt32).toInt32)), (.int (300 : Int32))])) (fun t k => XS.bipush X0.here hx rfl (hb hby at_15) k) ?_
    refine own_pre (B := s₁.setTop (mkF m 18 #[.val (.int p0), .val (.int p1), .val (.int ((196 : Int32) + (p1 &&& (15 : Int32)))), .unset] [(.int (((p1.toUInt32 >>> ((4 : Int32) &&& 31).toUInt32).toInt32) &&& (7 : Int32))), (.int (300 : Int32))])) (fun t k => XS.iand X0.here hx rfl (hb hby at_17) rfl k) ?_
    refine own_pre (B := s₁.setTop (mkF m 19 #[.val (.int p0), .val (.int p1), .val (.int ((196 : Int32) + (p1 &&& (15 : Int32)))), .unset] [(.int ((300 : Int32) + (((p1.toUInt32 >>> ((4 : Int32) &&& 31).toUInt32).toInt32) &&& (7 : Int32))))])) (fun t k => XS.iadd X0.here hx rfl (hb hby at_18) rfl k) ?_
    refine own_pre (B := s₁.setTop (mkF m 20 #[.val (.int p0), .val (.int p1), .val (.int ((196 : Int32) + (p1 &&& (15 : Int32)))), .val (.int ((300 : Int32) + (((p1.toUInt32 >>> ((4 : Int32) &&& 31).toUInt32).toInt32) &&& (7 : Int32))))] [])) (fun t k => XS.istoreN X0.here hx rfl (hb hby at_19) rfl (l' := #[.val (.int p0), .val (.int p1), .val (.int ((196 : Int32) + (p1 &&& (15 : Int32)))), .val (.int ((300 : Int32) + (((p1.toUInt32 >>> ((4 : Int32) &&& 31).toUInt32).toInt32) &&& (7 : Int32))))]) rfl k) ?_
    refine own_pre (B := s₁.setTop (mkF m 21 #[.val (.int p0), .val (.int p1), .val (.int ((196 : Int32) + (p1 &&& (15 : Int32)))), .val (.int ((300 : Int32) + (((p1.toUInt32 >>> ((4 : Int32) &&& 31).toUInt32).toInt32) &&& (7 : Int32))))] [(.int p0)])) (fun t k => XS.iloadN X0.here hx rfl (hb hby at_20) rfl k) ?_
    obtain ⟨_, _, ⟨T1, L1, k1, n1⟩, -, X1, ⟨Lc1, hQ1, l1, y1, z1⟩, st1⟩ := Jvm.LawKit.callS X0 hx (y := (⟨"com/example/dry_retry/dryretry/http/MessagesHasNoContentByStatusPinLaw", "check", "(I)Z"⟩ : MethodName)) hown (mvT hZ (hw _ (List.mem_of_getElem? (i := 0) rfl))) (mvT hZ (hw _ (List.mem_of_getElem? (i := 1) rfl))) (mvT hZ (hw _ (List.mem_of_getElem? (i := 2) rfl))) (mvT hZ (hw _ (List.mem_of_getElem? (i := 3) rfl))) (by decide) (backOf (W := 0) (rm1 l Z a0 hw [] p0 h0 n0 Z0) hZ (hw _ (List.mem_of_getElem? (i := 3) rfl)) (hw _ (List.mem_of_getElem? (i := 2) rfl)) (by decide) (by decide)) (g := (mkF m 21 #[.val (.int p0), .val (.int p1), .val (.int ((196 : Int32) + (p1 &&& (15 : Int32)))), .val (.int ((300 : Int32) + (((p1.toUInt32 >>> ((4 : Int32) &&& 31).toUInt32).toInt32) &&& (7 : Int32))))] [(.int p0)])) rfl (by rw [hml]; rfl) (argsL := [(.int p0)]) (rest := []) (lenOf pd0_0 rfl) rfl (by show 2 * 0 + _ ≤ _; exact Nat.le_of_eq rfl) (hb hby at_21) (fun _ _ => ⟨rfl, e0, (by decide : 0 + 0 ≤ _), (by decide : 0 + 0 ≤ _)⟩)
    dsimp only [Pt.U, Pt.locs, Pt.cells, Pt.slots] at X1 l1 y1 z1 st1 hQ1
    subst l1 y1 z1
    obtain ⟨rfl, Nq1, e1⟩ := hQ1
    have N1 := Fr.app N0 Nq1
    have Zs1 : n0 ≤ T1.heap.size := by rw [e1]; exact Z0
    refine own_pre (B := T1.setTop (mkF m 24 #[.val (.int p0), .val (.int p1), .val (.int ((196 : Int32) + (p1 &&& (15 : Int32)))), .val (.int ((300 : Int32) + (((p1.toUInt32 >>> ((4 : Int32) &&& 31).toUInt32).toInt32) &&& (7 : Int32))))] [(.int (f1_0 p0))])) st1 ?_
    by_cases hc2 : (f1_0 p0) = (0 : Int32)
    · have hr3 := hr.trans (if_pos hc2)
      refine own_pre (B := T1.setTop (mkF m 45 #[.val (.int p0), .val (.int p1), .val (.int ((196 : Int32) + (p1 &&& (15 : Int32)))), .val (.int ((300 : Int32) + (((p1.toUInt32 >>> ((4 : Int32) &&& 31).toUInt32).toInt32) &&& (7 : Int32))))] [])) (fun t k => XS.ifYes X1.here hx rfl (pc0 := 24) (pc' := 45) rfl (hb hby at_24) rfl ((if0 _ _).trans (teq hc2).1) (by decide) (by decide) k) ?_
      exact g_45 T1 _ X1 N1 Zs1 ((196 : Int32) + (p1 &&& (15 : Int32))) ((300 : Int32) + (((p1.toUInt32 >>> ((4 : Int32) &&& 31).toUInt32).toInt32) &&& (7 : Int32))) _ hr3
    · have hr4 := hr.trans (if_neg hc2)
      refine own_pre (B := T1.setTop (mkF m 27 #[.val (.int p0), .val (.int p1), .val (.int ((196 : Int32) + (p1 &&& (15 : Int32)))), .val (.int ((300 : Int32) + (((p1.toUInt32 >>> ((4 : Int32) &&& 31).toUInt32).toInt32) &&& (7 : Int32))))] [])) (fun t k => XS.ifNo X1.here hx rfl (hb hby at_24) rfl ((if0 _ _).trans (feq hc2).1) k) ?_
      refine own_pre (B := T1.setTop (mkF m 28 #[.val (.int p0), .val (.int p1), .val (.int ((196 : Int32) + (p1 &&& (15 : Int32)))), .val (.int ((300 : Int32) + (((p1.toUInt32 >>> ((4 : Int32) &&& 31).toUInt32).toInt32) &&& (7 : Int32))))] [(.int ((196 : Int32) + (p1 &&& (15 : Int32))))])) (fun t k => XS.iloadN X1.here hx rfl (hb hby at_27) rfl k) ?_
      obtain ⟨_, _, ⟨T5, L5, k5, n5⟩, -, X5, ⟨Lc5, hQ5, l5, y5, z5⟩, st5⟩ := Jvm.LawKit.callS X1 hx (y := (⟨"com/example/dry_retry/dryretry/http/MessagesHasNoContentByStatusPinLaw", "check", "(I)Z"⟩ : MethodName)) hown (mvT hZ (hw _ (List.mem_of_getElem? (i := 0) rfl))) (mvT hZ (hw _ (List.mem_of_getElem? (i := 1) rfl))) (mvT hZ (hw _ (List.mem_of_getElem? (i := 2) rfl))) (mvT hZ (hw _ (List.mem_of_getElem? (i := 3) rfl))) (by decide) (backOf (W := 0) (rm1 l Z a0 hw [] ((196 : Int32) + (p1 &&& (15 : Int32))) h0 n0 Z0) hZ (hw _ (List.mem_of_getElem? (i := 3) rfl)) (hw _ (List.mem_of_getElem? (i := 2) rfl)) (by decide) (by decide)) (g := (mkF m 28 #[.val (.int p0), .val (.int p1), .val (.int ((196 : Int32) + (p1 &&& (15 : Int32)))), .val (.int ((300 : Int32) + (((p1.toUInt32 >>> ((4 : Int32) &&& 31).toUInt32).toInt32) &&& (7 : Int32))))] [(.int ((196 : Int32) + (p1 &&& (15 : Int32))))])) rfl (by rw [hml]; rfl) (argsL := [(.int ((196 : Int32) + (p1 &&& (15 : Int32))))]) (rest := []) (lenOf pd0_0 rfl) rfl (by show 2 * 0 + _ ≤ _; exact Nat.le_of_eq rfl) (hb hby at_28) (fun _ _ => ⟨rfl, e1, (by decide : 0 + 0 ≤ _), (by decide : 0 + 0 ≤ _)⟩)
      dsimp only [Pt.U, Pt.locs, Pt.cells, Pt.slots] at X5 l5 y5 z5 st5 hQ5
      subst l5 y5 z5
      obtain ⟨rfl, Nq5, e5⟩ := hQ5
      have N5 := Fr.app N1 Nq5
      have Zs5 : n0 ≤ T5.heap.size := by rw [e5]; exact Z0
      refine own_pre (B := T5.setTop (mkF m 31 #[.val (.int p0), .val (.int p1), .val (.int ((196 : Int32) + (p1 &&& (15 : Int32)))), .val (.int ((300 : Int32) + (((p1.toUInt32 >>> ((4 : Int32) &&& 31).toUInt32).toInt32) &&& (7 : Int32))))] [(.int (f1_0 ((196 : Int32) + (p1 &&& (15 : Int32)))))])) st5 ?_
      by_cases hc6 : (f1_0 ((196 : Int32) + (p1 &&& (15 : Int32)))) = (0 : Int32)
      · have hr7 := hr4.trans (if_pos hc6)
        refine own_pre (B := T5.setTop (mkF m 45 #[.val (.int p0), .val (.int p1), .val (.int ((196 : Int32) + (p1 &&& (15 : Int32)))), .val (.int ((300 : Int32) + (((p1.toUInt32 >>> ((4 : Int32) &&& 31).toUInt32).toInt32) &&& (7 : Int32))))] [])) (fun t k => XS.ifYes X5.here hx rfl (pc0 := 31) (pc' := 45) rfl (hb hby at_31) rfl ((if0 _ _).trans (teq hc6).1) (by decide) (by decide) k) ?_
        exact g_45 T5 _ X5 N5 Zs5 ((196 : Int32) + (p1 &&& (15 : Int32))) ((300 : Int32) + (((p1.toUInt32 >>> ((4 : Int32) &&& 31).toUInt32).toInt32) &&& (7 : Int32))) _ hr7
      · have hr8 := hr4.trans (if_neg hc6)
        refine own_pre (B := T5.setTop (mkF m 34 #[.val (.int p0), .val (.int p1), .val (.int ((196 : Int32) + (p1 &&& (15 : Int32)))), .val (.int ((300 : Int32) + (((p1.toUInt32 >>> ((4 : Int32) &&& 31).toUInt32).toInt32) &&& (7 : Int32))))] [])) (fun t k => XS.ifNo X5.here hx rfl (hb hby at_31) rfl ((if0 _ _).trans (feq hc6).1) k) ?_
        refine own_pre (B := T5.setTop (mkF m 35 #[.val (.int p0), .val (.int p1), .val (.int ((196 : Int32) + (p1 &&& (15 : Int32)))), .val (.int ((300 : Int32) + (((p1.toUInt32 >>> ((4 : Int32) &&& 31).toUInt32).toInt32) &&& (7 : Int32))))] [(.int ((300 : Int32) + (((p1.toUInt32 >>> ((4 : Int32) &&& 31).toUInt32).toInt32) &&& (7 : Int32))))])) (fun t k => XS.iloadN X5.here hx rfl (hb hby at_34) rfl k) ?_
        obtain ⟨_, _, ⟨T9, L9, k9, n9⟩, -, X9, ⟨Lc9, hQ9, l9, y9, z9⟩, st9⟩ := Jvm.LawKit.callS X5 hx (y := (⟨"com/example/dry_retry/dryretry/http/MessagesHasNoContentByStatusPinLaw", "check", "(I)Z"⟩ : MethodName)) hown (mvT hZ (hw _ (List.mem_of_getElem? (i := 0) rfl))) (mvT hZ (hw _ (List.mem_of_getElem? (i := 1) rfl))) (mvT hZ (hw _ (List.mem_of_getElem? (i := 2) rfl))) (mvT hZ (hw _ (List.mem_of_getElem? (i := 3) rfl))) (by decide) (backOf (W := 0) (rm1 l Z a0 hw [] ((300 : Int32) + (((p1.toUInt32 >>> ((4 : Int32) &&& 31).toUInt32).toInt32) &&& (7 : Int32))) h0 n0 Z0) hZ (hw _ (List.mem_of_getElem? (i := 3) rfl)) (hw _ (List.mem_of_getElem? (i := 2) rfl)) (by decide) (by decide)) (g := (mkF m 35 #[.val (.int p0), .val (.int p1), .val (.int ((196 : Int32) + (p1 &&& (15 : Int32)))), .val (.int ((300 : Int32) + (((p1.toUInt32 >>> ((4 : Int32) &&& 31).toUInt32).toInt32) &&& (7 : Int32))))] [(.int ((300 : Int32) + (((p1.toUInt32 >>> ((4 : Int32) &&& 31).toUInt32).toInt32) &&& (7 : Int32))))])) rfl (by rw [hml]; rfl) (argsL := [(.int ((300 : Int32) + (((p1.toUInt32 >>> ((4 : Int32) &&& 31).toUInt32).toInt32) &&& (7 : Int32))))]) (rest := []) (lenOf pd0_0 rfl) rfl (by show 2 * 0 + _ ≤ _; exact Nat.le_of_eq rfl) (hb hby at_35) (fun _ _ => ⟨rfl, e5, (by decide : 0 + 0 ≤ _), (by decide : 0 + 0 ≤ _)⟩)
        dsimp only [Pt.U, Pt.locs, Pt.cells, Pt.slots] at X9 l9 y9 z9 st9 hQ9
        subst l9 y9 z9
        obtain ⟨rfl, Nq9, e9⟩ := hQ9
        have N9 := Fr.app N5 Nq9
        have Zs9 : n0 ≤ T9.heap.size := by rw [e9]; exact Z0
        refine own_pre (B := T9.setTop (mkF m 38 #[.val (.int p0), .val (.int p1), .val (.int ((196 : Int32) + (p1 &&& (15 : Int32)))), .val (.int ((300 : Int32) + (((p1.toUInt32 >>> ((4 : Int32) &&& 31).toUInt32).toInt32) &&& (7 : Int32))))] [(.int (f1_0 ((300 : Int32) + (((p1.toUInt32 >>> ((4 : Int32) &&& 31).toUInt32).toInt32) &&& (7 : Int32)))))])) st9 ?_
        by_cases hc10 : (f1_0 ((300 : Int32) + (((p1.toUInt32 >>> ((4 : Int32) &&& 31).toUInt32).toInt32) &&& (7 : Int32)))) = (0 : Int32)
        · have hr11 := hr8.trans (if_pos hc10)
          refine own_pre (B := T9.setTop (mkF m 45 #[.val (.int p0), .val (.int p1), .val (.int ((196 : Int32) + (p1 &&& (15 : Int32)))), .val (.int ((300 : Int32) + (((p1.toUInt32 >>> ((4 : Int32) &&& 31).toUInt32).toInt32) &&& (7 : Int32))))] [])) (fun t k => XS.ifYes X9.here hx rfl (pc0 := 38) (pc' := 45) rfl (hb hby at_38) rfl ((if0 _ _).trans (teq hc10).1) (by decide) (by decide) k) ?_
          exact g_45 T9 _ X9 N9 Zs9 ((196 : Int32) + (p1 &&& (15 : Int32))) ((300 : Int32) + (((p1.toUInt32 >>> ((4 : Int32) &&& 31).toUInt32).toInt32) &&& (7 : Int32))) _ hr11
        · have hr12 := hr8.trans (if_neg hc10)
          refine own_pre (B := T9.setTop (mkF m 41 #[.val (.int p0), .val (.int p1), .val (.int ((196 : Int32) + (p1 &&& (15 : Int32)))), .val (.int ((300 : Int32) + (((p1.toUInt32 >>> ((4 : Int32) &&& 31).toUInt32).toInt32) &&& (7 : Int32))))] [])) (fun t k => XS.ifNo X9.here hx rfl (hb hby at_38) rfl ((if0 _ _).trans (feq hc10).1) k) ?_
          refine own_pre (B := T9.setTop (mkF m 42 #[.val (.int p0), .val (.int p1), .val (.int ((196 : Int32) + (p1 &&& (15 : Int32)))), .val (.int ((300 : Int32) + (((p1.toUInt32 >>> ((4 : Int32) &&& 31).toUInt32).toInt32) &&& (7 : Int32))))] [(.int (1 : Int32))])) (fun t k => XS.iconst X9.here hx rfl (hb hby at_41) k) ?_
          refine own_pre (B := T9.setTop (mkF m 46 #[.val (.int p0), .val (.int p1), .val (.int ((196 : Int32) + (p1 &&& (15 : Int32)))), .val (.int ((300 : Int32) + (((p1.toUInt32 >>> ((4 : Int32) &&& 31).toUInt32).toInt32) &&& (7 : Int32))))] [(.int (1 : Int32))])) (fun t k => XS.goto X9.here hx rfl (pc0 := 42) (pc' := 46) rfl (hb hby at_42) (by decide) (by decide) k) ?_
          exact g_46 T9 _ X9 N9 Zs9 ((196 : Int32) + (p1 &&& (15 : Int32))) ((300 : Int32) + (((p1.toUInt32 >>> ((4 : Int32) &&& 31).toUInt32).toInt32) &&& (7 : Int32))) (1 : Int32) _ hr12
  exact own_pre pre0 (g_0 _ rfl)
/-! the plain law -/
theorem own_f1 (c : Int32) : f1_0 c = 1 := by
  have e204 : c = 204 ↔ c.toInt = 204 := ⟨fun h => by rw [h]; rfl, fun h => Int32.toInt_inj.mp (h.trans rfl)⟩
  have e205 : c = 205 ↔ c.toInt = 205 := ⟨fun h => by rw [h]; rfl, fun h => Int32.toInt_inj.mp (h.trans rfl)⟩
  have key : f2_0 c = if c.toInt < 200 ∨ c.toInt = 204 ∨ c.toInt = 205 then 1 else 0 := by
    unfold f2_0 f2_21 f2_26
    simp only [Int32.lt_iff_toInt_lt, Int32.reduceToInt, e204, e205]
    split
    · rw [if_pos (by omega)]; rfl
    · split
      · rw [if_pos (by omega)]; rfl
      · split
        · rw [if_pos (by omega)]; rfl
        · rw [if_neg (by omega)]; rfl
  unfold f1_0 f1_38 f1_51
  rw [key]
  simp only [Int32.lt_iff_toInt_lt, Int32.reduceToInt]
  split
  · rw [if_pos (if_pos (by omega))]; rfl
  · split
    · rw [if_pos (if_neg (by omega))]; rfl
    · split
      · rw [if_pos (if_neg (by omega))]; rfl
      · rw [if_pos (if_pos (by omega))]; rfl
theorem own_law (a b : Int32) : f0_0 a b = 1 := by
  unfold f0_0
  rw [own_f1, own_f1, own_f1, if_neg (by decide)]
  rfl
set_option maxRecDepth 65536 in
set_option maxHeartbeats 40000000 in
theorem comes_1 {Post : Tables → Env → Array Value → State → Outcome → State → Prop} (hpost : ∀ tb e args s v u, (limb_1_1.after args s (.returned v) u = true ∧ limb_1_2.after args s (.returned v) u = true ∧ True) → FrameEnd s (.returned v) u (Jvm.fieldLocs frame_1_writes args s ++ Jvm.arrayLocs frame_1_arrays args s ++ Jvm.staticLocs frame_1_statics s) 0 0 → Post tb e args s (.returned v) u) :
    ArmFor flags0 classFile x code maxLocals ret World_1 tables_1 room_1 Calls_1 rest_1 Pre_1 Post := by
  intro l hfl _ _ p e ha hc hk s m args below hf hA hF happ hP
  obtain ⟨hcalls, hrest, hpre⟩ := hP
  obtain ⟨-, -, -, hnamed, -, -, -, hat⟩ := (Spec.applies_iff hf).mp happ
  obtain ⟨hg, hn⟩ := and_e (Cond.before_iff.mp (show (Jvm.Cond.and given_1 narrow_1).before args s = true from hpre))
  obtain ⟨gg1, gg2⟩ := and_e hg
  obtain ⟨gg3, gg4⟩ := and_e gg2
  obtain ⟨w0, w1, rfl⟩ : ∃ w0 w1 : Value, args = #[w0, w1] := by
    have hs : args.size = 2 := by simpa [Cond.value, given_1] using gg1
    obtain ⟨L⟩ := args
    match L, hs with
    | [w0, w1], _ => exact ⟨w0, w1, rfl⟩
  have hw := fun d (hd : d ∈ tables_1) => atoms_spec (ws := Jvm.Cond.code x code maxLocals ret :: tables_1) hat d (List.mem_cons_of_mem _ hd)
  obtain ⟨i0, ei0⟩ := is_v gg3
  obtain rfl : w0 = (.int i0) := Option.some.inj ei0
  obtain ⟨i1, ei1⟩ := is_v gg4
  obtain rfl : w1 = (.int i1) := Option.some.inj ei1
  obtain ⟨n, o, h1, h2, h3, _, L, rfl, ⟨rfl, N⟩, hq⟩ := rm0 l s _ hw tables_1 i0 i1 s.heap s.heap.size (Nat.le_refl _) p e ha hc hk s m _ below hf ((Spec.applies_iff_loose hf).mp happ).1 ⟨rfl, State.Warmed39.refl s, rfl⟩ trivial
  refine ⟨n, _, h1, h2, h3, hpost _ _ _ _ _ _ ⟨Cond.after_iff.mpr rfl, Cond.after_iff.mpr (eq_i res_at (Term.int_eval (1)) (congrArg Value.int (own_law i0 i1))), trivial⟩ ⟨hq.1, hq.2.1, (hq.2.2.sift fun y hy => Or.inr (N y hy)).mono (by decide) (by decide)⟩⟩
theorem main_1_1 : Claimed_1_1 := comes_1 fun _ _ _ _ _ _ h hF => ⟨h.1, hF⟩
theorem main_1_2 : Claimed_1_2 := comes_1 fun _ _ _ _ _ _ h hF => ⟨h.2.1, hF⟩
end Jvm.Pilot.@@N@@
namespace Jvm.Pilot.@@N@@
open Jvm Jvm.ClassFile Sem Op Lib Jvm.Free Jvm.Stand Jvm.Pilot.@@N@@.Jvm.D
/-! MADE BY PROGRAM (witnessworld.py) out of the Statement's table words and the real class files: 7 classes; the members and pool entries that the words name. The judged class is class 1, her method 1. -/
namespace start1
open Jvm.ClassFile
def u (s : String) : CpInfo := .utf8 (stringToUtf16 s)
/-- a pool by its gaps: so many unusable entries, then the entry; so many at the end -/
def gap : Nat → List CpInfo → List CpInfo
  | 0, r => r
  | n + 1, r => .unusable :: gap n r
def poolList (es : List (Nat × CpInfo)) (last : Nat) : List CpInfo := es.foldr (fun e r => gap e.1 (e.2 :: r)) (gap last [])
def pool (es : List (Nat × CpInfo)) (last : Nat) : Array CpInfo := ⟨poolList es last⟩
def fileOf (pool : Array CpInfo) (this : Nat) (attrs : Array Attribute := #[]) (ms : Array MethodInfo := #[]) (fl : Nat := 33) (sup : Nat := 0) (ifs : Array Nat := #[]) (fds : Array FieldInfo := #[]) : ClassFile where
  minorVersion := 0
  majorVersion := 65
  constantPool := pool
  accessFlags := fl
  thisClass := this
  superClass := sup
  interfaces := ifs
  fields := fds
  methods := ms
  attributes := attrs
def plain (name : String) (sup : Option ClassId) : Class where
  name := name
  kind := .ordinary
  loader := none
  accessFlags := 33
  super := sup
  interfaces := #[]
  cf := none
  fields := #[]
  methods := #[]
  instanceTypes := #[]
  staticTypes := #[]
  resolved := #[]
  callSites := []
  init := .initialized
  statics := none
  mirror := none

def pool0 : Array CpInfo := pool [(5, u "<init>"), (0, u "()V"), (1, .class_ 10), (1, u "java/lang/Object")] 113

def k0m0 : Method := { name := "<init>", desc := "()V", sig := { parameters := [], returnType := none }, accessFlags := 1, code := none }
/-- java/lang/Object -/
def k0 : Class := { plain "java/lang/Object" none with
  accessFlags := 33
  interfaces := #[]
  cf := some (fileOf pool0 8 #[] #[{ accessFlags := 1, nameIndex := 5, descriptorIndex := 6, attributes := #[] }] 33 0 #[] #[])
  fields := #[]
  methods := #[k0m0]
  instanceTypes := #[]
  staticTypes := #[]
  resolved := Array.replicate 124 none
  statics := none }

def pool1 : Array CpInfo := pool [(2, .class_ 4), (1, u "java/lang/Object"), (0, u "<init>"), (0, u "()V"), (0, .methodref 8 9), (0, .class_ 10), (0, .nameAndType 11 12), (0, u "com/example/dry_retry/dryretry/http/MessagesHasNoContentByStatusPinLaw"), (0, u "check"), (0, u "(I)Z"), (0, .methodref 14 15), (0, .class_ 16), (0, .nameAndType 17 12), (0, u "com/example/dry_retry/dryretry/http/Messages"), (0, u "hasNoContentByStatus"), (2, u "law"), (0, u "(II)Z")] 3

def k1m0 : Method := { name := "<init>", desc := "()V", sig := { parameters := [], returnType := none }, accessFlags := 2, code := none }
def k1c1 : Code := { maxStack := 3, maxLocals := 4, code := code, exceptionTable := #[], attributes := #[] }
def k1m1 : Method := { name := "law", desc := "(II)Z", sig := { parameters := [.int, .int], returnType := some .boolean }, accessFlags := 9, code := some k1c1 }
def k1c2 : Code := { maxStack := 2, maxLocals := 2, code := method_3_code, exceptionTable := #[], attributes := #[] }
def k1m2 : Method := { name := "check", desc := "(I)Z", sig := { parameters := [.int], returnType := some .boolean }, accessFlags := 10, code := some k1c2 }
/-- com/example/dry_retry/dryretry/http/MessagesHasNoContentByStatusPinLaw -/
def k1 : Class := { plain "com/example/dry_retry/dryretry/http/MessagesHasNoContentByStatusPinLaw" (some 0) with
  accessFlags := 49
  interfaces := #[]
  cf := some (fileOf pool1 8 #[] #[{ accessFlags := 2, nameIndex := 5, descriptorIndex := 6, attributes := #[] }, { accessFlags := 9, nameIndex := 20, descriptorIndex := 21, attributes := #[] }, { accessFlags := 10, nameIndex := 11, descriptorIndex := 12, attributes := #[] }] 49 2 #[] #[])
  fields := #[]
  methods := #[k1m0, k1m1, k1m2]
  instanceTypes := #[]
  staticTypes := #[]
  resolved := Array.replicate 25 none
  statics := none }

def pool2 : Array CpInfo := pool [(2, .class_ 4), (1, u "java/lang/Object"), (0, u "<init>"), (0, u "()V"), (9, .class_ 18), (1, u "com/example/dry_retry/dryretry/http/Messages"), (0, u "hasNoContentByStatus"), (0, u "(I)Z"), (64, u "HOP_BY_HOP"), (0, u "Ljava/util/Set;")] 101

def k2m0 : Method := { name := "<init>", desc := "()V", sig := { parameters := [], returnType := none }, accessFlags := 2, code := none }
def k2c1 : Code := { maxStack := 2, maxLocals := 1, code := prog_33_method_4_code, exceptionTable := #[], attributes := #[] }
def k2m1 : Method := { name := "hasNoContentByStatus", desc := "(I)Z", sig := { parameters := [.int], returnType := some .boolean }, accessFlags := 8, code := some k2c1 }
/-- com/example/dry_retry/dryretry/http/Messages -/
def k2 : Class := { plain "com/example/dry_retry/dryretry/http/Messages" (some 0) with
  accessFlags := 32
  interfaces := #[]
  cf := some (fileOf pool2 16 #[] #[{ accessFlags := 2, nameIndex := 5, descriptorIndex := 6, attributes := #[] }, { accessFlags := 8, nameIndex := 19, descriptorIndex := 20, attributes := #[] }] 32 2 #[] #[{ accessFlags := 26, nameIndex := 85, descriptorIndex := 86, attributes := #[] }])
  fields := #[{ name := "HOP_BY_HOP", type := (.object "java/util/Set"), accessFlags := 26, slot := 0, constantValue := 0 }]
  methods := #[k2m0, k2m1]
  instanceTypes := #[]
  staticTypes := #[(.object "java/util/Set")]
  resolved := Array.replicate 188 none
  statics := none }

def pool3 : Array CpInfo := pool [(1, u "java/lang/Cloneable"), (0, .class_ 1), (0, u "java/lang/Object"), (0, .class_ 3)] 3

/-- java/lang/Cloneable -/
def k3 : Class := { plain "java/lang/Cloneable" (some 0) with
  accessFlags := 1537
  interfaces := #[]
  cf := some (fileOf pool3 2 #[] #[] 1537 4 #[] #[])
  fields := #[]
  methods := #[]
  instanceTypes := #[]
  staticTypes := #[]
  resolved := Array.replicate 8 none
  statics := none }

def pool4 : Array CpInfo := pool [(1, u "java/io/Serializable"), (0, .class_ 1), (0, u "java/lang/Object"), (0, .class_ 3)] 3

/-- java/io/Serializable -/
def k4 : Class := { plain "java/io/Serializable" (some 0) with
  accessFlags := 1537
  interfaces := #[]
  cf := some (fileOf pool4 2 #[] #[] 1537 4 #[] #[])
  fields := #[]
  methods := #[]
  instanceTypes := #[]
  staticTypes := #[]
  resolved := Array.replicate 8 none
  statics := none }

/-- the primitive byte -/
def k5 : Class := { plain "byte" none with kind := .primitive 'B', accessFlags := 0x411 }
/-- [B -/
def k6 : Class := { plain "[B" (some 0) with kind := .array 5 .byte, interfaces := #[3, 4], accessFlags := 1041 }

def heap : Heap := #[]
def classes : Array Class := #[k0, k1, k2, k3, k4, k5, k6]
def interned : List (Array UInt16 × Addr) := []
def slotsUsed : Nat := 0
def theMethod : MethodId := ⟨1, 1⟩
def args0 : Array Value := #[.int 5, .int 7]
def aboutOver (below : List Frame) : State where
  vm := { classes := classes, interned := interned.toArray }
  heap := heap
  slotsUsed := slotsUsed
  threads := #[{ frames := .invoking theMethod args0 :: below }]
def below0 : List Frame := [.native { method := ⟨0, 0⟩, args := #[] }]
def about1 : State := aboutOver below0
def p0 : Program := .bare "" "" ""
def e0 : Env := launch0.env 0 0 0
theorem w_frames : about1.frames = Frame.invoking theMethod args0 :: below0 := rfl
set_option maxRecDepth 65536 in
theorem w_args : argsFit about1.vm theMethod args0 = true := by decide +kernel
set_option maxRecDepth 65536 in
theorem w_heap : heapFits about1 = true := by decide +kernel
set_option maxRecDepth 65536 in
theorem w_runnable : about1.curStatus? = some .runnable := by decide +kernel
set_option maxRecDepth 65536 in
theorem w_alone : about1.alone = true := by decide +kernel
set_option maxRecDepth 65536 in
theorem w_named : about1.methodNamed? x = some theMethod := by decide +kernel
set_option maxRecDepth 65536 in
theorem w_hears : about1.hears theMethod below0 = true := by decide +kernel
set_option maxRecDepth 65536 in
theorem w_ripe : about1.ripe theMethod args0 below0 = true := by decide +kernel
theorem w_running : about1.status = .running := rfl
set_option maxRecDepth 65536 in
theorem w_room : about1.hasRoom e0.platform room_1 = true :=
  launch0.hasRoom_least _ room_1 (by decide +kernel) (by decide +kernel) (by decide +kernel) (by decide +kernel) (by decide +kernel) (by decide +kernel)
theorem allAtoms_all (ts : List Jvm.Cond) (a : Array Jvm.Value) (st : Jvm.State) : (allAtoms ts).before a st = ts.all (fun c => c.before a st) := by
  induction ts with
  | nil => rfl
  | cons c t ih =>
    show (Jvm.Cond.and c (allAtoms t)).before a st = _
    rw [Jvm.Cond.before_and, ih, List.all_cons]
def words1 : List Jvm.Cond := Jvm.Cond.code x code maxLocals ret :: tables_1
/-- a 'code' word, met by the world's own term for the bytes: nothing is compared byte by byte -/
theorem code_word {y : MethodName} {bytes : ByteArray} {mx : Nat} {rt : Option FieldType} {a : Array Value} {s : State} {m : MethodId} {meth : Method} {c : Code} (h1 : s.methodNamed? y = some m) (h2 : s.vm.method? m = some meth) (h3 : meth.code = some c) (h4 : c.code = bytes)
    (h5 : (c.maxLocals == mx && c.exceptionTable.isEmpty && decide (c.maxStack ≤ mostOperands) && decide (meth.sig.returnType = rt) && !meth.locks && decide (parseMethodDescriptor y.desc = some meth.sig)) = true) : (Jvm.Cond.code y bytes mx rt).before a s = true := by
  simp only [Bool.and_eq_true, beq_iff_eq, Bool.not_eq_true', decide_eq_true_eq] at h5
  obtain ⟨⟨⟨⟨⟨g1, g2⟩, g3⟩, g4⟩, g5⟩, g6⟩ := h5
  simp [Cond.before, Cond.holds, Cond.value, h1, h2, h3, h4, g1, g2, g3, g4, g5, g6]
def isCode : Jvm.Cond → Bool
  | .code _ _ _ _ => true
  | _ => false
theorem all_split {L : List Jvm.Cond} {P : Jvm.Cond → Bool} (h1 : L.all (fun c => isCode c || P c) = true) (h2 : ∀ c ∈ L.filter isCode, P c = true) : L.all P = true := by
  refine List.all_eq_true.mpr fun c hc => ?_
  have h := List.all_eq_true.mp h1 c hc
  rcases Bool.eq_false_or_eq_true (isCode c) with hi | hi
  · exact h2 c (List.mem_filter.mpr ⟨hc, hi⟩)
  · simpa [hi] using h
set_option maxRecDepth 65536 in
theorem w_c0 : (Jvm.Cond.code x code maxLocals ret).before args0 about1 = true := code_word (m := ⟨1, 1⟩) (meth := k1m1) (c := k1c1) (by decide +kernel) rfl rfl rfl (by decide +kernel)
set_option maxRecDepth 65536 in
theorem w_c1 : (Jvm.Cond.code ({ cls := "com/example/dry_retry/dryretry/http/MessagesHasNoContentByStatusPinLaw", name := "check", desc := "(I)Z" } : Jvm.MethodName) method_3_code (2 : Nat) (Option.some Jvm.ClassFile.FieldType.boolean)).before args0 about1 = true := code_word (m := ⟨1, 2⟩) (meth := k1m2) (c := k1c2) (by decide +kernel) rfl rfl rfl (by decide +kernel)
set_option maxRecDepth 65536 in
theorem w_c2 : (Jvm.Cond.code ({ cls := "com/example/dry_retry/dryretry/http/Messages", name := "hasNoContentByStatus", desc := "(I)Z" } : Jvm.MethodName) prog_33_method_4_code (1 : Nat) (Option.some Jvm.ClassFile.FieldType.boolean)).before args0 about1 = true := code_word (m := ⟨2, 1⟩) (meth := k2m1) (c := k2c1) (by decide +kernel) rfl rfl rfl (by decide +kernel)
def codes1 : List Jvm.Cond := [Jvm.Cond.code x code maxLocals ret, Jvm.Cond.code ({ cls := "com/example/dry_retry/dryretry/http/MessagesHasNoContentByStatusPinLaw", name := "check", desc := "(I)Z" } : Jvm.MethodName) method_3_code (2 : Nat) (Option.some Jvm.ClassFile.FieldType.boolean), Jvm.Cond.code ({ cls := "com/example/dry_retry/dryretry/http/Messages", name := "hasNoContentByStatus", desc := "(I)Z" } : Jvm.MethodName) prog_33_method_4_code (1 : Nat) (Option.some Jvm.ClassFile.FieldType.boolean)]
set_option maxRecDepth 65536 in
theorem codes_eq : words1.filter isCode = codes1 := rfl
theorem w_codes : ∀ c ∈ words1.filter isCode, c.before args0 about1 = true := by
  rw [codes_eq]
  intro c hc
  simp only [codes1, List.mem_cons, List.not_mem_nil, or_false] at hc
  rcases hc with rfl | rfl | rfl
  · exact w_c0
  · exact w_c1
  · exact w_c2
set_option maxRecDepth 65536 in
theorem w_t1 : words1.all (fun c => isCode c || c.before args0 about1) = true := by decide +kernel
theorem w_tables : (allAtoms (Jvm.Cond.code x code maxLocals ret :: tables_1)).before args0 about1 = true := by
  rw [allAtoms_all]
  show words1.all (fun c => c.before args0 about1) = true
  refine all_split ?_ w_codes
  rw [w_t1]
set_option maxRecDepth 65536 in
theorem w_case : (Jvm.Cond.and given_1 narrow_1).before args0 about1 = true := by decide +kernel
theorem w_applies : (headSpec (Jvm.Cond.code x code maxLocals ret :: tables_1) room_1).applies x e0.platform about1 = true :=
  (Spec.applies_iff w_frames).mpr ⟨w_running, w_runnable, w_alone, w_named, w_hears, w_ripe, w_room, w_tables⟩
theorem atStart : AtStart classFile x code maxLocals ret World_1 tables_1 room_1 Calls_1 rest_1 Pre_1 launch0 p0 e0 about1 theMethod args0 below0 :=
  ⟨lists_1, trivial, launch0.admits_env _ _ _, launch0.least_env, fairChoices_fair.cas, fairChoices_fair.clock, w_frames, w_args, w_heap, w_applies, trivial, trivial, w_case⟩
end start1
theorem witness_1 : WitnessClaimed_1 := ⟨start1.p0, start1.e0, start1.about1, start1.theMethod, start1.args0, start1.below0, start1.atStart⟩
end Jvm.Pilot.@@N@@
