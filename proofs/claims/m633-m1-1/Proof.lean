import JvmDerived
import JvmDerived.Pilot.@@N@@Statement
import JvmDerived.Pilot.@@N@@Code
set_option linter.unusedVariables false
set_option linter.unusedSimpArgs false
namespace Jvm.RoadKit
open Sem ClassFile Op Lib Jvm.Stand Jvm.Free Jvm.LawKit
section New
variable {p : Program} {l : Launch} {e : Env} {R : Room} {s : State} {m : MethodId} {args : Array Value} {below : List Frame} {meth : Method} {c : Code} {T : State} {locs : List Loc} {cells slots : Nat}
theorem retI (X : Stand p l e R s m args below meth c T locs cells slots) (hx : p.tables.exec = Jvm.exec) {pc : Nat} {Ls : Array Slot} {z : Int32} {rest : List Value} (hret : meth.sig.returnType = some .int) (hd : decode c.code pc = .ok (.ireturn, 1)) {fs : List Frame}
    (hl : ∀ (f : JFrame) (acts : List Action), f.method = m → f.locked = none → f.entered = [] → (doReturn e (T.setTop f) acts (some (.int z))).1 = T.setFrames fs) : Steps p.tables e below (T.setTop (mkF m pc Ls (.int z :: rest))) (T.setFrames fs) := by
  have hm' : T.vm.method? m = some meth := X.method'
  have hn : narrow .int (.int z) = .int z := rfl
  show Steps p.tables e below (T.setTop { method := m, pc := pc, locals := Ls, stack := _ :: rest, locked := none }) _
  jvm_step X.here [X.here.top, hx, hd, hm', hret, hn]
  first | (intro acts; rw [hl _ acts rfl rfl rfl]) | rw [hl _ _ rfl rfl rfl]
  exact Steps.refl _
end New
end Jvm.RoadKit
namespace Jvm.Pilot.@@N@@
open Jvm Jvm.ClassFile Sem Op Lib Jvm.Free Jvm.Stand Jvm.LawKit Jvm.RoadKit Bundle Jvm.Pilot.@@N@@.Jvm.D
/-! 0. what is still to be walked, as one predicate: from A the invocation comes to its end, and Q says how it ends -/
def own_Fin (p : Program) (e : Env) (below : List Frame) (s : State) (Q : Option Value → Heap → List Loc → Prop) (k n : Nat) (A : State) : Prop :=
  ∃ s₂ o, Steps p.tables e below A s₂ ∧ s₂.status = .running ∧ Ended s₂ below o ∧ ∃ v L, o = .returned v ∧ Q v s₂.heap L ∧ FrameEnd s o s₂ L k n
section Own
variable {p : Program} {l : Launch} {e : Env} {R : Room} {s : State} {m : MethodId} {args : Array Value} {below : List Frame} {meth : Method} {c : Code} {T : State} {locs : List Loc} {cells slots k n : Nat} {Q : Option Value → Heap → List Loc → Prop} {A B : State}
theorem own_pre (h : ∀ t, Steps p.tables e below B t → Steps p.tables e below A t) (q : own_Fin p e below s Q k n B) : own_Fin p e below s Q k n A := by
  obtain ⟨s₂, o, h1, h2⟩ := q; exact ⟨s₂, o, h _ h1, h2⟩
theorem own_retZ (X : Stand p l e R s m args below meth c T locs cells slots) (hx : p.tables.exec = Jvm.exec) (hlk : meth.locks = false) {pc : Nat} {Ls : Array Slot} {z : Int32} {rest : List Value} (hret : meth.sig.returnType = some .boolean) (hd : decode c.code pc = .ok (.ireturn, 1))
    (hQ : Q (some (.int (z &&& 1))) T.heap locs) (hk : cells ≤ k) (hn : slots ≤ n) : own_Fin p e below s Q k n (T.setTop (mkF m pc Ls (.int z :: rest))) := by
  obtain ⟨fs, hr, hrun, hended, hW, hsame⟩ := X.leave (v := some (.int (z &&& 1))) (fun h => by rw [hret] at h; cases h) hlk
  exact ⟨_, _, retN X hx (t := .boolean) hret (by simp) hd hr, hrun, hended, _, _, rfl, hQ, ⟨_, rfl⟩, hW, hsame.mono hk hn⟩
theorem own_retI (X : Stand p l e R s m args below meth c T locs cells slots) (hx : p.tables.exec = Jvm.exec) (hlk : meth.locks = false) {pc : Nat} {Ls : Array Slot} {z : Int32} {rest : List Value} (hret : meth.sig.returnType = some .int) (hd : decode c.code pc = .ok (.ireturn, 1))
    (hQ : Q (some (.int z)) T.heap locs) (hk : cells ≤ k) (hn : slots ≤ n) : own_Fin p e below s Q k n (T.setTop (mkF m pc Ls (.int z :: rest))) := by
  obtain ⟨fs, hr, hrun, hended, hW, hsame⟩ := X.leave (v := some (.int z)) (fun h => by rw [hret] at h; cases h) hlk
  exact ⟨_, _, retI X hx hret hd hr, hrun, hended, _, _, rfl, hQ, ⟨_, rfl⟩, hW, hsame.mono hk hn⟩
theorem own_retJ (X : Stand p l e R s m args below meth c T locs cells slots) (hx : p.tables.exec = Jvm.exec) (hlk : meth.locks = false) {pc : Nat} {Ls : Array Slot} {z : Int64} (hret : meth.sig.returnType = some .long) (hd : decode c.code pc = .ok (.lreturn, 1))
    (hQ : Q (some (.long z)) T.heap locs) (hk : cells ≤ k) (hn : slots ≤ n) : own_Fin p e below s Q k n (T.setTop (mkF m pc Ls [.long z])) := by
  obtain ⟨fs, hr, hrun, hended, hW, hsame⟩ := X.leave (v := some (.long z)) (fun h => by rw [hret] at h; cases h) hlk
  exact ⟨_, _, X.lreturnOut hx hret hd hr, hrun, hended, _, _, rfl, hQ, ⟨_, rfl⟩, hW, hsame.mono hk hn⟩
theorem own_retV (X : Stand p l e R s m args below meth c T locs cells slots) (hx : p.tables.exec = Jvm.exec) (hlk : meth.locks = false) {pc : Nat} {Ls : Array Slot} (hret : meth.sig.returnType = none) (hd : decode c.code pc = .ok (.return_, 1))
    (hQ : Q none T.heap locs) (hk : cells ≤ k) (hn : slots ≤ n) : own_Fin p e below s Q k n (T.setTop (mkF m pc Ls [])) := by
  obtain ⟨fs, hr, hrun, hended, hW, hsame⟩ := X.leave (v := none) (fun _ => rfl) hlk
  exact ⟨_, _, X.returnOut hx hret hd hr, hrun, hended, _, _, rfl, hQ, ⟨_, rfl⟩, hW, hsame.mono hk hn⟩
theorem own_at {v : Option Value} {h h' : Heap} {L : List Loc} (e : h' = h) (q : Q v h L) : Q v h' L := e ▸ q
theorem own_someI {r z : Int32} (h : r = z) : some (Value.int z) = some (Value.int r) := by rw [h]
theorem own_someJ {r z : Int64} (h : r = z) : some (Value.long z) = some (Value.long r) := by rw [h]
end Own
theorem d2_0 : decode jdk_30_method_1_code 0 = .ok (.aload_n 0, 1) := by decide +kernel
theorem d2_1 : decode jdk_30_method_1_code 1 = .ok (.invokespecial 1, 3) := by decide +kernel
theorem d2_4 : decode jdk_30_method_1_code 4 = .ok (.return_, 1) := by decide +kernel
theorem pn_2 : plainName "java/lang/Record" = true := by first | (simp [plainName, overriddenIn]; done) | decide +kernel
theorem ef_2 (m : MethodId) (a1 : Addr) : entryFrame m #[(.ref a1)] 1 = mkF m 0 #[.val (.ref a1)] [] := by first | (simp [entryFrame, mkF, argsToLocals, Value.category]; done) | rfl
def Q2 (Z : State) (a1 : Addr) (h0 : Heap) (n0 : Nat) (v : Option Value) (h : Heap) (L : List Loc) : Prop := v = none ∧ Fr n0 L ∧ h = h0
set_option maxRecDepth 65536 in
set_option maxHeartbeats 40000000 in
theorem rm2 (l : Launch) (Z : State) (a0 : Array Value) (hw : ∀ d ∈ tables_1, d.before a0 Z = true) (ws : List Jvm.Cond) (a1 : Addr) (h0 : Heap) (n0 : Nat) (Z0 : n0 ≤ h0.size) :
    MetFree l (⟨"java/lang/Record", "<init>", "()V"⟩ : MethodName) (head1 (Jvm.Cond.code (⟨"java/lang/Record", "<init>", "()V"⟩ : MethodName) jdk_30_method_1_code 1 none :: ws) ({ frames := 1, cells := 0, slots := 0, locals := 12 } : Room)) (fun a U => a = #[(.ref a1)] ∧ Z.Warmed39 U.vm ∧ U.heap = h0) (fun _ _ _ _ _ => True) (fun _ U o U' => ∃ v L, o = .returned v ∧ Q2 Z a1 h0 n0 v U'.heap L ∧ FrameEnd U o U' L ({ frames := 1, cells := 0, slots := 0, locals := 12 } : Room).cells ({ frames := 1, cells := 0, slots := 0, locals := 12 } : Room).slots) := by
  refine MetFree.of_bodySF (plainFor_of_name pn_2) hisR ?_
  intro p e s m args below meth c s₁ Bd hml0 hP hK
  obtain ⟨rfl, hZ, hh⟩ := hP
  have hx := Bd.exec
  have hby := Bd.bytes
  have hml : c.maxLocals = 1 := hml0
  have hlk : meth.locks = false := BodyLoose.notSynchronized Bd
  have hown : s.vm.findClass "java/lang/Record" = some m.cls := findClass_of_methodNamed Bd.named
  have hnm := (name_of_methodNamed Bd.named Bd.method).1
  have X0 : Stand p l e ({ frames := 1, cells := 0, slots := 0, locals := 12 } : Room) s m #[(.ref a1)] below meth c s₁ [] 0 0 := Stand.of_body Bd
  have e0 : s₁.heap = h0 := by rw [← hh, Bd.state]; rfl
  have N0 := Fr.nil n0
  have pre0 : ∀ t, Steps p.tables e below (s₁.setTop (mkF m 0 #[.val (.ref a1)] [])) t → Steps p.tables e below (s₁.setTop (entryFrame m #[(.ref a1)] 1)) t := fun t k => castTop (ef_2 m a1) k
  have g_0 : own_Fin p e below s (Q2 Z a1 h0 n0) ({ frames := 1, cells := 0, slots := 0, locals := 12 } : Room).cells ({ frames := 1, cells := 0, slots := 0, locals := 12 } : Room).slots (s₁.setTop (mkF m 0 #[.val (.ref a1)] [])) := by
    refine own_pre (B := s₁.setTop (mkF m 1 #[.val (.ref a1)] [(.ref a1)])) (fun t k => XS.aloadN X0.here hx rfl (hb hby d2_0) rfl rfl k) ?_
    obtain ⟨T1, X1, e1, st1⟩ := initO X0 hx hZ hown (hw _ (List.mem_of_getElem? (i := 12) rfl)) (hw _ (List.mem_of_getElem? (i := 13) rfl)) (hw _ (List.mem_of_getElem? (i := 14) rfl)) e0 (g := (mkF m 1 #[.val (.ref a1)] [(.ref a1)])) rfl (by rw [hml]; rfl) rfl (hb hby d2_1) (by decide) (W := 0) (by show 2 * 0 + _ ≤ _; exact Nat.le_of_eq rfl) (by decide)
    refine own_pre (B := T1.setTop (mkF m 4 #[.val (.ref a1)] [])) st1 ?_
    exact own_retV X1 hx hlk Bd.returns (hb hby d2_4) (⟨rfl, N0, e1⟩) (by decide) (by decide)
  exact own_pre pre0 g_0
theorem d1_0 : decode prog_91_method_1_code 0 = .ok (.aload_n 0, 1) := by decide +kernel
theorem d1_1 : decode prog_91_method_1_code 1 = .ok (.invokespecial 1, 3) := by decide +kernel
theorem d1_4 : decode prog_91_method_1_code 4 = .ok (.aload_n 0, 1) := by decide +kernel
theorem d1_5 : decode prog_91_method_1_code 5 = .ok (.lload_n 1, 1) := by decide +kernel
theorem d1_6 : decode prog_91_method_1_code 6 = .ok (.putfield 7, 3) := by decide +kernel
theorem d1_9 : decode prog_91_method_1_code 9 = .ok (.aload_n 0, 1) := by decide +kernel
theorem d1_10 : decode prog_91_method_1_code 10 = .ok (.lload_n 3, 1) := by decide +kernel
theorem d1_11 : decode prog_91_method_1_code 11 = .ok (.putfield 13, 3) := by decide +kernel
theorem d1_14 : decode prog_91_method_1_code 14 = .ok (.return_, 1) := by decide +kernel
theorem pn_1 : plainName "com/example/quillon/quillon/engine/Paging" = true := by first | (simp [plainName, overriddenIn]; done) | decide +kernel
theorem pd1_0 : parseMethodDescriptor "()V" = some ⟨[], none⟩ := by decide +kernel
theorem ef_1 (m : MethodId) (a1 : Addr) (q2 : Int64) (q3 : Int64) : entryFrame m #[(.ref a1), (.long q2), (.long q3)] 5 = mkF m 0 #[.val (.ref a1), .val (.long q2), .second, .val (.long q3), .second] [] := by first | (simp [entryFrame, mkF, argsToLocals, Value.category]; done) | rfl
def Q1 (Z : State) (a1 : Addr) (q2 : Int64) (q3 : Int64) (u1 : Value) (u2 : Value) (h0 : Heap) (n0 : Nat) (v : Option Value) (h : Heap) (L : List Loc) : Prop := v = none ∧ Fr n0 L ∧ Keep h0 h [a1] ∧ Exa Z h a1 "com/example/quillon/quillon/engine/Paging" ∧ Fld Z h a1 "com/example/quillon/quillon/engine/Paging" "offset" "J" (.long q2) ∧ Fld Z h a1 "com/example/quillon/quillon/engine/Paging" "limit" "J" (.long q3)
set_option maxRecDepth 65536 in
set_option maxHeartbeats 40000000 in
theorem rm1 (l : Launch) (Z : State) (a0 : Array Value) (hw : ∀ d ∈ tables_1, d.before a0 Z = true) (ws : List Jvm.Cond) (a1 : Addr) (q2 : Int64) (q3 : Int64) (u1 : Value) (u2 : Value) (h0 : Heap) (n0 : Nat) (Z0 : n0 ≤ h0.size) (Ea : Exa Z h0 a1 "com/example/quillon/quillon/engine/Paging") (Fo : Fld Z h0 a1 "com/example/quillon/quillon/engine/Paging" "offset" "J" u1) (Fl : Fld Z h0 a1 "com/example/quillon/quillon/engine/Paging" "limit" "J" u2) (ga : n0 ≤ a1) :
    MetFree l (⟨"com/example/quillon/quillon/engine/Paging", "<init>", "(JJ)V"⟩ : MethodName) (head1 (Jvm.Cond.code (⟨"com/example/quillon/quillon/engine/Paging", "<init>", "(JJ)V"⟩ : MethodName) prog_91_method_1_code 5 none :: ws) ({ frames := 2, cells := 0, slots := 0, locals := 24 } : Room)) (fun a U => a = #[(.ref a1), (.long q2), (.long q3)] ∧ Z.Warmed39 U.vm ∧ U.heap = h0) (fun _ _ _ _ _ => True) (fun _ U o U' => ∃ v L, o = .returned v ∧ Q1 Z a1 q2 q3 u1 u2 h0 n0 v U'.heap L ∧ FrameEnd U o U' L ({ frames := 2, cells := 0, slots := 0, locals := 24 } : Room).cells ({ frames := 2, cells := 0, slots := 0, locals := 24 } : Room).slots) := by
  refine MetFree.of_bodySF (plainFor_of_name pn_1) hisR ?_
  intro p e s m args below meth c s₁ Bd hml0 hP hK
  obtain ⟨rfl, hZ, hh⟩ := hP
  have hx := Bd.exec
  have hby := Bd.bytes
  have hml : c.maxLocals = 5 := hml0
  have hlk : meth.locks = false := BodyLoose.notSynchronized Bd
  have hown : s.vm.findClass "com/example/quillon/quillon/engine/Paging" = some m.cls := findClass_of_methodNamed Bd.named
  have hnm := (name_of_methodNamed Bd.named Bd.method).1
  have X0 : Stand p l e ({ frames := 2, cells := 0, slots := 0, locals := 24 } : Room) s m #[(.ref a1), (.long q2), (.long q3)] below meth c s₁ [] 0 0 := Stand.of_body Bd
  have e0 : s₁.heap = h0 := by rw [← hh, Bd.state]; rfl
  have N0 := Fr.nil n0
  have pre0 : ∀ t, Steps p.tables e below (s₁.setTop (mkF m 0 #[.val (.ref a1), .val (.long q2), .second, .val (.long q3), .second] [])) t → Steps p.tables e below (s₁.setTop (entryFrame m #[(.ref a1), (.long q2), (.long q3)] 5)) t := fun t k => castTop (ef_1 m a1 q2 q3) k
  have g_0 : own_Fin p e below s (Q1 Z a1 q2 q3 u1 u2 h0 n0) ({ frames := 2, cells := 0, slots := 0, locals := 24 } : Room).cells ({ frames := 2, cells := 0, slots := 0, locals := 24 } : Room).slots (s₁.setTop (mkF m 0 #[.val (.ref a1), .val (.long q2), .second, .val (.long q3), .second] [])) := by
    refine own_pre (B := s₁.setTop (mkF m 1 #[.val (.ref a1), .val (.long q2), .second, .val (.long q3), .second] [(.ref a1)])) (fun t k => XS.aloadN X0.here hx rfl (hb hby d1_0) rfl rfl k) ?_
    obtain ⟨_, _, ⟨T1, L1, k1, n1⟩, -, X1, ⟨Lc1, hQ1, l1, y1, z1⟩, st1⟩ := X0.specialBack hx (y := (⟨"java/lang/Record", "<init>", "()V"⟩ : MethodName)) rfl hown (mvT hZ (hw _ (List.mem_of_getElem? (i := 7) rfl))) (mvT hZ (hw _ (List.mem_of_getElem? (i := 8) rfl))) (mvT hZ (hw _ (List.mem_of_getElem? (i := 11) rfl))) (by decide) (backOf (W := 0) (rm2 l Z a0 hw [] a1 h0 n0 Z0) hZ (hw _ (List.mem_of_getElem? (i := 11) rfl)) (hw _ (List.mem_of_getElem? (i := 10) rfl)) (by decide) (by decide)) (g := (mkF m 1 #[.val (.ref a1), .val (.long q2), .second, .val (.long q3), .second] [(.ref a1)])) rfl (by rw [hml]; rfl) (Steps.refl _) (a := a1) (argsL := []) (rest := []) (lenOf pd1_0 rfl) rfl (by show 2 * 0 + _ ≤ _; exact Nat.le_of_eq rfl) (hb hby d1_1) (fun _ _ => ⟨rfl, e0, (by decide : 0 + 0 ≤ _), (by decide : 0 + 0 ≤ _)⟩)
    dsimp only [Pt.U, Pt.locs, Pt.cells, Pt.slots] at X1 l1 y1 z1 st1 hQ1
    subst l1 y1 z1
    obtain ⟨rfl, Nq1, e1⟩ := hQ1
    have N1 := Fr.app N0 Nq1
    have eh1 : T1.heap = h0 := e1
    refine own_pre (B := T1.setTop (mkF m 4 #[.val (.ref a1), .val (.long q2), .second, .val (.long q3), .second] [])) (fun t q => st1.trans q) ?_
    refine own_pre (B := T1.setTop (mkF m 5 #[.val (.ref a1), .val (.long q2), .second, .val (.long q3), .second] [(.ref a1)])) (fun t k => XS.aloadN X1.here hx rfl (hb hby d1_4) rfl rfl k) ?_
    refine own_pre (B := T1.setTop (mkF m 6 #[.val (.ref a1), .val (.long q2), .second, .val (.long q3), .second] [(.long q2), (.ref a1)])) (fun t k => XS.lloadN X1.here hx rfl (hb hby d1_5) rfl k) ?_
    obtain ⟨T2, h2, X2, e2, W2, st2⟩ := putF X1 hx hZ hown (host := "") (Or.inl (hw _ (List.mem_of_getElem? (i := 15) rfl))) Via.refl eh1 Fo Ea (Or.inr ⟨(hw _ (List.mem_of_getElem? (i := 16) rfl)), rfl, hnm⟩) (hw _ (List.mem_of_getElem? (i := 2) rfl)) (ty := .long) (by decide) rfl rfl (g := (mkF m 6 #[.val (.ref a1), .val (.long q2), .second, .val (.long q3), .second] [(.long q2), (.ref a1)])) rfl rfl (hb hby d1_6)
    have N2 := Fr.snoc X2 N1 ga
    have ZH2 : n0 ≤ h2.size := by rw [W2.size]; exact Z0
    have Foffset2 := Fo.same W2
    have Flimit2 := Fl.other W2 (Or.inr (slot_ne (Or.inr (hw _ (List.mem_of_getElem? (i := 18) rfl))) (Or.inr (hw _ (List.mem_of_getElem? (i := 16) rfl))) (by decide) (t := .long) (t' := .long) (by decide) (by decide)))
    have Ex2 := Ea.wr W2
    have K2 : Keep h0 h2 [a1] := Keep.wr (Keep.refl h0 _) W2 (Or.inl (List.mem_of_getElem? (i := 0) rfl))
    refine own_pre (B := T2.setTop (mkF m 9 #[.val (.ref a1), .val (.long q2), .second, .val (.long q3), .second] [])) st2 ?_
    refine own_pre (B := T2.setTop (mkF m 10 #[.val (.ref a1), .val (.long q2), .second, .val (.long q3), .second] [(.ref a1)])) (fun t k => XS.aloadN X2.here hx rfl (hb hby d1_9) rfl rfl k) ?_
    refine own_pre (B := T2.setTop (mkF m 11 #[.val (.ref a1), .val (.long q2), .second, .val (.long q3), .second] [(.long q3), (.ref a1)])) (fun t k => XS.lloadN X2.here hx rfl (hb hby d1_10) rfl k) ?_
    obtain ⟨T3, h3, X3, e3, W3, st3⟩ := putF X2 hx hZ hown (host := "") (Or.inl (hw _ (List.mem_of_getElem? (i := 17) rfl))) Via.refl e2 Flimit2 Ex2 (Or.inr ⟨(hw _ (List.mem_of_getElem? (i := 18) rfl)), rfl, hnm⟩) (hw _ (List.mem_of_getElem? (i := 2) rfl)) (ty := .long) (by decide) rfl rfl (g := (mkF m 11 #[.val (.ref a1), .val (.long q2), .second, .val (.long q3), .second] [(.long q3), (.ref a1)])) rfl rfl (hb hby d1_11)
    have N3 := Fr.snoc X3 N2 ga
    have ZH3 : n0 ≤ h3.size := by rw [W3.size]; exact ZH2
    have Flimit3 := Flimit2.same W3
    have Foffset3 := Foffset2.other W3 (Or.inr (slot_ne (Or.inr (hw _ (List.mem_of_getElem? (i := 16) rfl))) (Or.inr (hw _ (List.mem_of_getElem? (i := 18) rfl))) (by decide) (t := .long) (t' := .long) (by decide) (by decide)))
    have Ex3 := Ex2.wr W3
    have K3 : Keep h0 h3 [a1] := Keep.wr K2 W3 (Or.inl (List.mem_of_getElem? (i := 0) rfl))
    refine own_pre (B := T3.setTop (mkF m 14 #[.val (.ref a1), .val (.long q2), .second, .val (.long q3), .second] [])) st3 ?_
    exact own_retV X3 hx hlk Bd.returns (hb hby d1_14) (own_at e3 ⟨rfl, N3, K3, Ex3, Foffset3, Flimit3⟩) (by decide) (by decide)
  exact own_pre pre0 g_0
theorem d4_0 : decode prog_91_method_5_code 0 = .ok (.aload_n 0, 1) := by decide +kernel
theorem d4_1 : decode prog_91_method_5_code 1 = .ok (.getfield 7, 3) := by decide +kernel
theorem d4_4 : decode prog_91_method_5_code 4 = .ok (.aload_n 0, 1) := by decide +kernel
theorem d4_5 : decode prog_91_method_5_code 5 = .ok (.getfield 13, 3) := by decide +kernel
theorem d4_8 : decode prog_91_method_5_code 8 = .ok (.ladd, 1) := by decide +kernel
theorem d4_9 : decode prog_91_method_5_code 9 = .ok (.lconst 0, 1) := by decide +kernel
theorem d4_10 : decode prog_91_method_5_code 10 = .ok (.lcmp, 1) := by decide +kernel
theorem d4_11 : decode prog_91_method_5_code 11 = .ok (.ifCond .ge 9, 3) := by decide +kernel
theorem d4_14 : decode prog_91_method_5_code 14 = .ok (.ldc2_w 82, 3) := by decide +kernel
theorem d4_17 : decode prog_91_method_5_code 17 = .ok (.goto 12, 3) := by decide +kernel
theorem d4_20 : decode prog_91_method_5_code 20 = .ok (.aload_n 0, 1) := by decide +kernel
theorem d4_21 : decode prog_91_method_5_code 21 = .ok (.getfield 7, 3) := by decide +kernel
theorem d4_24 : decode prog_91_method_5_code 24 = .ok (.aload_n 0, 1) := by decide +kernel
theorem d4_25 : decode prog_91_method_5_code 25 = .ok (.getfield 13, 3) := by decide +kernel
theorem d4_28 : decode prog_91_method_5_code 28 = .ok (.ladd, 1) := by decide +kernel
theorem d4_29 : decode prog_91_method_5_code 29 = .ok (.lreturn, 1) := by decide +kernel
theorem pn_4 : plainName "com/example/quillon/quillon/engine/Paging" = true := by first | (simp [plainName, overriddenIn]; done) | decide +kernel
theorem ef_4 (m : MethodId) (a1 : Addr) : entryFrame m #[(.ref a1)] 1 = mkF m 0 #[.val (.ref a1)] [] := by first | (simp [entryFrame, mkF, argsToLocals, Value.category]; done) | rfl
def f4_29 (w1 : Int64) (w2 : Int64) (t0 : Int64) : Int64 := t0
def f4_0 (w1 : Int64) (w2 : Int64) : Int64 := (if (lcmpW (w1 + w2) (0 : Int64)) < (0 : Int32) then (f4_29 w1 w2 (9223372036854775807 : Int64)) else (f4_29 w1 w2 (w1 + w2)))
def Q4 (a1 : Addr) (w1 : Int64) (w2 : Int64) (h0 : Heap) (n0 : Nat) (v : Option Value) (h : Heap) (L : List Loc) : Prop := v = some (.long (f4_0 w1 w2)) ∧ Fr n0 L ∧ h = h0
set_option maxRecDepth 65536 in
set_option maxHeartbeats 40000000 in
theorem rm4 (l : Launch) (Z : State) (a0 : Array Value) (hw : ∀ d ∈ tables_1, d.before a0 Z = true) (ws : List Jvm.Cond) (a1 : Addr) (w1 : Int64) (w2 : Int64) (h0 : Heap) (n0 : Nat) (Z0 : n0 ≤ h0.size) (Fo : Fld Z h0 a1 "com/example/quillon/quillon/engine/Paging" "offset" "J" (.long w1)) (Fl : Fld Z h0 a1 "com/example/quillon/quillon/engine/Paging" "limit" "J" (.long w2)) :
    MetFree l (⟨"com/example/quillon/quillon/engine/Paging", "end", "()J"⟩ : MethodName) (head1 (Jvm.Cond.code (⟨"com/example/quillon/quillon/engine/Paging", "end", "()J"⟩ : MethodName) prog_91_method_5_code 1 (some .long) :: ws) ({ frames := 0, cells := 0, slots := 0, locals := 0 } : Room)) (fun a U => a = #[(.ref a1)] ∧ Z.Warmed39 U.vm ∧ U.heap = h0) (fun _ _ _ _ _ => True) (fun _ U o U' => ∃ v L, o = .returned v ∧ Q4 a1 w1 w2 h0 n0 v U'.heap L ∧ FrameEnd U o U' L ({ frames := 0, cells := 0, slots := 0, locals := 0 } : Room).cells ({ frames := 0, cells := 0, slots := 0, locals := 0 } : Room).slots) := by
  refine MetFree.of_bodySF (plainFor_of_name pn_4) hisR ?_
  intro p e s m args below meth c s₁ Bd hml0 hP hK
  obtain ⟨rfl, hZ, hh⟩ := hP
  have hx := Bd.exec
  have hby := Bd.bytes
  have hml : c.maxLocals = 1 := hml0
  have hlk : meth.locks = false := BodyLoose.notSynchronized Bd
  have hown : s.vm.findClass "com/example/quillon/quillon/engine/Paging" = some m.cls := findClass_of_methodNamed Bd.named
  have X0 : Stand p l e ({ frames := 0, cells := 0, slots := 0, locals := 0 } : Room) s m #[(.ref a1)] below meth c s₁ [] 0 0 := Stand.of_body Bd
  have e0 : s₁.heap = h0 := by rw [← hh, Bd.state]; rfl
  have N0 := Fr.nil n0
  have Zs0 : n0 ≤ s₁.heap.size := by rw [e0]; exact Z0
  have pre0 : ∀ t, Steps p.tables e below (s₁.setTop (mkF m 0 #[.val (.ref a1)] [])) t → Steps p.tables e below (s₁.setTop (entryFrame m #[(.ref a1)] 1)) t := fun t k => castTop (ef_4 m a1) k
  have hnm := (name_of_methodNamed Bd.named Bd.method).1
  have g_29 : ∀ (T : State) (locs : List Loc) (X : Stand p l e ({ frames := 0, cells := 0, slots := 0, locals := 0 } : Room) s m #[(.ref a1)] below meth c T locs 0 0) (eT : T.heap = h0) (N : Fr n0 locs) (t0 : Int64)  (r : Int64), r = f4_29 w1 w2 t0 → own_Fin p e below s (fun v h L => v = some (.long r) ∧ Fr n0 L ∧ h = h0) ({ frames := 0, cells := 0, slots := 0, locals := 0 } : Room).cells ({ frames := 0, cells := 0, slots := 0, locals := 0 } : Room).slots (T.setTop (mkF m 29 #[.val (.ref a1)] [(.long t0)])) := by
    intro T locs X eT N t0  r hr
    have hr : r = t0 := hr
    exact own_retJ X hx hlk Bd.returns (hb hby d4_29) ⟨own_someJ hr, N, eT⟩ (by decide) (by decide)
  have g_0 : ∀ r, r = f4_0 w1 w2 → own_Fin p e below s (fun v h L => v = some (.long r) ∧ Fr n0 L ∧ h = h0) ({ frames := 0, cells := 0, slots := 0, locals := 0 } : Room).cells ({ frames := 0, cells := 0, slots := 0, locals := 0 } : Room).slots (s₁.setTop (mkF m 0 #[.val (.ref a1)] [])) := by
    intro r hr
    have hr : r = (if (lcmpW (w1 + w2) (0 : Int64)) < (0 : Int32) then (f4_29 w1 w2 (9223372036854775807 : Int64)) else (f4_29 w1 w2 (w1 + w2))) := hr
    refine own_pre (B := s₁.setTop (mkF m 1 #[.val (.ref a1)] [(.ref a1)])) (fun t k => XS.aloadN X0.here hx rfl (hb hby d4_0) rfl rfl k) ?_
    obtain ⟨T1, X1, e1, st1⟩ := getF X0 hx hZ hown (host := "") (Or.inl (hw _ (List.mem_of_getElem? (i := 15) rfl))) Via.refl e0 Fo (g := (mkF m 1 #[.val (.ref a1)] [(.ref a1)])) rfl rfl (hb hby d4_1)
    refine own_pre (B := T1.setTop (mkF m 4 #[.val (.ref a1)] [(.long w1)])) st1 ?_
    refine own_pre (B := T1.setTop (mkF m 5 #[.val (.ref a1)] [(.ref a1), (.long w1)])) (fun t k => XS.aloadN X1.here hx rfl (hb hby d4_4) rfl rfl k) ?_
    obtain ⟨T2, X2, e2, st2⟩ := getF X1 hx hZ hown (host := "") (Or.inl (hw _ (List.mem_of_getElem? (i := 17) rfl))) Via.refl e1 Fl (g := (mkF m 5 #[.val (.ref a1)] [(.ref a1), (.long w1)])) rfl rfl (hb hby d4_5)
    refine own_pre (B := T2.setTop (mkF m 8 #[.val (.ref a1)] [(.long w2), (.long w1)])) st2 ?_
    refine own_pre (B := T2.setTop (mkF m 9 #[.val (.ref a1)] [(.long (w1 + w2))])) (fun t k => XS.ladd X2.here hx rfl (hb hby d4_8) rfl k) ?_
    refine own_pre (B := T2.setTop (mkF m 10 #[.val (.ref a1)] [(.long (0 : Int64)), (.long (w1 + w2))])) (fun t k => XS.lconst X2.here hx rfl (hb hby d4_9) k) ?_
    refine own_pre (B := T2.setTop (mkF m 11 #[.val (.ref a1)] [(.int (lcmpW (w1 + w2) (0 : Int64)))])) (fun t k => XS.lcmp X2.here hx rfl (hb hby d4_10) rfl k) ?_
    by_cases hc3 : (lcmpW (w1 + w2) (0 : Int64)) < (0 : Int32)
    · have hr4 := hr.trans (if_pos hc3)
      refine own_pre (B := T2.setTop (mkF m 14 #[.val (.ref a1)] [])) (fun t k => XS.ifNo X2.here hx rfl (hb hby d4_11) rfl ((if0 _ _).trans (tlt hc3).2.1) k) ?_
      refine own_pre (B := T2.setTop (mkF m 17 #[.val (.ref a1)] [(.long (9223372036854775807 : Int64))])) (fun t k => X2.ldc2Long hx hown (mvT hZ (hw _ (List.mem_of_getElem? (i := 25) rfl))) (g := (mkF m 14 #[.val (.ref a1)] [])) rfl (hb hby d4_14) _ k) ?_
      refine own_pre (B := T2.setTop (mkF m 29 #[.val (.ref a1)] [(.long (9223372036854775807 : Int64))])) (fun t k => XS.goto X2.here hx rfl (pc0 := 17) (pc' := 29) rfl (hb hby d4_17) (by decide) (by decide) k) ?_
      exact g_29 T2 _ X2 e2 N0 (9223372036854775807 : Int64) _ hr4
    · have hr5 := hr.trans (if_neg hc3)
      refine own_pre (B := T2.setTop (mkF m 20 #[.val (.ref a1)] [])) (fun t k => XS.ifYes X2.here hx rfl (pc0 := 11) (pc' := 20) rfl (hb hby d4_11) rfl ((if0 _ _).trans (flt hc3).2.1) (by decide) (by decide) k) ?_
      refine own_pre (B := T2.setTop (mkF m 21 #[.val (.ref a1)] [(.ref a1)])) (fun t k => XS.aloadN X2.here hx rfl (hb hby d4_20) rfl rfl k) ?_
      obtain ⟨T6, X6, e6, st6⟩ := getF X2 hx hZ hown (host := "") (Or.inl (hw _ (List.mem_of_getElem? (i := 15) rfl))) Via.refl e2 Fo (g := (mkF m 21 #[.val (.ref a1)] [(.ref a1)])) rfl rfl (hb hby d4_21)
      refine own_pre (B := T6.setTop (mkF m 24 #[.val (.ref a1)] [(.long w1)])) st6 ?_
      refine own_pre (B := T6.setTop (mkF m 25 #[.val (.ref a1)] [(.ref a1), (.long w1)])) (fun t k => XS.aloadN X6.here hx rfl (hb hby d4_24) rfl rfl k) ?_
      obtain ⟨T7, X7, e7, st7⟩ := getF X6 hx hZ hown (host := "") (Or.inl (hw _ (List.mem_of_getElem? (i := 17) rfl))) Via.refl e6 Fl (g := (mkF m 25 #[.val (.ref a1)] [(.ref a1), (.long w1)])) rfl rfl (hb hby d4_25)
      refine own_pre (B := T7.setTop (mkF m 28 #[.val (.ref a1)] [(.long w2), (.long w1)])) st7 ?_
      refine own_pre (B := T7.setTop (mkF m 29 #[.val (.ref a1)] [(.long (w1 + w2))])) (fun t k => XS.ladd X7.here hx rfl (hb hby d4_28) rfl k) ?_
      exact g_29 T7 _ X7 e7 N0 (w1 + w2) _ hr5
  exact own_pre pre0 (g_0 _ rfl)
theorem pn_0 : plainName "com/example/quillon/quillon/engine/PagingEndPinLaw" = true := by first | (simp [plainName, overriddenIn]; done) | decide +kernel
theorem pd0_0 : parseMethodDescriptor "(JJ)V" = some ⟨[.long, .long], none⟩ := by decide +kernel
theorem pd0_1 : parseMethodDescriptor "()J" = some ⟨[], some .long⟩ := by decide +kernel
theorem ef_0 (m : MethodId) (q0 : Int64) (q1 : Int64) (p2 : Int32) : entryFrame m #[(.long q0), (.long q1), (.int p2)] maxLocals = mkF m 0 #[.val (.long q0), .second, .val (.long q1), .second, .val (.int p2), .unset, .unset, .unset, .unset, .unset, .unset, .unset, .unset] [] := by first | (simp [entryFrame, mkF, argsToLocals, Value.category, maxLocals]; done) | rfl
def f0_155 (q0 : Int64) (q1 : Int64) (p2 : Int32) (j5 : Int64) (i7 : Int32) (j8 : Int64) (j10 : Int64) (t0 : Int32) : Int32 := (t0 &&& 1)
def f0_124 (q0 : Int64) (q1 : Int64) (p2 : Int32) (j5 : Int64) (i7 : Int32) (j8 : Int64) (t0 : Int64) : Int32 := (if (lcmpW (f4_0 j5 j8) t0) = (0 : Int32) then (f0_155 q0 q1 p2 j5 i7 j8 t0 (1 : Int32)) else (f0_155 q0 q1 p2 j5 i7 j8 t0 (0 : Int32)))
def f0_101 (q0 : Int64) (q1 : Int64) (p2 : Int32) (j5 : Int64) (i7 : Int32) (j8 : Int64) : Int32 := (if (0 : Int32) < (lcmpW j5 ((9223372036854775807 : Int64) - j8)) then (f0_124 q0 q1 p2 j5 i7 j8 (9223372036854775807 : Int64)) else (f0_124 q0 q1 p2 j5 i7 j8 (j5 + j8)))
def f0_22 (q0 : Int64) (q1 : Int64) (p2 : Int32) (t0 : Int64) : Int32 := (if (p2 &&& (3 : Int32)) = (0 : Int32) then (f0_101 q0 q1 p2 t0 (p2 &&& (3 : Int32)) (q1 &&& (9223372036854775807 : Int64))) else (if (p2 &&& (3 : Int32)) = (1 : Int32) then (f0_101 q0 q1 p2 t0 (p2 &&& (3 : Int32)) (((((9223372036854775807 : Int64) - t0) + (((p2 >>> ((2 : Int32) &&& 31)) &&& (3 : Int32)).toInt64)) - (1 : Int64)) &&& (9223372036854775807 : Int64))) else (if (p2 &&& (3 : Int32)) = (2 : Int32) then (f0_101 q0 q1 p2 t0 (p2 &&& (3 : Int32)) (9223372036854775807 : Int64)) else (f0_101 q0 q1 p2 t0 (p2 &&& (3 : Int32)) (q1 &&& (255 : Int64))))))
def f0_0 (q0 : Int64) (q1 : Int64) (p2 : Int32) : Int32 := (if ((p2 >>> ((4 : Int32) &&& 31)) &&& (1 : Int32)) = (0 : Int32) then (f0_22 q0 q1 p2 (q0 &&& (9223372036854775807 : Int64))) else (f0_22 q0 q1 p2 (q0 &&& (255 : Int64))))
def Q0 (q0 : Int64) (q1 : Int64) (p2 : Int32) (h0 : Heap) (n0 : Nat) (v : Option Value) (h : Heap) (L : List Loc) : Prop := v = some (.int (f0_0 q0 q1 p2)) ∧ Fr n0 L
set_option maxRecDepth 65536 in
set_option maxHeartbeats 40000000 in
theorem rm0 (l : Launch) (Z : State) (a0 : Array Value) (hw : ∀ d ∈ tables_1, d.before a0 Z = true) (ws : List Jvm.Cond) (q0 : Int64) (q1 : Int64) (p2 : Int32) (h0 : Heap) (n0 : Nat) (Z0 : n0 ≤ h0.size) :
    MetFree l x (head1 (Jvm.Cond.code x code maxLocals ret :: ws) room_1) (fun a U => a = #[(.long q0), (.long q1), (.int p2)] ∧ Z.Warmed39 U.vm ∧ U.heap = h0) (fun _ _ _ _ _ => True) (fun _ U o U' => ∃ v L, o = .returned v ∧ Q0 q0 q1 p2 h0 n0 v U'.heap L ∧ FrameEnd U o U' L room_1.cells room_1.slots) := by
  refine MetFree.of_bodySF (plainFor_of_name pn_0) hisR ?_
  intro p e s m args below meth c s₁ Bd hml0 hP hK
  obtain ⟨rfl, hZ, hh⟩ := hP
  have hx := Bd.exec
  have hby := Bd.bytes
  have hml : c.maxLocals = 13 := hml0
  have hlk : meth.locks = false := BodyLoose.notSynchronized Bd
  have hown : s.vm.findClass "com/example/quillon/quillon/engine/PagingEndPinLaw" = some m.cls := findClass_of_methodNamed Bd.named
  have X0 : Stand p l e room_1 s m #[(.long q0), (.long q1), (.int p2)] below meth c s₁ [] 0 0 := Stand.of_body Bd
  have e0 : s₁.heap = h0 := by rw [← hh, Bd.state]; rfl
  have N0 := Fr.nil n0
  have Zs0 : n0 ≤ s₁.heap.size := by rw [e0]; exact Z0
  have pre0 : ∀ t, Steps p.tables e below (s₁.setTop (mkF m 0 #[.val (.long q0), .second, .val (.long q1), .second, .val (.int p2), .unset, .unset, .unset, .unset, .unset, .unset, .unset, .unset] [])) t → Steps p.tables e below (s₁.setTop (entryFrame m #[(.long q0), (.long q1), (.int p2)] maxLocals)) t := fun t k => castTop (ef_0 m q0 q1 p2) k
  have hnm := (name_of_methodNamed Bd.named Bd.method).1
  have g_155 : ∀ (T : State) (locs : List Loc) (X : Stand p l e room_1 s m #[(.long q0), (.long q1), (.int p2)] below meth c T locs 1 2) (N : Fr n0 locs) (Zs : n0 ≤ T.heap.size) (j5 : Int64) (i7 : Int32) (j8 : Int64) (j10 : Int64) (o12 : Addr) (t0 : Int32)  (r : Int32), r = f0_155 q0 q1 p2 j5 i7 j8 j10 t0 → own_Fin p e below s (fun v h L => v = some (.int r) ∧ Fr n0 L) room_1.cells room_1.slots (T.setTop (mkF m 155 #[.val (.long q0), .second, .val (.long q1), .second, .val (.int p2), .val (.long j5), .second, .val (.int i7), .val (.long j8), .second, .val (.long j10), .second, .val (.ref o12)] [(.int t0)])) := by
    intro T locs X N Zs j5 i7 j8 j10 o12 t0  r hr
    have hr : r = (t0 &&& 1) := hr
    exact own_retZ X hx hlk Bd.returns (hb hby at_155) ⟨own_someI hr, N⟩ (by decide) (by decide)
  have g_124 : ∀ (T : State) (locs : List Loc) (X : Stand p l e room_1 s m #[(.long q0), (.long q1), (.int p2)] below meth c T locs 0 0) (N : Fr n0 locs) (Zs : n0 ≤ T.heap.size) (j5 : Int64) (i7 : Int32) (j8 : Int64) (s10 : Slot) (s11 : Slot) (t0 : Int64) (hs : ((s10 = .unset ∧ s11 = .unset) ∨ ∃ k, s10 = .val (.long k) ∧ s11 = .second)) (r : Int32), r = f0_124 q0 q1 p2 j5 i7 j8 t0 → own_Fin p e below s (fun v h L => v = some (.int r) ∧ Fr n0 L) room_1.cells room_1.slots (T.setTop (mkF m 124 #[.val (.long q0), .second, .val (.long q1), .second, .val (.int p2), .val (.long j5), .second, .val (.int i7), .val (.long j8), .second, s10, s11, .unset] [(.long t0)])) := by
    intro T locs X N Zs j5 i7 j8 s10 s11 t0 hs r hr
    have hr : r = (if (lcmpW (f4_0 j5 j8) t0) = (0 : Int32) then (f0_155 q0 q1 p2 j5 i7 j8 t0 (1 : Int32)) else (f0_155 q0 q1 p2 j5 i7 j8 t0 (0 : Int32))) := hr
    refine own_pre (B := T.setTop (mkF m 126 #[.val (.long q0), .second, .val (.long q1), .second, .val (.int p2), .val (.long j5), .second, .val (.int i7), .val (.long j8), .second, .val (.long t0), .second, .unset] [])) (fun t k => XS.lstore X.here hx rfl (hb hby at_124) rfl (l' := #[.val (.long q0), .second, .val (.long q1), .second, .val (.int p2), .val (.long j5), .second, .val (.int i7), .val (.long j8), .second, .val (.long t0), .second, .unset]) (by rcases hs with ⟨rfl, rfl⟩ | ⟨k', rfl, rfl⟩ <;> rfl) k) ?_
    obtain ⟨T1, h1, X1, e1, E1, A1, D1, -, st1⟩ := newO X hx hZ hown (hw _ (List.mem_of_getElem? (i := 1) rfl)) (hw _ (List.mem_of_getElem? (i := 2) rfl)) (hw _ (List.mem_of_getElem? (i := 3) rfl)) rfl (g := (mkF m 126 #[.val (.long q0), .second, .val (.long q1), .second, .val (.int p2), .val (.long j5), .second, .val (.int i7), .val (.long j8), .second, .val (.long t0), .second, .unset] [])) rfl (hb hby at_126) (by decide) (by decide)
    obtain ⟨b1, g1⟩ : ∃ z, z = T.heap.size := ⟨_, rfl⟩
    rw [← g1] at A1 D1 st1
    have gb1 : n0 ≤ b1 := Nat.le_trans Zs (Nat.le_of_eq g1.symm)
    have ZH1 : n0 ≤ h1.size := Nat.le_trans Zs E1.1
    have Zs1 : n0 ≤ T1.heap.size := by rw [e1]; exact ZH1
    have Foffset1 : Fld Z h1 b1 "com/example/quillon/quillon/engine/Paging" "offset" "J" (.long (0 : Int64)) := D1 (Or.inr (hw _ (List.mem_of_getElem? (i := 16) rfl))) (ty := .long) (by decide)
    have Flimit1 : Fld Z h1 b1 "com/example/quillon/quillon/engine/Paging" "limit" "J" (.long (0 : Int64)) := D1 (Or.inr (hw _ (List.mem_of_getElem? (i := 18) rfl))) (ty := .long) (by decide)
    refine own_pre (B := T1.setTop (mkF m 129 #[.val (.long q0), .second, .val (.long q1), .second, .val (.int p2), .val (.long j5), .second, .val (.int i7), .val (.long j8), .second, .val (.long t0), .second, .unset] [(.ref b1)])) st1 ?_
    refine own_pre (B := T1.setTop (mkF m 130 #[.val (.long q0), .second, .val (.long q1), .second, .val (.int p2), .val (.long j5), .second, .val (.int i7), .val (.long j8), .second, .val (.long t0), .second, .unset] [(.ref b1), (.ref b1)])) (fun t k => XS.dup X1.here hx rfl (hb hby at_129) rfl rfl k) ?_
    refine own_pre (B := T1.setTop (mkF m 132 #[.val (.long q0), .second, .val (.long q1), .second, .val (.int p2), .val (.long j5), .second, .val (.int i7), .val (.long j8), .second, .val (.long t0), .second, .unset] [(.long j5), (.ref b1), (.ref b1)])) (fun t k => XS.lload X1.here hx rfl (hb hby at_130) rfl k) ?_
    refine own_pre (B := T1.setTop (mkF m 134 #[.val (.long q0), .second, .val (.long q1), .second, .val (.int p2), .val (.long j5), .second, .val (.int i7), .val (.long j8), .second, .val (.long t0), .second, .unset] [(.long j8), (.long j5), (.ref b1), (.ref b1)])) (fun t k => XS.lload X1.here hx rfl (hb hby at_132) rfl k) ?_
    obtain ⟨_, _, ⟨T2, L2, k2, n2⟩, -, X2, ⟨Lc2, hQ2, l2, y2, z2⟩, st2⟩ := X1.specialBack hx (y := (⟨"com/example/quillon/quillon/engine/Paging", "<init>", "(JJ)V"⟩ : MethodName)) rfl hown (mvT hZ (hw _ (List.mem_of_getElem? (i := 4) rfl))) (mvT hZ (hw _ (List.mem_of_getElem? (i := 5) rfl))) (mvT hZ (hw _ (List.mem_of_getElem? (i := 6) rfl))) (by decide) (backOf (W := 1) (rm1 l Z a0 hw [] b1 j5 j8 _ _ h1 n0 ZH1 A1 Foffset1 Flimit1 gb1) hZ (hw _ (List.mem_of_getElem? (i := 6) rfl)) (hw _ (List.mem_of_getElem? (i := 3) rfl)) (by decide) (by decide)) (g := (mkF m 134 #[.val (.long q0), .second, .val (.long q1), .second, .val (.int p2), .val (.long j5), .second, .val (.int i7), .val (.long j8), .second, .val (.long t0), .second, .unset] [(.long j8), (.long j5), (.ref b1), (.ref b1)])) rfl (by rw [hml]; rfl) (Steps.refl _) (a := b1) (argsL := [(.long j5), (.long j8)]) (rest := [(.ref b1)]) (lenOf pd0_0 rfl) rfl (by show 2 * 0 + _ ≤ _; exact Nat.le_of_eq rfl) (hb hby at_134) (fun _ _ => ⟨rfl, e1, (by decide : 1 + 0 ≤ _), (by decide : 2 + 0 ≤ _)⟩)
    dsimp only [Pt.U, Pt.locs, Pt.cells, Pt.slots] at X2 l2 y2 z2 st2 hQ2
    subst l2 y2 z2
    obtain ⟨rfl, Nq2, K2, Ex2, Fo2, Fl2⟩ := hQ2
    have N2 := Fr.app N Nq2
    have Zs2 : n0 ≤ T2.heap.size := Nat.le_trans ZH1 K2.1
    refine own_pre (B := T2.setTop (mkF m 137 #[.val (.long q0), .second, .val (.long q1), .second, .val (.int p2), .val (.long j5), .second, .val (.int i7), .val (.long j8), .second, .val (.long t0), .second, .unset] [(.ref b1)])) (fun t q => st2.trans q) ?_
    refine own_pre (B := T2.setTop (mkF m 139 #[.val (.long q0), .second, .val (.long q1), .second, .val (.int p2), .val (.long j5), .second, .val (.int i7), .val (.long j8), .second, .val (.long t0), .second, .val (.ref b1)] [])) (fun t k => XS.astore X2.here hx rfl (hb hby at_137) rfl rfl (l' := #[.val (.long q0), .second, .val (.long q1), .second, .val (.int p2), .val (.long j5), .second, .val (.int i7), .val (.long j8), .second, .val (.long t0), .second, .val (.ref b1)]) rfl k) ?_
    refine own_pre (B := T2.setTop (mkF m 141 #[.val (.long q0), .second, .val (.long q1), .second, .val (.int p2), .val (.long j5), .second, .val (.int i7), .val (.long j8), .second, .val (.long t0), .second, .val (.ref b1)] [(.ref b1)])) (fun t k => XS.aload X2.here hx rfl (hb hby at_139) rfl rfl k) ?_
    obtain ⟨cq3, kq3, qa3, qb3, qc3⟩ := isOf hZ rfl Ex2
    obtain ⟨_, _, ⟨T3, L3, k3, n3⟩, -, X3, ⟨Lc3, hQ3, l3, y3, z3⟩, st3⟩ := X2.virtualBack hx (y := (⟨"com/example/quillon/quillon/engine/Paging", "end", "()J"⟩ : MethodName)) (z := (⟨"com/example/quillon/quillon/engine/Paging", "end", "()J"⟩ : MethodName)) hown (mvT hZ (hw _ (List.mem_of_getElem? (i := 19) rfl))) (mvT hZ (hw _ (List.mem_of_getElem? (i := 20) rfl))) (notFace_of_selects (args := #[]) (mvT hZ (hw _ (List.mem_of_getElem? (i := 22) rfl)))) (mvT hZ (hw _ (List.mem_of_getElem? (i := 22) rfl))) (mvT hZ (hw _ (List.mem_of_getElem? (i := 21) rfl))) (by decide) (backOf (W := 0) (rm4 l Z a0 hw [] b1 _ _ T2.heap n0 Zs2 Fo2 Fl2) hZ (hw _ (List.mem_of_getElem? (i := 23) rfl)) (hw _ (List.mem_of_getElem? (i := 3) rfl)) (by decide) (by decide)) qa3 qc3 (g := (mkF m 141 #[.val (.long q0), .second, .val (.long q1), .second, .val (.int p2), .val (.long j5), .second, .val (.int i7), .val (.long j8), .second, .val (.long t0), .second, .val (.ref b1)] [(.ref b1)])) rfl (by rw [hml]; rfl) (Steps.refl _) (argsL := []) (rest := []) (lenOf pd0_1 rfl) rfl (by show 2 * 0 + _ ≤ _; exact Nat.le_of_eq rfl) (hb hby at_141) (fun _ _ => ⟨rfl, rfl, (by decide : 1 + 0 ≤ _), (by decide : 2 + 0 ≤ _)⟩)
    dsimp only [Pt.U, Pt.locs, Pt.cells, Pt.slots] at X3 l3 y3 z3 st3 hQ3
    subst l3 y3 z3
    obtain ⟨rfl, Nq3, e3⟩ := hQ3
    have N3 := Fr.app N2 Nq3
    have Zs3 : n0 ≤ T3.heap.size := by rw [e3]; exact Zs2
    refine own_pre (B := T3.setTop (mkF m 144 #[.val (.long q0), .second, .val (.long q1), .second, .val (.int p2), .val (.long j5), .second, .val (.int i7), .val (.long j8), .second, .val (.long t0), .second, .val (.ref b1)] [(.long (f4_0 j5 j8))])) (fun t q => st3.trans q) ?_
    refine own_pre (B := T3.setTop (mkF m 146 #[.val (.long q0), .second, .val (.long q1), .second, .val (.int p2), .val (.long j5), .second, .val (.int i7), .val (.long j8), .second, .val (.long t0), .second, .val (.ref b1)] [(.long t0), (.long (f4_0 j5 j8))])) (fun t k => XS.lload X3.here hx rfl (hb hby at_144) rfl k) ?_
    refine own_pre (B := T3.setTop (mkF m 147 #[.val (.long q0), .second, .val (.long q1), .second, .val (.int p2), .val (.long j5), .second, .val (.int i7), .val (.long j8), .second, .val (.long t0), .second, .val (.ref b1)] [(.int (lcmpW (f4_0 j5 j8) t0))])) (fun t k => XS.lcmp X3.here hx rfl (hb hby at_146) rfl k) ?_
    by_cases hc4 : (lcmpW (f4_0 j5 j8) t0) = (0 : Int32)
    · have hr5 := hr.trans (if_pos hc4)
      refine own_pre (B := T3.setTop (mkF m 150 #[.val (.long q0), .second, .val (.long q1), .second, .val (.int p2), .val (.long j5), .second, .val (.int i7), .val (.long j8), .second, .val (.long t0), .second, .val (.ref b1)] [])) (fun t k => XS.ifNo X3.here hx rfl (hb hby at_147) rfl ((if0 _ _).trans (teq hc4).2) k) ?_
      refine own_pre (B := T3.setTop (mkF m 151 #[.val (.long q0), .second, .val (.long q1), .second, .val (.int p2), .val (.long j5), .second, .val (.int i7), .val (.long j8), .second, .val (.long t0), .second, .val (.ref b1)] [(.int (1 : Int32))])) (fun t k => XS.iconst X3.here hx rfl (hb hby at_150) k) ?_
      refine own_pre (B := T3.setTop (mkF m 155 #[.val (.long q0), .second, .val (.long q1), .second, .val (.int p2), .val (.long j5), .second, .val (.int i7), .val (.long j8), .second, .val (.long t0), .second, .val (.ref b1)] [(.int (1 : Int32))])) (fun t k => XS.goto X3.here hx rfl (pc0 := 151) (pc' := 155) rfl (hb hby at_151) (by decide) (by decide) k) ?_
      exact g_155 T3 _ X3 N3 Zs3 j5 i7 j8 t0 b1 (1 : Int32) _ hr5
    · have hr6 := hr.trans (if_neg hc4)
      refine own_pre (B := T3.setTop (mkF m 154 #[.val (.long q0), .second, .val (.long q1), .second, .val (.int p2), .val (.long j5), .second, .val (.int i7), .val (.long j8), .second, .val (.long t0), .second, .val (.ref b1)] [])) (fun t k => XS.ifYes X3.here hx rfl (pc0 := 147) (pc' := 154) rfl (hb hby at_147) rfl ((if0 _ _).trans (feq hc4).2) (by decide) (by decide) k) ?_
      refine own_pre (B := T3.setTop (mkF m 155 #[.val (.long q0), .second, .val (.long q1), .second, .val (.int p2), .val (.long j5), .second, .val (.int i7), .val (.long j8), .second, .val (.long t0), .second, .val (.ref b1)] [(.int (0 : Int32))])) (fun t k => XS.iconst X3.here hx rfl (hb hby at_154) k) ?_
      exact g_155 T3 _ X3 N3 Zs3 j5 i7 j8 t0 b1 (0 : Int32) _ hr6
  have g_101 : ∀ (T : State) (locs : List Loc) (X : Stand p l e room_1 s m #[(.long q0), (.long q1), (.int p2)] below meth c T locs 0 0) (N : Fr n0 locs) (Zs : n0 ≤ T.heap.size) (j5 : Int64) (i7 : Int32) (j8 : Int64) (s10 : Slot) (s11 : Slot) (hs : ((s10 = .unset ∧ s11 = .unset) ∨ ∃ k, s10 = .val (.long k) ∧ s11 = .second)) (r : Int32), r = f0_101 q0 q1 p2 j5 i7 j8 → own_Fin p e below s (fun v h L => v = some (.int r) ∧ Fr n0 L) room_1.cells room_1.slots (T.setTop (mkF m 101 #[.val (.long q0), .second, .val (.long q1), .second, .val (.int p2), .val (.long j5), .second, .val (.int i7), .val (.long j8), .second, s10, s11, .unset] [])) := by
    intro T locs X N Zs j5 i7 j8 s10 s11 hs r hr
    have hr : r = (if (0 : Int32) < (lcmpW j5 ((9223372036854775807 : Int64) - j8)) then (f0_124 q0 q1 p2 j5 i7 j8 (9223372036854775807 : Int64)) else (f0_124 q0 q1 p2 j5 i7 j8 (j5 + j8))) := hr
    refine own_pre (B := T.setTop (mkF m 103 #[.val (.long q0), .second, .val (.long q1), .second, .val (.int p2), .val (.long j5), .second, .val (.int i7), .val (.long j8), .second, s10, s11, .unset] [(.long j5)])) (fun t k => XS.lload X.here hx rfl (hb hby at_101) rfl k) ?_
    refine own_pre (B := T.setTop (mkF m 106 #[.val (.long q0), .second, .val (.long q1), .second, .val (.int p2), .val (.long j5), .second, .val (.int i7), .val (.long j8), .second, s10, s11, .unset] [(.long (9223372036854775807 : Int64)), (.long j5)])) (fun t k => X.ldc2Long hx hown (mvT hZ (hw _ (List.mem_of_getElem? (i := 0) rfl))) (g := (mkF m 103 #[.val (.long q0), .second, .val (.long q1), .second, .val (.int p2), .val (.long j5), .second, .val (.int i7), .val (.long j8), .second, s10, s11, .unset] [(.long j5)])) rfl (hb hby at_103) _ k) ?_
    refine own_pre (B := T.setTop (mkF m 108 #[.val (.long q0), .second, .val (.long q1), .second, .val (.int p2), .val (.long j5), .second, .val (.int i7), .val (.long j8), .second, s10, s11, .unset] [(.long j8), (.long (9223372036854775807 : Int64)), (.long j5)])) (fun t k => XS.lload X.here hx rfl (hb hby at_106) rfl k) ?_
    refine own_pre (B := T.setTop (mkF m 109 #[.val (.long q0), .second, .val (.long q1), .second, .val (.int p2), .val (.long j5), .second, .val (.int i7), .val (.long j8), .second, s10, s11, .unset] [(.long ((9223372036854775807 : Int64) - j8)), (.long j5)])) (fun t k => XS.lsub X.here hx rfl (hb hby at_108) rfl k) ?_
    refine own_pre (B := T.setTop (mkF m 110 #[.val (.long q0), .second, .val (.long q1), .second, .val (.int p2), .val (.long j5), .second, .val (.int i7), .val (.long j8), .second, s10, s11, .unset] [(.int (lcmpW j5 ((9223372036854775807 : Int64) - j8)))])) (fun t k => XS.lcmp X.here hx rfl (hb hby at_109) rfl k) ?_
    by_cases hc1 : (0 : Int32) < (lcmpW j5 ((9223372036854775807 : Int64) - j8))
    · have hr2 := hr.trans (if_pos hc1)
      refine own_pre (B := T.setTop (mkF m 113 #[.val (.long q0), .second, .val (.long q1), .second, .val (.int p2), .val (.long j5), .second, .val (.int i7), .val (.long j8), .second, s10, s11, .unset] [])) (fun t k => XS.ifNo X.here hx rfl (hb hby at_110) rfl ((if0 _ _).trans (tlt hc1).2.2.2) k) ?_
      refine own_pre (B := T.setTop (mkF m 116 #[.val (.long q0), .second, .val (.long q1), .second, .val (.int p2), .val (.long j5), .second, .val (.int i7), .val (.long j8), .second, s10, s11, .unset] [(.long (9223372036854775807 : Int64))])) (fun t k => X.ldc2Long hx hown (mvT hZ (hw _ (List.mem_of_getElem? (i := 0) rfl))) (g := (mkF m 113 #[.val (.long q0), .second, .val (.long q1), .second, .val (.int p2), .val (.long j5), .second, .val (.int i7), .val (.long j8), .second, s10, s11, .unset] [])) rfl (hb hby at_113) _ k) ?_
      refine own_pre (B := T.setTop (mkF m 124 #[.val (.long q0), .second, .val (.long q1), .second, .val (.int p2), .val (.long j5), .second, .val (.int i7), .val (.long j8), .second, s10, s11, .unset] [(.long (9223372036854775807 : Int64))])) (fun t k => XS.goto X.here hx rfl (pc0 := 116) (pc' := 124) rfl (hb hby at_116) (by decide) (by decide) k) ?_
      exact g_124 T _ X N Zs j5 i7 j8 s10 s11 (9223372036854775807 : Int64) hs _ hr2
    · have hr3 := hr.trans (if_neg hc1)
      refine own_pre (B := T.setTop (mkF m 119 #[.val (.long q0), .second, .val (.long q1), .second, .val (.int p2), .val (.long j5), .second, .val (.int i7), .val (.long j8), .second, s10, s11, .unset] [])) (fun t k => XS.ifYes X.here hx rfl (pc0 := 110) (pc' := 119) rfl (hb hby at_110) rfl ((if0 _ _).trans (flt hc1).2.2.2) (by decide) (by decide) k) ?_
      refine own_pre (B := T.setTop (mkF m 121 #[.val (.long q0), .second, .val (.long q1), .second, .val (.int p2), .val (.long j5), .second, .val (.int i7), .val (.long j8), .second, s10, s11, .unset] [(.long j5)])) (fun t k => XS.lload X.here hx rfl (hb hby at_119) rfl k) ?_
      refine own_pre (B := T.setTop (mkF m 123 #[.val (.long q0), .second, .val (.long q1), .second, .val (.int p2), .val (.long j5), .second, .val (.int i7), .val (.long j8), .second, s10, s11, .unset] [(.long j8), (.long j5)])) (fun t k => XS.lload X.here hx rfl (hb hby at_121) rfl k) ?_
      refine own_pre (B := T.setTop (mkF m 124 #[.val (.long q0), .second, .val (.long q1), .second, .val (.int p2), .val (.long j5), .second, .val (.int i7), .val (.long j8), .second, s10, s11, .unset] [(.long (j5 + j8))])) (fun t k => XS.ladd X.here hx rfl (hb hby at_123) rfl k) ?_
      exact g_124 T _ X N Zs j5 i7 j8 s10 s11 (j5 + j8) hs _ hr3
  have g_22 : ∀ (T : State) (locs : List Loc) (X : Stand p l e room_1 s m #[(.long q0), (.long q1), (.int p2)] below meth c T locs 0 0) (N : Fr n0 locs) (Zs : n0 ≤ T.heap.size) (t0 : Int64)  (r : Int32), r = f0_22 q0 q1 p2 t0 → own_Fin p e below s (fun v h L => v = some (.int r) ∧ Fr n0 L) room_1.cells room_1.slots (T.setTop (mkF m 22 #[.val (.long q0), .second, .val (.long q1), .second, .val (.int p2), .unset, .unset, .unset, .unset, .unset, .unset, .unset, .unset] [(.long t0)])) := by
    intro T locs X N Zs t0  r hr
    have hr : r = (if (p2 &&& (3 : Int32)) = (0 : Int32) then (f0_101 q0 q1 p2 t0 (p2 &&& (3 : Int32)) (q1 &&& (9223372036854775807 : Int64))) else (if (p2 &&& (3 : Int32)) = (1 : Int32) then (f0_101 q0 q1 p2 t0 (p2 &&& (3 : Int32)) (((((9223372036854775807 : Int64) - t0) + (((p2 >>> ((2 : Int32) &&& 31)) &&& (3 : Int32)).toInt64)) - (1 : Int64)) &&& (9223372036854775807 : Int64))) else (if (p2 &&& (3 : Int32)) = (2 : Int32) then (f0_101 q0 q1 p2 t0 (p2 &&& (3 : Int32)) (9223372036854775807 : Int64)) else (f0_101 q0 q1 p2 t0 (p2 &&& (3 : Int32)) (q1 &&& (255 : Int64)))))) := hr
    refine own_pre (B := T.setTop (mkF m 24 #[.val (.long q0), .second, .val (.long q1), .second, .val (.int p2), .val (.long t0), .second, .unset, .unset, .unset, .unset, .unset, .unset] [])) (fun t k => XS.lstore X.here hx rfl (hb hby at_22) rfl (l' := #[.val (.long q0), .second, .val (.long q1), .second, .val (.int p2), .val (.long t0), .second, .unset, .unset, .unset, .unset, .unset, .unset]) rfl k) ?_
    refine own_pre (B := T.setTop (mkF m 26 #[.val (.long q0), .second, .val (.long q1), .second, .val (.int p2), .val (.long t0), .second, .unset, .unset, .unset, .unset, .unset, .unset] [(.int p2)])) (fun t k => XS.iload X.here hx rfl (hb hby at_24) rfl k) ?_
    refine own_pre (B := T.setTop (mkF m 27 #[.val (.long q0), .second, .val (.long q1), .second, .val (.int p2), .val (.long t0), .second, .unset, .unset, .unset, .unset, .unset, .unset] [(.int (3 : Int32)), (.int p2)])) (fun t k => XS.iconst X.here hx rfl (hb hby at_26) k) ?_
    refine own_pre (B := T.setTop (mkF m 28 #[.val (.long q0), .second, .val (.long q1), .second, .val (.int p2), .val (.long t0), .second, .unset, .unset, .unset, .unset, .unset, .unset] [(.int (p2 &&& (3 : Int32)))])) (fun t k => XS.iand X.here hx rfl (hb hby at_27) rfl k) ?_
    refine own_pre (B := T.setTop (mkF m 30 #[.val (.long q0), .second, .val (.long q1), .second, .val (.int p2), .val (.long t0), .second, .val (.int (p2 &&& (3 : Int32))), .unset, .unset, .unset, .unset, .unset] [])) (fun t k => XS.istore X.here hx rfl (hb hby at_28) rfl (l' := #[.val (.long q0), .second, .val (.long q1), .second, .val (.int p2), .val (.long t0), .second, .val (.int (p2 &&& (3 : Int32))), .unset, .unset, .unset, .unset, .unset]) rfl k) ?_
    refine own_pre (B := T.setTop (mkF m 32 #[.val (.long q0), .second, .val (.long q1), .second, .val (.int p2), .val (.long t0), .second, .val (.int (p2 &&& (3 : Int32))), .unset, .unset, .unset, .unset, .unset] [(.int (p2 &&& (3 : Int32)))])) (fun t k => XS.iload X.here hx rfl (hb hby at_30) rfl k) ?_
    by_cases hc1 : (p2 &&& (3 : Int32)) = (0 : Int32)
    · have hr2 := hr.trans (if_pos hc1)
      refine own_pre (B := T.setTop (mkF m 35 #[.val (.long q0), .second, .val (.long q1), .second, .val (.int p2), .val (.long t0), .second, .val (.int (p2 &&& (3 : Int32))), .unset, .unset, .unset, .unset, .unset] [])) (fun t k => XS.ifNo X.here hx rfl (hb hby at_32) rfl ((if0 _ _).trans (teq hc1).2) k) ?_
      refine own_pre (B := T.setTop (mkF m 36 #[.val (.long q0), .second, .val (.long q1), .second, .val (.int p2), .val (.long t0), .second, .val (.int (p2 &&& (3 : Int32))), .unset, .unset, .unset, .unset, .unset] [(.long q1)])) (fun t k => XS.lloadN X.here hx rfl (hb hby at_35) rfl k) ?_
      refine own_pre (B := T.setTop (mkF m 39 #[.val (.long q0), .second, .val (.long q1), .second, .val (.int p2), .val (.long t0), .second, .val (.int (p2 &&& (3 : Int32))), .unset, .unset, .unset, .unset, .unset] [(.long (9223372036854775807 : Int64)), (.long q1)])) (fun t k => X.ldc2Long hx hown (mvT hZ (hw _ (List.mem_of_getElem? (i := 0) rfl))) (g := (mkF m 36 #[.val (.long q0), .second, .val (.long q1), .second, .val (.int p2), .val (.long t0), .second, .val (.int (p2 &&& (3 : Int32))), .unset, .unset, .unset, .unset, .unset] [(.long q1)])) rfl (hb hby at_36) _ k) ?_
      refine own_pre (B := T.setTop (mkF m 40 #[.val (.long q0), .second, .val (.long q1), .second, .val (.int p2), .val (.long t0), .second, .val (.int (p2 &&& (3 : Int32))), .unset, .unset, .unset, .unset, .unset] [(.long (q1 &&& (9223372036854775807 : Int64)))])) (fun t k => XS.land X.here hx rfl (hb hby at_39) rfl k) ?_
      refine own_pre (B := T.setTop (mkF m 42 #[.val (.long q0), .second, .val (.long q1), .second, .val (.int p2), .val (.long t0), .second, .val (.int (p2 &&& (3 : Int32))), .val (.long (q1 &&& (9223372036854775807 : Int64))), .second, .unset, .unset, .unset] [])) (fun t k => XS.lstore X.here hx rfl (hb hby at_40) rfl (l' := #[.val (.long q0), .second, .val (.long q1), .second, .val (.int p2), .val (.long t0), .second, .val (.int (p2 &&& (3 : Int32))), .val (.long (q1 &&& (9223372036854775807 : Int64))), .second, .unset, .unset, .unset]) rfl k) ?_
      refine own_pre (B := T.setTop (mkF m 101 #[.val (.long q0), .second, .val (.long q1), .second, .val (.int p2), .val (.long t0), .second, .val (.int (p2 &&& (3 : Int32))), .val (.long (q1 &&& (9223372036854775807 : Int64))), .second, .unset, .unset, .unset] [])) (fun t k => XS.goto X.here hx rfl (pc0 := 42) (pc' := 101) rfl (hb hby at_42) (by decide) (by decide) k) ?_
      exact g_101 T _ X N Zs t0 (p2 &&& (3 : Int32)) (q1 &&& (9223372036854775807 : Int64)) .unset .unset (Or.inl ⟨rfl, rfl⟩) _ hr2
    · have hr3 := hr.trans (if_neg hc1)
      refine own_pre (B := T.setTop (mkF m 45 #[.val (.long q0), .second, .val (.long q1), .second, .val (.int p2), .val (.long t0), .second, .val (.int (p2 &&& (3 : Int32))), .unset, .unset, .unset, .unset, .unset] [])) (fun t k => XS.ifYes X.here hx rfl (pc0 := 32) (pc' := 45) rfl (hb hby at_32) rfl ((if0 _ _).trans (feq hc1).2) (by decide) (by decide) k) ?_
      refine own_pre (B := T.setTop (mkF m 47 #[.val (.long q0), .second, .val (.long q1), .second, .val (.int p2), .val (.long t0), .second, .val (.int (p2 &&& (3 : Int32))), .unset, .unset, .unset, .unset, .unset] [(.int (p2 &&& (3 : Int32)))])) (fun t k => XS.iload X.here hx rfl (hb hby at_45) rfl k) ?_
      refine own_pre (B := T.setTop (mkF m 48 #[.val (.long q0), .second, .val (.long q1), .second, .val (.int p2), .val (.long t0), .second, .val (.int (p2 &&& (3 : Int32))), .unset, .unset, .unset, .unset, .unset] [(.int (1 : Int32)), (.int (p2 &&& (3 : Int32)))])) (fun t k => XS.iconst X.here hx rfl (hb hby at_47) k) ?_
      by_cases hc4 : (p2 &&& (3 : Int32)) = (1 : Int32)
      · have hr5 := hr3.trans (if_pos hc4)
        refine own_pre (B := T.setTop (mkF m 51 #[.val (.long q0), .second, .val (.long q1), .second, .val (.int p2), .val (.long t0), .second, .val (.int (p2 &&& (3 : Int32))), .unset, .unset, .unset, .unset, .unset] [])) (fun t k => XS.icmpNo X.here hx rfl (hb hby at_48) rfl (teq hc4).2 k) ?_
        refine own_pre (B := T.setTop (mkF m 53 #[.val (.long q0), .second, .val (.long q1), .second, .val (.int p2), .val (.long t0), .second, .val (.int (p2 &&& (3 : Int32))), .unset, .unset, .unset, .unset, .unset] [(.int p2)])) (fun t k => XS.iload X.here hx rfl (hb hby at_51) rfl k) ?_
        refine own_pre (B := T.setTop (mkF m 54 #[.val (.long q0), .second, .val (.long q1), .second, .val (.int p2), .val (.long t0), .second, .val (.int (p2 &&& (3 : Int32))), .unset, .unset, .unset, .unset, .unset] [(.int (2 : Int32)), (.int p2)])) (fun t k => XS.iconst X.here hx rfl (hb hby at_53) k) ?_
        refine own_pre (B := T.setTop (mkF m 55 #[.val (.long q0), .second, .val (.long q1), .second, .val (.int p2), .val (.long t0), .second, .val (.int (p2 &&& (3 : Int32))), .unset, .unset, .unset, .unset, .unset] [(.int (p2 >>> ((2 : Int32) &&& 31)))])) (fun t k => XS.ishr X.here hx rfl (hb hby at_54) rfl k) ?_
        refine own_pre (B := T.setTop (mkF m 56 #[.val (.long q0), .second, .val (.long q1), .second, .val (.int p2), .val (.long t0), .second, .val (.int (p2 &&& (3 : Int32))), .unset, .unset, .unset, .unset, .unset] [(.int (3 : Int32)), (.int (p2 >>> ((2 : Int32) &&& 31)))])) (fun t k => XS.iconst X.here hx rfl (hb hby at_55) k) ?_
        refine own_pre (B := T.setTop (mkF m 57 #[.val (.long q0), .second, .val (.long q1), .second, .val (.int p2), .val (.long t0), .second, .val (.int (p2 &&& (3 : Int32))), .unset, .unset, .unset, .unset, .unset] [(.int ((p2 >>> ((2 : Int32) &&& 31)) &&& (3 : Int32)))])) (fun t k => XS.iand X.here hx rfl (hb hby at_56) rfl k) ?_
        refine own_pre (B := T.setTop (mkF m 58 #[.val (.long q0), .second, .val (.long q1), .second, .val (.int p2), .val (.long t0), .second, .val (.int (p2 &&& (3 : Int32))), .unset, .unset, .unset, .unset, .unset] [(.long (((p2 >>> ((2 : Int32) &&& 31)) &&& (3 : Int32)).toInt64))])) (fun t k => XS.i2l X.here hx rfl (hb hby at_57) rfl k) ?_
        refine own_pre (B := T.setTop (mkF m 60 #[.val (.long q0), .second, .val (.long q1), .second, .val (.int p2), .val (.long t0), .second, .val (.int (p2 &&& (3 : Int32))), .unset, .unset, .val (.long (((p2 >>> ((2 : Int32) &&& 31)) &&& (3 : Int32)).toInt64)), .second, .unset] [])) (fun t k => XS.lstore X.here hx rfl (hb hby at_58) rfl (l' := #[.val (.long q0), .second, .val (.long q1), .second, .val (.int p2), .val (.long t0), .second, .val (.int (p2 &&& (3 : Int32))), .unset, .unset, .val (.long (((p2 >>> ((2 : Int32) &&& 31)) &&& (3 : Int32)).toInt64)), .second, .unset]) rfl k) ?_
        refine own_pre (B := T.setTop (mkF m 63 #[.val (.long q0), .second, .val (.long q1), .second, .val (.int p2), .val (.long t0), .second, .val (.int (p2 &&& (3 : Int32))), .unset, .unset, .val (.long (((p2 >>> ((2 : Int32) &&& 31)) &&& (3 : Int32)).toInt64)), .second, .unset] [(.long (9223372036854775807 : Int64))])) (fun t k => X.ldc2Long hx hown (mvT hZ (hw _ (List.mem_of_getElem? (i := 0) rfl))) (g := (mkF m 60 #[.val (.long q0), .second, .val (.long q1), .second, .val (.int p2), .val (.long t0), .second, .val (.int (p2 &&& (3 : Int32))), .unset, .unset, .val (.long (((p2 >>> ((2 : Int32) &&& 31)) &&& (3 : Int32)).toInt64)), .second, .unset] [])) rfl (hb hby at_60) _ k) ?_
        refine own_pre (B := T.setTop (mkF m 65 #[.val (.long q0), .second, .val (.long q1), .second, .val (.int p2), .val (.long t0), .second, .val (.int (p2 &&& (3 : Int32))), .unset, .unset, .val (.long (((p2 >>> ((2 : Int32) &&& 31)) &&& (3 : Int32)).toInt64)), .second, .unset] [(.long t0), (.long (9223372036854775807 : Int64))])) (fun t k => XS.lload X.here hx rfl (hb hby at_63) rfl k) ?_
        refine own_pre (B := T.setTop (mkF m 66 #[.val (.long q0), .second, .val (.long q1), .second, .val (.int p2), .val (.long t0), .second, .val (.int (p2 &&& (3 : Int32))), .unset, .unset, .val (.long (((p2 >>> ((2 : Int32) &&& 31)) &&& (3 : Int32)).toInt64)), .second, .unset] [(.long ((9223372036854775807 : Int64) - t0))])) (fun t k => XS.lsub X.here hx rfl (hb hby at_65) rfl k) ?_
        refine own_pre (B := T.setTop (mkF m 68 #[.val (.long q0), .second, .val (.long q1), .second, .val (.int p2), .val (.long t0), .second, .val (.int (p2 &&& (3 : Int32))), .unset, .unset, .val (.long (((p2 >>> ((2 : Int32) &&& 31)) &&& (3 : Int32)).toInt64)), .second, .unset] [(.long (((p2 >>> ((2 : Int32) &&& 31)) &&& (3 : Int32)).toInt64)), (.long ((9223372036854775807 : Int64) - t0))])) (fun t k => XS.lload X.here hx rfl (hb hby at_66) rfl k) ?_
        refine own_pre (B := T.setTop (mkF m 69 #[.val (.long q0), .second, .val (.long q1), .second, .val (.int p2), .val (.long t0), .second, .val (.int (p2 &&& (3 : Int32))), .unset, .unset, .val (.long (((p2 >>> ((2 : Int32) &&& 31)) &&& (3 : Int32)).toInt64)), .second, .unset] [(.long (((9223372036854775807 : Int64) - t0) + (((p2 >>> ((2 : Int32) &&& 31)) &&& (3 : Int32)).toInt64)))])) (fun t k => XS.ladd X.here hx rfl (hb hby at_68) rfl k) ?_
        refine own_pre (B := T.setTop (mkF m 70 #[.val (.long q0), .second, .val (.long q1), .second, .val (.int p2), .val (.long t0), .second, .val (.int (p2 &&& (3 : Int32))), .unset, .unset, .val (.long (((p2 >>> ((2 : Int32) &&& 31)) &&& (3 : Int32)).toInt64)), .second, .unset] [(.long (1 : Int64)), (.long (((9223372036854775807 : Int64) - t0) + (((p2 >>> ((2 : Int32) &&& 31)) &&& (3 : Int32)).toInt64)))])) (fun t k => XS.lconst X.here hx rfl (hb hby at_69) k) ?_
        refine own_pre (B := T.setTop (mkF m 71 #[.val (.long q0), .second, .val (.long q1), .second, .val (.int p2), .val (.long t0), .second, .val (.int (p2 &&& (3 : Int32))), .unset, .unset, .val (.long (((p2 >>> ((2 : Int32) &&& 31)) &&& (3 : Int32)).toInt64)), .second, .unset] [(.long ((((9223372036854775807 : Int64) - t0) + (((p2 >>> ((2 : Int32) &&& 31)) &&& (3 : Int32)).toInt64)) - (1 : Int64)))])) (fun t k => XS.lsub X.here hx rfl (hb hby at_70) rfl k) ?_
        refine own_pre (B := T.setTop (mkF m 74 #[.val (.long q0), .second, .val (.long q1), .second, .val (.int p2), .val (.long t0), .second, .val (.int (p2 &&& (3 : Int32))), .unset, .unset, .val (.long (((p2 >>> ((2 : Int32) &&& 31)) &&& (3 : Int32)).toInt64)), .second, .unset] [(.long (9223372036854775807 : Int64)), (.long ((((9223372036854775807 : Int64) - t0) + (((p2 >>> ((2 : Int32) &&& 31)) &&& (3 : Int32)).toInt64)) - (1 : Int64)))])) (fun t k => X.ldc2Long hx hown (mvT hZ (hw _ (List.mem_of_getElem? (i := 0) rfl))) (g := (mkF m 71 #[.val (.long q0), .second, .val (.long q1), .second, .val (.int p2), .val (.long t0), .second, .val (.int (p2 &&& (3 : Int32))), .unset, .unset, .val (.long (((p2 >>> ((2 : Int32) &&& 31)) &&& (3 : Int32)).toInt64)), .second, .unset] [(.long ((((9223372036854775807 : Int64) - t0) + (((p2 >>> ((2 : Int32) &&& 31)) &&& (3 : Int32)).toInt64)) - (1 : Int64)))])) rfl (hb hby at_71) _ k) ?_
        refine own_pre (B := T.setTop (mkF m 75 #[.val (.long q0), .second, .val (.long q1), .second, .val (.int p2), .val (.long t0), .second, .val (.int (p2 &&& (3 : Int32))), .unset, .unset, .val (.long (((p2 >>> ((2 : Int32) &&& 31)) &&& (3 : Int32)).toInt64)), .second, .unset] [(.long (((((9223372036854775807 : Int64) - t0) + (((p2 >>> ((2 : Int32) &&& 31)) &&& (3 : Int32)).toInt64)) - (1 : Int64)) &&& (9223372036854775807 : Int64)))])) (fun t k => XS.land X.here hx rfl (hb hby at_74) rfl k) ?_
        refine own_pre (B := T.setTop (mkF m 77 #[.val (.long q0), .second, .val (.long q1), .second, .val (.int p2), .val (.long t0), .second, .val (.int (p2 &&& (3 : Int32))), .val (.long (((((9223372036854775807 : Int64) - t0) + (((p2 >>> ((2 : Int32) &&& 31)) &&& (3 : Int32)).toInt64)) - (1 : Int64)) &&& (9223372036854775807 : Int64))), .second, .val (.long (((p2 >>> ((2 : Int32) &&& 31)) &&& (3 : Int32)).toInt64)), .second, .unset] [])) (fun t k => XS.lstore X.here hx rfl (hb hby at_75) rfl (l' := #[.val (.long q0), .second, .val (.long q1), .second, .val (.int p2), .val (.long t0), .second, .val (.int (p2 &&& (3 : Int32))), .val (.long (((((9223372036854775807 : Int64) - t0) + (((p2 >>> ((2 : Int32) &&& 31)) &&& (3 : Int32)).toInt64)) - (1 : Int64)) &&& (9223372036854775807 : Int64))), .second, .val (.long (((p2 >>> ((2 : Int32) &&& 31)) &&& (3 : Int32)).toInt64)), .second, .unset]) rfl k) ?_
        refine own_pre (B := T.setTop (mkF m 101 #[.val (.long q0), .second, .val (.long q1), .second, .val (.int p2), .val (.long t0), .second, .val (.int (p2 &&& (3 : Int32))), .val (.long (((((9223372036854775807 : Int64) - t0) + (((p2 >>> ((2 : Int32) &&& 31)) &&& (3 : Int32)).toInt64)) - (1 : Int64)) &&& (9223372036854775807 : Int64))), .second, .val (.long (((p2 >>> ((2 : Int32) &&& 31)) &&& (3 : Int32)).toInt64)), .second, .unset] [])) (fun t k => XS.goto X.here hx rfl (pc0 := 77) (pc' := 101) rfl (hb hby at_77) (by decide) (by decide) k) ?_
        exact g_101 T _ X N Zs t0 (p2 &&& (3 : Int32)) (((((9223372036854775807 : Int64) - t0) + (((p2 >>> ((2 : Int32) &&& 31)) &&& (3 : Int32)).toInt64)) - (1 : Int64)) &&& (9223372036854775807 : Int64)) (.val (.long (((p2 >>> ((2 : Int32) &&& 31)) &&& (3 : Int32)).toInt64))) .second (Or.inr ⟨_, rfl, rfl⟩) _ hr5
      · have hr6 := hr3.trans (if_neg hc4)
        refine own_pre (B := T.setTop (mkF m 80 #[.val (.long q0), .second, .val (.long q1), .second, .val (.int p2), .val (.long t0), .second, .val (.int (p2 &&& (3 : Int32))), .unset, .unset, .unset, .unset, .unset] [])) (fun t k => XS.icmpYes X.here hx rfl (pc0 := 48) (pc' := 80) rfl (hb hby at_48) rfl (feq hc4).2 (by decide) (by decide) k) ?_
        refine own_pre (B := T.setTop (mkF m 82 #[.val (.long q0), .second, .val (.long q1), .second, .val (.int p2), .val (.long t0), .second, .val (.int (p2 &&& (3 : Int32))), .unset, .unset, .unset, .unset, .unset] [(.int (p2 &&& (3 : Int32)))])) (fun t k => XS.iload X.here hx rfl (hb hby at_80) rfl k) ?_
        refine own_pre (B := T.setTop (mkF m 83 #[.val (.long q0), .second, .val (.long q1), .second, .val (.int p2), .val (.long t0), .second, .val (.int (p2 &&& (3 : Int32))), .unset, .unset, .unset, .unset, .unset] [(.int (2 : Int32)), (.int (p2 &&& (3 : Int32)))])) (fun t k => XS.iconst X.here hx rfl (hb hby at_82) k) ?_
        by_cases hc7 : (p2 &&& (3 : Int32)) = (2 : Int32)
        · have hr8 := hr6.trans (if_pos hc7)
          refine own_pre (B := T.setTop (mkF m 86 #[.val (.long q0), .second, .val (.long q1), .second, .val (.int p2), .val (.long t0), .second, .val (.int (p2 &&& (3 : Int32))), .unset, .unset, .unset, .unset, .unset] [])) (fun t k => XS.icmpNo X.here hx rfl (hb hby at_83) rfl (teq hc7).2 k) ?_
          refine own_pre (B := T.setTop (mkF m 89 #[.val (.long q0), .second, .val (.long q1), .second, .val (.int p2), .val (.long t0), .second, .val (.int (p2 &&& (3 : Int32))), .unset, .unset, .unset, .unset, .unset] [(.long (9223372036854775807 : Int64))])) (fun t k => X.ldc2Long hx hown (mvT hZ (hw _ (List.mem_of_getElem? (i := 0) rfl))) (g := (mkF m 86 #[.val (.long q0), .second, .val (.long q1), .second, .val (.int p2), .val (.long t0), .second, .val (.int (p2 &&& (3 : Int32))), .unset, .unset, .unset, .unset, .unset] [])) rfl (hb hby at_86) _ k) ?_
          refine own_pre (B := T.setTop (mkF m 91 #[.val (.long q0), .second, .val (.long q1), .second, .val (.int p2), .val (.long t0), .second, .val (.int (p2 &&& (3 : Int32))), .val (.long (9223372036854775807 : Int64)), .second, .unset, .unset, .unset] [])) (fun t k => XS.lstore X.here hx rfl (hb hby at_89) rfl (l' := #[.val (.long q0), .second, .val (.long q1), .second, .val (.int p2), .val (.long t0), .second, .val (.int (p2 &&& (3 : Int32))), .val (.long (9223372036854775807 : Int64)), .second, .unset, .unset, .unset]) rfl k) ?_
          refine own_pre (B := T.setTop (mkF m 101 #[.val (.long q0), .second, .val (.long q1), .second, .val (.int p2), .val (.long t0), .second, .val (.int (p2 &&& (3 : Int32))), .val (.long (9223372036854775807 : Int64)), .second, .unset, .unset, .unset] [])) (fun t k => XS.goto X.here hx rfl (pc0 := 91) (pc' := 101) rfl (hb hby at_91) (by decide) (by decide) k) ?_
          exact g_101 T _ X N Zs t0 (p2 &&& (3 : Int32)) (9223372036854775807 : Int64) .unset .unset (Or.inl ⟨rfl, rfl⟩) _ hr8
        · have hr9 := hr6.trans (if_neg hc7)
          refine own_pre (B := T.setTop (mkF m 94 #[.val (.long q0), .second, .val (.long q1), .second, .val (.int p2), .val (.long t0), .second, .val (.int (p2 &&& (3 : Int32))), .unset, .unset, .unset, .unset, .unset] [])) (fun t k => XS.icmpYes X.here hx rfl (pc0 := 83) (pc' := 94) rfl (hb hby at_83) rfl (feq hc7).2 (by decide) (by decide) k) ?_
          refine own_pre (B := T.setTop (mkF m 95 #[.val (.long q0), .second, .val (.long q1), .second, .val (.int p2), .val (.long t0), .second, .val (.int (p2 &&& (3 : Int32))), .unset, .unset, .unset, .unset, .unset] [(.long q1)])) (fun t k => XS.lloadN X.here hx rfl (hb hby at_94) rfl k) ?_
          refine own_pre (B := T.setTop (mkF m 98 #[.val (.long q0), .second, .val (.long q1), .second, .val (.int p2), .val (.long t0), .second, .val (.int (p2 &&& (3 : Int32))), .unset, .unset, .unset, .unset, .unset] [(.long (255 : Int64)), (.long q1)])) (fun t k => X.ldc2Long hx hown (mvT hZ (hw _ (List.mem_of_getElem? (i := 24) rfl))) (g := (mkF m 95 #[.val (.long q0), .second, .val (.long q1), .second, .val (.int p2), .val (.long t0), .second, .val (.int (p2 &&& (3 : Int32))), .unset, .unset, .unset, .unset, .unset] [(.long q1)])) rfl (hb hby at_95) _ k) ?_
          refine own_pre (B := T.setTop (mkF m 99 #[.val (.long q0), .second, .val (.long q1), .second, .val (.int p2), .val (.long t0), .second, .val (.int (p2 &&& (3 : Int32))), .unset, .unset, .unset, .unset, .unset] [(.long (q1 &&& (255 : Int64)))])) (fun t k => XS.land X.here hx rfl (hb hby at_98) rfl k) ?_
          refine own_pre (B := T.setTop (mkF m 101 #[.val (.long q0), .second, .val (.long q1), .second, .val (.int p2), .val (.long t0), .second, .val (.int (p2 &&& (3 : Int32))), .val (.long (q1 &&& (255 : Int64))), .second, .unset, .unset, .unset] [])) (fun t k => XS.lstore X.here hx rfl (hb hby at_99) rfl (l' := #[.val (.long q0), .second, .val (.long q1), .second, .val (.int p2), .val (.long t0), .second, .val (.int (p2 &&& (3 : Int32))), .val (.long (q1 &&& (255 : Int64))), .second, .unset, .unset, .unset]) rfl k) ?_
          exact g_101 T _ X N Zs t0 (p2 &&& (3 : Int32)) (q1 &&& (255 : Int64)) .unset .unset (Or.inl ⟨rfl, rfl⟩) _ hr9
  have g_0 : ∀ r, r = f0_0 q0 q1 p2 → own_Fin p e below s (fun v h L => v = some (.int r) ∧ Fr n0 L) room_1.cells room_1.slots (s₁.setTop (mkF m 0 #[.val (.long q0), .second, .val (.long q1), .second, .val (.int p2), .unset, .unset, .unset, .unset, .unset, .unset, .unset, .unset] [])) := by
    intro r hr
    have hr : r = (if ((p2 >>> ((4 : Int32) &&& 31)) &&& (1 : Int32)) = (0 : Int32) then (f0_22 q0 q1 p2 (q0 &&& (9223372036854775807 : Int64))) else (f0_22 q0 q1 p2 (q0 &&& (255 : Int64)))) := hr
    refine own_pre (B := s₁.setTop (mkF m 2 #[.val (.long q0), .second, .val (.long q1), .second, .val (.int p2), .unset, .unset, .unset, .unset, .unset, .unset, .unset, .unset] [(.int p2)])) (fun t k => XS.iload X0.here hx rfl (hb hby at_0) rfl k) ?_
    refine own_pre (B := s₁.setTop (mkF m 3 #[.val (.long q0), .second, .val (.long q1), .second, .val (.int p2), .unset, .unset, .unset, .unset, .unset, .unset, .unset, .unset] [(.int (4 : Int32)), (.int p2)])) (fun t k => XS.iconst X0.here hx rfl (hb hby at_2) k) ?_
    refine own_pre (B := s₁.setTop (mkF m 4 #[.val (.long q0), .second, .val (.long q1), .second, .val (.int p2), .unset, .unset, .unset, .unset, .unset, .unset, .unset, .unset] [(.int (p2 >>> ((4 : Int32) &&& 31)))])) (fun t k => XS.ishr X0.here hx rfl (hb hby at_3) rfl k) ?_
    refine own_pre (B := s₁.setTop (mkF m 5 #[.val (.long q0), .second, .val (.long q1), .second, .val (.int p2), .unset, .unset, .unset, .unset, .unset, .unset, .unset, .unset] [(.int (1 : Int32)), (.int (p2 >>> ((4 : Int32) &&& 31)))])) (fun t k => XS.iconst X0.here hx rfl (hb hby at_4) k) ?_
    refine own_pre (B := s₁.setTop (mkF m 6 #[.val (.long q0), .second, .val (.long q1), .second, .val (.int p2), .unset, .unset, .unset, .unset, .unset, .unset, .unset, .unset] [(.int ((p2 >>> ((4 : Int32) &&& 31)) &&& (1 : Int32)))])) (fun t k => XS.iand X0.here hx rfl (hb hby at_5) rfl k) ?_
    by_cases hc1 : ((p2 >>> ((4 : Int32) &&& 31)) &&& (1 : Int32)) = (0 : Int32)
    · have hr2 := hr.trans (if_pos hc1)
      refine own_pre (B := s₁.setTop (mkF m 17 #[.val (.long q0), .second, .val (.long q1), .second, .val (.int p2), .unset, .unset, .unset, .unset, .unset, .unset, .unset, .unset] [])) (fun t k => XS.ifYes X0.here hx rfl (pc0 := 6) (pc' := 17) rfl (hb hby at_6) rfl ((if0 _ _).trans (teq hc1).1) (by decide) (by decide) k) ?_
      refine own_pre (B := s₁.setTop (mkF m 18 #[.val (.long q0), .second, .val (.long q1), .second, .val (.int p2), .unset, .unset, .unset, .unset, .unset, .unset, .unset, .unset] [(.long q0)])) (fun t k => XS.lloadN X0.here hx rfl (hb hby at_17) rfl k) ?_
      refine own_pre (B := s₁.setTop (mkF m 21 #[.val (.long q0), .second, .val (.long q1), .second, .val (.int p2), .unset, .unset, .unset, .unset, .unset, .unset, .unset, .unset] [(.long (9223372036854775807 : Int64)), (.long q0)])) (fun t k => X0.ldc2Long hx hown (mvT hZ (hw _ (List.mem_of_getElem? (i := 0) rfl))) (g := (mkF m 18 #[.val (.long q0), .second, .val (.long q1), .second, .val (.int p2), .unset, .unset, .unset, .unset, .unset, .unset, .unset, .unset] [(.long q0)])) rfl (hb hby at_18) _ k) ?_
      refine own_pre (B := s₁.setTop (mkF m 22 #[.val (.long q0), .second, .val (.long q1), .second, .val (.int p2), .unset, .unset, .unset, .unset, .unset, .unset, .unset, .unset] [(.long (q0 &&& (9223372036854775807 : Int64)))])) (fun t k => XS.land X0.here hx rfl (hb hby at_21) rfl k) ?_
      exact g_22 s₁ _ X0 N0 Zs0 (q0 &&& (9223372036854775807 : Int64)) _ hr2
    · have hr3 := hr.trans (if_neg hc1)
      refine own_pre (B := s₁.setTop (mkF m 9 #[.val (.long q0), .second, .val (.long q1), .second, .val (.int p2), .unset, .unset, .unset, .unset, .unset, .unset, .unset, .unset] [])) (fun t k => XS.ifNo X0.here hx rfl (hb hby at_6) rfl ((if0 _ _).trans (feq hc1).1) k) ?_
      refine own_pre (B := s₁.setTop (mkF m 10 #[.val (.long q0), .second, .val (.long q1), .second, .val (.int p2), .unset, .unset, .unset, .unset, .unset, .unset, .unset, .unset] [(.long q0)])) (fun t k => XS.lloadN X0.here hx rfl (hb hby at_9) rfl k) ?_
      refine own_pre (B := s₁.setTop (mkF m 13 #[.val (.long q0), .second, .val (.long q1), .second, .val (.int p2), .unset, .unset, .unset, .unset, .unset, .unset, .unset, .unset] [(.long (255 : Int64)), (.long q0)])) (fun t k => X0.ldc2Long hx hown (mvT hZ (hw _ (List.mem_of_getElem? (i := 24) rfl))) (g := (mkF m 10 #[.val (.long q0), .second, .val (.long q1), .second, .val (.int p2), .unset, .unset, .unset, .unset, .unset, .unset, .unset, .unset] [(.long q0)])) rfl (hb hby at_10) _ k) ?_
      refine own_pre (B := s₁.setTop (mkF m 14 #[.val (.long q0), .second, .val (.long q1), .second, .val (.int p2), .unset, .unset, .unset, .unset, .unset, .unset, .unset, .unset] [(.long (q0 &&& (255 : Int64)))])) (fun t k => XS.land X0.here hx rfl (hb hby at_13) rfl k) ?_
      refine own_pre (B := s₁.setTop (mkF m 22 #[.val (.long q0), .second, .val (.long q1), .second, .val (.int p2), .unset, .unset, .unset, .unset, .unset, .unset, .unset, .unset] [(.long (q0 &&& (255 : Int64)))])) (fun t k => XS.goto X0.here hx rfl (pc0 := 14) (pc' := 22) rfl (hb hby at_14) (by decide) (by decide) k) ?_
      exact g_22 s₁ _ X0 N0 Zs0 (q0 &&& (255 : Int64)) _ hr3
  exact own_pre pre0 (g_0 _ rfl)
theorem own_end (a b : Int64) (ha : 0 ≤ a.toInt) (hb : 0 ≤ b.toInt) : f4_0 a b = if (0 : Int32) < lcmpW a ((9223372036854775807 : Int64) - b) then (9223372036854775807 : Int64) else a + b := by
  have s1 := c_ladd a b
  have s2 := c_lsub 9223372036854775807 b
  have r0 := rng64 a
  have r1 := rng64 b
  have r2 := rng64 (a + b)
  have r3 := rng64 (9223372036854775807 - b)
  rw [show (9223372036854775807 : Int64).toInt = 9223372036854775807 from rfl] at s2
  have d2 : ((9223372036854775807 : Int64) - b).toInt = 9223372036854775807 - b.toInt := by omega
  unfold f4_0 f4_29
  simp only [lw_lt, lw_gt, Int64.lt_iff_toInt_lt, d2, show (0 : Int64).toInt = 0 from rfl]
  by_cases q : 9223372036854775807 - b.toInt < a.toInt
  · rw [if_pos q, if_pos (by omega)]
  · rw [if_neg q, if_neg (by omega)]
theorem own_124 (q0 q1 : Int64) (p2 : Int32) (a : Int64) (i : Int32) (b t : Int64) (h : f4_0 a b = t) : f0_124 q0 q1 p2 a i b t = 1 := by
  unfold f0_124
  rw [if_pos ((lw_eq _ _).mpr h)]; rfl
theorem own_101 (q0 q1 : Int64) (p2 : Int32) (a : Int64) (i : Int32) (b : Int64) (ha : 0 ≤ a.toInt) (hb : 0 ≤ b.toInt) : f0_101 q0 q1 p2 a i b = 1 := by
  have k := own_end a b ha hb
  unfold f0_101
  by_cases q : (0 : Int32) < lcmpW a ((9223372036854775807 : Int64) - b)
  · rw [if_pos q] at k ⊢; exact own_124 _ _ _ _ _ _ _ k
  · rw [if_neg q] at k ⊢; exact own_124 _ _ _ _ _ _ _ k
theorem own_big (a : Int64) : 0 ≤ (a &&& (9223372036854775807 : Int64)).toInt := by
  have := c_maskL a 9223372036854775807 63 (by decide) (by decide)
  omega
theorem own_small (a : Int64) : 0 ≤ (a &&& (255 : Int64)).toInt := by
  have := c_maskL a 255 8 (by decide) (by decide)
  omega
theorem own_22 (q0 q1 : Int64) (p2 : Int32) (a : Int64) (ha : 0 ≤ a.toInt) : f0_22 q0 q1 p2 a = 1 := by
  unfold f0_22
  rw [own_101 _ _ _ _ _ _ ha (own_big _), own_101 _ _ _ _ _ _ ha (own_big _), own_101 _ _ _ _ _ _ ha (by decide), own_101 _ _ _ _ _ _ ha (own_small _)]
  split
  · rfl
  · split
    · rfl
    · split <;> rfl
theorem own_law (q0 q1 : Int64) (p2 : Int32) : f0_0 q0 q1 p2 = 1 := by
  unfold f0_0
  rw [own_22 _ _ _ _ (own_big _), own_22 _ _ _ _ (own_small _)]
  split <;> rfl
set_option maxRecDepth 65536 in
set_option maxHeartbeats 40000000 in
theorem comes_1 {Post : Tables → Env → Array Value → State → Outcome → State → Prop} (hpost : ∀ tb e args s v u, (limb_1_1.after args s (.returned v) u = true ∧ limb_1_2.after args s (.returned v) u = true ∧ True) → FrameEnd s (.returned v) u (Jvm.fieldLocs frame_1_writes args s ++ Jvm.arrayLocs frame_1_arrays args s ++ Jvm.staticLocs frame_1_statics s) 16 128 → Post tb e args s (.returned v) u) :
    ArmFor flags0 classFile x code maxLocals ret World_1 tables_1 room_1 Calls_1 rest_1 Pre_1 Post := by
  intro l hfl _ _ p e ha hc hk s m args below hf hA hF happ hP
  obtain ⟨hcalls, hrest, hpre⟩ := hP
  obtain ⟨-, -, -, hnamed, -, -, -, hat⟩ := (Spec.applies_iff hf).mp happ
  obtain ⟨hg, hn⟩ := and_e (Cond.before_iff.mp (show (Jvm.Cond.and given_1 narrow_1).before args s = true from hpre))
  obtain ⟨gg1, gg2⟩ := and_e hg
  obtain ⟨gg3, gg4⟩ := and_e gg2
  obtain ⟨gg5, gg6⟩ := and_e gg4
  obtain ⟨w0, w1, w2, rfl⟩ : ∃ w0 w1 w2 : Value, args = #[w0, w1, w2] := by
    have hs : args.size = 3 := by simpa [Cond.value, given_1] using gg1
    obtain ⟨L⟩ := args
    match L, hs with
    | [w0, w1, w2], _ => exact ⟨w0, w1, w2, rfl⟩
  have hw := fun d (hd : d ∈ tables_1) => atoms_spec (ws := Jvm.Cond.code x code maxLocals ret :: tables_1) hat d (List.mem_cons_of_mem _ hd)
  obtain ⟨i0, ei0⟩ := isL_v gg3
  obtain rfl : w0 = (.long i0) := Option.some.inj ei0
  obtain ⟨i1, ei1⟩ := isL_v gg5
  obtain rfl : w1 = (.long i1) := Option.some.inj ei1
  obtain ⟨i2, ei2⟩ := is_v gg6
  obtain rfl : w2 = (.int i2) := Option.some.inj ei2
  obtain ⟨n, o, h1, h2, h3, _, L, rfl, ⟨rfl, N⟩, hq⟩ := rm0 l s _ hw tables_1 i0 i1 i2 s.heap s.heap.size (Nat.le_refl _) p e ha hc hk s m _ below hf ((Spec.applies_iff_loose hf).mp happ).1 ⟨rfl, State.Warmed39.refl s, rfl⟩ trivial
  refine ⟨n, _, h1, h2, h3, hpost _ _ _ _ _ _ ⟨Cond.after_iff.mpr rfl, Cond.after_iff.mpr (eq_i res_at (Term.int_eval (1)) (congrArg Value.int (own_law i0 i1 i2))), trivial⟩ ⟨hq.1, hq.2.1, (hq.2.2.sift fun y hy => Or.inr (N y hy)).mono (by decide) (by decide)⟩⟩
theorem main_1_1 : Claimed_1_1 := comes_1 fun _ _ _ _ _ _ h hF => ⟨h.1, hF⟩
theorem main_1_2 : Claimed_1_2 := comes_1 fun _ _ _ _ _ _ h hF => ⟨h.2.1, hF⟩
end Jvm.Pilot.@@N@@
namespace Jvm.Pilot.@@N@@
open Jvm Jvm.ClassFile Sem Op Lib Jvm.Free Jvm.Stand Jvm.Pilot.@@N@@.Jvm.D
/-! MADE BY PROGRAM (witnessworld.py) out of the Statement's table words and the real class files: 8 classes; the members and pool entries that the words name. The judged class is class 1, her method 1. -/
namespace start1
open Jvm.ClassFile
def u (s : String) : CpInfo := .utf8 (stringToUtf16 s)
/-- a pool by its gaps: so many unusable entries, then the entry; so many at the end -/
def gap : Nat → List CpInfo → List CpInfo
  | 0, r => r
  | n + 1, r => .unusable :: gap n r
def poolList (es : List (Nat × CpInfo)) (last : Nat) : List CpInfo := es.foldr (fun e r => gap e.1 (e.2 :: r)) (gap last [])
def pool (es : List (Nat × CpInfo)) (last : Nat) : Array CpInfo := ⟨poolList es last⟩
def fileOf (pool : Array CpInfo) (this : Nat) (attrs : Array Attribute := #[]) (ms : Array MethodInfo := #[]) (fl : Nat := 33) (sup : Nat := 0) (ifs : Array Nat := #[]) (fds : Array FieldInfo := #[]) : ClassFile where
  minorVersion := 0
  majorVersion := 65
  constantPool := pool
  accessFlags := fl
  thisClass := this
  superClass := sup
  interfaces := ifs
  fields := fds
  methods := ms
  attributes := attrs
def plain (name : String) (sup : Option ClassId) : Class where
  name := name
  kind := .ordinary
  loader := none
  accessFlags := 33
  super := sup
  interfaces := #[]
  cf := none
  fields := #[]
  methods := #[]
  instanceTypes := #[]
  staticTypes := #[]
  resolved := #[]
  callSites := []
  init := .initialized
  statics := none
  mirror := none

def pool0 : Array CpInfo := pool [(5, u "<init>"), (0, u "()V"), (1, .class_ 10), (1, u "java/lang/Object")] 113

def k0c0 : Code := { maxStack := 0, maxLocals := 1, code := object_method_1_code, exceptionTable := #[], attributes := #[] }
def k0m0 : Method := { name := "<init>", desc := "()V", sig := { parameters := [], returnType := none }, accessFlags := 1, code := some k0c0 }
/-- java/lang/Object -/
def k0 : Class := { plain "java/lang/Object" none with
  accessFlags := 33
  interfaces := #[]
  cf := some (fileOf pool0 8 #[] #[{ accessFlags := 1, nameIndex := 5, descriptorIndex := 6, attributes := #[] }] 33 0 #[] #[])
  fields := #[]
  methods := #[k0m0]
  instanceTypes := #[]
  staticTypes := #[]
  resolved := Array.replicate 124 none
  statics := none }

def pool1 : Array CpInfo := pool [(2, .class_ 4), (1, u "java/lang/Object"), (0, u "<init>"), (0, u "()V"), (0, .long 255), (3, .long 9223372036854775807), (1, .class_ 14), (0, u "com/example/quillon/quillon/engine/Paging"), (0, .methodref 13 16), (0, .nameAndType 5 17), (0, u "(JJ)V"), (0, .methodref 13 19), (0, .nameAndType 20 21), (0, u "end"), (0, u "()J"), (0, .class_ 23), (0, u "com/example/quillon/quillon/engine/PagingEndPinLaw"), (2, u "law"), (0, u "(JJI)Z")] 3

def k1m0 : Method := { name := "<init>", desc := "()V", sig := { parameters := [], returnType := none }, accessFlags := 1, code := none }
def k1c1 : Code := { maxStack := 6, maxLocals := 13, code := code, exceptionTable := #[], attributes := #[] }
def k1m1 : Method := { name := "law", desc := "(JJI)Z", sig := { parameters := [.long, .long, .int], returnType := some .boolean }, accessFlags := 9, code := some k1c1 }
/-- com/example/quillon/quillon/engine/PagingEndPinLaw -/
def k1 : Class := { plain "com/example/quillon/quillon/engine/PagingEndPinLaw" (some 0) with
  accessFlags := 49
  interfaces := #[]
  cf := some (fileOf pool1 22 #[] #[{ accessFlags := 1, nameIndex := 5, descriptorIndex := 6, attributes := #[] }, { accessFlags := 9, nameIndex := 26, descriptorIndex := 27, attributes := #[] }] 49 2 #[] #[])
  fields := #[]
  methods := #[k1m0, k1m1]
  instanceTypes := #[]
  staticTypes := #[]
  resolved := Array.replicate 31 none
  statics := none }

def pool2 : Array CpInfo := pool [(1, .methodref 2 3), (0, .class_ 4), (0, .nameAndType 5 6), (0, u "java/lang/Object"), (0, u "<init>"), (0, u "()V"), (0, .class_ 8), (0, u "java/lang/Record")] 13

def k2c0 : Code := { maxStack := 1, maxLocals := 1, code := jdk_30_method_1_code, exceptionTable := #[], attributes := #[] }
def k2m0 : Method := { name := "<init>", desc := "()V", sig := { parameters := [], returnType := none }, accessFlags := 4, code := some k2c0 }
/-- java/lang/Record -/
def k2 : Class := { plain "java/lang/Record" (some 0) with
  accessFlags := 1057
  interfaces := #[]
  cf := some (fileOf pool2 7 #[] #[{ accessFlags := 4, nameIndex := 5, descriptorIndex := 6, attributes := #[] }] 1057 2 #[] #[])
  fields := #[]
  methods := #[k2m0]
  instanceTypes := #[]
  staticTypes := #[]
  resolved := Array.replicate 22 none
  statics := none }

def pool3 : Array CpInfo := pool [(1, .methodref 2 3), (0, .class_ 4), (0, .nameAndType 5 6), (0, u "java/lang/Record"), (0, u "<init>"), (0, u "()V"), (0, .fieldref 8 9), (0, .class_ 10), (0, .nameAndType 11 12), (0, u "com/example/quillon/quillon/engine/Paging"), (0, u "offset"), (0, u "J"), (0, .fieldref 8 14), (0, .nameAndType 15 12), (0, u "limit"), (15, .class_ 32), (0, u "com/example/quillon/quillon/engine/Paging$Counts"), (49, .long 9223372036854775807), (15, u "end"), (0, u "()J"), (18, u "(JJ)V"), (2, u "ALL"), (0, u "Lcom/example/quillon/quillon/engine/Paging;")] 38

def k3c0 : Code := { maxStack := 3, maxLocals := 5, code := prog_91_method_1_code, exceptionTable := #[], attributes := #[] }
def k3m0 : Method := { name := "<init>", desc := "(JJ)V", sig := { parameters := [.long, .long], returnType := none }, accessFlags := 0, code := some k3c0 }
def k3c1 : Code := { maxStack := 4, maxLocals := 1, code := prog_91_method_5_code, exceptionTable := #[], attributes := #[] }
def k3m1 : Method := { name := "end", desc := "()J", sig := { parameters := [], returnType := some .long }, accessFlags := 0, code := some k3c1 }
/-- com/example/quillon/quillon/engine/Paging -/
def k3 : Class := { plain "com/example/quillon/quillon/engine/Paging" (some 2) with
  accessFlags := 48
  interfaces := #[]
  cf := some (fileOf pool3 8 #[.nestMembers #[31]] #[{ accessFlags := 0, nameIndex := 5, descriptorIndex := 118, attributes := #[] }, { accessFlags := 0, nameIndex := 98, descriptorIndex := 99, attributes := #[] }] 48 2 #[] #[{ accessFlags := 18, nameIndex := 11, descriptorIndex := 12, attributes := #[] }, { accessFlags := 18, nameIndex := 15, descriptorIndex := 12, attributes := #[] }, { accessFlags := 24, nameIndex := 121, descriptorIndex := 122, attributes := #[] }])
  fields := #[{ name := "offset", type := .long, accessFlags := 18, slot := 0, constantValue := 0 }, { name := "limit", type := .long, accessFlags := 18, slot := 1, constantValue := 0 }, { name := "ALL", type := (.object "com/example/quillon/quillon/engine/Paging"), accessFlags := 24, slot := 0, constantValue := 0 }]
  methods := #[k3m0, k3m1]
  instanceTypes := #[.long, .long]
  staticTypes := #[(.object "com/example/quillon/quillon/engine/Paging")]
  resolved := Array.replicate 161 none
  statics := none }

def pool4 : Array CpInfo := pool [(1, u "java/lang/Cloneable"), (0, .class_ 1), (0, u "java/lang/Object"), (0, .class_ 3)] 3

/-- java/lang/Cloneable -/
def k4 : Class := { plain "java/lang/Cloneable" (some 0) with
  accessFlags := 1537
  interfaces := #[]
  cf := some (fileOf pool4 2 #[] #[] 1537 4 #[] #[])
  fields := #[]
  methods := #[]
  instanceTypes := #[]
  staticTypes := #[]
  resolved := Array.replicate 8 none
  statics := none }

def pool5 : Array CpInfo := pool [(1, u "java/io/Serializable"), (0, .class_ 1), (0, u "java/lang/Object"), (0, .class_ 3)] 3

/-- java/io/Serializable -/
def k5 : Class := { plain "java/io/Serializable" (some 0) with
  accessFlags := 1537
  interfaces := #[]
  cf := some (fileOf pool5 2 #[] #[] 1537 4 #[] #[])
  fields := #[]
  methods := #[]
  instanceTypes := #[]
  staticTypes := #[]
  resolved := Array.replicate 8 none
  statics := none }

/-- the primitive byte -/
def k6 : Class := { plain "byte" none with kind := .primitive 'B', accessFlags := 0x411 }
/-- [B -/
def k7 : Class := { plain "[B" (some 0) with kind := .array 6 .byte, interfaces := #[4, 5], accessFlags := 1041 }

def heap : Heap := #[]
def classes : Array Class := #[k0, k1, k2, k3, k4, k5, k6, k7]
def interned : List (Array UInt16 × Addr) := []
def slotsUsed : Nat := 0
def theMethod : MethodId := ⟨1, 1⟩
def args0 : Array Value := #[.long 5, .long 7, .int 3]
def aboutOver (below : List Frame) : State where
  vm := { classes := classes, interned := interned.toArray }
  heap := heap
  slotsUsed := slotsUsed
  threads := #[{ frames := .invoking theMethod args0 :: below }]
def below0 : List Frame := [.native { method := ⟨0, 0⟩, args := #[] }]
def about1 : State := aboutOver below0
def p0 : Program := .bare "" "" ""
def e0 : Env := launch0.env 0 0 0
theorem w_frames : about1.frames = Frame.invoking theMethod args0 :: below0 := rfl
set_option maxRecDepth 65536 in
theorem w_args : argsFit about1.vm theMethod args0 = true := by decide +kernel
set_option maxRecDepth 65536 in
theorem w_heap : heapFits about1 = true := by decide +kernel
set_option maxRecDepth 65536 in
theorem w_runnable : about1.curStatus? = some .runnable := by decide +kernel
set_option maxRecDepth 65536 in
theorem w_alone : about1.alone = true := by decide +kernel
set_option maxRecDepth 65536 in
theorem w_named : about1.methodNamed? x = some theMethod := by decide +kernel
set_option maxRecDepth 65536 in
theorem w_hears : about1.hears theMethod below0 = true := by decide +kernel
set_option maxRecDepth 65536 in
theorem w_ripe : about1.ripe theMethod args0 below0 = true := by decide +kernel
theorem w_running : about1.status = .running := rfl
set_option maxRecDepth 65536 in
theorem w_room : about1.hasRoom e0.platform room_1 = true :=
  launch0.hasRoom_least _ room_1 (by decide +kernel) (by decide +kernel) (by decide +kernel) (by decide +kernel) (by decide +kernel) (by decide +kernel)
theorem allAtoms_all (ts : List Jvm.Cond) (a : Array Jvm.Value) (st : Jvm.State) : (allAtoms ts).before a st = ts.all (fun c => c.before a st) := by
  induction ts with
  | nil => rfl
  | cons c t ih =>
    show (Jvm.Cond.and c (allAtoms t)).before a st = _
    rw [Jvm.Cond.before_and, ih, List.all_cons]
def words1 : List Jvm.Cond := Jvm.Cond.code x code maxLocals ret :: tables_1
/-- a 'code' word, met by the world's own term for the bytes: nothing is compared byte by byte -/
theorem code_word {y : MethodName} {bytes : ByteArray} {mx : Nat} {rt : Option FieldType} {a : Array Value} {s : State} {m : MethodId} {meth : Method} {c : Code} (h1 : s.methodNamed? y = some m) (h2 : s.vm.method? m = some meth) (h3 : meth.code = some c) (h4 : c.code = bytes)
    (h5 : (c.maxLocals == mx && c.exceptionTable.isEmpty && decide (c.maxStack ≤ mostOperands) && decide (meth.sig.returnType = rt) && !meth.locks && decide (parseMethodDescriptor y.desc = some meth.sig)) = true) : (Jvm.Cond.code y bytes mx rt).before a s = true := by
  simp only [Bool.and_eq_true, beq_iff_eq, Bool.not_eq_true', decide_eq_true_eq] at h5
  obtain ⟨⟨⟨⟨⟨g1, g2⟩, g3⟩, g4⟩, g5⟩, g6⟩ := h5
  simp [Cond.before, Cond.holds, Cond.value, h1, h2, h3, h4, g1, g2, g3, g4, g5, g6]
def isCode : Jvm.Cond → Bool
  | .code _ _ _ _ => true
  | _ => false
theorem all_split {L : List Jvm.Cond} {P : Jvm.Cond → Bool} (h1 : L.all (fun c => isCode c || P c) = true) (h2 : ∀ c ∈ L.filter isCode, P c = true) : L.all P = true := by
  refine List.all_eq_true.mpr fun c hc => ?_
  have h := List.all_eq_true.mp h1 c hc
  rcases Bool.eq_false_or_eq_true (isCode c) with hi | hi
  · exact h2 c (List.mem_filter.mpr ⟨hc, hi⟩)
  · simpa [hi] using h
set_option maxRecDepth 65536 in
theorem w_c0 : (Jvm.Cond.code x code maxLocals ret).before args0 about1 = true := code_word (m := ⟨1, 1⟩) (meth := k1m1) (c := k1c1) (by decide +kernel) rfl rfl rfl (by decide +kernel)
set_option maxRecDepth 65536 in
theorem w_c1 : (Jvm.Cond.code ({ cls := "com/example/quillon/quillon/engine/Paging", name := "<init>", desc := "(JJ)V" } : Jvm.MethodName) prog_91_method_1_code (5 : Nat) (Option.none : Option Jvm.ClassFile.FieldType)).before args0 about1 = true := code_word (m := ⟨3, 0⟩) (meth := k3m0) (c := k3c0) (by decide +kernel) rfl rfl rfl (by decide +kernel)
set_option maxRecDepth 65536 in
theorem w_c2 : (Jvm.Cond.code ({ cls := "java/lang/Record", name := "<init>", desc := "()V" } : Jvm.MethodName) jdk_30_method_1_code (1 : Nat) (Option.none : Option Jvm.ClassFile.FieldType)).before args0 about1 = true := code_word (m := ⟨2, 0⟩) (meth := k2m0) (c := k2c0) (by decide +kernel) rfl rfl rfl (by decide +kernel)
set_option maxRecDepth 65536 in
theorem w_c3 : (Jvm.Cond.code ({ cls := "java/lang/Object", name := "<init>", desc := "()V" } : Jvm.MethodName) object_method_1_code (1 : Nat) (Option.none : Option Jvm.ClassFile.FieldType)).before args0 about1 = true := code_word (m := ⟨0, 0⟩) (meth := k0m0) (c := k0c0) (by decide +kernel) rfl rfl rfl (by decide +kernel)
set_option maxRecDepth 65536 in
theorem w_c4 : (Jvm.Cond.code ({ cls := "com/example/quillon/quillon/engine/Paging", name := "end", desc := "()J" } : Jvm.MethodName) prog_91_method_5_code (1 : Nat) (Option.some Jvm.ClassFile.FieldType.long)).before args0 about1 = true := code_word (m := ⟨3, 1⟩) (meth := k3m1) (c := k3c1) (by decide +kernel) rfl rfl rfl (by decide +kernel)
def codes1 : List Jvm.Cond := [Jvm.Cond.code x code maxLocals ret, Jvm.Cond.code ({ cls := "com/example/quillon/quillon/engine/Paging", name := "<init>", desc := "(JJ)V" } : Jvm.MethodName) prog_91_method_1_code (5 : Nat) (Option.none : Option Jvm.ClassFile.FieldType), Jvm.Cond.code ({ cls := "java/lang/Record", name := "<init>", desc := "()V" } : Jvm.MethodName) jdk_30_method_1_code (1 : Nat) (Option.none : Option Jvm.ClassFile.FieldType), Jvm.Cond.code ({ cls := "java/lang/Object", name := "<init>", desc := "()V" } : Jvm.MethodName) object_method_1_code (1 : Nat) (Option.none : Option Jvm.ClassFile.FieldType), Jvm.Cond.code ({ cls := "com/example/quillon/quillon/engine/Paging", name := "end", desc := "()J" } : Jvm.MethodName) prog_91_method_5_code (1 : Nat) (Option.some Jvm.ClassFile.FieldType.long)]
set_option maxRecDepth 65536 in
theorem codes_eq : words1.filter isCode = codes1 := rfl
theorem w_codes : ∀ c ∈ words1.filter isCode, c.before args0 about1 = true := by
  rw [codes_eq]
  intro c hc
  simp only [codes1, List.mem_cons, List.not_mem_nil, or_false] at hc
  rcases hc with rfl | rfl | rfl | rfl | rfl
  · exact w_c0
  · exact w_c1
  · exact w_c2
  · exact w_c3
  · exact w_c4
set_option maxRecDepth 65536 in
theorem w_t1 : (words1.take 24).all (fun c => isCode c || c.before args0 about1) = true := by decide +kernel
set_option maxRecDepth 65536 in
theorem w_t2 : (words1.drop 24).all (fun c => isCode c || c.before args0 about1) = true := by decide +kernel
theorem w_tables : (allAtoms (Jvm.Cond.code x code maxLocals ret :: tables_1)).before args0 about1 = true := by
  rw [allAtoms_all]
  show words1.all (fun c => c.before args0 about1) = true
  refine all_split ?_ w_codes
  rw [← List.take_append_drop 24 words1, List.all_append, w_t1, w_t2]
  rfl
set_option maxRecDepth 65536 in
theorem w_case : (Jvm.Cond.and given_1 narrow_1).before args0 about1 = true := by decide +kernel
theorem w_applies : (headSpec (Jvm.Cond.code x code maxLocals ret :: tables_1) room_1).applies x e0.platform about1 = true :=
  (Spec.applies_iff w_frames).mpr ⟨w_running, w_runnable, w_alone, w_named, w_hears, w_ripe, w_room, w_tables⟩
theorem atStart : AtStart classFile x code maxLocals ret World_1 tables_1 room_1 Calls_1 rest_1 Pre_1 launch0 p0 e0 about1 theMethod args0 below0 :=
  ⟨lists_1, trivial, launch0.admits_env _ _ _, launch0.least_env, fairChoices_fair.cas, fairChoices_fair.clock, w_frames, w_args, w_heap, w_applies, trivial, trivial, w_case⟩
end start1
theorem witness_1 : WitnessClaimed_1 := ⟨start1.p0, start1.e0, start1.about1, start1.theMethod, start1.args0, start1.below0, start1.atStart⟩
end Jvm.Pilot.@@N@@
