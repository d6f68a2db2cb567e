import JvmDerived
import JvmDerived.Pilot.@@N@@Statement
import JvmDerived.Pilot.@@N@@Code
set_option linter.unusedVariables false
set_option linter.unusedSimpArgs false
namespace Jvm.RoadKit
open Sem ClassFile Op Lib Jvm.Stand Jvm.Free Jvm.LawKit
section New
variable {p : Program} {l : Launch} {e : Env} {R : Room} {s : State} {m : MethodId} {args : Array Value} {below : List Frame} {meth : Method} {c : Code} {T : State} {locs : List Loc} {cells slots : Nat}
theorem retI (X : Stand p l e R s m args below meth c T locs cells slots) (hx : p.tables.exec = Jvm.exec) {pc : Nat} {Ls : Array Slot} {z : Int32} {rest : List Value} (hret : meth.sig.returnType = some .int) (hd : decode c.code pc = .ok (.ireturn, 1)) {fs : List Frame}
    (hl : ∀ (f : JFrame) (acts : List Action), f.method = m → f.locked = none → f.entered = [] → (doReturn e (T.setTop f) acts (some (.int z))).1 = T.setFrames fs) : Steps p.tables e below (T.setTop (mkF m pc Ls (.int z :: rest))) (T.setFrames fs) := by
  have hm' : T.vm.method? m = some meth := X.method'
  have hn : narrow .int (.int z) = .int z := rfl
  show Steps p.tables e below (T.setTop { method := m, pc := pc, locals := Ls, stack := _ :: rest, locked := none }) _
  jvm_step X.here [X.here.top, hx, hd, hm', hret, hn]
  first | (intro acts; rw [hl _ acts rfl rfl rfl]) | rw [hl _ _ rfl rfl rfl]
  exact Steps.refl _
end New
end Jvm.RoadKit
namespace Jvm.Pilot.@@N@@
open Jvm Jvm.ClassFile Sem Op Lib Jvm.Free Jvm.Stand Jvm.LawKit Jvm.RoadKit Bundle Jvm.Pilot.@@N@@.Jvm.D
/-! 0. what is still to be walked, as one predicate: from A the invocation comes to its end, and Q says how it ends -/
def own_Fin (p : Program) (e : Env) (below : List Frame) (s : State) (Q : Option Value → Heap → List Loc → Prop) (k n : Nat) (A : State) : Prop :=
  ∃ s₂ o, Steps p.tables e below A s₂ ∧ s₂.status = .running ∧ Ended s₂ below o ∧ ∃ v L, o = .returned v ∧ Q v s₂.heap L ∧ FrameEnd s o s₂ L k n
section Own
variable {p : Program} {l : Launch} {e : Env} {R : Room} {s : State} {m : MethodId} {args : Array Value} {below : List Frame} {meth : Method} {c : Code} {T : State} {locs : List Loc} {cells slots k n : Nat} {Q : Option Value → Heap → List Loc → Prop} {A B : State}
theorem own_pre (h : ∀ t, Steps p.tables e below B t → Steps p.tables e below A t) (q : own_Fin p e below s Q k n B) : own_Fin p e below s Q k n A := by
  obtain ⟨s₂, o, h1, h2⟩ := q; exact ⟨s₂, o, h _ h1, h2⟩
theorem own_retZ (X : Stand p l e R s m args below meth c T locs cells slots) (hx : p.tables.exec = Jvm.exec) (hlk : meth.locks = false) {pc : Nat} {Ls : Array Slot} {z : Int32} {rest : List Value} (hret : meth.sig.returnType = some .boolean) (hd : decode c.code pc = .ok (.ireturn, 1))
    (hQ : Q (some (.int (z &&& 1))) T.heap locs) (hk : cells ≤ k) (hn : slots ≤ n) : own_Fin p e below s Q k n (T.setTop (mkF m pc Ls (.int z :: rest))) := by
  obtain ⟨fs, hr, hrun, hended, hW, hsame⟩ := X.leave (v := some (.int (z &&& 1))) (fun h => by rw [hret] at h; cases h) hlk
  exact ⟨_, _, retN X hx (t := .boolean) hret (by simp) hd hr, hrun, hended, _, _, rfl, hQ, ⟨_, rfl⟩, hW, hsame.mono hk hn⟩
theorem own_retI (X : Stand p l e R s m args below meth c T locs cells slots) (hx : p.tables.exec = Jvm.exec) (hlk : meth.locks = false) {pc : Nat} {Ls : Array Slot} {z : Int32} {rest : List Value} (hret : meth.sig.returnType = some .int) (hd : decode c.code pc = .ok (.ireturn, 1))
    (hQ : Q (some (.int z)) T.heap locs) (hk : cells ≤ k) (hn : slots ≤ n) : own_Fin p e below s Q k n (T.setTop (mkF m pc Ls (.int z :: rest))) := by
  obtain ⟨fs, hr, hrun, hended, hW, hsame⟩ := X.leave (v := some (.int z)) (fun h => by rw [hret] at h; cases h) hlk
  exact ⟨_, _, retI X hx hret hd hr, hrun, hended, _, _, rfl, hQ, ⟨_, rfl⟩, hW, hsame.mono hk hn⟩
theorem own_retJ (X : Stand p l e R s m args below meth c T locs cells slots) (hx : p.tables.exec = Jvm.exec) (hlk : meth.locks = false) {pc : Nat} {Ls : Array Slot} {z : Int64} (hret : meth.sig.returnType = some .long) (hd : decode c.code pc = .ok (.lreturn, 1))
    (hQ : Q (some (.long z)) T.heap locs) (hk : cells ≤ k) (hn : slots ≤ n) : own_Fin p e below s Q k n (T.setTop (mkF m pc Ls [.long z])) := by
  obtain ⟨fs, hr, hrun, hended, hW, hsame⟩ := X.leave (v := some (.long z)) (fun h => by rw [hret] at h; cases h) hlk
  exact ⟨_, _, X.lreturnOut hx hret hd hr, hrun, hended, _, _, rfl, hQ, ⟨_, rfl⟩, hW, hsame.mono hk hn⟩
theorem own_retV (X : Stand p l e R s m args below meth c T locs cells slots) (hx : p.tables.exec = Jvm.exec) (hlk : meth.locks = false) {pc : Nat} {Ls : Array Slot} (hret : meth.sig.returnType = none) (hd : decode c.code pc = .ok (.return_, 1))
    (hQ : Q none T.heap locs) (hk : cells ≤ k) (hn : slots ≤ n) : own_Fin p e below s Q k n (T.setTop (mkF m pc Ls [])) := by
  obtain ⟨fs, hr, hrun, hended, hW, hsame⟩ := X.leave (v := none) (fun _ => rfl) hlk
  exact ⟨_, _, X.returnOut hx hret hd hr, hrun, hended, _, _, rfl, hQ, ⟨_, rfl⟩, hW, hsame.mono hk hn⟩
theorem own_at {v : Option Value} {h h' : Heap} {L : List Loc} (e : h' = h) (q : Q v h L) : Q v h' L := e ▸ q
theorem own_someI {r z : Int32} (h : r = z) : some (Value.int z) = some (Value.int r) := by rw [h]
theorem own_someJ {r z : Int64} (h : r = z) : some (Value.long z) = some (Value.long r) := by rw [h]
end Own
theorem own_ld {p : Program} {l : Launch} {e : Env} {R : Room} {s : State} {m : MethodId} {args : Array Value} {below : List Frame} {meth : Method} {c : Code} {T : State} {locs : List Loc} {cells slots : Nat} {Z : State} {h : Heap} {a : Addr} {k : ClassId} {z : Int32} {vs : List Value}
    (X : Stand p l e R s m args below meth c T locs cells slots) (hx : p.tables.exec = Jvm.exec) (hZ : Z.Warmed39 s.vm) (eT : T.heap = h) (F : Arv Z h a k .int z vs (.int 0)) {j v : Int32} (hj : ¬ j < 0 ∧ j < z) (hv : vs.getD j.toNatClampNeg (.int 0) = .int v) {g : JFrame} (hg : g.method = m) {rest : List Value} (hs : g.stack = .int j :: .ref a :: rest) (hd : decode c.code g.pc = .ok (.iaload, 1)) :
    ∀ t, Steps p.tables e below (T.setTop { g with pc := g.pc + 1, stack := .int v :: rest }) t → Steps p.tables e below (T.setTop g) t := by
  obtain ⟨cl, A, -, S, N, H, -⟩ := F
  have hin := inb_of (j := j) S hj
  exact X.iaload hx (by rw [eT]; exact A.1) (State.isArrayOf_alike hZ.alike A.2.1) A.2.2 hin (Has.at H hin hv) hg hs hd
theorem own_st {p : Program} {l : Launch} {e : Env} {R : Room} {s : State} {m : MethodId} {args : Array Value} {below : List Frame} {meth : Method} {c : Code} {T : State} {locs : List Loc} {cells slots : Nat} {Z : State} {h : Heap} {a : Addr} {k : ClassId} {z : Int32} {vs : List Value}
    (X : Stand p l e R s m args below meth c T locs cells slots) (hx : p.tables.exec = Jvm.exec) (hZ : Z.Warmed39 s.vm) (eT : T.heap = h) (F : Arv Z h a k .int z vs (.int 0)) {j x : Int32} (hj : ¬ j < 0 ∧ j < z) (i : Nat) (hi : j.toNatClampNeg = i) (hl : i < vs.length) {g : JFrame} (hg : g.method = m) {rest : List Value} (hs : g.stack = .int x :: .int j :: .ref a :: rest) (hd : decode c.code g.pc = .ok (.iastore, 1)) :
    ∃ T' h', Stand p l e R s m args below meth c T' (locs ++ [⟨a, j.toNatClampNeg⟩]) cells slots ∧ T'.heap = h' ∧ Wr h h' a j.toNatClampNeg (.int x) ∧ Arv Z h' a k .int z (vs.set i (.int x)) (.int 0) ∧ ∀ t, Steps p.tables e below (T'.setTop { g with pc := g.pc + 1, stack := rest }) t → Steps p.tables e below (T.setTop g) t := by
  obtain ⟨cl, A, q, S, N, H, G⟩ := F
  obtain ⟨T', h', X', e', W, st⟩ := stI X hx hZ eT A (j := j) (x := x) (inb_of S hj) hg hs hd
  exact ⟨T', h', X', e', W, Arv.set A q S N H G rfl W i hi hl, st⟩
theorem own_getD (L : List Int32) (n : Nat) : (L.map Value.int).getD n (.int 0) = .int (L.getD n 0) := by
  simp only [List.getD_eq_getElem?_getD, List.getElem?_map]
  cases L[n]? <;> rfl
def own_base (j : Int32) : Int32 := ([(48 : Int32), (57 : Int32), (45 : Int32), (46 : Int32), (183 : Int32), (768 : Int32), (879 : Int32), (8255 : Int32), (8256 : Int32)] : List Int32).getD j.toNatClampNeg 0
theorem own_base_at (j : Int32) : ([.int (48 : Int32), .int (57 : Int32), .int (45 : Int32), .int (46 : Int32), .int (183 : Int32), .int (768 : Int32), .int (879 : Int32), .int (8255 : Int32), .int (8256 : Int32)] : List Value).getD j.toNatClampNeg (.int (0 : Int32)) = .int (own_base j) := own_getD [(48 : Int32), (57 : Int32), (45 : Int32), (46 : Int32), (183 : Int32), (768 : Int32), (879 : Int32), (8255 : Int32), (8256 : Int32)] _
theorem own_idx (p1 : Int32) : ¬ (((p1.toUInt32 >>> ((1 : Int32) &&& 31).toUInt32).toInt32) % (9 : Int32)) < 0 ∧ (((p1.toUInt32 >>> ((1 : Int32) &&& 31).toUInt32).toInt32) % (9 : Int32)) < 9 := by
  have h1 := c_iushr p1 1 1 (by decide) (by decide)
  have h2 := c_irem ((p1.toUInt32 >>> ((1 : Int32) &&& 31).toUInt32).toInt32) 9 9 rfl
  rw [Int32.lt_iff_toInt_lt, Int32.lt_iff_toInt_lt, show (0 : Int32).toInt = 0 from rfl, show (9 : Int32).toInt = 9 from rfl]
  omega
/-! body 1 -/
theorem d1_0 : decode method_2_code 0 = .ok (.iload_n 0, 1) := by decide +kernel
theorem d1_1 : decode method_2_code 1 = .ok (.i2l, 1) := by decide +kernel
theorem d1_2 : decode method_2_code 2 = .ok (.iload_n 1, 1) := by decide +kernel
theorem d1_3 : decode method_2_code 3 = .ok (.i2l, 1) := by decide +kernel
theorem d1_4 : decode method_2_code 4 = .ok (.lsub, 1) := by decide +kernel
theorem d1_5 : decode method_2_code 5 = .ok (.lstore_n 3, 1) := by decide +kernel
theorem d1_6 : decode method_2_code 6 = .ok (.lload_n 3, 1) := by decide +kernel
theorem d1_7 : decode method_2_code 7 = .ok (.lconst 0, 1) := by decide +kernel
theorem d1_8 : decode method_2_code 8 = .ok (.lcmp, 1) := by decide +kernel
theorem d1_9 : decode method_2_code 9 = .ok (.ifCond .lt 17, 3) := by decide +kernel
theorem d1_12 : decode method_2_code 12 = .ok (.lload_n 3, 1) := by decide +kernel
theorem d1_13 : decode method_2_code 13 = .ok (.iload_n 2, 1) := by decide +kernel
theorem d1_14 : decode method_2_code 14 = .ok (.i2l, 1) := by decide +kernel
theorem d1_15 : decode method_2_code 15 = .ok (.iload_n 1, 1) := by decide +kernel
theorem d1_16 : decode method_2_code 16 = .ok (.i2l, 1) := by decide +kernel
theorem d1_17 : decode method_2_code 17 = .ok (.lsub, 1) := by decide +kernel
theorem d1_18 : decode method_2_code 18 = .ok (.lcmp, 1) := by decide +kernel
theorem d1_19 : decode method_2_code 19 = .ok (.ifCond .gt 7, 3) := by decide +kernel
theorem d1_22 : decode method_2_code 22 = .ok (.iconst 1, 1) := by decide +kernel
theorem d1_23 : decode method_2_code 23 = .ok (.goto 4, 3) := by decide +kernel
theorem d1_26 : decode method_2_code 26 = .ok (.iconst 0, 1) := by decide +kernel
theorem d1_27 : decode method_2_code 27 = .ok (.ireturn, 1) := by decide +kernel
theorem pn_1 : plainName "com/example/amberwire/amberwire/XmlCharactersIsNamePartPinLaw" = true := by first | (simp [plainName, overriddenIn]; done) | decide +kernel
theorem ef_1 (m : MethodId) (p0 : Int32) (p1 : Int32) (p2 : Int32) : entryFrame m #[(.int p0), (.int p1), (.int p2)] 5 = mkF m 0 #[.val (.int p0), .val (.int p1), .val (.int p2), .unset, .unset] [] := by first | (simp [entryFrame, mkF, argsToLocals, Value.category]; done) | rfl
def f1_27 (p0 : Int32) (p1 : Int32) (p2 : Int32) (j3 : Int64) (t0 : Int32) : Int32 := (t0 &&& 1)
def f1_26 (p0 : Int32) (p1 : Int32) (p2 : Int32) (j3 : Int64) : Int32 := (f1_27 p0 p1 p2 j3 (0 : Int32))
def f1_0 (p0 : Int32) (p1 : Int32) (p2 : Int32) : Int32 := (if (lcmpW ((p0.toInt64) - (p1.toInt64)) (0 : Int64)) < (0 : Int32) then (f1_26 p0 p1 p2 ((p0.toInt64) - (p1.toInt64))) else (if (0 : Int32) < (lcmpW ((p0.toInt64) - (p1.toInt64)) ((p2.toInt64) - (p1.toInt64))) then (f1_26 p0 p1 p2 ((p0.toInt64) - (p1.toInt64))) else (f1_27 p0 p1 p2 ((p0.toInt64) - (p1.toInt64)) (1 : Int32))))
def Q1 (p0 : Int32) (p1 : Int32) (p2 : Int32) (h0 : Heap) (n0 : Nat) (v : Option Value) (h : Heap) (L : List Loc) : Prop := v = some (.int (f1_0 p0 p1 p2)) ∧ Fr n0 L ∧ h = h0
set_option maxRecDepth 65536 in
set_option maxHeartbeats 40000000 in
theorem rm1 (l : Launch) (Z : State) (a0 : Array Value) (hw : ∀ d ∈ tables_1, d.before a0 Z = true) (ws : List Jvm.Cond) (p0 : Int32) (p1 : Int32) (p2 : Int32) (h0 : Heap) (n0 : Nat) (Z0 : n0 ≤ h0.size) :
    MetFree l (⟨"com/example/amberwire/amberwire/XmlCharactersIsNamePartPinLaw", "in", "(III)Z"⟩ : MethodName) (head1 (Jvm.Cond.code (⟨"com/example/amberwire/amberwire/XmlCharactersIsNamePartPinLaw", "in", "(III)Z"⟩ : MethodName) method_2_code 5 (some .boolean) :: ws) ({ frames := 0, cells := 0, slots := 0, locals := 0 } : Room)) (fun a U => a = #[(.int p0), (.int p1), (.int p2)] ∧ Z.Warmed39 U.vm ∧ U.heap = h0) (fun _ _ _ _ _ => True) (fun _ U o U' => ∃ v L, o = .returned v ∧ Q1 p0 p1 p2 h0 n0 v U'.heap L ∧ FrameEnd U o U' L ({ frames := 0, cells := 0, slots := 0, locals := 0 } : Room).cells ({ frames := 0, cells := 0, slots := 0, locals := 0 } : Room).slots) := by
  refine MetFree.of_bodySF (plainFor_of_name pn_1) hisR ?_
  intro p e s m args below meth c s₁ Bd hml0 hP hK
  obtain ⟨rfl, hZ, hh⟩ := hP
  have hx := Bd.exec
  have hby := Bd.bytes
  have hml : c.maxLocals = 5 := hml0
  have hlk : meth.locks = false := BodyLoose.notSynchronized Bd
  have hown : s.vm.findClass "com/example/amberwire/amberwire/XmlCharactersIsNamePartPinLaw" = some m.cls := findClass_of_methodNamed Bd.named
  have X0 : Stand p l e ({ frames := 0, cells := 0, slots := 0, locals := 0 } : Room) s m #[(.int p0), (.int p1), (.int p2)] below meth c s₁ [] 0 0 := Stand.of_body Bd
  have e0 : s₁.heap = h0 := by rw [← hh, Bd.state]; rfl
  have N0 := Fr.nil n0
  have Zs0 : n0 ≤ s₁.heap.size := by rw [e0]; exact Z0
  have pre0 : ∀ t, Steps p.tables e below (s₁.setTop (mkF m 0 #[.val (.int p0), .val (.int p1), .val (.int p2), .unset, .unset] [])) t → Steps p.tables e below (s₁.setTop (entryFrame m #[(.int p0), (.int p1), (.int p2)] 5)) t := fun t k => castTop (ef_1 m p0 p1 p2) k
  have hnm := (name_of_methodNamed Bd.named Bd.method).1
  have g_27 : ∀ (T : State) (locs : List Loc) (X : Stand p l e ({ frames := 0, cells := 0, slots := 0, locals := 0 } : Room) s m #[(.int p0), (.int p1), (.int p2)] below meth c T locs 0 0) (eT : T.heap = h0) (N : Fr n0 locs) (j3 : Int64) (t0 : Int32)  (r : Int32), r = f1_27 p0 p1 p2 j3 t0 → own_Fin p e below s (fun v h L => v = some (.int r) ∧ Fr n0 L ∧ h = h0) ({ frames := 0, cells := 0, slots := 0, locals := 0 } : Room).cells ({ frames := 0, cells := 0, slots := 0, locals := 0 } : Room).slots (T.setTop (mkF m 27 #[.val (.int p0), .val (.int p1), .val (.int p2), .val (.long j3), .second] [(.int t0)])) := by
    intro T locs X eT N j3 t0  r hr
    have hr : r = (t0 &&& 1) := hr
    exact own_retZ X hx hlk Bd.returns (hb hby d1_27) ⟨own_someI hr, N, eT⟩ (by decide) (by decide)
  have g_26 : ∀ (T : State) (locs : List Loc) (X : Stand p l e ({ frames := 0, cells := 0, slots := 0, locals := 0 } : Room) s m #[(.int p0), (.int p1), (.int p2)] below meth c T locs 0 0) (eT : T.heap = h0) (N : Fr n0 locs) (j3 : Int64)  (r : Int32), r = f1_26 p0 p1 p2 j3 → own_Fin p e below s (fun v h L => v = some (.int r) ∧ Fr n0 L ∧ h = h0) ({ frames := 0, cells := 0, slots := 0, locals := 0 } : Room).cells ({ frames := 0, cells := 0, slots := 0, locals := 0 } : Room).slots (T.setTop (mkF m 26 #[.val (.int p0), .val (.int p1), .val (.int p2), .val (.long j3), .second] [])) := by
    intro T locs X eT N j3  r hr
    have hr : r = (f1_27 p0 p1 p2 j3 (0 : Int32)) := hr
    refine own_pre (B := T.setTop (mkF m 27 #[.val (.int p0), .val (.int p1), .val (.int p2), .val (.long j3), .second] [(.int (0 : Int32))])) (fun t k => XS.iconst X.here hx rfl (hb hby d1_26) k) ?_
    exact g_27 T _ X eT N j3 (0 : Int32) _ hr
  have g_0 : ∀ r, r = f1_0 p0 p1 p2 → own_Fin p e below s (fun v h L => v = some (.int r) ∧ Fr n0 L ∧ h = h0) ({ frames := 0, cells := 0, slots := 0, locals := 0 } : Room).cells ({ frames := 0, cells := 0, slots := 0, locals := 0 } : Room).slots (s₁.setTop (mkF m 0 #[.val (.int p0), .val (.int p1), .val (.int p2), .unset, .unset] [])) := by
    intro r hr
    have hr : r = (if (lcmpW ((p0.toInt64) - (p1.toInt64)) (0 : Int64)) < (0 : Int32) then (f1_26 p0 p1 p2 ((p0.toInt64) - (p1.toInt64))) else (if (0 : Int32) < (lcmpW ((p0.toInt64) - (p1.toInt64)) ((p2.toInt64) - (p1.toInt64))) then (f1_26 p0 p1 p2 ((p0.toInt64) - (p1.toInt64))) else (f1_27 p0 p1 p2 ((p0.toInt64) - (p1.toInt64)) (1 : Int32)))) := hr
    refine own_pre (B := s₁.setTop (mkF m 1 #[.val (.int p0), .val (.int p1), .val (.int p2), .unset, .unset] [(.int p0)])) (fun t k => XS.iloadN X0.here hx rfl (hb hby d1_0) rfl k) ?_
    refine own_pre (B := s₁.setTop (mkF m 2 #[.val (.int p0), .val (.int p1), .val (.int p2), .unset, .unset] [(.long (p0.toInt64))])) (fun t k => XS.i2l X0.here hx rfl (hb hby d1_1) rfl k) ?_
    refine own_pre (B := s₁.setTop (mkF m 3 #[.val (.int p0), .val (.int p1), .val (.int p2), .unset, .unset] [(.int p1), (.long (p0.toInt64))])) (fun t k => XS.iloadN X0.here hx rfl (hb hby d1_2) rfl k) ?_
    refine own_pre (B := s₁.setTop (mkF m 4 #[.val (.int p0), .val (.int p1), .val (.int p2), .unset, .unset] [(.long (p1.toInt64)), (.long (p0.toInt64))])) (fun t k => XS.i2l X0.here hx rfl (hb hby d1_3) rfl k) ?_
    refine own_pre (B := s₁.setTop (mkF m 5 #[.val (.int p0), .val (.int p1), .val (.int p2), .unset, .unset] [(.long ((p0.toInt64) - (p1.toInt64)))])) (fun t k => XS.lsub X0.here hx rfl (hb hby d1_4) rfl k) ?_
    refine own_pre (B := s₁.setTop (mkF m 6 #[.val (.int p0), .val (.int p1), .val (.int p2), .val (.long ((p0.toInt64) - (p1.toInt64))), .second] [])) (fun t k => XS.lstoreN X0.here hx rfl (hb hby d1_5) rfl (l' := #[.val (.int p0), .val (.int p1), .val (.int p2), .val (.long ((p0.toInt64) - (p1.toInt64))), .second]) rfl k) ?_
    refine own_pre (B := s₁.setTop (mkF m 7 #[.val (.int p0), .val (.int p1), .val (.int p2), .val (.long ((p0.toInt64) - (p1.toInt64))), .second] [(.long ((p0.toInt64) - (p1.toInt64)))])) (fun t k => XS.lloadN X0.here hx rfl (hb hby d1_6) rfl k) ?_
    refine own_pre (B := s₁.setTop (mkF m 8 #[.val (.int p0), .val (.int p1), .val (.int p2), .val (.long ((p0.toInt64) - (p1.toInt64))), .second] [(.long (0 : Int64)), (.long ((p0.toInt64) - (p1.toInt64)))])) (fun t k => XS.lconst X0.here hx rfl (hb hby d1_7) k) ?_
    refine own_pre (B := s₁.setTop (mkF m 9 #[.val (.int p0), .val (.int p1), .val (.int p2), .val (.long ((p0.toInt64) - (p1.toInt64))), .second] [(.int (lcmpW ((p0.toInt64) - (p1.toInt64)) (0 : Int64)))])) (fun t k => XS.lcmp X0.here hx rfl (hb hby d1_8) rfl k) ?_
    by_cases hc1 : (lcmpW ((p0.toInt64) - (p1.toInt64)) (0 : Int64)) < (0 : Int32)
    · have hr2 := hr.trans (if_pos hc1)
      refine own_pre (B := s₁.setTop (mkF m 26 #[.val (.int p0), .val (.int p1), .val (.int p2), .val (.long ((p0.toInt64) - (p1.toInt64))), .second] [])) (fun t k => XS.ifYes X0.here hx rfl (pc0 := 9) (pc' := 26) rfl (hb hby d1_9) rfl ((if0 _ _).trans (tlt hc1).1) (by decide) (by decide) k) ?_
      exact g_26 s₁ _ X0 e0 N0 ((p0.toInt64) - (p1.toInt64)) _ hr2
    · have hr3 := hr.trans (if_neg hc1)
      refine own_pre (B := s₁.setTop (mkF m 12 #[.val (.int p0), .val (.int p1), .val (.int p2), .val (.long ((p0.toInt64) - (p1.toInt64))), .second] [])) (fun t k => XS.ifNo X0.here hx rfl (hb hby d1_9) rfl ((if0 _ _).trans (flt hc1).1) k) ?_
      refine own_pre (B := s₁.setTop (mkF m 13 #[.val (.int p0), .val (.int p1), .val (.int p2), .val (.long ((p0.toInt64) - (p1.toInt64))), .second] [(.long ((p0.toInt64) - (p1.toInt64)))])) (fun t k => XS.lloadN X0.here hx rfl (hb hby d1_12) rfl k) ?_
      refine own_pre (B := s₁.setTop (mkF m 14 #[.val (.int p0), .val (.int p1), .val (.int p2), .val (.long ((p0.toInt64) - (p1.toInt64))), .second] [(.int p2), (.long ((p0.toInt64) - (p1.toInt64)))])) (fun t k => XS.iloadN X0.here hx rfl (hb hby d1_13) rfl k) ?_
      refine own_pre (B := s₁.setTop (mkF m 15 #[.val (.int p0), .val (.int p1), .val (.int p2), .val (.long ((p0.toInt64) - (p1.toInt64))), .second] [(.long (p2.toInt64)), (.long ((p0.toInt64) - (p1.toInt64)))])) (fun t k => XS.i2l X0.here hx rfl (hb hby d1_14) rfl k) ?_
      refine own_pre (B := s₁.setTop (mkF m 16 #[.val (.int p0), .val (.int p1), .val (.int p2), .val (.long ((p0.toInt64) - (p1.toInt64))), .second] [(.int p1), (.long (p2.toInt64)), (.long ((p0.toInt64) - (p1.toInt64)))])) (fun t k => XS.iloadN X0.here hx rfl (hb hby d1_15) rfl k) ?_
      refine own_pre (B := s₁.setTop (mkF m 17 #[.val (.int p0), .val (.int p1), .val (.int p2), .val (.long ((p0.toInt64) - (p1.toInt64))), .second] [(.long (p1.toInt64)), (.long (p2.toInt64)), (.long ((p0.toInt64) - (p1.toInt64)))])) (fun t k => XS.i2l X0.here hx rfl (hb hby d1_16) rfl k) ?_
      refine own_pre (B := s₁.setTop (mkF m 18 #[.val (.int p0), .val (.int p1), .val (.int p2), .val (.long ((p0.toInt64) - (p1.toInt64))), .second] [(.long ((p2.toInt64) - (p1.toInt64))), (.long ((p0.toInt64) - (p1.toInt64)))])) (fun t k => XS.lsub X0.here hx rfl (hb hby d1_17) rfl k) ?_
      refine own_pre (B := s₁.setTop (mkF m 19 #[.val (.int p0), .val (.int p1), .val (.int p2), .val (.long ((p0.toInt64) - (p1.toInt64))), .second] [(.int (lcmpW ((p0.toInt64) - (p1.toInt64)) ((p2.toInt64) - (p1.toInt64))))])) (fun t k => XS.lcmp X0.here hx rfl (hb hby d1_18) rfl k) ?_
      by_cases hc4 : (0 : Int32) < (lcmpW ((p0.toInt64) - (p1.toInt64)) ((p2.toInt64) - (p1.toInt64)))
      · have hr5 := hr3.trans (if_pos hc4)
        refine own_pre (B := s₁.setTop (mkF m 26 #[.val (.int p0), .val (.int p1), .val (.int p2), .val (.long ((p0.toInt64) - (p1.toInt64))), .second] [])) (fun t k => XS.ifYes X0.here hx rfl (pc0 := 19) (pc' := 26) rfl (hb hby d1_19) rfl ((if0 _ _).trans (tlt hc4).2.2.1) (by decide) (by decide) k) ?_
        exact g_26 s₁ _ X0 e0 N0 ((p0.toInt64) - (p1.toInt64)) _ hr5
      · have hr6 := hr3.trans (if_neg hc4)
        refine own_pre (B := s₁.setTop (mkF m 22 #[.val (.int p0), .val (.int p1), .val (.int p2), .val (.long ((p0.toInt64) - (p1.toInt64))), .second] [])) (fun t k => XS.ifNo X0.here hx rfl (hb hby d1_19) rfl ((if0 _ _).trans (flt hc4).2.2.1) k) ?_
        refine own_pre (B := s₁.setTop (mkF m 23 #[.val (.int p0), .val (.int p1), .val (.int p2), .val (.long ((p0.toInt64) - (p1.toInt64))), .second] [(.int (1 : Int32))])) (fun t k => XS.iconst X0.here hx rfl (hb hby d1_22) k) ?_
        refine own_pre (B := s₁.setTop (mkF m 27 #[.val (.int p0), .val (.int p1), .val (.int p2), .val (.long ((p0.toInt64) - (p1.toInt64))), .second] [(.int (1 : Int32))])) (fun t k => XS.goto X0.here hx rfl (pc0 := 23) (pc' := 27) rfl (hb hby d1_23) (by decide) (by decide) k) ?_
        exact g_27 s₁ _ X0 e0 N0 ((p0.toInt64) - (p1.toInt64)) (1 : Int32) _ hr6
  exact own_pre pre0 (g_0 _ rfl)
/-! body 2 -/
theorem d2_0 : decode prog_140_method_8_code 0 = .ok (.iload_n 0, 1) := by decide +kernel
theorem d2_1 : decode prog_140_method_8_code 1 = .ok (.bipush 48, 2) := by decide +kernel
theorem d2_3 : decode prog_140_method_8_code 3 = .ok (.if_icmp .lt 9, 3) := by decide +kernel
theorem d2_6 : decode prog_140_method_8_code 6 = .ok (.iload_n 0, 1) := by decide +kernel
theorem d2_7 : decode prog_140_method_8_code 7 = .ok (.bipush 57, 2) := by decide +kernel
theorem d2_9 : decode prog_140_method_8_code 9 = .ok (.if_icmp .le 50, 3) := by decide +kernel
theorem d2_12 : decode prog_140_method_8_code 12 = .ok (.iload_n 0, 1) := by decide +kernel
theorem d2_13 : decode prog_140_method_8_code 13 = .ok (.bipush 45, 2) := by decide +kernel
theorem d2_15 : decode prog_140_method_8_code 15 = .ok (.if_icmp .eq 44, 3) := by decide +kernel
theorem d2_18 : decode prog_140_method_8_code 18 = .ok (.iload_n 0, 1) := by decide +kernel
theorem d2_19 : decode prog_140_method_8_code 19 = .ok (.bipush 46, 2) := by decide +kernel
theorem d2_21 : decode prog_140_method_8_code 21 = .ok (.if_icmp .eq 38, 3) := by decide +kernel
theorem d2_24 : decode prog_140_method_8_code 24 = .ok (.iload_n 0, 1) := by decide +kernel
theorem d2_25 : decode prog_140_method_8_code 25 = .ok (.sipush 183, 3) := by decide +kernel
theorem d2_28 : decode prog_140_method_8_code 28 = .ok (.if_icmp .eq 31, 3) := by decide +kernel
theorem d2_31 : decode prog_140_method_8_code 31 = .ok (.iload_n 0, 1) := by decide +kernel
theorem d2_32 : decode prog_140_method_8_code 32 = .ok (.sipush 768, 3) := by decide +kernel
theorem d2_35 : decode prog_140_method_8_code 35 = .ok (.if_icmp .lt 10, 3) := by decide +kernel
theorem d2_38 : decode prog_140_method_8_code 38 = .ok (.iload_n 0, 1) := by decide +kernel
theorem d2_39 : decode prog_140_method_8_code 39 = .ok (.sipush 879, 3) := by decide +kernel
theorem d2_42 : decode prog_140_method_8_code 42 = .ok (.if_icmp .le 17, 3) := by decide +kernel
theorem d2_45 : decode prog_140_method_8_code 45 = .ok (.iload_n 0, 1) := by decide +kernel
theorem d2_46 : decode prog_140_method_8_code 46 = .ok (.sipush 8255, 3) := by decide +kernel
theorem d2_49 : decode prog_140_method_8_code 49 = .ok (.if_icmp .lt 14, 3) := by decide +kernel
theorem d2_52 : decode prog_140_method_8_code 52 = .ok (.iload_n 0, 1) := by decide +kernel
theorem d2_53 : decode prog_140_method_8_code 53 = .ok (.sipush 8256, 3) := by decide +kernel
theorem d2_56 : decode prog_140_method_8_code 56 = .ok (.if_icmp .gt 7, 3) := by decide +kernel
theorem d2_59 : decode prog_140_method_8_code 59 = .ok (.iconst 1, 1) := by decide +kernel
theorem d2_60 : decode prog_140_method_8_code 60 = .ok (.goto 4, 3) := by decide +kernel
theorem d2_63 : decode prog_140_method_8_code 63 = .ok (.iconst 0, 1) := by decide +kernel
theorem d2_64 : decode prog_140_method_8_code 64 = .ok (.ireturn, 1) := by decide +kernel
theorem pn_2 : plainName "com/example/amberwire/amberwire/XmlCharacters" = true := by first | (simp [plainName, overriddenIn]; done) | decide +kernel
theorem ef_2 (m : MethodId) (p0 : Int32) : entryFrame m #[(.int p0)] 1 = mkF m 0 #[.val (.int p0)] [] := by first | (simp [entryFrame, mkF, argsToLocals, Value.category]; done) | rfl
def f2_64 (p0 : Int32) (t0 : Int32) : Int32 := (t0 &&& 1)
def f2_63 (p0 : Int32) : Int32 := (f2_64 p0 (0 : Int32))
def f2_59 (p0 : Int32) : Int32 := (f2_64 p0 (1 : Int32))
def f2_45 (p0 : Int32) : Int32 := (if p0 < (8255 : Int32) then (f2_63 p0) else (if (8256 : Int32) < p0 then (f2_63 p0) else (f2_59 p0)))
def f2_12 (p0 : Int32) : Int32 := (if p0 = (45 : Int32) then (f2_59 p0) else (if p0 = (46 : Int32) then (f2_59 p0) else (if p0 = (183 : Int32) then (f2_59 p0) else (if p0 < (768 : Int32) then (f2_45 p0) else (if (879 : Int32) < p0 then (f2_45 p0) else (f2_59 p0))))))
def f2_0 (p0 : Int32) : Int32 := (if p0 < (48 : Int32) then (f2_12 p0) else (if (57 : Int32) < p0 then (f2_12 p0) else (f2_59 p0)))
def Q2 (p0 : Int32) (h0 : Heap) (n0 : Nat) (v : Option Value) (h : Heap) (L : List Loc) : Prop := v = some (.int (f2_0 p0)) ∧ Fr n0 L ∧ h = h0
set_option maxRecDepth 65536 in
set_option maxHeartbeats 40000000 in
theorem rm2 (l : Launch) (Z : State) (a0 : Array Value) (hw : ∀ d ∈ tables_1, d.before a0 Z = true) (ws : List Jvm.Cond) (p0 : Int32) (h0 : Heap) (n0 : Nat) (Z0 : n0 ≤ h0.size) :
    MetFree l (⟨"com/example/amberwire/amberwire/XmlCharacters", "isNamePart", "(I)Z"⟩ : MethodName) (head1 (Jvm.Cond.code (⟨"com/example/amberwire/amberwire/XmlCharacters", "isNamePart", "(I)Z"⟩ : MethodName) prog_140_method_8_code 1 (some .boolean) :: ws) ({ frames := 0, cells := 0, slots := 0, locals := 0 } : Room)) (fun a U => a = #[(.int p0)] ∧ Z.Warmed39 U.vm ∧ U.heap = h0) (fun _ _ _ _ _ => True) (fun _ U o U' => ∃ v L, o = .returned v ∧ Q2 p0 h0 n0 v U'.heap L ∧ FrameEnd U o U' L ({ frames := 0, cells := 0, slots := 0, locals := 0 } : Room).cells ({ frames := 0, cells := 0, slots := 0, locals := 0 } : Room).slots) := by
  refine MetFree.of_bodySF (plainFor_of_name pn_2) hisR ?_
  intro p e s m args below meth c s₁ Bd hml0 hP hK
  obtain ⟨rfl, hZ, hh⟩ := hP
  have hx := Bd.exec
  have hby := Bd.bytes
  have hml : c.maxLocals = 1 := hml0
  have hlk : meth.locks = false := BodyLoose.notSynchronized Bd
  have hown : s.vm.findClass "com/example/amberwire/amberwire/XmlCharacters" = some m.cls := findClass_of_methodNamed Bd.named
  have X0 : Stand p l e ({ frames := 0, cells := 0, slots := 0, locals := 0 } : Room) s m #[(.int p0)] below meth c s₁ [] 0 0 := Stand.of_body Bd
  have e0 : s₁.heap = h0 := by rw [← hh, Bd.state]; rfl
  have N0 := Fr.nil n0
  have Zs0 : n0 ≤ s₁.heap.size := by rw [e0]; exact Z0
  have pre0 : ∀ t, Steps p.tables e below (s₁.setTop (mkF m 0 #[.val (.int p0)] [])) t → Steps p.tables e below (s₁.setTop (entryFrame m #[(.int p0)] 1)) t := fun t k => castTop (ef_2 m p0) k
  have hnm := (name_of_methodNamed Bd.named Bd.method).1
  have g_64 : ∀ (T : State) (locs : List Loc) (X : Stand p l e ({ frames := 0, cells := 0, slots := 0, locals := 0 } : Room) s m #[(.int p0)] below meth c T locs 0 0) (eT : T.heap = h0) (N : Fr n0 locs) (t0 : Int32)  (r : Int32), r = f2_64 p0 t0 → own_Fin p e below s (fun v h L => v = some (.int r) ∧ Fr n0 L ∧ h = h0) ({ frames := 0, cells := 0, slots := 0, locals := 0 } : Room).cells ({ frames := 0, cells := 0, slots := 0, locals := 0 } : Room).slots (T.setTop (mkF m 64 #[.val (.int p0)] [(.int t0)])) := by
    intro T locs X eT N t0  r hr
    have hr : r = (t0 &&& 1) := hr
    exact own_retZ X hx hlk Bd.returns (hb hby d2_64) ⟨own_someI hr, N, eT⟩ (by decide) (by decide)
  have g_63 : ∀ (T : State) (locs : List Loc) (X : Stand p l e ({ frames := 0, cells := 0, slots := 0, locals := 0 } : Room) s m #[(.int p0)] below meth c T locs 0 0) (eT : T.heap = h0) (N : Fr n0 locs)   (r : Int32), r = f2_63 p0 → own_Fin p e below s (fun v h L => v = some (.int r) ∧ Fr n0 L ∧ h = h0) ({ frames := 0, cells := 0, slots := 0, locals := 0 } : Room).cells ({ frames := 0, cells := 0, slots := 0, locals := 0 } : Room).slots (T.setTop (mkF m 63 #[.val (.int p0)] [])) := by
    intro T locs X eT N   r hr
    have hr : r = (f2_64 p0 (0 : Int32)) := hr
    refine own_pre (B := T.setTop (mkF m 64 #[.val (.int p0)] [(.int (0 : Int32))])) (fun t k => XS.iconst X.here hx rfl (hb hby d2_63) k) ?_
    exact g_64 T _ X eT N (0 : Int32) _ hr
  have g_59 : ∀ (T : State) (locs : List Loc) (X : Stand p l e ({ frames := 0, cells := 0, slots := 0, locals := 0 } : Room) s m #[(.int p0)] below meth c T locs 0 0) (eT : T.heap = h0) (N : Fr n0 locs)   (r : Int32), r = f2_59 p0 → own_Fin p e below s (fun v h L => v = some (.int r) ∧ Fr n0 L ∧ h = h0) ({ frames := 0, cells := 0, slots := 0, locals := 0 } : Room).cells ({ frames := 0, cells := 0, slots := 0, locals := 0 } : Room).slots (T.setTop (mkF m 59 #[.val (.int p0)] [])) := by
    intro T locs X eT N   r hr
    have hr : r = (f2_64 p0 (1 : Int32)) := hr
    refine own_pre (B := T.setTop (mkF m 60 #[.val (.int p0)] [(.int (1 : Int32))])) (fun t k => XS.iconst X.here hx rfl (hb hby d2_59) k) ?_
    refine own_pre (B := T.setTop (mkF m 64 #[.val (.int p0)] [(.int (1 : Int32))])) (fun t k => XS.goto X.here hx rfl (pc0 := 60) (pc' := 64) rfl (hb hby d2_60) (by decide) (by decide) k) ?_
    exact g_64 T _ X eT N (1 : Int32) _ hr
  have g_45 : ∀ (T : State) (locs : List Loc) (X : Stand p l e ({ frames := 0, cells := 0, slots := 0, locals := 0 } : Room) s m #[(.int p0)] below meth c T locs 0 0) (eT : T.heap = h0) (N : Fr n0 locs)   (r : Int32), r = f2_45 p0 → own_Fin p e below s (fun v h L => v = some (.int r) ∧ Fr n0 L ∧ h = h0) ({ frames := 0, cells := 0, slots := 0, locals := 0 } : Room).cells ({ frames := 0, cells := 0, slots := 0, locals := 0 } : Room).slots (T.setTop (mkF m 45 #[.val (.int p0)] [])) := by
    intro T locs X eT N   r hr
    have hr : r = (if p0 < (8255 : Int32) then (f2_63 p0) else (if (8256 : Int32) < p0 then (f2_63 p0) else (f2_59 p0))) := hr
    refine own_pre (B := T.setTop (mkF m 46 #[.val (.int p0)] [(.int p0)])) (fun t k => XS.iloadN X.here hx rfl (hb hby d2_45) rfl k) ?_
    refine own_pre (B := T.setTop (mkF m 49 #[.val (.int p0)] [(.int (8255 : Int32)), (.int p0)])) (fun t k => XS.sipush X.here hx rfl (hb hby d2_46) k) ?_
    by_cases hc1 : p0 < (8255 : Int32)
    · have hr2 := hr.trans (if_pos hc1)
      refine own_pre (B := T.setTop (mkF m 63 #[.val (.int p0)] [])) (fun t k => XS.icmpYes X.here hx rfl (pc0 := 49) (pc' := 63) rfl (hb hby d2_49) rfl (tlt hc1).1 (by decide) (by decide) k) ?_
      exact g_63 T _ X eT N  _ hr2
    · have hr3 := hr.trans (if_neg hc1)
      refine own_pre (B := T.setTop (mkF m 52 #[.val (.int p0)] [])) (fun t k => XS.icmpNo X.here hx rfl (hb hby d2_49) rfl (flt hc1).1 k) ?_
      refine own_pre (B := T.setTop (mkF m 53 #[.val (.int p0)] [(.int p0)])) (fun t k => XS.iloadN X.here hx rfl (hb hby d2_52) rfl k) ?_
      refine own_pre (B := T.setTop (mkF m 56 #[.val (.int p0)] [(.int (8256 : Int32)), (.int p0)])) (fun t k => XS.sipush X.here hx rfl (hb hby d2_53) k) ?_
      by_cases hc4 : (8256 : Int32) < p0
      · have hr5 := hr3.trans (if_pos hc4)
        refine own_pre (B := T.setTop (mkF m 63 #[.val (.int p0)] [])) (fun t k => XS.icmpYes X.here hx rfl (pc0 := 56) (pc' := 63) rfl (hb hby d2_56) rfl (tlt hc4).2.2.1 (by decide) (by decide) k) ?_
        exact g_63 T _ X eT N  _ hr5
      · have hr6 := hr3.trans (if_neg hc4)
        refine own_pre (B := T.setTop (mkF m 59 #[.val (.int p0)] [])) (fun t k => XS.icmpNo X.here hx rfl (hb hby d2_56) rfl (flt hc4).2.2.1 k) ?_
        exact g_59 T _ X eT N  _ hr6
  have g_12 : ∀ (T : State) (locs : List Loc) (X : Stand p l e ({ frames := 0, cells := 0, slots := 0, locals := 0 } : Room) s m #[(.int p0)] below meth c T locs 0 0) (eT : T.heap = h0) (N : Fr n0 locs)   (r : Int32), r = f2_12 p0 → own_Fin p e below s (fun v h L => v = some (.int r) ∧ Fr n0 L ∧ h = h0) ({ frames := 0, cells := 0, slots := 0, locals := 0 } : Room).cells ({ frames := 0, cells := 0, slots := 0, locals := 0 } : Room).slots (T.setTop (mkF m 12 #[.val (.int p0)] [])) := by
    intro T locs X eT N   r hr
    have hr : r = (if p0 = (45 : Int32) then (f2_59 p0) else (if p0 = (46 : Int32) then (f2_59 p0) else (if p0 = (183 : Int32) then (f2_59 p0) else (if p0 < (768 : Int32) then (f2_45 p0) else (if (879 : Int32) < p0 then (f2_45 p0) else (f2_59 p0)))))) := hr
    refine own_pre (B := T.setTop (mkF m 13 #[.val (.int p0)] [(.int p0)])) (fun t k => XS.iloadN X.here hx rfl (hb hby d2_12) rfl k) ?_
    refine own_pre (B := T.setTop (mkF m 15 #[.val (.int p0)] [(.int (45 : Int32)), (.int p0)])) (fun t k => XS.bipush X.here hx rfl (hb hby d2_13) k) ?_
    by_cases hc1 : p0 = (45 : Int32)
    · have hr2 := hr.trans (if_pos hc1)
      refine own_pre (B := T.setTop (mkF m 59 #[.val (.int p0)] [])) (fun t k => XS.icmpYes X.here hx rfl (pc0 := 15) (pc' := 59) rfl (hb hby d2_15) rfl (teq hc1).1 (by decide) (by decide) k) ?_
      exact g_59 T _ X eT N  _ hr2
    · have hr3 := hr.trans (if_neg hc1)
      refine own_pre (B := T.setTop (mkF m 18 #[.val (.int p0)] [])) (fun t k => XS.icmpNo X.here hx rfl (hb hby d2_15) rfl (feq hc1).1 k) ?_
      refine own_pre (B := T.setTop (mkF m 19 #[.val (.int p0)] [(.int p0)])) (fun t k => XS.iloadN X.here hx rfl (hb hby d2_18) rfl k) ?_
      refine own_pre (B := T.setTop (mkF m 21 #[.val (.int p0)] [(.int (46 : Int32)), (.int p0)])) (fun t k => XS.bipush X.here hx rfl (hb hby d2_19) k) ?_
      by_cases hc4 : p0 = (46 : Int32)
      · have hr5 := hr3.trans (if_pos hc4)
        refine own_pre (B := T.setTop (mkF m 59 #[.val (.int p0)] [])) (fun t k => XS.icmpYes X.here hx rfl (pc0 := 21) (pc' := 59) rfl (hb hby d2_21) rfl (teq hc4).1 (by decide) (by decide) k) ?_
        exact g_59 T _ X eT N  _ hr5
      · have hr6 := hr3.trans (if_neg hc4)
        refine own_pre (B := T.setTop (mkF m 24 #[.val (.int p0)] [])) (fun t k => XS.icmpNo X.here hx rfl (hb hby d2_21) rfl (feq hc4).1 k) ?_
        refine own_pre (B := T.setTop (mkF m 25 #[.val (.int p0)] [(.int p0)])) (fun t k => XS.iloadN X.here hx rfl (hb hby d2_24) rfl k) ?_
        refine own_pre (B := T.setTop (mkF m 28 #[.val (.int p0)] [(.int (183 : Int32)), (.int p0)])) (fun t k => XS.sipush X.here hx rfl (hb hby d2_25) k) ?_
        by_cases hc7 : p0 = (183 : Int32)
        · have hr8 := hr6.trans (if_pos hc7)
          refine own_pre (B := T.setTop (mkF m 59 #[.val (.int p0)] [])) (fun t k => XS.icmpYes X.here hx rfl (pc0 := 28) (pc' := 59) rfl (hb hby d2_28) rfl (teq hc7).1 (by decide) (by decide) k) ?_
          exact g_59 T _ X eT N  _ hr8
        · have hr9 := hr6.trans (if_neg hc7)
          refine own_pre (B := T.setTop (mkF m 31 #[.val (.int p0)] [])) (fun t k => XS.icmpNo X.here hx rfl (hb hby d2_28) rfl (feq hc7).1 k) ?_
          refine own_pre (B := T.setTop (mkF m 32 #[.val (.int p0)] [(.int p0)])) (fun t k => XS.iloadN X.here hx rfl (hb hby d2_31) rfl k) ?_
          refine own_pre (B := T.setTop (mkF m 35 #[.val (.int p0)] [(.int (768 : Int32)), (.int p0)])) (fun t k => XS.sipush X.here hx rfl (hb hby d2_32) k) ?_
          by_cases hc10 : p0 < (768 : Int32)
          · have hr11 := hr9.trans (if_pos hc10)
            refine own_pre (B := T.setTop (mkF m 45 #[.val (.int p0)] [])) (fun t k => XS.icmpYes X.here hx rfl (pc0 := 35) (pc' := 45) rfl (hb hby d2_35) rfl (tlt hc10).1 (by decide) (by decide) k) ?_
            exact g_45 T _ X eT N  _ hr11
          · have hr12 := hr9.trans (if_neg hc10)
            refine own_pre (B := T.setTop (mkF m 38 #[.val (.int p0)] [])) (fun t k => XS.icmpNo X.here hx rfl (hb hby d2_35) rfl (flt hc10).1 k) ?_
            refine own_pre (B := T.setTop (mkF m 39 #[.val (.int p0)] [(.int p0)])) (fun t k => XS.iloadN X.here hx rfl (hb hby d2_38) rfl k) ?_
            refine own_pre (B := T.setTop (mkF m 42 #[.val (.int p0)] [(.int (879 : Int32)), (.int p0)])) (fun t k => XS.sipush X.here hx rfl (hb hby d2_39) k) ?_
            by_cases hc13 : (879 : Int32) < p0
            · have hr14 := hr12.trans (if_pos hc13)
              refine own_pre (B := T.setTop (mkF m 45 #[.val (.int p0)] [])) (fun t k => XS.icmpNo X.here hx rfl (hb hby d2_42) rfl (tlt hc13).2.2.2 k) ?_
              exact g_45 T _ X eT N  _ hr14
            · have hr15 := hr12.trans (if_neg hc13)
              refine own_pre (B := T.setTop (mkF m 59 #[.val (.int p0)] [])) (fun t k => XS.icmpYes X.here hx rfl (pc0 := 42) (pc' := 59) rfl (hb hby d2_42) rfl (flt hc13).2.2.2 (by decide) (by decide) k) ?_
              exact g_59 T _ X eT N  _ hr15
  have g_0 : ∀ r, r = f2_0 p0 → own_Fin p e below s (fun v h L => v = some (.int r) ∧ Fr n0 L ∧ h = h0) ({ frames := 0, cells := 0, slots := 0, locals := 0 } : Room).cells ({ frames := 0, cells := 0, slots := 0, locals := 0 } : Room).slots (s₁.setTop (mkF m 0 #[.val (.int p0)] [])) := by
    intro r hr
    have hr : r = (if p0 < (48 : Int32) then (f2_12 p0) else (if (57 : Int32) < p0 then (f2_12 p0) else (f2_59 p0))) := hr
    refine own_pre (B := s₁.setTop (mkF m 1 #[.val (.int p0)] [(.int p0)])) (fun t k => XS.iloadN X0.here hx rfl (hb hby d2_0) rfl k) ?_
    refine own_pre (B := s₁.setTop (mkF m 3 #[.val (.int p0)] [(.int (48 : Int32)), (.int p0)])) (fun t k => XS.bipush X0.here hx rfl (hb hby d2_1) k) ?_
    by_cases hc1 : p0 < (48 : Int32)
    · have hr2 := hr.trans (if_pos hc1)
      refine own_pre (B := s₁.setTop (mkF m 12 #[.val (.int p0)] [])) (fun t k => XS.icmpYes X0.here hx rfl (pc0 := 3) (pc' := 12) rfl (hb hby d2_3) rfl (tlt hc1).1 (by decide) (by decide) k) ?_
      exact g_12 s₁ _ X0 e0 N0  _ hr2
    · have hr3 := hr.trans (if_neg hc1)
      refine own_pre (B := s₁.setTop (mkF m 6 #[.val (.int p0)] [])) (fun t k => XS.icmpNo X0.here hx rfl (hb hby d2_3) rfl (flt hc1).1 k) ?_
      refine own_pre (B := s₁.setTop (mkF m 7 #[.val (.int p0)] [(.int p0)])) (fun t k => XS.iloadN X0.here hx rfl (hb hby d2_6) rfl k) ?_
      refine own_pre (B := s₁.setTop (mkF m 9 #[.val (.int p0)] [(.int (57 : Int32)), (.int p0)])) (fun t k => XS.bipush X0.here hx rfl (hb hby d2_7) k) ?_
      by_cases hc4 : (57 : Int32) < p0
      · have hr5 := hr3.trans (if_pos hc4)
        refine own_pre (B := s₁.setTop (mkF m 12 #[.val (.int p0)] [])) (fun t k => XS.icmpNo X0.here hx rfl (hb hby d2_9) rfl (tlt hc4).2.2.2 k) ?_
        exact g_12 s₁ _ X0 e0 N0  _ hr5
      · have hr6 := hr3.trans (if_neg hc4)
        refine own_pre (B := s₁.setTop (mkF m 59 #[.val (.int p0)] [])) (fun t k => XS.icmpYes X0.here hx rfl (pc0 := 9) (pc' := 59) rfl (hb hby d2_9) rfl (flt hc4).2.2.2 (by decide) (by decide) k) ?_
        exact g_59 s₁ _ X0 e0 N0  _ hr6
  exact own_pre pre0 (g_0 _ rfl)
/-! body 3 -/
theorem d3_0 : decode prog_140_method_7_code 0 = .ok (.iload_n 0, 1) := by decide +kernel
theorem d3_1 : decode prog_140_method_7_code 1 = .ok (.sipush 128, 3) := by decide +kernel
theorem d3_4 : decode prog_140_method_7_code 4 = .ok (.if_icmp .ge 45, 3) := by decide +kernel
theorem d3_7 : decode prog_140_method_7_code 7 = .ok (.iload_n 0, 1) := by decide +kernel
theorem d3_8 : decode prog_140_method_7_code 8 = .ok (.bipush 65, 2) := by decide +kernel
theorem d3_10 : decode prog_140_method_7_code 10 = .ok (.if_icmp .lt 9, 3) := by decide +kernel
theorem d3_13 : decode prog_140_method_7_code 13 = .ok (.iload_n 0, 1) := by decide +kernel
theorem d3_14 : decode prog_140_method_7_code 14 = .ok (.bipush 90, 2) := by decide +kernel
theorem d3_16 : decode prog_140_method_7_code 16 = .ok (.if_icmp .le 27, 3) := by decide +kernel
theorem d3_19 : decode prog_140_method_7_code 19 = .ok (.iload_n 0, 1) := by decide +kernel
theorem d3_20 : decode prog_140_method_7_code 20 = .ok (.bipush 97, 2) := by decide +kernel
theorem d3_22 : decode prog_140_method_7_code 22 = .ok (.if_icmp .lt 9, 3) := by decide +kernel
theorem d3_25 : decode prog_140_method_7_code 25 = .ok (.iload_n 0, 1) := by decide +kernel
theorem d3_26 : decode prog_140_method_7_code 26 = .ok (.bipush 122, 2) := by decide +kernel
theorem d3_28 : decode prog_140_method_7_code 28 = .ok (.if_icmp .le 15, 3) := by decide +kernel
theorem d3_31 : decode prog_140_method_7_code 31 = .ok (.iload_n 0, 1) := by decide +kernel
theorem d3_32 : decode prog_140_method_7_code 32 = .ok (.bipush 95, 2) := by decide +kernel
theorem d3_34 : decode prog_140_method_7_code 34 = .ok (.if_icmp .eq 9, 3) := by decide +kernel
theorem d3_37 : decode prog_140_method_7_code 37 = .ok (.iload_n 0, 1) := by decide +kernel
theorem d3_38 : decode prog_140_method_7_code 38 = .ok (.bipush 58, 2) := by decide +kernel
theorem d3_40 : decode prog_140_method_7_code 40 = .ok (.if_icmp .ne 7, 3) := by decide +kernel
theorem d3_43 : decode prog_140_method_7_code 43 = .ok (.iconst 1, 1) := by decide +kernel
theorem d3_44 : decode prog_140_method_7_code 44 = .ok (.goto 4, 3) := by decide +kernel
theorem d3_47 : decode prog_140_method_7_code 47 = .ok (.iconst 0, 1) := by decide +kernel
theorem d3_48 : decode prog_140_method_7_code 48 = .ok (.ireturn, 1) := by decide +kernel
theorem d3_49 : decode prog_140_method_7_code 49 = .ok (.iload_n 0, 1) := by decide +kernel
theorem d3_50 : decode prog_140_method_7_code 50 = .ok (.sipush 192, 3) := by decide +kernel
theorem d3_53 : decode prog_140_method_7_code 53 = .ok (.if_icmp .lt 10, 3) := by decide +kernel
theorem d3_56 : decode prog_140_method_7_code 56 = .ok (.iload_n 0, 1) := by decide +kernel
theorem d3_57 : decode prog_140_method_7_code 57 = .ok (.sipush 214, 3) := by decide +kernel
theorem d3_60 : decode prog_140_method_7_code 60 = .ok (.if_icmp .le 150, 3) := by decide +kernel
theorem d3_63 : decode prog_140_method_7_code 63 = .ok (.iload_n 0, 1) := by decide +kernel
theorem d3_64 : decode prog_140_method_7_code 64 = .ok (.sipush 216, 3) := by decide +kernel
theorem d3_67 : decode prog_140_method_7_code 67 = .ok (.if_icmp .lt 10, 3) := by decide +kernel
theorem d3_70 : decode prog_140_method_7_code 70 = .ok (.iload_n 0, 1) := by decide +kernel
theorem d3_71 : decode prog_140_method_7_code 71 = .ok (.sipush 246, 3) := by decide +kernel
theorem d3_74 : decode prog_140_method_7_code 74 = .ok (.if_icmp .le 136, 3) := by decide +kernel
theorem d3_77 : decode prog_140_method_7_code 77 = .ok (.iload_n 0, 1) := by decide +kernel
theorem d3_78 : decode prog_140_method_7_code 78 = .ok (.sipush 248, 3) := by decide +kernel
theorem d3_81 : decode prog_140_method_7_code 81 = .ok (.if_icmp .lt 10, 3) := by decide +kernel
theorem d3_84 : decode prog_140_method_7_code 84 = .ok (.iload_n 0, 1) := by decide +kernel
theorem d3_85 : decode prog_140_method_7_code 85 = .ok (.sipush 767, 3) := by decide +kernel
theorem d3_88 : decode prog_140_method_7_code 88 = .ok (.if_icmp .le 122, 3) := by decide +kernel
theorem d3_91 : decode prog_140_method_7_code 91 = .ok (.iload_n 0, 1) := by decide +kernel
theorem d3_92 : decode prog_140_method_7_code 92 = .ok (.sipush 880, 3) := by decide +kernel
theorem d3_95 : decode prog_140_method_7_code 95 = .ok (.if_icmp .lt 10, 3) := by decide +kernel
theorem d3_98 : decode prog_140_method_7_code 98 = .ok (.iload_n 0, 1) := by decide +kernel
theorem d3_99 : decode prog_140_method_7_code 99 = .ok (.sipush 893, 3) := by decide +kernel
theorem d3_102 : decode prog_140_method_7_code 102 = .ok (.if_icmp .le 108, 3) := by decide +kernel
theorem d3_105 : decode prog_140_method_7_code 105 = .ok (.iload_n 0, 1) := by decide +kernel
theorem d3_106 : decode prog_140_method_7_code 106 = .ok (.sipush 895, 3) := by decide +kernel
theorem d3_109 : decode prog_140_method_7_code 109 = .ok (.if_icmp .lt 10, 3) := by decide +kernel
theorem d3_112 : decode prog_140_method_7_code 112 = .ok (.iload_n 0, 1) := by decide +kernel
theorem d3_113 : decode prog_140_method_7_code 113 = .ok (.sipush 8191, 3) := by decide +kernel
theorem d3_116 : decode prog_140_method_7_code 116 = .ok (.if_icmp .le 94, 3) := by decide +kernel
theorem d3_119 : decode prog_140_method_7_code 119 = .ok (.iload_n 0, 1) := by decide +kernel
theorem d3_120 : decode prog_140_method_7_code 120 = .ok (.sipush 8204, 3) := by decide +kernel
theorem d3_123 : decode prog_140_method_7_code 123 = .ok (.if_icmp .lt 10, 3) := by decide +kernel
theorem d3_126 : decode prog_140_method_7_code 126 = .ok (.iload_n 0, 1) := by decide +kernel
theorem d3_127 : decode prog_140_method_7_code 127 = .ok (.sipush 8205, 3) := by decide +kernel
theorem d3_130 : decode prog_140_method_7_code 130 = .ok (.if_icmp .le 80, 3) := by decide +kernel
theorem d3_133 : decode prog_140_method_7_code 133 = .ok (.iload_n 0, 1) := by decide +kernel
theorem d3_134 : decode prog_140_method_7_code 134 = .ok (.sipush 8304, 3) := by decide +kernel
theorem d3_137 : decode prog_140_method_7_code 137 = .ok (.if_icmp .lt 10, 3) := by decide +kernel
theorem d3_140 : decode prog_140_method_7_code 140 = .ok (.iload_n 0, 1) := by decide +kernel
theorem d3_141 : decode prog_140_method_7_code 141 = .ok (.sipush 8591, 3) := by decide +kernel
theorem d3_144 : decode prog_140_method_7_code 144 = .ok (.if_icmp .le 66, 3) := by decide +kernel
theorem d3_147 : decode prog_140_method_7_code 147 = .ok (.iload_n 0, 1) := by decide +kernel
theorem d3_148 : decode prog_140_method_7_code 148 = .ok (.sipush 11264, 3) := by decide +kernel
theorem d3_151 : decode prog_140_method_7_code 151 = .ok (.if_icmp .lt 10, 3) := by decide +kernel
theorem d3_154 : decode prog_140_method_7_code 154 = .ok (.iload_n 0, 1) := by decide +kernel
theorem d3_155 : decode prog_140_method_7_code 155 = .ok (.sipush 12271, 3) := by decide +kernel
theorem d3_158 : decode prog_140_method_7_code 158 = .ok (.if_icmp .le 52, 3) := by decide +kernel
theorem d3_161 : decode prog_140_method_7_code 161 = .ok (.iload_n 0, 1) := by decide +kernel
theorem d3_162 : decode prog_140_method_7_code 162 = .ok (.sipush 12289, 3) := by decide +kernel
theorem d3_165 : decode prog_140_method_7_code 165 = .ok (.if_icmp .lt 9, 3) := by decide +kernel
theorem d3_168 : decode prog_140_method_7_code 168 = .ok (.iload_n 0, 1) := by decide +kernel
theorem d3_169 : decode prog_140_method_7_code 169 = .ok (.ldc 7, 2) := by decide +kernel
theorem d3_171 : decode prog_140_method_7_code 171 = .ok (.if_icmp .le 39, 3) := by decide +kernel
theorem d3_174 : decode prog_140_method_7_code 174 = .ok (.iload_n 0, 1) := by decide +kernel
theorem d3_175 : decode prog_140_method_7_code 175 = .ok (.ldc 57, 2) := by decide +kernel
theorem d3_177 : decode prog_140_method_7_code 177 = .ok (.if_icmp .lt 9, 3) := by decide +kernel
theorem d3_180 : decode prog_140_method_7_code 180 = .ok (.iload_n 0, 1) := by decide +kernel
theorem d3_181 : decode prog_140_method_7_code 181 = .ok (.ldc 58, 2) := by decide +kernel
theorem d3_183 : decode prog_140_method_7_code 183 = .ok (.if_icmp .le 27, 3) := by decide +kernel
theorem d3_186 : decode prog_140_method_7_code 186 = .ok (.iload_n 0, 1) := by decide +kernel
theorem d3_187 : decode prog_140_method_7_code 187 = .ok (.ldc 59, 2) := by decide +kernel
theorem d3_189 : decode prog_140_method_7_code 189 = .ok (.if_icmp .lt 9, 3) := by decide +kernel
theorem d3_192 : decode prog_140_method_7_code 192 = .ok (.iload_n 0, 1) := by decide +kernel
theorem d3_193 : decode prog_140_method_7_code 193 = .ok (.ldc 9, 2) := by decide +kernel
theorem d3_195 : decode prog_140_method_7_code 195 = .ok (.if_icmp .le 15, 3) := by decide +kernel
theorem d3_198 : decode prog_140_method_7_code 198 = .ok (.iload_n 0, 1) := by decide +kernel
theorem d3_199 : decode prog_140_method_7_code 199 = .ok (.ldc 10, 2) := by decide +kernel
theorem d3_201 : decode prog_140_method_7_code 201 = .ok (.if_icmp .lt 13, 3) := by decide +kernel
theorem d3_204 : decode prog_140_method_7_code 204 = .ok (.iload_n 0, 1) := by decide +kernel
theorem d3_205 : decode prog_140_method_7_code 205 = .ok (.ldc 60, 2) := by decide +kernel
theorem d3_207 : decode prog_140_method_7_code 207 = .ok (.if_icmp .gt 7, 3) := by decide +kernel
theorem d3_210 : decode prog_140_method_7_code 210 = .ok (.iconst 1, 1) := by decide +kernel
theorem d3_211 : decode prog_140_method_7_code 211 = .ok (.goto 4, 3) := by decide +kernel
theorem d3_214 : decode prog_140_method_7_code 214 = .ok (.iconst 0, 1) := by decide +kernel
theorem d3_215 : decode prog_140_method_7_code 215 = .ok (.ireturn, 1) := by decide +kernel
theorem pn_3 : plainName "com/example/amberwire/amberwire/XmlCharacters" = true := by first | (simp [plainName, overriddenIn]; done) | decide +kernel
theorem ef_3 (m : MethodId) (p0 : Int32) : entryFrame m #[(.int p0)] 1 = mkF m 0 #[.val (.int p0)] [] := by first | (simp [entryFrame, mkF, argsToLocals, Value.category]; done) | rfl
def f3_215 (p0 : Int32) (t0 : Int32) : Int32 := (t0 &&& 1)
def f3_214 (p0 : Int32) : Int32 := (f3_215 p0 (0 : Int32))
def f3_210 (p0 : Int32) : Int32 := (f3_215 p0 (1 : Int32))
def f3_198 (p0 : Int32) : Int32 := (if p0 < (65536 : Int32) then (f3_214 p0) else (if (983039 : Int32) < p0 then (f3_214 p0) else (f3_210 p0)))
def f3_186 (p0 : Int32) : Int32 := (if p0 < (65008 : Int32) then (f3_198 p0) else (if (65533 : Int32) < p0 then (f3_198 p0) else (f3_210 p0)))
def f3_174 (p0 : Int32) : Int32 := (if p0 < (63744 : Int32) then (f3_186 p0) else (if (64975 : Int32) < p0 then (f3_186 p0) else (f3_210 p0)))
def f3_161 (p0 : Int32) : Int32 := (if p0 < (12289 : Int32) then (f3_174 p0) else (if (55295 : Int32) < p0 then (f3_174 p0) else (f3_210 p0)))
def f3_147 (p0 : Int32) : Int32 := (if p0 < (11264 : Int32) then (f3_161 p0) else (if (12271 : Int32) < p0 then (f3_161 p0) else (f3_210 p0)))
def f3_133 (p0 : Int32) : Int32 := (if p0 < (8304 : Int32) then (f3_147 p0) else (if (8591 : Int32) < p0 then (f3_147 p0) else (f3_210 p0)))
def f3_119 (p0 : Int32) : Int32 := (if p0 < (8204 : Int32) then (f3_133 p0) else (if (8205 : Int32) < p0 then (f3_133 p0) else (f3_210 p0)))
def f3_105 (p0 : Int32) : Int32 := (if p0 < (895 : Int32) then (f3_119 p0) else (if (8191 : Int32) < p0 then (f3_119 p0) else (f3_210 p0)))
def f3_91 (p0 : Int32) : Int32 := (if p0 < (880 : Int32) then (f3_105 p0) else (if (893 : Int32) < p0 then (f3_105 p0) else (f3_210 p0)))
def f3_77 (p0 : Int32) : Int32 := (if p0 < (248 : Int32) then (f3_91 p0) else (if (767 : Int32) < p0 then (f3_91 p0) else (f3_210 p0)))
def f3_63 (p0 : Int32) : Int32 := (if p0 < (216 : Int32) then (f3_77 p0) else (if (246 : Int32) < p0 then (f3_77 p0) else (f3_210 p0)))
def f3_48 (p0 : Int32) (t0 : Int32) : Int32 := (t0 &&& 1)
def f3_43 (p0 : Int32) : Int32 := (f3_48 p0 (1 : Int32))
def f3_31 (p0 : Int32) : Int32 := (if p0 = (95 : Int32) then (f3_43 p0) else (if p0 = (58 : Int32) then (f3_43 p0) else (f3_48 p0 (0 : Int32))))
def f3_19 (p0 : Int32) : Int32 := (if p0 < (97 : Int32) then (f3_31 p0) else (if (122 : Int32) < p0 then (f3_31 p0) else (f3_43 p0)))
def f3_0 (p0 : Int32) : Int32 := (if p0 < (128 : Int32) then (if p0 < (65 : Int32) then (f3_19 p0) else (if (90 : Int32) < p0 then (f3_19 p0) else (f3_43 p0))) else (if p0 < (192 : Int32) then (f3_63 p0) else (if (214 : Int32) < p0 then (f3_63 p0) else (f3_210 p0))))
def Q3 (p0 : Int32) (h0 : Heap) (n0 : Nat) (v : Option Value) (h : Heap) (L : List Loc) : Prop := v = some (.int (f3_0 p0)) ∧ Fr n0 L ∧ h = h0
set_option maxRecDepth 65536 in
set_option maxHeartbeats 40000000 in
theorem rm3 (l : Launch) (Z : State) (a0 : Array Value) (hw : ∀ d ∈ tables_1, d.before a0 Z = true) (ws : List Jvm.Cond) (p0 : Int32) (h0 : Heap) (n0 : Nat) (Z0 : n0 ≤ h0.size) :
    MetFree l (⟨"com/example/amberwire/amberwire/XmlCharacters", "isNameStart", "(I)Z"⟩ : MethodName) (head1 (Jvm.Cond.code (⟨"com/example/amberwire/amberwire/XmlCharacters", "isNameStart", "(I)Z"⟩ : MethodName) prog_140_method_7_code 1 (some .boolean) :: ws) ({ frames := 0, cells := 0, slots := 0, locals := 0 } : Room)) (fun a U => a = #[(.int p0)] ∧ Z.Warmed39 U.vm ∧ U.heap = h0) (fun _ _ _ _ _ => True) (fun _ U o U' => ∃ v L, o = .returned v ∧ Q3 p0 h0 n0 v U'.heap L ∧ FrameEnd U o U' L ({ frames := 0, cells := 0, slots := 0, locals := 0 } : Room).cells ({ frames := 0, cells := 0, slots := 0, locals := 0 } : Room).slots) := by
  refine MetFree.of_bodySF (plainFor_of_name pn_3) hisR ?_
  intro p e s m args below meth c s₁ Bd hml0 hP hK
  obtain ⟨rfl, hZ, hh⟩ := hP
  have hx := Bd.exec
  have hby := Bd.bytes
  have hml : c.maxLocals = 1 := hml0
  have hlk : meth.locks = false := BodyLoose.notSynchronized Bd
  have hown : s.vm.findClass "com/example/amberwire/amberwire/XmlCharacters" = some m.cls := findClass_of_methodNamed Bd.named
  have X0 : Stand p l e ({ frames := 0, cells := 0, slots := 0, locals := 0 } : Room) s m #[(.int p0)] below meth c s₁ [] 0 0 := Stand.of_body Bd
  have e0 : s₁.heap = h0 := by rw [← hh, Bd.state]; rfl
  have N0 := Fr.nil n0
  have Zs0 : n0 ≤ s₁.heap.size := by rw [e0]; exact Z0
  have pre0 : ∀ t, Steps p.tables e below (s₁.setTop (mkF m 0 #[.val (.int p0)] [])) t → Steps p.tables e below (s₁.setTop (entryFrame m #[(.int p0)] 1)) t := fun t k => castTop (ef_3 m p0) k
  have hnm := (name_of_methodNamed Bd.named Bd.method).1
  have g_215 : ∀ (T : State) (locs : List Loc) (X : Stand p l e ({ frames := 0, cells := 0, slots := 0, locals := 0 } : Room) s m #[(.int p0)] below meth c T locs 0 0) (eT : T.heap = h0) (N : Fr n0 locs) (t0 : Int32)  (r : Int32), r = f3_215 p0 t0 → own_Fin p e below s (fun v h L => v = some (.int r) ∧ Fr n0 L ∧ h = h0) ({ frames := 0, cells := 0, slots := 0, locals := 0 } : Room).cells ({ frames := 0, cells := 0, slots := 0, locals := 0 } : Room).slots (T.setTop (mkF m 215 #[.val (.int p0)] [(.int t0)])) := by
    intro T locs X eT N t0  r hr
    have hr : r = (t0 &&& 1) := hr
    exact own_retZ X hx hlk Bd.returns (hb hby d3_215) ⟨own_someI hr, N, eT⟩ (by decide) (by decide)
  have g_214 : ∀ (T : State) (locs : List Loc) (X : Stand p l e ({ frames := 0, cells := 0, slots := 0, locals := 0 } : Room) s m #[(.int p0)] below meth c T locs 0 0) (eT : T.heap = h0) (N : Fr n0 locs)   (r : Int32), r = f3_214 p0 → own_Fin p e below s (fun v h L => v = some (.int r) ∧ Fr n0 L ∧ h = h0) ({ frames := 0, cells := 0, slots := 0, locals := 0 } : Room).cells ({ frames := 0, cells := 0, slots := 0, locals := 0 } : Room).slots (T.setTop (mkF m 214 #[.val (.int p0)] [])) := by
    intro T locs X eT N   r hr
    have hr : r = (f3_215 p0 (0 : Int32)) := hr
    refine own_pre (B := T.setTop (mkF m 215 #[.val (.int p0)] [(.int (0 : Int32))])) (fun t k => XS.iconst X.here hx rfl (hb hby d3_214) k) ?_
    exact g_215 T _ X eT N (0 : Int32) _ hr
  have g_210 : ∀ (T : State) (locs : List Loc) (X : Stand p l e ({ frames := 0, cells := 0, slots := 0, locals := 0 } : Room) s m #[(.int p0)] below meth c T locs 0 0) (eT : T.heap = h0) (N : Fr n0 locs)   (r : Int32), r = f3_210 p0 → own_Fin p e below s (fun v h L => v = some (.int r) ∧ Fr n0 L ∧ h = h0) ({ frames := 0, cells := 0, slots := 0, locals := 0 } : Room).cells ({ frames := 0, cells := 0, slots := 0, locals := 0 } : Room).slots (T.setTop (mkF m 210 #[.val (.int p0)] [])) := by
    intro T locs X eT N   r hr
    have hr : r = (f3_215 p0 (1 : Int32)) := hr
    refine own_pre (B := T.setTop (mkF m 211 #[.val (.int p0)] [(.int (1 : Int32))])) (fun t k => XS.iconst X.here hx rfl (hb hby d3_210) k) ?_
    refine own_pre (B := T.setTop (mkF m 215 #[.val (.int p0)] [(.int (1 : Int32))])) (fun t k => XS.goto X.here hx rfl (pc0 := 211) (pc' := 215) rfl (hb hby d3_211) (by decide) (by decide) k) ?_
    exact g_215 T _ X eT N (1 : Int32) _ hr
  have g_198 : ∀ (T : State) (locs : List Loc) (X : Stand p l e ({ frames := 0, cells := 0, slots := 0, locals := 0 } : Room) s m #[(.int p0)] below meth c T locs 0 0) (eT : T.heap = h0) (N : Fr n0 locs)   (r : Int32), r = f3_198 p0 → own_Fin p e below s (fun v h L => v = some (.int r) ∧ Fr n0 L ∧ h = h0) ({ frames := 0, cells := 0, slots := 0, locals := 0 } : Room).cells ({ frames := 0, cells := 0, slots := 0, locals := 0 } : Room).slots (T.setTop (mkF m 198 #[.val (.int p0)] [])) := by
    intro T locs X eT N   r hr
    have hr : r = (if p0 < (65536 : Int32) then (f3_214 p0) else (if (983039 : Int32) < p0 then (f3_214 p0) else (f3_210 p0))) := hr
    refine own_pre (B := T.setTop (mkF m 199 #[.val (.int p0)] [(.int p0)])) (fun t k => XS.iloadN X.here hx rfl (hb hby d3_198) rfl k) ?_
    refine own_pre (B := T.setTop (mkF m 201 #[.val (.int p0)] [(.int (65536 : Int32)), (.int p0)])) (fun t k => X.ldcInt hx hown (mvT hZ (hw _ (List.mem_of_getElem? (i := 19) rfl))) (g := (mkF m 199 #[.val (.int p0)] [(.int p0)])) rfl (hb hby d3_199) _ k) ?_
    by_cases hc1 : p0 < (65536 : Int32)
    · have hr2 := hr.trans (if_pos hc1)
      refine own_pre (B := T.setTop (mkF m 214 #[.val (.int p0)] [])) (fun t k => XS.icmpYes X.here hx rfl (pc0 := 201) (pc' := 214) rfl (hb hby d3_201) rfl (tlt hc1).1 (by decide) (by decide) k) ?_
      exact g_214 T _ X eT N  _ hr2
    · have hr3 := hr.trans (if_neg hc1)
      refine own_pre (B := T.setTop (mkF m 204 #[.val (.int p0)] [])) (fun t k => XS.icmpNo X.here hx rfl (hb hby d3_201) rfl (flt hc1).1 k) ?_
      refine own_pre (B := T.setTop (mkF m 205 #[.val (.int p0)] [(.int p0)])) (fun t k => XS.iloadN X.here hx rfl (hb hby d3_204) rfl k) ?_
      refine own_pre (B := T.setTop (mkF m 207 #[.val (.int p0)] [(.int (983039 : Int32)), (.int p0)])) (fun t k => X.ldcInt hx hown (mvT hZ (hw _ (List.mem_of_getElem? (i := 22) rfl))) (g := (mkF m 205 #[.val (.int p0)] [(.int p0)])) rfl (hb hby d3_205) _ k) ?_
      by_cases hc4 : (983039 : Int32) < p0
      · have hr5 := hr3.trans (if_pos hc4)
        refine own_pre (B := T.setTop (mkF m 214 #[.val (.int p0)] [])) (fun t k => XS.icmpYes X.here hx rfl (pc0 := 207) (pc' := 214) rfl (hb hby d3_207) rfl (tlt hc4).2.2.1 (by decide) (by decide) k) ?_
        exact g_214 T _ X eT N  _ hr5
      · have hr6 := hr3.trans (if_neg hc4)
        refine own_pre (B := T.setTop (mkF m 210 #[.val (.int p0)] [])) (fun t k => XS.icmpNo X.here hx rfl (hb hby d3_207) rfl (flt hc4).2.2.1 k) ?_
        exact g_210 T _ X eT N  _ hr6
  have g_186 : ∀ (T : State) (locs : List Loc) (X : Stand p l e ({ frames := 0, cells := 0, slots := 0, locals := 0 } : Room) s m #[(.int p0)] below meth c T locs 0 0) (eT : T.heap = h0) (N : Fr n0 locs)   (r : Int32), r = f3_186 p0 → own_Fin p e below s (fun v h L => v = some (.int r) ∧ Fr n0 L ∧ h = h0) ({ frames := 0, cells := 0, slots := 0, locals := 0 } : Room).cells ({ frames := 0, cells := 0, slots := 0, locals := 0 } : Room).slots (T.setTop (mkF m 186 #[.val (.int p0)] [])) := by
    intro T locs X eT N   r hr
    have hr : r = (if p0 < (65008 : Int32) then (f3_198 p0) else (if (65533 : Int32) < p0 then (f3_198 p0) else (f3_210 p0))) := hr
    refine own_pre (B := T.setTop (mkF m 187 #[.val (.int p0)] [(.int p0)])) (fun t k => XS.iloadN X.here hx rfl (hb hby d3_186) rfl k) ?_
    refine own_pre (B := T.setTop (mkF m 189 #[.val (.int p0)] [(.int (65008 : Int32)), (.int p0)])) (fun t k => X.ldcInt hx hown (mvT hZ (hw _ (List.mem_of_getElem? (i := 18) rfl))) (g := (mkF m 187 #[.val (.int p0)] [(.int p0)])) rfl (hb hby d3_187) _ k) ?_
    by_cases hc1 : p0 < (65008 : Int32)
    · have hr2 := hr.trans (if_pos hc1)
      refine own_pre (B := T.setTop (mkF m 198 #[.val (.int p0)] [])) (fun t k => XS.icmpYes X.here hx rfl (pc0 := 189) (pc' := 198) rfl (hb hby d3_189) rfl (tlt hc1).1 (by decide) (by decide) k) ?_
      exact g_198 T _ X eT N  _ hr2
    · have hr3 := hr.trans (if_neg hc1)
      refine own_pre (B := T.setTop (mkF m 192 #[.val (.int p0)] [])) (fun t k => XS.icmpNo X.here hx rfl (hb hby d3_189) rfl (flt hc1).1 k) ?_
      refine own_pre (B := T.setTop (mkF m 193 #[.val (.int p0)] [(.int p0)])) (fun t k => XS.iloadN X.here hx rfl (hb hby d3_192) rfl k) ?_
      refine own_pre (B := T.setTop (mkF m 195 #[.val (.int p0)] [(.int (65533 : Int32)), (.int p0)])) (fun t k => X.ldcInt hx hown (mvT hZ (hw _ (List.mem_of_getElem? (i := 21) rfl))) (g := (mkF m 193 #[.val (.int p0)] [(.int p0)])) rfl (hb hby d3_193) _ k) ?_
      by_cases hc4 : (65533 : Int32) < p0
      · have hr5 := hr3.trans (if_pos hc4)
        refine own_pre (B := T.setTop (mkF m 198 #[.val (.int p0)] [])) (fun t k => XS.icmpNo X.here hx rfl (hb hby d3_195) rfl (tlt hc4).2.2.2 k) ?_
        exact g_198 T _ X eT N  _ hr5
      · have hr6 := hr3.trans (if_neg hc4)
        refine own_pre (B := T.setTop (mkF m 210 #[.val (.int p0)] [])) (fun t k => XS.icmpYes X.here hx rfl (pc0 := 195) (pc' := 210) rfl (hb hby d3_195) rfl (flt hc4).2.2.2 (by decide) (by decide) k) ?_
        exact g_210 T _ X eT N  _ hr6
  have g_174 : ∀ (T : State) (locs : List Loc) (X : Stand p l e ({ frames := 0, cells := 0, slots := 0, locals := 0 } : Room) s m #[(.int p0)] below meth c T locs 0 0) (eT : T.heap = h0) (N : Fr n0 locs)   (r : Int32), r = f3_174 p0 → own_Fin p e below s (fun v h L => v = some (.int r) ∧ Fr n0 L ∧ h = h0) ({ frames := 0, cells := 0, slots := 0, locals := 0 } : Room).cells ({ frames := 0, cells := 0, slots := 0, locals := 0 } : Room).slots (T.setTop (mkF m 174 #[.val (.int p0)] [])) := by
    intro T locs X eT N   r hr
    have hr : r = (if p0 < (63744 : Int32) then (f3_186 p0) else (if (64975 : Int32) < p0 then (f3_186 p0) else (f3_210 p0))) := hr
    refine own_pre (B := T.setTop (mkF m 175 #[.val (.int p0)] [(.int p0)])) (fun t k => XS.iloadN X.here hx rfl (hb hby d3_174) rfl k) ?_
    refine own_pre (B := T.setTop (mkF m 177 #[.val (.int p0)] [(.int (63744 : Int32)), (.int p0)])) (fun t k => X.ldcInt hx hown (mvT hZ (hw _ (List.mem_of_getElem? (i := 17) rfl))) (g := (mkF m 175 #[.val (.int p0)] [(.int p0)])) rfl (hb hby d3_175) _ k) ?_
    by_cases hc1 : p0 < (63744 : Int32)
    · have hr2 := hr.trans (if_pos hc1)
      refine own_pre (B := T.setTop (mkF m 186 #[.val (.int p0)] [])) (fun t k => XS.icmpYes X.here hx rfl (pc0 := 177) (pc' := 186) rfl (hb hby d3_177) rfl (tlt hc1).1 (by decide) (by decide) k) ?_
      exact g_186 T _ X eT N  _ hr2
    · have hr3 := hr.trans (if_neg hc1)
      refine own_pre (B := T.setTop (mkF m 180 #[.val (.int p0)] [])) (fun t k => XS.icmpNo X.here hx rfl (hb hby d3_177) rfl (flt hc1).1 k) ?_
      refine own_pre (B := T.setTop (mkF m 181 #[.val (.int p0)] [(.int p0)])) (fun t k => XS.iloadN X.here hx rfl (hb hby d3_180) rfl k) ?_
      refine own_pre (B := T.setTop (mkF m 183 #[.val (.int p0)] [(.int (64975 : Int32)), (.int p0)])) (fun t k => X.ldcInt hx hown (mvT hZ (hw _ (List.mem_of_getElem? (i := 20) rfl))) (g := (mkF m 181 #[.val (.int p0)] [(.int p0)])) rfl (hb hby d3_181) _ k) ?_
      by_cases hc4 : (64975 : Int32) < p0
      · have hr5 := hr3.trans (if_pos hc4)
        refine own_pre (B := T.setTop (mkF m 186 #[.val (.int p0)] [])) (fun t k => XS.icmpNo X.here hx rfl (hb hby d3_183) rfl (tlt hc4).2.2.2 k) ?_
        exact g_186 T _ X eT N  _ hr5
      · have hr6 := hr3.trans (if_neg hc4)
        refine own_pre (B := T.setTop (mkF m 210 #[.val (.int p0)] [])) (fun t k => XS.icmpYes X.here hx rfl (pc0 := 183) (pc' := 210) rfl (hb hby d3_183) rfl (flt hc4).2.2.2 (by decide) (by decide) k) ?_
        exact g_210 T _ X eT N  _ hr6
  have g_161 : ∀ (T : State) (locs : List Loc) (X : Stand p l e ({ frames := 0, cells := 0, slots := 0, locals := 0 } : Room) s m #[(.int p0)] below meth c T locs 0 0) (eT : T.heap = h0) (N : Fr n0 locs)   (r : Int32), r = f3_161 p0 → own_Fin p e below s (fun v h L => v = some (.int r) ∧ Fr n0 L ∧ h = h0) ({ frames := 0, cells := 0, slots := 0, locals := 0 } : Room).cells ({ frames := 0, cells := 0, slots := 0, locals := 0 } : Room).slots (T.setTop (mkF m 161 #[.val (.int p0)] [])) := by
    intro T locs X eT N   r hr
    have hr : r = (if p0 < (12289 : Int32) then (f3_174 p0) else (if (55295 : Int32) < p0 then (f3_174 p0) else (f3_210 p0))) := hr
    refine own_pre (B := T.setTop (mkF m 162 #[.val (.int p0)] [(.int p0)])) (fun t k => XS.iloadN X.here hx rfl (hb hby d3_161) rfl k) ?_
    refine own_pre (B := T.setTop (mkF m 165 #[.val (.int p0)] [(.int (12289 : Int32)), (.int p0)])) (fun t k => XS.sipush X.here hx rfl (hb hby d3_162) k) ?_
    by_cases hc1 : p0 < (12289 : Int32)
    · have hr2 := hr.trans (if_pos hc1)
      refine own_pre (B := T.setTop (mkF m 174 #[.val (.int p0)] [])) (fun t k => XS.icmpYes X.here hx rfl (pc0 := 165) (pc' := 174) rfl (hb hby d3_165) rfl (tlt hc1).1 (by decide) (by decide) k) ?_
      exact g_174 T _ X eT N  _ hr2
    · have hr3 := hr.trans (if_neg hc1)
      refine own_pre (B := T.setTop (mkF m 168 #[.val (.int p0)] [])) (fun t k => XS.icmpNo X.here hx rfl (hb hby d3_165) rfl (flt hc1).1 k) ?_
      refine own_pre (B := T.setTop (mkF m 169 #[.val (.int p0)] [(.int p0)])) (fun t k => XS.iloadN X.here hx rfl (hb hby d3_168) rfl k) ?_
      refine own_pre (B := T.setTop (mkF m 171 #[.val (.int p0)] [(.int (55295 : Int32)), (.int p0)])) (fun t k => X.ldcInt hx hown (mvT hZ (hw _ (List.mem_of_getElem? (i := 16) rfl))) (g := (mkF m 169 #[.val (.int p0)] [(.int p0)])) rfl (hb hby d3_169) _ k) ?_
      by_cases hc4 : (55295 : Int32) < p0
      · have hr5 := hr3.trans (if_pos hc4)
        refine own_pre (B := T.setTop (mkF m 174 #[.val (.int p0)] [])) (fun t k => XS.icmpNo X.here hx rfl (hb hby d3_171) rfl (tlt hc4).2.2.2 k) ?_
        exact g_174 T _ X eT N  _ hr5
      · have hr6 := hr3.trans (if_neg hc4)
        refine own_pre (B := T.setTop (mkF m 210 #[.val (.int p0)] [])) (fun t k => XS.icmpYes X.here hx rfl (pc0 := 171) (pc' := 210) rfl (hb hby d3_171) rfl (flt hc4).2.2.2 (by decide) (by decide) k) ?_
        exact g_210 T _ X eT N  _ hr6
  have g_147 : ∀ (T : State) (locs : List Loc) (X : Stand p l e ({ frames := 0, cells := 0, slots := 0, locals := 0 } : Room) s m #[(.int p0)] below meth c T locs 0 0) (eT : T.heap = h0) (N : Fr n0 locs)   (r : Int32), r = f3_147 p0 → own_Fin p e below s (fun v h L => v = some (.int r) ∧ Fr n0 L ∧ h = h0) ({ frames := 0, cells := 0, slots := 0, locals := 0 } : Room).cells ({ frames := 0, cells := 0, slots := 0, locals := 0 } : Room).slots (T.setTop (mkF m 147 #[.val (.int p0)] [])) := by
    intro T locs X eT N   r hr
    have hr : r = (if p0 < (11264 : Int32) then (f3_161 p0) else (if (12271 : Int32) < p0 then (f3_161 p0) else (f3_210 p0))) := hr
    refine own_pre (B := T.setTop (mkF m 148 #[.val (.int p0)] [(.int p0)])) (fun t k => XS.iloadN X.here hx rfl (hb hby d3_147) rfl k) ?_
    refine own_pre (B := T.setTop (mkF m 151 #[.val (.int p0)] [(.int (11264 : Int32)), (.int p0)])) (fun t k => XS.sipush X.here hx rfl (hb hby d3_148) k) ?_
    by_cases hc1 : p0 < (11264 : Int32)
    · have hr2 := hr.trans (if_pos hc1)
      refine own_pre (B := T.setTop (mkF m 161 #[.val (.int p0)] [])) (fun t k => XS.icmpYes X.here hx rfl (pc0 := 151) (pc' := 161) rfl (hb hby d3_151) rfl (tlt hc1).1 (by decide) (by decide) k) ?_
      exact g_161 T _ X eT N  _ hr2
    · have hr3 := hr.trans (if_neg hc1)
      refine own_pre (B := T.setTop (mkF m 154 #[.val (.int p0)] [])) (fun t k => XS.icmpNo X.here hx rfl (hb hby d3_151) rfl (flt hc1).1 k) ?_
      refine own_pre (B := T.setTop (mkF m 155 #[.val (.int p0)] [(.int p0)])) (fun t k => XS.iloadN X.here hx rfl (hb hby d3_154) rfl k) ?_
      refine own_pre (B := T.setTop (mkF m 158 #[.val (.int p0)] [(.int (12271 : Int32)), (.int p0)])) (fun t k => XS.sipush X.here hx rfl (hb hby d3_155) k) ?_
      by_cases hc4 : (12271 : Int32) < p0
      · have hr5 := hr3.trans (if_pos hc4)
        refine own_pre (B := T.setTop (mkF m 161 #[.val (.int p0)] [])) (fun t k => XS.icmpNo X.here hx rfl (hb hby d3_158) rfl (tlt hc4).2.2.2 k) ?_
        exact g_161 T _ X eT N  _ hr5
      · have hr6 := hr3.trans (if_neg hc4)
        refine own_pre (B := T.setTop (mkF m 210 #[.val (.int p0)] [])) (fun t k => XS.icmpYes X.here hx rfl (pc0 := 158) (pc' := 210) rfl (hb hby d3_158) rfl (flt hc4).2.2.2 (by decide) (by decide) k) ?_
        exact g_210 T _ X eT N  _ hr6
  have g_133 : ∀ (T : State) (locs : List Loc) (X : Stand p l e ({ frames := 0, cells := 0, slots := 0, locals := 0 } : Room) s m #[(.int p0)] below meth c T locs 0 0) (eT : T.heap = h0) (N : Fr n0 locs)   (r : Int32), r = f3_133 p0 → own_Fin p e below s (fun v h L => v = some (.int r) ∧ Fr n0 L ∧ h = h0) ({ frames := 0, cells := 0, slots := 0, locals := 0 } : Room).cells ({ frames := 0, cells := 0, slots := 0, locals := 0 } : Room).slots (T.setTop (mkF m 133 #[.val (.int p0)] [])) := by
    intro T locs X eT N   r hr
    have hr : r = (if p0 < (8304 : Int32) then (f3_147 p0) else (if (8591 : Int32) < p0 then (f3_147 p0) else (f3_210 p0))) := hr
    refine own_pre (B := T.setTop (mkF m 134 #[.val (.int p0)] [(.int p0)])) (fun t k => XS.iloadN X.here hx rfl (hb hby d3_133) rfl k) ?_
    refine own_pre (B := T.setTop (mkF m 137 #[.val (.int p0)] [(.int (8304 : Int32)), (.int p0)])) (fun t k => XS.sipush X.here hx rfl (hb hby d3_134) k) ?_
    by_cases hc1 : p0 < (8304 : Int32)
    · have hr2 := hr.trans (if_pos hc1)
      refine own_pre (B := T.setTop (mkF m 147 #[.val (.int p0)] [])) (fun t k => XS.icmpYes X.here hx rfl (pc0 := 137) (pc' := 147) rfl (hb hby d3_137) rfl (tlt hc1).1 (by decide) (by decide) k) ?_
      exact g_147 T _ X eT N  _ hr2
    · have hr3 := hr.trans (if_neg hc1)
      refine own_pre (B := T.setTop (mkF m 140 #[.val (.int p0)] [])) (fun t k => XS.icmpNo X.here hx rfl (hb hby d3_137) rfl (flt hc1).1 k) ?_
      refine own_pre (B := T.setTop (mkF m 141 #[.val (.int p0)] [(.int p0)])) (fun t k => XS.iloadN X.here hx rfl (hb hby d3_140) rfl k) ?_
      refine own_pre (B := T.setTop (mkF m 144 #[.val (.int p0)] [(.int (8591 : Int32)), (.int p0)])) (fun t k => XS.sipush X.here hx rfl (hb hby d3_141) k) ?_
      by_cases hc4 : (8591 : Int32) < p0
      · have hr5 := hr3.trans (if_pos hc4)
        refine own_pre (B := T.setTop (mkF m 147 #[.val (.int p0)] [])) (fun t k => XS.icmpNo X.here hx rfl (hb hby d3_144) rfl (tlt hc4).2.2.2 k) ?_
        exact g_147 T _ X eT N  _ hr5
      · have hr6 := hr3.trans (if_neg hc4)
        refine own_pre (B := T.setTop (mkF m 210 #[.val (.int p0)] [])) (fun t k => XS.icmpYes X.here hx rfl (pc0 := 144) (pc' := 210) rfl (hb hby d3_144) rfl (flt hc4).2.2.2 (by decide) (by decide) k) ?_
        exact g_210 T _ X eT N  _ hr6
  have g_119 : ∀ (T : State) (locs : List Loc) (X : Stand p l e ({ frames := 0, cells := 0, slots := 0, locals := 0 } : Room) s m #[(.int p0)] below meth c T locs 0 0) (eT : T.heap = h0) (N : Fr n0 locs)   (r : Int32), r = f3_119 p0 → own_Fin p e below s (fun v h L => v = some (.int r) ∧ Fr n0 L ∧ h = h0) ({ frames := 0, cells := 0, slots := 0, locals := 0 } : Room).cells ({ frames := 0, cells := 0, slots := 0, locals := 0 } : Room).slots (T.setTop (mkF m 119 #[.val (.int p0)] [])) := by
    intro T locs X eT N   r hr
    have hr : r = (if p0 < (8204 : Int32) then (f3_133 p0) else (if (8205 : Int32) < p0 then (f3_133 p0) else (f3_210 p0))) := hr
    refine own_pre (B := T.setTop (mkF m 120 #[.val (.int p0)] [(.int p0)])) (fun t k => XS.iloadN X.here hx rfl (hb hby d3_119) rfl k) ?_
    refine own_pre (B := T.setTop (mkF m 123 #[.val (.int p0)] [(.int (8204 : Int32)), (.int p0)])) (fun t k => XS.sipush X.here hx rfl (hb hby d3_120) k) ?_
    by_cases hc1 : p0 < (8204 : Int32)
    · have hr2 := hr.trans (if_pos hc1)
      refine own_pre (B := T.setTop (mkF m 133 #[.val (.int p0)] [])) (fun t k => XS.icmpYes X.here hx rfl (pc0 := 123) (pc' := 133) rfl (hb hby d3_123) rfl (tlt hc1).1 (by decide) (by decide) k) ?_
      exact g_133 T _ X eT N  _ hr2
    · have hr3 := hr.trans (if_neg hc1)
      refine own_pre (B := T.setTop (mkF m 126 #[.val (.int p0)] [])) (fun t k => XS.icmpNo X.here hx rfl (hb hby d3_123) rfl (flt hc1).1 k) ?_
      refine own_pre (B := T.setTop (mkF m 127 #[.val (.int p0)] [(.int p0)])) (fun t k => XS.iloadN X.here hx rfl (hb hby d3_126) rfl k) ?_
      refine own_pre (B := T.setTop (mkF m 130 #[.val (.int p0)] [(.int (8205 : Int32)), (.int p0)])) (fun t k => XS.sipush X.here hx rfl (hb hby d3_127) k) ?_
      by_cases hc4 : (8205 : Int32) < p0
      · have hr5 := hr3.trans (if_pos hc4)
        refine own_pre (B := T.setTop (mkF m 133 #[.val (.int p0)] [])) (fun t k => XS.icmpNo X.here hx rfl (hb hby d3_130) rfl (tlt hc4).2.2.2 k) ?_
        exact g_133 T _ X eT N  _ hr5
      · have hr6 := hr3.trans (if_neg hc4)
        refine own_pre (B := T.setTop (mkF m 210 #[.val (.int p0)] [])) (fun t k => XS.icmpYes X.here hx rfl (pc0 := 130) (pc' := 210) rfl (hb hby d3_130) rfl (flt hc4).2.2.2 (by decide) (by decide) k) ?_
        exact g_210 T _ X eT N  _ hr6
  have g_105 : ∀ (T : State) (locs : List Loc) (X : Stand p l e ({ frames := 0, cells := 0, slots := 0, locals := 0 } : Room) s m #[(.int p0)] below meth c T locs 0 0) (eT : T.heap = h0) (N : Fr n0 locs)   (r : Int32), r = f3_105 p0 → own_Fin p e below s (fun v h L => v = some (.int r) ∧ Fr n0 L ∧ h = h0) ({ frames := 0, cells := 0, slots := 0, locals := 0 } : Room).cells ({ frames := 0, cells := 0, slots := 0, locals := 0 } : Room).slots (T.setTop (mkF m 105 #[.val (.int p0)] [])) := by
    intro T locs X eT N   r hr
    have hr : r = (if p0 < (895 : Int32) then (f3_119 p0) else (if (8191 : Int32) < p0 then (f3_119 p0) else (f3_210 p0))) := hr
    refine own_pre (B := T.setTop (mkF m 106 #[.val (.int p0)] [(.int p0)])) (fun t k => XS.iloadN X.here hx rfl (hb hby d3_105) rfl k) ?_
    refine own_pre (B := T.setTop (mkF m 109 #[.val (.int p0)] [(.int (895 : Int32)), (.int p0)])) (fun t k => XS.sipush X.here hx rfl (hb hby d3_106) k) ?_
    by_cases hc1 : p0 < (895 : Int32)
    · have hr2 := hr.trans (if_pos hc1)
      refine own_pre (B := T.setTop (mkF m 119 #[.val (.int p0)] [])) (fun t k => XS.icmpYes X.here hx rfl (pc0 := 109) (pc' := 119) rfl (hb hby d3_109) rfl (tlt hc1).1 (by decide) (by decide) k) ?_
      exact g_119 T _ X eT N  _ hr2
    · have hr3 := hr.trans (if_neg hc1)
      refine own_pre (B := T.setTop (mkF m 112 #[.val (.int p0)] [])) (fun t k => XS.icmpNo X.here hx rfl (hb hby d3_109) rfl (flt hc1).1 k) ?_
      refine own_pre (B := T.setTop (mkF m 113 #[.val (.int p0)] [(.int p0)])) (fun t k => XS.iloadN X.here hx rfl (hb hby d3_112) rfl k) ?_
      refine own_pre (B := T.setTop (mkF m 116 #[.val (.int p0)] [(.int (8191 : Int32)), (.int p0)])) (fun t k => XS.sipush X.here hx rfl (hb hby d3_113) k) ?_
      by_cases hc4 : (8191 : Int32) < p0
      · have hr5 := hr3.trans (if_pos hc4)
        refine own_pre (B := T.setTop (mkF m 119 #[.val (.int p0)] [])) (fun t k => XS.icmpNo X.here hx rfl (hb hby d3_116) rfl (tlt hc4).2.2.2 k) ?_
        exact g_119 T _ X eT N  _ hr5
      · have hr6 := hr3.trans (if_neg hc4)
        refine own_pre (B := T.setTop (mkF m 210 #[.val (.int p0)] [])) (fun t k => XS.icmpYes X.here hx rfl (pc0 := 116) (pc' := 210) rfl (hb hby d3_116) rfl (flt hc4).2.2.2 (by decide) (by decide) k) ?_
        exact g_210 T _ X eT N  _ hr6
  have g_91 : ∀ (T : State) (locs : List Loc) (X : Stand p l e ({ frames := 0, cells := 0, slots := 0, locals := 0 } : Room) s m #[(.int p0)] below meth c T locs 0 0) (eT : T.heap = h0) (N : Fr n0 locs)   (r : Int32), r = f3_91 p0 → own_Fin p e below s (fun v h L => v = some (.int r) ∧ Fr n0 L ∧ h = h0) ({ frames := 0, cells := 0, slots := 0, locals := 0 } : Room).cells ({ frames := 0, cells := 0, slots := 0, locals := 0 } : Room).slots (T.setTop (mkF m 91 #[.val (.int p0)] [])) := by
    intro T locs X eT N   r hr
    have hr : r = (if p0 < (880 : Int32) then (f3_105 p0) else (if (893 : Int32) < p0 then (f3_105 p0) else (f3_210 p0))) := hr
    refine own_pre (B := T.setTop (mkF m 92 #[.val (.int p0)] [(.int p0)])) (fun t k => XS.iloadN X.here hx rfl (hb hby d3_91) rfl k) ?_
    refine own_pre (B := T.setTop (mkF m 95 #[.val (.int p0)] [(.int (880 : Int32)), (.int p0)])) (fun t k => XS.sipush X.here hx rfl (hb hby d3_92) k) ?_
    by_cases hc1 : p0 < (880 : Int32)
    · have hr2 := hr.trans (if_pos hc1)
      refine own_pre (B := T.setTop (mkF m 105 #[.val (.int p0)] [])) (fun t k => XS.icmpYes X.here hx rfl (pc0 := 95) (pc' := 105) rfl (hb hby d3_95) rfl (tlt hc1).1 (by decide) (by decide) k) ?_
      exact g_105 T _ X eT N  _ hr2
    · have hr3 := hr.trans (if_neg hc1)
      refine own_pre (B := T.setTop (mkF m 98 #[.val (.int p0)] [])) (fun t k => XS.icmpNo X.here hx rfl (hb hby d3_95) rfl (flt hc1).1 k) ?_
      refine own_pre (B := T.setTop (mkF m 99 #[.val (.int p0)] [(.int p0)])) (fun t k => XS.iloadN X.here hx rfl (hb hby d3_98) rfl k) ?_
      refine own_pre (B := T.setTop (mkF m 102 #[.val (.int p0)] [(.int (893 : Int32)), (.int p0)])) (fun t k => XS.sipush X.here hx rfl (hb hby d3_99) k) ?_
      by_cases hc4 : (893 : Int32) < p0
      · have hr5 := hr3.trans (if_pos hc4)
        refine own_pre (B := T.setTop (mkF m 105 #[.val (.int p0)] [])) (fun t k => XS.icmpNo X.here hx rfl (hb hby d3_102) rfl (tlt hc4).2.2.2 k) ?_
        exact g_105 T _ X eT N  _ hr5
      · have hr6 := hr3.trans (if_neg hc4)
        refine own_pre (B := T.setTop (mkF m 210 #[.val (.int p0)] [])) (fun t k => XS.icmpYes X.here hx rfl (pc0 := 102) (pc' := 210) rfl (hb hby d3_102) rfl (flt hc4).2.2.2 (by decide) (by decide) k) ?_
        exact g_210 T _ X eT N  _ hr6
  have g_77 : ∀ (T : State) (locs : List Loc) (X : Stand p l e ({ frames := 0, cells := 0, slots := 0, locals := 0 } : Room) s m #[(.int p0)] below meth c T locs 0 0) (eT : T.heap = h0) (N : Fr n0 locs)   (r : Int32), r = f3_77 p0 → own_Fin p e below s (fun v h L => v = some (.int r) ∧ Fr n0 L ∧ h = h0) ({ frames := 0, cells := 0, slots := 0, locals := 0 } : Room).cells ({ frames := 0, cells := 0, slots := 0, locals := 0 } : Room).slots (T.setTop (mkF m 77 #[.val (.int p0)] [])) := by
    intro T locs X eT N   r hr
    have hr : r = (if p0 < (248 : Int32) then (f3_91 p0) else (if (767 : Int32) < p0 then (f3_91 p0) else (f3_210 p0))) := hr
    refine own_pre (B := T.setTop (mkF m 78 #[.val (.int p0)] [(.int p0)])) (fun t k => XS.iloadN X.here hx rfl (hb hby d3_77) rfl k) ?_
    refine own_pre (B := T.setTop (mkF m 81 #[.val (.int p0)] [(.int (248 : Int32)), (.int p0)])) (fun t k => XS.sipush X.here hx rfl (hb hby d3_78) k) ?_
    by_cases hc1 : p0 < (248 : Int32)
    · have hr2 := hr.trans (if_pos hc1)
      refine own_pre (B := T.setTop (mkF m 91 #[.val (.int p0)] [])) (fun t k => XS.icmpYes X.here hx rfl (pc0 := 81) (pc' := 91) rfl (hb hby d3_81) rfl (tlt hc1).1 (by decide) (by decide) k) ?_
      exact g_91 T _ X eT N  _ hr2
    · have hr3 := hr.trans (if_neg hc1)
      refine own_pre (B := T.setTop (mkF m 84 #[.val (.int p0)] [])) (fun t k => XS.icmpNo X.here hx rfl (hb hby d3_81) rfl (flt hc1).1 k) ?_
      refine own_pre (B := T.setTop (mkF m 85 #[.val (.int p0)] [(.int p0)])) (fun t k => XS.iloadN X.here hx rfl (hb hby d3_84) rfl k) ?_
      refine own_pre (B := T.setTop (mkF m 88 #[.val (.int p0)] [(.int (767 : Int32)), (.int p0)])) (fun t k => XS.sipush X.here hx rfl (hb hby d3_85) k) ?_
      by_cases hc4 : (767 : Int32) < p0
      · have hr5 := hr3.trans (if_pos hc4)
        refine own_pre (B := T.setTop (mkF m 91 #[.val (.int p0)] [])) (fun t k => XS.icmpNo X.here hx rfl (hb hby d3_88) rfl (tlt hc4).2.2.2 k) ?_
        exact g_91 T _ X eT N  _ hr5
      · have hr6 := hr3.trans (if_neg hc4)
        refine own_pre (B := T.setTop (mkF m 210 #[.val (.int p0)] [])) (fun t k => XS.icmpYes X.here hx rfl (pc0 := 88) (pc' := 210) rfl (hb hby d3_88) rfl (flt hc4).2.2.2 (by decide) (by decide) k) ?_
        exact g_210 T _ X eT N  _ hr6
  have g_63 : ∀ (T : State) (locs : List Loc) (X : Stand p l e ({ frames := 0, cells := 0, slots := 0, locals := 0 } : Room) s m #[(.int p0)] below meth c T locs 0 0) (eT : T.heap = h0) (N : Fr n0 locs)   (r : Int32), r = f3_63 p0 → own_Fin p e below s (fun v h L => v = some (.int r) ∧ Fr n0 L ∧ h = h0) ({ frames := 0, cells := 0, slots := 0, locals := 0 } : Room).cells ({ frames := 0, cells := 0, slots := 0, locals := 0 } : Room).slots (T.setTop (mkF m 63 #[.val (.int p0)] [])) := by
    intro T locs X eT N   r hr
    have hr : r = (if p0 < (216 : Int32) then (f3_77 p0) else (if (246 : Int32) < p0 then (f3_77 p0) else (f3_210 p0))) := hr
    refine own_pre (B := T.setTop (mkF m 64 #[.val (.int p0)] [(.int p0)])) (fun t k => XS.iloadN X.here hx rfl (hb hby d3_63) rfl k) ?_
    refine own_pre (B := T.setTop (mkF m 67 #[.val (.int p0)] [(.int (216 : Int32)), (.int p0)])) (fun t k => XS.sipush X.here hx rfl (hb hby d3_64) k) ?_
    by_cases hc1 : p0 < (216 : Int32)
    · have hr2 := hr.trans (if_pos hc1)
      refine own_pre (B := T.setTop (mkF m 77 #[.val (.int p0)] [])) (fun t k => XS.icmpYes X.here hx rfl (pc0 := 67) (pc' := 77) rfl (hb hby d3_67) rfl (tlt hc1).1 (by decide) (by decide) k) ?_
      exact g_77 T _ X eT N  _ hr2
    · have hr3 := hr.trans (if_neg hc1)
      refine own_pre (B := T.setTop (mkF m 70 #[.val (.int p0)] [])) (fun t k => XS.icmpNo X.here hx rfl (hb hby d3_67) rfl (flt hc1).1 k) ?_
      refine own_pre (B := T.setTop (mkF m 71 #[.val (.int p0)] [(.int p0)])) (fun t k => XS.iloadN X.here hx rfl (hb hby d3_70) rfl k) ?_
      refine own_pre (B := T.setTop (mkF m 74 #[.val (.int p0)] [(.int (246 : Int32)), (.int p0)])) (fun t k => XS.sipush X.here hx rfl (hb hby d3_71) k) ?_
      by_cases hc4 : (246 : Int32) < p0
      · have hr5 := hr3.trans (if_pos hc4)
        refine own_pre (B := T.setTop (mkF m 77 #[.val (.int p0)] [])) (fun t k => XS.icmpNo X.here hx rfl (hb hby d3_74) rfl (tlt hc4).2.2.2 k) ?_
        exact g_77 T _ X eT N  _ hr5
      · have hr6 := hr3.trans (if_neg hc4)
        refine own_pre (B := T.setTop (mkF m 210 #[.val (.int p0)] [])) (fun t k => XS.icmpYes X.here hx rfl (pc0 := 74) (pc' := 210) rfl (hb hby d3_74) rfl (flt hc4).2.2.2 (by decide) (by decide) k) ?_
        exact g_210 T _ X eT N  _ hr6
  have g_48 : ∀ (T : State) (locs : List Loc) (X : Stand p l e ({ frames := 0, cells := 0, slots := 0, locals := 0 } : Room) s m #[(.int p0)] below meth c T locs 0 0) (eT : T.heap = h0) (N : Fr n0 locs) (t0 : Int32)  (r : Int32), r = f3_48 p0 t0 → own_Fin p e below s (fun v h L => v = some (.int r) ∧ Fr n0 L ∧ h = h0) ({ frames := 0, cells := 0, slots := 0, locals := 0 } : Room).cells ({ frames := 0, cells := 0, slots := 0, locals := 0 } : Room).slots (T.setTop (mkF m 48 #[.val (.int p0)] [(.int t0)])) := by
    intro T locs X eT N t0  r hr
    have hr : r = (t0 &&& 1) := hr
    exact own_retZ X hx hlk Bd.returns (hb hby d3_48) ⟨own_someI hr, N, eT⟩ (by decide) (by decide)
  have g_43 : ∀ (T : State) (locs : List Loc) (X : Stand p l e ({ frames := 0, cells := 0, slots := 0, locals := 0 } : Room) s m #[(.int p0)] below meth c T locs 0 0) (eT : T.heap = h0) (N : Fr n0 locs)   (r : Int32), r = f3_43 p0 → own_Fin p e below s (fun v h L => v = some (.int r) ∧ Fr n0 L ∧ h = h0) ({ frames := 0, cells := 0, slots := 0, locals := 0 } : Room).cells ({ frames := 0, cells := 0, slots := 0, locals := 0 } : Room).slots (T.setTop (mkF m 43 #[.val (.int p0)] [])) := by
    intro T locs X eT N   r hr
    have hr : r = (f3_48 p0 (1 : Int32)) := hr
    refine own_pre (B := T.setTop (mkF m 44 #[.val (.int p0)] [(.int (1 : Int32))])) (fun t k => XS.iconst X.here hx rfl (hb hby d3_43) k) ?_
    refine own_pre (B := T.setTop (mkF m 48 #[.val (.int p0)] [(.int (1 : Int32))])) (fun t k => XS.goto X.here hx rfl (pc0 := 44) (pc' := 48) rfl (hb hby d3_44) (by decide) (by decide) k) ?_
    exact g_48 T _ X eT N (1 : Int32) _ hr
  have g_31 : ∀ (T : State) (locs : List Loc) (X : Stand p l e ({ frames := 0, cells := 0, slots := 0, locals := 0 } : Room) s m #[(.int p0)] below meth c T locs 0 0) (eT : T.heap = h0) (N : Fr n0 locs)   (r : Int32), r = f3_31 p0 → own_Fin p e below s (fun v h L => v = some (.int r) ∧ Fr n0 L ∧ h = h0) ({ frames := 0, cells := 0, slots := 0, locals := 0 } : Room).cells ({ frames := 0, cells := 0, slots := 0, locals := 0 } : Room).slots (T.setTop (mkF m 31 #[.val (.int p0)] [])) := by
    intro T locs X eT N   r hr
    have hr : r = (if p0 = (95 : Int32) then (f3_43 p0) else (if p0 = (58 : Int32) then (f3_43 p0) else (f3_48 p0 (0 : Int32)))) := hr
    refine own_pre (B := T.setTop (mkF m 32 #[.val (.int p0)] [(.int p0)])) (fun t k => XS.iloadN X.here hx rfl (hb hby d3_31) rfl k) ?_
    refine own_pre (B := T.setTop (mkF m 34 #[.val (.int p0)] [(.int (95 : Int32)), (.int p0)])) (fun t k => XS.bipush X.here hx rfl (hb hby d3_32) k) ?_
    by_cases hc1 : p0 = (95 : Int32)
    · have hr2 := hr.trans (if_pos hc1)
      refine own_pre (B := T.setTop (mkF m 43 #[.val (.int p0)] [])) (fun t k => XS.icmpYes X.here hx rfl (pc0 := 34) (pc' := 43) rfl (hb hby d3_34) rfl (teq hc1).1 (by decide) (by decide) k) ?_
      exact g_43 T _ X eT N  _ hr2
    · have hr3 := hr.trans (if_neg hc1)
      refine own_pre (B := T.setTop (mkF m 37 #[.val (.int p0)] [])) (fun t k => XS.icmpNo X.here hx rfl (hb hby d3_34) rfl (feq hc1).1 k) ?_
      refine own_pre (B := T.setTop (mkF m 38 #[.val (.int p0)] [(.int p0)])) (fun t k => XS.iloadN X.here hx rfl (hb hby d3_37) rfl k) ?_
      refine own_pre (B := T.setTop (mkF m 40 #[.val (.int p0)] [(.int (58 : Int32)), (.int p0)])) (fun t k => XS.bipush X.here hx rfl (hb hby d3_38) k) ?_
      by_cases hc4 : p0 = (58 : Int32)
      · have hr5 := hr3.trans (if_pos hc4)
        refine own_pre (B := T.setTop (mkF m 43 #[.val (.int p0)] [])) (fun t k => XS.icmpNo X.here hx rfl (hb hby d3_40) rfl (teq hc4).2 k) ?_
        exact g_43 T _ X eT N  _ hr5
      · have hr6 := hr3.trans (if_neg hc4)
        refine own_pre (B := T.setTop (mkF m 47 #[.val (.int p0)] [])) (fun t k => XS.icmpYes X.here hx rfl (pc0 := 40) (pc' := 47) rfl (hb hby d3_40) rfl (feq hc4).2 (by decide) (by decide) k) ?_
        refine own_pre (B := T.setTop (mkF m 48 #[.val (.int p0)] [(.int (0 : Int32))])) (fun t k => XS.iconst X.here hx rfl (hb hby d3_47) k) ?_
        exact g_48 T _ X eT N (0 : Int32) _ hr6
  have g_19 : ∀ (T : State) (locs : List Loc) (X : Stand p l e ({ frames := 0, cells := 0, slots := 0, locals := 0 } : Room) s m #[(.int p0)] below meth c T locs 0 0) (eT : T.heap = h0) (N : Fr n0 locs)   (r : Int32), r = f3_19 p0 → own_Fin p e below s (fun v h L => v = some (.int r) ∧ Fr n0 L ∧ h = h0) ({ frames := 0, cells := 0, slots := 0, locals := 0 } : Room).cells ({ frames := 0, cells := 0, slots := 0, locals := 0 } : Room).slots (T.setTop (mkF m 19 #[.val (.int p0)] [])) := by
    intro T locs X eT N   r hr
    have hr : r = (if p0 < (97 : Int32) then (f3_31 p0) else (if (122 : Int32) < p0 then (f3_31 p0) else (f3_43 p0))) := hr
    refine own_pre (B := T.setTop (mkF m 20 #[.val (.int p0)] [(.int p0)])) (fun t k => XS.iloadN X.here hx rfl (hb hby d3_19) rfl k) ?_
    refine own_pre (B := T.setTop (mkF m 22 #[.val (.int p0)] [(.int (97 : Int32)), (.int p0)])) (fun t k => XS.bipush X.here hx rfl (hb hby d3_20) k) ?_
    by_cases hc1 : p0 < (97 : Int32)
    · have hr2 := hr.trans (if_pos hc1)
      refine own_pre (B := T.setTop (mkF m 31 #[.val (.int p0)] [])) (fun t k => XS.icmpYes X.here hx rfl (pc0 := 22) (pc' := 31) rfl (hb hby d3_22) rfl (tlt hc1).1 (by decide) (by decide) k) ?_
      exact g_31 T _ X eT N  _ hr2
    · have hr3 := hr.trans (if_neg hc1)
      refine own_pre (B := T.setTop (mkF m 25 #[.val (.int p0)] [])) (fun t k => XS.icmpNo X.here hx rfl (hb hby d3_22) rfl (flt hc1).1 k) ?_
      refine own_pre (B := T.setTop (mkF m 26 #[.val (.int p0)] [(.int p0)])) (fun t k => XS.iloadN X.here hx rfl (hb hby d3_25) rfl k) ?_
      refine own_pre (B := T.setTop (mkF m 28 #[.val (.int p0)] [(.int (122 : Int32)), (.int p0)])) (fun t k => XS.bipush X.here hx rfl (hb hby d3_26) k) ?_
      by_cases hc4 : (122 : Int32) < p0
      · have hr5 := hr3.trans (if_pos hc4)
        refine own_pre (B := T.setTop (mkF m 31 #[.val (.int p0)] [])) (fun t k => XS.icmpNo X.here hx rfl (hb hby d3_28) rfl (tlt hc4).2.2.2 k) ?_
        exact g_31 T _ X eT N  _ hr5
      · have hr6 := hr3.trans (if_neg hc4)
        refine own_pre (B := T.setTop (mkF m 43 #[.val (.int p0)] [])) (fun t k => XS.icmpYes X.here hx rfl (pc0 := 28) (pc' := 43) rfl (hb hby d3_28) rfl (flt hc4).2.2.2 (by decide) (by decide) k) ?_
        exact g_43 T _ X eT N  _ hr6
  have g_0 : ∀ r, r = f3_0 p0 → own_Fin p e below s (fun v h L => v = some (.int r) ∧ Fr n0 L ∧ h = h0) ({ frames := 0, cells := 0, slots := 0, locals := 0 } : Room).cells ({ frames := 0, cells := 0, slots := 0, locals := 0 } : Room).slots (s₁.setTop (mkF m 0 #[.val (.int p0)] [])) := by
    intro r hr
    have hr : r = (if p0 < (128 : Int32) then (if p0 < (65 : Int32) then (f3_19 p0) else (if (90 : Int32) < p0 then (f3_19 p0) else (f3_43 p0))) else (if p0 < (192 : Int32) then (f3_63 p0) else (if (214 : Int32) < p0 then (f3_63 p0) else (f3_210 p0)))) := hr
    refine own_pre (B := s₁.setTop (mkF m 1 #[.val (.int p0)] [(.int p0)])) (fun t k => XS.iloadN X0.here hx rfl (hb hby d3_0) rfl k) ?_
    refine own_pre (B := s₁.setTop (mkF m 4 #[.val (.int p0)] [(.int (128 : Int32)), (.int p0)])) (fun t k => XS.sipush X0.here hx rfl (hb hby d3_1) k) ?_
    by_cases hc1 : p0 < (128 : Int32)
    · have hr2 := hr.trans (if_pos hc1)
      refine own_pre (B := s₁.setTop (mkF m 7 #[.val (.int p0)] [])) (fun t k => XS.icmpNo X0.here hx rfl (hb hby d3_4) rfl (tlt hc1).2.1 k) ?_
      refine own_pre (B := s₁.setTop (mkF m 8 #[.val (.int p0)] [(.int p0)])) (fun t k => XS.iloadN X0.here hx rfl (hb hby d3_7) rfl k) ?_
      refine own_pre (B := s₁.setTop (mkF m 10 #[.val (.int p0)] [(.int (65 : Int32)), (.int p0)])) (fun t k => XS.bipush X0.here hx rfl (hb hby d3_8) k) ?_
      by_cases hc3 : p0 < (65 : Int32)
      · have hr4 := hr2.trans (if_pos hc3)
        refine own_pre (B := s₁.setTop (mkF m 19 #[.val (.int p0)] [])) (fun t k => XS.icmpYes X0.here hx rfl (pc0 := 10) (pc' := 19) rfl (hb hby d3_10) rfl (tlt hc3).1 (by decide) (by decide) k) ?_
        exact g_19 s₁ _ X0 e0 N0  _ hr4
      · have hr5 := hr2.trans (if_neg hc3)
        refine own_pre (B := s₁.setTop (mkF m 13 #[.val (.int p0)] [])) (fun t k => XS.icmpNo X0.here hx rfl (hb hby d3_10) rfl (flt hc3).1 k) ?_
        refine own_pre (B := s₁.setTop (mkF m 14 #[.val (.int p0)] [(.int p0)])) (fun t k => XS.iloadN X0.here hx rfl (hb hby d3_13) rfl k) ?_
        refine own_pre (B := s₁.setTop (mkF m 16 #[.val (.int p0)] [(.int (90 : Int32)), (.int p0)])) (fun t k => XS.bipush X0.here hx rfl (hb hby d3_14) k) ?_
        by_cases hc6 : (90 : Int32) < p0
        · have hr7 := hr5.trans (if_pos hc6)
          refine own_pre (B := s₁.setTop (mkF m 19 #[.val (.int p0)] [])) (fun t k => XS.icmpNo X0.here hx rfl (hb hby d3_16) rfl (tlt hc6).2.2.2 k) ?_
          exact g_19 s₁ _ X0 e0 N0  _ hr7
        · have hr8 := hr5.trans (if_neg hc6)
          refine own_pre (B := s₁.setTop (mkF m 43 #[.val (.int p0)] [])) (fun t k => XS.icmpYes X0.here hx rfl (pc0 := 16) (pc' := 43) rfl (hb hby d3_16) rfl (flt hc6).2.2.2 (by decide) (by decide) k) ?_
          exact g_43 s₁ _ X0 e0 N0  _ hr8
    · have hr9 := hr.trans (if_neg hc1)
      refine own_pre (B := s₁.setTop (mkF m 49 #[.val (.int p0)] [])) (fun t k => XS.icmpYes X0.here hx rfl (pc0 := 4) (pc' := 49) rfl (hb hby d3_4) rfl (flt hc1).2.1 (by decide) (by decide) k) ?_
      refine own_pre (B := s₁.setTop (mkF m 50 #[.val (.int p0)] [(.int p0)])) (fun t k => XS.iloadN X0.here hx rfl (hb hby d3_49) rfl k) ?_
      refine own_pre (B := s₁.setTop (mkF m 53 #[.val (.int p0)] [(.int (192 : Int32)), (.int p0)])) (fun t k => XS.sipush X0.here hx rfl (hb hby d3_50) k) ?_
      by_cases hc10 : p0 < (192 : Int32)
      · have hr11 := hr9.trans (if_pos hc10)
        refine own_pre (B := s₁.setTop (mkF m 63 #[.val (.int p0)] [])) (fun t k => XS.icmpYes X0.here hx rfl (pc0 := 53) (pc' := 63) rfl (hb hby d3_53) rfl (tlt hc10).1 (by decide) (by decide) k) ?_
        exact g_63 s₁ _ X0 e0 N0  _ hr11
      · have hr12 := hr9.trans (if_neg hc10)
        refine own_pre (B := s₁.setTop (mkF m 56 #[.val (.int p0)] [])) (fun t k => XS.icmpNo X0.here hx rfl (hb hby d3_53) rfl (flt hc10).1 k) ?_
        refine own_pre (B := s₁.setTop (mkF m 57 #[.val (.int p0)] [(.int p0)])) (fun t k => XS.iloadN X0.here hx rfl (hb hby d3_56) rfl k) ?_
        refine own_pre (B := s₁.setTop (mkF m 60 #[.val (.int p0)] [(.int (214 : Int32)), (.int p0)])) (fun t k => XS.sipush X0.here hx rfl (hb hby d3_57) k) ?_
        by_cases hc13 : (214 : Int32) < p0
        · have hr14 := hr12.trans (if_pos hc13)
          refine own_pre (B := s₁.setTop (mkF m 63 #[.val (.int p0)] [])) (fun t k => XS.icmpNo X0.here hx rfl (hb hby d3_60) rfl (tlt hc13).2.2.2 k) ?_
          exact g_63 s₁ _ X0 e0 N0  _ hr14
        · have hr15 := hr12.trans (if_neg hc13)
          refine own_pre (B := s₁.setTop (mkF m 210 #[.val (.int p0)] [])) (fun t k => XS.icmpYes X0.here hx rfl (pc0 := 60) (pc' := 210) rfl (hb hby d3_60) rfl (flt hc13).2.2.2 (by decide) (by decide) k) ?_
          exact g_210 s₁ _ X0 e0 N0  _ hr15
  exact own_pre pre0 (g_0 _ rfl)
/-! body 4 -/
theorem d4_0 : decode prog_140_method_2_code 0 = .ok (.iload_n 0, 1) := by decide +kernel
theorem d4_1 : decode prog_140_method_2_code 1 = .ok (.bipush 32, 2) := by decide +kernel
theorem d4_3 : decode prog_140_method_2_code 3 = .ok (.if_icmp .lt 9, 3) := by decide +kernel
theorem d4_6 : decode prog_140_method_2_code 6 = .ok (.iload_n 0, 1) := by decide +kernel
theorem d4_7 : decode prog_140_method_2_code 7 = .ok (.ldc 7, 2) := by decide +kernel
theorem d4_9 : decode prog_140_method_2_code 9 = .ok (.if_icmp .le 45, 3) := by decide +kernel
theorem d4_12 : decode prog_140_method_2_code 12 = .ok (.iload_n 0, 1) := by decide +kernel
theorem d4_13 : decode prog_140_method_2_code 13 = .ok (.bipush 9, 2) := by decide +kernel
theorem d4_15 : decode prog_140_method_2_code 15 = .ok (.if_icmp .eq 39, 3) := by decide +kernel
theorem d4_18 : decode prog_140_method_2_code 18 = .ok (.iload_n 0, 1) := by decide +kernel
theorem d4_19 : decode prog_140_method_2_code 19 = .ok (.bipush 10, 2) := by decide +kernel
theorem d4_21 : decode prog_140_method_2_code 21 = .ok (.if_icmp .eq 33, 3) := by decide +kernel
theorem d4_24 : decode prog_140_method_2_code 24 = .ok (.iload_n 0, 1) := by decide +kernel
theorem d4_25 : decode prog_140_method_2_code 25 = .ok (.bipush 13, 2) := by decide +kernel
theorem d4_27 : decode prog_140_method_2_code 27 = .ok (.if_icmp .eq 27, 3) := by decide +kernel
theorem d4_30 : decode prog_140_method_2_code 30 = .ok (.iload_n 0, 1) := by decide +kernel
theorem d4_31 : decode prog_140_method_2_code 31 = .ok (.ldc 8, 2) := by decide +kernel
theorem d4_33 : decode prog_140_method_2_code 33 = .ok (.if_icmp .lt 9, 3) := by decide +kernel
theorem d4_36 : decode prog_140_method_2_code 36 = .ok (.iload_n 0, 1) := by decide +kernel
theorem d4_37 : decode prog_140_method_2_code 37 = .ok (.ldc 9, 2) := by decide +kernel
theorem d4_39 : decode prog_140_method_2_code 39 = .ok (.if_icmp .le 15, 3) := by decide +kernel
theorem d4_42 : decode prog_140_method_2_code 42 = .ok (.iload_n 0, 1) := by decide +kernel
theorem d4_43 : decode prog_140_method_2_code 43 = .ok (.ldc 10, 2) := by decide +kernel
theorem d4_45 : decode prog_140_method_2_code 45 = .ok (.if_icmp .lt 13, 3) := by decide +kernel
theorem d4_48 : decode prog_140_method_2_code 48 = .ok (.iload_n 0, 1) := by decide +kernel
theorem d4_49 : decode prog_140_method_2_code 49 = .ok (.ldc 13, 2) := by decide +kernel
theorem d4_51 : decode prog_140_method_2_code 51 = .ok (.if_icmp .gt 7, 3) := by decide +kernel
theorem d4_54 : decode prog_140_method_2_code 54 = .ok (.iconst 1, 1) := by decide +kernel
theorem d4_55 : decode prog_140_method_2_code 55 = .ok (.goto 4, 3) := by decide +kernel
theorem d4_58 : decode prog_140_method_2_code 58 = .ok (.iconst 0, 1) := by decide +kernel
theorem d4_59 : decode prog_140_method_2_code 59 = .ok (.ireturn, 1) := by decide +kernel
theorem pn_4 : plainName "com/example/amberwire/amberwire/XmlCharacters" = true := by first | (simp [plainName, overriddenIn]; done) | decide +kernel
theorem ef_4 (m : MethodId) (p0 : Int32) : entryFrame m #[(.int p0)] 1 = mkF m 0 #[.val (.int p0)] [] := by first | (simp [entryFrame, mkF, argsToLocals, Value.category]; done) | rfl
def f4_59 (p0 : Int32) (t0 : Int32) : Int32 := (t0 &&& 1)
def f4_58 (p0 : Int32) : Int32 := (f4_59 p0 (0 : Int32))
def f4_54 (p0 : Int32) : Int32 := (f4_59 p0 (1 : Int32))
def f4_42 (p0 : Int32) : Int32 := (if p0 < (65536 : Int32) then (f4_58 p0) else (if (1114111 : Int32) < p0 then (f4_58 p0) else (f4_54 p0)))
def f4_12 (p0 : Int32) : Int32 := (if p0 = (9 : Int32) then (f4_54 p0) else (if p0 = (10 : Int32) then (f4_54 p0) else (if p0 = (13 : Int32) then (f4_54 p0) else (if p0 < (57344 : Int32) then (f4_42 p0) else (if (65533 : Int32) < p0 then (f4_42 p0) else (f4_54 p0))))))
def f4_0 (p0 : Int32) : Int32 := (if p0 < (32 : Int32) then (f4_12 p0) else (if (55295 : Int32) < p0 then (f4_12 p0) else (f4_54 p0)))
def Q4 (p0 : Int32) (h0 : Heap) (n0 : Nat) (v : Option Value) (h : Heap) (L : List Loc) : Prop := v = some (.int (f4_0 p0)) ∧ Fr n0 L ∧ h = h0
set_option maxRecDepth 65536 in
set_option maxHeartbeats 40000000 in
theorem rm4 (l : Launch) (Z : State) (a0 : Array Value) (hw : ∀ d ∈ tables_1, d.before a0 Z = true) (ws : List Jvm.Cond) (p0 : Int32) (h0 : Heap) (n0 : Nat) (Z0 : n0 ≤ h0.size) :
    MetFree l (⟨"com/example/amberwire/amberwire/XmlCharacters", "isCharacter", "(I)Z"⟩ : MethodName) (head1 (Jvm.Cond.code (⟨"com/example/amberwire/amberwire/XmlCharacters", "isCharacter", "(I)Z"⟩ : MethodName) prog_140_method_2_code 1 (some .boolean) :: ws) ({ frames := 0, cells := 0, slots := 0, locals := 0 } : Room)) (fun a U => a = #[(.int p0)] ∧ Z.Warmed39 U.vm ∧ U.heap = h0) (fun _ _ _ _ _ => True) (fun _ U o U' => ∃ v L, o = .returned v ∧ Q4 p0 h0 n0 v U'.heap L ∧ FrameEnd U o U' L ({ frames := 0, cells := 0, slots := 0, locals := 0 } : Room).cells ({ frames := 0, cells := 0, slots := 0, locals := 0 } : Room).slots) := by
  refine MetFree.of_bodySF (plainFor_of_name pn_4) hisR ?_
  intro p e s m args below meth c s₁ Bd hml0 hP hK
  obtain ⟨rfl, hZ, hh⟩ := hP
  have hx := Bd.exec
  have hby := Bd.bytes
  have hml : c.maxLocals = 1 := hml0
  have hlk : meth.locks = false := BodyLoose.notSynchronized Bd
  have hown : s.vm.findClass "com/example/amberwire/amberwire/XmlCharacters" = some m.cls := findClass_of_methodNamed Bd.named
  have X0 : Stand p l e ({ frames := 0, cells := 0, slots := 0, locals := 0 } : Room) s m #[(.int p0)] below meth c s₁ [] 0 0 := Stand.of_body Bd
  have e0 : s₁.heap = h0 := by rw [← hh, Bd.state]; rfl
  have N0 := Fr.nil n0
  have Zs0 : n0 ≤ s₁.heap.size := by rw [e0]; exact Z0
  have pre0 : ∀ t, Steps p.tables e below (s₁.setTop (mkF m 0 #[.val (.int p0)] [])) t → Steps p.tables e below (s₁.setTop (entryFrame m #[(.int p0)] 1)) t := fun t k => castTop (ef_4 m p0) k
  have hnm := (name_of_methodNamed Bd.named Bd.method).1
  have g_59 : ∀ (T : State) (locs : List Loc) (X : Stand p l e ({ frames := 0, cells := 0, slots := 0, locals := 0 } : Room) s m #[(.int p0)] below meth c T locs 0 0) (eT : T.heap = h0) (N : Fr n0 locs) (t0 : Int32)  (r : Int32), r = f4_59 p0 t0 → own_Fin p e below s (fun v h L => v = some (.int r) ∧ Fr n0 L ∧ h = h0) ({ frames := 0, cells := 0, slots := 0, locals := 0 } : Room).cells ({ frames := 0, cells := 0, slots := 0, locals := 0 } : Room).slots (T.setTop (mkF m 59 #[.val (.int p0)] [(.int t0)])) := by
    intro T locs X eT N t0  r hr
    have hr : r = (t0 &&& 1) := hr
    exact own_retZ X hx hlk Bd.returns (hb hby d4_59) ⟨own_someI hr, N, eT⟩ (by decide) (by decide)
  have g_58 : ∀ (T : State) (locs : List Loc) (X : Stand p l e ({ frames := 0, cells := 0, slots := 0, locals := 0 } : Room) s m #[(.int p0)] below meth c T locs 0 0) (eT : T.heap = h0) (N : Fr n0 locs)   (r : Int32), r = f4_58 p0 → own_Fin p e below s (fun v h L => v = some (.int r) ∧ Fr n0 L ∧ h = h0) ({ frames := 0, cells := 0, slots := 0, locals := 0 } : Room).cells ({ frames := 0, cells := 0, slots := 0, locals := 0 } : Room).slots (T.setTop (mkF m 58 #[.val (.int p0)] [])) := by
    intro T locs X eT N   r hr
    have hr : r = (f4_59 p0 (0 : Int32)) := hr
    refine own_pre (B := T.setTop (mkF m 59 #[.val (.int p0)] [(.int (0 : Int32))])) (fun t k => XS.iconst X.here hx rfl (hb hby d4_58) k) ?_
    exact g_59 T _ X eT N (0 : Int32) _ hr
  have g_54 : ∀ (T : State) (locs : List Loc) (X : Stand p l e ({ frames := 0, cells := 0, slots := 0, locals := 0 } : Room) s m #[(.int p0)] below meth c T locs 0 0) (eT : T.heap = h0) (N : Fr n0 locs)   (r : Int32), r = f4_54 p0 → own_Fin p e below s (fun v h L => v = some (.int r) ∧ Fr n0 L ∧ h = h0) ({ frames := 0, cells := 0, slots := 0, locals := 0 } : Room).cells ({ frames := 0, cells := 0, slots := 0, locals := 0 } : Room).slots (T.setTop (mkF m 54 #[.val (.int p0)] [])) := by
    intro T locs X eT N   r hr
    have hr : r = (f4_59 p0 (1 : Int32)) := hr
    refine own_pre (B := T.setTop (mkF m 55 #[.val (.int p0)] [(.int (1 : Int32))])) (fun t k => XS.iconst X.here hx rfl (hb hby d4_54) k) ?_
    refine own_pre (B := T.setTop (mkF m 59 #[.val (.int p0)] [(.int (1 : Int32))])) (fun t k => XS.goto X.here hx rfl (pc0 := 55) (pc' := 59) rfl (hb hby d4_55) (by decide) (by decide) k) ?_
    exact g_59 T _ X eT N (1 : Int32) _ hr
  have g_42 : ∀ (T : State) (locs : List Loc) (X : Stand p l e ({ frames := 0, cells := 0, slots := 0, locals := 0 } : Room) s m #[(.int p0)] below meth c T locs 0 0) (eT : T.heap = h0) (N : Fr n0 locs)   (r : Int32), r = f4_42 p0 → own_Fin p e below s (fun v h L => v = some (.int r) ∧ Fr n0 L ∧ h = h0) ({ frames := 0, cells := 0, slots := 0, locals := 0 } : Room).cells ({ frames := 0, cells := 0, slots := 0, locals := 0 } : Room).slots (T.setTop (mkF m 42 #[.val (.int p0)] [])) := by
    intro T locs X eT N   r hr
    have hr : r = (if p0 < (65536 : Int32) then (f4_58 p0) else (if (1114111 : Int32) < p0 then (f4_58 p0) else (f4_54 p0))) := hr
    refine own_pre (B := T.setTop (mkF m 43 #[.val (.int p0)] [(.int p0)])) (fun t k => XS.iloadN X.here hx rfl (hb hby d4_42) rfl k) ?_
    refine own_pre (B := T.setTop (mkF m 45 #[.val (.int p0)] [(.int (65536 : Int32)), (.int p0)])) (fun t k => X.ldcInt hx hown (mvT hZ (hw _ (List.mem_of_getElem? (i := 19) rfl))) (g := (mkF m 43 #[.val (.int p0)] [(.int p0)])) rfl (hb hby d4_43) _ k) ?_
    by_cases hc1 : p0 < (65536 : Int32)
    · have hr2 := hr.trans (if_pos hc1)
      refine own_pre (B := T.setTop (mkF m 58 #[.val (.int p0)] [])) (fun t k => XS.icmpYes X.here hx rfl (pc0 := 45) (pc' := 58) rfl (hb hby d4_45) rfl (tlt hc1).1 (by decide) (by decide) k) ?_
      exact g_58 T _ X eT N  _ hr2
    · have hr3 := hr.trans (if_neg hc1)
      refine own_pre (B := T.setTop (mkF m 48 #[.val (.int p0)] [])) (fun t k => XS.icmpNo X.here hx rfl (hb hby d4_45) rfl (flt hc1).1 k) ?_
      refine own_pre (B := T.setTop (mkF m 49 #[.val (.int p0)] [(.int p0)])) (fun t k => XS.iloadN X.here hx rfl (hb hby d4_48) rfl k) ?_
      refine own_pre (B := T.setTop (mkF m 51 #[.val (.int p0)] [(.int (1114111 : Int32)), (.int p0)])) (fun t k => X.ldcInt hx hown (mvT hZ (hw _ (List.mem_of_getElem? (i := 24) rfl))) (g := (mkF m 49 #[.val (.int p0)] [(.int p0)])) rfl (hb hby d4_49) _ k) ?_
      by_cases hc4 : (1114111 : Int32) < p0
      · have hr5 := hr3.trans (if_pos hc4)
        refine own_pre (B := T.setTop (mkF m 58 #[.val (.int p0)] [])) (fun t k => XS.icmpYes X.here hx rfl (pc0 := 51) (pc' := 58) rfl (hb hby d4_51) rfl (tlt hc4).2.2.1 (by decide) (by decide) k) ?_
        exact g_58 T _ X eT N  _ hr5
      · have hr6 := hr3.trans (if_neg hc4)
        refine own_pre (B := T.setTop (mkF m 54 #[.val (.int p0)] [])) (fun t k => XS.icmpNo X.here hx rfl (hb hby d4_51) rfl (flt hc4).2.2.1 k) ?_
        exact g_54 T _ X eT N  _ hr6
  have g_12 : ∀ (T : State) (locs : List Loc) (X : Stand p l e ({ frames := 0, cells := 0, slots := 0, locals := 0 } : Room) s m #[(.int p0)] below meth c T locs 0 0) (eT : T.heap = h0) (N : Fr n0 locs)   (r : Int32), r = f4_12 p0 → own_Fin p e below s (fun v h L => v = some (.int r) ∧ Fr n0 L ∧ h = h0) ({ frames := 0, cells := 0, slots := 0, locals := 0 } : Room).cells ({ frames := 0, cells := 0, slots := 0, locals := 0 } : Room).slots (T.setTop (mkF m 12 #[.val (.int p0)] [])) := by
    intro T locs X eT N   r hr
    have hr : r = (if p0 = (9 : Int32) then (f4_54 p0) else (if p0 = (10 : Int32) then (f4_54 p0) else (if p0 = (13 : Int32) then (f4_54 p0) else (if p0 < (57344 : Int32) then (f4_42 p0) else (if (65533 : Int32) < p0 then (f4_42 p0) else (f4_54 p0)))))) := hr
    refine own_pre (B := T.setTop (mkF m 13 #[.val (.int p0)] [(.int p0)])) (fun t k => XS.iloadN X.here hx rfl (hb hby d4_12) rfl k) ?_
    refine own_pre (B := T.setTop (mkF m 15 #[.val (.int p0)] [(.int (9 : Int32)), (.int p0)])) (fun t k => XS.bipush X.here hx rfl (hb hby d4_13) k) ?_
    by_cases hc1 : p0 = (9 : Int32)
    · have hr2 := hr.trans (if_pos hc1)
      refine own_pre (B := T.setTop (mkF m 54 #[.val (.int p0)] [])) (fun t k => XS.icmpYes X.here hx rfl (pc0 := 15) (pc' := 54) rfl (hb hby d4_15) rfl (teq hc1).1 (by decide) (by decide) k) ?_
      exact g_54 T _ X eT N  _ hr2
    · have hr3 := hr.trans (if_neg hc1)
      refine own_pre (B := T.setTop (mkF m 18 #[.val (.int p0)] [])) (fun t k => XS.icmpNo X.here hx rfl (hb hby d4_15) rfl (feq hc1).1 k) ?_
      refine own_pre (B := T.setTop (mkF m 19 #[.val (.int p0)] [(.int p0)])) (fun t k => XS.iloadN X.here hx rfl (hb hby d4_18) rfl k) ?_
      refine own_pre (B := T.setTop (mkF m 21 #[.val (.int p0)] [(.int (10 : Int32)), (.int p0)])) (fun t k => XS.bipush X.here hx rfl (hb hby d4_19) k) ?_
      by_cases hc4 : p0 = (10 : Int32)
      · have hr5 := hr3.trans (if_pos hc4)
        refine own_pre (B := T.setTop (mkF m 54 #[.val (.int p0)] [])) (fun t k => XS.icmpYes X.here hx rfl (pc0 := 21) (pc' := 54) rfl (hb hby d4_21) rfl (teq hc4).1 (by decide) (by decide) k) ?_
        exact g_54 T _ X eT N  _ hr5
      · have hr6 := hr3.trans (if_neg hc4)
        refine own_pre (B := T.setTop (mkF m 24 #[.val (.int p0)] [])) (fun t k => XS.icmpNo X.here hx rfl (hb hby d4_21) rfl (feq hc4).1 k) ?_
        refine own_pre (B := T.setTop (mkF m 25 #[.val (.int p0)] [(.int p0)])) (fun t k => XS.iloadN X.here hx rfl (hb hby d4_24) rfl k) ?_
        refine own_pre (B := T.setTop (mkF m 27 #[.val (.int p0)] [(.int (13 : Int32)), (.int p0)])) (fun t k => XS.bipush X.here hx rfl (hb hby d4_25) k) ?_
        by_cases hc7 : p0 = (13 : Int32)
        · have hr8 := hr6.trans (if_pos hc7)
          refine own_pre (B := T.setTop (mkF m 54 #[.val (.int p0)] [])) (fun t k => XS.icmpYes X.here hx rfl (pc0 := 27) (pc' := 54) rfl (hb hby d4_27) rfl (teq hc7).1 (by decide) (by decide) k) ?_
          exact g_54 T _ X eT N  _ hr8
        · have hr9 := hr6.trans (if_neg hc7)
          refine own_pre (B := T.setTop (mkF m 30 #[.val (.int p0)] [])) (fun t k => XS.icmpNo X.here hx rfl (hb hby d4_27) rfl (feq hc7).1 k) ?_
          refine own_pre (B := T.setTop (mkF m 31 #[.val (.int p0)] [(.int p0)])) (fun t k => XS.iloadN X.here hx rfl (hb hby d4_30) rfl k) ?_
          refine own_pre (B := T.setTop (mkF m 33 #[.val (.int p0)] [(.int (57344 : Int32)), (.int p0)])) (fun t k => X.ldcInt hx hown (mvT hZ (hw _ (List.mem_of_getElem? (i := 23) rfl))) (g := (mkF m 31 #[.val (.int p0)] [(.int p0)])) rfl (hb hby d4_31) _ k) ?_
          by_cases hc10 : p0 < (57344 : Int32)
          · have hr11 := hr9.trans (if_pos hc10)
            refine own_pre (B := T.setTop (mkF m 42 #[.val (.int p0)] [])) (fun t k => XS.icmpYes X.here hx rfl (pc0 := 33) (pc' := 42) rfl (hb hby d4_33) rfl (tlt hc10).1 (by decide) (by decide) k) ?_
            exact g_42 T _ X eT N  _ hr11
          · have hr12 := hr9.trans (if_neg hc10)
            refine own_pre (B := T.setTop (mkF m 36 #[.val (.int p0)] [])) (fun t k => XS.icmpNo X.here hx rfl (hb hby d4_33) rfl (flt hc10).1 k) ?_
            refine own_pre (B := T.setTop (mkF m 37 #[.val (.int p0)] [(.int p0)])) (fun t k => XS.iloadN X.here hx rfl (hb hby d4_36) rfl k) ?_
            refine own_pre (B := T.setTop (mkF m 39 #[.val (.int p0)] [(.int (65533 : Int32)), (.int p0)])) (fun t k => X.ldcInt hx hown (mvT hZ (hw _ (List.mem_of_getElem? (i := 21) rfl))) (g := (mkF m 37 #[.val (.int p0)] [(.int p0)])) rfl (hb hby d4_37) _ k) ?_
            by_cases hc13 : (65533 : Int32) < p0
            · have hr14 := hr12.trans (if_pos hc13)
              refine own_pre (B := T.setTop (mkF m 42 #[.val (.int p0)] [])) (fun t k => XS.icmpNo X.here hx rfl (hb hby d4_39) rfl (tlt hc13).2.2.2 k) ?_
              exact g_42 T _ X eT N  _ hr14
            · have hr15 := hr12.trans (if_neg hc13)
              refine own_pre (B := T.setTop (mkF m 54 #[.val (.int p0)] [])) (fun t k => XS.icmpYes X.here hx rfl (pc0 := 39) (pc' := 54) rfl (hb hby d4_39) rfl (flt hc13).2.2.2 (by decide) (by decide) k) ?_
              exact g_54 T _ X eT N  _ hr15
  have g_0 : ∀ r, r = f4_0 p0 → own_Fin p e below s (fun v h L => v = some (.int r) ∧ Fr n0 L ∧ h = h0) ({ frames := 0, cells := 0, slots := 0, locals := 0 } : Room).cells ({ frames := 0, cells := 0, slots := 0, locals := 0 } : Room).slots (s₁.setTop (mkF m 0 #[.val (.int p0)] [])) := by
    intro r hr
    have hr : r = (if p0 < (32 : Int32) then (f4_12 p0) else (if (55295 : Int32) < p0 then (f4_12 p0) else (f4_54 p0))) := hr
    refine own_pre (B := s₁.setTop (mkF m 1 #[.val (.int p0)] [(.int p0)])) (fun t k => XS.iloadN X0.here hx rfl (hb hby d4_0) rfl k) ?_
    refine own_pre (B := s₁.setTop (mkF m 3 #[.val (.int p0)] [(.int (32 : Int32)), (.int p0)])) (fun t k => XS.bipush X0.here hx rfl (hb hby d4_1) k) ?_
    by_cases hc1 : p0 < (32 : Int32)
    · have hr2 := hr.trans (if_pos hc1)
      refine own_pre (B := s₁.setTop (mkF m 12 #[.val (.int p0)] [])) (fun t k => XS.icmpYes X0.here hx rfl (pc0 := 3) (pc' := 12) rfl (hb hby d4_3) rfl (tlt hc1).1 (by decide) (by decide) k) ?_
      exact g_12 s₁ _ X0 e0 N0  _ hr2
    · have hr3 := hr.trans (if_neg hc1)
      refine own_pre (B := s₁.setTop (mkF m 6 #[.val (.int p0)] [])) (fun t k => XS.icmpNo X0.here hx rfl (hb hby d4_3) rfl (flt hc1).1 k) ?_
      refine own_pre (B := s₁.setTop (mkF m 7 #[.val (.int p0)] [(.int p0)])) (fun t k => XS.iloadN X0.here hx rfl (hb hby d4_6) rfl k) ?_
      refine own_pre (B := s₁.setTop (mkF m 9 #[.val (.int p0)] [(.int (55295 : Int32)), (.int p0)])) (fun t k => X0.ldcInt hx hown (mvT hZ (hw _ (List.mem_of_getElem? (i := 16) rfl))) (g := (mkF m 7 #[.val (.int p0)] [(.int p0)])) rfl (hb hby d4_7) _ k) ?_
      by_cases hc4 : (55295 : Int32) < p0
      · have hr5 := hr3.trans (if_pos hc4)
        refine own_pre (B := s₁.setTop (mkF m 12 #[.val (.int p0)] [])) (fun t k => XS.icmpNo X0.here hx rfl (hb hby d4_9) rfl (tlt hc4).2.2.2 k) ?_
        exact g_12 s₁ _ X0 e0 N0  _ hr5
      · have hr6 := hr3.trans (if_neg hc4)
        refine own_pre (B := s₁.setTop (mkF m 54 #[.val (.int p0)] [])) (fun t k => XS.icmpYes X0.here hx rfl (pc0 := 9) (pc' := 54) rfl (hb hby d4_9) rfl (flt hc4).2.2.2 (by decide) (by decide) k) ?_
        exact g_54 s₁ _ X0 e0 N0  _ hr6
  exact own_pre pre0 (g_0 _ rfl)
/-! body 0 -/
theorem pn_0 : plainName "com/example/amberwire/amberwire/XmlCharactersIsNamePartPinLaw" = true := by first | (simp [plainName, overriddenIn]; done) | decide +kernel
theorem pd0_0 : parseMethodDescriptor "(I)Z" = some ⟨[.int], some .boolean⟩ := by decide +kernel
theorem pd0_1 : parseMethodDescriptor "(III)Z" = some ⟨[.int, .int, .int], some .boolean⟩ := by decide +kernel
theorem ef_0 (m : MethodId) (p0 : Int32) (p1 : Int32) : entryFrame m #[(.int p0), (.int p1)] maxLocals = mkF m 0 #[.val (.int p0), .val (.int p1), .unset, .unset, .unset, .unset] [] := by first | (simp [entryFrame, mkF, argsToLocals, Value.category, maxLocals]; done) | rfl
def f0_193 (p0 : Int32) (p1 : Int32) (i3 : Int32) (i4 : Int32) (i5 : Int32) : Int32 := ((1 : Int32) &&& 1)
def f0_179 (p0 : Int32) (p1 : Int32) (i3 : Int32) (i4 : Int32) (i5 : Int32) : Int32 := (if i5 = (0 : Int32) then (f0_193 p0 p1 i3 i4 i5) else (if (f4_0 i3) = (0 : Int32) then ((0 : Int32) &&& 1) else (f0_193 p0 p1 i3 i4 i5)))
def f0_148 (p0 : Int32) (p1 : Int32) (i3 : Int32) (t0 : Int32) : Int32 := (if (f2_0 i3) = t0 then (if (f2_0 i3) = (0 : Int32) then (f0_179 p0 p1 i3 t0 (f2_0 i3)) else (if (f3_0 i3) = (0 : Int32) then (f0_179 p0 p1 i3 t0 (f2_0 i3)) else ((0 : Int32) &&& 1))) else ((0 : Int32) &&& 1))
def f0_143 (p0 : Int32) (p1 : Int32) (i3 : Int32) : Int32 := (f0_148 p0 p1 i3 (1 : Int32))
def f0_87 (p0 : Int32) (p1 : Int32) (i3 : Int32) : Int32 := (if (f1_0 i3 (48 : Int32) (57 : Int32)) = (0 : Int32) then (if i3 = (45 : Int32) then (f0_143 p0 p1 i3) else (if i3 = (46 : Int32) then (f0_143 p0 p1 i3) else (if i3 = (183 : Int32) then (f0_143 p0 p1 i3) else (if (f1_0 i3 (768 : Int32) (879 : Int32)) = (0 : Int32) then (if (f1_0 i3 (8255 : Int32) (8256 : Int32)) = (0 : Int32) then (f0_148 p0 p1 i3 (0 : Int32)) else (f0_143 p0 p1 i3)) else (f0_143 p0 p1 i3))))) else (f0_143 p0 p1 i3))
def f0_0 (p0 : Int32) (p1 : Int32) : Int32 := (if (p1 &&& (1 : Int32)) = (0 : Int32) then (f0_87 p0 p1 p0) else (f0_87 p0 p1 (((own_base (((p1.toUInt32 >>> ((1 : Int32) &&& 31).toUInt32).toInt32) % (9 : Int32))) + ((p0 &&& (2147483647 : Int32)) % (3 : Int32))) - (1 : Int32))))
def Q0 (p0 : Int32) (p1 : Int32) (h0 : Heap) (n0 : Nat) (v : Option Value) (h : Heap) (L : List Loc) : Prop := v = some (.int (f0_0 p0 p1)) ∧ Fr n0 L
set_option maxRecDepth 65536 in
set_option maxHeartbeats 40000000 in
theorem rm0 (l : Launch) (Z : State) (a0 : Array Value) (hw : ∀ d ∈ tables_1, d.before a0 Z = true) (ws : List Jvm.Cond) (p0 : Int32) (p1 : Int32) (h0 : Heap) (n0 : Nat) (Z0 : n0 ≤ h0.size) :
    MetFree l x (head1 (Jvm.Cond.code x code maxLocals ret :: ws) room_1) (fun a U => a = #[(.int p0), (.int p1)] ∧ Z.Warmed39 U.vm ∧ U.heap = h0) (fun _ _ _ _ _ => True) (fun _ U o U' => ∃ v L, o = .returned v ∧ Q0 p0 p1 h0 n0 v U'.heap L ∧ FrameEnd U o U' L room_1.cells room_1.slots) := by
  refine MetFree.of_bodySF (plainFor_of_name pn_0) hisR ?_
  intro p e s m args below meth c s₁ Bd hml0 hP hK
  obtain ⟨rfl, hZ, hh⟩ := hP
  have hx := Bd.exec
  have hby := Bd.bytes
  have hml : c.maxLocals = 6 := hml0
  have hlk : meth.locks = false := BodyLoose.notSynchronized Bd
  have hown : s.vm.findClass "com/example/amberwire/amberwire/XmlCharactersIsNamePartPinLaw" = some m.cls := findClass_of_methodNamed Bd.named
  have X0 : Stand p l e room_1 s m #[(.int p0), (.int p1)] below meth c s₁ [] 0 0 := Stand.of_body Bd
  have e0 : s₁.heap = h0 := by rw [← hh, Bd.state]; rfl
  have N0 := Fr.nil n0
  have Zs0 : n0 ≤ s₁.heap.size := by rw [e0]; exact Z0
  have pre0 : ∀ t, Steps p.tables e below (s₁.setTop (mkF m 0 #[.val (.int p0), .val (.int p1), .unset, .unset, .unset, .unset] [])) t → Steps p.tables e below (s₁.setTop (entryFrame m #[(.int p0), (.int p1)] maxLocals)) t := fun t k => castTop (ef_0 m p0 p1) k
  have hnm := (name_of_methodNamed Bd.named Bd.method).1
  have g_193 : ∀ (T : State) (locs : List Loc) (X : Stand p l e room_1 s m #[(.int p0), (.int p1)] below meth c T locs 1 9) (N : Fr n0 locs) (Zs : n0 ≤ T.heap.size) (o2 : Addr) (i3 : Int32) (i4 : Int32) (i5 : Int32)  (r : Int32), r = f0_193 p0 p1 i3 i4 i5 → own_Fin p e below s (fun v h L => v = some (.int r) ∧ Fr n0 L) room_1.cells room_1.slots (T.setTop (mkF m 193 #[.val (.int p0), .val (.int p1), .val (.ref o2), .val (.int i3), .val (.int i4), .val (.int i5)] [])) := by
    intro T locs X N Zs o2 i3 i4 i5  r hr
    have hr : r = ((1 : Int32) &&& 1) := hr
    refine own_pre (B := T.setTop (mkF m 194 #[.val (.int p0), .val (.int p1), .val (.ref o2), .val (.int i3), .val (.int i4), .val (.int i5)] [(.int (1 : Int32))])) (fun t k => XS.iconst X.here hx rfl (hb hby at_193) k) ?_
    exact own_retZ X hx hlk Bd.returns (hb hby at_194) ⟨own_someI hr, N⟩ (by decide) (by decide)
  have g_179 : ∀ (T : State) (locs : List Loc) (X : Stand p l e room_1 s m #[(.int p0), (.int p1)] below meth c T locs 1 9) (N : Fr n0 locs) (Zs : n0 ≤ T.heap.size) (o2 : Addr) (i3 : Int32) (i4 : Int32) (i5 : Int32)  (r : Int32), r = f0_179 p0 p1 i3 i4 i5 → own_Fin p e below s (fun v h L => v = some (.int r) ∧ Fr n0 L) room_1.cells room_1.slots (T.setTop (mkF m 179 #[.val (.int p0), .val (.int p1), .val (.ref o2), .val (.int i3), .val (.int i4), .val (.int i5)] [])) := by
    intro T locs X N Zs o2 i3 i4 i5  r hr
    have hr : r = (if i5 = (0 : Int32) then (f0_193 p0 p1 i3 i4 i5) else (if (f4_0 i3) = (0 : Int32) then ((0 : Int32) &&& 1) else (f0_193 p0 p1 i3 i4 i5))) := hr
    refine own_pre (B := T.setTop (mkF m 181 #[.val (.int p0), .val (.int p1), .val (.ref o2), .val (.int i3), .val (.int i4), .val (.int i5)] [(.int i5)])) (fun t k => XS.iload X.here hx rfl (hb hby at_179) rfl k) ?_
    by_cases hc1 : i5 = (0 : Int32)
    · have hr2 := hr.trans (if_pos hc1)
      refine own_pre (B := T.setTop (mkF m 193 #[.val (.int p0), .val (.int p1), .val (.ref o2), .val (.int i3), .val (.int i4), .val (.int i5)] [])) (fun t k => XS.ifYes X.here hx rfl (pc0 := 181) (pc' := 193) rfl (hb hby at_181) rfl ((if0 _ _).trans (teq hc1).1) (by decide) (by decide) k) ?_
      exact g_193 T _ X N Zs o2 i3 i4 i5 _ hr2
    · have hr3 := hr.trans (if_neg hc1)
      refine own_pre (B := T.setTop (mkF m 184 #[.val (.int p0), .val (.int p1), .val (.ref o2), .val (.int i3), .val (.int i4), .val (.int i5)] [])) (fun t k => XS.ifNo X.here hx rfl (hb hby at_181) rfl ((if0 _ _).trans (feq hc1).1) k) ?_
      refine own_pre (B := T.setTop (mkF m 185 #[.val (.int p0), .val (.int p1), .val (.ref o2), .val (.int i3), .val (.int i4), .val (.int i5)] [(.int i3)])) (fun t k => XS.iloadN X.here hx rfl (hb hby at_184) rfl k) ?_
      obtain ⟨_, _, ⟨T4, L4, k4, n4⟩, -, X4, ⟨Lc4, hQ4, l4, y4, z4⟩, st4⟩ := Jvm.LawKit.callS X hx (y := (⟨"com/example/amberwire/amberwire/XmlCharacters", "isCharacter", "(I)Z"⟩ : MethodName)) hown (mvT hZ (hw _ (List.mem_of_getElem? (i := 13) rfl))) (mvT hZ (hw _ (List.mem_of_getElem? (i := 14) rfl))) (mvT hZ (hw _ (List.mem_of_getElem? (i := 8) rfl))) (mvT hZ (hw _ (List.mem_of_getElem? (i := 15) rfl))) (by decide) (backOf (W := 0) (rm4 l Z a0 hw [] i3 T.heap n0 Zs) hZ (hw _ (List.mem_of_getElem? (i := 15) rfl)) (hw _ (List.mem_of_getElem? (i := 8) rfl)) (by decide) (by decide)) (g := (mkF m 185 #[.val (.int p0), .val (.int p1), .val (.ref o2), .val (.int i3), .val (.int i4), .val (.int i5)] [(.int i3)])) rfl (by rw [hml]; rfl) (argsL := [(.int i3)]) (rest := []) (lenOf pd0_0 rfl) rfl (by show 2 * 0 + _ ≤ _; exact Nat.le_of_eq rfl) (hb hby at_185) (fun _ _ => ⟨rfl, rfl, (by decide : 1 + 0 ≤ _), (by decide : 9 + 0 ≤ _)⟩)
      dsimp only [Pt.U, Pt.locs, Pt.cells, Pt.slots] at X4 l4 y4 z4 st4 hQ4
      subst l4 y4 z4
      obtain ⟨rfl, Nq4, e4⟩ := hQ4
      have N4 := Fr.app N Nq4
      have Zs4 : n0 ≤ T4.heap.size := by rw [e4]; exact Zs
      refine own_pre (B := T4.setTop (mkF m 188 #[.val (.int p0), .val (.int p1), .val (.ref o2), .val (.int i3), .val (.int i4), .val (.int i5)] [(.int (f4_0 i3))])) st4 ?_
      by_cases hc5 : (f4_0 i3) = (0 : Int32)
      · have hr6 := hr3.trans (if_pos hc5)
        refine own_pre (B := T4.setTop (mkF m 191 #[.val (.int p0), .val (.int p1), .val (.ref o2), .val (.int i3), .val (.int i4), .val (.int i5)] [])) (fun t k => XS.ifNo X4.here hx rfl (hb hby at_188) rfl ((if0 _ _).trans (teq hc5).2) k) ?_
        refine own_pre (B := T4.setTop (mkF m 192 #[.val (.int p0), .val (.int p1), .val (.ref o2), .val (.int i3), .val (.int i4), .val (.int i5)] [(.int (0 : Int32))])) (fun t k => XS.iconst X4.here hx rfl (hb hby at_191) k) ?_
        exact own_retZ X4 hx hlk Bd.returns (hb hby at_192) ⟨own_someI hr6, N4⟩ (by decide) (by decide)
      · have hr7 := hr3.trans (if_neg hc5)
        refine own_pre (B := T4.setTop (mkF m 193 #[.val (.int p0), .val (.int p1), .val (.ref o2), .val (.int i3), .val (.int i4), .val (.int i5)] [])) (fun t k => XS.ifYes X4.here hx rfl (pc0 := 188) (pc' := 193) rfl (hb hby at_188) rfl ((if0 _ _).trans (feq hc5).2) (by decide) (by decide) k) ?_
        exact g_193 T4 _ X4 N4 Zs4 o2 i3 i4 i5 _ hr7
  have g_148 : ∀ (T : State) (locs : List Loc) (X : Stand p l e room_1 s m #[(.int p0), (.int p1)] below meth c T locs 1 9) (N : Fr n0 locs) (Zs : n0 ≤ T.heap.size) (o2 : Addr) (i3 : Int32) (t0 : Int32)  (r : Int32), r = f0_148 p0 p1 i3 t0 → own_Fin p e below s (fun v h L => v = some (.int r) ∧ Fr n0 L) room_1.cells room_1.slots (T.setTop (mkF m 148 #[.val (.int p0), .val (.int p1), .val (.ref o2), .val (.int i3), .unset, .unset] [(.int t0)])) := by
    intro T locs X N Zs o2 i3 t0  r hr
    have hr : r = (if (f2_0 i3) = t0 then (if (f2_0 i3) = (0 : Int32) then (f0_179 p0 p1 i3 t0 (f2_0 i3)) else (if (f3_0 i3) = (0 : Int32) then (f0_179 p0 p1 i3 t0 (f2_0 i3)) else ((0 : Int32) &&& 1))) else ((0 : Int32) &&& 1)) := hr
    refine own_pre (B := T.setTop (mkF m 150 #[.val (.int p0), .val (.int p1), .val (.ref o2), .val (.int i3), .val (.int t0), .unset] [])) (fun t k => XS.istore X.here hx rfl (hb hby at_148) rfl (l' := #[.val (.int p0), .val (.int p1), .val (.ref o2), .val (.int i3), .val (.int t0), .unset]) rfl k) ?_
    refine own_pre (B := T.setTop (mkF m 151 #[.val (.int p0), .val (.int p1), .val (.ref o2), .val (.int i3), .val (.int t0), .unset] [(.int i3)])) (fun t k => XS.iloadN X.here hx rfl (hb hby at_150) rfl k) ?_
    obtain ⟨_, _, ⟨T1, L1, k1, n1⟩, -, X1, ⟨Lc1, hQ1, l1, y1, z1⟩, st1⟩ := Jvm.LawKit.callS X hx (y := (⟨"com/example/amberwire/amberwire/XmlCharacters", "isNamePart", "(I)Z"⟩ : MethodName)) hown (mvT hZ (hw _ (List.mem_of_getElem? (i := 6) rfl))) (mvT hZ (hw _ (List.mem_of_getElem? (i := 7) rfl))) (mvT hZ (hw _ (List.mem_of_getElem? (i := 8) rfl))) (mvT hZ (hw _ (List.mem_of_getElem? (i := 9) rfl))) (by decide) (backOf (W := 0) (rm2 l Z a0 hw [] i3 T.heap n0 Zs) hZ (hw _ (List.mem_of_getElem? (i := 9) rfl)) (hw _ (List.mem_of_getElem? (i := 8) rfl)) (by decide) (by decide)) (g := (mkF m 151 #[.val (.int p0), .val (.int p1), .val (.ref o2), .val (.int i3), .val (.int t0), .unset] [(.int i3)])) rfl (by rw [hml]; rfl) (argsL := [(.int i3)]) (rest := []) (lenOf pd0_0 rfl) rfl (by show 2 * 0 + _ ≤ _; exact Nat.le_of_eq rfl) (hb hby at_151) (fun _ _ => ⟨rfl, rfl, (by decide : 1 + 0 ≤ _), (by decide : 9 + 0 ≤ _)⟩)
    dsimp only [Pt.U, Pt.locs, Pt.cells, Pt.slots] at X1 l1 y1 z1 st1 hQ1
    subst l1 y1 z1
    obtain ⟨rfl, Nq1, e1⟩ := hQ1
    have N1 := Fr.app N Nq1
    have Zs1 : n0 ≤ T1.heap.size := by rw [e1]; exact Zs
    refine own_pre (B := T1.setTop (mkF m 154 #[.val (.int p0), .val (.int p1), .val (.ref o2), .val (.int i3), .val (.int t0), .unset] [(.int (f2_0 i3))])) st1 ?_
    refine own_pre (B := T1.setTop (mkF m 156 #[.val (.int p0), .val (.int p1), .val (.ref o2), .val (.int i3), .val (.int t0), .val (.int (f2_0 i3))] [])) (fun t k => XS.istore X1.here hx rfl (hb hby at_154) rfl (l' := #[.val (.int p0), .val (.int p1), .val (.ref o2), .val (.int i3), .val (.int t0), .val (.int (f2_0 i3))]) rfl k) ?_
    refine own_pre (B := T1.setTop (mkF m 158 #[.val (.int p0), .val (.int p1), .val (.ref o2), .val (.int i3), .val (.int t0), .val (.int (f2_0 i3))] [(.int (f2_0 i3))])) (fun t k => XS.iload X1.here hx rfl (hb hby at_156) rfl k) ?_
    refine own_pre (B := T1.setTop (mkF m 160 #[.val (.int p0), .val (.int p1), .val (.ref o2), .val (.int i3), .val (.int t0), .val (.int (f2_0 i3))] [(.int t0), (.int (f2_0 i3))])) (fun t k => XS.iload X1.here hx rfl (hb hby at_158) rfl k) ?_
    by_cases hc2 : (f2_0 i3) = t0
    · have hr3 := hr.trans (if_pos hc2)
      refine own_pre (B := T1.setTop (mkF m 165 #[.val (.int p0), .val (.int p1), .val (.ref o2), .val (.int i3), .val (.int t0), .val (.int (f2_0 i3))] [])) (fun t k => XS.icmpYes X1.here hx rfl (pc0 := 160) (pc' := 165) rfl (hb hby at_160) rfl (teq hc2).1 (by decide) (by decide) k) ?_
      refine own_pre (B := T1.setTop (mkF m 167 #[.val (.int p0), .val (.int p1), .val (.ref o2), .val (.int i3), .val (.int t0), .val (.int (f2_0 i3))] [(.int (f2_0 i3))])) (fun t k => XS.iload X1.here hx rfl (hb hby at_165) rfl k) ?_
      by_cases hc4 : (f2_0 i3) = (0 : Int32)
      · have hr5 := hr3.trans (if_pos hc4)
        refine own_pre (B := T1.setTop (mkF m 179 #[.val (.int p0), .val (.int p1), .val (.ref o2), .val (.int i3), .val (.int t0), .val (.int (f2_0 i3))] [])) (fun t k => XS.ifYes X1.here hx rfl (pc0 := 167) (pc' := 179) rfl (hb hby at_167) rfl ((if0 _ _).trans (teq hc4).1) (by decide) (by decide) k) ?_
        exact g_179 T1 _ X1 N1 Zs1 o2 i3 t0 (f2_0 i3) _ hr5
      · have hr6 := hr3.trans (if_neg hc4)
        refine own_pre (B := T1.setTop (mkF m 170 #[.val (.int p0), .val (.int p1), .val (.ref o2), .val (.int i3), .val (.int t0), .val (.int (f2_0 i3))] [])) (fun t k => XS.ifNo X1.here hx rfl (hb hby at_167) rfl ((if0 _ _).trans (feq hc4).1) k) ?_
        refine own_pre (B := T1.setTop (mkF m 171 #[.val (.int p0), .val (.int p1), .val (.ref o2), .val (.int i3), .val (.int t0), .val (.int (f2_0 i3))] [(.int i3)])) (fun t k => XS.iloadN X1.here hx rfl (hb hby at_170) rfl k) ?_
        obtain ⟨_, _, ⟨T7, L7, k7, n7⟩, -, X7, ⟨Lc7, hQ7, l7, y7, z7⟩, st7⟩ := Jvm.LawKit.callS X1 hx (y := (⟨"com/example/amberwire/amberwire/XmlCharacters", "isNameStart", "(I)Z"⟩ : MethodName)) hown (mvT hZ (hw _ (List.mem_of_getElem? (i := 10) rfl))) (mvT hZ (hw _ (List.mem_of_getElem? (i := 11) rfl))) (mvT hZ (hw _ (List.mem_of_getElem? (i := 8) rfl))) (mvT hZ (hw _ (List.mem_of_getElem? (i := 12) rfl))) (by decide) (backOf (W := 0) (rm3 l Z a0 hw [] i3 T.heap n0 Zs) hZ (hw _ (List.mem_of_getElem? (i := 12) rfl)) (hw _ (List.mem_of_getElem? (i := 8) rfl)) (by decide) (by decide)) (g := (mkF m 171 #[.val (.int p0), .val (.int p1), .val (.ref o2), .val (.int i3), .val (.int t0), .val (.int (f2_0 i3))] [(.int i3)])) rfl (by rw [hml]; rfl) (argsL := [(.int i3)]) (rest := []) (lenOf pd0_0 rfl) rfl (by show 2 * 0 + _ ≤ _; exact Nat.le_of_eq rfl) (hb hby at_171) (fun _ _ => ⟨rfl, e1, (by decide : 1 + 0 ≤ _), (by decide : 9 + 0 ≤ _)⟩)
        dsimp only [Pt.U, Pt.locs, Pt.cells, Pt.slots] at X7 l7 y7 z7 st7 hQ7
        subst l7 y7 z7
        obtain ⟨rfl, Nq7, e7⟩ := hQ7
        have N7 := Fr.app N1 Nq7
        have Zs7 : n0 ≤ T7.heap.size := by rw [e7]; exact Zs
        refine own_pre (B := T7.setTop (mkF m 174 #[.val (.int p0), .val (.int p1), .val (.ref o2), .val (.int i3), .val (.int t0), .val (.int (f2_0 i3))] [(.int (f3_0 i3))])) st7 ?_
        by_cases hc8 : (f3_0 i3) = (0 : Int32)
        · have hr9 := hr6.trans (if_pos hc8)
          refine own_pre (B := T7.setTop (mkF m 179 #[.val (.int p0), .val (.int p1), .val (.ref o2), .val (.int i3), .val (.int t0), .val (.int (f2_0 i3))] [])) (fun t k => XS.ifYes X7.here hx rfl (pc0 := 174) (pc' := 179) rfl (hb hby at_174) rfl ((if0 _ _).trans (teq hc8).1) (by decide) (by decide) k) ?_
          exact g_179 T7 _ X7 N7 Zs7 o2 i3 t0 (f2_0 i3) _ hr9
        · have hr10 := hr6.trans (if_neg hc8)
          refine own_pre (B := T7.setTop (mkF m 177 #[.val (.int p0), .val (.int p1), .val (.ref o2), .val (.int i3), .val (.int t0), .val (.int (f2_0 i3))] [])) (fun t k => XS.ifNo X7.here hx rfl (hb hby at_174) rfl ((if0 _ _).trans (feq hc8).1) k) ?_
          refine own_pre (B := T7.setTop (mkF m 178 #[.val (.int p0), .val (.int p1), .val (.ref o2), .val (.int i3), .val (.int t0), .val (.int (f2_0 i3))] [(.int (0 : Int32))])) (fun t k => XS.iconst X7.here hx rfl (hb hby at_177) k) ?_
          exact own_retZ X7 hx hlk Bd.returns (hb hby at_178) ⟨own_someI hr10, N7⟩ (by decide) (by decide)
    · have hr11 := hr.trans (if_neg hc2)
      refine own_pre (B := T1.setTop (mkF m 163 #[.val (.int p0), .val (.int p1), .val (.ref o2), .val (.int i3), .val (.int t0), .val (.int (f2_0 i3))] [])) (fun t k => XS.icmpNo X1.here hx rfl (hb hby at_160) rfl (feq hc2).1 k) ?_
      refine own_pre (B := T1.setTop (mkF m 164 #[.val (.int p0), .val (.int p1), .val (.ref o2), .val (.int i3), .val (.int t0), .val (.int (f2_0 i3))] [(.int (0 : Int32))])) (fun t k => XS.iconst X1.here hx rfl (hb hby at_163) k) ?_
      exact own_retZ X1 hx hlk Bd.returns (hb hby at_164) ⟨own_someI hr11, N1⟩ (by decide) (by decide)
  have g_143 : ∀ (T : State) (locs : List Loc) (X : Stand p l e room_1 s m #[(.int p0), (.int p1)] below meth c T locs 1 9) (N : Fr n0 locs) (Zs : n0 ≤ T.heap.size) (o2 : Addr) (i3 : Int32)  (r : Int32), r = f0_143 p0 p1 i3 → own_Fin p e below s (fun v h L => v = some (.int r) ∧ Fr n0 L) room_1.cells room_1.slots (T.setTop (mkF m 143 #[.val (.int p0), .val (.int p1), .val (.ref o2), .val (.int i3), .unset, .unset] [])) := by
    intro T locs X N Zs o2 i3  r hr
    have hr : r = (f0_148 p0 p1 i3 (1 : Int32)) := hr
    refine own_pre (B := T.setTop (mkF m 144 #[.val (.int p0), .val (.int p1), .val (.ref o2), .val (.int i3), .unset, .unset] [(.int (1 : Int32))])) (fun t k => XS.iconst X.here hx rfl (hb hby at_143) k) ?_
    refine own_pre (B := T.setTop (mkF m 148 #[.val (.int p0), .val (.int p1), .val (.ref o2), .val (.int i3), .unset, .unset] [(.int (1 : Int32))])) (fun t k => XS.goto X.here hx rfl (pc0 := 144) (pc' := 148) rfl (hb hby at_144) (by decide) (by decide) k) ?_
    exact g_148 T _ X N Zs o2 i3 (1 : Int32) _ hr
  have g_87 : ∀ (T : State) (locs : List Loc) (X : Stand p l e room_1 s m #[(.int p0), (.int p1)] below meth c T locs 1 9) (N : Fr n0 locs) (Zs : n0 ≤ T.heap.size) (o2 : Addr) (i3 : Int32)  (r : Int32), r = f0_87 p0 p1 i3 → own_Fin p e below s (fun v h L => v = some (.int r) ∧ Fr n0 L) room_1.cells room_1.slots (T.setTop (mkF m 87 #[.val (.int p0), .val (.int p1), .val (.ref o2), .val (.int i3), .unset, .unset] [])) := by
    intro T locs X N Zs o2 i3  r hr
    have hr : r = (if (f1_0 i3 (48 : Int32) (57 : Int32)) = (0 : Int32) then (if i3 = (45 : Int32) then (f0_143 p0 p1 i3) else (if i3 = (46 : Int32) then (f0_143 p0 p1 i3) else (if i3 = (183 : Int32) then (f0_143 p0 p1 i3) else (if (f1_0 i3 (768 : Int32) (879 : Int32)) = (0 : Int32) then (if (f1_0 i3 (8255 : Int32) (8256 : Int32)) = (0 : Int32) then (f0_148 p0 p1 i3 (0 : Int32)) else (f0_143 p0 p1 i3)) else (f0_143 p0 p1 i3))))) else (f0_143 p0 p1 i3)) := hr
    refine own_pre (B := T.setTop (mkF m 88 #[.val (.int p0), .val (.int p1), .val (.ref o2), .val (.int i3), .unset, .unset] [(.int i3)])) (fun t k => XS.iloadN X.here hx rfl (hb hby at_87) rfl k) ?_
    refine own_pre (B := T.setTop (mkF m 90 #[.val (.int p0), .val (.int p1), .val (.ref o2), .val (.int i3), .unset, .unset] [(.int (48 : Int32)), (.int i3)])) (fun t k => XS.bipush X.here hx rfl (hb hby at_88) k) ?_
    refine own_pre (B := T.setTop (mkF m 92 #[.val (.int p0), .val (.int p1), .val (.ref o2), .val (.int i3), .unset, .unset] [(.int (57 : Int32)), (.int (48 : Int32)), (.int i3)])) (fun t k => XS.bipush X.here hx rfl (hb hby at_90) k) ?_
    obtain ⟨_, _, ⟨T1, L1, k1, n1⟩, -, X1, ⟨Lc1, hQ1, l1, y1, z1⟩, st1⟩ := Jvm.LawKit.callS X hx (y := (⟨"com/example/amberwire/amberwire/XmlCharactersIsNamePartPinLaw", "in", "(III)Z"⟩ : MethodName)) hown (mvT hZ (hw _ (List.mem_of_getElem? (i := 2) rfl))) (mvT hZ (hw _ (List.mem_of_getElem? (i := 3) rfl))) (mvT hZ (hw _ (List.mem_of_getElem? (i := 4) rfl))) (mvT hZ (hw _ (List.mem_of_getElem? (i := 5) rfl))) (by decide) (backOf (W := 0) (rm1 l Z a0 hw [] i3 (48 : Int32) (57 : Int32) T.heap n0 Zs) hZ (hw _ (List.mem_of_getElem? (i := 5) rfl)) (hw _ (List.mem_of_getElem? (i := 4) rfl)) (by decide) (by decide)) (g := (mkF m 92 #[.val (.int p0), .val (.int p1), .val (.ref o2), .val (.int i3), .unset, .unset] [(.int (57 : Int32)), (.int (48 : Int32)), (.int i3)])) rfl (by rw [hml]; rfl) (argsL := [(.int i3), (.int (48 : Int32)), (.int (57 : Int32))]) (rest := []) (lenOf pd0_1 rfl) rfl (by show 2 * 0 + _ ≤ _; exact Nat.le_of_eq rfl) (hb hby at_92) (fun _ _ => ⟨rfl, rfl, (by decide : 1 + 0 ≤ _), (by decide : 9 + 0 ≤ _)⟩)
    dsimp only [Pt.U, Pt.locs, Pt.cells, Pt.slots] at X1 l1 y1 z1 st1 hQ1
    subst l1 y1 z1
    obtain ⟨rfl, Nq1, e1⟩ := hQ1
    have N1 := Fr.app N Nq1
    have Zs1 : n0 ≤ T1.heap.size := by rw [e1]; exact Zs
    refine own_pre (B := T1.setTop (mkF m 95 #[.val (.int p0), .val (.int p1), .val (.ref o2), .val (.int i3), .unset, .unset] [(.int (f1_0 i3 (48 : Int32) (57 : Int32)))])) st1 ?_
    by_cases hc2 : (f1_0 i3 (48 : Int32) (57 : Int32)) = (0 : Int32)
    · have hr3 := hr.trans (if_pos hc2)
      refine own_pre (B := T1.setTop (mkF m 98 #[.val (.int p0), .val (.int p1), .val (.ref o2), .val (.int i3), .unset, .unset] [])) (fun t k => XS.ifNo X1.here hx rfl (hb hby at_95) rfl ((if0 _ _).trans (teq hc2).2) k) ?_
      refine own_pre (B := T1.setTop (mkF m 99 #[.val (.int p0), .val (.int p1), .val (.ref o2), .val (.int i3), .unset, .unset] [(.int i3)])) (fun t k => XS.iloadN X1.here hx rfl (hb hby at_98) rfl k) ?_
      refine own_pre (B := T1.setTop (mkF m 101 #[.val (.int p0), .val (.int p1), .val (.ref o2), .val (.int i3), .unset, .unset] [(.int (45 : Int32)), (.int i3)])) (fun t k => XS.bipush X1.here hx rfl (hb hby at_99) k) ?_
      by_cases hc4 : i3 = (45 : Int32)
      · have hr5 := hr3.trans (if_pos hc4)
        refine own_pre (B := T1.setTop (mkF m 143 #[.val (.int p0), .val (.int p1), .val (.ref o2), .val (.int i3), .unset, .unset] [])) (fun t k => XS.icmpYes X1.here hx rfl (pc0 := 101) (pc' := 143) rfl (hb hby at_101) rfl (teq hc4).1 (by decide) (by decide) k) ?_
        exact g_143 T1 _ X1 N1 Zs1 o2 i3 _ hr5
      · have hr6 := hr3.trans (if_neg hc4)
        refine own_pre (B := T1.setTop (mkF m 104 #[.val (.int p0), .val (.int p1), .val (.ref o2), .val (.int i3), .unset, .unset] [])) (fun t k => XS.icmpNo X1.here hx rfl (hb hby at_101) rfl (feq hc4).1 k) ?_
        refine own_pre (B := T1.setTop (mkF m 105 #[.val (.int p0), .val (.int p1), .val (.ref o2), .val (.int i3), .unset, .unset] [(.int i3)])) (fun t k => XS.iloadN X1.here hx rfl (hb hby at_104) rfl k) ?_
        refine own_pre (B := T1.setTop (mkF m 107 #[.val (.int p0), .val (.int p1), .val (.ref o2), .val (.int i3), .unset, .unset] [(.int (46 : Int32)), (.int i3)])) (fun t k => XS.bipush X1.here hx rfl (hb hby at_105) k) ?_
        by_cases hc7 : i3 = (46 : Int32)
        · have hr8 := hr6.trans (if_pos hc7)
          refine own_pre (B := T1.setTop (mkF m 143 #[.val (.int p0), .val (.int p1), .val (.ref o2), .val (.int i3), .unset, .unset] [])) (fun t k => XS.icmpYes X1.here hx rfl (pc0 := 107) (pc' := 143) rfl (hb hby at_107) rfl (teq hc7).1 (by decide) (by decide) k) ?_
          exact g_143 T1 _ X1 N1 Zs1 o2 i3 _ hr8
        · have hr9 := hr6.trans (if_neg hc7)
          refine own_pre (B := T1.setTop (mkF m 110 #[.val (.int p0), .val (.int p1), .val (.ref o2), .val (.int i3), .unset, .unset] [])) (fun t k => XS.icmpNo X1.here hx rfl (hb hby at_107) rfl (feq hc7).1 k) ?_
          refine own_pre (B := T1.setTop (mkF m 111 #[.val (.int p0), .val (.int p1), .val (.ref o2), .val (.int i3), .unset, .unset] [(.int i3)])) (fun t k => XS.iloadN X1.here hx rfl (hb hby at_110) rfl k) ?_
          refine own_pre (B := T1.setTop (mkF m 114 #[.val (.int p0), .val (.int p1), .val (.ref o2), .val (.int i3), .unset, .unset] [(.int (183 : Int32)), (.int i3)])) (fun t k => XS.sipush X1.here hx rfl (hb hby at_111) k) ?_
          by_cases hc10 : i3 = (183 : Int32)
          · have hr11 := hr9.trans (if_pos hc10)
            refine own_pre (B := T1.setTop (mkF m 143 #[.val (.int p0), .val (.int p1), .val (.ref o2), .val (.int i3), .unset, .unset] [])) (fun t k => XS.icmpYes X1.here hx rfl (pc0 := 114) (pc' := 143) rfl (hb hby at_114) rfl (teq hc10).1 (by decide) (by decide) k) ?_
            exact g_143 T1 _ X1 N1 Zs1 o2 i3 _ hr11
          · have hr12 := hr9.trans (if_neg hc10)
            refine own_pre (B := T1.setTop (mkF m 117 #[.val (.int p0), .val (.int p1), .val (.ref o2), .val (.int i3), .unset, .unset] [])) (fun t k => XS.icmpNo X1.here hx rfl (hb hby at_114) rfl (feq hc10).1 k) ?_
            refine own_pre (B := T1.setTop (mkF m 118 #[.val (.int p0), .val (.int p1), .val (.ref o2), .val (.int i3), .unset, .unset] [(.int i3)])) (fun t k => XS.iloadN X1.here hx rfl (hb hby at_117) rfl k) ?_
            refine own_pre (B := T1.setTop (mkF m 121 #[.val (.int p0), .val (.int p1), .val (.ref o2), .val (.int i3), .unset, .unset] [(.int (768 : Int32)), (.int i3)])) (fun t k => XS.sipush X1.here hx rfl (hb hby at_118) k) ?_
            refine own_pre (B := T1.setTop (mkF m 124 #[.val (.int p0), .val (.int p1), .val (.ref o2), .val (.int i3), .unset, .unset] [(.int (879 : Int32)), (.int (768 : Int32)), (.int i3)])) (fun t k => XS.sipush X1.here hx rfl (hb hby at_121) k) ?_
            obtain ⟨_, _, ⟨T13, L13, k13, n13⟩, -, X13, ⟨Lc13, hQ13, l13, y13, z13⟩, st13⟩ := Jvm.LawKit.callS X1 hx (y := (⟨"com/example/amberwire/amberwire/XmlCharactersIsNamePartPinLaw", "in", "(III)Z"⟩ : MethodName)) hown (mvT hZ (hw _ (List.mem_of_getElem? (i := 2) rfl))) (mvT hZ (hw _ (List.mem_of_getElem? (i := 3) rfl))) (mvT hZ (hw _ (List.mem_of_getElem? (i := 4) rfl))) (mvT hZ (hw _ (List.mem_of_getElem? (i := 5) rfl))) (by decide) (backOf (W := 0) (rm1 l Z a0 hw [] i3 (768 : Int32) (879 : Int32) T.heap n0 Zs) hZ (hw _ (List.mem_of_getElem? (i := 5) rfl)) (hw _ (List.mem_of_getElem? (i := 4) rfl)) (by decide) (by decide)) (g := (mkF m 124 #[.val (.int p0), .val (.int p1), .val (.ref o2), .val (.int i3), .unset, .unset] [(.int (879 : Int32)), (.int (768 : Int32)), (.int i3)])) rfl (by rw [hml]; rfl) (argsL := [(.int i3), (.int (768 : Int32)), (.int (879 : Int32))]) (rest := []) (lenOf pd0_1 rfl) rfl (by show 2 * 0 + _ ≤ _; exact Nat.le_of_eq rfl) (hb hby at_124) (fun _ _ => ⟨rfl, e1, (by decide : 1 + 0 ≤ _), (by decide : 9 + 0 ≤ _)⟩)
            dsimp only [Pt.U, Pt.locs, Pt.cells, Pt.slots] at X13 l13 y13 z13 st13 hQ13
            subst l13 y13 z13
            obtain ⟨rfl, Nq13, e13⟩ := hQ13
            have N13 := Fr.app N1 Nq13
            have Zs13 : n0 ≤ T13.heap.size := by rw [e13]; exact Zs
            refine own_pre (B := T13.setTop (mkF m 127 #[.val (.int p0), .val (.int p1), .val (.ref o2), .val (.int i3), .unset, .unset] [(.int (f1_0 i3 (768 : Int32) (879 : Int32)))])) st13 ?_
            by_cases hc14 : (f1_0 i3 (768 : Int32) (879 : Int32)) = (0 : Int32)
            · have hr15 := hr12.trans (if_pos hc14)
              refine own_pre (B := T13.setTop (mkF m 130 #[.val (.int p0), .val (.int p1), .val (.ref o2), .val (.int i3), .unset, .unset] [])) (fun t k => XS.ifNo X13.here hx rfl (hb hby at_127) rfl ((if0 _ _).trans (teq hc14).2) k) ?_
              refine own_pre (B := T13.setTop (mkF m 131 #[.val (.int p0), .val (.int p1), .val (.ref o2), .val (.int i3), .unset, .unset] [(.int i3)])) (fun t k => XS.iloadN X13.here hx rfl (hb hby at_130) rfl k) ?_
              refine own_pre (B := T13.setTop (mkF m 134 #[.val (.int p0), .val (.int p1), .val (.ref o2), .val (.int i3), .unset, .unset] [(.int (8255 : Int32)), (.int i3)])) (fun t k => XS.sipush X13.here hx rfl (hb hby at_131) k) ?_
              refine own_pre (B := T13.setTop (mkF m 137 #[.val (.int p0), .val (.int p1), .val (.ref o2), .val (.int i3), .unset, .unset] [(.int (8256 : Int32)), (.int (8255 : Int32)), (.int i3)])) (fun t k => XS.sipush X13.here hx rfl (hb hby at_134) k) ?_
              obtain ⟨_, _, ⟨T16, L16, k16, n16⟩, -, X16, ⟨Lc16, hQ16, l16, y16, z16⟩, st16⟩ := Jvm.LawKit.callS X13 hx (y := (⟨"com/example/amberwire/amberwire/XmlCharactersIsNamePartPinLaw", "in", "(III)Z"⟩ : MethodName)) hown (mvT hZ (hw _ (List.mem_of_getElem? (i := 2) rfl))) (mvT hZ (hw _ (List.mem_of_getElem? (i := 3) rfl))) (mvT hZ (hw _ (List.mem_of_getElem? (i := 4) rfl))) (mvT hZ (hw _ (List.mem_of_getElem? (i := 5) rfl))) (by decide) (backOf (W := 0) (rm1 l Z a0 hw [] i3 (8255 : Int32) (8256 : Int32) T.heap n0 Zs) hZ (hw _ (List.mem_of_getElem? (i := 5) rfl)) (hw _ (List.mem_of_getElem? (i := 4) rfl)) (by decide) (by decide)) (g := (mkF m 137 #[.val (.int p0), .val (.int p1), .val (.ref o2), .val (.int i3), .unset, .unset] [(.int (8256 : Int32)), (.int (8255 : Int32)), (.int i3)])) rfl (by rw [hml]; rfl) (argsL := [(.int i3), (.int (8255 : Int32)), (.int (8256 : Int32))]) (rest := []) (lenOf pd0_1 rfl) rfl (by show 2 * 0 + _ ≤ _; exact Nat.le_of_eq rfl) (hb hby at_137) (fun _ _ => ⟨rfl, e13, (by decide : 1 + 0 ≤ _), (by decide : 9 + 0 ≤ _)⟩)
              dsimp only [Pt.U, Pt.locs, Pt.cells, Pt.slots] at X16 l16 y16 z16 st16 hQ16
              subst l16 y16 z16
              obtain ⟨rfl, Nq16, e16⟩ := hQ16
              have N16 := Fr.app N13 Nq16
              have Zs16 : n0 ≤ T16.heap.size := by rw [e16]; exact Zs
              refine own_pre (B := T16.setTop (mkF m 140 #[.val (.int p0), .val (.int p1), .val (.ref o2), .val (.int i3), .unset, .unset] [(.int (f1_0 i3 (8255 : Int32) (8256 : Int32)))])) st16 ?_
              by_cases hc17 : (f1_0 i3 (8255 : Int32) (8256 : Int32)) = (0 : Int32)
              · have hr18 := hr15.trans (if_pos hc17)
                refine own_pre (B := T16.setTop (mkF m 147 #[.val (.int p0), .val (.int p1), .val (.ref o2), .val (.int i3), .unset, .unset] [])) (fun t k => XS.ifYes X16.here hx rfl (pc0 := 140) (pc' := 147) rfl (hb hby at_140) rfl ((if0 _ _).trans (teq hc17).1) (by decide) (by decide) k) ?_
                refine own_pre (B := T16.setTop (mkF m 148 #[.val (.int p0), .val (.int p1), .val (.ref o2), .val (.int i3), .unset, .unset] [(.int (0 : Int32))])) (fun t k => XS.iconst X16.here hx rfl (hb hby at_147) k) ?_
                exact g_148 T16 _ X16 N16 Zs16 o2 i3 (0 : Int32) _ hr18
              · have hr19 := hr15.trans (if_neg hc17)
                refine own_pre (B := T16.setTop (mkF m 143 #[.val (.int p0), .val (.int p1), .val (.ref o2), .val (.int i3), .unset, .unset] [])) (fun t k => XS.ifNo X16.here hx rfl (hb hby at_140) rfl ((if0 _ _).trans (feq hc17).1) k) ?_
                exact g_143 T16 _ X16 N16 Zs16 o2 i3 _ hr19
            · have hr20 := hr12.trans (if_neg hc14)
              refine own_pre (B := T13.setTop (mkF m 143 #[.val (.int p0), .val (.int p1), .val (.ref o2), .val (.int i3), .unset, .unset] [])) (fun t k => XS.ifYes X13.here hx rfl (pc0 := 127) (pc' := 143) rfl (hb hby at_127) rfl ((if0 _ _).trans (feq hc14).2) (by decide) (by decide) k) ?_
              exact g_143 T13 _ X13 N13 Zs13 o2 i3 _ hr20
    · have hr21 := hr.trans (if_neg hc2)
      refine own_pre (B := T1.setTop (mkF m 143 #[.val (.int p0), .val (.int p1), .val (.ref o2), .val (.int i3), .unset, .unset] [])) (fun t k => XS.ifYes X1.here hx rfl (pc0 := 95) (pc' := 143) rfl (hb hby at_95) rfl ((if0 _ _).trans (feq hc2).2) (by decide) (by decide) k) ?_
      exact g_143 T1 _ X1 N1 Zs1 o2 i3 _ hr21
  have g_0 : ∀ r, r = f0_0 p0 p1 → own_Fin p e below s (fun v h L => v = some (.int r) ∧ Fr n0 L) room_1.cells room_1.slots (s₁.setTop (mkF m 0 #[.val (.int p0), .val (.int p1), .unset, .unset, .unset, .unset] [])) := by
    intro r hr
    have hr : r = (if (p1 &&& (1 : Int32)) = (0 : Int32) then (f0_87 p0 p1 p0) else (f0_87 p0 p1 (((own_base (((p1.toUInt32 >>> ((1 : Int32) &&& 31).toUInt32).toInt32) % (9 : Int32))) + ((p0 &&& (2147483647 : Int32)) % (3 : Int32))) - (1 : Int32)))) := hr
    refine own_pre (B := s₁.setTop (mkF m 2 #[.val (.int p0), .val (.int p1), .unset, .unset, .unset, .unset] [(.int (9 : Int32))])) (fun t k => XS.bipush X0.here hx rfl (hb hby at_0) k) ?_
    obtain ⟨T1, h1, k1, X1, e1, E1, A1, st1⟩ := newP X0 hx hZ (hw _ (List.mem_of_getElem? (i := 0) rfl)) e0 (g := (mkF m 2 #[.val (.int p0), .val (.int p1), .unset, .unset, .unset, .unset] [(.int (9 : Int32))])) rfl (hb hby at_2) rfl (by decide) (cap := 9) (by decide) (by decide) (by decide) (by decide)
    obtain ⟨b1, g1⟩ : ∃ z, z = h0.size := ⟨_, rfl⟩
    rw [← g1] at A1 st1
    have V1 : Arv Z h1 b1 k1 .int (9 : Int32) [.int (0 : Int32), .int (0 : Int32), .int (0 : Int32), .int (0 : Int32), .int (0 : Int32), .int (0 : Int32), .int (0 : Int32), .int (0 : Int32), .int (0 : Int32)] (.int (0 : Int32)) := (Arv.new A1 (by decide)).pad (pad_rep [] (.int (0 : Int32)) 9)
    have gb1 : n0 ≤ b1 := Nat.le_trans Z0 (Nat.le_of_eq g1.symm)
    have ZH1 : n0 ≤ h1.size := Nat.le_trans Z0 E1.1
    have Zs1 : n0 ≤ T1.heap.size := by rw [e1]; exact ZH1
    refine own_pre (B := T1.setTop (mkF m 4 #[.val (.int p0), .val (.int p1), .unset, .unset, .unset, .unset] [(.ref b1)])) st1 ?_
    refine own_pre (B := T1.setTop (mkF m 5 #[.val (.int p0), .val (.int p1), .unset, .unset, .unset, .unset] [(.ref b1), (.ref b1)])) (fun t k => XS.dup X1.here hx rfl (hb hby at_4) rfl rfl k) ?_
    refine own_pre (B := T1.setTop (mkF m 6 #[.val (.int p0), .val (.int p1), .unset, .unset, .unset, .unset] [(.int (0 : Int32)), (.ref b1), (.ref b1)])) (fun t k => XS.iconst X1.here hx rfl (hb hby at_5) k) ?_
    refine own_pre (B := T1.setTop (mkF m 8 #[.val (.int p0), .val (.int p1), .unset, .unset, .unset, .unset] [(.int (48 : Int32)), (.int (0 : Int32)), (.ref b1), (.ref b1)])) (fun t k => XS.bipush X1.here hx rfl (hb hby at_6) k) ?_
    obtain ⟨T2, h2, X2, e2, W2, V2', st2⟩ := own_st X1 hx hZ e1 V1 (j := (0 : Int32)) (x := (48 : Int32)) ⟨by decide, by decide⟩ 0 rfl (Nat.le_of_ble_eq_true rfl) (g := (mkF m 8 #[.val (.int p0), .val (.int p1), .unset, .unset, .unset, .unset] [(.int (48 : Int32)), (.int (0 : Int32)), (.ref b1), (.ref b1)])) rfl rfl (hb hby at_8)
    have V2 : Arv Z h2 b1 k1 .int (9 : Int32) [.int (48 : Int32), .int (0 : Int32), .int (0 : Int32), .int (0 : Int32), .int (0 : Int32), .int (0 : Int32), .int (0 : Int32), .int (0 : Int32), .int (0 : Int32)] (.int (0 : Int32)) := V2'
    have N2 := Fr.snoc X2 N0 gb1
    have ZH2 : n0 ≤ h2.size := by rw [W2.size]; exact ZH1
    have Zs2 : n0 ≤ T2.heap.size := by rw [e2]; exact ZH2
    refine own_pre (B := T2.setTop (mkF m 9 #[.val (.int p0), .val (.int p1), .unset, .unset, .unset, .unset] [(.ref b1)])) st2 ?_
    refine own_pre (B := T2.setTop (mkF m 10 #[.val (.int p0), .val (.int p1), .unset, .unset, .unset, .unset] [(.ref b1), (.ref b1)])) (fun t k => XS.dup X2.here hx rfl (hb hby at_9) rfl rfl k) ?_
    refine own_pre (B := T2.setTop (mkF m 11 #[.val (.int p0), .val (.int p1), .unset, .unset, .unset, .unset] [(.int (1 : Int32)), (.ref b1), (.ref b1)])) (fun t k => XS.iconst X2.here hx rfl (hb hby at_10) k) ?_
    refine own_pre (B := T2.setTop (mkF m 13 #[.val (.int p0), .val (.int p1), .unset, .unset, .unset, .unset] [(.int (57 : Int32)), (.int (1 : Int32)), (.ref b1), (.ref b1)])) (fun t k => XS.bipush X2.here hx rfl (hb hby at_11) k) ?_
    obtain ⟨T3, h3, X3, e3, W3, V3', st3⟩ := own_st X2 hx hZ e2 V2 (j := (1 : Int32)) (x := (57 : Int32)) ⟨by decide, by decide⟩ 1 rfl (Nat.le_of_ble_eq_true rfl) (g := (mkF m 13 #[.val (.int p0), .val (.int p1), .unset, .unset, .unset, .unset] [(.int (57 : Int32)), (.int (1 : Int32)), (.ref b1), (.ref b1)])) rfl rfl (hb hby at_13)
    have V3 : Arv Z h3 b1 k1 .int (9 : Int32) [.int (48 : Int32), .int (57 : Int32), .int (0 : Int32), .int (0 : Int32), .int (0 : Int32), .int (0 : Int32), .int (0 : Int32), .int (0 : Int32), .int (0 : Int32)] (.int (0 : Int32)) := V3'
    have N3 := Fr.snoc X3 N2 gb1
    have ZH3 : n0 ≤ h3.size := by rw [W3.size]; exact ZH2
    have Zs3 : n0 ≤ T3.heap.size := by rw [e3]; exact ZH3
    refine own_pre (B := T3.setTop (mkF m 14 #[.val (.int p0), .val (.int p1), .unset, .unset, .unset, .unset] [(.ref b1)])) st3 ?_
    refine own_pre (B := T3.setTop (mkF m 15 #[.val (.int p0), .val (.int p1), .unset, .unset, .unset, .unset] [(.ref b1), (.ref b1)])) (fun t k => XS.dup X3.here hx rfl (hb hby at_14) rfl rfl k) ?_
    refine own_pre (B := T3.setTop (mkF m 16 #[.val (.int p0), .val (.int p1), .unset, .unset, .unset, .unset] [(.int (2 : Int32)), (.ref b1), (.ref b1)])) (fun t k => XS.iconst X3.here hx rfl (hb hby at_15) k) ?_
    refine own_pre (B := T3.setTop (mkF m 18 #[.val (.int p0), .val (.int p1), .unset, .unset, .unset, .unset] [(.int (45 : Int32)), (.int (2 : Int32)), (.ref b1), (.ref b1)])) (fun t k => XS.bipush X3.here hx rfl (hb hby at_16) k) ?_
    obtain ⟨T4, h4, X4, e4, W4, V4', st4⟩ := own_st X3 hx hZ e3 V3 (j := (2 : Int32)) (x := (45 : Int32)) ⟨by decide, by decide⟩ 2 rfl (Nat.le_of_ble_eq_true rfl) (g := (mkF m 18 #[.val (.int p0), .val (.int p1), .unset, .unset, .unset, .unset] [(.int (45 : Int32)), (.int (2 : Int32)), (.ref b1), (.ref b1)])) rfl rfl (hb hby at_18)
    have V4 : Arv Z h4 b1 k1 .int (9 : Int32) [.int (48 : Int32), .int (57 : Int32), .int (45 : Int32), .int (0 : Int32), .int (0 : Int32), .int (0 : Int32), .int (0 : Int32), .int (0 : Int32), .int (0 : Int32)] (.int (0 : Int32)) := V4'
    have N4 := Fr.snoc X4 N3 gb1
    have ZH4 : n0 ≤ h4.size := by rw [W4.size]; exact ZH3
    have Zs4 : n0 ≤ T4.heap.size := by rw [e4]; exact ZH4
    refine own_pre (B := T4.setTop (mkF m 19 #[.val (.int p0), .val (.int p1), .unset, .unset, .unset, .unset] [(.ref b1)])) st4 ?_
    refine own_pre (B := T4.setTop (mkF m 20 #[.val (.int p0), .val (.int p1), .unset, .unset, .unset, .unset] [(.ref b1), (.ref b1)])) (fun t k => XS.dup X4.here hx rfl (hb hby at_19) rfl rfl k) ?_
    refine own_pre (B := T4.setTop (mkF m 21 #[.val (.int p0), .val (.int p1), .unset, .unset, .unset, .unset] [(.int (3 : Int32)), (.ref b1), (.ref b1)])) (fun t k => XS.iconst X4.here hx rfl (hb hby at_20) k) ?_
    refine own_pre (B := T4.setTop (mkF m 23 #[.val (.int p0), .val (.int p1), .unset, .unset, .unset, .unset] [(.int (46 : Int32)), (.int (3 : Int32)), (.ref b1), (.ref b1)])) (fun t k => XS.bipush X4.here hx rfl (hb hby at_21) k) ?_
    obtain ⟨T5, h5, X5, e5, W5, V5', st5⟩ := own_st X4 hx hZ e4 V4 (j := (3 : Int32)) (x := (46 : Int32)) ⟨by decide, by decide⟩ 3 rfl (Nat.le_of_ble_eq_true rfl) (g := (mkF m 23 #[.val (.int p0), .val (.int p1), .unset, .unset, .unset, .unset] [(.int (46 : Int32)), (.int (3 : Int32)), (.ref b1), (.ref b1)])) rfl rfl (hb hby at_23)
    have V5 : Arv Z h5 b1 k1 .int (9 : Int32) [.int (48 : Int32), .int (57 : Int32), .int (45 : Int32), .int (46 : Int32), .int (0 : Int32), .int (0 : Int32), .int (0 : Int32), .int (0 : Int32), .int (0 : Int32)] (.int (0 : Int32)) := V5'
    have N5 := Fr.snoc X5 N4 gb1
    have ZH5 : n0 ≤ h5.size := by rw [W5.size]; exact ZH4
    have Zs5 : n0 ≤ T5.heap.size := by rw [e5]; exact ZH5
    refine own_pre (B := T5.setTop (mkF m 24 #[.val (.int p0), .val (.int p1), .unset, .unset, .unset, .unset] [(.ref b1)])) st5 ?_
    refine own_pre (B := T5.setTop (mkF m 25 #[.val (.int p0), .val (.int p1), .unset, .unset, .unset, .unset] [(.ref b1), (.ref b1)])) (fun t k => XS.dup X5.here hx rfl (hb hby at_24) rfl rfl k) ?_
    refine own_pre (B := T5.setTop (mkF m 26 #[.val (.int p0), .val (.int p1), .unset, .unset, .unset, .unset] [(.int (4 : Int32)), (.ref b1), (.ref b1)])) (fun t k => XS.iconst X5.here hx rfl (hb hby at_25) k) ?_
    refine own_pre (B := T5.setTop (mkF m 29 #[.val (.int p0), .val (.int p1), .unset, .unset, .unset, .unset] [(.int (183 : Int32)), (.int (4 : Int32)), (.ref b1), (.ref b1)])) (fun t k => XS.sipush X5.here hx rfl (hb hby at_26) k) ?_
    obtain ⟨T6, h6, X6, e6, W6, V6', st6⟩ := own_st X5 hx hZ e5 V5 (j := (4 : Int32)) (x := (183 : Int32)) ⟨by decide, by decide⟩ 4 rfl (Nat.le_of_ble_eq_true rfl) (g := (mkF m 29 #[.val (.int p0), .val (.int p1), .unset, .unset, .unset, .unset] [(.int (183 : Int32)), (.int (4 : Int32)), (.ref b1), (.ref b1)])) rfl rfl (hb hby at_29)
    have V6 : Arv Z h6 b1 k1 .int (9 : Int32) [.int (48 : Int32), .int (57 : Int32), .int (45 : Int32), .int (46 : Int32), .int (183 : Int32), .int (0 : Int32), .int (0 : Int32), .int (0 : Int32), .int (0 : Int32)] (.int (0 : Int32)) := V6'
    have N6 := Fr.snoc X6 N5 gb1
    have ZH6 : n0 ≤ h6.size := by rw [W6.size]; exact ZH5
    have Zs6 : n0 ≤ T6.heap.size := by rw [e6]; exact ZH6
    refine own_pre (B := T6.setTop (mkF m 30 #[.val (.int p0), .val (.int p1), .unset, .unset, .unset, .unset] [(.ref b1)])) st6 ?_
    refine own_pre (B := T6.setTop (mkF m 31 #[.val (.int p0), .val (.int p1), .unset, .unset, .unset, .unset] [(.ref b1), (.ref b1)])) (fun t k => XS.dup X6.here hx rfl (hb hby at_30) rfl rfl k) ?_
    refine own_pre (B := T6.setTop (mkF m 32 #[.val (.int p0), .val (.int p1), .unset, .unset, .unset, .unset] [(.int (5 : Int32)), (.ref b1), (.ref b1)])) (fun t k => XS.iconst X6.here hx rfl (hb hby at_31) k) ?_
    refine own_pre (B := T6.setTop (mkF m 35 #[.val (.int p0), .val (.int p1), .unset, .unset, .unset, .unset] [(.int (768 : Int32)), (.int (5 : Int32)), (.ref b1), (.ref b1)])) (fun t k => XS.sipush X6.here hx rfl (hb hby at_32) k) ?_
    obtain ⟨T7, h7, X7, e7, W7, V7', st7⟩ := own_st X6 hx hZ e6 V6 (j := (5 : Int32)) (x := (768 : Int32)) ⟨by decide, by decide⟩ 5 rfl (Nat.le_of_ble_eq_true rfl) (g := (mkF m 35 #[.val (.int p0), .val (.int p1), .unset, .unset, .unset, .unset] [(.int (768 : Int32)), (.int (5 : Int32)), (.ref b1), (.ref b1)])) rfl rfl (hb hby at_35)
    have V7 : Arv Z h7 b1 k1 .int (9 : Int32) [.int (48 : Int32), .int (57 : Int32), .int (45 : Int32), .int (46 : Int32), .int (183 : Int32), .int (768 : Int32), .int (0 : Int32), .int (0 : Int32), .int (0 : Int32)] (.int (0 : Int32)) := V7'
    have N7 := Fr.snoc X7 N6 gb1
    have ZH7 : n0 ≤ h7.size := by rw [W7.size]; exact ZH6
    have Zs7 : n0 ≤ T7.heap.size := by rw [e7]; exact ZH7
    refine own_pre (B := T7.setTop (mkF m 36 #[.val (.int p0), .val (.int p1), .unset, .unset, .unset, .unset] [(.ref b1)])) st7 ?_
    refine own_pre (B := T7.setTop (mkF m 37 #[.val (.int p0), .val (.int p1), .unset, .unset, .unset, .unset] [(.ref b1), (.ref b1)])) (fun t k => XS.dup X7.here hx rfl (hb hby at_36) rfl rfl k) ?_
    refine own_pre (B := T7.setTop (mkF m 39 #[.val (.int p0), .val (.int p1), .unset, .unset, .unset, .unset] [(.int (6 : Int32)), (.ref b1), (.ref b1)])) (fun t k => XS.bipush X7.here hx rfl (hb hby at_37) k) ?_
    refine own_pre (B := T7.setTop (mkF m 42 #[.val (.int p0), .val (.int p1), .unset, .unset, .unset, .unset] [(.int (879 : Int32)), (.int (6 : Int32)), (.ref b1), (.ref b1)])) (fun t k => XS.sipush X7.here hx rfl (hb hby at_39) k) ?_
    obtain ⟨T8, h8, X8, e8, W8, V8', st8⟩ := own_st X7 hx hZ e7 V7 (j := (6 : Int32)) (x := (879 : Int32)) ⟨by decide, by decide⟩ 6 rfl (Nat.le_of_ble_eq_true rfl) (g := (mkF m 42 #[.val (.int p0), .val (.int p1), .unset, .unset, .unset, .unset] [(.int (879 : Int32)), (.int (6 : Int32)), (.ref b1), (.ref b1)])) rfl rfl (hb hby at_42)
    have V8 : Arv Z h8 b1 k1 .int (9 : Int32) [.int (48 : Int32), .int (57 : Int32), .int (45 : Int32), .int (46 : Int32), .int (183 : Int32), .int (768 : Int32), .int (879 : Int32), .int (0 : Int32), .int (0 : Int32)] (.int (0 : Int32)) := V8'
    have N8 := Fr.snoc X8 N7 gb1
    have ZH8 : n0 ≤ h8.size := by rw [W8.size]; exact ZH7
    have Zs8 : n0 ≤ T8.heap.size := by rw [e8]; exact ZH8
    refine own_pre (B := T8.setTop (mkF m 43 #[.val (.int p0), .val (.int p1), .unset, .unset, .unset, .unset] [(.ref b1)])) st8 ?_
    refine own_pre (B := T8.setTop (mkF m 44 #[.val (.int p0), .val (.int p1), .unset, .unset, .unset, .unset] [(.ref b1), (.ref b1)])) (fun t k => XS.dup X8.here hx rfl (hb hby at_43) rfl rfl k) ?_
    refine own_pre (B := T8.setTop (mkF m 46 #[.val (.int p0), .val (.int p1), .unset, .unset, .unset, .unset] [(.int (7 : Int32)), (.ref b1), (.ref b1)])) (fun t k => XS.bipush X8.here hx rfl (hb hby at_44) k) ?_
    refine own_pre (B := T8.setTop (mkF m 49 #[.val (.int p0), .val (.int p1), .unset, .unset, .unset, .unset] [(.int (8255 : Int32)), (.int (7 : Int32)), (.ref b1), (.ref b1)])) (fun t k => XS.sipush X8.here hx rfl (hb hby at_46) k) ?_
    obtain ⟨T9, h9, X9, e9, W9, V9', st9⟩ := own_st X8 hx hZ e8 V8 (j := (7 : Int32)) (x := (8255 : Int32)) ⟨by decide, by decide⟩ 7 rfl (Nat.le_of_ble_eq_true rfl) (g := (mkF m 49 #[.val (.int p0), .val (.int p1), .unset, .unset, .unset, .unset] [(.int (8255 : Int32)), (.int (7 : Int32)), (.ref b1), (.ref b1)])) rfl rfl (hb hby at_49)
    have V9 : Arv Z h9 b1 k1 .int (9 : Int32) [.int (48 : Int32), .int (57 : Int32), .int (45 : Int32), .int (46 : Int32), .int (183 : Int32), .int (768 : Int32), .int (879 : Int32), .int (8255 : Int32), .int (0 : Int32)] (.int (0 : Int32)) := V9'
    have N9 := Fr.snoc X9 N8 gb1
    have ZH9 : n0 ≤ h9.size := by rw [W9.size]; exact ZH8
    have Zs9 : n0 ≤ T9.heap.size := by rw [e9]; exact ZH9
    refine own_pre (B := T9.setTop (mkF m 50 #[.val (.int p0), .val (.int p1), .unset, .unset, .unset, .unset] [(.ref b1)])) st9 ?_
    refine own_pre (B := T9.setTop (mkF m 51 #[.val (.int p0), .val (.int p1), .unset, .unset, .unset, .unset] [(.ref b1), (.ref b1)])) (fun t k => XS.dup X9.here hx rfl (hb hby at_50) rfl rfl k) ?_
    refine own_pre (B := T9.setTop (mkF m 53 #[.val (.int p0), .val (.int p1), .unset, .unset, .unset, .unset] [(.int (8 : Int32)), (.ref b1), (.ref b1)])) (fun t k => XS.bipush X9.here hx rfl (hb hby at_51) k) ?_
    refine own_pre (B := T9.setTop (mkF m 56 #[.val (.int p0), .val (.int p1), .unset, .unset, .unset, .unset] [(.int (8256 : Int32)), (.int (8 : Int32)), (.ref b1), (.ref b1)])) (fun t k => XS.sipush X9.here hx rfl (hb hby at_53) k) ?_
    obtain ⟨T10, h10, X10, e10, W10, V10', st10⟩ := own_st X9 hx hZ e9 V9 (j := (8 : Int32)) (x := (8256 : Int32)) ⟨by decide, by decide⟩ 8 rfl (Nat.le_of_ble_eq_true rfl) (g := (mkF m 56 #[.val (.int p0), .val (.int p1), .unset, .unset, .unset, .unset] [(.int (8256 : Int32)), (.int (8 : Int32)), (.ref b1), (.ref b1)])) rfl rfl (hb hby at_56)
    have V10 : Arv Z h10 b1 k1 .int (9 : Int32) [.int (48 : Int32), .int (57 : Int32), .int (45 : Int32), .int (46 : Int32), .int (183 : Int32), .int (768 : Int32), .int (879 : Int32), .int (8255 : Int32), .int (8256 : Int32)] (.int (0 : Int32)) := V10'
    have N10 := Fr.snoc X10 N9 gb1
    have ZH10 : n0 ≤ h10.size := by rw [W10.size]; exact ZH9
    have Zs10 : n0 ≤ T10.heap.size := by rw [e10]; exact ZH10
    refine own_pre (B := T10.setTop (mkF m 57 #[.val (.int p0), .val (.int p1), .unset, .unset, .unset, .unset] [(.ref b1)])) st10 ?_
    refine own_pre (B := T10.setTop (mkF m 58 #[.val (.int p0), .val (.int p1), .val (.ref b1), .unset, .unset, .unset] [])) (fun t k => XS.astoreN X10.here hx rfl (hb hby at_57) rfl rfl (l' := #[.val (.int p0), .val (.int p1), .val (.ref b1), .unset, .unset, .unset]) rfl k) ?_
    refine own_pre (B := T10.setTop (mkF m 59 #[.val (.int p0), .val (.int p1), .val (.ref b1), .unset, .unset, .unset] [(.int p1)])) (fun t k => XS.iloadN X10.here hx rfl (hb hby at_58) rfl k) ?_
    refine own_pre (B := T10.setTop (mkF m 60 #[.val (.int p0), .val (.int p1), .val (.ref b1), .unset, .unset, .unset] [(.int (1 : Int32)), (.int p1)])) (fun t k => XS.iconst X10.here hx rfl (hb hby at_59) k) ?_
    refine own_pre (B := T10.setTop (mkF m 61 #[.val (.int p0), .val (.int p1), .val (.ref b1), .unset, .unset, .unset] [(.int (p1 &&& (1 : Int32)))])) (fun t k => XS.iand X10.here hx rfl (hb hby at_60) rfl k) ?_
    by_cases hc11 : (p1 &&& (1 : Int32)) = (0 : Int32)
    · have hr12 := hr.trans (if_pos hc11)
      refine own_pre (B := T10.setTop (mkF m 64 #[.val (.int p0), .val (.int p1), .val (.ref b1), .unset, .unset, .unset] [])) (fun t k => XS.ifNo X10.here hx rfl (hb hby at_61) rfl ((if0 _ _).trans (teq hc11).2) k) ?_
      refine own_pre (B := T10.setTop (mkF m 65 #[.val (.int p0), .val (.int p1), .val (.ref b1), .unset, .unset, .unset] [(.int p0)])) (fun t k => XS.iloadN X10.here hx rfl (hb hby at_64) rfl k) ?_
      refine own_pre (B := T10.setTop (mkF m 66 #[.val (.int p0), .val (.int p1), .val (.ref b1), .val (.int p0), .unset, .unset] [])) (fun t k => XS.istoreN X10.here hx rfl (hb hby at_65) rfl (l' := #[.val (.int p0), .val (.int p1), .val (.ref b1), .val (.int p0), .unset, .unset]) rfl k) ?_
      refine own_pre (B := T10.setTop (mkF m 87 #[.val (.int p0), .val (.int p1), .val (.ref b1), .val (.int p0), .unset, .unset] [])) (fun t k => XS.goto X10.here hx rfl (pc0 := 66) (pc' := 87) rfl (hb hby at_66) (by decide) (by decide) k) ?_
      exact g_87 T10 _ X10 N10 Zs10 b1 p0 _ hr12
    · have hr13 := hr.trans (if_neg hc11)
      refine own_pre (B := T10.setTop (mkF m 69 #[.val (.int p0), .val (.int p1), .val (.ref b1), .unset, .unset, .unset] [])) (fun t k => XS.ifYes X10.here hx rfl (pc0 := 61) (pc' := 69) rfl (hb hby at_61) rfl ((if0 _ _).trans (feq hc11).2) (by decide) (by decide) k) ?_
      refine own_pre (B := T10.setTop (mkF m 70 #[.val (.int p0), .val (.int p1), .val (.ref b1), .unset, .unset, .unset] [(.ref b1)])) (fun t k => XS.aloadN X10.here hx rfl (hb hby at_69) rfl rfl k) ?_
      refine own_pre (B := T10.setTop (mkF m 71 #[.val (.int p0), .val (.int p1), .val (.ref b1), .unset, .unset, .unset] [(.int p1), (.ref b1)])) (fun t k => XS.iloadN X10.here hx rfl (hb hby at_70) rfl k) ?_
      refine own_pre (B := T10.setTop (mkF m 72 #[.val (.int p0), .val (.int p1), .val (.ref b1), .unset, .unset, .unset] [(.int (1 : Int32)), (.int p1), (.ref b1)])) (fun t k => XS.iconst X10.here hx rfl (hb hby at_71) k) ?_
      refine own_pre (B := T10.setTop (mkF m 73 #[.val (.int p0), .val (.int p1), .val (.ref b1), .unset, .unset, .unset] [(.int ((p1.toUInt32 >>> ((1 : Int32) &&& 31).toUInt32).toInt32)), (.ref b1)])) (fun t k => XS.iushr X10.here hx rfl (hb hby at_72) rfl k) ?_
      refine own_pre (B := T10.setTop (mkF m 75 #[.val (.int p0), .val (.int p1), .val (.ref b1), .unset, .unset, .unset] [(.int (9 : Int32)), (.int ((p1.toUInt32 >>> ((1 : Int32) &&& 31).toUInt32).toInt32)), (.ref b1)])) (fun t k => XS.bipush X10.here hx rfl (hb hby at_73) k) ?_
      refine own_pre (B := T10.setTop (mkF m 76 #[.val (.int p0), .val (.int p1), .val (.ref b1), .unset, .unset, .unset] [(.int (((p1.toUInt32 >>> ((1 : Int32) &&& 31).toUInt32).toInt32) % (9 : Int32))), (.ref b1)])) (fun t k => iremM X10 hx rfl (hb hby at_75) rfl (by decide) k) ?_
      refine own_pre (B := T10.setTop (mkF m 77 #[.val (.int p0), .val (.int p1), .val (.ref b1), .unset, .unset, .unset] [(.int (own_base (((p1.toUInt32 >>> ((1 : Int32) &&& 31).toUInt32).toInt32) % (9 : Int32))))])) (own_ld X10 hx hZ e10 V10 (j := (((p1.toUInt32 >>> ((1 : Int32) &&& 31).toUInt32).toInt32) % (9 : Int32))) (v := (own_base (((p1.toUInt32 >>> ((1 : Int32) &&& 31).toUInt32).toInt32) % (9 : Int32)))) (own_idx p1) (own_base_at _) (g := (mkF m 76 #[.val (.int p0), .val (.int p1), .val (.ref b1), .unset, .unset, .unset] [(.int (((p1.toUInt32 >>> ((1 : Int32) &&& 31).toUInt32).toInt32) % (9 : Int32))), (.ref b1)])) rfl rfl (hb hby at_76)) ?_
      refine own_pre (B := T10.setTop (mkF m 78 #[.val (.int p0), .val (.int p1), .val (.ref b1), .unset, .unset, .unset] [(.int p0), (.int (own_base (((p1.toUInt32 >>> ((1 : Int32) &&& 31).toUInt32).toInt32) % (9 : Int32))))])) (fun t k => XS.iloadN X10.here hx rfl (hb hby at_77) rfl k) ?_
      refine own_pre (B := T10.setTop (mkF m 80 #[.val (.int p0), .val (.int p1), .val (.ref b1), .unset, .unset, .unset] [(.int (2147483647 : Int32)), (.int p0), (.int (own_base (((p1.toUInt32 >>> ((1 : Int32) &&& 31).toUInt32).toInt32) % (9 : Int32))))])) (fun t k => X10.ldcInt hx hown (mvT hZ (hw _ (List.mem_of_getElem? (i := 1) rfl))) (g := (mkF m 78 #[.val (.int p0), .val (.int p1), .val (.ref b1), .unset, .unset, .unset] [(.int p0), (.int (own_base (((p1.toUInt32 >>> ((1 : Int32) &&& 31).toUInt32).toInt32) % (9 : Int32))))])) rfl (hb hby at_78) _ k) ?_
      refine own_pre (B := T10.setTop (mkF m 81 #[.val (.int p0), .val (.int p1), .val (.ref b1), .unset, .unset, .unset] [(.int (p0 &&& (2147483647 : Int32))), (.int (own_base (((p1.toUInt32 >>> ((1 : Int32) &&& 31).toUInt32).toInt32) % (9 : Int32))))])) (fun t k => XS.iand X10.here hx rfl (hb hby at_80) rfl k) ?_
      refine own_pre (B := T10.setTop (mkF m 82 #[.val (.int p0), .val (.int p1), .val (.ref b1), .unset, .unset, .unset] [(.int (3 : Int32)), (.int (p0 &&& (2147483647 : Int32))), (.int (own_base (((p1.toUInt32 >>> ((1 : Int32) &&& 31).toUInt32).toInt32) % (9 : Int32))))])) (fun t k => XS.iconst X10.here hx rfl (hb hby at_81) k) ?_
      refine own_pre (B := T10.setTop (mkF m 83 #[.val (.int p0), .val (.int p1), .val (.ref b1), .unset, .unset, .unset] [(.int ((p0 &&& (2147483647 : Int32)) % (3 : Int32))), (.int (own_base (((p1.toUInt32 >>> ((1 : Int32) &&& 31).toUInt32).toInt32) % (9 : Int32))))])) (fun t k => iremM X10 hx rfl (hb hby at_82) rfl (by decide) k) ?_
      refine own_pre (B := T10.setTop (mkF m 84 #[.val (.int p0), .val (.int p1), .val (.ref b1), .unset, .unset, .unset] [(.int ((own_base (((p1.toUInt32 >>> ((1 : Int32) &&& 31).toUInt32).toInt32) % (9 : Int32))) + ((p0 &&& (2147483647 : Int32)) % (3 : Int32))))])) (fun t k => XS.iadd X10.here hx rfl (hb hby at_83) rfl k) ?_
      refine own_pre (B := T10.setTop (mkF m 85 #[.val (.int p0), .val (.int p1), .val (.ref b1), .unset, .unset, .unset] [(.int (1 : Int32)), (.int ((own_base (((p1.toUInt32 >>> ((1 : Int32) &&& 31).toUInt32).toInt32) % (9 : Int32))) + ((p0 &&& (2147483647 : Int32)) % (3 : Int32))))])) (fun t k => XS.iconst X10.here hx rfl (hb hby at_84) k) ?_
      refine own_pre (B := T10.setTop (mkF m 86 #[.val (.int p0), .val (.int p1), .val (.ref b1), .unset, .unset, .unset] [(.int (((own_base (((p1.toUInt32 >>> ((1 : Int32) &&& 31).toUInt32).toInt32) % (9 : Int32))) + ((p0 &&& (2147483647 : Int32)) % (3 : Int32))) - (1 : Int32)))])) (fun t k => XS.isub X10.here hx rfl (hb hby at_85) rfl k) ?_
      refine own_pre (B := T10.setTop (mkF m 87 #[.val (.int p0), .val (.int p1), .val (.ref b1), .val (.int (((own_base (((p1.toUInt32 >>> ((1 : Int32) &&& 31).toUInt32).toInt32) % (9 : Int32))) + ((p0 &&& (2147483647 : Int32)) % (3 : Int32))) - (1 : Int32))), .unset, .unset] [])) (fun t k => XS.istoreN X10.here hx rfl (hb hby at_86) rfl (l' := #[.val (.int p0), .val (.int p1), .val (.ref b1), .val (.int (((own_base (((p1.toUInt32 >>> ((1 : Int32) &&& 31).toUInt32).toInt32) % (9 : Int32))) + ((p0 &&& (2147483647 : Int32)) % (3 : Int32))) - (1 : Int32))), .unset, .unset]) rfl k) ?_
      exact g_87 T10 _ X10 N10 Zs10 b1 (((own_base (((p1.toUInt32 >>> ((1 : Int32) &&& 31).toUInt32).toInt32) % (9 : Int32))) + ((p0 &&& (2147483647 : Int32)) % (3 : Int32))) - (1 : Int32)) _ hr13
  exact own_pre pre0 (g_0 _ rfl)
/-! the plain law -/
theorem own_seg {c lo hi x : Int32} {a b : Int} {P : Prop} [Decidable P] (hlo : lo.toInt = a) (hhi : hi.toInt = b) (hx : x = if P then 1 else 0) : (if c < lo then x else if hi < c then x else (1 : Int32)) = if (a ≤ c.toInt ∧ c.toInt ≤ b) ∨ P then 1 else 0 := by
  have l1 : c < lo ↔ c.toInt < a := by rw [Int32.lt_iff_toInt_lt, hlo]
  have l2 : hi < c ↔ b < c.toInt := by rw [Int32.lt_iff_toInt_lt, hhi]
  by_cases h1 : c < lo
  · have := l1.mp h1
    rw [if_pos h1, hx]
    by_cases p : P
    · rw [if_pos p, if_pos (Or.inr p)]
    · rw [if_neg p, if_neg (fun q => q.elim (fun q => by omega) p)]
  · have : ¬ c.toInt < a := fun q => h1 (l1.mpr q)
    rw [if_neg h1]
    by_cases h2 : hi < c
    · have := l2.mp h2
      rw [if_pos h2, hx]
      by_cases p : P
      · rw [if_pos p, if_pos (Or.inr p)]
      · rw [if_neg p, if_neg (fun q => q.elim (fun q => by omega) p)]
    · have : ¬ b < c.toInt := fun q => h2 (l2.mpr q)
      rw [if_neg h2, if_pos (Or.inl ⟨by omega, by omega⟩)]
theorem own_seg0 {c lo hi : Int32} {a b : Int} (hlo : lo.toInt = a) (hhi : hi.toInt = b) : (if c < lo then (0 : Int32) else if hi < c then 0 else (1 : Int32)) = if a ≤ c.toInt ∧ c.toInt ≤ b then 1 else 0 := by
  have l1 : c < lo ↔ c.toInt < a := by rw [Int32.lt_iff_toInt_lt, hlo]
  have l2 : hi < c ↔ b < c.toInt := by rw [Int32.lt_iff_toInt_lt, hhi]
  simp only [l1, l2]
  split
  · rw [if_neg (by omega)]
  · split
    · rw [if_neg (by omega)]
    · rw [if_pos (by omega)]
theorem own_int {c : Int32} (k : Int32) {a : Int} (h : k.toInt = a) : c = k ↔ c.toInt = a := ⟨fun q => by rw [q, h], fun q => Int32.toInt_inj.mp (q.trans h.symm)⟩
theorem own_s198 (c : Int32) : f3_198 c = if 65536 ≤ c.toInt ∧ c.toInt ≤ 983039 then 1 else 0 := own_seg0 (c := c) (lo := 65536) (hi := 983039) rfl rfl
theorem own_s186 (c : Int32) : f3_186 c = if (65008 ≤ c.toInt ∧ c.toInt ≤ 65533) ∨ (65536 ≤ c.toInt ∧ c.toInt ≤ 983039) then 1 else 0 := own_seg (c := c) (lo := 65008) (hi := 65533) rfl rfl (own_s198 c)
theorem own_s174 (c : Int32) : f3_174 c = if (63744 ≤ c.toInt ∧ c.toInt ≤ 64975) ∨ ((65008 ≤ c.toInt ∧ c.toInt ≤ 65533) ∨ (65536 ≤ c.toInt ∧ c.toInt ≤ 983039)) then 1 else 0 := own_seg (c := c) (lo := 63744) (hi := 64975) rfl rfl (own_s186 c)
theorem own_s161 (c : Int32) : f3_161 c = if (12289 ≤ c.toInt ∧ c.toInt ≤ 55295) ∨ ((63744 ≤ c.toInt ∧ c.toInt ≤ 64975) ∨ ((65008 ≤ c.toInt ∧ c.toInt ≤ 65533) ∨ (65536 ≤ c.toInt ∧ c.toInt ≤ 983039))) then 1 else 0 := own_seg (c := c) (lo := 12289) (hi := 55295) rfl rfl (own_s174 c)
theorem own_s147 (c : Int32) : f3_147 c = if (11264 ≤ c.toInt ∧ c.toInt ≤ 12271) ∨ ((12289 ≤ c.toInt ∧ c.toInt ≤ 55295) ∨ ((63744 ≤ c.toInt ∧ c.toInt ≤ 64975) ∨ ((65008 ≤ c.toInt ∧ c.toInt ≤ 65533) ∨ (65536 ≤ c.toInt ∧ c.toInt ≤ 983039)))) then 1 else 0 := own_seg (c := c) (lo := 11264) (hi := 12271) rfl rfl (own_s161 c)
theorem own_s133 (c : Int32) : f3_133 c = if (8304 ≤ c.toInt ∧ c.toInt ≤ 8591) ∨ ((11264 ≤ c.toInt ∧ c.toInt ≤ 12271) ∨ ((12289 ≤ c.toInt ∧ c.toInt ≤ 55295) ∨ ((63744 ≤ c.toInt ∧ c.toInt ≤ 64975) ∨ ((65008 ≤ c.toInt ∧ c.toInt ≤ 65533) ∨ (65536 ≤ c.toInt ∧ c.toInt ≤ 983039))))) then 1 else 0 := own_seg (c := c) (lo := 8304) (hi := 8591) rfl rfl (own_s147 c)
theorem own_s119 (c : Int32) : f3_119 c = if (8204 ≤ c.toInt ∧ c.toInt ≤ 8205) ∨ ((8304 ≤ c.toInt ∧ c.toInt ≤ 8591) ∨ ((11264 ≤ c.toInt ∧ c.toInt ≤ 12271) ∨ ((12289 ≤ c.toInt ∧ c.toInt ≤ 55295) ∨ ((63744 ≤ c.toInt ∧ c.toInt ≤ 64975) ∨ ((65008 ≤ c.toInt ∧ c.toInt ≤ 65533) ∨ (65536 ≤ c.toInt ∧ c.toInt ≤ 983039)))))) then 1 else 0 := own_seg (c := c) (lo := 8204) (hi := 8205) rfl rfl (own_s133 c)
theorem own_s105 (c : Int32) : f3_105 c = if (895 ≤ c.toInt ∧ c.toInt ≤ 8191) ∨ ((8204 ≤ c.toInt ∧ c.toInt ≤ 8205) ∨ ((8304 ≤ c.toInt ∧ c.toInt ≤ 8591) ∨ ((11264 ≤ c.toInt ∧ c.toInt ≤ 12271) ∨ ((12289 ≤ c.toInt ∧ c.toInt ≤ 55295) ∨ ((63744 ≤ c.toInt ∧ c.toInt ≤ 64975) ∨ ((65008 ≤ c.toInt ∧ c.toInt ≤ 65533) ∨ (65536 ≤ c.toInt ∧ c.toInt ≤ 983039))))))) then 1 else 0 := own_seg (c := c) (lo := 895) (hi := 8191) rfl rfl (own_s119 c)
theorem own_s91 (c : Int32) : f3_91 c = if (880 ≤ c.toInt ∧ c.toInt ≤ 893) ∨ ((895 ≤ c.toInt ∧ c.toInt ≤ 8191) ∨ ((8204 ≤ c.toInt ∧ c.toInt ≤ 8205) ∨ ((8304 ≤ c.toInt ∧ c.toInt ≤ 8591) ∨ ((11264 ≤ c.toInt ∧ c.toInt ≤ 12271) ∨ ((12289 ≤ c.toInt ∧ c.toInt ≤ 55295) ∨ ((63744 ≤ c.toInt ∧ c.toInt ≤ 64975) ∨ ((65008 ≤ c.toInt ∧ c.toInt ≤ 65533) ∨ (65536 ≤ c.toInt ∧ c.toInt ≤ 983039)))))))) then 1 else 0 := own_seg (c := c) (lo := 880) (hi := 893) rfl rfl (own_s105 c)
theorem own_s77 (c : Int32) : f3_77 c = if (248 ≤ c.toInt ∧ c.toInt ≤ 767) ∨ ((880 ≤ c.toInt ∧ c.toInt ≤ 893) ∨ ((895 ≤ c.toInt ∧ c.toInt ≤ 8191) ∨ ((8204 ≤ c.toInt ∧ c.toInt ≤ 8205) ∨ ((8304 ≤ c.toInt ∧ c.toInt ≤ 8591) ∨ ((11264 ≤ c.toInt ∧ c.toInt ≤ 12271) ∨ ((12289 ≤ c.toInt ∧ c.toInt ≤ 55295) ∨ ((63744 ≤ c.toInt ∧ c.toInt ≤ 64975) ∨ ((65008 ≤ c.toInt ∧ c.toInt ≤ 65533) ∨ (65536 ≤ c.toInt ∧ c.toInt ≤ 983039))))))))) then 1 else 0 := own_seg (c := c) (lo := 248) (hi := 767) rfl rfl (own_s91 c)
theorem own_s63 (c : Int32) : f3_63 c = if (216 ≤ c.toInt ∧ c.toInt ≤ 246) ∨ ((248 ≤ c.toInt ∧ c.toInt ≤ 767) ∨ ((880 ≤ c.toInt ∧ c.toInt ≤ 893) ∨ ((895 ≤ c.toInt ∧ c.toInt ≤ 8191) ∨ ((8204 ≤ c.toInt ∧ c.toInt ≤ 8205) ∨ ((8304 ≤ c.toInt ∧ c.toInt ≤ 8591) ∨ ((11264 ≤ c.toInt ∧ c.toInt ≤ 12271) ∨ ((12289 ≤ c.toInt ∧ c.toInt ≤ 55295) ∨ ((63744 ≤ c.toInt ∧ c.toInt ≤ 64975) ∨ ((65008 ≤ c.toInt ∧ c.toInt ≤ 65533) ∨ (65536 ≤ c.toInt ∧ c.toInt ≤ 983039)))))))))) then 1 else 0 := own_seg (c := c) (lo := 216) (hi := 246) rfl rfl (own_s77 c)
theorem own_s31 (c : Int32) : f3_31 c = if c.toInt = 95 ∨ c.toInt = 58 then 1 else 0 := by
  unfold f3_31 f3_43 f3_48
  simp only [own_int (c := c) 95 (a := 95) rfl, own_int (c := c) 58 (a := 58) rfl]
  split
  · rw [if_pos (by omega)]; rfl
  · split
    · rw [if_pos (by omega)]; rfl
    · rw [if_neg (by omega)]; rfl
theorem own_s19 (c : Int32) : f3_19 c = if (97 ≤ c.toInt ∧ c.toInt ≤ 122) ∨ (c.toInt = 95 ∨ c.toInt = 58) then 1 else 0 := own_seg (c := c) (lo := 97) (hi := 122) rfl rfl (own_s31 c)
theorem own_sLo (c : Int32) : (if c < 65 then f3_19 c else if 90 < c then f3_19 c else f3_43 c) = if (65 ≤ c.toInt ∧ c.toInt ≤ 90) ∨ ((97 ≤ c.toInt ∧ c.toInt ≤ 122) ∨ (c.toInt = 95 ∨ c.toInt = 58)) then 1 else 0 := own_seg (c := c) (lo := 65) (hi := 90) rfl rfl (own_s19 c)
theorem own_sHi (c : Int32) : (if c < 192 then f3_63 c else if 214 < c then f3_63 c else f3_210 c) = if (192 ≤ c.toInt ∧ c.toInt ≤ 214) ∨ ((216 ≤ c.toInt ∧ c.toInt ≤ 246) ∨ ((248 ≤ c.toInt ∧ c.toInt ≤ 767) ∨ ((880 ≤ c.toInt ∧ c.toInt ≤ 893) ∨ ((895 ≤ c.toInt ∧ c.toInt ≤ 8191) ∨ ((8204 ≤ c.toInt ∧ c.toInt ≤ 8205) ∨ ((8304 ≤ c.toInt ∧ c.toInt ≤ 8591) ∨ ((11264 ≤ c.toInt ∧ c.toInt ≤ 12271) ∨ ((12289 ≤ c.toInt ∧ c.toInt ≤ 55295) ∨ ((63744 ≤ c.toInt ∧ c.toInt ≤ 64975) ∨ ((65008 ≤ c.toInt ∧ c.toInt ≤ 65533) ∨ (65536 ≤ c.toInt ∧ c.toInt ≤ 983039))))))))))) then 1 else 0 := own_seg (c := c) (lo := 192) (hi := 214) rfl rfl (own_s63 c)
theorem own_start (c : Int32) : f3_0 c = if c < 128 then (if (65 ≤ c.toInt ∧ c.toInt ≤ 90) ∨ ((97 ≤ c.toInt ∧ c.toInt ≤ 122) ∨ (c.toInt = 95 ∨ c.toInt = 58)) then 1 else 0) else (if (192 ≤ c.toInt ∧ c.toInt ≤ 214) ∨ ((216 ≤ c.toInt ∧ c.toInt ≤ 246) ∨ ((248 ≤ c.toInt ∧ c.toInt ≤ 767) ∨ ((880 ≤ c.toInt ∧ c.toInt ≤ 893) ∨ ((895 ≤ c.toInt ∧ c.toInt ≤ 8191) ∨ ((8204 ≤ c.toInt ∧ c.toInt ≤ 8205) ∨ ((8304 ≤ c.toInt ∧ c.toInt ≤ 8591) ∨ ((11264 ≤ c.toInt ∧ c.toInt ≤ 12271) ∨ ((12289 ≤ c.toInt ∧ c.toInt ≤ 55295) ∨ ((63744 ≤ c.toInt ∧ c.toInt ≤ 64975) ∨ ((65008 ≤ c.toInt ∧ c.toInt ≤ 65533) ∨ (65536 ≤ c.toInt ∧ c.toInt ≤ 983039))))))))))) then 1 else 0) := by
  unfold f3_0
  rw [own_sLo, own_sHi]
def own_P (c : Int32) : Prop := (48 ≤ c.toInt ∧ c.toInt ≤ 57) ∨ c.toInt = 45 ∨ c.toInt = 46 ∨ c.toInt = 183 ∨ (768 ≤ c.toInt ∧ c.toInt ≤ 879) ∨ (8255 ≤ c.toInt ∧ c.toInt ≤ 8256)
theorem own_in (c lo hi : Int32) {a b : Int} (hlo : lo.toInt = a) (hhi : hi.toInt = b) (h0 : 0 ≤ a) (h1 : a ≤ b) (h2 : b < 65536) : f1_0 c lo hi = 0 ↔ ¬ (a ≤ c.toInt ∧ c.toInt ≤ b) := by
  have s1 := c_lsub c.toInt64 lo.toInt64
  have s2 := c_lsub hi.toInt64 lo.toInt64
  have r1 := rng64 (c.toInt64 - lo.toInt64)
  have r2 := rng64 (hi.toInt64 - lo.toInt64)
  have rc := rng32 c
  rw [c_i2l, c_i2l, hlo] at s1
  rw [c_i2l, c_i2l, hlo, hhi] at s2
  have d1 : (c.toInt64 - lo.toInt64).toInt = c.toInt - a := by omega
  have d2 : (hi.toInt64 - lo.toInt64).toInt = b - a := by omega
  unfold f1_0 f1_26 f1_27
  simp only [lw_lt, lw_gt, Int64.lt_iff_toInt_lt, d1, d2, show (0 : Int64).toInt = 0 from rfl]
  by_cases q1 : c.toInt - a < 0
  · rw [if_pos q1]; exact ⟨fun _ => by omega, fun _ => rfl⟩
  rw [if_neg q1]
  by_cases q2 : b - a < c.toInt - a
  · rw [if_pos q2]; exact ⟨fun _ => by omega, fun _ => rfl⟩
  rw [if_neg q2]; exact ⟨fun h => absurd h (by decide), fun h => absurd h (by omega)⟩
theorem own_p45 (c : Int32) : f2_45 c = if 8255 ≤ c.toInt ∧ c.toInt ≤ 8256 then 1 else 0 := own_seg0 (c := c) (lo := 8255) (hi := 8256) rfl rfl
theorem own_p12 (c : Int32) : f2_12 c = if c.toInt = 45 ∨ c.toInt = 46 ∨ c.toInt = 183 ∨ (768 ≤ c.toInt ∧ c.toInt ≤ 879) ∨ (8255 ≤ c.toInt ∧ c.toInt ≤ 8256) then 1 else 0 := by
  have h4 : (if c < 768 then f2_45 c else if 879 < c then f2_45 c else f2_59 c) = if (768 ≤ c.toInt ∧ c.toInt ≤ 879) ∨ (8255 ≤ c.toInt ∧ c.toInt ≤ 8256) then 1 else 0 := own_seg (c := c) (lo := 768) (hi := 879) rfl rfl (own_p45 c)
  unfold f2_12
  rw [h4]
  simp only [own_int (c := c) 45 (a := 45) rfl, own_int (c := c) 46 (a := 46) rfl, own_int (c := c) 183 (a := 183) rfl]
  by_cases h1 : c.toInt = 45
  · rw [if_pos h1, if_pos (Or.inl h1)]; rfl
  by_cases h2 : c.toInt = 46
  · rw [if_neg h1, if_pos h2, if_pos (Or.inr (Or.inl h2))]; rfl
  by_cases h3 : c.toInt = 183
  · rw [if_neg h1, if_neg h2, if_pos h3, if_pos (Or.inr (Or.inr (Or.inl h3)))]; rfl
  rw [if_neg h1, if_neg h2, if_neg h3]
  by_cases h5 : (768 ≤ c.toInt ∧ c.toInt ≤ 879) ∨ (8255 ≤ c.toInt ∧ c.toInt ≤ 8256)
  · rw [if_pos h5, if_pos (Or.inr (Or.inr (Or.inr h5)))]
  · rw [if_neg h5, if_neg (by omega)]
theorem own_part (c : Int32) : f2_0 c = if (48 ≤ c.toInt ∧ c.toInt ≤ 57) ∨ c.toInt = 45 ∨ c.toInt = 46 ∨ c.toInt = 183 ∨ (768 ≤ c.toInt ∧ c.toInt ≤ 879) ∨ (8255 ≤ c.toInt ∧ c.toInt ≤ 8256) then 1 else 0 := own_seg (c := c) (lo := 48) (hi := 57) rfl rfl (own_p12 c)
theorem own_part1 {c : Int32} (h : own_P c) : f2_0 c = 1 := by rw [own_part]; exact if_pos h
theorem own_part0 {c : Int32} (h : ¬ own_P c) : f2_0 c = 0 := by rw [own_part]; exact if_neg h
theorem own_start0 {c : Int32} (h : own_P c) : f3_0 c = 0 := by
  have l1 : c < 128 ↔ c.toInt < 128 := by rw [Int32.lt_iff_toInt_lt]; rfl
  unfold own_P at h
  rw [own_start]
  simp only [l1]
  by_cases q : c.toInt < 128
  · rw [if_pos q, if_neg (by omega)]
  · rw [if_neg q, if_neg (by omega)]
theorem own_char1 {c : Int32} (h : own_P c) : f4_0 c = 1 := by
  unfold own_P at h
  unfold f4_0
  simp only [Int32.lt_iff_toInt_lt, Int32.reduceToInt]
  rw [if_neg (by omega), if_neg (by omega)]; rfl
theorem own_148 (a b c : Int32) (h : own_P c) : f0_148 a b c 1 = 1 := by
  unfold f0_148 f0_179
  rw [own_part1 h, own_start0 h, own_char1 h]; rfl
theorem own_148n (a b c : Int32) (h : ¬ own_P c) : f0_148 a b c 0 = 1 := by
  unfold f0_148 f0_179
  rw [own_part0 h]; rfl
theorem own_87 (a b c : Int32) : f0_87 a b c = 1 := by
  have i1 := own_in c 48 57 (a := 48) (b := 57) rfl rfl (by decide) (by decide) (by decide)
  have i2 := own_in c 768 879 (a := 768) (b := 879) rfl rfl (by decide) (by decide) (by decide)
  have i3 := own_in c 8255 8256 (a := 8255) (b := 8256) rfl rfl (by decide) (by decide) (by decide)
  unfold f0_87
  simp only [i1, i2, i3, own_int (c := c) 45 (a := 45) rfl, own_int (c := c) 46 (a := 46) rfl, own_int (c := c) 183 (a := 183) rfl]
  by_cases h1 : 48 ≤ c.toInt ∧ c.toInt ≤ 57
  · rw [if_neg (not_not_intro h1)]; exact own_148 _ _ _ (Or.inl h1)
  rw [if_pos h1]
  by_cases h2 : c.toInt = 45
  · rw [if_pos h2]; exact own_148 _ _ _ (Or.inr (Or.inl h2))
  rw [if_neg h2]
  by_cases h3 : c.toInt = 46
  · rw [if_pos h3]; exact own_148 _ _ _ (Or.inr (Or.inr (Or.inl h3)))
  rw [if_neg h3]
  by_cases h4 : c.toInt = 183
  · rw [if_pos h4]; exact own_148 _ _ _ (Or.inr (Or.inr (Or.inr (Or.inl h4))))
  rw [if_neg h4]
  by_cases h5 : 768 ≤ c.toInt ∧ c.toInt ≤ 879
  · rw [if_neg (not_not_intro h5)]; exact own_148 _ _ _ (Or.inr (Or.inr (Or.inr (Or.inr (Or.inl h5)))))
  rw [if_pos h5]
  by_cases h6 : 8255 ≤ c.toInt ∧ c.toInt ≤ 8256
  · rw [if_neg (not_not_intro h6)]; exact own_148 _ _ _ (Or.inr (Or.inr (Or.inr (Or.inr (Or.inr h6)))))
  rw [if_pos h6]
  exact own_148n _ _ _ (by unfold own_P; rintro (h | h | h | h | h | h) <;> contradiction)
theorem own_law (a b : Int32) : f0_0 a b = 1 := by
  unfold f0_0
  rw [own_87, own_87]
  split <;> rfl
set_option maxRecDepth 65536 in
set_option maxHeartbeats 40000000 in
theorem comes_1 {Post : Tables → Env → Array Value → State → Outcome → State → Prop} (hpost : ∀ tb e args s v u, (limb_1_1.after args s (.returned v) u = true ∧ limb_1_2.after args s (.returned v) u = true ∧ True) → FrameEnd s (.returned v) u (Jvm.fieldLocs frame_1_writes args s ++ Jvm.arrayLocs frame_1_arrays args s ++ Jvm.staticLocs frame_1_statics s) 16 128 → Post tb e args s (.returned v) u) :
    ArmFor flags0 classFile x code maxLocals ret World_1 tables_1 room_1 Calls_1 rest_1 Pre_1 Post := by
  intro l hfl _ _ p e ha hc hk s m args below hf hA hF happ hP
  obtain ⟨hcalls, hrest, hpre⟩ := hP
  obtain ⟨-, -, -, hnamed, -, -, -, hat⟩ := (Spec.applies_iff hf).mp happ
  obtain ⟨hg, hn⟩ := and_e (Cond.before_iff.mp (show (Jvm.Cond.and given_1 narrow_1).before args s = true from hpre))
  obtain ⟨gg1, gg2⟩ := and_e hg
  obtain ⟨gg3, gg4⟩ := and_e gg2
  obtain ⟨w0, w1, rfl⟩ : ∃ w0 w1 : Value, args = #[w0, w1] := by
    have hs : args.size = 2 := by simpa [Cond.value, given_1] using gg1
    obtain ⟨L⟩ := args
    match L, hs with
    | [w0, w1], _ => exact ⟨w0, w1, rfl⟩
  have hw := fun d (hd : d ∈ tables_1) => atoms_spec (ws := Jvm.Cond.code x code maxLocals ret :: tables_1) hat d (List.mem_cons_of_mem _ hd)
  obtain ⟨i0, ei0⟩ := is_v gg3
  obtain rfl : w0 = (.int i0) := Option.some.inj ei0
  obtain ⟨i1, ei1⟩ := is_v gg4
  obtain rfl : w1 = (.int i1) := Option.some.inj ei1
  obtain ⟨n, o, h1, h2, h3, _, L, rfl, ⟨rfl, N⟩, hq⟩ := rm0 l s _ hw tables_1 i0 i1 s.heap s.heap.size (Nat.le_refl _) p e ha hc hk s m _ below hf ((Spec.applies_iff_loose hf).mp happ).1 ⟨rfl, State.Warmed39.refl s, rfl⟩ trivial
  refine ⟨n, _, h1, h2, h3, hpost _ _ _ _ _ _ ⟨Cond.after_iff.mpr rfl, Cond.after_iff.mpr (eq_i res_at (Term.int_eval (1)) (congrArg Value.int (own_law i0 i1))), trivial⟩ ⟨hq.1, hq.2.1, (hq.2.2.sift fun y hy => Or.inr (N y hy)).mono (by decide) (by decide)⟩⟩
theorem main_1_1 : Claimed_1_1 := comes_1 fun _ _ _ _ _ _ h hF => ⟨h.1, hF⟩
theorem main_1_2 : Claimed_1_2 := comes_1 fun _ _ _ _ _ _ h hF => ⟨h.2.1, hF⟩
end Jvm.Pilot.@@N@@
namespace Jvm.Pilot.@@N@@
open Jvm Jvm.ClassFile Sem Op Lib Jvm.Free Jvm.Stand Jvm.Pilot.@@N@@.Jvm.D
/-! MADE BY PROGRAM (witnessworld.py) out of the Statement's table words and the real class files: 9 classes; the members and pool entries that the words name. The judged class is class 1, her method 2. -/
namespace start1
open Jvm.ClassFile
def u (s : String) : CpInfo := .utf8 (stringToUtf16 s)
/-- a pool by its gaps: so many unusable entries, then the entry; so many at the end -/
def gap : Nat → List CpInfo → List CpInfo
  | 0, r => r
  | n + 1, r => .unusable :: gap n r
def poolList (es : List (Nat × CpInfo)) (last : Nat) : List CpInfo := es.foldr (fun e r => gap e.1 (e.2 :: r)) (gap last [])
def pool (es : List (Nat × CpInfo)) (last : Nat) : Array CpInfo := ⟨poolList es last⟩
def fileOf (pool : Array CpInfo) (this : Nat) (attrs : Array Attribute := #[]) (ms : Array MethodInfo := #[]) (fl : Nat := 33) (sup : Nat := 0) (ifs : Array Nat := #[]) (fds : Array FieldInfo := #[]) : ClassFile where
  minorVersion := 0
  majorVersion := 65
  constantPool := pool
  accessFlags := fl
  thisClass := this
  superClass := sup
  interfaces := ifs
  fields := fds
  methods := ms
  attributes := attrs
def plain (name : String) (sup : Option ClassId) : Class where
  name := name
  kind := .ordinary
  loader := none
  accessFlags := 33
  super := sup
  interfaces := #[]
  cf := none
  fields := #[]
  methods := #[]
  instanceTypes := #[]
  staticTypes := #[]
  resolved := #[]
  callSites := []
  init := .initialized
  statics := none
  mirror := none

def pool0 : Array CpInfo := pool [(5, u "<init>"), (0, u "()V"), (1, .class_ 10), (1, u "java/lang/Object")] 113

def k0m0 : Method := { name := "<init>", desc := "()V", sig := { parameters := [], returnType := none }, accessFlags := 1, code := none }
/-- java/lang/Object -/
def k0 : Class := { plain "java/lang/Object" none with
  accessFlags := 33
  interfaces := #[]
  cf := some (fileOf pool0 8 #[] #[{ accessFlags := 1, nameIndex := 5, descriptorIndex := 6, attributes := #[] }] 33 0 #[] #[])
  fields := #[]
  methods := #[k0m0]
  instanceTypes := #[]
  staticTypes := #[]
  resolved := Array.replicate 124 none
  statics := none }

def pool1 : Array CpInfo := pool [(2, .class_ 4), (1, u "java/lang/Object"), (0, u "<init>"), (0, u "()V"), (0, .integer 2147483647), (0, .methodref 9 10), (0, .class_ 11), (0, .nameAndType 12 13), (0, u "com/example/amberwire/amberwire/XmlCharactersIsNamePartPinLaw"), (0, u "in"), (0, u "(III)Z"), (0, .methodref 15 16), (0, .class_ 17), (0, .nameAndType 18 19), (0, u "com/example/amberwire/amberwire/XmlCharacters"), (0, u "isNamePart"), (0, u "(I)Z"), (0, .methodref 15 21), (0, .nameAndType 22 19), (0, u "isNameStart"), (0, .methodref 15 24), (0, .nameAndType 25 19), (0, u "isCharacter"), (3, u "law"), (0, u "(II)Z")] 4

def k1m0 : Method := { name := "<init>", desc := "()V", sig := { parameters := [], returnType := none }, accessFlags := 1, code := none }
def k1c1 : Code := { maxStack := 6, maxLocals := 5, code := method_2_code, exceptionTable := #[], attributes := #[] }
def k1m1 : Method := { name := "in", desc := "(III)Z", sig := { parameters := [.int, .int, .int], returnType := some .boolean }, accessFlags := 10, code := some k1c1 }
def k1c2 : Code := { maxStack := 4, maxLocals := 6, code := code, exceptionTable := #[], attributes := #[] }
def k1m2 : Method := { name := "law", desc := "(II)Z", sig := { parameters := [.int, .int], returnType := some .boolean }, accessFlags := 9, code := some k1c2 }
/-- com/example/amberwire/amberwire/XmlCharactersIsNamePartPinLaw -/
def k1 : Class := { plain "com/example/amberwire/amberwire/XmlCharactersIsNamePartPinLaw" (some 0) with
  accessFlags := 49
  interfaces := #[]
  cf := some (fileOf pool1 9 #[] #[{ accessFlags := 1, nameIndex := 5, descriptorIndex := 6, attributes := #[] }, { accessFlags := 10, nameIndex := 12, descriptorIndex := 13, attributes := #[] }, { accessFlags := 9, nameIndex := 29, descriptorIndex := 30, attributes := #[] }] 49 2 #[] #[])
  fields := #[]
  methods := #[k1m0, k1m1, k1m2]
  instanceTypes := #[]
  staticTypes := #[]
  resolved := Array.replicate 35 none
  statics := none }

def pool2 : Array CpInfo := pool [(2, .class_ 4), (1, u "java/lang/Object"), (0, u "<init>"), (0, u "()V"), (0, .integer 55295), (0, .integer 57344), (0, .integer 65533), (0, .integer 65536), (2, .integer 1114111), (11, .class_ 27), (1, u "com/example/amberwire/amberwire/XmlCharacters"), (0, u "isCharacter"), (0, u "(I)Z"), (27, .integer 63744), (0, .integer 64975), (0, .integer 65008), (0, .integer 983039), (0, u "REPLACEMENT"), (0, u "I"), (9, u "isNameStart"), (0, u "isNamePart")] 2

def k2m0 : Method := { name := "<init>", desc := "()V", sig := { parameters := [], returnType := none }, accessFlags := 2, code := none }
def k2c1 : Code := { maxStack := 2, maxLocals := 1, code := prog_140_method_2_code, exceptionTable := #[], attributes := #[] }
def k2m1 : Method := { name := "isCharacter", desc := "(I)Z", sig := { parameters := [.int], returnType := some .boolean }, accessFlags := 8, code := some k2c1 }
def k2c2 : Code := { maxStack := 2, maxLocals := 1, code := prog_140_method_7_code, exceptionTable := #[], attributes := #[] }
def k2m2 : Method := { name := "isNameStart", desc := "(I)Z", sig := { parameters := [.int], returnType := some .boolean }, accessFlags := 8, code := some k2c2 }
def k2c3 : Code := { maxStack := 2, maxLocals := 1, code := prog_140_method_8_code, exceptionTable := #[], attributes := #[] }
def k2m3 : Method := { name := "isNamePart", desc := "(I)Z", sig := { parameters := [.int], returnType := some .boolean }, accessFlags := 8, code := some k2c3 }
/-- com/example/amberwire/amberwire/XmlCharacters -/
def k2 : Class := { plain "com/example/amberwire/amberwire/XmlCharacters" (some 0) with
  accessFlags := 48
  interfaces := #[]
  cf := some (fileOf pool2 25 #[] #[{ accessFlags := 2, nameIndex := 5, descriptorIndex := 6, attributes := #[] }, { accessFlags := 8, nameIndex := 28, descriptorIndex := 29, attributes := #[] }, { accessFlags := 8, nameIndex := 72, descriptorIndex := 29, attributes := #[] }, { accessFlags := 8, nameIndex := 73, descriptorIndex := 29, attributes := #[] }] 48 2 #[] #[{ accessFlags := 26, nameIndex := 61, descriptorIndex := 62, attributes := #[] }])
  fields := #[{ name := "REPLACEMENT", type := .int, accessFlags := 26, slot := 0, constantValue := 0 }]
  methods := #[k2m0, k2m1, k2m2, k2m3]
  instanceTypes := #[]
  staticTypes := #[.int]
  resolved := Array.replicate 76 none
  statics := none }

def pool3 : Array CpInfo := pool [(1, u "java/lang/Cloneable"), (0, .class_ 1), (0, u "java/lang/Object"), (0, .class_ 3)] 3

/-- java/lang/Cloneable -/
def k3 : Class := { plain "java/lang/Cloneable" (some 0) with
  accessFlags := 1537
  interfaces := #[]
  cf := some (fileOf pool3 2 #[] #[] 1537 4 #[] #[])
  fields := #[]
  methods := #[]
  instanceTypes := #[]
  staticTypes := #[]
  resolved := Array.replicate 8 none
  statics := none }

def pool4 : Array CpInfo := pool [(1, u "java/io/Serializable"), (0, .class_ 1), (0, u "java/lang/Object"), (0, .class_ 3)] 3

/-- java/io/Serializable -/
def k4 : Class := { plain "java/io/Serializable" (some 0) with
  accessFlags := 1537
  interfaces := #[]
  cf := some (fileOf pool4 2 #[] #[] 1537 4 #[] #[])
  fields := #[]
  methods := #[]
  instanceTypes := #[]
  staticTypes := #[]
  resolved := Array.replicate 8 none
  statics := none }

/-- the primitive byte -/
def k5 : Class := { plain "byte" none with kind := .primitive 'B', accessFlags := 0x411 }
/-- [B -/
def k6 : Class := { plain "[B" (some 0) with kind := .array 5 .byte, interfaces := #[3, 4], accessFlags := 1041 }

/-- the primitive int -/
def k7 : Class := { plain "int" none with kind := .primitive 'I', accessFlags := 0x411 }
/-- [I -/
def k8 : Class := { plain "[I" (some 0) with kind := .array 7 .int, interfaces := #[3, 4], accessFlags := 1041 }

def heap : Heap := #[]
def classes : Array Class := #[k0, k1, k2, k3, k4, k5, k6, k7, k8]
def interned : List (Array UInt16 × Addr) := []
def slotsUsed : Nat := 0
def theMethod : MethodId := ⟨1, 2⟩
def args0 : Array Value := #[.int 5, .int 7]
def aboutOver (below : List Frame) : State where
  vm := { classes := classes, interned := interned.toArray }
  heap := heap
  slotsUsed := slotsUsed
  threads := #[{ frames := .invoking theMethod args0 :: below }]
def below0 : List Frame := [.native { method := ⟨0, 0⟩, args := #[] }]
def about1 : State := aboutOver below0
def p0 : Program := .bare "" "" ""
def e0 : Env := launch0.env 0 0 0
theorem w_frames : about1.frames = Frame.invoking theMethod args0 :: below0 := rfl
set_option maxRecDepth 65536 in
theorem w_args : argsFit about1.vm theMethod args0 = true := by decide +kernel
set_option maxRecDepth 65536 in
theorem w_heap : heapFits about1 = true := by decide +kernel
set_option maxRecDepth 65536 in
theorem w_runnable : about1.curStatus? = some .runnable := by decide +kernel
set_option maxRecDepth 65536 in
theorem w_alone : about1.alone = true := by decide +kernel
set_option maxRecDepth 65536 in
theorem w_named : about1.methodNamed? x = some theMethod := by decide +kernel
set_option maxRecDepth 65536 in
theorem w_hears : about1.hears theMethod below0 = true := by decide +kernel
set_option maxRecDepth 65536 in
theorem w_ripe : about1.ripe theMethod args0 below0 = true := by decide +kernel
theorem w_running : about1.status = .running := rfl
set_option maxRecDepth 65536 in
theorem w_room : about1.hasRoom e0.platform room_1 = true :=
  launch0.hasRoom_least _ room_1 (by decide +kernel) (by decide +kernel) (by decide +kernel) (by decide +kernel) (by decide +kernel) (by decide +kernel)
theorem allAtoms_all (ts : List Jvm.Cond) (a : Array Jvm.Value) (st : Jvm.State) : (allAtoms ts).before a st = ts.all (fun c => c.before a st) := by
  induction ts with
  | nil => rfl
  | cons c t ih =>
    show (Jvm.Cond.and c (allAtoms t)).before a st = _
    rw [Jvm.Cond.before_and, ih, List.all_cons]
def words1 : List Jvm.Cond := Jvm.Cond.code x code maxLocals ret :: tables_1
/-- a 'code' word, met by the world's own term for the bytes: nothing is compared byte by byte -/
theorem code_word {y : MethodName} {bytes : ByteArray} {mx : Nat} {rt : Option FieldType} {a : Array Value} {s : State} {m : MethodId} {meth : Method} {c : Code} (h1 : s.methodNamed? y = some m) (h2 : s.vm.method? m = some meth) (h3 : meth.code = some c) (h4 : c.code = bytes)
    (h5 : (c.maxLocals == mx && c.exceptionTable.isEmpty && decide (c.maxStack ≤ mostOperands) && decide (meth.sig.returnType = rt) && !meth.locks && decide (parseMethodDescriptor y.desc = some meth.sig)) = true) : (Jvm.Cond.code y bytes mx rt).before a s = true := by
  simp only [Bool.and_eq_true, beq_iff_eq, Bool.not_eq_true', decide_eq_true_eq] at h5
  obtain ⟨⟨⟨⟨⟨g1, g2⟩, g3⟩, g4⟩, g5⟩, g6⟩ := h5
  simp [Cond.before, Cond.holds, Cond.value, h1, h2, h3, h4, g1, g2, g3, g4, g5, g6]
def isCode : Jvm.Cond → Bool
  | .code _ _ _ _ => true
  | _ => false
theorem all_split {L : List Jvm.Cond} {P : Jvm.Cond → Bool} (h1 : L.all (fun c => isCode c || P c) = true) (h2 : ∀ c ∈ L.filter isCode, P c = true) : L.all P = true := by
  refine List.all_eq_true.mpr fun c hc => ?_
  have h := List.all_eq_true.mp h1 c hc
  rcases Bool.eq_false_or_eq_true (isCode c) with hi | hi
  · exact h2 c (List.mem_filter.mpr ⟨hc, hi⟩)
  · simpa [hi] using h
set_option maxRecDepth 65536 in
theorem w_c0 : (Jvm.Cond.code x code maxLocals ret).before args0 about1 = true := code_word (m := ⟨1, 2⟩) (meth := k1m2) (c := k1c2) (by decide +kernel) rfl rfl rfl (by decide +kernel)
set_option maxRecDepth 65536 in
theorem w_c1 : (Jvm.Cond.code ({ cls := "com/example/amberwire/amberwire/XmlCharactersIsNamePartPinLaw", name := "in", desc := "(III)Z" } : Jvm.MethodName) method_2_code (5 : Nat) (Option.some Jvm.ClassFile.FieldType.boolean)).before args0 about1 = true := code_word (m := ⟨1, 1⟩) (meth := k1m1) (c := k1c1) (by decide +kernel) rfl rfl rfl (by decide +kernel)
set_option maxRecDepth 65536 in
theorem w_c2 : (Jvm.Cond.code ({ cls := "com/example/amberwire/amberwire/XmlCharacters", name := "isNamePart", desc := "(I)Z" } : Jvm.MethodName) prog_140_method_8_code (1 : Nat) (Option.some Jvm.ClassFile.FieldType.boolean)).before args0 about1 = true := code_word (m := ⟨2, 3⟩) (meth := k2m3) (c := k2c3) (by decide +kernel) rfl rfl rfl (by decide +kernel)
set_option maxRecDepth 65536 in
theorem w_c3 : (Jvm.Cond.code ({ cls := "com/example/amberwire/amberwire/XmlCharacters", name := "isNameStart", desc := "(I)Z" } : Jvm.MethodName) prog_140_method_7_code (1 : Nat) (Option.some Jvm.ClassFile.FieldType.boolean)).before args0 about1 = true := code_word (m := ⟨2, 2⟩) (meth := k2m2) (c := k2c2) (by decide +kernel) rfl rfl rfl (by decide +kernel)
set_option maxRecDepth 65536 in
theorem w_c4 : (Jvm.Cond.code ({ cls := "com/example/amberwire/amberwire/XmlCharacters", name := "isCharacter", desc := "(I)Z" } : Jvm.MethodName) prog_140_method_2_code (1 : Nat) (Option.some Jvm.ClassFile.FieldType.boolean)).before args0 about1 = true := code_word (m := ⟨2, 1⟩) (meth := k2m1) (c := k2c1) (by decide +kernel) rfl rfl rfl (by decide +kernel)
def codes1 : List Jvm.Cond := [Jvm.Cond.code x code maxLocals ret, Jvm.Cond.code ({ cls := "com/example/amberwire/amberwire/XmlCharactersIsNamePartPinLaw", name := "in", desc := "(III)Z" } : Jvm.MethodName) method_2_code (5 : Nat) (Option.some Jvm.ClassFile.FieldType.boolean), Jvm.Cond.code ({ cls := "com/example/amberwire/amberwire/XmlCharacters", name := "isNamePart", desc := "(I)Z" } : Jvm.MethodName) prog_140_method_8_code (1 : Nat) (Option.some Jvm.ClassFile.FieldType.boolean), Jvm.Cond.code ({ cls := "com/example/amberwire/amberwire/XmlCharacters", name := "isNameStart", desc := "(I)Z" } : Jvm.MethodName) prog_140_method_7_code (1 : Nat) (Option.some Jvm.ClassFile.FieldType.boolean), Jvm.Cond.code ({ cls := "com/example/amberwire/amberwire/XmlCharacters", name := "isCharacter", desc := "(I)Z" } : Jvm.MethodName) prog_140_method_2_code (1 : Nat) (Option.some Jvm.ClassFile.FieldType.boolean)]
set_option maxRecDepth 65536 in
theorem codes_eq : words1.filter isCode = codes1 := rfl
theorem w_codes : ∀ c ∈ words1.filter isCode, c.before args0 about1 = true := by
  rw [codes_eq]
  intro c hc
  simp only [codes1, List.mem_cons, List.not_mem_nil, or_false] at hc
  rcases hc with rfl | rfl | rfl | rfl | rfl
  · exact w_c0
  · exact w_c1
  · exact w_c2
  · exact w_c3
  · exact w_c4
set_option maxRecDepth 65536 in
theorem w_t1 : (words1.take 24).all (fun c => isCode c || c.before args0 about1) = true := by decide +kernel
set_option maxRecDepth 65536 in
theorem w_t2 : (words1.drop 24).all (fun c => isCode c || c.before args0 about1) = true := by decide +kernel
theorem w_tables : (allAtoms (Jvm.Cond.code x code maxLocals ret :: tables_1)).before args0 about1 = true := by
  rw [allAtoms_all]
  show words1.all (fun c => c.before args0 about1) = true
  refine all_split ?_ w_codes
  rw [← List.take_append_drop 24 words1, List.all_append, w_t1, w_t2]
  rfl
set_option maxRecDepth 65536 in
theorem w_case : (Jvm.Cond.and given_1 narrow_1).before args0 about1 = true := by decide +kernel
theorem w_applies : (headSpec (Jvm.Cond.code x code maxLocals ret :: tables_1) room_1).applies x e0.platform about1 = true :=
  (Spec.applies_iff w_frames).mpr ⟨w_running, w_runnable, w_alone, w_named, w_hears, w_ripe, w_room, w_tables⟩
theorem atStart : AtStart classFile x code maxLocals ret World_1 tables_1 room_1 Calls_1 rest_1 Pre_1 launch0 p0 e0 about1 theMethod args0 below0 :=
  ⟨lists_1, trivial, launch0.admits_env _ _ _, launch0.least_env, fairChoices_fair.cas, fairChoices_fair.clock, w_frames, w_args, w_heap, w_applies, trivial, trivial, w_case⟩
end start1
theorem witness_1 : WitnessClaimed_1 := ⟨start1.p0, start1.e0, start1.about1, start1.theMethod, start1.args0, start1.below0, start1.atStart⟩
end Jvm.Pilot.@@N@@
