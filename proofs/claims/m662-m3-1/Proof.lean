import JvmDerived
import JvmDerived.Pilot.@@N@@Statement
import JvmDerived.Pilot.@@N@@Code
set_option linter.unusedVariables false
set_option linter.unusedSimpArgs false
namespace Jvm.RoadKit
open Sem ClassFile Op Lib Jvm.Stand Jvm.Free Jvm.LawKit
section New
variable {p : Program} {l : Launch} {e : Env} {R : Room} {s : State} {m : MethodId} {args : Array Value} {below : List Frame} {meth : Method} {c : Code} {T : State} {locs : List Loc} {cells slots : Nat}
theorem retI (X : Stand p l e R s m args below meth c T locs cells slots) (hx : p.tables.exec = Jvm.exec) {pc : Nat} {Ls : Array Slot} {z : Int32} {rest : List Value} (hret : meth.sig.returnType = some .int) (hd : decode c.code pc = .ok (.ireturn, 1)) {fs : List Frame}
    (hl : ∀ (f : JFrame) (acts : List Action), f.method = m → f.locked = none → f.entered = [] → (doReturn e (T.setTop f) acts (some (.int z))).1 = T.setFrames fs) : Steps p.tables e below (T.setTop (mkF m pc Ls (.int z :: rest))) (T.setFrames fs) := by
  have hm' : T.vm.method? m = some meth := X.method'
  have hn : narrow .int (.int z) = .int z := rfl
  show Steps p.tables e below (T.setTop { method := m, pc := pc, locals := Ls, stack := _ :: rest, locked := none }) _
  jvm_step X.here [X.here.top, hx, hd, hm', hret, hn]
  first | (intro acts; rw [hl _ acts rfl rfl rfl]) | rw [hl _ _ rfl rfl rfl]
  exact Steps.refl _
end New
end Jvm.RoadKit
namespace Jvm.Pilot.@@N@@
open Jvm Jvm.ClassFile Sem Op Lib Jvm.Free Jvm.Stand Jvm.LawKit Jvm.RoadKit Bundle Jvm.Pilot.@@N@@.Jvm.D
/-! 0. what is still to be walked, as one predicate: from A the invocation comes to its end, and Q says how it ends -/
def own_Fin (p : Program) (e : Env) (below : List Frame) (s : State) (Q : Option Value → Heap → List Loc → Prop) (k n : Nat) (A : State) : Prop :=
  ∃ s₂ o, Steps p.tables e below A s₂ ∧ s₂.status = .running ∧ Ended s₂ below o ∧ ∃ v L, o = .returned v ∧ Q v s₂.heap L ∧ FrameEnd s o s₂ L k n
section Own
variable {p : Program} {l : Launch} {e : Env} {R : Room} {s : State} {m : MethodId} {args : Array Value} {below : List Frame} {meth : Method} {c : Code} {T : State} {locs : List Loc} {cells slots k n : Nat} {Q : Option Value → Heap → List Loc → Prop} {A B : State}
theorem own_pre (h : ∀ t, Steps p.tables e below B t → Steps p.tables e below A t) (q : own_Fin p e below s Q k n B) : own_Fin p e below s Q k n A := by
  obtain ⟨s₂, o, h1, h2⟩ := q; exact ⟨s₂, o, h _ h1, h2⟩
theorem own_retZ (X : Stand p l e R s m args below meth c T locs cells slots) (hx : p.tables.exec = Jvm.exec) (hlk : meth.locks = false) {pc : Nat} {Ls : Array Slot} {z : Int32} {rest : List Value} (hret : meth.sig.returnType = some .boolean) (hd : decode c.code pc = .ok (.ireturn, 1))
    (hQ : Q (some (.int (z &&& 1))) T.heap locs) (hk : cells ≤ k) (hn : slots ≤ n) : own_Fin p e below s Q k n (T.setTop (mkF m pc Ls (.int z :: rest))) := by
  obtain ⟨fs, hr, hrun, hended, hW, hsame⟩ := X.leave (v := some (.int (z &&& 1))) (fun h => by rw [hret] at h; cases h) hlk
  exact ⟨_, _, retN X hx (t := .boolean) hret (by simp) hd hr, hrun, hended, _, _, rfl, hQ, ⟨_, rfl⟩, hW, hsame.mono hk hn⟩
theorem own_retI (X : Stand p l e R s m args below meth c T locs cells slots) (hx : p.tables.exec = Jvm.exec) (hlk : meth.locks = false) {pc : Nat} {Ls : Array Slot} {z : Int32} {rest : List Value} (hret : meth.sig.returnType = some .int) (hd : decode c.code pc = .ok (.ireturn, 1))
    (hQ : Q (some (.int z)) T.heap locs) (hk : cells ≤ k) (hn : slots ≤ n) : own_Fin p e below s Q k n (T.setTop (mkF m pc Ls (.int z :: rest))) := by
  obtain ⟨fs, hr, hrun, hended, hW, hsame⟩ := X.leave (v := some (.int z)) (fun h => by rw [hret] at h; cases h) hlk
  exact ⟨_, _, retI X hx hret hd hr, hrun, hended, _, _, rfl, hQ, ⟨_, rfl⟩, hW, hsame.mono hk hn⟩
theorem own_retJ (X : Stand p l e R s m args below meth c T locs cells slots) (hx : p.tables.exec = Jvm.exec) (hlk : meth.locks = false) {pc : Nat} {Ls : Array Slot} {z : Int64} (hret : meth.sig.returnType = some .long) (hd : decode c.code pc = .ok (.lreturn, 1))
    (hQ : Q (some (.long z)) T.heap locs) (hk : cells ≤ k) (hn : slots ≤ n) : own_Fin p e below s Q k n (T.setTop (mkF m pc Ls [.long z])) := by
  obtain ⟨fs, hr, hrun, hended, hW, hsame⟩ := X.leave (v := some (.long z)) (fun h => by rw [hret] at h; cases h) hlk
  exact ⟨_, _, X.lreturnOut hx hret hd hr, hrun, hended, _, _, rfl, hQ, ⟨_, rfl⟩, hW, hsame.mono hk hn⟩
theorem own_retV (X : Stand p l e R s m args below meth c T locs cells slots) (hx : p.tables.exec = Jvm.exec) (hlk : meth.locks = false) {pc : Nat} {Ls : Array Slot} (hret : meth.sig.returnType = none) (hd : decode c.code pc = .ok (.return_, 1))
    (hQ : Q none T.heap locs) (hk : cells ≤ k) (hn : slots ≤ n) : own_Fin p e below s Q k n (T.setTop (mkF m pc Ls [])) := by
  obtain ⟨fs, hr, hrun, hended, hW, hsame⟩ := X.leave (v := none) (fun _ => rfl) hlk
  exact ⟨_, _, X.returnOut hx hret hd hr, hrun, hended, _, _, rfl, hQ, ⟨_, rfl⟩, hW, hsame.mono hk hn⟩
theorem own_at {v : Option Value} {h h' : Heap} {L : List Loc} (e : h' = h) (q : Q v h L) : Q v h' L := e ▸ q
theorem own_someI {r z : Int32} (h : r = z) : some (Value.int z) = some (Value.int r) := by rw [h]
theorem own_someJ {r z : Int64} (h : r = z) : some (Value.long z) = some (Value.long r) := by rw [h]
end Own
theorem own_ld {p : Program} {l : Launch} {e : Env} {R : Room} {s : State} {m : MethodId} {args : Array Value} {below : List Frame} {meth : Method} {c : Code} {T : State} {locs : List Loc} {cells slots : Nat} {Z : State} {h : Heap} {a : Addr} {k : ClassId} {z : Int32} {vs : List Value}
    (X : Stand p l e R s m args below meth c T locs cells slots) (hx : p.tables.exec = Jvm.exec) (hZ : Z.Warmed39 s.vm) (eT : T.heap = h) (F : Arv Z h a k .int z vs (.int 0)) {j v : Int32} (hj : ¬ j < 0 ∧ j < z) (hv : vs.getD j.toNatClampNeg (.int 0) = .int v) {g : JFrame} (hg : g.method = m) {rest : List Value} (hs : g.stack = .int j :: .ref a :: rest) (hd : decode c.code g.pc = .ok (.iaload, 1)) :
    ∀ t, Steps p.tables e below (T.setTop { g with pc := g.pc + 1, stack := .int v :: rest }) t → Steps p.tables e below (T.setTop g) t := by
  obtain ⟨cl, A, -, S, N, H, -⟩ := F
  have hin := inb_of (j := j) S hj
  exact X.iaload hx (by rw [eT]; exact A.1) (State.isArrayOf_alike hZ.alike A.2.1) A.2.2 hin (Has.at H hin hv) hg hs hd
theorem own_st {p : Program} {l : Launch} {e : Env} {R : Room} {s : State} {m : MethodId} {args : Array Value} {below : List Frame} {meth : Method} {c : Code} {T : State} {locs : List Loc} {cells slots : Nat} {Z : State} {h : Heap} {a : Addr} {k : ClassId} {z : Int32} {vs : List Value}
    (X : Stand p l e R s m args below meth c T locs cells slots) (hx : p.tables.exec = Jvm.exec) (hZ : Z.Warmed39 s.vm) (eT : T.heap = h) (F : Arv Z h a k .int z vs (.int 0)) {j x : Int32} (hj : ¬ j < 0 ∧ j < z) (i : Nat) (hi : j.toNatClampNeg = i) (hl : i < vs.length) {g : JFrame} (hg : g.method = m) {rest : List Value} (hs : g.stack = .int x :: .int j :: .ref a :: rest) (hd : decode c.code g.pc = .ok (.iastore, 1)) :
    ∃ T' h', Stand p l e R s m args below meth c T' (locs ++ [⟨a, j.toNatClampNeg⟩]) cells slots ∧ T'.heap = h' ∧ Wr h h' a j.toNatClampNeg (.int x) ∧ Arv Z h' a k .int z (vs.set i (.int x)) (.int 0) ∧ ∀ t, Steps p.tables e below (T'.setTop { g with pc := g.pc + 1, stack := rest }) t → Steps p.tables e below (T.setTop g) t := by
  obtain ⟨cl, A, q, S, N, H, G⟩ := F
  obtain ⟨T', h', X', e', W, st⟩ := stI X hx hZ eT A (j := j) (x := x) (inb_of S hj) hg hs hd
  exact ⟨T', h', X', e', W, Arv.set A q S N H G rfl W i hi hl, st⟩
theorem own_getD (L : List Int32) (n : Nat) : (L.map Value.int).getD n (.int 0) = .int (L.getD n 0) := by
  simp only [List.getD_eq_getElem?_getD, List.getElem?_map]
  cases L[n]? <;> rfl
def own_base (j : Int32) : Int32 := ([(0 : Int32), (9 : Int32), (32 : Int32), (55296 : Int32), (57344 : Int32), (65534 : Int32), (1114112 : Int32), (-2147483648 : Int32), (2147483639 : Int32), (1114111 : Int32), (65536 : Int32)] : List Int32).getD j.toNatClampNeg 0
theorem own_base_at (j : Int32) : ([.int (0 : Int32), .int (9 : Int32), .int (32 : Int32), .int (55296 : Int32), .int (57344 : Int32), .int (65534 : Int32), .int (1114112 : Int32), .int (-2147483648 : Int32), .int (2147483639 : Int32), .int (1114111 : Int32), .int (65536 : Int32)] : List Value).getD j.toNatClampNeg (.int (0 : Int32)) = .int (own_base j) := own_getD [(0 : Int32), (9 : Int32), (32 : Int32), (55296 : Int32), (57344 : Int32), (65534 : Int32), (1114112 : Int32), (-2147483648 : Int32), (2147483639 : Int32), (1114111 : Int32), (65536 : Int32)] _
theorem own_idx (p : Int32) (h : ¬ (p &&& (2147483647 : Int32)) % (12 : Int32) = 11) : ¬ (p &&& (2147483647 : Int32)) % (12 : Int32) < 0 ∧ (p &&& (2147483647 : Int32)) % (12 : Int32) < 11 := by
  have h1 := c_mask p 2147483647 31 (by decide) (by decide)
  have h2 := c_irem (p &&& 2147483647) 12 12 rfl
  have h3 : ¬ ((p &&& (2147483647 : Int32)) % (12 : Int32)).toInt = 11 := fun q => h (Int32.toInt_inj.mp q)
  rw [Int32.lt_iff_toInt_lt, Int32.lt_iff_toInt_lt, show (0 : Int32).toInt = 0 from rfl, show (11 : Int32).toInt = 11 from rfl]
  omega
/-! body 1 -/
theorem d1_0 : decode prog_140_method_2_code 0 = .ok (.iload_n 0, 1) := by decide +kernel
theorem d1_1 : decode prog_140_method_2_code 1 = .ok (.bipush 32, 2) := by decide +kernel
theorem d1_3 : decode prog_140_method_2_code 3 = .ok (.if_icmp .lt 9, 3) := by decide +kernel
theorem d1_6 : decode prog_140_method_2_code 6 = .ok (.iload_n 0, 1) := by decide +kernel
theorem d1_7 : decode prog_140_method_2_code 7 = .ok (.ldc 7, 2) := by decide +kernel
theorem d1_9 : decode prog_140_method_2_code 9 = .ok (.if_icmp .le 45, 3) := by decide +kernel
theorem d1_12 : decode prog_140_method_2_code 12 = .ok (.iload_n 0, 1) := by decide +kernel
theorem d1_13 : decode prog_140_method_2_code 13 = .ok (.bipush 9, 2) := by decide +kernel
theorem d1_15 : decode prog_140_method_2_code 15 = .ok (.if_icmp .eq 39, 3) := by decide +kernel
theorem d1_18 : decode prog_140_method_2_code 18 = .ok (.iload_n 0, 1) := by decide +kernel
theorem d1_19 : decode prog_140_method_2_code 19 = .ok (.bipush 10, 2) := by decide +kernel
theorem d1_21 : decode prog_140_method_2_code 21 = .ok (.if_icmp .eq 33, 3) := by decide +kernel
theorem d1_24 : decode prog_140_method_2_code 24 = .ok (.iload_n 0, 1) := by decide +kernel
theorem d1_25 : decode prog_140_method_2_code 25 = .ok (.bipush 13, 2) := by decide +kernel
theorem d1_27 : decode prog_140_method_2_code 27 = .ok (.if_icmp .eq 27, 3) := by decide +kernel
theorem d1_30 : decode prog_140_method_2_code 30 = .ok (.iload_n 0, 1) := by decide +kernel
theorem d1_31 : decode prog_140_method_2_code 31 = .ok (.ldc 8, 2) := by decide +kernel
theorem d1_33 : decode prog_140_method_2_code 33 = .ok (.if_icmp .lt 9, 3) := by decide +kernel
theorem d1_36 : decode prog_140_method_2_code 36 = .ok (.iload_n 0, 1) := by decide +kernel
theorem d1_37 : decode prog_140_method_2_code 37 = .ok (.ldc 9, 2) := by decide +kernel
theorem d1_39 : decode prog_140_method_2_code 39 = .ok (.if_icmp .le 15, 3) := by decide +kernel
theorem d1_42 : decode prog_140_method_2_code 42 = .ok (.iload_n 0, 1) := by decide +kernel
theorem d1_43 : decode prog_140_method_2_code 43 = .ok (.ldc 10, 2) := by decide +kernel
theorem d1_45 : decode prog_140_method_2_code 45 = .ok (.if_icmp .lt 13, 3) := by decide +kernel
theorem d1_48 : decode prog_140_method_2_code 48 = .ok (.iload_n 0, 1) := by decide +kernel
theorem d1_49 : decode prog_140_method_2_code 49 = .ok (.ldc 13, 2) := by decide +kernel
theorem d1_51 : decode prog_140_method_2_code 51 = .ok (.if_icmp .gt 7, 3) := by decide +kernel
theorem d1_54 : decode prog_140_method_2_code 54 = .ok (.iconst 1, 1) := by decide +kernel
theorem d1_55 : decode prog_140_method_2_code 55 = .ok (.goto 4, 3) := by decide +kernel
theorem d1_58 : decode prog_140_method_2_code 58 = .ok (.iconst 0, 1) := by decide +kernel
theorem d1_59 : decode prog_140_method_2_code 59 = .ok (.ireturn, 1) := by decide +kernel
theorem pn_1 : plainName "com/example/amberwire/amberwire/XmlCharacters" = true := by first | (simp [plainName, overriddenIn]; done) | decide +kernel
theorem ef_1 (m : MethodId) (p0 : Int32) : entryFrame m #[(.int p0)] 1 = mkF m 0 #[.val (.int p0)] [] := by first | (simp [entryFrame, mkF, argsToLocals, Value.category]; done) | rfl
def f1_59 (p0 : Int32) (t0 : Int32) : Int32 := (t0 &&& 1)
def f1_58 (p0 : Int32) : Int32 := (f1_59 p0 (0 : Int32))
def f1_54 (p0 : Int32) : Int32 := (f1_59 p0 (1 : Int32))
def f1_42 (p0 : Int32) : Int32 := (if p0 < (65536 : Int32) then (f1_58 p0) else (if (1114111 : Int32) < p0 then (f1_58 p0) else (f1_54 p0)))
def f1_12 (p0 : Int32) : Int32 := (if p0 = (9 : Int32) then (f1_54 p0) else (if p0 = (10 : Int32) then (f1_54 p0) else (if p0 = (13 : Int32) then (f1_54 p0) else (if p0 < (57344 : Int32) then (f1_42 p0) else (if (65533 : Int32) < p0 then (f1_42 p0) else (f1_54 p0))))))
def f1_0 (p0 : Int32) : Int32 := (if p0 < (32 : Int32) then (f1_12 p0) else (if (55295 : Int32) < p0 then (f1_12 p0) else (f1_54 p0)))
def Q1 (p0 : Int32) (h0 : Heap) (n0 : Nat) (v : Option Value) (h : Heap) (L : List Loc) : Prop := v = some (.int (f1_0 p0)) ∧ Fr n0 L ∧ h = h0
set_option maxRecDepth 65536 in
set_option maxHeartbeats 40000000 in
theorem rm1 (l : Launch) (Z : State) (a0 : Array Value) (hw : ∀ d ∈ tables_1, d.before a0 Z = true) (ws : List Jvm.Cond) (p0 : Int32) (h0 : Heap) (n0 : Nat) (Z0 : n0 ≤ h0.size) :
    MetFree l (⟨"com/example/amberwire/amberwire/XmlCharacters", "isCharacter", "(I)Z"⟩ : MethodName) (head1 (Jvm.Cond.code (⟨"com/example/amberwire/amberwire/XmlCharacters", "isCharacter", "(I)Z"⟩ : MethodName) prog_140_method_2_code 1 (some .boolean) :: ws) ({ frames := 0, cells := 0, slots := 0, locals := 0 } : Room)) (fun a U => a = #[(.int p0)] ∧ Z.Warmed39 U.vm ∧ U.heap = h0) (fun _ _ _ _ _ => True) (fun _ U o U' => ∃ v L, o = .returned v ∧ Q1 p0 h0 n0 v U'.heap L ∧ FrameEnd U o U' L ({ frames := 0, cells := 0, slots := 0, locals := 0 } : Room).cells ({ frames := 0, cells := 0, slots := 0, locals := 0 } : Room).slots) := by
  refine MetFree.of_bodySF (plainFor_of_name pn_1) hisR ?_
  intro p e s m args below meth c s₁ Bd hml0 hP hK
  obtain ⟨rfl, hZ, hh⟩ := hP
  have hx := Bd.exec
  have hby := Bd.bytes
  have hml : c.maxLocals = 1 := hml0
  have hlk : meth.locks = false := BodyLoose.notSynchronized Bd
  have hown : s.vm.findClass "com/example/amberwire/amberwire/XmlCharacters" = some m.cls := findClass_of_methodNamed Bd.named
  have X0 : Stand p l e ({ frames := 0, cells := 0, slots := 0, locals := 0 } : Room) s m #[(.int p0)] below meth c s₁ [] 0 0 := Stand.of_body Bd
  have e0 : s₁.heap = h0 := by rw [← hh, Bd.state]; rfl
  have N0 := Fr.nil n0
  have Zs0 : n0 ≤ s₁.heap.size := by rw [e0]; exact Z0
  have pre0 : ∀ t, Steps p.tables e below (s₁.setTop (mkF m 0 #[.val (.int p0)] [])) t → Steps p.tables e below (s₁.setTop (entryFrame m #[(.int p0)] 1)) t := fun t k => castTop (ef_1 m p0) k
  have hnm := (name_of_methodNamed Bd.named Bd.method).1
  have g_59 : ∀ (T : State) (locs : List Loc) (X : Stand p l e ({ frames := 0, cells := 0, slots := 0, locals := 0 } : Room) s m #[(.int p0)] below meth c T locs 0 0) (eT : T.heap = h0) (N : Fr n0 locs) (t0 : Int32)  (r : Int32), r = f1_59 p0 t0 → own_Fin p e below s (fun v h L => v = some (.int r) ∧ Fr n0 L ∧ h = h0) ({ frames := 0, cells := 0, slots := 0, locals := 0 } : Room).cells ({ frames := 0, cells := 0, slots := 0, locals := 0 } : Room).slots (T.setTop (mkF m 59 #[.val (.int p0)] [(.int t0)])) := by
    intro T locs X eT N t0  r hr
    have hr : r = (t0 &&& 1) := hr
    exact own_retZ X hx hlk Bd.returns (hb hby d1_59) ⟨own_someI hr, N, eT⟩ (by decide) (by decide)
  have g_58 : ∀ (T : State) (locs : List Loc) (X : Stand p l e ({ frames := 0, cells := 0, slots := 0, locals := 0 } : Room) s m #[(.int p0)] below meth c T locs 0 0) (eT : T.heap = h0) (N : Fr n0 locs)   (r : Int32), r = f1_58 p0 → own_Fin p e below s (fun v h L => v = some (.int r) ∧ Fr n0 L ∧ h = h0) ({ frames := 0, cells := 0, slots := 0, locals := 0 } : Room).cells ({ frames := 0, cells := 0, slots := 0, locals := 0 } : Room).slots (T.setTop (mkF m 58 #[.val (.int p0)] [])) := by
    intro T locs X eT N   r hr
    have hr : r = (f1_59 p0 (0 : Int32)) := hr
    refine own_pre (B := T.setTop (mkF m 59 #[.val (.int p0)] [(.int (0 : Int32))])) (fun t k => XS.iconst X.here hx rfl (hb hby d1_58) k) ?_
    exact g_59 T _ X eT N (0 : Int32) _ hr
  have g_54 : ∀ (T : State) (locs : List Loc) (X : Stand p l e ({ frames := 0, cells := 0, slots := 0, locals := 0 } : Room) s m #[(.int p0)] below meth c T locs 0 0) (eT : T.heap = h0) (N : Fr n0 locs)   (r : Int32), r = f1_54 p0 → own_Fin p e below s (fun v h L => v = some (.int r) ∧ Fr n0 L ∧ h = h0) ({ frames := 0, cells := 0, slots := 0, locals := 0 } : Room).cells ({ frames := 0, cells := 0, slots := 0, locals := 0 } : Room).slots (T.setTop (mkF m 54 #[.val (.int p0)] [])) := by
    intro T locs X eT N   r hr
    have hr : r = (f1_59 p0 (1 : Int32)) := hr
    refine own_pre (B := T.setTop (mkF m 55 #[.val (.int p0)] [(.int (1 : Int32))])) (fun t k => XS.iconst X.here hx rfl (hb hby d1_54) k) ?_
    refine own_pre (B := T.setTop (mkF m 59 #[.val (.int p0)] [(.int (1 : Int32))])) (fun t k => XS.goto X.here hx rfl (pc0 := 55) (pc' := 59) rfl (hb hby d1_55) (by decide) (by decide) k) ?_
    exact g_59 T _ X eT N (1 : Int32) _ hr
  have g_42 : ∀ (T : State) (locs : List Loc) (X : Stand p l e ({ frames := 0, cells := 0, slots := 0, locals := 0 } : Room) s m #[(.int p0)] below meth c T locs 0 0) (eT : T.heap = h0) (N : Fr n0 locs)   (r : Int32), r = f1_42 p0 → own_Fin p e below s (fun v h L => v = some (.int r) ∧ Fr n0 L ∧ h = h0) ({ frames := 0, cells := 0, slots := 0, locals := 0 } : Room).cells ({ frames := 0, cells := 0, slots := 0, locals := 0 } : Room).slots (T.setTop (mkF m 42 #[.val (.int p0)] [])) := by
    intro T locs X eT N   r hr
    have hr : r = (if p0 < (65536 : Int32) then (f1_58 p0) else (if (1114111 : Int32) < p0 then (f1_58 p0) else (f1_54 p0))) := hr
    refine own_pre (B := T.setTop (mkF m 43 #[.val (.int p0)] [(.int p0)])) (fun t k => XS.iloadN X.here hx rfl (hb hby d1_42) rfl k) ?_
    refine own_pre (B := T.setTop (mkF m 45 #[.val (.int p0)] [(.int (65536 : Int32)), (.int p0)])) (fun t k => X.ldcInt hx hown (mvT hZ (hw _ (List.mem_of_getElem? (i := 21) rfl))) (g := (mkF m 43 #[.val (.int p0)] [(.int p0)])) rfl (hb hby d1_43) _ k) ?_
    by_cases hc1 : p0 < (65536 : Int32)
    · have hr2 := hr.trans (if_pos hc1)
      refine own_pre (B := T.setTop (mkF m 58 #[.val (.int p0)] [])) (fun t k => XS.icmpYes X.here hx rfl (pc0 := 45) (pc' := 58) rfl (hb hby d1_45) rfl (tlt hc1).1 (by decide) (by decide) k) ?_
      exact g_58 T _ X eT N  _ hr2
    · have hr3 := hr.trans (if_neg hc1)
      refine own_pre (B := T.setTop (mkF m 48 #[.val (.int p0)] [])) (fun t k => XS.icmpNo X.here hx rfl (hb hby d1_45) rfl (flt hc1).1 k) ?_
      refine own_pre (B := T.setTop (mkF m 49 #[.val (.int p0)] [(.int p0)])) (fun t k => XS.iloadN X.here hx rfl (hb hby d1_48) rfl k) ?_
      refine own_pre (B := T.setTop (mkF m 51 #[.val (.int p0)] [(.int (1114111 : Int32)), (.int p0)])) (fun t k => X.ldcInt hx hown (mvT hZ (hw _ (List.mem_of_getElem? (i := 24) rfl))) (g := (mkF m 49 #[.val (.int p0)] [(.int p0)])) rfl (hb hby d1_49) _ k) ?_
      by_cases hc4 : (1114111 : Int32) < p0
      · have hr5 := hr3.trans (if_pos hc4)
        refine own_pre (B := T.setTop (mkF m 58 #[.val (.int p0)] [])) (fun t k => XS.icmpYes X.here hx rfl (pc0 := 51) (pc' := 58) rfl (hb hby d1_51) rfl (tlt hc4).2.2.1 (by decide) (by decide) k) ?_
        exact g_58 T _ X eT N  _ hr5
      · have hr6 := hr3.trans (if_neg hc4)
        refine own_pre (B := T.setTop (mkF m 54 #[.val (.int p0)] [])) (fun t k => XS.icmpNo X.here hx rfl (hb hby d1_51) rfl (flt hc4).2.2.1 k) ?_
        exact g_54 T _ X eT N  _ hr6
  have g_12 : ∀ (T : State) (locs : List Loc) (X : Stand p l e ({ frames := 0, cells := 0, slots := 0, locals := 0 } : Room) s m #[(.int p0)] below meth c T locs 0 0) (eT : T.heap = h0) (N : Fr n0 locs)   (r : Int32), r = f1_12 p0 → own_Fin p e below s (fun v h L => v = some (.int r) ∧ Fr n0 L ∧ h = h0) ({ frames := 0, cells := 0, slots := 0, locals := 0 } : Room).cells ({ frames := 0, cells := 0, slots := 0, locals := 0 } : Room).slots (T.setTop (mkF m 12 #[.val (.int p0)] [])) := by
    intro T locs X eT N   r hr
    have hr : r = (if p0 = (9 : Int32) then (f1_54 p0) else (if p0 = (10 : Int32) then (f1_54 p0) else (if p0 = (13 : Int32) then (f1_54 p0) else (if p0 < (57344 : Int32) then (f1_42 p0) else (if (65533 : Int32) < p0 then (f1_42 p0) else (f1_54 p0)))))) := hr
    refine own_pre (B := T.setTop (mkF m 13 #[.val (.int p0)] [(.int p0)])) (fun t k => XS.iloadN X.here hx rfl (hb hby d1_12) rfl k) ?_
    refine own_pre (B := T.setTop (mkF m 15 #[.val (.int p0)] [(.int (9 : Int32)), (.int p0)])) (fun t k => XS.bipush X.here hx rfl (hb hby d1_13) k) ?_
    by_cases hc1 : p0 = (9 : Int32)
    · have hr2 := hr.trans (if_pos hc1)
      refine own_pre (B := T.setTop (mkF m 54 #[.val (.int p0)] [])) (fun t k => XS.icmpYes X.here hx rfl (pc0 := 15) (pc' := 54) rfl (hb hby d1_15) rfl (teq hc1).1 (by decide) (by decide) k) ?_
      exact g_54 T _ X eT N  _ hr2
    · have hr3 := hr.trans (if_neg hc1)
      refine own_pre (B := T.setTop (mkF m 18 #[.val (.int p0)] [])) (fun t k => XS.icmpNo X.here hx rfl (hb hby d1_15) rfl (feq hc1).1 k) ?_
      refine own_pre (B := T.setTop (mkF m 19 #[.val (.int p0)] [(.int p0)])) (fun t k => XS.iloadN X.here hx rfl (hb hby d1_18) rfl k) ?_
      refine own_pre (B := T.setTop (mkF m 21 #[.val (.int p0)] [(.int (10 : Int32)), (.int p0)])) (fun t k => XS.bipush X.here hx rfl (hb hby d1_19) k) ?_
      by_cases hc4 : p0 = (10 : Int32)
      · have hr5 := hr3.trans (if_pos hc4)
        refine own_pre (B := T.setTop (mkF m 54 #[.val (.int p0)] [])) (fun t k => XS.icmpYes X.here hx rfl (pc0 := 21) (pc' := 54) rfl (hb hby d1_21) rfl (teq hc4).1 (by decide) (by decide) k) ?_
        exact g_54 T _ X eT N  _ hr5
      · have hr6 := hr3.trans (if_neg hc4)
        refine own_pre (B := T.setTop (mkF m 24 #[.val (.int p0)] [])) (fun t k => XS.icmpNo X.here hx rfl (hb hby d1_21) rfl (feq hc4).1 k) ?_
        refine own_pre (B := T.setTop (mkF m 25 #[.val (.int p0)] [(.int p0)])) (fun t k => XS.iloadN X.here hx rfl (hb hby d1_24) rfl k) ?_
        refine own_pre (B := T.setTop (mkF m 27 #[.val (.int p0)] [(.int (13 : Int32)), (.int p0)])) (fun t k => XS.bipush X.here hx rfl (hb hby d1_25) k) ?_
        by_cases hc7 : p0 = (13 : Int32)
        · have hr8 := hr6.trans (if_pos hc7)
          refine own_pre (B := T.setTop (mkF m 54 #[.val (.int p0)] [])) (fun t k => XS.icmpYes X.here hx rfl (pc0 := 27) (pc' := 54) rfl (hb hby d1_27) rfl (teq hc7).1 (by decide) (by decide) k) ?_
          exact g_54 T _ X eT N  _ hr8
        · have hr9 := hr6.trans (if_neg hc7)
          refine own_pre (B := T.setTop (mkF m 30 #[.val (.int p0)] [])) (fun t k => XS.icmpNo X.here hx rfl (hb hby d1_27) rfl (feq hc7).1 k) ?_
          refine own_pre (B := T.setTop (mkF m 31 #[.val (.int p0)] [(.int p0)])) (fun t k => XS.iloadN X.here hx rfl (hb hby d1_30) rfl k) ?_
          refine own_pre (B := T.setTop (mkF m 33 #[.val (.int p0)] [(.int (57344 : Int32)), (.int p0)])) (fun t k => X.ldcInt hx hown (mvT hZ (hw _ (List.mem_of_getElem? (i := 20) rfl))) (g := (mkF m 31 #[.val (.int p0)] [(.int p0)])) rfl (hb hby d1_31) _ k) ?_
          by_cases hc10 : p0 < (57344 : Int32)
          · have hr11 := hr9.trans (if_pos hc10)
            refine own_pre (B := T.setTop (mkF m 42 #[.val (.int p0)] [])) (fun t k => XS.icmpYes X.here hx rfl (pc0 := 33) (pc' := 42) rfl (hb hby d1_33) rfl (tlt hc10).1 (by decide) (by decide) k) ?_
            exact g_42 T _ X eT N  _ hr11
          · have hr12 := hr9.trans (if_neg hc10)
            refine own_pre (B := T.setTop (mkF m 36 #[.val (.int p0)] [])) (fun t k => XS.icmpNo X.here hx rfl (hb hby d1_33) rfl (flt hc10).1 k) ?_
            refine own_pre (B := T.setTop (mkF m 37 #[.val (.int p0)] [(.int p0)])) (fun t k => XS.iloadN X.here hx rfl (hb hby d1_36) rfl k) ?_
            refine own_pre (B := T.setTop (mkF m 39 #[.val (.int p0)] [(.int (65533 : Int32)), (.int p0)])) (fun t k => X.ldcInt hx hown (mvT hZ (hw _ (List.mem_of_getElem? (i := 23) rfl))) (g := (mkF m 37 #[.val (.int p0)] [(.int p0)])) rfl (hb hby d1_37) _ k) ?_
            by_cases hc13 : (65533 : Int32) < p0
            · have hr14 := hr12.trans (if_pos hc13)
              refine own_pre (B := T.setTop (mkF m 42 #[.val (.int p0)] [])) (fun t k => XS.icmpNo X.here hx rfl (hb hby d1_39) rfl (tlt hc13).2.2.2 k) ?_
              exact g_42 T _ X eT N  _ hr14
            · have hr15 := hr12.trans (if_neg hc13)
              refine own_pre (B := T.setTop (mkF m 54 #[.val (.int p0)] [])) (fun t k => XS.icmpYes X.here hx rfl (pc0 := 39) (pc' := 54) rfl (hb hby d1_39) rfl (flt hc13).2.2.2 (by decide) (by decide) k) ?_
              exact g_54 T _ X eT N  _ hr15
  have g_0 : ∀ r, r = f1_0 p0 → own_Fin p e below s (fun v h L => v = some (.int r) ∧ Fr n0 L ∧ h = h0) ({ frames := 0, cells := 0, slots := 0, locals := 0 } : Room).cells ({ frames := 0, cells := 0, slots := 0, locals := 0 } : Room).slots (s₁.setTop (mkF m 0 #[.val (.int p0)] [])) := by
    intro r hr
    have hr : r = (if p0 < (32 : Int32) then (f1_12 p0) else (if (55295 : Int32) < p0 then (f1_12 p0) else (f1_54 p0))) := hr
    refine own_pre (B := s₁.setTop (mkF m 1 #[.val (.int p0)] [(.int p0)])) (fun t k => XS.iloadN X0.here hx rfl (hb hby d1_0) rfl k) ?_
    refine own_pre (B := s₁.setTop (mkF m 3 #[.val (.int p0)] [(.int (32 : Int32)), (.int p0)])) (fun t k => XS.bipush X0.here hx rfl (hb hby d1_1) k) ?_
    by_cases hc1 : p0 < (32 : Int32)
    · have hr2 := hr.trans (if_pos hc1)
      refine own_pre (B := s₁.setTop (mkF m 12 #[.val (.int p0)] [])) (fun t k => XS.icmpYes X0.here hx rfl (pc0 := 3) (pc' := 12) rfl (hb hby d1_3) rfl (tlt hc1).1 (by decide) (by decide) k) ?_
      exact g_12 s₁ _ X0 e0 N0  _ hr2
    · have hr3 := hr.trans (if_neg hc1)
      refine own_pre (B := s₁.setTop (mkF m 6 #[.val (.int p0)] [])) (fun t k => XS.icmpNo X0.here hx rfl (hb hby d1_3) rfl (flt hc1).1 k) ?_
      refine own_pre (B := s₁.setTop (mkF m 7 #[.val (.int p0)] [(.int p0)])) (fun t k => XS.iloadN X0.here hx rfl (hb hby d1_6) rfl k) ?_
      refine own_pre (B := s₁.setTop (mkF m 9 #[.val (.int p0)] [(.int (55295 : Int32)), (.int p0)])) (fun t k => X0.ldcInt hx hown (mvT hZ (hw _ (List.mem_of_getElem? (i := 14) rfl))) (g := (mkF m 7 #[.val (.int p0)] [(.int p0)])) rfl (hb hby d1_7) _ k) ?_
      by_cases hc4 : (55295 : Int32) < p0
      · have hr5 := hr3.trans (if_pos hc4)
        refine own_pre (B := s₁.setTop (mkF m 12 #[.val (.int p0)] [])) (fun t k => XS.icmpNo X0.here hx rfl (hb hby d1_9) rfl (tlt hc4).2.2.2 k) ?_
        exact g_12 s₁ _ X0 e0 N0  _ hr5
      · have hr6 := hr3.trans (if_neg hc4)
        refine own_pre (B := s₁.setTop (mkF m 54 #[.val (.int p0)] [])) (fun t k => XS.icmpYes X0.here hx rfl (pc0 := 9) (pc' := 54) rfl (hb hby d1_9) rfl (flt hc4).2.2.2 (by decide) (by decide) k) ?_
        exact g_54 s₁ _ X0 e0 N0  _ hr6
  exact own_pre pre0 (g_0 _ rfl)
/-! body 2 -/
theorem d2_0 : decode method_2_code 0 = .ok (.iload_n 0, 1) := by decide +kernel
theorem d2_1 : decode method_2_code 1 = .ok (.ifCond .lt 9, 3) := by decide +kernel
theorem d2_4 : decode method_2_code 4 = .ok (.iload_n 0, 1) := by decide +kernel
theorem d2_5 : decode method_2_code 5 = .ok (.ldc 7, 2) := by decide +kernel
theorem d2_7 : decode method_2_code 7 = .ok (.if_icmp .le 5, 3) := by decide +kernel
theorem d2_10 : decode method_2_code 10 = .ok (.iconst 0, 1) := by decide +kernel
theorem d2_11 : decode method_2_code 11 = .ok (.ireturn, 1) := by decide +kernel
theorem d2_12 : decode method_2_code 12 = .ok (.iload_n 0, 1) := by decide +kernel
theorem d2_13 : decode method_2_code 13 = .ok (.bipush 32, 2) := by decide +kernel
theorem d2_15 : decode method_2_code 15 = .ok (.if_icmp .ge 27, 3) := by decide +kernel
theorem d2_18 : decode method_2_code 18 = .ok (.iload_n 0, 1) := by decide +kernel
theorem d2_19 : decode method_2_code 19 = .ok (.bipush 9, 2) := by decide +kernel
theorem d2_21 : decode method_2_code 21 = .ok (.if_icmp .eq 15, 3) := by decide +kernel
theorem d2_24 : decode method_2_code 24 = .ok (.iload_n 0, 1) := by decide +kernel
theorem d2_25 : decode method_2_code 25 = .ok (.bipush 10, 2) := by decide +kernel
theorem d2_27 : decode method_2_code 27 = .ok (.if_icmp .eq 9, 3) := by decide +kernel
theorem d2_30 : decode method_2_code 30 = .ok (.iload_n 0, 1) := by decide +kernel
theorem d2_31 : decode method_2_code 31 = .ok (.bipush 13, 2) := by decide +kernel
theorem d2_33 : decode method_2_code 33 = .ok (.if_icmp .ne 7, 3) := by decide +kernel
theorem d2_36 : decode method_2_code 36 = .ok (.iconst 1, 1) := by decide +kernel
theorem d2_37 : decode method_2_code 37 = .ok (.goto 4, 3) := by decide +kernel
theorem d2_40 : decode method_2_code 40 = .ok (.iconst 0, 1) := by decide +kernel
theorem d2_41 : decode method_2_code 41 = .ok (.ireturn, 1) := by decide +kernel
theorem d2_42 : decode method_2_code 42 = .ok (.iload_n 0, 1) := by decide +kernel
theorem d2_43 : decode method_2_code 43 = .ok (.ldc 8, 2) := by decide +kernel
theorem d2_45 : decode method_2_code 45 = .ok (.if_icmp .lt 11, 3) := by decide +kernel
theorem d2_48 : decode method_2_code 48 = .ok (.iload_n 0, 1) := by decide +kernel
theorem d2_49 : decode method_2_code 49 = .ok (.ldc 9, 2) := by decide +kernel
theorem d2_51 : decode method_2_code 51 = .ok (.if_icmp .gt 5, 3) := by decide +kernel
theorem d2_54 : decode method_2_code 54 = .ok (.iconst 0, 1) := by decide +kernel
theorem d2_55 : decode method_2_code 55 = .ok (.ireturn, 1) := by decide +kernel
theorem d2_56 : decode method_2_code 56 = .ok (.iload_n 0, 1) := by decide +kernel
theorem d2_57 : decode method_2_code 57 = .ok (.ldc 10, 2) := by decide +kernel
theorem d2_59 : decode method_2_code 59 = .ok (.if_icmp .eq 9, 3) := by decide +kernel
theorem d2_62 : decode method_2_code 62 = .ok (.iload_n 0, 1) := by decide +kernel
theorem d2_63 : decode method_2_code 63 = .ok (.ldc 11, 2) := by decide +kernel
theorem d2_65 : decode method_2_code 65 = .ok (.if_icmp .ne 5, 3) := by decide +kernel
theorem d2_68 : decode method_2_code 68 = .ok (.iconst 0, 1) := by decide +kernel
theorem d2_69 : decode method_2_code 69 = .ok (.ireturn, 1) := by decide +kernel
theorem d2_70 : decode method_2_code 70 = .ok (.iconst 1, 1) := by decide +kernel
theorem d2_71 : decode method_2_code 71 = .ok (.ireturn, 1) := by decide +kernel
theorem pn_2 : plainName "com/example/amberwire/amberwire/XmlCharactersIsCharacterPinLaw" = true := by first | (simp [plainName, overriddenIn]; done) | decide +kernel
theorem ef_2 (m : MethodId) (p0 : Int32) : entryFrame m #[(.int p0)] 1 = mkF m 0 #[.val (.int p0)] [] := by first | (simp [entryFrame, mkF, argsToLocals, Value.category]; done) | rfl
def f2_68 (p0 : Int32) : Int32 := ((0 : Int32) &&& 1)
def f2_56 (p0 : Int32) : Int32 := (if p0 = (65534 : Int32) then (f2_68 p0) else (if p0 = (65535 : Int32) then (f2_68 p0) else ((1 : Int32) &&& 1)))
def f2_41 (p0 : Int32) (t0 : Int32) : Int32 := (t0 &&& 1)
def f2_36 (p0 : Int32) : Int32 := (f2_41 p0 (1 : Int32))
def f2_10 (p0 : Int32) : Int32 := ((0 : Int32) &&& 1)
def f2_0 (p0 : Int32) : Int32 := (if p0 < (0 : Int32) then (f2_10 p0) else (if (1114111 : Int32) < p0 then (f2_10 p0) else (if p0 < (32 : Int32) then (if p0 = (9 : Int32) then (f2_36 p0) else (if p0 = (10 : Int32) then (f2_36 p0) else (if p0 = (13 : Int32) then (f2_36 p0) else (f2_41 p0 (0 : Int32))))) else (if p0 < (55296 : Int32) then (f2_56 p0) else (if (57343 : Int32) < p0 then (f2_56 p0) else ((0 : Int32) &&& 1))))))
def Q2 (p0 : Int32) (h0 : Heap) (n0 : Nat) (v : Option Value) (h : Heap) (L : List Loc) : Prop := v = some (.int (f2_0 p0)) ∧ Fr n0 L ∧ h = h0
set_option maxRecDepth 65536 in
set_option maxHeartbeats 40000000 in
theorem rm2 (l : Launch) (Z : State) (a0 : Array Value) (hw : ∀ d ∈ tables_1, d.before a0 Z = true) (ws : List Jvm.Cond) (p0 : Int32) (h0 : Heap) (n0 : Nat) (Z0 : n0 ≤ h0.size) :
    MetFree l (⟨"com/example/amberwire/amberwire/XmlCharactersIsCharacterPinLaw", "expected", "(I)Z"⟩ : MethodName) (head1 (Jvm.Cond.code (⟨"com/example/amberwire/amberwire/XmlCharactersIsCharacterPinLaw", "expected", "(I)Z"⟩ : MethodName) method_2_code 1 (some .boolean) :: ws) ({ frames := 0, cells := 0, slots := 0, locals := 0 } : Room)) (fun a U => a = #[(.int p0)] ∧ Z.Warmed39 U.vm ∧ U.heap = h0) (fun _ _ _ _ _ => True) (fun _ U o U' => ∃ v L, o = .returned v ∧ Q2 p0 h0 n0 v U'.heap L ∧ FrameEnd U o U' L ({ frames := 0, cells := 0, slots := 0, locals := 0 } : Room).cells ({ frames := 0, cells := 0, slots := 0, locals := 0 } : Room).slots) := by
  refine MetFree.of_bodySF (plainFor_of_name pn_2) hisR ?_
  intro p e s m args below meth c s₁ Bd hml0 hP hK
  obtain ⟨rfl, hZ, hh⟩ := hP
  have hx := Bd.exec
  have hby := Bd.bytes
  have hml : c.maxLocals = 1 := hml0
  have hlk : meth.locks = false := BodyLoose.notSynchronized Bd
  have hown : s.vm.findClass "com/example/amberwire/amberwire/XmlCharactersIsCharacterPinLaw" = some m.cls := findClass_of_methodNamed Bd.named
  have X0 : Stand p l e ({ frames := 0, cells := 0, slots := 0, locals := 0 } : Room) s m #[(.int p0)] below meth c s₁ [] 0 0 := Stand.of_body Bd
  have e0 : s₁.heap = h0 := by rw [← hh, Bd.state]; rfl
  have N0 := Fr.nil n0
  have Zs0 : n0 ≤ s₁.heap.size := by rw [e0]; exact Z0
  have pre0 : ∀ t, Steps p.tables e below (s₁.setTop (mkF m 0 #[.val (.int p0)] [])) t → Steps p.tables e below (s₁.setTop (entryFrame m #[(.int p0)] 1)) t := fun t k => castTop (ef_2 m p0) k
  have hnm := (name_of_methodNamed Bd.named Bd.method).1
  have g_68 : ∀ (T : State) (locs : List Loc) (X : Stand p l e ({ frames := 0, cells := 0, slots := 0, locals := 0 } : Room) s m #[(.int p0)] below meth c T locs 0 0) (eT : T.heap = h0) (N : Fr n0 locs)   (r : Int32), r = f2_68 p0 → own_Fin p e below s (fun v h L => v = some (.int r) ∧ Fr n0 L ∧ h = h0) ({ frames := 0, cells := 0, slots := 0, locals := 0 } : Room).cells ({ frames := 0, cells := 0, slots := 0, locals := 0 } : Room).slots (T.setTop (mkF m 68 #[.val (.int p0)] [])) := by
    intro T locs X eT N   r hr
    have hr : r = ((0 : Int32) &&& 1) := hr
    refine own_pre (B := T.setTop (mkF m 69 #[.val (.int p0)] [(.int (0 : Int32))])) (fun t k => XS.iconst X.here hx rfl (hb hby d2_68) k) ?_
    exact own_retZ X hx hlk Bd.returns (hb hby d2_69) ⟨own_someI hr, N, eT⟩ (by decide) (by decide)
  have g_56 : ∀ (T : State) (locs : List Loc) (X : Stand p l e ({ frames := 0, cells := 0, slots := 0, locals := 0 } : Room) s m #[(.int p0)] below meth c T locs 0 0) (eT : T.heap = h0) (N : Fr n0 locs)   (r : Int32), r = f2_56 p0 → own_Fin p e below s (fun v h L => v = some (.int r) ∧ Fr n0 L ∧ h = h0) ({ frames := 0, cells := 0, slots := 0, locals := 0 } : Room).cells ({ frames := 0, cells := 0, slots := 0, locals := 0 } : Room).slots (T.setTop (mkF m 56 #[.val (.int p0)] [])) := by
    intro T locs X eT N   r hr
    have hr : r = (if p0 = (65534 : Int32) then (f2_68 p0) else (if p0 = (65535 : Int32) then (f2_68 p0) else ((1 : Int32) &&& 1))) := hr
    refine own_pre (B := T.setTop (mkF m 57 #[.val (.int p0)] [(.int p0)])) (fun t k => XS.iloadN X.here hx rfl (hb hby d2_56) rfl k) ?_
    refine own_pre (B := T.setTop (mkF m 59 #[.val (.int p0)] [(.int (65534 : Int32)), (.int p0)])) (fun t k => X.ldcInt hx hown (mvT hZ (hw _ (List.mem_of_getElem? (i := 3) rfl))) (g := (mkF m 57 #[.val (.int p0)] [(.int p0)])) rfl (hb hby d2_57) _ k) ?_
    by_cases hc1 : p0 = (65534 : Int32)
    · have hr2 := hr.trans (if_pos hc1)
      refine own_pre (B := T.setTop (mkF m 68 #[.val (.int p0)] [])) (fun t k => XS.icmpYes X.here hx rfl (pc0 := 59) (pc' := 68) rfl (hb hby d2_59) rfl (teq hc1).1 (by decide) (by decide) k) ?_
      exact g_68 T _ X eT N  _ hr2
    · have hr3 := hr.trans (if_neg hc1)
      refine own_pre (B := T.setTop (mkF m 62 #[.val (.int p0)] [])) (fun t k => XS.icmpNo X.here hx rfl (hb hby d2_59) rfl (feq hc1).1 k) ?_
      refine own_pre (B := T.setTop (mkF m 63 #[.val (.int p0)] [(.int p0)])) (fun t k => XS.iloadN X.here hx rfl (hb hby d2_62) rfl k) ?_
      refine own_pre (B := T.setTop (mkF m 65 #[.val (.int p0)] [(.int (65535 : Int32)), (.int p0)])) (fun t k => X.ldcInt hx hown (mvT hZ (hw _ (List.mem_of_getElem? (i := 19) rfl))) (g := (mkF m 63 #[.val (.int p0)] [(.int p0)])) rfl (hb hby d2_63) _ k) ?_
      by_cases hc4 : p0 = (65535 : Int32)
      · have hr5 := hr3.trans (if_pos hc4)
        refine own_pre (B := T.setTop (mkF m 68 #[.val (.int p0)] [])) (fun t k => XS.icmpNo X.here hx rfl (hb hby d2_65) rfl (teq hc4).2 k) ?_
        exact g_68 T _ X eT N  _ hr5
      · have hr6 := hr3.trans (if_neg hc4)
        refine own_pre (B := T.setTop (mkF m 70 #[.val (.int p0)] [])) (fun t k => XS.icmpYes X.here hx rfl (pc0 := 65) (pc' := 70) rfl (hb hby d2_65) rfl (feq hc4).2 (by decide) (by decide) k) ?_
        refine own_pre (B := T.setTop (mkF m 71 #[.val (.int p0)] [(.int (1 : Int32))])) (fun t k => XS.iconst X.here hx rfl (hb hby d2_70) k) ?_
        exact own_retZ X hx hlk Bd.returns (hb hby d2_71) ⟨own_someI hr6, N, eT⟩ (by decide) (by decide)
  have g_41 : ∀ (T : State) (locs : List Loc) (X : Stand p l e ({ frames := 0, cells := 0, slots := 0, locals := 0 } : Room) s m #[(.int p0)] below meth c T locs 0 0) (eT : T.heap = h0) (N : Fr n0 locs) (t0 : Int32)  (r : Int32), r = f2_41 p0 t0 → own_Fin p e below s (fun v h L => v = some (.int r) ∧ Fr n0 L ∧ h = h0) ({ frames := 0, cells := 0, slots := 0, locals := 0 } : Room).cells ({ frames := 0, cells := 0, slots := 0, locals := 0 } : Room).slots (T.setTop (mkF m 41 #[.val (.int p0)] [(.int t0)])) := by
    intro T locs X eT N t0  r hr
    have hr : r = (t0 &&& 1) := hr
    exact own_retZ X hx hlk Bd.returns (hb hby d2_41) ⟨own_someI hr, N, eT⟩ (by decide) (by decide)
  have g_36 : ∀ (T : State) (locs : List Loc) (X : Stand p l e ({ frames := 0, cells := 0, slots := 0, locals := 0 } : Room) s m #[(.int p0)] below meth c T locs 0 0) (eT : T.heap = h0) (N : Fr n0 locs)   (r : Int32), r = f2_36 p0 → own_Fin p e below s (fun v h L => v = some (.int r) ∧ Fr n0 L ∧ h = h0) ({ frames := 0, cells := 0, slots := 0, locals := 0 } : Room).cells ({ frames := 0, cells := 0, slots := 0, locals := 0 } : Room).slots (T.setTop (mkF m 36 #[.val (.int p0)] [])) := by
    intro T locs X eT N   r hr
    have hr : r = (f2_41 p0 (1 : Int32)) := hr
    refine own_pre (B := T.setTop (mkF m 37 #[.val (.int p0)] [(.int (1 : Int32))])) (fun t k => XS.iconst X.here hx rfl (hb hby d2_36) k) ?_
    refine own_pre (B := T.setTop (mkF m 41 #[.val (.int p0)] [(.int (1 : Int32))])) (fun t k => XS.goto X.here hx rfl (pc0 := 37) (pc' := 41) rfl (hb hby d2_37) (by decide) (by decide) k) ?_
    exact g_41 T _ X eT N (1 : Int32) _ hr
  have g_10 : ∀ (T : State) (locs : List Loc) (X : Stand p l e ({ frames := 0, cells := 0, slots := 0, locals := 0 } : Room) s m #[(.int p0)] below meth c T locs 0 0) (eT : T.heap = h0) (N : Fr n0 locs)   (r : Int32), r = f2_10 p0 → own_Fin p e below s (fun v h L => v = some (.int r) ∧ Fr n0 L ∧ h = h0) ({ frames := 0, cells := 0, slots := 0, locals := 0 } : Room).cells ({ frames := 0, cells := 0, slots := 0, locals := 0 } : Room).slots (T.setTop (mkF m 10 #[.val (.int p0)] [])) := by
    intro T locs X eT N   r hr
    have hr : r = ((0 : Int32) &&& 1) := hr
    refine own_pre (B := T.setTop (mkF m 11 #[.val (.int p0)] [(.int (0 : Int32))])) (fun t k => XS.iconst X.here hx rfl (hb hby d2_10) k) ?_
    exact own_retZ X hx hlk Bd.returns (hb hby d2_11) ⟨own_someI hr, N, eT⟩ (by decide) (by decide)
  have g_0 : ∀ r, r = f2_0 p0 → own_Fin p e below s (fun v h L => v = some (.int r) ∧ Fr n0 L ∧ h = h0) ({ frames := 0, cells := 0, slots := 0, locals := 0 } : Room).cells ({ frames := 0, cells := 0, slots := 0, locals := 0 } : Room).slots (s₁.setTop (mkF m 0 #[.val (.int p0)] [])) := by
    intro r hr
    have hr : r = (if p0 < (0 : Int32) then (f2_10 p0) else (if (1114111 : Int32) < p0 then (f2_10 p0) else (if p0 < (32 : Int32) then (if p0 = (9 : Int32) then (f2_36 p0) else (if p0 = (10 : Int32) then (f2_36 p0) else (if p0 = (13 : Int32) then (f2_36 p0) else (f2_41 p0 (0 : Int32))))) else (if p0 < (55296 : Int32) then (f2_56 p0) else (if (57343 : Int32) < p0 then (f2_56 p0) else ((0 : Int32) &&& 1)))))) := hr
    refine own_pre (B := s₁.setTop (mkF m 1 #[.val (.int p0)] [(.int p0)])) (fun t k => XS.iloadN X0.here hx rfl (hb hby d2_0) rfl k) ?_
    by_cases hc1 : p0 < (0 : Int32)
    · have hr2 := hr.trans (if_pos hc1)
      refine own_pre (B := s₁.setTop (mkF m 10 #[.val (.int p0)] [])) (fun t k => XS.ifYes X0.here hx rfl (pc0 := 1) (pc' := 10) rfl (hb hby d2_1) rfl ((if0 _ _).trans (tlt hc1).1) (by decide) (by decide) k) ?_
      exact g_10 s₁ _ X0 e0 N0  _ hr2
    · have hr3 := hr.trans (if_neg hc1)
      refine own_pre (B := s₁.setTop (mkF m 4 #[.val (.int p0)] [])) (fun t k => XS.ifNo X0.here hx rfl (hb hby d2_1) rfl ((if0 _ _).trans (flt hc1).1) k) ?_
      refine own_pre (B := s₁.setTop (mkF m 5 #[.val (.int p0)] [(.int p0)])) (fun t k => XS.iloadN X0.here hx rfl (hb hby d2_4) rfl k) ?_
      refine own_pre (B := s₁.setTop (mkF m 7 #[.val (.int p0)] [(.int (1114111 : Int32)), (.int p0)])) (fun t k => X0.ldcInt hx hown (mvT hZ (hw _ (List.mem_of_getElem? (i := 7) rfl))) (g := (mkF m 5 #[.val (.int p0)] [(.int p0)])) rfl (hb hby d2_5) _ k) ?_
      by_cases hc4 : (1114111 : Int32) < p0
      · have hr5 := hr3.trans (if_pos hc4)
        refine own_pre (B := s₁.setTop (mkF m 10 #[.val (.int p0)] [])) (fun t k => XS.icmpNo X0.here hx rfl (hb hby d2_7) rfl (tlt hc4).2.2.2 k) ?_
        exact g_10 s₁ _ X0 e0 N0  _ hr5
      · have hr6 := hr3.trans (if_neg hc4)
        refine own_pre (B := s₁.setTop (mkF m 12 #[.val (.int p0)] [])) (fun t k => XS.icmpYes X0.here hx rfl (pc0 := 7) (pc' := 12) rfl (hb hby d2_7) rfl (flt hc4).2.2.2 (by decide) (by decide) k) ?_
        refine own_pre (B := s₁.setTop (mkF m 13 #[.val (.int p0)] [(.int p0)])) (fun t k => XS.iloadN X0.here hx rfl (hb hby d2_12) rfl k) ?_
        refine own_pre (B := s₁.setTop (mkF m 15 #[.val (.int p0)] [(.int (32 : Int32)), (.int p0)])) (fun t k => XS.bipush X0.here hx rfl (hb hby d2_13) k) ?_
        by_cases hc7 : p0 < (32 : Int32)
        · have hr8 := hr6.trans (if_pos hc7)
          refine own_pre (B := s₁.setTop (mkF m 18 #[.val (.int p0)] [])) (fun t k => XS.icmpNo X0.here hx rfl (hb hby d2_15) rfl (tlt hc7).2.1 k) ?_
          refine own_pre (B := s₁.setTop (mkF m 19 #[.val (.int p0)] [(.int p0)])) (fun t k => XS.iloadN X0.here hx rfl (hb hby d2_18) rfl k) ?_
          refine own_pre (B := s₁.setTop (mkF m 21 #[.val (.int p0)] [(.int (9 : Int32)), (.int p0)])) (fun t k => XS.bipush X0.here hx rfl (hb hby d2_19) k) ?_
          by_cases hc9 : p0 = (9 : Int32)
          · have hr10 := hr8.trans (if_pos hc9)
            refine own_pre (B := s₁.setTop (mkF m 36 #[.val (.int p0)] [])) (fun t k => XS.icmpYes X0.here hx rfl (pc0 := 21) (pc' := 36) rfl (hb hby d2_21) rfl (teq hc9).1 (by decide) (by decide) k) ?_
            exact g_36 s₁ _ X0 e0 N0  _ hr10
          · have hr11 := hr8.trans (if_neg hc9)
            refine own_pre (B := s₁.setTop (mkF m 24 #[.val (.int p0)] [])) (fun t k => XS.icmpNo X0.here hx rfl (hb hby d2_21) rfl (feq hc9).1 k) ?_
            refine own_pre (B := s₁.setTop (mkF m 25 #[.val (.int p0)] [(.int p0)])) (fun t k => XS.iloadN X0.here hx rfl (hb hby d2_24) rfl k) ?_
            refine own_pre (B := s₁.setTop (mkF m 27 #[.val (.int p0)] [(.int (10 : Int32)), (.int p0)])) (fun t k => XS.bipush X0.here hx rfl (hb hby d2_25) k) ?_
            by_cases hc12 : p0 = (10 : Int32)
            · have hr13 := hr11.trans (if_pos hc12)
              refine own_pre (B := s₁.setTop (mkF m 36 #[.val (.int p0)] [])) (fun t k => XS.icmpYes X0.here hx rfl (pc0 := 27) (pc' := 36) rfl (hb hby d2_27) rfl (teq hc12).1 (by decide) (by decide) k) ?_
              exact g_36 s₁ _ X0 e0 N0  _ hr13
            · have hr14 := hr11.trans (if_neg hc12)
              refine own_pre (B := s₁.setTop (mkF m 30 #[.val (.int p0)] [])) (fun t k => XS.icmpNo X0.here hx rfl (hb hby d2_27) rfl (feq hc12).1 k) ?_
              refine own_pre (B := s₁.setTop (mkF m 31 #[.val (.int p0)] [(.int p0)])) (fun t k => XS.iloadN X0.here hx rfl (hb hby d2_30) rfl k) ?_
              refine own_pre (B := s₁.setTop (mkF m 33 #[.val (.int p0)] [(.int (13 : Int32)), (.int p0)])) (fun t k => XS.bipush X0.here hx rfl (hb hby d2_31) k) ?_
              by_cases hc15 : p0 = (13 : Int32)
              · have hr16 := hr14.trans (if_pos hc15)
                refine own_pre (B := s₁.setTop (mkF m 36 #[.val (.int p0)] [])) (fun t k => XS.icmpNo X0.here hx rfl (hb hby d2_33) rfl (teq hc15).2 k) ?_
                exact g_36 s₁ _ X0 e0 N0  _ hr16
              · have hr17 := hr14.trans (if_neg hc15)
                refine own_pre (B := s₁.setTop (mkF m 40 #[.val (.int p0)] [])) (fun t k => XS.icmpYes X0.here hx rfl (pc0 := 33) (pc' := 40) rfl (hb hby d2_33) rfl (feq hc15).2 (by decide) (by decide) k) ?_
                refine own_pre (B := s₁.setTop (mkF m 41 #[.val (.int p0)] [(.int (0 : Int32))])) (fun t k => XS.iconst X0.here hx rfl (hb hby d2_40) k) ?_
                exact g_41 s₁ _ X0 e0 N0 (0 : Int32) _ hr17
        · have hr18 := hr6.trans (if_neg hc7)
          refine own_pre (B := s₁.setTop (mkF m 42 #[.val (.int p0)] [])) (fun t k => XS.icmpYes X0.here hx rfl (pc0 := 15) (pc' := 42) rfl (hb hby d2_15) rfl (flt hc7).2.1 (by decide) (by decide) k) ?_
          refine own_pre (B := s₁.setTop (mkF m 43 #[.val (.int p0)] [(.int p0)])) (fun t k => XS.iloadN X0.here hx rfl (hb hby d2_42) rfl k) ?_
          refine own_pre (B := s₁.setTop (mkF m 45 #[.val (.int p0)] [(.int (55296 : Int32)), (.int p0)])) (fun t k => X0.ldcInt hx hown (mvT hZ (hw _ (List.mem_of_getElem? (i := 1) rfl))) (g := (mkF m 43 #[.val (.int p0)] [(.int p0)])) rfl (hb hby d2_43) _ k) ?_
          by_cases hc19 : p0 < (55296 : Int32)
          · have hr20 := hr18.trans (if_pos hc19)
            refine own_pre (B := s₁.setTop (mkF m 56 #[.val (.int p0)] [])) (fun t k => XS.icmpYes X0.here hx rfl (pc0 := 45) (pc' := 56) rfl (hb hby d2_45) rfl (tlt hc19).1 (by decide) (by decide) k) ?_
            exact g_56 s₁ _ X0 e0 N0  _ hr20
          · have hr21 := hr18.trans (if_neg hc19)
            refine own_pre (B := s₁.setTop (mkF m 48 #[.val (.int p0)] [])) (fun t k => XS.icmpNo X0.here hx rfl (hb hby d2_45) rfl (flt hc19).1 k) ?_
            refine own_pre (B := s₁.setTop (mkF m 49 #[.val (.int p0)] [(.int p0)])) (fun t k => XS.iloadN X0.here hx rfl (hb hby d2_48) rfl k) ?_
            refine own_pre (B := s₁.setTop (mkF m 51 #[.val (.int p0)] [(.int (57343 : Int32)), (.int p0)])) (fun t k => X0.ldcInt hx hown (mvT hZ (hw _ (List.mem_of_getElem? (i := 22) rfl))) (g := (mkF m 49 #[.val (.int p0)] [(.int p0)])) rfl (hb hby d2_49) _ k) ?_
            by_cases hc22 : (57343 : Int32) < p0
            · have hr23 := hr21.trans (if_pos hc22)
              refine own_pre (B := s₁.setTop (mkF m 56 #[.val (.int p0)] [])) (fun t k => XS.icmpYes X0.here hx rfl (pc0 := 51) (pc' := 56) rfl (hb hby d2_51) rfl (tlt hc22).2.2.1 (by decide) (by decide) k) ?_
              exact g_56 s₁ _ X0 e0 N0  _ hr23
            · have hr24 := hr21.trans (if_neg hc22)
              refine own_pre (B := s₁.setTop (mkF m 54 #[.val (.int p0)] [])) (fun t k => XS.icmpNo X0.here hx rfl (hb hby d2_51) rfl (flt hc22).2.2.1 k) ?_
              refine own_pre (B := s₁.setTop (mkF m 55 #[.val (.int p0)] [(.int (0 : Int32))])) (fun t k => XS.iconst X0.here hx rfl (hb hby d2_54) k) ?_
              exact own_retZ X0 hx hlk Bd.returns (hb hby d2_55) ⟨own_someI hr24, N0, e0⟩ (by decide) (by decide)
  exact own_pre pre0 (g_0 _ rfl)
/-! body 0 -/
theorem pn_0 : plainName "com/example/amberwire/amberwire/XmlCharactersIsCharacterPinLaw" = true := by first | (simp [plainName, overriddenIn]; done) | decide +kernel
theorem pd0_0 : parseMethodDescriptor "(I)Z" = some ⟨[.int], some .boolean⟩ := by decide +kernel
theorem ef_0 (m : MethodId) (p0 : Int32) (p1 : Int32) (p2 : Int32) : entryFrame m #[(.int p0), (.int p1), (.int p2)] maxLocals = mkF m 0 #[.val (.int p0), .val (.int p1), .val (.int p2), .unset, .unset, .unset] [] := by first | (simp [entryFrame, mkF, argsToLocals, Value.category, maxLocals]; done) | rfl
def f0_118 (p0 : Int32) (p1 : Int32) (p2 : Int32) (i4 : Int32) (i5 : Int32) (t0 : Int32) : Int32 := (t0 &&& 1)
def f0_100 (p0 : Int32) (p1 : Int32) (p2 : Int32) (i4 : Int32) (i5 : Int32) : Int32 := (if (f1_0 i5) = (f2_0 i5) then (f0_118 p0 p1 p2 i4 i5 (1 : Int32)) else (f0_118 p0 p1 p2 i4 i5 (0 : Int32)))
def f0_0 (p0 : Int32) (p1 : Int32) (p2 : Int32) : Int32 := (if ((p1 &&& (2147483647 : Int32)) % (12 : Int32)) = (11 : Int32) then (f0_100 p0 p1 p2 ((p1 &&& (2147483647 : Int32)) % (12 : Int32)) p0) else (f0_100 p0 p1 p2 ((p1 &&& (2147483647 : Int32)) % (12 : Int32)) ((own_base ((p1 &&& (2147483647 : Int32)) % (12 : Int32))) + ((p2 &&& (15 : Int32)) - (8 : Int32)))))
def Q0 (p0 : Int32) (p1 : Int32) (p2 : Int32) (h0 : Heap) (n0 : Nat) (v : Option Value) (h : Heap) (L : List Loc) : Prop := v = some (.int (f0_0 p0 p1 p2)) ∧ Fr n0 L
set_option maxRecDepth 65536 in
set_option maxHeartbeats 40000000 in
theorem rm0 (l : Launch) (Z : State) (a0 : Array Value) (hw : ∀ d ∈ tables_1, d.before a0 Z = true) (ws : List Jvm.Cond) (p0 : Int32) (p1 : Int32) (p2 : Int32) (h0 : Heap) (n0 : Nat) (Z0 : n0 ≤ h0.size) :
    MetFree l x (head1 (Jvm.Cond.code x code maxLocals ret :: ws) room_1) (fun a U => a = #[(.int p0), (.int p1), (.int p2)] ∧ Z.Warmed39 U.vm ∧ U.heap = h0) (fun _ _ _ _ _ => True) (fun _ U o U' => ∃ v L, o = .returned v ∧ Q0 p0 p1 p2 h0 n0 v U'.heap L ∧ FrameEnd U o U' L room_1.cells room_1.slots) := by
  refine MetFree.of_bodySF (plainFor_of_name pn_0) hisR ?_
  intro p e s m args below meth c s₁ Bd hml0 hP hK
  obtain ⟨rfl, hZ, hh⟩ := hP
  have hx := Bd.exec
  have hby := Bd.bytes
  have hml : c.maxLocals = 6 := hml0
  have hlk : meth.locks = false := BodyLoose.notSynchronized Bd
  have hown : s.vm.findClass "com/example/amberwire/amberwire/XmlCharactersIsCharacterPinLaw" = some m.cls := findClass_of_methodNamed Bd.named
  have X0 : Stand p l e room_1 s m #[(.int p0), (.int p1), (.int p2)] below meth c s₁ [] 0 0 := Stand.of_body Bd
  have e0 : s₁.heap = h0 := by rw [← hh, Bd.state]; rfl
  have N0 := Fr.nil n0
  have Zs0 : n0 ≤ s₁.heap.size := by rw [e0]; exact Z0
  have pre0 : ∀ t, Steps p.tables e below (s₁.setTop (mkF m 0 #[.val (.int p0), .val (.int p1), .val (.int p2), .unset, .unset, .unset] [])) t → Steps p.tables e below (s₁.setTop (entryFrame m #[(.int p0), (.int p1), (.int p2)] maxLocals)) t := fun t k => castTop (ef_0 m p0 p1 p2) k
  have hnm := (name_of_methodNamed Bd.named Bd.method).1
  have g_118 : ∀ (T : State) (locs : List Loc) (X : Stand p l e room_1 s m #[(.int p0), (.int p1), (.int p2)] below meth c T locs 1 11) (N : Fr n0 locs) (Zs : n0 ≤ T.heap.size) (o3 : Addr) (i4 : Int32) (i5 : Int32) (t0 : Int32)  (r : Int32), r = f0_118 p0 p1 p2 i4 i5 t0 → own_Fin p e below s (fun v h L => v = some (.int r) ∧ Fr n0 L) room_1.cells room_1.slots (T.setTop (mkF m 118 #[.val (.int p0), .val (.int p1), .val (.int p2), .val (.ref o3), .val (.int i4), .val (.int i5)] [(.int t0)])) := by
    intro T locs X N Zs o3 i4 i5 t0  r hr
    have hr : r = (t0 &&& 1) := hr
    exact own_retZ X hx hlk Bd.returns (hb hby at_118) ⟨own_someI hr, N⟩ (by decide) (by decide)
  have g_100 : ∀ (T : State) (locs : List Loc) (X : Stand p l e room_1 s m #[(.int p0), (.int p1), (.int p2)] below meth c T locs 1 11) (N : Fr n0 locs) (Zs : n0 ≤ T.heap.size) (o3 : Addr) (i4 : Int32) (i5 : Int32)  (r : Int32), r = f0_100 p0 p1 p2 i4 i5 → own_Fin p e below s (fun v h L => v = some (.int r) ∧ Fr n0 L) room_1.cells room_1.slots (T.setTop (mkF m 100 #[.val (.int p0), .val (.int p1), .val (.int p2), .val (.ref o3), .val (.int i4), .val (.int i5)] [])) := by
    intro T locs X N Zs o3 i4 i5  r hr
    have hr : r = (if (f1_0 i5) = (f2_0 i5) then (f0_118 p0 p1 p2 i4 i5 (1 : Int32)) else (f0_118 p0 p1 p2 i4 i5 (0 : Int32))) := hr
    refine own_pre (B := T.setTop (mkF m 102 #[.val (.int p0), .val (.int p1), .val (.int p2), .val (.ref o3), .val (.int i4), .val (.int i5)] [(.int i5)])) (fun t k => XS.iload X.here hx rfl (hb hby at_100) rfl k) ?_
    obtain ⟨_, _, ⟨T1, L1, k1, n1⟩, -, X1, ⟨Lc1, hQ1, l1, y1, z1⟩, st1⟩ := Jvm.LawKit.callS X hx (y := (⟨"com/example/amberwire/amberwire/XmlCharacters", "isCharacter", "(I)Z"⟩ : MethodName)) hown (mvT hZ (hw _ (List.mem_of_getElem? (i := 10) rfl))) (mvT hZ (hw _ (List.mem_of_getElem? (i := 11) rfl))) (mvT hZ (hw _ (List.mem_of_getElem? (i := 12) rfl))) (mvT hZ (hw _ (List.mem_of_getElem? (i := 13) rfl))) (by decide) (backOf (W := 0) (rm1 l Z a0 hw [] i5 T.heap n0 Zs) hZ (hw _ (List.mem_of_getElem? (i := 13) rfl)) (hw _ (List.mem_of_getElem? (i := 12) rfl)) (by decide) (by decide)) (g := (mkF m 102 #[.val (.int p0), .val (.int p1), .val (.int p2), .val (.ref o3), .val (.int i4), .val (.int i5)] [(.int i5)])) rfl (by rw [hml]; rfl) (argsL := [(.int i5)]) (rest := []) (lenOf pd0_0 rfl) rfl (by show 2 * 0 + _ ≤ _; exact Nat.le_of_eq rfl) (hb hby at_102) (fun _ _ => ⟨rfl, rfl, (by decide : 1 + 0 ≤ _), (by decide : 11 + 0 ≤ _)⟩)
    dsimp only [Pt.U, Pt.locs, Pt.cells, Pt.slots] at X1 l1 y1 z1 st1 hQ1
    subst l1 y1 z1
    obtain ⟨rfl, Nq1, e1⟩ := hQ1
    have N1 := Fr.app N Nq1
    have Zs1 : n0 ≤ T1.heap.size := by rw [e1]; exact Zs
    refine own_pre (B := T1.setTop (mkF m 105 #[.val (.int p0), .val (.int p1), .val (.int p2), .val (.ref o3), .val (.int i4), .val (.int i5)] [(.int (f1_0 i5))])) st1 ?_
    refine own_pre (B := T1.setTop (mkF m 107 #[.val (.int p0), .val (.int p1), .val (.int p2), .val (.ref o3), .val (.int i4), .val (.int i5)] [(.int i5), (.int (f1_0 i5))])) (fun t k => XS.iload X1.here hx rfl (hb hby at_105) rfl k) ?_
    obtain ⟨_, _, ⟨T2, L2, k2, n2⟩, -, X2, ⟨Lc2, hQ2, l2, y2, z2⟩, st2⟩ := Jvm.LawKit.callS X1 hx (y := (⟨"com/example/amberwire/amberwire/XmlCharactersIsCharacterPinLaw", "expected", "(I)Z"⟩ : MethodName)) hown (mvT hZ (hw _ (List.mem_of_getElem? (i := 15) rfl))) (mvT hZ (hw _ (List.mem_of_getElem? (i := 16) rfl))) (mvT hZ (hw _ (List.mem_of_getElem? (i := 17) rfl))) (mvT hZ (hw _ (List.mem_of_getElem? (i := 18) rfl))) (by decide) (backOf (W := 1) (rm2 l Z a0 hw [] i5 T.heap n0 Zs) hZ (hw _ (List.mem_of_getElem? (i := 18) rfl)) (hw _ (List.mem_of_getElem? (i := 17) rfl)) (by decide) (by decide)) (g := (mkF m 107 #[.val (.int p0), .val (.int p1), .val (.int p2), .val (.ref o3), .val (.int i4), .val (.int i5)] [(.int i5), (.int (f1_0 i5))])) rfl (by rw [hml]; rfl) (argsL := [(.int i5)]) (rest := [(.int (f1_0 i5))]) (lenOf pd0_0 rfl) rfl (by show 2 * 0 + _ ≤ _; exact Nat.le_of_eq rfl) (hb hby at_107) (fun _ _ => ⟨rfl, e1, (by decide : 1 + 0 ≤ _), (by decide : 11 + 0 ≤ _)⟩)
    dsimp only [Pt.U, Pt.locs, Pt.cells, Pt.slots] at X2 l2 y2 z2 st2 hQ2
    subst l2 y2 z2
    obtain ⟨rfl, Nq2, e2⟩ := hQ2
    have N2 := Fr.app N1 Nq2
    have Zs2 : n0 ≤ T2.heap.size := by rw [e2]; exact Zs
    refine own_pre (B := T2.setTop (mkF m 110 #[.val (.int p0), .val (.int p1), .val (.int p2), .val (.ref o3), .val (.int i4), .val (.int i5)] [(.int (f2_0 i5)), (.int (f1_0 i5))])) st2 ?_
    by_cases hc3 : (f1_0 i5) = (f2_0 i5)
    · have hr4 := hr.trans (if_pos hc3)
      refine own_pre (B := T2.setTop (mkF m 113 #[.val (.int p0), .val (.int p1), .val (.int p2), .val (.ref o3), .val (.int i4), .val (.int i5)] [])) (fun t k => XS.icmpNo X2.here hx rfl (hb hby at_110) rfl (teq hc3).2 k) ?_
      refine own_pre (B := T2.setTop (mkF m 114 #[.val (.int p0), .val (.int p1), .val (.int p2), .val (.ref o3), .val (.int i4), .val (.int i5)] [(.int (1 : Int32))])) (fun t k => XS.iconst X2.here hx rfl (hb hby at_113) k) ?_
      refine own_pre (B := T2.setTop (mkF m 118 #[.val (.int p0), .val (.int p1), .val (.int p2), .val (.ref o3), .val (.int i4), .val (.int i5)] [(.int (1 : Int32))])) (fun t k => XS.goto X2.here hx rfl (pc0 := 114) (pc' := 118) rfl (hb hby at_114) (by decide) (by decide) k) ?_
      exact g_118 T2 _ X2 N2 Zs2 o3 i4 i5 (1 : Int32) _ hr4
    · have hr5 := hr.trans (if_neg hc3)
      refine own_pre (B := T2.setTop (mkF m 117 #[.val (.int p0), .val (.int p1), .val (.int p2), .val (.ref o3), .val (.int i4), .val (.int i5)] [])) (fun t k => XS.icmpYes X2.here hx rfl (pc0 := 110) (pc' := 117) rfl (hb hby at_110) rfl (feq hc3).2 (by decide) (by decide) k) ?_
      refine own_pre (B := T2.setTop (mkF m 118 #[.val (.int p0), .val (.int p1), .val (.int p2), .val (.ref o3), .val (.int i4), .val (.int i5)] [(.int (0 : Int32))])) (fun t k => XS.iconst X2.here hx rfl (hb hby at_117) k) ?_
      exact g_118 T2 _ X2 N2 Zs2 o3 i4 i5 (0 : Int32) _ hr5
  have g_0 : ∀ r, r = f0_0 p0 p1 p2 → own_Fin p e below s (fun v h L => v = some (.int r) ∧ Fr n0 L) room_1.cells room_1.slots (s₁.setTop (mkF m 0 #[.val (.int p0), .val (.int p1), .val (.int p2), .unset, .unset, .unset] [])) := by
    intro r hr
    have hr : r = (if ((p1 &&& (2147483647 : Int32)) % (12 : Int32)) = (11 : Int32) then (f0_100 p0 p1 p2 ((p1 &&& (2147483647 : Int32)) % (12 : Int32)) p0) else (f0_100 p0 p1 p2 ((p1 &&& (2147483647 : Int32)) % (12 : Int32)) ((own_base ((p1 &&& (2147483647 : Int32)) % (12 : Int32))) + ((p2 &&& (15 : Int32)) - (8 : Int32))))) := hr
    refine own_pre (B := s₁.setTop (mkF m 2 #[.val (.int p0), .val (.int p1), .val (.int p2), .unset, .unset, .unset] [(.int (11 : Int32))])) (fun t k => XS.bipush X0.here hx rfl (hb hby at_0) k) ?_
    obtain ⟨T1, h1, k1, X1, e1, E1, A1, st1⟩ := newP X0 hx hZ (hw _ (List.mem_of_getElem? (i := 0) rfl)) e0 (g := (mkF m 2 #[.val (.int p0), .val (.int p1), .val (.int p2), .unset, .unset, .unset] [(.int (11 : Int32))])) rfl (hb hby at_2) rfl (by decide) (cap := 11) (by decide) (by decide) (by decide) (by decide)
    obtain ⟨b1, g1⟩ : ∃ z, z = h0.size := ⟨_, rfl⟩
    rw [← g1] at A1 st1
    have V1 : Arv Z h1 b1 k1 .int (11 : Int32) [.int (0 : Int32), .int (0 : Int32), .int (0 : Int32), .int (0 : Int32), .int (0 : Int32), .int (0 : Int32), .int (0 : Int32), .int (0 : Int32), .int (0 : Int32), .int (0 : Int32), .int (0 : Int32)] (.int (0 : Int32)) := (Arv.new A1 (by decide)).pad (pad_rep [] (.int (0 : Int32)) 11)
    have gb1 : n0 ≤ b1 := Nat.le_trans Z0 (Nat.le_of_eq g1.symm)
    have ZH1 : n0 ≤ h1.size := Nat.le_trans Z0 E1.1
    have Zs1 : n0 ≤ T1.heap.size := by rw [e1]; exact ZH1
    refine own_pre (B := T1.setTop (mkF m 4 #[.val (.int p0), .val (.int p1), .val (.int p2), .unset, .unset, .unset] [(.ref b1)])) st1 ?_
    refine own_pre (B := T1.setTop (mkF m 5 #[.val (.int p0), .val (.int p1), .val (.int p2), .unset, .unset, .unset] [(.ref b1), (.ref b1)])) (fun t k => XS.dup X1.here hx rfl (hb hby at_4) rfl rfl k) ?_
    refine own_pre (B := T1.setTop (mkF m 6 #[.val (.int p0), .val (.int p1), .val (.int p2), .unset, .unset, .unset] [(.int (0 : Int32)), (.ref b1), (.ref b1)])) (fun t k => XS.iconst X1.here hx rfl (hb hby at_5) k) ?_
    refine own_pre (B := T1.setTop (mkF m 7 #[.val (.int p0), .val (.int p1), .val (.int p2), .unset, .unset, .unset] [(.int (0 : Int32)), (.int (0 : Int32)), (.ref b1), (.ref b1)])) (fun t k => XS.iconst X1.here hx rfl (hb hby at_6) k) ?_
    obtain ⟨T2, h2, X2, e2, W2, V2', st2⟩ := own_st X1 hx hZ e1 V1 (j := (0 : Int32)) (x := (0 : Int32)) ⟨by decide, by decide⟩ 0 rfl (Nat.le_of_ble_eq_true rfl) (g := (mkF m 7 #[.val (.int p0), .val (.int p1), .val (.int p2), .unset, .unset, .unset] [(.int (0 : Int32)), (.int (0 : Int32)), (.ref b1), (.ref b1)])) rfl rfl (hb hby at_7)
    have V2 : Arv Z h2 b1 k1 .int (11 : Int32) [.int (0 : Int32), .int (0 : Int32), .int (0 : Int32), .int (0 : Int32), .int (0 : Int32), .int (0 : Int32), .int (0 : Int32), .int (0 : Int32), .int (0 : Int32), .int (0 : Int32), .int (0 : Int32)] (.int (0 : Int32)) := V2'
    have N2 := Fr.snoc X2 N0 gb1
    have ZH2 : n0 ≤ h2.size := by rw [W2.size]; exact ZH1
    have Zs2 : n0 ≤ T2.heap.size := by rw [e2]; exact ZH2
    refine own_pre (B := T2.setTop (mkF m 8 #[.val (.int p0), .val (.int p1), .val (.int p2), .unset, .unset, .unset] [(.ref b1)])) st2 ?_
    refine own_pre (B := T2.setTop (mkF m 9 #[.val (.int p0), .val (.int p1), .val (.int p2), .unset, .unset, .unset] [(.ref b1), (.ref b1)])) (fun t k => XS.dup X2.here hx rfl (hb hby at_8) rfl rfl k) ?_
    refine own_pre (B := T2.setTop (mkF m 10 #[.val (.int p0), .val (.int p1), .val (.int p2), .unset, .unset, .unset] [(.int (1 : Int32)), (.ref b1), (.ref b1)])) (fun t k => XS.iconst X2.here hx rfl (hb hby at_9) k) ?_
    refine own_pre (B := T2.setTop (mkF m 12 #[.val (.int p0), .val (.int p1), .val (.int p2), .unset, .unset, .unset] [(.int (9 : Int32)), (.int (1 : Int32)), (.ref b1), (.ref b1)])) (fun t k => XS.bipush X2.here hx rfl (hb hby at_10) k) ?_
    obtain ⟨T3, h3, X3, e3, W3, V3', st3⟩ := own_st X2 hx hZ e2 V2 (j := (1 : Int32)) (x := (9 : Int32)) ⟨by decide, by decide⟩ 1 rfl (Nat.le_of_ble_eq_true rfl) (g := (mkF m 12 #[.val (.int p0), .val (.int p1), .val (.int p2), .unset, .unset, .unset] [(.int (9 : Int32)), (.int (1 : Int32)), (.ref b1), (.ref b1)])) rfl rfl (hb hby at_12)
    have V3 : Arv Z h3 b1 k1 .int (11 : Int32) [.int (0 : Int32), .int (9 : Int32), .int (0 : Int32), .int (0 : Int32), .int (0 : Int32), .int (0 : Int32), .int (0 : Int32), .int (0 : Int32), .int (0 : Int32), .int (0 : Int32), .int (0 : Int32)] (.int (0 : Int32)) := V3'
    have N3 := Fr.snoc X3 N2 gb1
    have ZH3 : n0 ≤ h3.size := by rw [W3.size]; exact ZH2
    have Zs3 : n0 ≤ T3.heap.size := by rw [e3]; exact ZH3
    refine own_pre (B := T3.setTop (mkF m 13 #[.val (.int p0), .val (.int p1), .val (.int p2), .unset, .unset, .unset] [(.ref b1)])) st3 ?_
    refine own_pre (B := T3.setTop (mkF m 14 #[.val (.int p0), .val (.int p1), .val (.int p2), .unset, .unset, .unset] [(.ref b1), (.ref b1)])) (fun t k => XS.dup X3.here hx rfl (hb hby at_13) rfl rfl k) ?_
    refine own_pre (B := T3.setTop (mkF m 15 #[.val (.int p0), .val (.int p1), .val (.int p2), .unset, .unset, .unset] [(.int (2 : Int32)), (.ref b1), (.ref b1)])) (fun t k => XS.iconst X3.here hx rfl (hb hby at_14) k) ?_
    refine own_pre (B := T3.setTop (mkF m 17 #[.val (.int p0), .val (.int p1), .val (.int p2), .unset, .unset, .unset] [(.int (32 : Int32)), (.int (2 : Int32)), (.ref b1), (.ref b1)])) (fun t k => XS.bipush X3.here hx rfl (hb hby at_15) k) ?_
    obtain ⟨T4, h4, X4, e4, W4, V4', st4⟩ := own_st X3 hx hZ e3 V3 (j := (2 : Int32)) (x := (32 : Int32)) ⟨by decide, by decide⟩ 2 rfl (Nat.le_of_ble_eq_true rfl) (g := (mkF m 17 #[.val (.int p0), .val (.int p1), .val (.int p2), .unset, .unset, .unset] [(.int (32 : Int32)), (.int (2 : Int32)), (.ref b1), (.ref b1)])) rfl rfl (hb hby at_17)
    have V4 : Arv Z h4 b1 k1 .int (11 : Int32) [.int (0 : Int32), .int (9 : Int32), .int (32 : Int32), .int (0 : Int32), .int (0 : Int32), .int (0 : Int32), .int (0 : Int32), .int (0 : Int32), .int (0 : Int32), .int (0 : Int32), .int (0 : Int32)] (.int (0 : Int32)) := V4'
    have N4 := Fr.snoc X4 N3 gb1
    have ZH4 : n0 ≤ h4.size := by rw [W4.size]; exact ZH3
    have Zs4 : n0 ≤ T4.heap.size := by rw [e4]; exact ZH4
    refine own_pre (B := T4.setTop (mkF m 18 #[.val (.int p0), .val (.int p1), .val (.int p2), .unset, .unset, .unset] [(.ref b1)])) st4 ?_
    refine own_pre (B := T4.setTop (mkF m 19 #[.val (.int p0), .val (.int p1), .val (.int p2), .unset, .unset, .unset] [(.ref b1), (.ref b1)])) (fun t k => XS.dup X4.here hx rfl (hb hby at_18) rfl rfl k) ?_
    refine own_pre (B := T4.setTop (mkF m 20 #[.val (.int p0), .val (.int p1), .val (.int p2), .unset, .unset, .unset] [(.int (3 : Int32)), (.ref b1), (.ref b1)])) (fun t k => XS.iconst X4.here hx rfl (hb hby at_19) k) ?_
    refine own_pre (B := T4.setTop (mkF m 22 #[.val (.int p0), .val (.int p1), .val (.int p2), .unset, .unset, .unset] [(.int (55296 : Int32)), (.int (3 : Int32)), (.ref b1), (.ref b1)])) (fun t k => X4.ldcInt hx hown (mvT hZ (hw _ (List.mem_of_getElem? (i := 1) rfl))) (g := (mkF m 20 #[.val (.int p0), .val (.int p1), .val (.int p2), .unset, .unset, .unset] [(.int (3 : Int32)), (.ref b1), (.ref b1)])) rfl (hb hby at_20) _ k) ?_
    obtain ⟨T5, h5, X5, e5, W5, V5', st5⟩ := own_st X4 hx hZ e4 V4 (j := (3 : Int32)) (x := (55296 : Int32)) ⟨by decide, by decide⟩ 3 rfl (Nat.le_of_ble_eq_true rfl) (g := (mkF m 22 #[.val (.int p0), .val (.int p1), .val (.int p2), .unset, .unset, .unset] [(.int (55296 : Int32)), (.int (3 : Int32)), (.ref b1), (.ref b1)])) rfl rfl (hb hby at_22)
    have V5 : Arv Z h5 b1 k1 .int (11 : Int32) [.int (0 : Int32), .int (9 : Int32), .int (32 : Int32), .int (55296 : Int32), .int (0 : Int32), .int (0 : Int32), .int (0 : Int32), .int (0 : Int32), .int (0 : Int32), .int (0 : Int32), .int (0 : Int32)] (.int (0 : Int32)) := V5'
    have N5 := Fr.snoc X5 N4 gb1
    have ZH5 : n0 ≤ h5.size := by rw [W5.size]; exact ZH4
    have Zs5 : n0 ≤ T5.heap.size := by rw [e5]; exact ZH5
    refine own_pre (B := T5.setTop (mkF m 23 #[.val (.int p0), .val (.int p1), .val (.int p2), .unset, .unset, .unset] [(.ref b1)])) st5 ?_
    refine own_pre (B := T5.setTop (mkF m 24 #[.val (.int p0), .val (.int p1), .val (.int p2), .unset, .unset, .unset] [(.ref b1), (.ref b1)])) (fun t k => XS.dup X5.here hx rfl (hb hby at_23) rfl rfl k) ?_
    refine own_pre (B := T5.setTop (mkF m 25 #[.val (.int p0), .val (.int p1), .val (.int p2), .unset, .unset, .unset] [(.int (4 : Int32)), (.ref b1), (.ref b1)])) (fun t k => XS.iconst X5.here hx rfl (hb hby at_24) k) ?_
    refine own_pre (B := T5.setTop (mkF m 27 #[.val (.int p0), .val (.int p1), .val (.int p2), .unset, .unset, .unset] [(.int (57344 : Int32)), (.int (4 : Int32)), (.ref b1), (.ref b1)])) (fun t k => X5.ldcInt hx hown (mvT hZ (hw _ (List.mem_of_getElem? (i := 2) rfl))) (g := (mkF m 25 #[.val (.int p0), .val (.int p1), .val (.int p2), .unset, .unset, .unset] [(.int (4 : Int32)), (.ref b1), (.ref b1)])) rfl (hb hby at_25) _ k) ?_
    obtain ⟨T6, h6, X6, e6, W6, V6', st6⟩ := own_st X5 hx hZ e5 V5 (j := (4 : Int32)) (x := (57344 : Int32)) ⟨by decide, by decide⟩ 4 rfl (Nat.le_of_ble_eq_true rfl) (g := (mkF m 27 #[.val (.int p0), .val (.int p1), .val (.int p2), .unset, .unset, .unset] [(.int (57344 : Int32)), (.int (4 : Int32)), (.ref b1), (.ref b1)])) rfl rfl (hb hby at_27)
    have V6 : Arv Z h6 b1 k1 .int (11 : Int32) [.int (0 : Int32), .int (9 : Int32), .int (32 : Int32), .int (55296 : Int32), .int (57344 : Int32), .int (0 : Int32), .int (0 : Int32), .int (0 : Int32), .int (0 : Int32), .int (0 : Int32), .int (0 : Int32)] (.int (0 : Int32)) := V6'
    have N6 := Fr.snoc X6 N5 gb1
    have ZH6 : n0 ≤ h6.size := by rw [W6.size]; exact ZH5
    have Zs6 : n0 ≤ T6.heap.size := by rw [e6]; exact ZH6
    refine own_pre (B := T6.setTop (mkF m 28 #[.val (.int p0), .val (.int p1), .val (.int p2), .unset, .unset, .unset] [(.ref b1)])) st6 ?_
    refine own_pre (B := T6.setTop (mkF m 29 #[.val (.int p0), .val (.int p1), .val (.int p2), .unset, .unset, .unset] [(.ref b1), (.ref b1)])) (fun t k => XS.dup X6.here hx rfl (hb hby at_28) rfl rfl k) ?_
    refine own_pre (B := T6.setTop (mkF m 30 #[.val (.int p0), .val (.int p1), .val (.int p2), .unset, .unset, .unset] [(.int (5 : Int32)), (.ref b1), (.ref b1)])) (fun t k => XS.iconst X6.here hx rfl (hb hby at_29) k) ?_
    refine own_pre (B := T6.setTop (mkF m 32 #[.val (.int p0), .val (.int p1), .val (.int p2), .unset, .unset, .unset] [(.int (65534 : Int32)), (.int (5 : Int32)), (.ref b1), (.ref b1)])) (fun t k => X6.ldcInt hx hown (mvT hZ (hw _ (List.mem_of_getElem? (i := 3) rfl))) (g := (mkF m 30 #[.val (.int p0), .val (.int p1), .val (.int p2), .unset, .unset, .unset] [(.int (5 : Int32)), (.ref b1), (.ref b1)])) rfl (hb hby at_30) _ k) ?_
    obtain ⟨T7, h7, X7, e7, W7, V7', st7⟩ := own_st X6 hx hZ e6 V6 (j := (5 : Int32)) (x := (65534 : Int32)) ⟨by decide, by decide⟩ 5 rfl (Nat.le_of_ble_eq_true rfl) (g := (mkF m 32 #[.val (.int p0), .val (.int p1), .val (.int p2), .unset, .unset, .unset] [(.int (65534 : Int32)), (.int (5 : Int32)), (.ref b1), (.ref b1)])) rfl rfl (hb hby at_32)
    have V7 : Arv Z h7 b1 k1 .int (11 : Int32) [.int (0 : Int32), .int (9 : Int32), .int (32 : Int32), .int (55296 : Int32), .int (57344 : Int32), .int (65534 : Int32), .int (0 : Int32), .int (0 : Int32), .int (0 : Int32), .int (0 : Int32), .int (0 : Int32)] (.int (0 : Int32)) := V7'
    have N7 := Fr.snoc X7 N6 gb1
    have ZH7 : n0 ≤ h7.size := by rw [W7.size]; exact ZH6
    have Zs7 : n0 ≤ T7.heap.size := by rw [e7]; exact ZH7
    refine own_pre (B := T7.setTop (mkF m 33 #[.val (.int p0), .val (.int p1), .val (.int p2), .unset, .unset, .unset] [(.ref b1)])) st7 ?_
    refine own_pre (B := T7.setTop (mkF m 34 #[.val (.int p0), .val (.int p1), .val (.int p2), .unset, .unset, .unset] [(.ref b1), (.ref b1)])) (fun t k => XS.dup X7.here hx rfl (hb hby at_33) rfl rfl k) ?_
    refine own_pre (B := T7.setTop (mkF m 36 #[.val (.int p0), .val (.int p1), .val (.int p2), .unset, .unset, .unset] [(.int (6 : Int32)), (.ref b1), (.ref b1)])) (fun t k => XS.bipush X7.here hx rfl (hb hby at_34) k) ?_
    refine own_pre (B := T7.setTop (mkF m 38 #[.val (.int p0), .val (.int p1), .val (.int p2), .unset, .unset, .unset] [(.int (1114112 : Int32)), (.int (6 : Int32)), (.ref b1), (.ref b1)])) (fun t k => X7.ldcInt hx hown (mvT hZ (hw _ (List.mem_of_getElem? (i := 4) rfl))) (g := (mkF m 36 #[.val (.int p0), .val (.int p1), .val (.int p2), .unset, .unset, .unset] [(.int (6 : Int32)), (.ref b1), (.ref b1)])) rfl (hb hby at_36) _ k) ?_
    obtain ⟨T8, h8, X8, e8, W8, V8', st8⟩ := own_st X7 hx hZ e7 V7 (j := (6 : Int32)) (x := (1114112 : Int32)) ⟨by decide, by decide⟩ 6 rfl (Nat.le_of_ble_eq_true rfl) (g := (mkF m 38 #[.val (.int p0), .val (.int p1), .val (.int p2), .unset, .unset, .unset] [(.int (1114112 : Int32)), (.int (6 : Int32)), (.ref b1), (.ref b1)])) rfl rfl (hb hby at_38)
    have V8 : Arv Z h8 b1 k1 .int (11 : Int32) [.int (0 : Int32), .int (9 : Int32), .int (32 : Int32), .int (55296 : Int32), .int (57344 : Int32), .int (65534 : Int32), .int (1114112 : Int32), .int (0 : Int32), .int (0 : Int32), .int (0 : Int32), .int (0 : Int32)] (.int (0 : Int32)) := V8'
    have N8 := Fr.snoc X8 N7 gb1
    have ZH8 : n0 ≤ h8.size := by rw [W8.size]; exact ZH7
    have Zs8 : n0 ≤ T8.heap.size := by rw [e8]; exact ZH8
    refine own_pre (B := T8.setTop (mkF m 39 #[.val (.int p0), .val (.int p1), .val (.int p2), .unset, .unset, .unset] [(.ref b1)])) st8 ?_
    refine own_pre (B := T8.setTop (mkF m 40 #[.val (.int p0), .val (.int p1), .val (.int p2), .unset, .unset, .unset] [(.ref b1), (.ref b1)])) (fun t k => XS.dup X8.here hx rfl (hb hby at_39) rfl rfl k) ?_
    refine own_pre (B := T8.setTop (mkF m 42 #[.val (.int p0), .val (.int p1), .val (.int p2), .unset, .unset, .unset] [(.int (7 : Int32)), (.ref b1), (.ref b1)])) (fun t k => XS.bipush X8.here hx rfl (hb hby at_40) k) ?_
    refine own_pre (B := T8.setTop (mkF m 44 #[.val (.int p0), .val (.int p1), .val (.int p2), .unset, .unset, .unset] [(.int (-2147483648 : Int32)), (.int (7 : Int32)), (.ref b1), (.ref b1)])) (fun t k => X8.ldcInt hx hown (mvT hZ (hw _ (List.mem_of_getElem? (i := 5) rfl))) (g := (mkF m 42 #[.val (.int p0), .val (.int p1), .val (.int p2), .unset, .unset, .unset] [(.int (7 : Int32)), (.ref b1), (.ref b1)])) rfl (hb hby at_42) _ k) ?_
    obtain ⟨T9, h9, X9, e9, W9, V9', st9⟩ := own_st X8 hx hZ e8 V8 (j := (7 : Int32)) (x := (-2147483648 : Int32)) ⟨by decide, by decide⟩ 7 rfl (Nat.le_of_ble_eq_true rfl) (g := (mkF m 44 #[.val (.int p0), .val (.int p1), .val (.int p2), .unset, .unset, .unset] [(.int (-2147483648 : Int32)), (.int (7 : Int32)), (.ref b1), (.ref b1)])) rfl rfl (hb hby at_44)
    have V9 : Arv Z h9 b1 k1 .int (11 : Int32) [.int (0 : Int32), .int (9 : Int32), .int (32 : Int32), .int (55296 : Int32), .int (57344 : Int32), .int (65534 : Int32), .int (1114112 : Int32), .int (-2147483648 : Int32), .int (0 : Int32), .int (0 : Int32), .int (0 : Int32)] (.int (0 : Int32)) := V9'
    have N9 := Fr.snoc X9 N8 gb1
    have ZH9 : n0 ≤ h9.size := by rw [W9.size]; exact ZH8
    have Zs9 : n0 ≤ T9.heap.size := by rw [e9]; exact ZH9
    refine own_pre (B := T9.setTop (mkF m 45 #[.val (.int p0), .val (.int p1), .val (.int p2), .unset, .unset, .unset] [(.ref b1)])) st9 ?_
    refine own_pre (B := T9.setTop (mkF m 46 #[.val (.int p0), .val (.int p1), .val (.int p2), .unset, .unset, .unset] [(.ref b1), (.ref b1)])) (fun t k => XS.dup X9.here hx rfl (hb hby at_45) rfl rfl k) ?_
    refine own_pre (B := T9.setTop (mkF m 48 #[.val (.int p0), .val (.int p1), .val (.int p2), .unset, .unset, .unset] [(.int (8 : Int32)), (.ref b1), (.ref b1)])) (fun t k => XS.bipush X9.here hx rfl (hb hby at_46) k) ?_
    refine own_pre (B := T9.setTop (mkF m 50 #[.val (.int p0), .val (.int p1), .val (.int p2), .unset, .unset, .unset] [(.int (2147483639 : Int32)), (.int (8 : Int32)), (.ref b1), (.ref b1)])) (fun t k => X9.ldcInt hx hown (mvT hZ (hw _ (List.mem_of_getElem? (i := 6) rfl))) (g := (mkF m 48 #[.val (.int p0), .val (.int p1), .val (.int p2), .unset, .unset, .unset] [(.int (8 : Int32)), (.ref b1), (.ref b1)])) rfl (hb hby at_48) _ k) ?_
    obtain ⟨T10, h10, X10, e10, W10, V10', st10⟩ := own_st X9 hx hZ e9 V9 (j := (8 : Int32)) (x := (2147483639 : Int32)) ⟨by decide, by decide⟩ 8 rfl (Nat.le_of_ble_eq_true rfl) (g := (mkF m 50 #[.val (.int p0), .val (.int p1), .val (.int p2), .unset, .unset, .unset] [(.int (2147483639 : Int32)), (.int (8 : Int32)), (.ref b1), (.ref b1)])) rfl rfl (hb hby at_50)
    have V10 : Arv Z h10 b1 k1 .int (11 : Int32) [.int (0 : Int32), .int (9 : Int32), .int (32 : Int32), .int (55296 : Int32), .int (57344 : Int32), .int (65534 : Int32), .int (1114112 : Int32), .int (-2147483648 : Int32), .int (2147483639 : Int32), .int (0 : Int32), .int (0 : Int32)] (.int (0 : Int32)) := V10'
    have N10 := Fr.snoc X10 N9 gb1
    have ZH10 : n0 ≤ h10.size := by rw [W10.size]; exact ZH9
    have Zs10 : n0 ≤ T10.heap.size := by rw [e10]; exact ZH10
    refine own_pre (B := T10.setTop (mkF m 51 #[.val (.int p0), .val (.int p1), .val (.int p2), .unset, .unset, .unset] [(.ref b1)])) st10 ?_
    refine own_pre (B := T10.setTop (mkF m 52 #[.val (.int p0), .val (.int p1), .val (.int p2), .unset, .unset, .unset] [(.ref b1), (.ref b1)])) (fun t k => XS.dup X10.here hx rfl (hb hby at_51) rfl rfl k) ?_
    refine own_pre (B := T10.setTop (mkF m 54 #[.val (.int p0), .val (.int p1), .val (.int p2), .unset, .unset, .unset] [(.int (9 : Int32)), (.ref b1), (.ref b1)])) (fun t k => XS.bipush X10.here hx rfl (hb hby at_52) k) ?_
    refine own_pre (B := T10.setTop (mkF m 56 #[.val (.int p0), .val (.int p1), .val (.int p2), .unset, .unset, .unset] [(.int (1114111 : Int32)), (.int (9 : Int32)), (.ref b1), (.ref b1)])) (fun t k => X10.ldcInt hx hown (mvT hZ (hw _ (List.mem_of_getElem? (i := 7) rfl))) (g := (mkF m 54 #[.val (.int p0), .val (.int p1), .val (.int p2), .unset, .unset, .unset] [(.int (9 : Int32)), (.ref b1), (.ref b1)])) rfl (hb hby at_54) _ k) ?_
    obtain ⟨T11, h11, X11, e11, W11, V11', st11⟩ := own_st X10 hx hZ e10 V10 (j := (9 : Int32)) (x := (1114111 : Int32)) ⟨by decide, by decide⟩ 9 rfl (Nat.le_of_ble_eq_true rfl) (g := (mkF m 56 #[.val (.int p0), .val (.int p1), .val (.int p2), .unset, .unset, .unset] [(.int (1114111 : Int32)), (.int (9 : Int32)), (.ref b1), (.ref b1)])) rfl rfl (hb hby at_56)
    have V11 : Arv Z h11 b1 k1 .int (11 : Int32) [.int (0 : Int32), .int (9 : Int32), .int (32 : Int32), .int (55296 : Int32), .int (57344 : Int32), .int (65534 : Int32), .int (1114112 : Int32), .int (-2147483648 : Int32), .int (2147483639 : Int32), .int (1114111 : Int32), .int (0 : Int32)] (.int (0 : Int32)) := V11'
    have N11 := Fr.snoc X11 N10 gb1
    have ZH11 : n0 ≤ h11.size := by rw [W11.size]; exact ZH10
    have Zs11 : n0 ≤ T11.heap.size := by rw [e11]; exact ZH11
    refine own_pre (B := T11.setTop (mkF m 57 #[.val (.int p0), .val (.int p1), .val (.int p2), .unset, .unset, .unset] [(.ref b1)])) st11 ?_
    refine own_pre (B := T11.setTop (mkF m 58 #[.val (.int p0), .val (.int p1), .val (.int p2), .unset, .unset, .unset] [(.ref b1), (.ref b1)])) (fun t k => XS.dup X11.here hx rfl (hb hby at_57) rfl rfl k) ?_
    refine own_pre (B := T11.setTop (mkF m 60 #[.val (.int p0), .val (.int p1), .val (.int p2), .unset, .unset, .unset] [(.int (10 : Int32)), (.ref b1), (.ref b1)])) (fun t k => XS.bipush X11.here hx rfl (hb hby at_58) k) ?_
    refine own_pre (B := T11.setTop (mkF m 62 #[.val (.int p0), .val (.int p1), .val (.int p2), .unset, .unset, .unset] [(.int (65536 : Int32)), (.int (10 : Int32)), (.ref b1), (.ref b1)])) (fun t k => X11.ldcInt hx hown (mvT hZ (hw _ (List.mem_of_getElem? (i := 8) rfl))) (g := (mkF m 60 #[.val (.int p0), .val (.int p1), .val (.int p2), .unset, .unset, .unset] [(.int (10 : Int32)), (.ref b1), (.ref b1)])) rfl (hb hby at_60) _ k) ?_
    obtain ⟨T12, h12, X12, e12, W12, V12', st12⟩ := own_st X11 hx hZ e11 V11 (j := (10 : Int32)) (x := (65536 : Int32)) ⟨by decide, by decide⟩ 10 rfl (Nat.le_of_ble_eq_true rfl) (g := (mkF m 62 #[.val (.int p0), .val (.int p1), .val (.int p2), .unset, .unset, .unset] [(.int (65536 : Int32)), (.int (10 : Int32)), (.ref b1), (.ref b1)])) rfl rfl (hb hby at_62)
    have V12 : Arv Z h12 b1 k1 .int (11 : Int32) [.int (0 : Int32), .int (9 : Int32), .int (32 : Int32), .int (55296 : Int32), .int (57344 : Int32), .int (65534 : Int32), .int (1114112 : Int32), .int (-2147483648 : Int32), .int (2147483639 : Int32), .int (1114111 : Int32), .int (65536 : Int32)] (.int (0 : Int32)) := V12'
    have N12 := Fr.snoc X12 N11 gb1
    have ZH12 : n0 ≤ h12.size := by rw [W12.size]; exact ZH11
    have Zs12 : n0 ≤ T12.heap.size := by rw [e12]; exact ZH12
    refine own_pre (B := T12.setTop (mkF m 63 #[.val (.int p0), .val (.int p1), .val (.int p2), .unset, .unset, .unset] [(.ref b1)])) st12 ?_
    refine own_pre (B := T12.setTop (mkF m 64 #[.val (.int p0), .val (.int p1), .val (.int p2), .val (.ref b1), .unset, .unset] [])) (fun t k => XS.astoreN X12.here hx rfl (hb hby at_63) rfl rfl (l' := #[.val (.int p0), .val (.int p1), .val (.int p2), .val (.ref b1), .unset, .unset]) rfl k) ?_
    refine own_pre (B := T12.setTop (mkF m 65 #[.val (.int p0), .val (.int p1), .val (.int p2), .val (.ref b1), .unset, .unset] [(.int p1)])) (fun t k => XS.iloadN X12.here hx rfl (hb hby at_64) rfl k) ?_
    refine own_pre (B := T12.setTop (mkF m 67 #[.val (.int p0), .val (.int p1), .val (.int p2), .val (.ref b1), .unset, .unset] [(.int (2147483647 : Int32)), (.int p1)])) (fun t k => X12.ldcInt hx hown (mvT hZ (hw _ (List.mem_of_getElem? (i := 9) rfl))) (g := (mkF m 65 #[.val (.int p0), .val (.int p1), .val (.int p2), .val (.ref b1), .unset, .unset] [(.int p1)])) rfl (hb hby at_65) _ k) ?_
    refine own_pre (B := T12.setTop (mkF m 68 #[.val (.int p0), .val (.int p1), .val (.int p2), .val (.ref b1), .unset, .unset] [(.int (p1 &&& (2147483647 : Int32)))])) (fun t k => XS.iand X12.here hx rfl (hb hby at_67) rfl k) ?_
    refine own_pre (B := T12.setTop (mkF m 70 #[.val (.int p0), .val (.int p1), .val (.int p2), .val (.ref b1), .unset, .unset] [(.int (12 : Int32)), (.int (p1 &&& (2147483647 : Int32)))])) (fun t k => XS.bipush X12.here hx rfl (hb hby at_68) k) ?_
    refine own_pre (B := T12.setTop (mkF m 71 #[.val (.int p0), .val (.int p1), .val (.int p2), .val (.ref b1), .unset, .unset] [(.int ((p1 &&& (2147483647 : Int32)) % (12 : Int32)))])) (fun t k => iremM X12 hx rfl (hb hby at_70) rfl (by decide) k) ?_
    refine own_pre (B := T12.setTop (mkF m 73 #[.val (.int p0), .val (.int p1), .val (.int p2), .val (.ref b1), .val (.int ((p1 &&& (2147483647 : Int32)) % (12 : Int32))), .unset] [])) (fun t k => XS.istore X12.here hx rfl (hb hby at_71) rfl (l' := #[.val (.int p0), .val (.int p1), .val (.int p2), .val (.ref b1), .val (.int ((p1 &&& (2147483647 : Int32)) % (12 : Int32))), .unset]) rfl k) ?_
    refine own_pre (B := T12.setTop (mkF m 75 #[.val (.int p0), .val (.int p1), .val (.int p2), .val (.ref b1), .val (.int ((p1 &&& (2147483647 : Int32)) % (12 : Int32))), .unset] [(.int ((p1 &&& (2147483647 : Int32)) % (12 : Int32)))])) (fun t k => XS.iload X12.here hx rfl (hb hby at_73) rfl k) ?_
    refine own_pre (B := T12.setTop (mkF m 77 #[.val (.int p0), .val (.int p1), .val (.int p2), .val (.ref b1), .val (.int ((p1 &&& (2147483647 : Int32)) % (12 : Int32))), .unset] [(.int (11 : Int32)), (.int ((p1 &&& (2147483647 : Int32)) % (12 : Int32)))])) (fun t k => XS.bipush X12.here hx rfl (hb hby at_75) k) ?_
    by_cases hc13 : ((p1 &&& (2147483647 : Int32)) % (12 : Int32)) = (11 : Int32)
    · have hr14 := hr.trans (if_pos hc13)
      refine own_pre (B := T12.setTop (mkF m 80 #[.val (.int p0), .val (.int p1), .val (.int p2), .val (.ref b1), .val (.int ((p1 &&& (2147483647 : Int32)) % (12 : Int32))), .unset] [])) (fun t k => XS.icmpNo X12.here hx rfl (hb hby at_77) rfl (teq hc13).2 k) ?_
      refine own_pre (B := T12.setTop (mkF m 81 #[.val (.int p0), .val (.int p1), .val (.int p2), .val (.ref b1), .val (.int ((p1 &&& (2147483647 : Int32)) % (12 : Int32))), .unset] [(.int p0)])) (fun t k => XS.iloadN X12.here hx rfl (hb hby at_80) rfl k) ?_
      refine own_pre (B := T12.setTop (mkF m 83 #[.val (.int p0), .val (.int p1), .val (.int p2), .val (.ref b1), .val (.int ((p1 &&& (2147483647 : Int32)) % (12 : Int32))), .val (.int p0)] [])) (fun t k => XS.istore X12.here hx rfl (hb hby at_81) rfl (l' := #[.val (.int p0), .val (.int p1), .val (.int p2), .val (.ref b1), .val (.int ((p1 &&& (2147483647 : Int32)) % (12 : Int32))), .val (.int p0)]) rfl k) ?_
      refine own_pre (B := T12.setTop (mkF m 100 #[.val (.int p0), .val (.int p1), .val (.int p2), .val (.ref b1), .val (.int ((p1 &&& (2147483647 : Int32)) % (12 : Int32))), .val (.int p0)] [])) (fun t k => XS.goto X12.here hx rfl (pc0 := 83) (pc' := 100) rfl (hb hby at_83) (by decide) (by decide) k) ?_
      exact g_100 T12 _ X12 N12 Zs12 b1 ((p1 &&& (2147483647 : Int32)) % (12 : Int32)) p0 _ hr14
    · have hr15 := hr.trans (if_neg hc13)
      refine own_pre (B := T12.setTop (mkF m 86 #[.val (.int p0), .val (.int p1), .val (.int p2), .val (.ref b1), .val (.int ((p1 &&& (2147483647 : Int32)) % (12 : Int32))), .unset] [])) (fun t k => XS.icmpYes X12.here hx rfl (pc0 := 77) (pc' := 86) rfl (hb hby at_77) rfl (feq hc13).2 (by decide) (by decide) k) ?_
      refine own_pre (B := T12.setTop (mkF m 87 #[.val (.int p0), .val (.int p1), .val (.int p2), .val (.ref b1), .val (.int ((p1 &&& (2147483647 : Int32)) % (12 : Int32))), .unset] [(.ref b1)])) (fun t k => XS.aloadN X12.here hx rfl (hb hby at_86) rfl rfl k) ?_
      refine own_pre (B := T12.setTop (mkF m 89 #[.val (.int p0), .val (.int p1), .val (.int p2), .val (.ref b1), .val (.int ((p1 &&& (2147483647 : Int32)) % (12 : Int32))), .unset] [(.int ((p1 &&& (2147483647 : Int32)) % (12 : Int32))), (.ref b1)])) (fun t k => XS.iload X12.here hx rfl (hb hby at_87) rfl k) ?_
      refine own_pre (B := T12.setTop (mkF m 90 #[.val (.int p0), .val (.int p1), .val (.int p2), .val (.ref b1), .val (.int ((p1 &&& (2147483647 : Int32)) % (12 : Int32))), .unset] [(.int (own_base ((p1 &&& (2147483647 : Int32)) % (12 : Int32))))])) (own_ld X12 hx hZ e12 V12 (j := ((p1 &&& (2147483647 : Int32)) % (12 : Int32))) (v := (own_base ((p1 &&& (2147483647 : Int32)) % (12 : Int32)))) (own_idx p1 hc13) (own_base_at _) (g := (mkF m 89 #[.val (.int p0), .val (.int p1), .val (.int p2), .val (.ref b1), .val (.int ((p1 &&& (2147483647 : Int32)) % (12 : Int32))), .unset] [(.int ((p1 &&& (2147483647 : Int32)) % (12 : Int32))), (.ref b1)])) rfl rfl (hb hby at_89)) ?_
      refine own_pre (B := T12.setTop (mkF m 91 #[.val (.int p0), .val (.int p1), .val (.int p2), .val (.ref b1), .val (.int ((p1 &&& (2147483647 : Int32)) % (12 : Int32))), .unset] [(.int p2), (.int (own_base ((p1 &&& (2147483647 : Int32)) % (12 : Int32))))])) (fun t k => XS.iloadN X12.here hx rfl (hb hby at_90) rfl k) ?_
      refine own_pre (B := T12.setTop (mkF m 93 #[.val (.int p0), .val (.int p1), .val (.int p2), .val (.ref b1), .val (.int ((p1 &&& (2147483647 : Int32)) % (12 : Int32))), .unset] [(.int (15 : Int32)), (.int p2), (.int (own_base ((p1 &&& (2147483647 : Int32)) % (12 : Int32))))])) (fun t k => XS.bipush X12.here hx rfl (hb hby at_91) k) ?_
      refine own_pre (B := T12.setTop (mkF m 94 #[.val (.int p0), .val (.int p1), .val (.int p2), .val (.ref b1), .val (.int ((p1 &&& (2147483647 : Int32)) % (12 : Int32))), .unset] [(.int (p2 &&& (15 : Int32))), (.int (own_base ((p1 &&& (2147483647 : Int32)) % (12 : Int32))))])) (fun t k => XS.iand X12.here hx rfl (hb hby at_93) rfl k) ?_
      refine own_pre (B := T12.setTop (mkF m 96 #[.val (.int p0), .val (.int p1), .val (.int p2), .val (.ref b1), .val (.int ((p1 &&& (2147483647 : Int32)) % (12 : Int32))), .unset] [(.int (8 : Int32)), (.int (p2 &&& (15 : Int32))), (.int (own_base ((p1 &&& (2147483647 : Int32)) % (12 : Int32))))])) (fun t k => XS.bipush X12.here hx rfl (hb hby at_94) k) ?_
      refine own_pre (B := T12.setTop (mkF m 97 #[.val (.int p0), .val (.int p1), .val (.int p2), .val (.ref b1), .val (.int ((p1 &&& (2147483647 : Int32)) % (12 : Int32))), .unset] [(.int ((p2 &&& (15 : Int32)) - (8 : Int32))), (.int (own_base ((p1 &&& (2147483647 : Int32)) % (12 : Int32))))])) (fun t k => XS.isub X12.here hx rfl (hb hby at_96) rfl k) ?_
      refine own_pre (B := T12.setTop (mkF m 98 #[.val (.int p0), .val (.int p1), .val (.int p2), .val (.ref b1), .val (.int ((p1 &&& (2147483647 : Int32)) % (12 : Int32))), .unset] [(.int ((own_base ((p1 &&& (2147483647 : Int32)) % (12 : Int32))) + ((p2 &&& (15 : Int32)) - (8 : Int32))))])) (fun t k => XS.iadd X12.here hx rfl (hb hby at_97) rfl k) ?_
      refine own_pre (B := T12.setTop (mkF m 100 #[.val (.int p0), .val (.int p1), .val (.int p2), .val (.ref b1), .val (.int ((p1 &&& (2147483647 : Int32)) % (12 : Int32))), .val (.int ((own_base ((p1 &&& (2147483647 : Int32)) % (12 : Int32))) + ((p2 &&& (15 : Int32)) - (8 : Int32))))] [])) (fun t k => XS.istore X12.here hx rfl (hb hby at_98) rfl (l' := #[.val (.int p0), .val (.int p1), .val (.int p2), .val (.ref b1), .val (.int ((p1 &&& (2147483647 : Int32)) % (12 : Int32))), .val (.int ((own_base ((p1 &&& (2147483647 : Int32)) % (12 : Int32))) + ((p2 &&& (15 : Int32)) - (8 : Int32))))]) rfl k) ?_
      exact g_100 T12 _ X12 N12 Zs12 b1 ((p1 &&& (2147483647 : Int32)) % (12 : Int32)) ((own_base ((p1 &&& (2147483647 : Int32)) % (12 : Int32))) + ((p2 &&& (15 : Int32)) - (8 : Int32))) _ hr15
  exact own_pre pre0 (g_0 _ rfl)
/-! the plain law -/
theorem own_int {c : Int32} (k : Int32) {a : Int} (h : k.toInt = a) : c = k ↔ c.toInt = a := ⟨fun q => by rw [q, h], fun q => Int32.toInt_inj.mp (q.trans h.symm)⟩
theorem own_f42 (c : Int32) : f1_42 c = if 65536 ≤ c.toInt ∧ c.toInt ≤ 1114111 then 1 else 0 := by
  unfold f1_42
  simp only [Int32.lt_iff_toInt_lt, Int32.reduceToInt]
  split
  · rw [if_neg (by omega)]; rfl
  · split
    · rw [if_neg (by omega)]; rfl
    · rw [if_pos (by omega)]; rfl
theorem own_f12 (c : Int32) : f1_12 c = if c.toInt = 9 ∨ c.toInt = 10 ∨ c.toInt = 13 ∨ (57344 ≤ c.toInt ∧ c.toInt ≤ 65533) ∨ (65536 ≤ c.toInt ∧ c.toInt ≤ 1114111) then 1 else 0 := by
  unfold f1_12
  rw [own_f42]
  simp only [Int32.lt_iff_toInt_lt, Int32.reduceToInt, own_int (c := c) 9 (a := 9) rfl, own_int (c := c) 10 (a := 10) rfl, own_int (c := c) 13 (a := 13) rfl]
  generalize c.toInt = n
  by_cases h1 : n = 9
  · rw [if_pos h1, if_pos (by omega)]; rfl
  by_cases h2 : n = 10
  · rw [if_neg h1, if_pos h2, if_pos (by omega)]; rfl
  by_cases h3 : n = 13
  · rw [if_neg h1, if_neg h2, if_pos h3, if_pos (by omega)]; rfl
  rw [if_neg h1, if_neg h2, if_neg h3]
  by_cases h6 : 65536 ≤ n ∧ n ≤ 1114111
  · rw [if_pos h6, if_neg (by omega), if_pos (by omega), if_pos (by omega)]
  rw [if_neg h6]
  by_cases h4 : n < 57344
  · rw [if_pos h4, if_neg (by omega)]
  rw [if_neg h4]
  by_cases h5 : 65533 < n
  · rw [if_pos h5, if_neg (by omega)]
  rw [if_neg h5, if_pos (by omega)]; rfl
theorem own_f1 (c : Int32) : f1_0 c = if (32 ≤ c.toInt ∧ c.toInt ≤ 55295) ∨ c.toInt = 9 ∨ c.toInt = 10 ∨ c.toInt = 13 ∨ (57344 ≤ c.toInt ∧ c.toInt ≤ 65533) ∨ (65536 ≤ c.toInt ∧ c.toInt ≤ 1114111) then 1 else 0 := by
  unfold f1_0
  rw [own_f12]
  simp only [Int32.lt_iff_toInt_lt, Int32.reduceToInt]
  generalize c.toInt = n
  by_cases h1 : 32 ≤ n ∧ n ≤ 55295
  · rw [if_neg (by omega), if_neg (by omega), if_pos (by omega)]; rfl
  by_cases h2 : n = 9 ∨ n = 10 ∨ n = 13 ∨ (57344 ≤ n ∧ n ≤ 65533) ∨ (65536 ≤ n ∧ n ≤ 1114111)
  · rw [if_pos h2, if_pos (Or.inr h2)]
    by_cases h3 : n < 32
    · rw [if_pos h3]
    · rw [if_neg h3, if_pos (by omega)]
  · rw [if_neg h2]
    by_cases h3 : n < 32
    · rw [if_pos h3, if_neg (by omega)]
    · rw [if_neg h3, if_pos (show 55295 < n by omega), if_neg (by omega)]
theorem own_f56 (c : Int32) : f2_56 c = if c.toInt = 65534 ∨ c.toInt = 65535 then 0 else 1 := by
  unfold f2_56 f2_68
  simp only [own_int (c := c) 65534 (a := 65534) rfl, own_int (c := c) 65535 (a := 65535) rfl]
  split
  · rw [if_pos (by omega)]; rfl
  · split
    · rw [if_pos (by omega)]; rfl
    · rw [if_neg (by omega)]; rfl
theorem own_f2 (c : Int32) : f2_0 c = if (32 ≤ c.toInt ∧ c.toInt ≤ 55295) ∨ c.toInt = 9 ∨ c.toInt = 10 ∨ c.toInt = 13 ∨ (57344 ≤ c.toInt ∧ c.toInt ≤ 65533) ∨ (65536 ≤ c.toInt ∧ c.toInt ≤ 1114111) then 1 else 0 := by
  unfold f2_0
  rw [own_f56]
  simp only [Int32.lt_iff_toInt_lt, Int32.reduceToInt, own_int (c := c) 9 (a := 9) rfl, own_int (c := c) 10 (a := 10) rfl, own_int (c := c) 13 (a := 13) rfl]
  generalize hn : c.toInt = n
  by_cases h1 : n < 0
  · rw [if_pos h1, if_neg (by omega)]; rfl
  rw [if_neg h1]
  by_cases h2 : 1114111 < n
  · rw [if_pos h2, if_neg (by omega)]; rfl
  rw [if_neg h2]
  by_cases h3 : n < 32
  · rw [if_pos h3]
    by_cases h4 : n = 9
    · rw [if_pos h4, if_pos (by omega)]; rfl
    rw [if_neg h4]
    by_cases h5 : n = 10
    · rw [if_pos h5, if_pos (by omega)]; rfl
    rw [if_neg h5]
    by_cases h6 : n = 13
    · rw [if_pos h6, if_pos (by omega)]; rfl
    rw [if_neg h6, if_neg (by omega)]; rfl
  rw [if_neg h3]
  by_cases h7 : n = 65534 ∨ n = 65535
  · rw [if_pos h7, if_neg (show ¬ n < 55296 by omega), if_pos (show 57343 < n by omega), if_neg (by omega)]
  rw [if_neg h7]
  by_cases h8 : n < 55296
  · rw [if_pos h8, if_pos (by omega)]
  rw [if_neg h8]
  by_cases h9 : 57343 < n
  · rw [if_pos h9, if_pos (by omega)]
  rw [if_neg h9, if_neg (by omega)]; rfl
theorem own_f100 (a b d i j : Int32) : f0_100 a b d i j = 1 := by
  unfold f0_100
  rw [if_pos (by rw [own_f1, own_f2])]; rfl
theorem own_law (a b d : Int32) : f0_0 a b d = 1 := by
  unfold f0_0
  rw [own_f100, own_f100]
  split <;> rfl
set_option maxRecDepth 65536 in
set_option maxHeartbeats 40000000 in
theorem comes_1 {Post : Tables → Env → Array Value → State → Outcome → State → Prop} (hpost : ∀ tb e args s v u, (limb_1_1.after args s (.returned v) u = true ∧ limb_1_2.after args s (.returned v) u = true ∧ True) → FrameEnd s (.returned v) u (Jvm.fieldLocs frame_1_writes args s ++ Jvm.arrayLocs frame_1_arrays args s ++ Jvm.staticLocs frame_1_statics s) 16 128 → Post tb e args s (.returned v) u) :
    ArmFor flags0 classFile x code maxLocals ret World_1 tables_1 room_1 Calls_1 rest_1 Pre_1 Post := by
  intro l hfl _ _ p e ha hc hk s m args below hf hA hF happ hP
  obtain ⟨hcalls, hrest, hpre⟩ := hP
  obtain ⟨-, -, -, hnamed, -, -, -, hat⟩ := (Spec.applies_iff hf).mp happ
  obtain ⟨hg, hn⟩ := and_e (Cond.before_iff.mp (show (Jvm.Cond.and given_1 narrow_1).before args s = true from hpre))
  obtain ⟨gg1, gg2⟩ := and_e hg
  obtain ⟨gg3, gg4⟩ := and_e gg2
  obtain ⟨gg5, gg6⟩ := and_e gg4
  obtain ⟨w0, w1, w2, rfl⟩ : ∃ w0 w1 w2 : Value, args = #[w0, w1, w2] := by
    have hs : args.size = 3 := by simpa [Cond.value, given_1] using gg1
    obtain ⟨L⟩ := args
    match L, hs with
    | [w0, w1, w2], _ => exact ⟨w0, w1, w2, rfl⟩
  have hw := fun d (hd : d ∈ tables_1) => atoms_spec (ws := Jvm.Cond.code x code maxLocals ret :: tables_1) hat d (List.mem_cons_of_mem _ hd)
  obtain ⟨i0, ei0⟩ := is_v gg3
  obtain rfl : w0 = (.int i0) := Option.some.inj ei0
  obtain ⟨i1, ei1⟩ := is_v gg5
  obtain rfl : w1 = (.int i1) := Option.some.inj ei1
  obtain ⟨i2, ei2⟩ := is_v gg6
  obtain rfl : w2 = (.int i2) := Option.some.inj ei2
  obtain ⟨n, o, h1, h2, h3, _, L, rfl, ⟨rfl, N⟩, hq⟩ := rm0 l s _ hw tables_1 i0 i1 i2 s.heap s.heap.size (Nat.le_refl _) p e ha hc hk s m _ below hf ((Spec.applies_iff_loose hf).mp happ).1 ⟨rfl, State.Warmed39.refl s, rfl⟩ trivial
  refine ⟨n, _, h1, h2, h3, hpost _ _ _ _ _ _ ⟨Cond.after_iff.mpr rfl, Cond.after_iff.mpr (eq_i res_at (Term.int_eval (1)) (congrArg Value.int (own_law i0 i1 i2))), trivial⟩ ⟨hq.1, hq.2.1, (hq.2.2.sift fun y hy => Or.inr (N y hy)).mono (by decide) (by decide)⟩⟩
theorem main_1_1 : Claimed_1_1 := comes_1 fun _ _ _ _ _ _ h hF => ⟨h.1, hF⟩
theorem main_1_2 : Claimed_1_2 := comes_1 fun _ _ _ _ _ _ h hF => ⟨h.2.1, hF⟩
end Jvm.Pilot.@@N@@
namespace Jvm.Pilot.@@N@@
open Jvm Jvm.ClassFile Sem Op Lib Jvm.Free Jvm.Stand Jvm.Pilot.@@N@@.Jvm.D
/-! MADE BY PROGRAM (witnessworld.py) out of the Statement's table words and the real class files: 9 classes; the members and pool entries that the words name. The judged class is class 1, her method 2. -/
namespace start1
open Jvm.ClassFile
def u (s : String) : CpInfo := .utf8 (stringToUtf16 s)
/-- a pool by its gaps: so many unusable entries, then the entry; so many at the end -/
def gap : Nat → List CpInfo → List CpInfo
  | 0, r => r
  | n + 1, r => .unusable :: gap n r
def poolList (es : List (Nat × CpInfo)) (last : Nat) : List CpInfo := es.foldr (fun e r => gap e.1 (e.2 :: r)) (gap last [])
def pool (es : List (Nat × CpInfo)) (last : Nat) : Array CpInfo := ⟨poolList es last⟩
def fileOf (pool : Array CpInfo) (this : Nat) (attrs : Array Attribute := #[]) (ms : Array MethodInfo := #[]) (fl : Nat := 33) (sup : Nat := 0) (ifs : Array Nat := #[]) (fds : Array FieldInfo := #[]) : ClassFile where
  minorVersion := 0
  majorVersion := 65
  constantPool := pool
  accessFlags := fl
  thisClass := this
  superClass := sup
  interfaces := ifs
  fields := fds
  methods := ms
  attributes := attrs
def plain (name : String) (sup : Option ClassId) : Class where
  name := name
  kind := .ordinary
  loader := none
  accessFlags := 33
  super := sup
  interfaces := #[]
  cf := none
  fields := #[]
  methods := #[]
  instanceTypes := #[]
  staticTypes := #[]
  resolved := #[]
  callSites := []
  init := .initialized
  statics := none
  mirror := none

def pool0 : Array CpInfo := pool [(5, u "<init>"), (0, u "()V"), (1, .class_ 10), (1, u "java/lang/Object")] 113

def k0m0 : Method := { name := "<init>", desc := "()V", sig := { parameters := [], returnType := none }, accessFlags := 1, code := none }
/-- java/lang/Object -/
def k0 : Class := { plain "java/lang/Object" none with
  accessFlags := 33
  interfaces := #[]
  cf := some (fileOf pool0 8 #[] #[{ accessFlags := 1, nameIndex := 5, descriptorIndex := 6, attributes := #[] }] 33 0 #[] #[])
  fields := #[]
  methods := #[k0m0]
  instanceTypes := #[]
  staticTypes := #[]
  resolved := Array.replicate 124 none
  statics := none }

def pool1 : Array CpInfo := pool [(2, .class_ 4), (1, u "java/lang/Object"), (0, u "<init>"), (0, u "()V"), (0, .integer 1114111), (0, .integer 55296), (0, .integer 57343), (0, .integer 65534), (0, .integer 65535), (0, .integer 57344), (0, .integer 1114112), (2, .integer 2147483648), (0, .integer 2147483639), (0, .integer 65536), (0, .integer 2147483647), (0, .methodref 21 22), (0, .class_ 23), (0, .nameAndType 24 25), (0, u "com/example/amberwire/amberwire/XmlCharacters"), (0, u "isCharacter"), (0, u "(I)Z"), (0, .methodref 27 28), (0, .class_ 29), (0, .nameAndType 30 25), (0, u "com/example/amberwire/amberwire/XmlCharactersIsCharacterPinLaw"), (0, u "expected"), (3, u "law"), (0, u "(III)Z")] 4

def k1m0 : Method := { name := "<init>", desc := "()V", sig := { parameters := [], returnType := none }, accessFlags := 2, code := none }
def k1c1 : Code := { maxStack := 2, maxLocals := 1, code := method_2_code, exceptionTable := #[], attributes := #[] }
def k1m1 : Method := { name := "expected", desc := "(I)Z", sig := { parameters := [.int], returnType := some .boolean }, accessFlags := 10, code := some k1c1 }
def k1c2 : Code := { maxStack := 4, maxLocals := 6, code := code, exceptionTable := #[], attributes := #[] }
def k1m2 : Method := { name := "law", desc := "(III)Z", sig := { parameters := [.int, .int, .int], returnType := some .boolean }, accessFlags := 9, code := some k1c2 }
/-- com/example/amberwire/amberwire/XmlCharactersIsCharacterPinLaw -/
def k1 : Class := { plain "com/example/amberwire/amberwire/XmlCharactersIsCharacterPinLaw" (some 0) with
  accessFlags := 49
  interfaces := #[]
  cf := some (fileOf pool1 27 #[] #[{ accessFlags := 2, nameIndex := 5, descriptorIndex := 6, attributes := #[] }, { accessFlags := 10, nameIndex := 30, descriptorIndex := 25, attributes := #[] }, { accessFlags := 9, nameIndex := 34, descriptorIndex := 35, attributes := #[] }] 49 2 #[] #[])
  fields := #[]
  methods := #[k1m0, k1m1, k1m2]
  instanceTypes := #[]
  staticTypes := #[]
  resolved := Array.replicate 40 none
  statics := none }

def pool2 : Array CpInfo := pool [(2, .class_ 4), (1, u "java/lang/Object"), (0, u "<init>"), (0, u "()V"), (0, .integer 55295), (0, .integer 57344), (0, .integer 65533), (0, .integer 65536), (2, .integer 1114111), (11, .class_ 27), (1, u "com/example/amberwire/amberwire/XmlCharacters"), (0, u "isCharacter"), (0, u "(I)Z"), (31, u "REPLACEMENT"), (0, u "I")] 13

def k2m0 : Method := { name := "<init>", desc := "()V", sig := { parameters := [], returnType := none }, accessFlags := 2, code := none }
def k2c1 : Code := { maxStack := 2, maxLocals := 1, code := prog_140_method_2_code, exceptionTable := #[], attributes := #[] }
def k2m1 : Method := { name := "isCharacter", desc := "(I)Z", sig := { parameters := [.int], returnType := some .boolean }, accessFlags := 8, code := some k2c1 }
/-- com/example/amberwire/amberwire/XmlCharacters -/
def k2 : Class := { plain "com/example/amberwire/amberwire/XmlCharacters" (some 0) with
  accessFlags := 48
  interfaces := #[]
  cf := some (fileOf pool2 25 #[] #[{ accessFlags := 2, nameIndex := 5, descriptorIndex := 6, attributes := #[] }, { accessFlags := 8, nameIndex := 28, descriptorIndex := 29, attributes := #[] }] 48 2 #[] #[{ accessFlags := 26, nameIndex := 61, descriptorIndex := 62, attributes := #[] }])
  fields := #[{ name := "REPLACEMENT", type := .int, accessFlags := 26, slot := 0, constantValue := 0 }]
  methods := #[k2m0, k2m1]
  instanceTypes := #[]
  staticTypes := #[.int]
  resolved := Array.replicate 76 none
  statics := none }

def pool3 : Array CpInfo := pool [(1, u "java/lang/Cloneable"), (0, .class_ 1), (0, u "java/lang/Object"), (0, .class_ 3)] 3

/-- java/lang/Cloneable -/
def k3 : Class := { plain "java/lang/Cloneable" (some 0) with
  accessFlags := 1537
  interfaces := #[]
  cf := some (fileOf pool3 2 #[] #[] 1537 4 #[] #[])
  fields := #[]
  methods := #[]
  instanceTypes := #[]
  staticTypes := #[]
  resolved := Array.replicate 8 none
  statics := none }

def pool4 : Array CpInfo := pool [(1, u "java/io/Serializable"), (0, .class_ 1), (0, u "java/lang/Object"), (0, .class_ 3)] 3

/-- java/io/Serializable -/
def k4 : Class := { plain "java/io/Serializable" (some 0) with
  accessFlags := 1537
  interfaces := #[]
  cf := some (fileOf pool4 2 #[] #[] 1537 4 #[] #[])
  fields := #[]
  methods := #[]
  instanceTypes := #[]
  staticTypes := #[]
  resolved := Array.replicate 8 none
  statics := none }

/-- the primitive byte -/
def k5 : Class := { plain "byte" none with kind := .primitive 'B', accessFlags := 0x411 }
/-- [B -/
def k6 : Class := { plain "[B" (some 0) with kind := .array 5 .byte, interfaces := #[3, 4], accessFlags := 1041 }

/-- the primitive int -/
def k7 : Class := { plain "int" none with kind := .primitive 'I', accessFlags := 0x411 }
/-- [I -/
def k8 : Class := { plain "[I" (some 0) with kind := .array 7 .int, interfaces := #[3, 4], accessFlags := 1041 }

def heap : Heap := #[]
def classes : Array Class := #[k0, k1, k2, k3, k4, k5, k6, k7, k8]
def interned : List (Array UInt16 × Addr) := []
def slotsUsed : Nat := 0
def theMethod : MethodId := ⟨1, 2⟩
def args0 : Array Value := #[.int 5, .int 7, .int 3]
def aboutOver (below : List Frame) : State where
  vm := { classes := classes, interned := interned.toArray }
  heap := heap
  slotsUsed := slotsUsed
  threads := #[{ frames := .invoking theMethod args0 :: below }]
def below0 : List Frame := [.native { method := ⟨0, 0⟩, args := #[] }]
def about1 : State := aboutOver below0
def p0 : Program := .bare "" "" ""
def e0 : Env := launch0.env 0 0 0
theorem w_frames : about1.frames = Frame.invoking theMethod args0 :: below0 := rfl
set_option maxRecDepth 65536 in
theorem w_args : argsFit about1.vm theMethod args0 = true := by decide +kernel
set_option maxRecDepth 65536 in
theorem w_heap : heapFits about1 = true := by decide +kernel
set_option maxRecDepth 65536 in
theorem w_runnable : about1.curStatus? = some .runnable := by decide +kernel
set_option maxRecDepth 65536 in
theorem w_alone : about1.alone = true := by decide +kernel
set_option maxRecDepth 65536 in
theorem w_named : about1.methodNamed? x = some theMethod := by decide +kernel
set_option maxRecDepth 65536 in
theorem w_hears : about1.hears theMethod below0 = true := by decide +kernel
set_option maxRecDepth 65536 in
theorem w_ripe : about1.ripe theMethod args0 below0 = true := by decide +kernel
theorem w_running : about1.status = .running := rfl
set_option maxRecDepth 65536 in
theorem w_room : about1.hasRoom e0.platform room_1 = true :=
  launch0.hasRoom_least _ room_1 (by decide +kernel) (by decide +kernel) (by decide +kernel) (by decide +kernel) (by decide +kernel) (by decide +kernel)
theorem allAtoms_all (ts : List Jvm.Cond) (a : Array Jvm.Value) (st : Jvm.State) : (allAtoms ts).before a st = ts.all (fun c => c.before a st) := by
  induction ts with
  | nil => rfl
  | cons c t ih =>
    show (Jvm.Cond.and c (allAtoms t)).before a st = _
    rw [Jvm.Cond.before_and, ih, List.all_cons]
def words1 : List Jvm.Cond := Jvm.Cond.code x code maxLocals ret :: tables_1
/-- a 'code' word, met by the world's own term for the bytes: nothing is compared byte by byte -/
theorem code_word {y : MethodName} {bytes : ByteArray} {mx : Nat} {rt : Option FieldType} {a : Array Value} {s : State} {m : MethodId} {meth : Method} {c : Code} (h1 : s.methodNamed? y = some m) (h2 : s.vm.method? m = some meth) (h3 : meth.code = some c) (h4 : c.code = bytes)
    (h5 : (c.maxLocals == mx && c.exceptionTable.isEmpty && decide (c.maxStack ≤ mostOperands) && decide (meth.sig.returnType = rt) && !meth.locks && decide (parseMethodDescriptor y.desc = some meth.sig)) = true) : (Jvm.Cond.code y bytes mx rt).before a s = true := by
  simp only [Bool.and_eq_true, beq_iff_eq, Bool.not_eq_true', decide_eq_true_eq] at h5
  obtain ⟨⟨⟨⟨⟨g1, g2⟩, g3⟩, g4⟩, g5⟩, g6⟩ := h5
  simp [Cond.before, Cond.holds, Cond.value, h1, h2, h3, h4, g1, g2, g3, g4, g5, g6]
def isCode : Jvm.Cond → Bool
  | .code _ _ _ _ => true
  | _ => false
theorem all_split {L : List Jvm.Cond} {P : Jvm.Cond → Bool} (h1 : L.all (fun c => isCode c || P c) = true) (h2 : ∀ c ∈ L.filter isCode, P c = true) : L.all P = true := by
  refine List.all_eq_true.mpr fun c hc => ?_
  have h := List.all_eq_true.mp h1 c hc
  rcases Bool.eq_false_or_eq_true (isCode c) with hi | hi
  · exact h2 c (List.mem_filter.mpr ⟨hc, hi⟩)
  · simpa [hi] using h
set_option maxRecDepth 65536 in
theorem w_c0 : (Jvm.Cond.code x code maxLocals ret).before args0 about1 = true := code_word (m := ⟨1, 2⟩) (meth := k1m2) (c := k1c2) (by decide +kernel) rfl rfl rfl (by decide +kernel)
set_option maxRecDepth 65536 in
theorem w_c1 : (Jvm.Cond.code ({ cls := "com/example/amberwire/amberwire/XmlCharacters", name := "isCharacter", desc := "(I)Z" } : Jvm.MethodName) prog_140_method_2_code (1 : Nat) (Option.some Jvm.ClassFile.FieldType.boolean)).before args0 about1 = true := code_word (m := ⟨2, 1⟩) (meth := k2m1) (c := k2c1) (by decide +kernel) rfl rfl rfl (by decide +kernel)
set_option maxRecDepth 65536 in
theorem w_c2 : (Jvm.Cond.code ({ cls := "com/example/amberwire/amberwire/XmlCharactersIsCharacterPinLaw", name := "expected", desc := "(I)Z" } : Jvm.MethodName) method_2_code (1 : Nat) (Option.some Jvm.ClassFile.FieldType.boolean)).before args0 about1 = true := code_word (m := ⟨1, 1⟩) (meth := k1m1) (c := k1c1) (by decide +kernel) rfl rfl rfl (by decide +kernel)
def codes1 : List Jvm.Cond := [Jvm.Cond.code x code maxLocals ret, Jvm.Cond.code ({ cls := "com/example/amberwire/amberwire/XmlCharacters", name := "isCharacter", desc := "(I)Z" } : Jvm.MethodName) prog_140_method_2_code (1 : Nat) (Option.some Jvm.ClassFile.FieldType.boolean), Jvm.Cond.code ({ cls := "com/example/amberwire/amberwire/XmlCharactersIsCharacterPinLaw", name := "expected", desc := "(I)Z" } : Jvm.MethodName) method_2_code (1 : Nat) (Option.some Jvm.ClassFile.FieldType.boolean)]
set_option maxRecDepth 65536 in
theorem codes_eq : words1.filter isCode = codes1 := rfl
theorem w_codes : ∀ c ∈ words1.filter isCode, c.before args0 about1 = true := by
  rw [codes_eq]
  intro c hc
  simp only [codes1, List.mem_cons, List.not_mem_nil, or_false] at hc
  rcases hc with rfl | rfl | rfl
  · exact w_c0
  · exact w_c1
  · exact w_c2
set_option maxRecDepth 65536 in
theorem w_t1 : (words1.take 24).all (fun c => isCode c || c.before args0 about1) = true := by decide +kernel
set_option maxRecDepth 65536 in
theorem w_t2 : (words1.drop 24).all (fun c => isCode c || c.before args0 about1) = true := by decide +kernel
theorem w_tables : (allAtoms (Jvm.Cond.code x code maxLocals ret :: tables_1)).before args0 about1 = true := by
  rw [allAtoms_all]
  show words1.all (fun c => c.before args0 about1) = true
  refine all_split ?_ w_codes
  rw [← List.take_append_drop 24 words1, List.all_append, w_t1, w_t2]
  rfl
set_option maxRecDepth 65536 in
theorem w_case : (Jvm.Cond.and given_1 narrow_1).before args0 about1 = true := by decide +kernel
theorem w_applies : (headSpec (Jvm.Cond.code x code maxLocals ret :: tables_1) room_1).applies x e0.platform about1 = true :=
  (Spec.applies_iff w_frames).mpr ⟨w_running, w_runnable, w_alone, w_named, w_hears, w_ripe, w_room, w_tables⟩
theorem atStart : AtStart classFile x code maxLocals ret World_1 tables_1 room_1 Calls_1 rest_1 Pre_1 launch0 p0 e0 about1 theMethod args0 below0 :=
  ⟨lists_1, trivial, launch0.admits_env _ _ _, launch0.least_env, fairChoices_fair.cas, fairChoices_fair.clock, w_frames, w_args, w_heap, w_applies, trivial, trivial, w_case⟩
end start1
theorem witness_1 : WitnessClaimed_1 := ⟨start1.p0, start1.e0, start1.about1, start1.theMethod, start1.args0, start1.below0, start1.atStart⟩
end Jvm.Pilot.@@N@@
