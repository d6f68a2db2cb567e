import JvmDerived
import JvmDerived.Pilot.@@N@@Statement
import JvmDerived.Pilot.@@N@@Code
set_option linter.unusedVariables false
set_option linter.unusedSimpArgs false
namespace Jvm.RoadKit
open Sem ClassFile Op Lib Jvm.Stand Jvm.Free Jvm.LawKit
section New
variable {p : Program} {l : Launch} {e : Env} {R : Room} {s : State} {m : MethodId} {args : Array Value} {below : List Frame} {meth : Method} {c : Code} {T : State} {locs : List Loc} {cells slots : Nat}
theorem retI (X : Stand p l e R s m args below meth c T locs cells slots) (hx : p.tables.exec = Jvm.exec) {pc : Nat} {Ls : Array Slot} {z : Int32} {rest : List Value} (hret : meth.sig.returnType = some .int) (hd : decode c.code pc = .ok (.ireturn, 1)) {fs : List Frame}
    (hl : ∀ (f : JFrame) (acts : List Action), f.method = m → f.locked = none → f.entered = [] → (doReturn e (T.setTop f) acts (some (.int z))).1 = T.setFrames fs) : Steps p.tables e below (T.setTop (mkF m pc Ls (.int z :: rest))) (T.setFrames fs) := by
  have hm' : T.vm.method? m = some meth := X.method'
  have hn : narrow .int (.int z) = .int z := rfl
  show Steps p.tables e below (T.setTop { method := m, pc := pc, locals := Ls, stack := _ :: rest, locked := none }) _
  jvm_step X.here [X.here.top, hx, hd, hm', hret, hn]
  first | (intro acts; rw [hl _ acts rfl rfl rfl]) | rw [hl _ _ rfl rfl rfl]
  exact Steps.refl _
end New
end Jvm.RoadKit
namespace Jvm.Pilot.@@N@@
open Jvm Jvm.ClassFile Sem Op Lib Jvm.Free Jvm.Stand Jvm.LawKit Jvm.RoadKit Bundle Jvm.Pilot.@@N@@.Jvm.D
/-! 0. what is still to be walked, as one predicate: from A the invocation comes to its end, and Q says how it ends -/
def own_Fin (p : Program) (e : Env) (below : List Frame) (s : State) (Q : Option Value → Heap → List Loc → Prop) (k n : Nat) (A : State) : Prop :=
  ∃ s₂ o, Steps p.tables e below A s₂ ∧ s₂.status = .running ∧ Ended s₂ below o ∧ ∃ v L, o = .returned v ∧ Q v s₂.heap L ∧ FrameEnd s o s₂ L k n
section Own
variable {p : Program} {l : Launch} {e : Env} {R : Room} {s : State} {m : MethodId} {args : Array Value} {below : List Frame} {meth : Method} {c : Code} {T : State} {locs : List Loc} {cells slots k n : Nat} {Q : Option Value → Heap → List Loc → Prop} {A B : State}
theorem own_pre (h : ∀ t, Steps p.tables e below B t → Steps p.tables e below A t) (q : own_Fin p e below s Q k n B) : own_Fin p e below s Q k n A := by
  obtain ⟨s₂, o, h1, h2⟩ := q; exact ⟨s₂, o, h _ h1, h2⟩
theorem own_retZ (X : Stand p l e R s m args below meth c T locs cells slots) (hx : p.tables.exec = Jvm.exec) (hlk : meth.locks = false) {pc : Nat} {Ls : Array Slot} {z : Int32} {rest : List Value} (hret : meth.sig.returnType = some .boolean) (hd : decode c.code pc = .ok (.ireturn, 1))
    (hQ : Q (some (.int (z &&& 1))) T.heap locs) (hk : cells ≤ k) (hn : slots ≤ n) : own_Fin p e below s Q k n (T.setTop (mkF m pc Ls (.int z :: rest))) := by
  obtain ⟨fs, hr, hrun, hended, hW, hsame⟩ := X.leave (v := some (.int (z &&& 1))) (fun h => by rw [hret] at h; cases h) hlk
  exact ⟨_, _, retN X hx (t := .boolean) hret (by simp) hd hr, hrun, hended, _, _, rfl, hQ, ⟨_, rfl⟩, hW, hsame.mono hk hn⟩
theorem own_retI (X : Stand p l e R s m args below meth c T locs cells slots) (hx : p.tables.exec = Jvm.exec) (hlk : meth.locks = false) {pc : Nat} {Ls : Array Slot} {z : Int32} {rest : List Value} (hret : meth.sig.returnType = some .int) (hd : decode c.code pc = .ok (.ireturn, 1))
    (hQ : Q (some (.int z)) T.heap locs) (hk : cells ≤ k) (hn : slots ≤ n) : own_Fin p e below s Q k n (T.setTop (mkF m pc Ls (.int z :: rest))) := by
  obtain ⟨fs, hr, hrun, hended, hW, hsame⟩ := X.leave (v := some (.int z)) (fun h => by rw [hret] at h; cases h) hlk
  exact ⟨_, _, retI X hx hret hd hr, hrun, hended, _, _, rfl, hQ, ⟨_, rfl⟩, hW, hsame.mono hk hn⟩
theorem own_retJ (X : Stand p l e R s m args below meth c T locs cells slots) (hx : p.tables.exec = Jvm.exec) (hlk : meth.locks = false) {pc : Nat} {Ls : Array Slot} {z : Int64} (hret : meth.sig.returnType = some .long) (hd : decode c.code pc = .ok (.lreturn, 1))
    (hQ : Q (some (.long z)) T.heap locs) (hk : cells ≤ k) (hn : slots ≤ n) : own_Fin p e below s Q k n (T.setTop (mkF m pc Ls [.long z])) := by
  obtain ⟨fs, hr, hrun, hended, hW, hsame⟩ := X.leave (v := some (.long z)) (fun h => by rw [hret] at h; cases h) hlk
  exact ⟨_, _, X.lreturnOut hx hret hd hr, hrun, hended, _, _, rfl, hQ, ⟨_, rfl⟩, hW, hsame.mono hk hn⟩
theorem own_retV (X : Stand p l e R s m args below meth c T locs cells slots) (hx : p.tables.exec = Jvm.exec) (hlk : meth.locks = false) {pc : Nat} {Ls : Array Slot} (hret : meth.sig.returnType = none) (hd : decode c.code pc = .ok (.return_, 1))
    (hQ : Q none T.heap locs) (hk : cells ≤ k) (hn : slots ≤ n) : own_Fin p e below s Q k n (T.setTop (mkF m pc Ls [])) := by
  obtain ⟨fs, hr, hrun, hended, hW, hsame⟩ := X.leave (v := none) (fun _ => rfl) hlk
  exact ⟨_, _, X.returnOut hx hret hd hr, hrun, hended, _, _, rfl, hQ, ⟨_, rfl⟩, hW, hsame.mono hk hn⟩
theorem own_at {v : Option Value} {h h' : Heap} {L : List Loc} (e : h' = h) (q : Q v h L) : Q v h' L := e ▸ q
theorem own_someI {r z : Int32} (h : r = z) : some (Value.int z) = some (Value.int r) := by rw [h]
theorem own_someJ {r z : Int64} (h : r = z) : some (Value.long z) = some (Value.long r) := by rw [h]
end Own
theorem own_ld {p : Program} {l : Launch} {e : Env} {R : Room} {s : State} {m : MethodId} {args : Array Value} {below : List Frame} {meth : Method} {c : Code} {T : State} {locs : List Loc} {cells slots : Nat} {Z : State} {h : Heap} {a : Addr} {k : ClassId} {z : Int32} {vs : List Value}
    (X : Stand p l e R s m args below meth c T locs cells slots) (hx : p.tables.exec = Jvm.exec) (hZ : Z.Warmed39 s.vm) (eT : T.heap = h) (F : Arv Z h a k .int z vs (.int 0)) {j v : Int32} (hj : ¬ j < 0 ∧ j < z) (hv : vs.getD j.toNatClampNeg (.int 0) = .int v) {g : JFrame} (hg : g.method = m) {rest : List Value} (hs : g.stack = .int j :: .ref a :: rest) (hd : decode c.code g.pc = .ok (.iaload, 1)) :
    ∀ t, Steps p.tables e below (T.setTop { g with pc := g.pc + 1, stack := .int v :: rest }) t → Steps p.tables e below (T.setTop g) t := by
  obtain ⟨cl, A, -, S, N, H, -⟩ := F
  have hin := inb_of (j := j) S hj
  exact X.iaload hx (by rw [eT]; exact A.1) (State.isArrayOf_alike hZ.alike A.2.1) A.2.2 hin (Has.at H hin hv) hg hs hd
theorem own_st {p : Program} {l : Launch} {e : Env} {R : Room} {s : State} {m : MethodId} {args : Array Value} {below : List Frame} {meth : Method} {c : Code} {T : State} {locs : List Loc} {cells slots : Nat} {Z : State} {h : Heap} {a : Addr} {k : ClassId} {z : Int32} {vs : List Value}
    (X : Stand p l e R s m args below meth c T locs cells slots) (hx : p.tables.exec = Jvm.exec) (hZ : Z.Warmed39 s.vm) (eT : T.heap = h) (F : Arv Z h a k .int z vs (.int 0)) {j x : Int32} (hj : ¬ j < 0 ∧ j < z) (i : Nat) (hi : j.toNatClampNeg = i) (hl : i < vs.length) {g : JFrame} (hg : g.method = m) {rest : List Value} (hs : g.stack = .int x :: .int j :: .ref a :: rest) (hd : decode c.code g.pc = .ok (.iastore, 1)) :
    ∃ T' h', Stand p l e R s m args below meth c T' (locs ++ [⟨a, j.toNatClampNeg⟩]) cells slots ∧ T'.heap = h' ∧ Wr h h' a j.toNatClampNeg (.int x) ∧ Arv Z h' a k .int z (vs.set i (.int x)) (.int 0) ∧ ∀ t, Steps p.tables e below (T'.setTop { g with pc := g.pc + 1, stack := rest }) t → Steps p.tables e below (T.setTop g) t := by
  obtain ⟨cl, A, q, S, N, H, G⟩ := F
  obtain ⟨T', h', X', e', W, st⟩ := stI X hx hZ eT A (j := j) (x := x) (inb_of S hj) hg hs hd
  exact ⟨T', h', X', e', W, Arv.set A q S N H G rfl W i hi hl, st⟩
theorem own_getD (L : List Int32) (n : Nat) : (L.map Value.int).getD n (.int 0) = .int (L.getD n 0) := by
  simp only [List.getD_eq_getElem?_getD, List.getElem?_map]
  cases L[n]? <;> rfl
theorem own_retR {p : Program} {l : Launch} {e : Env} {R : Room} {s : State} {m : MethodId} {args : Array Value} {below : List Frame} {meth : Method} {c : Code} {T : State} {locs : List Loc} {cells slots k n : Nat} {Q : Option Value → Heap → List Loc → Prop}
    (X : Stand p l e R s m args below meth c T locs cells slots) (hx : p.tables.exec = Jvm.exec) (hlk : meth.locks = false) {pc : Nat} {Ls : Array Slot} {w : Value} {t : FieldType} (hret : meth.sig.returnType = some t) (hd : decode c.code pc = .ok (.areturn, 1)) (hw : w.isRef = true) (ht : t.isReference = true)
    (hQ : Q (some w) T.heap locs) (hk : cells ≤ k) (hn : slots ≤ n) : own_Fin p e below s Q k n (T.setTop (mkF m pc Ls [w])) := by
  obtain ⟨fs, hr, hrun, hended, hW, hsame⟩ := X.leave (v := some w) (fun h => by rw [hret] at h; cases h) hlk
  exact ⟨_, _, X.areturnOut hx hw hret ht hd hr, hrun, hended, _, _, rfl, hQ, ⟨_, rfl⟩, hW, hsame.mono hk hn⟩
def own_fv (wa : Addr) : Bool → Value
  | true => .ref wa
  | false => .null
def own_e : Bool → Int32
  | true => 1
  | false => 0
def own_RQ (Z : State) (h : Heap) (qa wa : Addr) (b : Bool) (tn lr pz : Int32) : Prop := Exa Z h qa "com/example/quillon/quillon/engine/RowQueue" ∧ Fld Z h qa "com/example/quillon/quillon/engine/RowQueue" "first" "Lcom/example/quillon/quillon/engine/LockWait;" (own_fv wa b) ∧ Fld Z h qa "com/example/quillon/quillon/engine/RowQueue" "turnsInOrder" "I" (.int tn) ∧ Fld Z h qa "com/example/quillon/quillon/engine/RowQueue" "lastRun" "I" (.int lr) ∧ Fld Z h qa "com/example/quillon/quillon/engine/RowQueue" "passed" "Z" (.int pz)
section Queue
variable {p : Program} {l : Launch} {e : Env} {R : Room} {s : State} {m : MethodId} {args : Array Value} {below : List Frame} {meth : Method} {c : Code} {T : State} {locs : List Loc} {cells slots : Nat} {Z : State} {a0 : Array Value} {h h' : Heap} {qa wa : Addr} {b : Bool} {tn lr pz : Int32}
theorem own_RQ_keep {ws : List Addr} (F : own_RQ Z h qa wa b tn lr pz) (K : Keep h h' ws) (n : qa ∉ ws) : own_RQ Z h' qa wa b tn lr pz := ⟨F.1.keep K, F.2.1.keep K n, F.2.2.1.keep K n, F.2.2.2.1.keep K n, F.2.2.2.2.keep K n⟩
theorem own_RQ_other {a : Addr} {sl : Nat} {v : Value} (F : own_RQ Z h qa wa b tn lr pz) (W : Wr h h' a sl v) (n : qa ≠ a) : own_RQ Z h' qa wa b tn lr pz := ⟨F.1.wr W, F.2.1.other W (Or.inl n), F.2.2.1.other W (Or.inl n), F.2.2.2.1.other W (Or.inl n), F.2.2.2.2.other W (Or.inl n)⟩
theorem own_RQ_ext (F : own_RQ Z h qa wa b tn lr pz) (E : Ext h h') : own_RQ Z h' qa wa b tn lr pz := ⟨F.1.ext E, F.2.1.ext E, F.2.2.1.ext E, F.2.2.2.1.ext E, F.2.2.2.2.ext E⟩
theorem own_p_first (X : Stand p l e R s m args below meth c T locs cells slots) (hx : p.tables.exec = Jvm.exec) (hZ : Z.Warmed39 s.vm) (hw : ∀ d ∈ tables_1, d.before a0 Z = true) (hown : s.vm.findClass "com/example/quillon/quillon/engine/RowQueue" = some m.cls) (eT : T.heap = h) (F : own_RQ Z h qa wa b tn lr pz) (b' : Bool) {g : JFrame} (hg : g.method = m) {rest : List Value} (hs : g.stack = own_fv wa b' :: .ref qa :: rest) (hd : decode c.code g.pc = .ok (.putfield 7, 3)) :
    ∃ T' h', Stand p l e R s m args below meth c T' (locs ++ [⟨qa, Jvm.RoadKit.slotOf Z "com/example/quillon/quillon/engine/RowQueue" "first" "Lcom/example/quillon/quillon/engine/LockWait;"⟩]) cells slots ∧ T'.heap = h' ∧ own_RQ Z h' qa wa b' tn lr pz ∧ Wr h h' qa (Jvm.RoadKit.slotOf Z "com/example/quillon/quillon/engine/RowQueue" "first" "Lcom/example/quillon/quillon/engine/LockWait;") (own_fv wa b') ∧ ∀ t, Steps p.tables e below (T'.setTop { g with pc := g.pc + 3, stack := rest }) t → Steps p.tables e below (T.setTop g) t := by
  obtain ⟨T', h', X', e', W, st⟩ := putF X hx hZ hown (host := "") (Or.inl (hw _ (List.mem_of_getElem? (i := 28) rfl))) Via.refl eT F.2.1 F.1 (Or.inl (hw _ (List.mem_of_getElem? (i := 29) rfl))) (hw _ (List.mem_of_getElem? (i := 2) rfl)) (ty := (.object "com/example/quillon/quillon/engine/LockWait")) (by decide) (by cases b' <;> rfl) (by cases b' <;> rfl) hg hs hd
  exact ⟨T', h', X', e', ⟨F.1.wr W, F.2.1.same W, F.2.2.1.other W (Or.inr (slot_ne (Or.inl (hw _ (List.mem_of_getElem? (i := 38) rfl))) (Or.inl (hw _ (List.mem_of_getElem? (i := 29) rfl))) (by decide) (t := .int) (t' := (.object "com/example/quillon/quillon/engine/LockWait")) (by decide) (by decide))), F.2.2.2.1.other W (Or.inr (slot_ne (Or.inl (hw _ (List.mem_of_getElem? (i := 45) rfl))) (Or.inl (hw _ (List.mem_of_getElem? (i := 29) rfl))) (by decide) (t := .int) (t' := (.object "com/example/quillon/quillon/engine/LockWait")) (by decide) (by decide))), F.2.2.2.2.other W (Or.inr (slot_ne (Or.inl (hw _ (List.mem_of_getElem? (i := 36) rfl))) (Or.inl (hw _ (List.mem_of_getElem? (i := 29) rfl))) (by decide) (t := .boolean) (t' := (.object "com/example/quillon/quillon/engine/LockWait")) (by decide) (by decide)))⟩, W, st⟩
theorem own_p_turnsInOrder (X : Stand p l e R s m args below meth c T locs cells slots) (hx : p.tables.exec = Jvm.exec) (hZ : Z.Warmed39 s.vm) (hw : ∀ d ∈ tables_1, d.before a0 Z = true) (hown : s.vm.findClass "com/example/quillon/quillon/engine/RowQueue" = some m.cls) (eT : T.heap = h) (F : own_RQ Z h qa wa b tn lr pz) {x : Int32} {g : JFrame} (hg : g.method = m) {rest : List Value} (hs : g.stack = .int x :: .ref qa :: rest) (hd : decode c.code g.pc = .ok (.putfield 17, 3)) :
    ∃ T' h', Stand p l e R s m args below meth c T' (locs ++ [⟨qa, Jvm.RoadKit.slotOf Z "com/example/quillon/quillon/engine/RowQueue" "turnsInOrder" "I"⟩]) cells slots ∧ T'.heap = h' ∧ own_RQ Z h' qa wa b x lr pz ∧ Wr h h' qa (Jvm.RoadKit.slotOf Z "com/example/quillon/quillon/engine/RowQueue" "turnsInOrder" "I") (.int x) ∧ ∀ t, Steps p.tables e below (T'.setTop { g with pc := g.pc + 3, stack := rest }) t → Steps p.tables e below (T.setTop g) t := by
  obtain ⟨T', h', X', e', W, st⟩ := putF X hx hZ hown (host := "") (Or.inl (hw _ (List.mem_of_getElem? (i := 37) rfl))) Via.refl eT F.2.2.1 F.1 (Or.inl (hw _ (List.mem_of_getElem? (i := 38) rfl))) (hw _ (List.mem_of_getElem? (i := 2) rfl)) (ty := .int) (by decide) rfl rfl hg hs hd
  exact ⟨T', h', X', e', ⟨F.1.wr W, F.2.1.other W (Or.inr (slot_ne (Or.inl (hw _ (List.mem_of_getElem? (i := 29) rfl))) (Or.inl (hw _ (List.mem_of_getElem? (i := 38) rfl))) (by decide) (t := (.object "com/example/quillon/quillon/engine/LockWait")) (t' := .int) (by decide) (by decide))), F.2.2.1.same W, F.2.2.2.1.other W (Or.inr (slot_ne (Or.inl (hw _ (List.mem_of_getElem? (i := 45) rfl))) (Or.inl (hw _ (List.mem_of_getElem? (i := 38) rfl))) (by decide) (t := .int) (t' := .int) (by decide) (by decide))), F.2.2.2.2.other W (Or.inr (slot_ne (Or.inl (hw _ (List.mem_of_getElem? (i := 36) rfl))) (Or.inl (hw _ (List.mem_of_getElem? (i := 38) rfl))) (by decide) (t := .boolean) (t' := .int) (by decide) (by decide)))⟩, W, st⟩
theorem own_p_lastRun (X : Stand p l e R s m args below meth c T locs cells slots) (hx : p.tables.exec = Jvm.exec) (hZ : Z.Warmed39 s.vm) (hw : ∀ d ∈ tables_1, d.before a0 Z = true) (hown : s.vm.findClass "com/example/quillon/quillon/engine/RowQueue" = some m.cls) (eT : T.heap = h) (F : own_RQ Z h qa wa b tn lr pz) {x : Int32} {g : JFrame} (hg : g.method = m) {rest : List Value} (hs : g.stack = .int x :: .ref qa :: rest) (hd : decode c.code g.pc = .ok (.putfield 27, 3)) :
    ∃ T' h', Stand p l e R s m args below meth c T' (locs ++ [⟨qa, Jvm.RoadKit.slotOf Z "com/example/quillon/quillon/engine/RowQueue" "lastRun" "I"⟩]) cells slots ∧ T'.heap = h' ∧ own_RQ Z h' qa wa b tn x pz ∧ Wr h h' qa (Jvm.RoadKit.slotOf Z "com/example/quillon/quillon/engine/RowQueue" "lastRun" "I") (.int x) ∧ ∀ t, Steps p.tables e below (T'.setTop { g with pc := g.pc + 3, stack := rest }) t → Steps p.tables e below (T.setTop g) t := by
  obtain ⟨T', h', X', e', W, st⟩ := putF X hx hZ hown (host := "") (Or.inl (hw _ (List.mem_of_getElem? (i := 44) rfl))) Via.refl eT F.2.2.2.1 F.1 (Or.inl (hw _ (List.mem_of_getElem? (i := 45) rfl))) (hw _ (List.mem_of_getElem? (i := 2) rfl)) (ty := .int) (by decide) rfl rfl hg hs hd
  exact ⟨T', h', X', e', ⟨F.1.wr W, F.2.1.other W (Or.inr (slot_ne (Or.inl (hw _ (List.mem_of_getElem? (i := 29) rfl))) (Or.inl (hw _ (List.mem_of_getElem? (i := 45) rfl))) (by decide) (t := (.object "com/example/quillon/quillon/engine/LockWait")) (t' := .int) (by decide) (by decide))), F.2.2.1.other W (Or.inr (slot_ne (Or.inl (hw _ (List.mem_of_getElem? (i := 38) rfl))) (Or.inl (hw _ (List.mem_of_getElem? (i := 45) rfl))) (by decide) (t := .int) (t' := .int) (by decide) (by decide))), F.2.2.2.1.same W, F.2.2.2.2.other W (Or.inr (slot_ne (Or.inl (hw _ (List.mem_of_getElem? (i := 36) rfl))) (Or.inl (hw _ (List.mem_of_getElem? (i := 45) rfl))) (by decide) (t := .boolean) (t' := .int) (by decide) (by decide)))⟩, W, st⟩
theorem own_p_passed (X : Stand p l e R s m args below meth c T locs cells slots) (hx : p.tables.exec = Jvm.exec) (hZ : Z.Warmed39 s.vm) (hw : ∀ d ∈ tables_1, d.before a0 Z = true) (hown : s.vm.findClass "com/example/quillon/quillon/engine/RowQueue" = some m.cls) (eT : T.heap = h) (F : own_RQ Z h qa wa b tn lr pz) {x : Int32} (hf : (x = 0 ∨ x = 1)) {g : JFrame} (hg : g.method = m) {rest : List Value} (hs : g.stack = .int x :: .ref qa :: rest) (hd : decode c.code g.pc = .ok (.putfield 13, 3)) :
    ∃ T' h', Stand p l e R s m args below meth c T' (locs ++ [⟨qa, Jvm.RoadKit.slotOf Z "com/example/quillon/quillon/engine/RowQueue" "passed" "Z"⟩]) cells slots ∧ T'.heap = h' ∧ own_RQ Z h' qa wa b tn lr x ∧ Wr h h' qa (Jvm.RoadKit.slotOf Z "com/example/quillon/quillon/engine/RowQueue" "passed" "Z") (.int x) ∧ ∀ t, Steps p.tables e below (T'.setTop { g with pc := g.pc + 3, stack := rest }) t → Steps p.tables e below (T.setTop g) t := by
  obtain ⟨T', h', X', e', W, st⟩ := putFN X hx hZ hown (hw _ (List.mem_of_getElem? (i := 35) rfl)) Via.refl eT F.2.2.2.2 F.1 (Or.inl (hw _ (List.mem_of_getElem? (i := 36) rfl))) (hw _ (List.mem_of_getElem? (i := 2) rfl)) (ty := .boolean) (v := .int x) (v' := .int x) (by decide) (by rcases hf with rfl | rfl <;> rfl) (by rcases hf with rfl | rfl <;> rfl) hg hs hd
  exact ⟨T', h', X', e', ⟨F.1.wr W, F.2.1.other W (Or.inr (slot_ne (Or.inl (hw _ (List.mem_of_getElem? (i := 29) rfl))) (Or.inl (hw _ (List.mem_of_getElem? (i := 36) rfl))) (by decide) (t := (.object "com/example/quillon/quillon/engine/LockWait")) (t' := .boolean) (by decide) (by decide))), F.2.2.1.other W (Or.inr (slot_ne (Or.inl (hw _ (List.mem_of_getElem? (i := 38) rfl))) (Or.inl (hw _ (List.mem_of_getElem? (i := 36) rfl))) (by decide) (t := .int) (t' := .boolean) (by decide) (by decide))), F.2.2.2.1.other W (Or.inr (slot_ne (Or.inl (hw _ (List.mem_of_getElem? (i := 45) rfl))) (Or.inl (hw _ (List.mem_of_getElem? (i := 36) rfl))) (by decide) (t := .int) (t' := .boolean) (by decide) (by decide))), F.2.2.2.2.same W⟩, W, st⟩
end Queue
theorem d10_0 : decode jdk_29_method_65_code 0 = .ok (.iload_n 0, 1) := by decide +kernel
theorem d10_1 : decode jdk_29_method_65_code 1 = .ok (.iload_n 1, 1) := by decide +kernel
theorem d10_2 : decode jdk_29_method_65_code 2 = .ok (.if_icmp .lt 7, 3) := by decide +kernel
theorem d10_5 : decode jdk_29_method_65_code 5 = .ok (.iload_n 0, 1) := by decide +kernel
theorem d10_6 : decode jdk_29_method_65_code 6 = .ok (.goto 4, 3) := by decide +kernel
theorem d10_9 : decode jdk_29_method_65_code 9 = .ok (.iload_n 1, 1) := by decide +kernel
theorem d10_10 : decode jdk_29_method_65_code 10 = .ok (.ireturn, 1) := by decide +kernel
theorem ef_10 (m : MethodId) (p0 : Int32) (p1 : Int32) : entryFrame m #[(.int p0), (.int p1)] 2 = mkF m 0 #[.val (.int p0), .val (.int p1)] [] := by first | (simp [entryFrame, mkF, argsToLocals, Value.category]; done) | rfl
def f10_10 (p0 : Int32) (p1 : Int32) (t0 : Int32) : Int32 := t0
def f10_0 (p0 : Int32) (p1 : Int32) : Int32 := (if p0 < p1 then (f10_10 p0 p1 p1) else (f10_10 p0 p1 p0))
def Q10 (p0 : Int32) (p1 : Int32) (h0 : Heap) (n0 : Nat) (v : Option Value) (h : Heap) (L : List Loc) : Prop := v = some (.int (f10_0 p0 p1)) ∧ Fr n0 L ∧ h = h0
set_option maxRecDepth 65536 in
set_option maxHeartbeats 40000000 in
theorem rm10 (l : Launch) (Z : State) (a0 : Array Value) (hw : ∀ d ∈ tables_1, d.before a0 Z = true) (ws : List Jvm.Cond) (p0 : Int32) (p1 : Int32) (h0 : Heap) (n0 : Nat) (Z0 : n0 ≤ h0.size) :
    MetFree l (⟨"java/lang/Math", "max", "(II)I"⟩ : MethodName) (head1 (Jvm.Cond.code (⟨"java/lang/Math", "max", "(II)I"⟩ : MethodName) jdk_29_method_65_code 2 (some .int) :: ws) ({ frames := 0, cells := 0, slots := 0, locals := 0 } : Room)) (fun a U => a = #[(.int p0), (.int p1)] ∧ Z.Warmed39 U.vm ∧ U.heap = h0) (fun _ _ _ _ _ => True) (fun _ U o U' => ∃ v L, o = .returned v ∧ Q10 p0 p1 h0 n0 v U'.heap L ∧ FrameEnd U o U' L ({ frames := 0, cells := 0, slots := 0, locals := 0 } : Room).cells ({ frames := 0, cells := 0, slots := 0, locals := 0 } : Room).slots) := by
  refine MetFree.of_bodySF (Jvm.Free.JP.mathPlain rfl (by decide +kernel)) hisR ?_
  intro p e s m args below meth c s₁ Bd hml0 hP hK
  obtain ⟨rfl, hZ, hh⟩ := hP
  have hx := Bd.exec
  have hby := Bd.bytes
  have hml : c.maxLocals = 2 := hml0
  have hlk : meth.locks = false := BodyLoose.notSynchronized Bd
  have hown : s.vm.findClass "java/lang/Math" = some m.cls := findClass_of_methodNamed Bd.named
  have X0 : Stand p l e ({ frames := 0, cells := 0, slots := 0, locals := 0 } : Room) s m #[(.int p0), (.int p1)] below meth c s₁ [] 0 0 := Stand.of_body Bd
  have e0 : s₁.heap = h0 := by rw [← hh, Bd.state]; rfl
  have N0 := Fr.nil n0
  have Zs0 : n0 ≤ s₁.heap.size := by rw [e0]; exact Z0
  have pre0 : ∀ t, Steps p.tables e below (s₁.setTop (mkF m 0 #[.val (.int p0), .val (.int p1)] [])) t → Steps p.tables e below (s₁.setTop (entryFrame m #[(.int p0), (.int p1)] 2)) t := fun t k => castTop (ef_10 m p0 p1) k
  have hnm := (name_of_methodNamed Bd.named Bd.method).1
  have g_10 : ∀ (T : State) (locs : List Loc) (X : Stand p l e ({ frames := 0, cells := 0, slots := 0, locals := 0 } : Room) s m #[(.int p0), (.int p1)] below meth c T locs 0 0) (eT : T.heap = h0) (N : Fr n0 locs) (t0 : Int32)  (r : Int32), r = f10_10 p0 p1 t0 → own_Fin p e below s (fun v h L => v = some (.int r) ∧ Fr n0 L ∧ h = h0) ({ frames := 0, cells := 0, slots := 0, locals := 0 } : Room).cells ({ frames := 0, cells := 0, slots := 0, locals := 0 } : Room).slots (T.setTop (mkF m 10 #[.val (.int p0), .val (.int p1)] [(.int t0)])) := by
    intro T locs X eT N t0  r hr
    have hr : r = t0 := hr
    exact own_retI X hx hlk Bd.returns (hb hby d10_10) ⟨own_someI hr, N, eT⟩ (by decide) (by decide)
  have g_0 : ∀ r, r = f10_0 p0 p1 → own_Fin p e below s (fun v h L => v = some (.int r) ∧ Fr n0 L ∧ h = h0) ({ frames := 0, cells := 0, slots := 0, locals := 0 } : Room).cells ({ frames := 0, cells := 0, slots := 0, locals := 0 } : Room).slots (s₁.setTop (mkF m 0 #[.val (.int p0), .val (.int p1)] [])) := by
    intro r hr
    have hr : r = (if p0 < p1 then (f10_10 p0 p1 p1) else (f10_10 p0 p1 p0)) := hr
    refine own_pre (B := s₁.setTop (mkF m 1 #[.val (.int p0), .val (.int p1)] [(.int p0)])) (fun t k => XS.iloadN X0.here hx rfl (hb hby d10_0) rfl k) ?_
    refine own_pre (B := s₁.setTop (mkF m 2 #[.val (.int p0), .val (.int p1)] [(.int p1), (.int p0)])) (fun t k => XS.iloadN X0.here hx rfl (hb hby d10_1) rfl k) ?_
    by_cases hc1 : p0 < p1
    · have hr2 := hr.trans (if_pos hc1)
      refine own_pre (B := s₁.setTop (mkF m 9 #[.val (.int p0), .val (.int p1)] [])) (fun t k => XS.icmpYes X0.here hx rfl (pc0 := 2) (pc' := 9) rfl (hb hby d10_2) rfl (tlt hc1).1 (by decide) (by decide) k) ?_
      refine own_pre (B := s₁.setTop (mkF m 10 #[.val (.int p0), .val (.int p1)] [(.int p1)])) (fun t k => XS.iloadN X0.here hx rfl (hb hby d10_9) rfl k) ?_
      exact g_10 s₁ _ X0 e0 N0 p1 _ hr2
    · have hr3 := hr.trans (if_neg hc1)
      refine own_pre (B := s₁.setTop (mkF m 5 #[.val (.int p0), .val (.int p1)] [])) (fun t k => XS.icmpNo X0.here hx rfl (hb hby d10_2) rfl (flt hc1).1 k) ?_
      refine own_pre (B := s₁.setTop (mkF m 6 #[.val (.int p0), .val (.int p1)] [(.int p0)])) (fun t k => XS.iloadN X0.here hx rfl (hb hby d10_5) rfl k) ?_
      refine own_pre (B := s₁.setTop (mkF m 10 #[.val (.int p0), .val (.int p1)] [(.int p0)])) (fun t k => XS.goto X0.here hx rfl (pc0 := 6) (pc' := 10) rfl (hb hby d10_6) (by decide) (by decide) k) ?_
      exact g_10 s₁ _ X0 e0 N0 p0 _ hr3
  exact own_pre pre0 (g_0 _ rfl)
theorem d11_0 : decode jdk_29_method_69_code 0 = .ok (.iload_n 0, 1) := by decide +kernel
theorem d11_1 : decode jdk_29_method_69_code 1 = .ok (.iload_n 1, 1) := by decide +kernel
theorem d11_2 : decode jdk_29_method_69_code 2 = .ok (.if_icmp .gt 7, 3) := by decide +kernel
theorem d11_5 : decode jdk_29_method_69_code 5 = .ok (.iload_n 0, 1) := by decide +kernel
theorem d11_6 : decode jdk_29_method_69_code 6 = .ok (.goto 4, 3) := by decide +kernel
theorem d11_9 : decode jdk_29_method_69_code 9 = .ok (.iload_n 1, 1) := by decide +kernel
theorem d11_10 : decode jdk_29_method_69_code 10 = .ok (.ireturn, 1) := by decide +kernel
theorem ef_11 (m : MethodId) (p0 : Int32) (p1 : Int32) : entryFrame m #[(.int p0), (.int p1)] 2 = mkF m 0 #[.val (.int p0), .val (.int p1)] [] := by first | (simp [entryFrame, mkF, argsToLocals, Value.category]; done) | rfl
def f11_10 (p0 : Int32) (p1 : Int32) (t0 : Int32) : Int32 := t0
def f11_0 (p0 : Int32) (p1 : Int32) : Int32 := (if p1 < p0 then (f11_10 p0 p1 p1) else (f11_10 p0 p1 p0))
def Q11 (p0 : Int32) (p1 : Int32) (h0 : Heap) (n0 : Nat) (v : Option Value) (h : Heap) (L : List Loc) : Prop := v = some (.int (f11_0 p0 p1)) ∧ Fr n0 L ∧ h = h0
set_option maxRecDepth 65536 in
set_option maxHeartbeats 40000000 in
theorem rm11 (l : Launch) (Z : State) (a0 : Array Value) (hw : ∀ d ∈ tables_1, d.before a0 Z = true) (ws : List Jvm.Cond) (p0 : Int32) (p1 : Int32) (h0 : Heap) (n0 : Nat) (Z0 : n0 ≤ h0.size) :
    MetFree l (⟨"java/lang/Math", "min", "(II)I"⟩ : MethodName) (head1 (Jvm.Cond.code (⟨"java/lang/Math", "min", "(II)I"⟩ : MethodName) jdk_29_method_69_code 2 (some .int) :: ws) ({ frames := 0, cells := 0, slots := 0, locals := 0 } : Room)) (fun a U => a = #[(.int p0), (.int p1)] ∧ Z.Warmed39 U.vm ∧ U.heap = h0) (fun _ _ _ _ _ => True) (fun _ U o U' => ∃ v L, o = .returned v ∧ Q11 p0 p1 h0 n0 v U'.heap L ∧ FrameEnd U o U' L ({ frames := 0, cells := 0, slots := 0, locals := 0 } : Room).cells ({ frames := 0, cells := 0, slots := 0, locals := 0 } : Room).slots) := by
  refine MetFree.of_bodySF (Jvm.Free.JP.mathPlain rfl (by decide +kernel)) hisR ?_
  intro p e s m args below meth c s₁ Bd hml0 hP hK
  obtain ⟨rfl, hZ, hh⟩ := hP
  have hx := Bd.exec
  have hby := Bd.bytes
  have hml : c.maxLocals = 2 := hml0
  have hlk : meth.locks = false := BodyLoose.notSynchronized Bd
  have hown : s.vm.findClass "java/lang/Math" = some m.cls := findClass_of_methodNamed Bd.named
  have X0 : Stand p l e ({ frames := 0, cells := 0, slots := 0, locals := 0 } : Room) s m #[(.int p0), (.int p1)] below meth c s₁ [] 0 0 := Stand.of_body Bd
  have e0 : s₁.heap = h0 := by rw [← hh, Bd.state]; rfl
  have N0 := Fr.nil n0
  have Zs0 : n0 ≤ s₁.heap.size := by rw [e0]; exact Z0
  have pre0 : ∀ t, Steps p.tables e below (s₁.setTop (mkF m 0 #[.val (.int p0), .val (.int p1)] [])) t → Steps p.tables e below (s₁.setTop (entryFrame m #[(.int p0), (.int p1)] 2)) t := fun t k => castTop (ef_11 m p0 p1) k
  have hnm := (name_of_methodNamed Bd.named Bd.method).1
  have g_10 : ∀ (T : State) (locs : List Loc) (X : Stand p l e ({ frames := 0, cells := 0, slots := 0, locals := 0 } : Room) s m #[(.int p0), (.int p1)] below meth c T locs 0 0) (eT : T.heap = h0) (N : Fr n0 locs) (t0 : Int32)  (r : Int32), r = f11_10 p0 p1 t0 → own_Fin p e below s (fun v h L => v = some (.int r) ∧ Fr n0 L ∧ h = h0) ({ frames := 0, cells := 0, slots := 0, locals := 0 } : Room).cells ({ frames := 0, cells := 0, slots := 0, locals := 0 } : Room).slots (T.setTop (mkF m 10 #[.val (.int p0), .val (.int p1)] [(.int t0)])) := by
    intro T locs X eT N t0  r hr
    have hr : r = t0 := hr
    exact own_retI X hx hlk Bd.returns (hb hby d11_10) ⟨own_someI hr, N, eT⟩ (by decide) (by decide)
  have g_0 : ∀ r, r = f11_0 p0 p1 → own_Fin p e below s (fun v h L => v = some (.int r) ∧ Fr n0 L ∧ h = h0) ({ frames := 0, cells := 0, slots := 0, locals := 0 } : Room).cells ({ frames := 0, cells := 0, slots := 0, locals := 0 } : Room).slots (s₁.setTop (mkF m 0 #[.val (.int p0), .val (.int p1)] [])) := by
    intro r hr
    have hr : r = (if p1 < p0 then (f11_10 p0 p1 p1) else (f11_10 p0 p1 p0)) := hr
    refine own_pre (B := s₁.setTop (mkF m 1 #[.val (.int p0), .val (.int p1)] [(.int p0)])) (fun t k => XS.iloadN X0.here hx rfl (hb hby d11_0) rfl k) ?_
    refine own_pre (B := s₁.setTop (mkF m 2 #[.val (.int p0), .val (.int p1)] [(.int p1), (.int p0)])) (fun t k => XS.iloadN X0.here hx rfl (hb hby d11_1) rfl k) ?_
    by_cases hc1 : p1 < p0
    · have hr2 := hr.trans (if_pos hc1)
      refine own_pre (B := s₁.setTop (mkF m 9 #[.val (.int p0), .val (.int p1)] [])) (fun t k => XS.icmpYes X0.here hx rfl (pc0 := 2) (pc' := 9) rfl (hb hby d11_2) rfl (tlt hc1).2.2.1 (by decide) (by decide) k) ?_
      refine own_pre (B := s₁.setTop (mkF m 10 #[.val (.int p0), .val (.int p1)] [(.int p1)])) (fun t k => XS.iloadN X0.here hx rfl (hb hby d11_9) rfl k) ?_
      exact g_10 s₁ _ X0 e0 N0 p1 _ hr2
    · have hr3 := hr.trans (if_neg hc1)
      refine own_pre (B := s₁.setTop (mkF m 5 #[.val (.int p0), .val (.int p1)] [])) (fun t k => XS.icmpNo X0.here hx rfl (hb hby d11_2) rfl (flt hc1).2.2.1 k) ?_
      refine own_pre (B := s₁.setTop (mkF m 6 #[.val (.int p0), .val (.int p1)] [(.int p0)])) (fun t k => XS.iloadN X0.here hx rfl (hb hby d11_5) rfl k) ?_
      refine own_pre (B := s₁.setTop (mkF m 10 #[.val (.int p0), .val (.int p1)] [(.int p0)])) (fun t k => XS.goto X0.here hx rfl (pc0 := 6) (pc' := 10) rfl (hb hby d11_6) (by decide) (by decide) k) ?_
      exact g_10 s₁ _ X0 e0 N0 p0 _ hr3
  exact own_pre pre0 (g_0 _ rfl)
theorem d1_0 : decode prog_117_method_1_code 0 = .ok (.aload_n 0, 1) := by decide +kernel
theorem d1_1 : decode prog_117_method_1_code 1 = .ok (.invokespecial 1, 3) := by decide +kernel
theorem d1_4 : decode prog_117_method_1_code 4 = .ok (.return_, 1) := by decide +kernel
theorem pn_1 : plainName "com/example/quillon/quillon/engine/RowQueue" = true := by first | (simp [plainName, overriddenIn]; done) | decide +kernel
theorem ef_1 (m : MethodId) (a1 : Addr) : entryFrame m #[(.ref a1)] 1 = mkF m 0 #[.val (.ref a1)] [] := by first | (simp [entryFrame, mkF, argsToLocals, Value.category]; done) | rfl
def Q1 (Z : State) (a1 : Addr) (h0 : Heap) (n0 : Nat) (v : Option Value) (h : Heap) (L : List Loc) : Prop := v = none ∧ Fr n0 L ∧ h = h0
set_option maxRecDepth 65536 in
set_option maxHeartbeats 40000000 in
theorem rm1 (l : Launch) (Z : State) (a0 : Array Value) (hw : ∀ d ∈ tables_1, d.before a0 Z = true) (ws : List Jvm.Cond) (a1 : Addr) (h0 : Heap) (n0 : Nat) (Z0 : n0 ≤ h0.size) :
    MetFree l (⟨"com/example/quillon/quillon/engine/RowQueue", "<init>", "()V"⟩ : MethodName) (head1 (Jvm.Cond.code (⟨"com/example/quillon/quillon/engine/RowQueue", "<init>", "()V"⟩ : MethodName) prog_117_method_1_code 1 none :: ws) ({ frames := 1, cells := 0, slots := 0, locals := 12 } : Room)) (fun a U => a = #[(.ref a1)] ∧ Z.Warmed39 U.vm ∧ U.heap = h0) (fun _ _ _ _ _ => True) (fun _ U o U' => ∃ v L, o = .returned v ∧ Q1 Z a1 h0 n0 v U'.heap L ∧ FrameEnd U o U' L ({ frames := 1, cells := 0, slots := 0, locals := 12 } : Room).cells ({ frames := 1, cells := 0, slots := 0, locals := 12 } : Room).slots) := by
  refine MetFree.of_bodySF (plainFor_of_name pn_1) hisR ?_
  intro p e s m args below meth c s₁ Bd hml0 hP hK
  obtain ⟨rfl, hZ, hh⟩ := hP
  have hx := Bd.exec
  have hby := Bd.bytes
  have hml : c.maxLocals = 1 := hml0
  have hlk : meth.locks = false := BodyLoose.notSynchronized Bd
  have hown : s.vm.findClass "com/example/quillon/quillon/engine/RowQueue" = some m.cls := findClass_of_methodNamed Bd.named
  have hnm := (name_of_methodNamed Bd.named Bd.method).1
  have X0 : Stand p l e ({ frames := 1, cells := 0, slots := 0, locals := 12 } : Room) s m #[(.ref a1)] below meth c s₁ [] 0 0 := Stand.of_body Bd
  have e0 : s₁.heap = h0 := by rw [← hh, Bd.state]; rfl
  have N0 := Fr.nil n0
  have pre0 : ∀ t, Steps p.tables e below (s₁.setTop (mkF m 0 #[.val (.ref a1)] [])) t → Steps p.tables e below (s₁.setTop (entryFrame m #[(.ref a1)] 1)) t := fun t k => castTop (ef_1 m a1) k
  have g_0 : own_Fin p e below s (Q1 Z a1 h0 n0) ({ frames := 1, cells := 0, slots := 0, locals := 12 } : Room).cells ({ frames := 1, cells := 0, slots := 0, locals := 12 } : Room).slots (s₁.setTop (mkF m 0 #[.val (.ref a1)] [])) := by
    refine own_pre (B := s₁.setTop (mkF m 1 #[.val (.ref a1)] [(.ref a1)])) (fun t k => XS.aloadN X0.here hx rfl (hb hby d1_0) rfl rfl k) ?_
    obtain ⟨T1, X1, e1, st1⟩ := initO X0 hx hZ hown (hw _ (List.mem_of_getElem? (i := 7) rfl)) (hw _ (List.mem_of_getElem? (i := 8) rfl)) (hw _ (List.mem_of_getElem? (i := 9) rfl)) e0 (g := (mkF m 1 #[.val (.ref a1)] [(.ref a1)])) rfl (by rw [hml]; rfl) rfl (hb hby d1_1) (by decide) (W := 0) (by show 2 * 0 + _ ≤ _; exact Nat.le_of_eq rfl) (by decide)
    refine own_pre (B := T1.setTop (mkF m 4 #[.val (.ref a1)] [])) st1 ?_
    exact own_retV X1 hx hlk Bd.returns (hb hby d1_4) (⟨rfl, N0, e1⟩) (by decide) (by decide)
  exact own_pre pre0 g_0
theorem d3_0 : decode prog_84_method_1_code 0 = .ok (.aload_n 0, 1) := by decide +kernel
theorem d3_1 : decode prog_84_method_1_code 1 = .ok (.invokespecial 1, 3) := by decide +kernel
theorem d3_4 : decode prog_84_method_1_code 4 = .ok (.aload_n 0, 1) := by decide +kernel
theorem d3_5 : decode prog_84_method_1_code 5 = .ok (.aload_n 1, 1) := by decide +kernel
theorem d3_6 : decode prog_84_method_1_code 6 = .ok (.putfield 7, 3) := by decide +kernel
theorem d3_9 : decode prog_84_method_1_code 9 = .ok (.return_, 1) := by decide +kernel
theorem pn_3 : plainName "com/example/quillon/quillon/engine/LockWait" = true := by first | (simp [plainName, overriddenIn]; done) | decide +kernel
theorem ef_3 (m : MethodId) (a1 : Addr) : entryFrame m #[(.ref a1), .null] 2 = mkF m 0 #[.val (.ref a1), .val .null] [] := by first | (simp [entryFrame, mkF, argsToLocals, Value.category]; done) | rfl
def Q3 (Z : State) (a1 : Addr) (u1 : Value) (h0 : Heap) (n0 : Nat) (v : Option Value) (h : Heap) (L : List Loc) : Prop := v = none ∧ Fr n0 L ∧ Keep h0 h [a1]
set_option maxRecDepth 65536 in
set_option maxHeartbeats 40000000 in
theorem rm3 (l : Launch) (Z : State) (a0 : Array Value) (hw : ∀ d ∈ tables_1, d.before a0 Z = true) (ws : List Jvm.Cond) (a1 : Addr) (u1 : Value) (h0 : Heap) (n0 : Nat) (Z0 : n0 ≤ h0.size) (Ea : Exa Z h0 a1 "com/example/quillon/quillon/engine/LockWait") (Fo : Fld Z h0 a1 "com/example/quillon/quillon/engine/LockWait" "waiter" "Lcom/example/quillon/quillon/engine/Transaction;" u1) (ga : n0 ≤ a1) :
    MetFree l (⟨"com/example/quillon/quillon/engine/LockWait", "<init>", "(Lcom/example/quillon/quillon/engine/Transaction;)V"⟩ : MethodName) (head1 (Jvm.Cond.code (⟨"com/example/quillon/quillon/engine/LockWait", "<init>", "(Lcom/example/quillon/quillon/engine/Transaction;)V"⟩ : MethodName) prog_84_method_1_code 2 none :: ws) ({ frames := 1, cells := 0, slots := 0, locals := 12 } : Room)) (fun a U => a = #[(.ref a1), .null] ∧ Z.Warmed39 U.vm ∧ U.heap = h0) (fun _ _ _ _ _ => True) (fun _ U o U' => ∃ v L, o = .returned v ∧ Q3 Z a1 u1 h0 n0 v U'.heap L ∧ FrameEnd U o U' L ({ frames := 1, cells := 0, slots := 0, locals := 12 } : Room).cells ({ frames := 1, cells := 0, slots := 0, locals := 12 } : Room).slots) := by
  refine MetFree.of_bodySF (plainFor_of_name pn_3) hisR ?_
  intro p e s m args below meth c s₁ Bd hml0 hP hK
  obtain ⟨rfl, hZ, hh⟩ := hP
  have hx := Bd.exec
  have hby := Bd.bytes
  have hml : c.maxLocals = 2 := hml0
  have hlk : meth.locks = false := BodyLoose.notSynchronized Bd
  have hown : s.vm.findClass "com/example/quillon/quillon/engine/LockWait" = some m.cls := findClass_of_methodNamed Bd.named
  have hnm := (name_of_methodNamed Bd.named Bd.method).1
  have X0 : Stand p l e ({ frames := 1, cells := 0, slots := 0, locals := 12 } : Room) s m #[(.ref a1), .null] below meth c s₁ [] 0 0 := Stand.of_body Bd
  have e0 : s₁.heap = h0 := by rw [← hh, Bd.state]; rfl
  have N0 := Fr.nil n0
  have pre0 : ∀ t, Steps p.tables e below (s₁.setTop (mkF m 0 #[.val (.ref a1), .val .null] [])) t → Steps p.tables e below (s₁.setTop (entryFrame m #[(.ref a1), .null] 2)) t := fun t k => castTop (ef_3 m a1) k
  have g_0 : own_Fin p e below s (Q3 Z a1 u1 h0 n0) ({ frames := 1, cells := 0, slots := 0, locals := 12 } : Room).cells ({ frames := 1, cells := 0, slots := 0, locals := 12 } : Room).slots (s₁.setTop (mkF m 0 #[.val (.ref a1), .val .null] [])) := by
    refine own_pre (B := s₁.setTop (mkF m 1 #[.val (.ref a1), .val .null] [(.ref a1)])) (fun t k => XS.aloadN X0.here hx rfl (hb hby d3_0) rfl rfl k) ?_
    obtain ⟨T1, X1, e1, st1⟩ := initO X0 hx hZ hown (hw _ (List.mem_of_getElem? (i := 16) rfl)) (hw _ (List.mem_of_getElem? (i := 8) rfl)) (hw _ (List.mem_of_getElem? (i := 9) rfl)) e0 (g := (mkF m 1 #[.val (.ref a1), .val .null] [(.ref a1)])) rfl (by rw [hml]; rfl) rfl (hb hby d3_1) (by decide) (W := 0) (by show 2 * 0 + _ ≤ _; exact Nat.le_of_eq rfl) (by decide)
    refine own_pre (B := T1.setTop (mkF m 4 #[.val (.ref a1), .val .null] [])) st1 ?_
    refine own_pre (B := T1.setTop (mkF m 5 #[.val (.ref a1), .val .null] [(.ref a1)])) (fun t k => XS.aloadN X1.here hx rfl (hb hby d3_4) rfl rfl k) ?_
    refine own_pre (B := T1.setTop (mkF m 6 #[.val (.ref a1), .val .null] [.null, (.ref a1)])) (fun t k => XS.aloadN X1.here hx rfl (hb hby d3_5) rfl rfl k) ?_
    obtain ⟨T2, h2, X2, e2, W2, st2⟩ := putF X1 hx hZ hown (host := "") (Or.inl (hw _ (List.mem_of_getElem? (i := 17) rfl))) Via.refl e1 Fo Ea (Or.inr ⟨(hw _ (List.mem_of_getElem? (i := 18) rfl)), rfl, hnm⟩) (hw _ (List.mem_of_getElem? (i := 11) rfl)) (ty := (.object "com/example/quillon/quillon/engine/Transaction")) (by decide) rfl rfl (g := (mkF m 6 #[.val (.ref a1), .val .null] [.null, (.ref a1)])) rfl rfl (hb hby d3_6)
    have N2 := Fr.snoc X2 N0 ga
    have ZH2 : n0 ≤ h2.size := by rw [W2.size]; exact Z0
    have K2 : Keep h0 h2 [a1] := Keep.wr (Keep.refl h0 _) W2 (Or.inl (List.mem_of_getElem? (i := 0) rfl))
    refine own_pre (B := T2.setTop (mkF m 9 #[.val (.ref a1), .val .null] [])) st2 ?_
    exact own_retV X2 hx hlk Bd.returns (hb hby d3_9) (own_at e2 ⟨rfl, N2, K2⟩) (by decide) (by decide)
  exact own_pre pre0 g_0
theorem d5_0 : decode prog_117_method_3_code 0 = .ok (.aload_n 0, 1) := by decide +kernel
theorem d5_1 : decode prog_117_method_3_code 1 = .ok (.aload_n 1, 1) := by decide +kernel
theorem d5_2 : decode prog_117_method_3_code 2 = .ok (.putfield 7, 3) := by decide +kernel
theorem d5_5 : decode prog_117_method_3_code 5 = .ok (.return_, 1) := by decide +kernel
theorem pn_5 : plainName "com/example/quillon/quillon/engine/RowQueue" = true := by first | (simp [plainName, overriddenIn]; done) | decide +kernel
theorem ef_St (m : MethodId) (qa : Addr) (wa : Addr) : entryFrame m #[(.ref qa), (.ref wa)] 2 = mkF m 0 #[.val (.ref qa), .val (.ref wa)] [] := by first | (simp [entryFrame, mkF, argsToLocals, Value.category]; done) | rfl
def QSt (Z : State) (qa : Addr) (wa : Addr) (bb : Bool) (tn : Int32) (lr : Int32) (pz : Int32) (h0 : Heap) (n0 : Nat) (v : Option Value) (h : Heap) (L : List Loc) : Prop := v = none ∧ Fr n0 L ∧ Keep h0 h [qa] ∧ own_RQ Z h qa wa true tn lr pz
set_option maxRecDepth 65536 in
set_option maxHeartbeats 40000000 in
theorem rmSt (l : Launch) (Z : State) (a0 : Array Value) (hw : ∀ d ∈ tables_1, d.before a0 Z = true) (ws : List Jvm.Cond) (qa : Addr) (wa : Addr) (bb : Bool) (tn : Int32) (lr : Int32) (pz : Int32) (h0 : Heap) (n0 : Nat) (Z0 : n0 ≤ h0.size) (F0 : own_RQ Z h0 qa wa bb tn lr pz) (gq : n0 ≤ qa) :
    MetFree l (⟨"com/example/quillon/quillon/engine/RowQueue", "start", "(Lcom/example/quillon/quillon/engine/LockWait;)V"⟩ : MethodName) (head1 (Jvm.Cond.code (⟨"com/example/quillon/quillon/engine/RowQueue", "start", "(Lcom/example/quillon/quillon/engine/LockWait;)V"⟩ : MethodName) prog_117_method_3_code 2 none :: ws) ({ frames := 0, cells := 0, slots := 0, locals := 0 } : Room)) (fun a U => a = #[(.ref qa), (.ref wa)] ∧ Z.Warmed39 U.vm ∧ U.heap = h0) (fun _ _ _ _ _ => True) (fun _ U o U' => ∃ v L, o = .returned v ∧ QSt Z qa wa bb tn lr pz h0 n0 v U'.heap L ∧ FrameEnd U o U' L ({ frames := 0, cells := 0, slots := 0, locals := 0 } : Room).cells ({ frames := 0, cells := 0, slots := 0, locals := 0 } : Room).slots) := by
  refine MetFree.of_bodySF (plainFor_of_name pn_5) hisR ?_
  intro p e s m args below meth c s₁ Bd hml0 hP hK
  obtain ⟨rfl, hZ, hh⟩ := hP
  have hx := Bd.exec
  have hby := Bd.bytes
  have hml : c.maxLocals = 2 := hml0
  have hlk : meth.locks = false := BodyLoose.notSynchronized Bd
  have hown : s.vm.findClass "com/example/quillon/quillon/engine/RowQueue" = some m.cls := findClass_of_methodNamed Bd.named
  have hnm := (name_of_methodNamed Bd.named Bd.method).1
  have X0 : Stand p l e ({ frames := 0, cells := 0, slots := 0, locals := 0 } : Room) s m #[(.ref qa), (.ref wa)] below meth c s₁ [] 0 0 := Stand.of_body Bd
  have e0 : s₁.heap = h0 := by rw [← hh, Bd.state]; rfl
  have N0 := Fr.nil n0
  have pre0 : ∀ t, Steps p.tables e below (s₁.setTop (mkF m 0 #[.val (.ref qa), .val (.ref wa)] [])) t → Steps p.tables e below (s₁.setTop (entryFrame m #[(.ref qa), (.ref wa)] 2)) t := fun t k => castTop (ef_St m qa wa) k
  have g_0 : own_Fin p e below s (QSt Z qa wa bb tn lr pz h0 n0) ({ frames := 0, cells := 0, slots := 0, locals := 0 } : Room).cells ({ frames := 0, cells := 0, slots := 0, locals := 0 } : Room).slots (s₁.setTop (mkF m 0 #[.val (.ref qa), .val (.ref wa)] [])) := by
    refine own_pre (B := s₁.setTop (mkF m 1 #[.val (.ref qa), .val (.ref wa)] [(.ref qa)])) (fun t k => XS.aloadN X0.here hx rfl (hb hby d5_0) rfl rfl k) ?_
    refine own_pre (B := s₁.setTop (mkF m 2 #[.val (.ref qa), .val (.ref wa)] [(.ref wa), (.ref qa)])) (fun t k => XS.aloadN X0.here hx rfl (hb hby d5_1) rfl rfl k) ?_
    obtain ⟨T1, h1, X1, e1, F1, W1, st1⟩ := own_p_first X0 hx hZ hw hown e0 F0 true (g := (mkF m 2 #[.val (.ref qa), .val (.ref wa)] [(.ref wa), (.ref qa)])) rfl rfl (hb hby d5_2)
    have N1 := Fr.snoc X1 N0 gq
    have ZH1 : n0 ≤ h1.size := by rw [W1.size]; exact Z0
    have K1 : Keep h0 h1 [qa] := Keep.wr (Keep.refl h0 _) W1 (Or.inl (List.mem_of_getElem? (i := 0) rfl))
    refine own_pre (B := T1.setTop (mkF m 5 #[.val (.ref qa), .val (.ref wa)] [])) st1 ?_
    exact own_retV X1 hx hlk Bd.returns (hb hby d5_5) (own_at e1 ⟨rfl, N1, K1, F1⟩) (by decide) (by decide)
  exact own_pre pre0 g_0
theorem d6_0 : decode prog_117_method_4_code 0 = .ok (.aload_n 0, 1) := by decide +kernel
theorem d6_1 : decode prog_117_method_4_code 1 = .ok (.aload_n 1, 1) := by decide +kernel
theorem d6_2 : decode prog_117_method_4_code 2 = .ok (.putfield 7, 3) := by decide +kernel
theorem d6_5 : decode prog_117_method_4_code 5 = .ok (.aload_n 0, 1) := by decide +kernel
theorem d6_6 : decode prog_117_method_4_code 6 = .ok (.iconst 0, 1) := by decide +kernel
theorem d6_7 : decode prog_117_method_4_code 7 = .ok (.putfield 13, 3) := by decide +kernel
theorem d6_10 : decode prog_117_method_4_code 10 = .ok (.aload_n 0, 1) := by decide +kernel
theorem d6_11 : decode prog_117_method_4_code 11 = .ok (.getfield 17, 3) := by decide +kernel
theorem d6_14 : decode prog_117_method_4_code 14 = .ok (.ifCond .le 13, 3) := by decide +kernel
theorem d6_17 : decode prog_117_method_4_code 17 = .ok (.aload_n 0, 1) := by decide +kernel
theorem d6_18 : decode prog_117_method_4_code 18 = .ok (.dup, 1) := by decide +kernel
theorem d6_19 : decode prog_117_method_4_code 19 = .ok (.getfield 17, 3) := by decide +kernel
theorem d6_22 : decode prog_117_method_4_code 22 = .ok (.iconst 1, 1) := by decide +kernel
theorem d6_23 : decode prog_117_method_4_code 23 = .ok (.isub, 1) := by decide +kernel
theorem d6_24 : decode prog_117_method_4_code 24 = .ok (.putfield 17, 3) := by decide +kernel
theorem d6_27 : decode prog_117_method_4_code 27 = .ok (.return_, 1) := by decide +kernel
theorem pn_6 : plainName "com/example/quillon/quillon/engine/RowQueue" = true := by first | (simp [plainName, overriddenIn]; done) | decide +kernel
theorem ef_En (m : MethodId) (qa : Addr) : entryFrame m #[(.ref qa), .null] 2 = mkF m 0 #[.val (.ref qa), .val .null] [] := by first | (simp [entryFrame, mkF, argsToLocals, Value.category]; done) | rfl
def QEn (Z : State) (qa : Addr) (wa : Addr) (bb : Bool) (tn : Int32) (lr : Int32) (pz : Int32) (h0 : Heap) (n0 : Nat) (v : Option Value) (h : Heap) (L : List Loc) : Prop := v = none ∧ Fr n0 L ∧ Keep h0 h [qa] ∧ own_RQ Z h qa wa false (if (0 : Int32) < tn then tn - 1 else tn) lr 0
set_option maxRecDepth 65536 in
set_option maxHeartbeats 40000000 in
theorem rmEn (l : Launch) (Z : State) (a0 : Array Value) (hw : ∀ d ∈ tables_1, d.before a0 Z = true) (ws : List Jvm.Cond) (qa : Addr) (wa : Addr) (bb : Bool) (tn : Int32) (lr : Int32) (pz : Int32) (h0 : Heap) (n0 : Nat) (Z0 : n0 ≤ h0.size) (F0 : own_RQ Z h0 qa wa bb tn lr pz) (gq : n0 ≤ qa) :
    MetFree l (⟨"com/example/quillon/quillon/engine/RowQueue", "endTurn", "(Lcom/example/quillon/quillon/engine/LockWait;)V"⟩ : MethodName) (head1 (Jvm.Cond.code (⟨"com/example/quillon/quillon/engine/RowQueue", "endTurn", "(Lcom/example/quillon/quillon/engine/LockWait;)V"⟩ : MethodName) prog_117_method_4_code 2 none :: ws) ({ frames := 0, cells := 0, slots := 0, locals := 0 } : Room)) (fun a U => a = #[(.ref qa), .null] ∧ Z.Warmed39 U.vm ∧ U.heap = h0) (fun _ _ _ _ _ => True) (fun _ U o U' => ∃ v L, o = .returned v ∧ QEn Z qa wa bb tn lr pz h0 n0 v U'.heap L ∧ FrameEnd U o U' L ({ frames := 0, cells := 0, slots := 0, locals := 0 } : Room).cells ({ frames := 0, cells := 0, slots := 0, locals := 0 } : Room).slots) := by
  refine MetFree.of_bodySF (plainFor_of_name pn_6) hisR ?_
  intro p e s m args below meth c s₁ Bd hml0 hP hK
  obtain ⟨rfl, hZ, hh⟩ := hP
  have hx := Bd.exec
  have hby := Bd.bytes
  have hml : c.maxLocals = 2 := hml0
  have hlk : meth.locks = false := BodyLoose.notSynchronized Bd
  have hown : s.vm.findClass "com/example/quillon/quillon/engine/RowQueue" = some m.cls := findClass_of_methodNamed Bd.named
  have hnm := (name_of_methodNamed Bd.named Bd.method).1
  have X0 : Stand p l e ({ frames := 0, cells := 0, slots := 0, locals := 0 } : Room) s m #[(.ref qa), .null] below meth c s₁ [] 0 0 := Stand.of_body Bd
  have e0 : s₁.heap = h0 := by rw [← hh, Bd.state]; rfl
  have N0 := Fr.nil n0
  have pre0 : ∀ t, Steps p.tables e below (s₁.setTop (mkF m 0 #[.val (.ref qa), .val .null] [])) t → Steps p.tables e below (s₁.setTop (entryFrame m #[(.ref qa), .null] 2)) t := fun t k => castTop (ef_En m qa) k
  have g_0 : own_Fin p e below s (QEn Z qa wa bb tn lr pz h0 n0) ({ frames := 0, cells := 0, slots := 0, locals := 0 } : Room).cells ({ frames := 0, cells := 0, slots := 0, locals := 0 } : Room).slots (s₁.setTop (mkF m 0 #[.val (.ref qa), .val .null] [])) := by
    refine own_pre (B := s₁.setTop (mkF m 1 #[.val (.ref qa), .val .null] [(.ref qa)])) (fun t k => XS.aloadN X0.here hx rfl (hb hby d6_0) rfl rfl k) ?_
    refine own_pre (B := s₁.setTop (mkF m 2 #[.val (.ref qa), .val .null] [.null, (.ref qa)])) (fun t k => XS.aloadN X0.here hx rfl (hb hby d6_1) rfl rfl k) ?_
    obtain ⟨T1, h1, X1, e1, F1, W1, st1⟩ := own_p_first X0 hx hZ hw hown e0 F0 false (g := (mkF m 2 #[.val (.ref qa), .val .null] [.null, (.ref qa)])) rfl rfl (hb hby d6_2)
    have N1 := Fr.snoc X1 N0 gq
    have ZH1 : n0 ≤ h1.size := by rw [W1.size]; exact Z0
    have K1 : Keep h0 h1 [qa] := Keep.wr (Keep.refl h0 _) W1 (Or.inl (List.mem_of_getElem? (i := 0) rfl))
    refine own_pre (B := T1.setTop (mkF m 5 #[.val (.ref qa), .val .null] [])) st1 ?_
    refine own_pre (B := T1.setTop (mkF m 6 #[.val (.ref qa), .val .null] [(.ref qa)])) (fun t k => XS.aloadN X1.here hx rfl (hb hby d6_5) rfl rfl k) ?_
    refine own_pre (B := T1.setTop (mkF m 7 #[.val (.ref qa), .val .null] [(.int (0 : Int32)), (.ref qa)])) (fun t k => XS.iconst X1.here hx rfl (hb hby d6_6) k) ?_
    obtain ⟨T2, h2, X2, e2, F2, W2, st2⟩ := own_p_passed X1 hx hZ hw hown e1 F1 (x := (0 : Int32)) (by decide) (g := (mkF m 7 #[.val (.ref qa), .val .null] [(.int (0 : Int32)), (.ref qa)])) rfl rfl (hb hby d6_7)
    have N2 := Fr.snoc X2 N1 gq
    have ZH2 : n0 ≤ h2.size := by rw [W2.size]; exact ZH1
    have K2 : Keep h0 h2 [qa] := Keep.wr K1 W2 (Or.inl (List.mem_of_getElem? (i := 0) rfl))
    refine own_pre (B := T2.setTop (mkF m 10 #[.val (.ref qa), .val .null] [])) st2 ?_
    refine own_pre (B := T2.setTop (mkF m 11 #[.val (.ref qa), .val .null] [(.ref qa)])) (fun t k => XS.aloadN X2.here hx rfl (hb hby d6_10) rfl rfl k) ?_
    obtain ⟨T3, X3, e3, st3⟩ := getF X2 hx hZ hown (host := "") (Or.inl (hw _ (List.mem_of_getElem? (i := 37) rfl))) Via.refl e2 (F2.2.2.1) (g := (mkF m 11 #[.val (.ref qa), .val .null] [(.ref qa)])) rfl rfl (hb hby d6_11)
    refine own_pre (B := T3.setTop (mkF m 14 #[.val (.ref qa), .val .null] [(.int tn)])) st3 ?_
    by_cases hc4 : (0 : Int32) < tn
    · skip
      refine own_pre (B := T3.setTop (mkF m 17 #[.val (.ref qa), .val .null] [])) (fun t k => XS.ifNo X3.here hx rfl (hb hby d6_14) rfl ((if0 _ _).trans (tlt hc4).2.2.2) k) ?_
      refine own_pre (B := T3.setTop (mkF m 18 #[.val (.ref qa), .val .null] [(.ref qa)])) (fun t k => XS.aloadN X3.here hx rfl (hb hby d6_17) rfl rfl k) ?_
      refine own_pre (B := T3.setTop (mkF m 19 #[.val (.ref qa), .val .null] [(.ref qa), (.ref qa)])) (fun t k => XS.dup X3.here hx rfl (hb hby d6_18) rfl rfl k) ?_
      obtain ⟨T6, X6, e6, st6⟩ := getF X3 hx hZ hown (host := "") (Or.inl (hw _ (List.mem_of_getElem? (i := 37) rfl))) Via.refl e3 (F2.2.2.1) (g := (mkF m 19 #[.val (.ref qa), .val .null] [(.ref qa), (.ref qa)])) rfl rfl (hb hby d6_19)
      refine own_pre (B := T6.setTop (mkF m 22 #[.val (.ref qa), .val .null] [(.int tn), (.ref qa)])) st6 ?_
      refine own_pre (B := T6.setTop (mkF m 23 #[.val (.ref qa), .val .null] [(.int (1 : Int32)), (.int tn), (.ref qa)])) (fun t k => XS.iconst X6.here hx rfl (hb hby d6_22) k) ?_
      refine own_pre (B := T6.setTop (mkF m 24 #[.val (.ref qa), .val .null] [(.int (tn - (1 : Int32))), (.ref qa)])) (fun t k => XS.isub X6.here hx rfl (hb hby d6_23) rfl k) ?_
      obtain ⟨T7, h7, X7, e7, F7, W7, st7⟩ := own_p_turnsInOrder X6 hx hZ hw hown e6 F2 (x := (tn - (1 : Int32))) (g := (mkF m 24 #[.val (.ref qa), .val .null] [(.int (tn - (1 : Int32))), (.ref qa)])) rfl rfl (hb hby d6_24)
      have N7 := Fr.snoc X7 N2 gq
      have ZH7 : n0 ≤ h7.size := by rw [W7.size]; exact ZH2
      have K7 : Keep h0 h7 [qa] := Keep.wr K2 W7 (Or.inl (List.mem_of_getElem? (i := 0) rfl))
      refine own_pre (B := T7.setTop (mkF m 27 #[.val (.ref qa), .val .null] [])) st7 ?_
      exact own_retV X7 hx hlk Bd.returns (hb hby d6_27) (own_at e7 ⟨rfl, N7, K7, (by rw [if_pos hc4]; exact F7)⟩) (by decide) (by decide)
    · skip
      refine own_pre (B := T3.setTop (mkF m 27 #[.val (.ref qa), .val .null] [])) (fun t k => XS.ifYes X3.here hx rfl (pc0 := 14) (pc' := 27) rfl (hb hby d6_14) rfl ((if0 _ _).trans (flt hc4).2.2.2) (by decide) (by decide) k) ?_
      exact own_retV X3 hx hlk Bd.returns (hb hby d6_27) (own_at e3 ⟨rfl, N2, K2, (by rw [if_neg hc4]; exact F2)⟩) (by decide) (by decide)
  exact own_pre pre0 g_0
theorem ef_Ew (m : MethodId) (qa : Addr) (wa : Addr) : entryFrame m #[(.ref qa), (.ref wa)] 2 = mkF m 0 #[.val (.ref qa), .val (.ref wa)] [] := by first | (simp [entryFrame, mkF, argsToLocals, Value.category]; done) | rfl
def QEw (Z : State) (qa : Addr) (wa : Addr) (bb : Bool) (tn : Int32) (lr : Int32) (pz : Int32) (h0 : Heap) (n0 : Nat) (v : Option Value) (h : Heap) (L : List Loc) : Prop := v = none ∧ Fr n0 L ∧ Keep h0 h [qa] ∧ own_RQ Z h qa wa true (if (0 : Int32) < tn then tn - 1 else tn) lr 0
set_option maxRecDepth 65536 in
set_option maxHeartbeats 40000000 in
theorem rmEw (l : Launch) (Z : State) (a0 : Array Value) (hw : ∀ d ∈ tables_1, d.before a0 Z = true) (ws : List Jvm.Cond) (qa : Addr) (wa : Addr) (bb : Bool) (tn : Int32) (lr : Int32) (pz : Int32) (h0 : Heap) (n0 : Nat) (Z0 : n0 ≤ h0.size) (F0 : own_RQ Z h0 qa wa bb tn lr pz) (gq : n0 ≤ qa) :
    MetFree l (⟨"com/example/quillon/quillon/engine/RowQueue", "endTurn", "(Lcom/example/quillon/quillon/engine/LockWait;)V"⟩ : MethodName) (head1 (Jvm.Cond.code (⟨"com/example/quillon/quillon/engine/RowQueue", "endTurn", "(Lcom/example/quillon/quillon/engine/LockWait;)V"⟩ : MethodName) prog_117_method_4_code 2 none :: ws) ({ frames := 0, cells := 0, slots := 0, locals := 0 } : Room)) (fun a U => a = #[(.ref qa), (.ref wa)] ∧ Z.Warmed39 U.vm ∧ U.heap = h0) (fun _ _ _ _ _ => True) (fun _ U o U' => ∃ v L, o = .returned v ∧ QEw Z qa wa bb tn lr pz h0 n0 v U'.heap L ∧ FrameEnd U o U' L ({ frames := 0, cells := 0, slots := 0, locals := 0 } : Room).cells ({ frames := 0, cells := 0, slots := 0, locals := 0 } : Room).slots) := by
  refine MetFree.of_bodySF (plainFor_of_name pn_6) hisR ?_
  intro p e s m args below meth c s₁ Bd hml0 hP hK
  obtain ⟨rfl, hZ, hh⟩ := hP
  have hx := Bd.exec
  have hby := Bd.bytes
  have hml : c.maxLocals = 2 := hml0
  have hlk : meth.locks = false := BodyLoose.notSynchronized Bd
  have hown : s.vm.findClass "com/example/quillon/quillon/engine/RowQueue" = some m.cls := findClass_of_methodNamed Bd.named
  have hnm := (name_of_methodNamed Bd.named Bd.method).1
  have X0 : Stand p l e ({ frames := 0, cells := 0, slots := 0, locals := 0 } : Room) s m #[(.ref qa), (.ref wa)] below meth c s₁ [] 0 0 := Stand.of_body Bd
  have e0 : s₁.heap = h0 := by rw [← hh, Bd.state]; rfl
  have N0 := Fr.nil n0
  have pre0 : ∀ t, Steps p.tables e below (s₁.setTop (mkF m 0 #[.val (.ref qa), .val (.ref wa)] [])) t → Steps p.tables e below (s₁.setTop (entryFrame m #[(.ref qa), (.ref wa)] 2)) t := fun t k => castTop (ef_Ew m qa wa) k
  have g_0 : own_Fin p e below s (QEw Z qa wa bb tn lr pz h0 n0) ({ frames := 0, cells := 0, slots := 0, locals := 0 } : Room).cells ({ frames := 0, cells := 0, slots := 0, locals := 0 } : Room).slots (s₁.setTop (mkF m 0 #[.val (.ref qa), .val (.ref wa)] [])) := by
    refine own_pre (B := s₁.setTop (mkF m 1 #[.val (.ref qa), .val (.ref wa)] [(.ref qa)])) (fun t k => XS.aloadN X0.here hx rfl (hb hby d6_0) rfl rfl k) ?_
    refine own_pre (B := s₁.setTop (mkF m 2 #[.val (.ref qa), .val (.ref wa)] [(.ref wa), (.ref qa)])) (fun t k => XS.aloadN X0.here hx rfl (hb hby d6_1) rfl rfl k) ?_
    obtain ⟨T1, h1, X1, e1, F1, W1, st1⟩ := own_p_first X0 hx hZ hw hown e0 F0 true (g := (mkF m 2 #[.val (.ref qa), .val (.ref wa)] [(.ref wa), (.ref qa)])) rfl rfl (hb hby d6_2)
    have N1 := Fr.snoc X1 N0 gq
    have ZH1 : n0 ≤ h1.size := by rw [W1.size]; exact Z0
    have K1 : Keep h0 h1 [qa] := Keep.wr (Keep.refl h0 _) W1 (Or.inl (List.mem_of_getElem? (i := 0) rfl))
    refine own_pre (B := T1.setTop (mkF m 5 #[.val (.ref qa), .val (.ref wa)] [])) st1 ?_
    refine own_pre (B := T1.setTop (mkF m 6 #[.val (.ref qa), .val (.ref wa)] [(.ref qa)])) (fun t k => XS.aloadN X1.here hx rfl (hb hby d6_5) rfl rfl k) ?_
    refine own_pre (B := T1.setTop (mkF m 7 #[.val (.ref qa), .val (.ref wa)] [(.int (0 : Int32)), (.ref qa)])) (fun t k => XS.iconst X1.here hx rfl (hb hby d6_6) k) ?_
    obtain ⟨T2, h2, X2, e2, F2, W2, st2⟩ := own_p_passed X1 hx hZ hw hown e1 F1 (x := (0 : Int32)) (by decide) (g := (mkF m 7 #[.val (.ref qa), .val (.ref wa)] [(.int (0 : Int32)), (.ref qa)])) rfl rfl (hb hby d6_7)
    have N2 := Fr.snoc X2 N1 gq
    have ZH2 : n0 ≤ h2.size := by rw [W2.size]; exact ZH1
    have K2 : Keep h0 h2 [qa] := Keep.wr K1 W2 (Or.inl (List.mem_of_getElem? (i := 0) rfl))
    refine own_pre (B := T2.setTop (mkF m 10 #[.val (.ref qa), .val (.ref wa)] [])) st2 ?_
    refine own_pre (B := T2.setTop (mkF m 11 #[.val (.ref qa), .val (.ref wa)] [(.ref qa)])) (fun t k => XS.aloadN X2.here hx rfl (hb hby d6_10) rfl rfl k) ?_
    obtain ⟨T3, X3, e3, st3⟩ := getF X2 hx hZ hown (host := "") (Or.inl (hw _ (List.mem_of_getElem? (i := 37) rfl))) Via.refl e2 (F2.2.2.1) (g := (mkF m 11 #[.val (.ref qa), .val (.ref wa)] [(.ref qa)])) rfl rfl (hb hby d6_11)
    refine own_pre (B := T3.setTop (mkF m 14 #[.val (.ref qa), .val (.ref wa)] [(.int tn)])) st3 ?_
    by_cases hc4 : (0 : Int32) < tn
    · skip
      refine own_pre (B := T3.setTop (mkF m 17 #[.val (.ref qa), .val (.ref wa)] [])) (fun t k => XS.ifNo X3.here hx rfl (hb hby d6_14) rfl ((if0 _ _).trans (tlt hc4).2.2.2) k) ?_
      refine own_pre (B := T3.setTop (mkF m 18 #[.val (.ref qa), .val (.ref wa)] [(.ref qa)])) (fun t k => XS.aloadN X3.here hx rfl (hb hby d6_17) rfl rfl k) ?_
      refine own_pre (B := T3.setTop (mkF m 19 #[.val (.ref qa), .val (.ref wa)] [(.ref qa), (.ref qa)])) (fun t k => XS.dup X3.here hx rfl (hb hby d6_18) rfl rfl k) ?_
      obtain ⟨T6, X6, e6, st6⟩ := getF X3 hx hZ hown (host := "") (Or.inl (hw _ (List.mem_of_getElem? (i := 37) rfl))) Via.refl e3 (F2.2.2.1) (g := (mkF m 19 #[.val (.ref qa), .val (.ref wa)] [(.ref qa), (.ref qa)])) rfl rfl (hb hby d6_19)
      refine own_pre (B := T6.setTop (mkF m 22 #[.val (.ref qa), .val (.ref wa)] [(.int tn), (.ref qa)])) st6 ?_
      refine own_pre (B := T6.setTop (mkF m 23 #[.val (.ref qa), .val (.ref wa)] [(.int (1 : Int32)), (.int tn), (.ref qa)])) (fun t k => XS.iconst X6.here hx rfl (hb hby d6_22) k) ?_
      refine own_pre (B := T6.setTop (mkF m 24 #[.val (.ref qa), .val (.ref wa)] [(.int (tn - (1 : Int32))), (.ref qa)])) (fun t k => XS.isub X6.here hx rfl (hb hby d6_23) rfl k) ?_
      obtain ⟨T7, h7, X7, e7, F7, W7, st7⟩ := own_p_turnsInOrder X6 hx hZ hw hown e6 F2 (x := (tn - (1 : Int32))) (g := (mkF m 24 #[.val (.ref qa), .val (.ref wa)] [(.int (tn - (1 : Int32))), (.ref qa)])) rfl rfl (hb hby d6_24)
      have N7 := Fr.snoc X7 N2 gq
      have ZH7 : n0 ≤ h7.size := by rw [W7.size]; exact ZH2
      have K7 : Keep h0 h7 [qa] := Keep.wr K2 W7 (Or.inl (List.mem_of_getElem? (i := 0) rfl))
      refine own_pre (B := T7.setTop (mkF m 27 #[.val (.ref qa), .val (.ref wa)] [])) st7 ?_
      exact own_retV X7 hx hlk Bd.returns (hb hby d6_27) (own_at e7 ⟨rfl, N7, K7, (by rw [if_pos hc4]; exact F7)⟩) (by decide) (by decide)
    · skip
      refine own_pre (B := T3.setTop (mkF m 27 #[.val (.ref qa), .val (.ref wa)] [])) (fun t k => XS.ifYes X3.here hx rfl (pc0 := 14) (pc' := 27) rfl (hb hby d6_14) rfl ((if0 _ _).trans (flt hc4).2.2.2) (by decide) (by decide) k) ?_
      exact own_retV X3 hx hlk Bd.returns (hb hby d6_27) (own_at e3 ⟨rfl, N2, K2, (by rw [if_neg hc4]; exact F2)⟩) (by decide) (by decide)
  exact own_pre pre0 g_0
theorem d8_0 : decode prog_117_method_6_code 0 = .ok (.aload_n 0, 1) := by decide +kernel
theorem d8_1 : decode prog_117_method_6_code 1 = .ok (.getfield 7, 3) := by decide +kernel
theorem d8_4 : decode prog_117_method_6_code 4 = .ok (.ifnull 8, 3) := by decide +kernel
theorem d8_7 : decode prog_117_method_6_code 7 = .ok (.aload_n 0, 1) := by decide +kernel
theorem d8_8 : decode prog_117_method_6_code 8 = .ok (.iconst 1, 1) := by decide +kernel
theorem d8_9 : decode prog_117_method_6_code 9 = .ok (.putfield 13, 3) := by decide +kernel
theorem d8_12 : decode prog_117_method_6_code 12 = .ok (.return_, 1) := by decide +kernel
theorem pn_8 : plainName "com/example/quillon/quillon/engine/RowQueue" = true := by first | (simp [plainName, overriddenIn]; done) | decide +kernel
theorem ef_Tt (m : MethodId) (qa : Addr) : entryFrame m #[(.ref qa)] 1 = mkF m 0 #[.val (.ref qa)] [] := by first | (simp [entryFrame, mkF, argsToLocals, Value.category]; done) | rfl
def QTt (Z : State) (qa : Addr) (wa : Addr) (tn : Int32) (lr : Int32) (pz : Int32) (h0 : Heap) (n0 : Nat) (v : Option Value) (h : Heap) (L : List Loc) : Prop := v = none ∧ Fr n0 L ∧ Keep h0 h [qa] ∧ own_RQ Z h qa wa true tn lr 1
set_option maxRecDepth 65536 in
set_option maxHeartbeats 40000000 in
theorem rmTt (l : Launch) (Z : State) (a0 : Array Value) (hw : ∀ d ∈ tables_1, d.before a0 Z = true) (ws : List Jvm.Cond) (qa : Addr) (wa : Addr) (tn : Int32) (lr : Int32) (pz : Int32) (h0 : Heap) (n0 : Nat) (Z0 : n0 ≤ h0.size) (F0 : own_RQ Z h0 qa wa true tn lr pz) (gq : n0 ≤ qa) :
    MetFree l (⟨"com/example/quillon/quillon/engine/RowQueue", "taken", "()V"⟩ : MethodName) (head1 (Jvm.Cond.code (⟨"com/example/quillon/quillon/engine/RowQueue", "taken", "()V"⟩ : MethodName) prog_117_method_6_code 1 none :: ws) ({ frames := 0, cells := 0, slots := 0, locals := 0 } : Room)) (fun a U => a = #[(.ref qa)] ∧ Z.Warmed39 U.vm ∧ U.heap = h0) (fun _ _ _ _ _ => True) (fun _ U o U' => ∃ v L, o = .returned v ∧ QTt Z qa wa tn lr pz h0 n0 v U'.heap L ∧ FrameEnd U o U' L ({ frames := 0, cells := 0, slots := 0, locals := 0 } : Room).cells ({ frames := 0, cells := 0, slots := 0, locals := 0 } : Room).slots) := by
  refine MetFree.of_bodySF (plainFor_of_name pn_8) hisR ?_
  intro p e s m args below meth c s₁ Bd hml0 hP hK
  obtain ⟨rfl, hZ, hh⟩ := hP
  have hx := Bd.exec
  have hby := Bd.bytes
  have hml : c.maxLocals = 1 := hml0
  have hlk : meth.locks = false := BodyLoose.notSynchronized Bd
  have hown : s.vm.findClass "com/example/quillon/quillon/engine/RowQueue" = some m.cls := findClass_of_methodNamed Bd.named
  have hnm := (name_of_methodNamed Bd.named Bd.method).1
  have X0 : Stand p l e ({ frames := 0, cells := 0, slots := 0, locals := 0 } : Room) s m #[(.ref qa)] below meth c s₁ [] 0 0 := Stand.of_body Bd
  have e0 : s₁.heap = h0 := by rw [← hh, Bd.state]; rfl
  have N0 := Fr.nil n0
  have pre0 : ∀ t, Steps p.tables e below (s₁.setTop (mkF m 0 #[.val (.ref qa)] [])) t → Steps p.tables e below (s₁.setTop (entryFrame m #[(.ref qa)] 1)) t := fun t k => castTop (ef_Tt m qa) k
  have g_0 : own_Fin p e below s (QTt Z qa wa tn lr pz h0 n0) ({ frames := 0, cells := 0, slots := 0, locals := 0 } : Room).cells ({ frames := 0, cells := 0, slots := 0, locals := 0 } : Room).slots (s₁.setTop (mkF m 0 #[.val (.ref qa)] [])) := by
    refine own_pre (B := s₁.setTop (mkF m 1 #[.val (.ref qa)] [(.ref qa)])) (fun t k => XS.aloadN X0.here hx rfl (hb hby d8_0) rfl rfl k) ?_
    obtain ⟨T1, X1, e1, st1⟩ := getF X0 hx hZ hown (host := "") (Or.inl (hw _ (List.mem_of_getElem? (i := 28) rfl))) Via.refl e0 (F0.2.1) (g := (mkF m 1 #[.val (.ref qa)] [(.ref qa)])) rfl rfl (hb hby d8_1)
    refine own_pre (B := T1.setTop (mkF m 4 #[.val (.ref qa)] [(.ref wa)])) st1 ?_
    refine own_pre (B := T1.setTop (mkF m 7 #[.val (.ref qa)] [])) (fun t k => XS.ifnullNo X1.here hx rfl (hb hby d8_4) rfl k) ?_
    refine own_pre (B := T1.setTop (mkF m 8 #[.val (.ref qa)] [(.ref qa)])) (fun t k => XS.aloadN X1.here hx rfl (hb hby d8_7) rfl rfl k) ?_
    refine own_pre (B := T1.setTop (mkF m 9 #[.val (.ref qa)] [(.int (1 : Int32)), (.ref qa)])) (fun t k => XS.iconst X1.here hx rfl (hb hby d8_8) k) ?_
    obtain ⟨T2, h2, X2, e2, F2, W2, st2⟩ := own_p_passed X1 hx hZ hw hown e1 F0 (x := (1 : Int32)) (by decide) (g := (mkF m 9 #[.val (.ref qa)] [(.int (1 : Int32)), (.ref qa)])) rfl rfl (hb hby d8_9)
    have N2 := Fr.snoc X2 N0 gq
    have ZH2 : n0 ≤ h2.size := by rw [W2.size]; exact Z0
    have K2 : Keep h0 h2 [qa] := Keep.wr (Keep.refl h0 _) W2 (Or.inl (List.mem_of_getElem? (i := 0) rfl))
    refine own_pre (B := T2.setTop (mkF m 12 #[.val (.ref qa)] [])) st2 ?_
    exact own_retV X2 hx hlk Bd.returns (hb hby d8_12) (own_at e2 ⟨rfl, N2, K2, F2⟩) (by decide) (by decide)
  exact own_pre pre0 g_0
theorem ef_Tf (m : MethodId) (qa : Addr) : entryFrame m #[(.ref qa)] 1 = mkF m 0 #[.val (.ref qa)] [] := by first | (simp [entryFrame, mkF, argsToLocals, Value.category]; done) | rfl
def QTf (Z : State) (qa : Addr) (wa : Addr) (tn : Int32) (lr : Int32) (pz : Int32) (h0 : Heap) (n0 : Nat) (v : Option Value) (h : Heap) (L : List Loc) : Prop := v = none ∧ Fr n0 L ∧ Keep h0 h [qa] ∧ own_RQ Z h qa wa false tn lr pz
set_option maxRecDepth 65536 in
set_option maxHeartbeats 40000000 in
theorem rmTf (l : Launch) (Z : State) (a0 : Array Value) (hw : ∀ d ∈ tables_1, d.before a0 Z = true) (ws : List Jvm.Cond) (qa : Addr) (wa : Addr) (tn : Int32) (lr : Int32) (pz : Int32) (h0 : Heap) (n0 : Nat) (Z0 : n0 ≤ h0.size) (F0 : own_RQ Z h0 qa wa false tn lr pz) (gq : n0 ≤ qa) :
    MetFree l (⟨"com/example/quillon/quillon/engine/RowQueue", "taken", "()V"⟩ : MethodName) (head1 (Jvm.Cond.code (⟨"com/example/quillon/quillon/engine/RowQueue", "taken", "()V"⟩ : MethodName) prog_117_method_6_code 1 none :: ws) ({ frames := 0, cells := 0, slots := 0, locals := 0 } : Room)) (fun a U => a = #[(.ref qa)] ∧ Z.Warmed39 U.vm ∧ U.heap = h0) (fun _ _ _ _ _ => True) (fun _ U o U' => ∃ v L, o = .returned v ∧ QTf Z qa wa tn lr pz h0 n0 v U'.heap L ∧ FrameEnd U o U' L ({ frames := 0, cells := 0, slots := 0, locals := 0 } : Room).cells ({ frames := 0, cells := 0, slots := 0, locals := 0 } : Room).slots) := by
  refine MetFree.of_bodySF (plainFor_of_name pn_8) hisR ?_
  intro p e s m args below meth c s₁ Bd hml0 hP hK
  obtain ⟨rfl, hZ, hh⟩ := hP
  have hx := Bd.exec
  have hby := Bd.bytes
  have hml : c.maxLocals = 1 := hml0
  have hlk : meth.locks = false := BodyLoose.notSynchronized Bd
  have hown : s.vm.findClass "com/example/quillon/quillon/engine/RowQueue" = some m.cls := findClass_of_methodNamed Bd.named
  have hnm := (name_of_methodNamed Bd.named Bd.method).1
  have X0 : Stand p l e ({ frames := 0, cells := 0, slots := 0, locals := 0 } : Room) s m #[(.ref qa)] below meth c s₁ [] 0 0 := Stand.of_body Bd
  have e0 : s₁.heap = h0 := by rw [← hh, Bd.state]; rfl
  have N0 := Fr.nil n0
  have pre0 : ∀ t, Steps p.tables e below (s₁.setTop (mkF m 0 #[.val (.ref qa)] [])) t → Steps p.tables e below (s₁.setTop (entryFrame m #[(.ref qa)] 1)) t := fun t k => castTop (ef_Tf m qa) k
  have g_0 : own_Fin p e below s (QTf Z qa wa tn lr pz h0 n0) ({ frames := 0, cells := 0, slots := 0, locals := 0 } : Room).cells ({ frames := 0, cells := 0, slots := 0, locals := 0 } : Room).slots (s₁.setTop (mkF m 0 #[.val (.ref qa)] [])) := by
    refine own_pre (B := s₁.setTop (mkF m 1 #[.val (.ref qa)] [(.ref qa)])) (fun t k => XS.aloadN X0.here hx rfl (hb hby d8_0) rfl rfl k) ?_
    obtain ⟨T1, X1, e1, st1⟩ := getF X0 hx hZ hown (host := "") (Or.inl (hw _ (List.mem_of_getElem? (i := 28) rfl))) Via.refl e0 (F0.2.1) (g := (mkF m 1 #[.val (.ref qa)] [(.ref qa)])) rfl rfl (hb hby d8_1)
    refine own_pre (B := T1.setTop (mkF m 4 #[.val (.ref qa)] [.null])) st1 ?_
    refine own_pre (B := T1.setTop (mkF m 12 #[.val (.ref qa)] [])) (fun t k => XS.ifnullYes X1.here hx rfl (pc0 := 4) (pc' := 12) rfl (hb hby d8_4) rfl (by decide) (by decide) k) ?_
    exact own_retV X1 hx hlk Bd.returns (hb hby d8_12) (own_at e1 ⟨rfl, N0, (Keep.refl h0 _), F0⟩) (by decide) (by decide)
  exact own_pre pre0 g_0
theorem d9_0 : decode prog_117_method_7_code 0 = .ok (.iload_n 1, 1) := by decide +kernel
theorem d9_1 : decode prog_117_method_7_code 1 = .ok (.ifCond .eq 34, 3) := by decide +kernel
theorem d9_4 : decode prog_117_method_7_code 4 = .ok (.aload_n 0, 1) := by decide +kernel
theorem d9_5 : decode prog_117_method_7_code 5 = .ok (.iconst 1, 1) := by decide +kernel
theorem d9_6 : decode prog_117_method_7_code 6 = .ok (.iconst 2, 1) := by decide +kernel
theorem d9_7 : decode prog_117_method_7_code 7 = .ok (.aload_n 0, 1) := by decide +kernel
theorem d9_8 : decode prog_117_method_7_code 8 = .ok (.getfield 27, 3) := by decide +kernel
theorem d9_11 : decode prog_117_method_7_code 11 = .ok (.imul, 1) := by decide +kernel
theorem d9_12 : decode prog_117_method_7_code 12 = .ok (.invokestatic 30, 3) := by decide +kernel
theorem d9_15 : decode prog_117_method_7_code 15 = .ok (.sipush 1024, 3) := by decide +kernel
theorem d9_18 : decode prog_117_method_7_code 18 = .ok (.invokestatic 36, 3) := by decide +kernel
theorem d9_21 : decode prog_117_method_7_code 21 = .ok (.putfield 27, 3) := by decide +kernel
theorem d9_24 : decode prog_117_method_7_code 24 = .ok (.aload_n 0, 1) := by decide +kernel
theorem d9_25 : decode prog_117_method_7_code 25 = .ok (.aload_n 0, 1) := by decide +kernel
theorem d9_26 : decode prog_117_method_7_code 26 = .ok (.getfield 27, 3) := by decide +kernel
theorem d9_29 : decode prog_117_method_7_code 29 = .ok (.putfield 17, 3) := by decide +kernel
theorem d9_32 : decode prog_117_method_7_code 32 = .ok (.goto 15, 3) := by decide +kernel
theorem d9_47 : decode prog_117_method_7_code 47 = .ok (.aload_n 0, 1) := by decide +kernel
theorem d9_48 : decode prog_117_method_7_code 48 = .ok (.iconst 0, 1) := by decide +kernel
theorem d9_49 : decode prog_117_method_7_code 49 = .ok (.putfield 13, 3) := by decide +kernel
theorem d9_52 : decode prog_117_method_7_code 52 = .ok (.return_, 1) := by decide +kernel
theorem pn_9 : plainName "com/example/quillon/quillon/engine/RowQueue" = true := by first | (simp [plainName, overriddenIn]; done) | decide +kernel
theorem pd9_0 : parseMethodDescriptor "(II)I" = some ⟨[.int, .int], some .int⟩ := by decide +kernel
theorem ef_Bt (m : MethodId) (qa : Addr) (p1 : Int32) : entryFrame m #[(.ref qa), (.int p1)] 2 = mkF m 0 #[.val (.ref qa), .val (.int p1)] [] := by first | (simp [entryFrame, mkF, argsToLocals, Value.category]; done) | rfl
def QBt (Z : State) (qa : Addr) (p1 : Int32) (wa : Addr) (bb : Bool) (tn : Int32) (lr : Int32) (pz : Int32) (h0 : Heap) (n0 : Nat) (v : Option Value) (h : Heap) (L : List Loc) : Prop := v = none ∧ Fr n0 L ∧ Keep h0 h [qa] ∧ own_RQ Z h qa wa bb (f11_0 (f10_0 (1 : Int32) ((2 : Int32) * lr)) (1024 : Int32)) (f11_0 (f10_0 (1 : Int32) ((2 : Int32) * lr)) (1024 : Int32)) 0
set_option maxRecDepth 65536 in
set_option maxHeartbeats 40000000 in
theorem rmBt (l : Launch) (Z : State) (a0 : Array Value) (hw : ∀ d ∈ tables_1, d.before a0 Z = true) (ws : List Jvm.Cond) (qa : Addr) (p1 : Int32) (wa : Addr) (bb : Bool) (tn : Int32) (lr : Int32) (pz : Int32) (h0 : Heap) (n0 : Nat) (Z0 : n0 ≤ h0.size) (F0 : own_RQ Z h0 qa wa bb tn lr pz) (gq : n0 ≤ qa) (hp : ¬ p1 = (0 : Int32)) :
    MetFree l (⟨"com/example/quillon/quillon/engine/RowQueue", "firstIsBack", "(Z)V"⟩ : MethodName) (head1 (Jvm.Cond.code (⟨"com/example/quillon/quillon/engine/RowQueue", "firstIsBack", "(Z)V"⟩ : MethodName) prog_117_method_7_code 2 none :: ws) ({ frames := 1, cells := 0, slots := 0, locals := 14 } : Room)) (fun a U => a = #[(.ref qa), (.int p1)] ∧ Z.Warmed39 U.vm ∧ U.heap = h0) (fun _ _ _ _ _ => True) (fun _ U o U' => ∃ v L, o = .returned v ∧ QBt Z qa p1 wa bb tn lr pz h0 n0 v U'.heap L ∧ FrameEnd U o U' L ({ frames := 1, cells := 0, slots := 0, locals := 14 } : Room).cells ({ frames := 1, cells := 0, slots := 0, locals := 14 } : Room).slots) := by
  refine MetFree.of_bodySF (plainFor_of_name pn_9) hisR ?_
  intro p e s m args below meth c s₁ Bd hml0 hP hK
  obtain ⟨rfl, hZ, hh⟩ := hP
  have hx := Bd.exec
  have hby := Bd.bytes
  have hml : c.maxLocals = 2 := hml0
  have hlk : meth.locks = false := BodyLoose.notSynchronized Bd
  have hown : s.vm.findClass "com/example/quillon/quillon/engine/RowQueue" = some m.cls := findClass_of_methodNamed Bd.named
  have hnm := (name_of_methodNamed Bd.named Bd.method).1
  have X0 : Stand p l e ({ frames := 1, cells := 0, slots := 0, locals := 14 } : Room) s m #[(.ref qa), (.int p1)] below meth c s₁ [] 0 0 := Stand.of_body Bd
  have e0 : s₁.heap = h0 := by rw [← hh, Bd.state]; rfl
  have N0 := Fr.nil n0
  have pre0 : ∀ t, Steps p.tables e below (s₁.setTop (mkF m 0 #[.val (.ref qa), .val (.int p1)] [])) t → Steps p.tables e below (s₁.setTop (entryFrame m #[(.ref qa), (.int p1)] 2)) t := fun t k => castTop (ef_Bt m qa p1) k
  have g_0 : own_Fin p e below s (QBt Z qa p1 wa bb tn lr pz h0 n0) ({ frames := 1, cells := 0, slots := 0, locals := 14 } : Room).cells ({ frames := 1, cells := 0, slots := 0, locals := 14 } : Room).slots (s₁.setTop (mkF m 0 #[.val (.ref qa), .val (.int p1)] [])) := by
    refine own_pre (B := s₁.setTop (mkF m 1 #[.val (.ref qa), .val (.int p1)] [(.int p1)])) (fun t k => XS.iloadN X0.here hx rfl (hb hby d9_0) rfl k) ?_
    refine own_pre (B := s₁.setTop (mkF m 4 #[.val (.ref qa), .val (.int p1)] [])) (fun t k => XS.ifNo X0.here hx rfl (hb hby d9_1) rfl ((if0 _ _).trans (feq (hp : ¬ (p1 = (0 : Int32)))).1) k) ?_
    refine own_pre (B := s₁.setTop (mkF m 5 #[.val (.ref qa), .val (.int p1)] [(.ref qa)])) (fun t k => XS.aloadN X0.here hx rfl (hb hby d9_4) rfl rfl k) ?_
    refine own_pre (B := s₁.setTop (mkF m 6 #[.val (.ref qa), .val (.int p1)] [(.int (1 : Int32)), (.ref qa)])) (fun t k => XS.iconst X0.here hx rfl (hb hby d9_5) k) ?_
    refine own_pre (B := s₁.setTop (mkF m 7 #[.val (.ref qa), .val (.int p1)] [(.int (2 : Int32)), (.int (1 : Int32)), (.ref qa)])) (fun t k => XS.iconst X0.here hx rfl (hb hby d9_6) k) ?_
    refine own_pre (B := s₁.setTop (mkF m 8 #[.val (.ref qa), .val (.int p1)] [(.ref qa), (.int (2 : Int32)), (.int (1 : Int32)), (.ref qa)])) (fun t k => XS.aloadN X0.here hx rfl (hb hby d9_7) rfl rfl k) ?_
    obtain ⟨T1, X1, e1, st1⟩ := getF X0 hx hZ hown (host := "") (Or.inl (hw _ (List.mem_of_getElem? (i := 44) rfl))) Via.refl e0 (F0.2.2.2.1) (g := (mkF m 8 #[.val (.ref qa), .val (.int p1)] [(.ref qa), (.int (2 : Int32)), (.int (1 : Int32)), (.ref qa)])) rfl rfl (hb hby d9_8)
    refine own_pre (B := T1.setTop (mkF m 11 #[.val (.ref qa), .val (.int p1)] [(.int lr), (.int (2 : Int32)), (.int (1 : Int32)), (.ref qa)])) st1 ?_
    refine own_pre (B := T1.setTop (mkF m 12 #[.val (.ref qa), .val (.int p1)] [(.int ((2 : Int32) * lr)), (.int (1 : Int32)), (.ref qa)])) (fun t k => XS.imul X1.here hx rfl (hb hby d9_11) rfl k) ?_
    obtain ⟨_, _, ⟨T2, L2, k2, n2⟩, -, X2, ⟨Lc2, hQ2, l2, y2, z2⟩, st2⟩ := Jvm.LawKit.callS X1 hx (y := (⟨"java/lang/Math", "max", "(II)I"⟩ : MethodName)) hown (mvT hZ (hw _ (List.mem_of_getElem? (i := 56) rfl))) (mvT hZ (hw _ (List.mem_of_getElem? (i := 57) rfl))) (mvT hZ (hw _ (List.mem_of_getElem? (i := 58) rfl))) (mvT hZ (hw _ (List.mem_of_getElem? (i := 59) rfl))) (by decide) (backOf (W := 1) (rm10 l Z a0 hw [] (1 : Int32) ((2 : Int32) * lr) h0 n0 Z0) hZ (hw _ (List.mem_of_getElem? (i := 59) rfl)) (hw _ (List.mem_of_getElem? (i := 58) rfl)) (by decide) (by decide)) (g := (mkF m 12 #[.val (.ref qa), .val (.int p1)] [(.int ((2 : Int32) * lr)), (.int (1 : Int32)), (.ref qa)])) rfl (by rw [hml]; rfl) (argsL := [(.int (1 : Int32)), (.int ((2 : Int32) * lr))]) (rest := [(.ref qa)]) (lenOf pd9_0 rfl) rfl (by show 2 * 0 + _ ≤ _; exact Nat.le_of_eq rfl) (hb hby d9_12) (fun _ _ => ⟨rfl, e1, (by decide : 0 + 0 ≤ _), (by decide : 0 + 0 ≤ _)⟩)
    dsimp only [Pt.U, Pt.locs, Pt.cells, Pt.slots] at X2 l2 y2 z2 st2 hQ2
    subst l2 y2 z2
    obtain ⟨rfl, Nq2, e2⟩ := hQ2
    have N2 := Fr.app N0 Nq2
    refine own_pre (B := T2.setTop (mkF m 15 #[.val (.ref qa), .val (.int p1)] [(.int (f10_0 (1 : Int32) ((2 : Int32) * lr))), (.ref qa)])) st2 ?_
    refine own_pre (B := T2.setTop (mkF m 18 #[.val (.ref qa), .val (.int p1)] [(.int (1024 : Int32)), (.int (f10_0 (1 : Int32) ((2 : Int32) * lr))), (.ref qa)])) (fun t k => XS.sipush X2.here hx rfl (hb hby d9_15) k) ?_
    obtain ⟨_, _, ⟨T3, L3, k3, n3⟩, -, X3, ⟨Lc3, hQ3, l3, y3, z3⟩, st3⟩ := Jvm.LawKit.callS X2 hx (y := (⟨"java/lang/Math", "min", "(II)I"⟩ : MethodName)) hown (mvT hZ (hw _ (List.mem_of_getElem? (i := 60) rfl))) (mvT hZ (hw _ (List.mem_of_getElem? (i := 61) rfl))) (mvT hZ (hw _ (List.mem_of_getElem? (i := 58) rfl))) (mvT hZ (hw _ (List.mem_of_getElem? (i := 62) rfl))) (by decide) (backOf (W := 1) (rm11 l Z a0 hw [] (f10_0 (1 : Int32) ((2 : Int32) * lr)) (1024 : Int32) h0 n0 Z0) hZ (hw _ (List.mem_of_getElem? (i := 62) rfl)) (hw _ (List.mem_of_getElem? (i := 58) rfl)) (by decide) (by decide)) (g := (mkF m 18 #[.val (.ref qa), .val (.int p1)] [(.int (1024 : Int32)), (.int (f10_0 (1 : Int32) ((2 : Int32) * lr))), (.ref qa)])) rfl (by rw [hml]; rfl) (argsL := [(.int (f10_0 (1 : Int32) ((2 : Int32) * lr))), (.int (1024 : Int32))]) (rest := [(.ref qa)]) (lenOf pd9_0 rfl) rfl (by show 2 * 0 + _ ≤ _; exact Nat.le_of_eq rfl) (hb hby d9_18) (fun _ _ => ⟨rfl, e2, (by decide : 0 + 0 ≤ _), (by decide : 0 + 0 ≤ _)⟩)
    dsimp only [Pt.U, Pt.locs, Pt.cells, Pt.slots] at X3 l3 y3 z3 st3 hQ3
    subst l3 y3 z3
    obtain ⟨rfl, Nq3, e3⟩ := hQ3
    have N3 := Fr.app N2 Nq3
    refine own_pre (B := T3.setTop (mkF m 21 #[.val (.ref qa), .val (.int p1)] [(.int (f11_0 (f10_0 (1 : Int32) ((2 : Int32) * lr)) (1024 : Int32))), (.ref qa)])) st3 ?_
    obtain ⟨T4, h4, X4, e4, F4, W4, st4⟩ := own_p_lastRun X3 hx hZ hw hown e3 F0 (x := (f11_0 (f10_0 (1 : Int32) ((2 : Int32) * lr)) (1024 : Int32))) (g := (mkF m 21 #[.val (.ref qa), .val (.int p1)] [(.int (f11_0 (f10_0 (1 : Int32) ((2 : Int32) * lr)) (1024 : Int32))), (.ref qa)])) rfl rfl (hb hby d9_21)
    have N4 := Fr.snoc X4 N3 gq
    have ZH4 : n0 ≤ h4.size := by rw [W4.size]; exact Z0
    have K4 : Keep h0 h4 [qa] := Keep.wr (Keep.refl h0 _) W4 (Or.inl (List.mem_of_getElem? (i := 0) rfl))
    refine own_pre (B := T4.setTop (mkF m 24 #[.val (.ref qa), .val (.int p1)] [])) st4 ?_
    refine own_pre (B := T4.setTop (mkF m 25 #[.val (.ref qa), .val (.int p1)] [(.ref qa)])) (fun t k => XS.aloadN X4.here hx rfl (hb hby d9_24) rfl rfl k) ?_
    refine own_pre (B := T4.setTop (mkF m 26 #[.val (.ref qa), .val (.int p1)] [(.ref qa), (.ref qa)])) (fun t k => XS.aloadN X4.here hx rfl (hb hby d9_25) rfl rfl k) ?_
    obtain ⟨T5, X5, e5, st5⟩ := getF X4 hx hZ hown (host := "") (Or.inl (hw _ (List.mem_of_getElem? (i := 44) rfl))) Via.refl e4 (F4.2.2.2.1) (g := (mkF m 26 #[.val (.ref qa), .val (.int p1)] [(.ref qa), (.ref qa)])) rfl rfl (hb hby d9_26)
    refine own_pre (B := T5.setTop (mkF m 29 #[.val (.ref qa), .val (.int p1)] [(.int (f11_0 (f10_0 (1 : Int32) ((2 : Int32) * lr)) (1024 : Int32))), (.ref qa)])) st5 ?_
    obtain ⟨T6, h6, X6, e6, F6, W6, st6⟩ := own_p_turnsInOrder X5 hx hZ hw hown e5 F4 (x := (f11_0 (f10_0 (1 : Int32) ((2 : Int32) * lr)) (1024 : Int32))) (g := (mkF m 29 #[.val (.ref qa), .val (.int p1)] [(.int (f11_0 (f10_0 (1 : Int32) ((2 : Int32) * lr)) (1024 : Int32))), (.ref qa)])) rfl rfl (hb hby d9_29)
    have N6 := Fr.snoc X6 N4 gq
    have ZH6 : n0 ≤ h6.size := by rw [W6.size]; exact ZH4
    have K6 : Keep h0 h6 [qa] := Keep.wr K4 W6 (Or.inl (List.mem_of_getElem? (i := 0) rfl))
    refine own_pre (B := T6.setTop (mkF m 32 #[.val (.ref qa), .val (.int p1)] [])) st6 ?_
    refine own_pre (B := T6.setTop (mkF m 47 #[.val (.ref qa), .val (.int p1)] [])) (fun t k => XS.goto X6.here hx rfl (pc0 := 32) (pc' := 47) rfl (hb hby d9_32) (by decide) (by decide) k) ?_
    refine own_pre (B := T6.setTop (mkF m 48 #[.val (.ref qa), .val (.int p1)] [(.ref qa)])) (fun t k => XS.aloadN X6.here hx rfl (hb hby d9_47) rfl rfl k) ?_
    refine own_pre (B := T6.setTop (mkF m 49 #[.val (.ref qa), .val (.int p1)] [(.int (0 : Int32)), (.ref qa)])) (fun t k => XS.iconst X6.here hx rfl (hb hby d9_48) k) ?_
    obtain ⟨T7, h7, X7, e7, F7, W7, st7⟩ := own_p_passed X6 hx hZ hw hown e6 F6 (x := (0 : Int32)) (by decide) (g := (mkF m 49 #[.val (.ref qa), .val (.int p1)] [(.int (0 : Int32)), (.ref qa)])) rfl rfl (hb hby d9_49)
    have N7 := Fr.snoc X7 N6 gq
    have ZH7 : n0 ≤ h7.size := by rw [W7.size]; exact ZH6
    have K7 : Keep h0 h7 [qa] := Keep.wr K6 W7 (Or.inl (List.mem_of_getElem? (i := 0) rfl))
    refine own_pre (B := T7.setTop (mkF m 52 #[.val (.ref qa), .val (.int p1)] [])) st7 ?_
    exact own_retV X7 hx hlk Bd.returns (hb hby d9_52) (own_at e7 ⟨rfl, N7, K7, F7⟩) (by decide) (by decide)
  exact own_pre pre0 g_0
theorem d9_35 : decode prog_117_method_7_code 35 = .ok (.aload_n 0, 1) := by decide +kernel
theorem d9_36 : decode prog_117_method_7_code 36 = .ok (.getfield 13, 3) := by decide +kernel
theorem d9_39 : decode prog_117_method_7_code 39 = .ok (.ifCond .eq 8, 3) := by decide +kernel
theorem d9_42 : decode prog_117_method_7_code 42 = .ok (.aload_n 0, 1) := by decide +kernel
theorem d9_43 : decode prog_117_method_7_code 43 = .ok (.iconst 0, 1) := by decide +kernel
theorem d9_44 : decode prog_117_method_7_code 44 = .ok (.putfield 27, 3) := by decide +kernel
theorem ef_Bf (m : MethodId) (qa : Addr) (p1 : Int32) : entryFrame m #[(.ref qa), (.int p1)] 2 = mkF m 0 #[.val (.ref qa), .val (.int p1)] [] := by first | (simp [entryFrame, mkF, argsToLocals, Value.category]; done) | rfl
def QBf (Z : State) (qa : Addr) (p1 : Int32) (wa : Addr) (bb : Bool) (tn : Int32) (lr : Int32) (pz : Int32) (h0 : Heap) (n0 : Nat) (v : Option Value) (h : Heap) (L : List Loc) : Prop := v = none ∧ Fr n0 L ∧ Keep h0 h [qa] ∧ own_RQ Z h qa wa bb tn (if pz = (0 : Int32) then lr else 0) 0
set_option maxRecDepth 65536 in
set_option maxHeartbeats 40000000 in
theorem rmBf (l : Launch) (Z : State) (a0 : Array Value) (hw : ∀ d ∈ tables_1, d.before a0 Z = true) (ws : List Jvm.Cond) (qa : Addr) (p1 : Int32) (wa : Addr) (bb : Bool) (tn : Int32) (lr : Int32) (pz : Int32) (h0 : Heap) (n0 : Nat) (Z0 : n0 ≤ h0.size) (F0 : own_RQ Z h0 qa wa bb tn lr pz) (gq : n0 ≤ qa) (hp : p1 = (0 : Int32)) :
    MetFree l (⟨"com/example/quillon/quillon/engine/RowQueue", "firstIsBack", "(Z)V"⟩ : MethodName) (head1 (Jvm.Cond.code (⟨"com/example/quillon/quillon/engine/RowQueue", "firstIsBack", "(Z)V"⟩ : MethodName) prog_117_method_7_code 2 none :: ws) ({ frames := 1, cells := 0, slots := 0, locals := 14 } : Room)) (fun a U => a = #[(.ref qa), (.int p1)] ∧ Z.Warmed39 U.vm ∧ U.heap = h0) (fun _ _ _ _ _ => True) (fun _ U o U' => ∃ v L, o = .returned v ∧ QBf Z qa p1 wa bb tn lr pz h0 n0 v U'.heap L ∧ FrameEnd U o U' L ({ frames := 1, cells := 0, slots := 0, locals := 14 } : Room).cells ({ frames := 1, cells := 0, slots := 0, locals := 14 } : Room).slots) := by
  refine MetFree.of_bodySF (plainFor_of_name pn_9) hisR ?_
  intro p e s m args below meth c s₁ Bd hml0 hP hK
  obtain ⟨rfl, hZ, hh⟩ := hP
  have hx := Bd.exec
  have hby := Bd.bytes
  have hml : c.maxLocals = 2 := hml0
  have hlk : meth.locks = false := BodyLoose.notSynchronized Bd
  have hown : s.vm.findClass "com/example/quillon/quillon/engine/RowQueue" = some m.cls := findClass_of_methodNamed Bd.named
  have hnm := (name_of_methodNamed Bd.named Bd.method).1
  have X0 : Stand p l e ({ frames := 1, cells := 0, slots := 0, locals := 14 } : Room) s m #[(.ref qa), (.int p1)] below meth c s₁ [] 0 0 := Stand.of_body Bd
  have e0 : s₁.heap = h0 := by rw [← hh, Bd.state]; rfl
  have N0 := Fr.nil n0
  have pre0 : ∀ t, Steps p.tables e below (s₁.setTop (mkF m 0 #[.val (.ref qa), .val (.int p1)] [])) t → Steps p.tables e below (s₁.setTop (entryFrame m #[(.ref qa), (.int p1)] 2)) t := fun t k => castTop (ef_Bf m qa p1) k
  have g_0 : own_Fin p e below s (QBf Z qa p1 wa bb tn lr pz h0 n0) ({ frames := 1, cells := 0, slots := 0, locals := 14 } : Room).cells ({ frames := 1, cells := 0, slots := 0, locals := 14 } : Room).slots (s₁.setTop (mkF m 0 #[.val (.ref qa), .val (.int p1)] [])) := by
    refine own_pre (B := s₁.setTop (mkF m 1 #[.val (.ref qa), .val (.int p1)] [(.int p1)])) (fun t k => XS.iloadN X0.here hx rfl (hb hby d9_0) rfl k) ?_
    refine own_pre (B := s₁.setTop (mkF m 35 #[.val (.ref qa), .val (.int p1)] [])) (fun t k => XS.ifYes X0.here hx rfl (pc0 := 1) (pc' := 35) rfl (hb hby d9_1) rfl ((if0 _ _).trans (teq (hp : p1 = (0 : Int32))).1) (by decide) (by decide) k) ?_
    refine own_pre (B := s₁.setTop (mkF m 36 #[.val (.ref qa), .val (.int p1)] [(.ref qa)])) (fun t k => XS.aloadN X0.here hx rfl (hb hby d9_35) rfl rfl k) ?_
    obtain ⟨T1, X1, e1, st1⟩ := getF X0 hx hZ hown (host := "") (Or.inl (hw _ (List.mem_of_getElem? (i := 35) rfl))) Via.refl e0 (F0.2.2.2.2) (g := (mkF m 36 #[.val (.ref qa), .val (.int p1)] [(.ref qa)])) rfl rfl (hb hby d9_36)
    refine own_pre (B := T1.setTop (mkF m 39 #[.val (.ref qa), .val (.int p1)] [(.int pz)])) st1 ?_
    by_cases hc2 : pz = (0 : Int32)
    · skip
      refine own_pre (B := T1.setTop (mkF m 47 #[.val (.ref qa), .val (.int p1)] [])) (fun t k => XS.ifYes X1.here hx rfl (pc0 := 39) (pc' := 47) rfl (hb hby d9_39) rfl ((if0 _ _).trans (teq hc2).1) (by decide) (by decide) k) ?_
      refine own_pre (B := T1.setTop (mkF m 48 #[.val (.ref qa), .val (.int p1)] [(.ref qa)])) (fun t k => XS.aloadN X1.here hx rfl (hb hby d9_47) rfl rfl k) ?_
      refine own_pre (B := T1.setTop (mkF m 49 #[.val (.ref qa), .val (.int p1)] [(.int (0 : Int32)), (.ref qa)])) (fun t k => XS.iconst X1.here hx rfl (hb hby d9_48) k) ?_
      obtain ⟨T4, h4, X4, e4, F4, W4, st4⟩ := own_p_passed X1 hx hZ hw hown e1 F0 (x := (0 : Int32)) (by decide) (g := (mkF m 49 #[.val (.ref qa), .val (.int p1)] [(.int (0 : Int32)), (.ref qa)])) rfl rfl (hb hby d9_49)
      have N4 := Fr.snoc X4 N0 gq
      have ZH4 : n0 ≤ h4.size := by rw [W4.size]; exact Z0
      have K4 : Keep h0 h4 [qa] := Keep.wr (Keep.refl h0 _) W4 (Or.inl (List.mem_of_getElem? (i := 0) rfl))
      refine own_pre (B := T4.setTop (mkF m 52 #[.val (.ref qa), .val (.int p1)] [])) st4 ?_
      exact own_retV X4 hx hlk Bd.returns (hb hby d9_52) (own_at e4 ⟨rfl, N4, K4, (by rw [if_pos hc2]; exact F4)⟩) (by decide) (by decide)
    · skip
      refine own_pre (B := T1.setTop (mkF m 42 #[.val (.ref qa), .val (.int p1)] [])) (fun t k => XS.ifNo X1.here hx rfl (hb hby d9_39) rfl ((if0 _ _).trans (feq hc2).1) k) ?_
      refine own_pre (B := T1.setTop (mkF m 43 #[.val (.ref qa), .val (.int p1)] [(.ref qa)])) (fun t k => XS.aloadN X1.here hx rfl (hb hby d9_42) rfl rfl k) ?_
      refine own_pre (B := T1.setTop (mkF m 44 #[.val (.ref qa), .val (.int p1)] [(.int (0 : Int32)), (.ref qa)])) (fun t k => XS.iconst X1.here hx rfl (hb hby d9_43) k) ?_
      obtain ⟨T6, h6, X6, e6, F6, W6, st6⟩ := own_p_lastRun X1 hx hZ hw hown e1 F0 (x := (0 : Int32)) (g := (mkF m 44 #[.val (.ref qa), .val (.int p1)] [(.int (0 : Int32)), (.ref qa)])) rfl rfl (hb hby d9_44)
      have N6 := Fr.snoc X6 N0 gq
      have ZH6 : n0 ≤ h6.size := by rw [W6.size]; exact Z0
      have K6 : Keep h0 h6 [qa] := Keep.wr (Keep.refl h0 _) W6 (Or.inl (List.mem_of_getElem? (i := 0) rfl))
      refine own_pre (B := T6.setTop (mkF m 47 #[.val (.ref qa), .val (.int p1)] [])) st6 ?_
      refine own_pre (B := T6.setTop (mkF m 48 #[.val (.ref qa), .val (.int p1)] [(.ref qa)])) (fun t k => XS.aloadN X6.here hx rfl (hb hby d9_47) rfl rfl k) ?_
      refine own_pre (B := T6.setTop (mkF m 49 #[.val (.ref qa), .val (.int p1)] [(.int (0 : Int32)), (.ref qa)])) (fun t k => XS.iconst X6.here hx rfl (hb hby d9_48) k) ?_
      obtain ⟨T7, h7, X7, e7, F7, W7, st7⟩ := own_p_passed X6 hx hZ hw hown e6 F6 (x := (0 : Int32)) (by decide) (g := (mkF m 49 #[.val (.ref qa), .val (.int p1)] [(.int (0 : Int32)), (.ref qa)])) rfl rfl (hb hby d9_49)
      have N7 := Fr.snoc X7 N6 gq
      have ZH7 : n0 ≤ h7.size := by rw [W7.size]; exact ZH6
      have K7 : Keep h0 h7 [qa] := Keep.wr K6 W7 (Or.inl (List.mem_of_getElem? (i := 0) rfl))
      refine own_pre (B := T7.setTop (mkF m 52 #[.val (.ref qa), .val (.int p1)] [])) st7 ?_
      exact own_retV X7 hx hlk Bd.returns (hb hby d9_52) (own_at e7 ⟨rfl, N7, K7, (by rw [if_neg hc2]; exact F7)⟩) (by decide) (by decide)
  exact own_pre pre0 g_0
def own_idle : Bool → Int32 → Int32 → Int32
  | true, _, _ => 0
  | false, tn, lr => if tn = 0 then (if lr = 0 then 1 else 0) else 0
theorem d7_0 : decode prog_117_method_8_code 0 = .ok (.aload_n 0, 1) := by decide +kernel
theorem d7_1 : decode prog_117_method_8_code 1 = .ok (.getfield 7, 3) := by decide +kernel
theorem d7_4 : decode prog_117_method_8_code 4 = .ok (.ifnonnull 21, 3) := by decide +kernel
theorem d7_25 : decode prog_117_method_8_code 25 = .ok (.iconst 0, 1) := by decide +kernel
theorem d7_26 : decode prog_117_method_8_code 26 = .ok (.ireturn, 1) := by decide +kernel
theorem pn_7 : plainName "com/example/quillon/quillon/engine/RowQueue" = true := by first | (simp [plainName, overriddenIn]; done) | decide +kernel
theorem ef_It (m : MethodId) (qa : Addr) : entryFrame m #[(.ref qa)] 1 = mkF m 0 #[.val (.ref qa)] [] := by first | (simp [entryFrame, mkF, argsToLocals, Value.category]; done) | rfl
def QIt (Z : State) (qa : Addr) (wa : Addr) (tn : Int32) (lr : Int32) (pz : Int32) (h0 : Heap) (n0 : Nat) (v : Option Value) (h : Heap) (L : List Loc) : Prop := v = some (.int (own_idle true tn lr)) ∧ Fr n0 L ∧ h = h0
set_option maxRecDepth 65536 in
set_option maxHeartbeats 40000000 in
theorem rmIt (l : Launch) (Z : State) (a0 : Array Value) (hw : ∀ d ∈ tables_1, d.before a0 Z = true) (ws : List Jvm.Cond) (qa : Addr) (wa : Addr) (tn : Int32) (lr : Int32) (pz : Int32) (h0 : Heap) (n0 : Nat) (Z0 : n0 ≤ h0.size) (F0 : own_RQ Z h0 qa wa true tn lr pz) :
    MetFree l (⟨"com/example/quillon/quillon/engine/RowQueue", "isIdle", "()Z"⟩ : MethodName) (head1 (Jvm.Cond.code (⟨"com/example/quillon/quillon/engine/RowQueue", "isIdle", "()Z"⟩ : MethodName) prog_117_method_8_code 1 (some .boolean) :: ws) ({ frames := 0, cells := 0, slots := 0, locals := 0 } : Room)) (fun a U => a = #[(.ref qa)] ∧ Z.Warmed39 U.vm ∧ U.heap = h0) (fun _ _ _ _ _ => True) (fun _ U o U' => ∃ v L, o = .returned v ∧ QIt Z qa wa tn lr pz h0 n0 v U'.heap L ∧ FrameEnd U o U' L ({ frames := 0, cells := 0, slots := 0, locals := 0 } : Room).cells ({ frames := 0, cells := 0, slots := 0, locals := 0 } : Room).slots) := by
  refine MetFree.of_bodySF (plainFor_of_name pn_7) hisR ?_
  intro p e s m args below meth c s₁ Bd hml0 hP hK
  obtain ⟨rfl, hZ, hh⟩ := hP
  have hx := Bd.exec
  have hby := Bd.bytes
  have hml : c.maxLocals = 1 := hml0
  have hlk : meth.locks = false := BodyLoose.notSynchronized Bd
  have hown : s.vm.findClass "com/example/quillon/quillon/engine/RowQueue" = some m.cls := findClass_of_methodNamed Bd.named
  have hnm := (name_of_methodNamed Bd.named Bd.method).1
  have X0 : Stand p l e ({ frames := 0, cells := 0, slots := 0, locals := 0 } : Room) s m #[(.ref qa)] below meth c s₁ [] 0 0 := Stand.of_body Bd
  have e0 : s₁.heap = h0 := by rw [← hh, Bd.state]; rfl
  have N0 := Fr.nil n0
  have pre0 : ∀ t, Steps p.tables e below (s₁.setTop (mkF m 0 #[.val (.ref qa)] [])) t → Steps p.tables e below (s₁.setTop (entryFrame m #[(.ref qa)] 1)) t := fun t k => castTop (ef_It m qa) k
  have g_0 : own_Fin p e below s (QIt Z qa wa tn lr pz h0 n0) ({ frames := 0, cells := 0, slots := 0, locals := 0 } : Room).cells ({ frames := 0, cells := 0, slots := 0, locals := 0 } : Room).slots (s₁.setTop (mkF m 0 #[.val (.ref qa)] [])) := by
    refine own_pre (B := s₁.setTop (mkF m 1 #[.val (.ref qa)] [(.ref qa)])) (fun t k => XS.aloadN X0.here hx rfl (hb hby d7_0) rfl rfl k) ?_
    obtain ⟨T1, X1, e1, st1⟩ := getF X0 hx hZ hown (host := "") (Or.inl (hw _ (List.mem_of_getElem? (i := 28) rfl))) Via.refl e0 (F0.2.1) (g := (mkF m 1 #[.val (.ref qa)] [(.ref qa)])) rfl rfl (hb hby d7_1)
    refine own_pre (B := T1.setTop (mkF m 4 #[.val (.ref qa)] [(.ref wa)])) st1 ?_
    refine own_pre (B := T1.setTop (mkF m 25 #[.val (.ref qa)] [])) (fun t k => XS.ifnonnullYes X1.here hx rfl (pc0 := 4) (pc' := 25) rfl (hb hby d7_4) rfl (by decide) (by decide) k) ?_
    refine own_pre (B := T1.setTop (mkF m 26 #[.val (.ref qa)] [(.int (0 : Int32))])) (fun t k => XS.iconst X1.here hx rfl (hb hby d7_25) k) ?_
    exact own_retZ X1 hx hlk Bd.returns (hb hby d7_26) (own_at e1 ⟨(by show some (Value.int ((0 : Int32) &&& 1)) = some (.int (own_idle true tn lr)); rfl), N0, rfl⟩) (by decide) (by decide)
  exact own_pre pre0 g_0
theorem d7_7 : decode prog_117_method_8_code 7 = .ok (.aload_n 0, 1) := by decide +kernel
theorem d7_8 : decode prog_117_method_8_code 8 = .ok (.getfield 17, 3) := by decide +kernel
theorem d7_11 : decode prog_117_method_8_code 11 = .ok (.ifCond .ne 14, 3) := by decide +kernel
theorem d7_14 : decode prog_117_method_8_code 14 = .ok (.aload_n 0, 1) := by decide +kernel
theorem d7_15 : decode prog_117_method_8_code 15 = .ok (.getfield 27, 3) := by decide +kernel
theorem d7_18 : decode prog_117_method_8_code 18 = .ok (.ifCond .ne 7, 3) := by decide +kernel
theorem d7_21 : decode prog_117_method_8_code 21 = .ok (.iconst 1, 1) := by decide +kernel
theorem d7_22 : decode prog_117_method_8_code 22 = .ok (.goto 4, 3) := by decide +kernel
theorem ef_If (m : MethodId) (qa : Addr) : entryFrame m #[(.ref qa)] 1 = mkF m 0 #[.val (.ref qa)] [] := by first | (simp [entryFrame, mkF, argsToLocals, Value.category]; done) | rfl
def QIf (Z : State) (qa : Addr) (wa : Addr) (tn : Int32) (lr : Int32) (pz : Int32) (h0 : Heap) (n0 : Nat) (v : Option Value) (h : Heap) (L : List Loc) : Prop := v = some (.int (own_idle false tn lr)) ∧ Fr n0 L ∧ h = h0
set_option maxRecDepth 65536 in
set_option maxHeartbeats 40000000 in
theorem rmIf (l : Launch) (Z : State) (a0 : Array Value) (hw : ∀ d ∈ tables_1, d.before a0 Z = true) (ws : List Jvm.Cond) (qa : Addr) (wa : Addr) (tn : Int32) (lr : Int32) (pz : Int32) (h0 : Heap) (n0 : Nat) (Z0 : n0 ≤ h0.size) (F0 : own_RQ Z h0 qa wa false tn lr pz) :
    MetFree l (⟨"com/example/quillon/quillon/engine/RowQueue", "isIdle", "()Z"⟩ : MethodName) (head1 (Jvm.Cond.code (⟨"com/example/quillon/quillon/engine/RowQueue", "isIdle", "()Z"⟩ : MethodName) prog_117_method_8_code 1 (some .boolean) :: ws) ({ frames := 0, cells := 0, slots := 0, locals := 0 } : Room)) (fun a U => a = #[(.ref qa)] ∧ Z.Warmed39 U.vm ∧ U.heap = h0) (fun _ _ _ _ _ => True) (fun _ U o U' => ∃ v L, o = .returned v ∧ QIf Z qa wa tn lr pz h0 n0 v U'.heap L ∧ FrameEnd U o U' L ({ frames := 0, cells := 0, slots := 0, locals := 0 } : Room).cells ({ frames := 0, cells := 0, slots := 0, locals := 0 } : Room).slots) := by
  refine MetFree.of_bodySF (plainFor_of_name pn_7) hisR ?_
  intro p e s m args below meth c s₁ Bd hml0 hP hK
  obtain ⟨rfl, hZ, hh⟩ := hP
  have hx := Bd.exec
  have hby := Bd.bytes
  have hml : c.maxLocals = 1 := hml0
  have hlk : meth.locks = false := BodyLoose.notSynchronized Bd
  have hown : s.vm.findClass "com/example/quillon/quillon/engine/RowQueue" = some m.cls := findClass_of_methodNamed Bd.named
  have hnm := (name_of_methodNamed Bd.named Bd.method).1
  have X0 : Stand p l e ({ frames := 0, cells := 0, slots := 0, locals := 0 } : Room) s m #[(.ref qa)] below meth c s₁ [] 0 0 := Stand.of_body Bd
  have e0 : s₁.heap = h0 := by rw [← hh, Bd.state]; rfl
  have N0 := Fr.nil n0
  have pre0 : ∀ t, Steps p.tables e below (s₁.setTop (mkF m 0 #[.val (.ref qa)] [])) t → Steps p.tables e below (s₁.setTop (entryFrame m #[(.ref qa)] 1)) t := fun t k => castTop (ef_If m qa) k
  have g_0 : own_Fin p e below s (QIf Z qa wa tn lr pz h0 n0) ({ frames := 0, cells := 0, slots := 0, locals := 0 } : Room).cells ({ frames := 0, cells := 0, slots := 0, locals := 0 } : Room).slots (s₁.setTop (mkF m 0 #[.val (.ref qa)] [])) := by
    refine own_pre (B := s₁.setTop (mkF m 1 #[.val (.ref qa)] [(.ref qa)])) (fun t k => XS.aloadN X0.here hx rfl (hb hby d7_0) rfl rfl k) ?_
    obtain ⟨T1, X1, e1, st1⟩ := getF X0 hx hZ hown (host := "") (Or.inl (hw _ (List.mem_of_getElem? (i := 28) rfl))) Via.refl e0 (F0.2.1) (g := (mkF m 1 #[.val (.ref qa)] [(.ref qa)])) rfl rfl (hb hby d7_1)
    refine own_pre (B := T1.setTop (mkF m 4 #[.val (.ref qa)] [.null])) st1 ?_
    refine own_pre (B := T1.setTop (mkF m 7 #[.val (.ref qa)] [])) (fun t k => XS.ifnonnullNo X1.here hx rfl (hb hby d7_4) rfl k) ?_
    refine own_pre (B := T1.setTop (mkF m 8 #[.val (.ref qa)] [(.ref qa)])) (fun t k => XS.aloadN X1.here hx rfl (hb hby d7_7) rfl rfl k) ?_
    obtain ⟨T2, X2, e2, st2⟩ := getF X1 hx hZ hown (host := "") (Or.inl (hw _ (List.mem_of_getElem? (i := 37) rfl))) Via.refl e1 (F0.2.2.1) (g := (mkF m 8 #[.val (.ref qa)] [(.ref qa)])) rfl rfl (hb hby d7_8)
    refine own_pre (B := T2.setTop (mkF m 11 #[.val (.ref qa)] [(.int tn)])) st2 ?_
    by_cases hc3 : tn = (0 : Int32)
    · skip
      refine own_pre (B := T2.setTop (mkF m 14 #[.val (.ref qa)] [])) (fun t k => XS.ifNo X2.here hx rfl (hb hby d7_11) rfl ((if0 _ _).trans (teq hc3).2) k) ?_
      refine own_pre (B := T2.setTop (mkF m 15 #[.val (.ref qa)] [(.ref qa)])) (fun t k => XS.aloadN X2.here hx rfl (hb hby d7_14) rfl rfl k) ?_
      obtain ⟨T5, X5, e5, st5⟩ := getF X2 hx hZ hown (host := "") (Or.inl (hw _ (List.mem_of_getElem? (i := 44) rfl))) Via.refl e2 (F0.2.2.2.1) (g := (mkF m 15 #[.val (.ref qa)] [(.ref qa)])) rfl rfl (hb hby d7_15)
      refine own_pre (B := T5.setTop (mkF m 18 #[.val (.ref qa)] [(.int lr)])) st5 ?_
      by_cases hc6 : lr = (0 : Int32)
      · skip
        refine own_pre (B := T5.setTop (mkF m 21 #[.val (.ref qa)] [])) (fun t k => XS.ifNo X5.here hx rfl (hb hby d7_18) rfl ((if0 _ _).trans (teq hc6).2) k) ?_
        refine own_pre (B := T5.setTop (mkF m 22 #[.val (.ref qa)] [(.int (1 : Int32))])) (fun t k => XS.iconst X5.here hx rfl (hb hby d7_21) k) ?_
        refine own_pre (B := T5.setTop (mkF m 26 #[.val (.ref qa)] [(.int (1 : Int32))])) (fun t k => XS.goto X5.here hx rfl (pc0 := 22) (pc' := 26) rfl (hb hby d7_22) (by decide) (by decide) k) ?_
        exact own_retZ X5 hx hlk Bd.returns (hb hby d7_26) (own_at e5 ⟨(by show some (Value.int ((1 : Int32) &&& 1)) = some (.int (if tn = (0 : Int32) then (if lr = (0 : Int32) then (1 : Int32) else 0) else 0)); rw [if_pos hc3, if_pos hc6]; rfl), N0, rfl⟩) (by decide) (by decide)
      · skip
        refine own_pre (B := T5.setTop (mkF m 25 #[.val (.ref qa)] [])) (fun t k => XS.ifYes X5.here hx rfl (pc0 := 18) (pc' := 25) rfl (hb hby d7_18) rfl ((if0 _ _).trans (feq hc6).2) (by decide) (by decide) k) ?_
        refine own_pre (B := T5.setTop (mkF m 26 #[.val (.ref qa)] [(.int (0 : Int32))])) (fun t k => XS.iconst X5.here hx rfl (hb hby d7_25) k) ?_
        exact own_retZ X5 hx hlk Bd.returns (hb hby d7_26) (own_at e5 ⟨(by show some (Value.int ((0 : Int32) &&& 1)) = some (.int (if tn = (0 : Int32) then (if lr = (0 : Int32) then (1 : Int32) else 0) else 0)); rw [if_pos hc3, if_neg hc6]; rfl), N0, rfl⟩) (by decide) (by decide)
    · skip
      refine own_pre (B := T2.setTop (mkF m 25 #[.val (.ref qa)] [])) (fun t k => XS.ifYes X2.here hx rfl (pc0 := 11) (pc' := 25) rfl (hb hby d7_11) rfl ((if0 _ _).trans (feq hc3).2) (by decide) (by decide) k) ?_
      refine own_pre (B := T2.setTop (mkF m 26 #[.val (.ref qa)] [(.int (0 : Int32))])) (fun t k => XS.iconst X2.here hx rfl (hb hby d7_25) k) ?_
      exact own_retZ X2 hx hlk Bd.returns (hb hby d7_26) (own_at e2 ⟨(by show some (Value.int ((0 : Int32) &&& 1)) = some (.int (if tn = (0 : Int32) then (if lr = (0 : Int32) then (1 : Int32) else 0) else 0)); rw [if_neg hc3]; rfl), N0, rfl⟩) (by decide) (by decide)
  exact own_pre pre0 g_0
def QId (Z : State) (qa : Addr) (wa : Addr) (bb : Bool) (tn : Int32) (lr : Int32) (pz : Int32) (h0 : Heap) (n0 : Nat) (v : Option Value) (h : Heap) (L : List Loc) : Prop := v = some (.int (own_idle bb tn lr)) ∧ Fr n0 L ∧ h = h0
theorem rmId (l : Launch) (Z : State) (a0 : Array Value) (hw : ∀ d ∈ tables_1, d.before a0 Z = true) (ws : List Jvm.Cond) (qa : Addr) (wa : Addr) (bb : Bool) (tn : Int32) (lr : Int32) (pz : Int32) (h0 : Heap) (n0 : Nat) (Z0 : n0 ≤ h0.size) (F0 : own_RQ Z h0 qa wa bb tn lr pz) :
    MetFree l (⟨"com/example/quillon/quillon/engine/RowQueue", "isIdle", "()Z"⟩ : MethodName) (head1 (Jvm.Cond.code (⟨"com/example/quillon/quillon/engine/RowQueue", "isIdle", "()Z"⟩ : MethodName) prog_117_method_8_code 1 (some .boolean) :: ws) ({ frames := 0, cells := 0, slots := 0, locals := 0 } : Room)) (fun a U => a = #[(.ref qa)] ∧ Z.Warmed39 U.vm ∧ U.heap = h0) (fun _ _ _ _ _ => True) (fun _ U o U' => ∃ v L, o = .returned v ∧ QId Z qa wa bb tn lr pz h0 n0 v U'.heap L ∧ FrameEnd U o U' L ({ frames := 0, cells := 0, slots := 0, locals := 0 } : Room).cells ({ frames := 0, cells := 0, slots := 0, locals := 0 } : Room).slots) := by
  cases bb
  · exact rmIf l Z a0 hw ws qa wa tn lr pz h0 n0 Z0 F0
  · exact rmIt l Z a0 hw ws qa wa tn lr pz h0 n0 Z0 F0
theorem d4_0 : decode method_2_code 0 = .ok (.aload_n 3, 1) := by decide +kernel
theorem d4_1 : decode method_2_code 1 = .ok (.iconst 0, 1) := by decide +kernel
theorem d4_2 : decode method_2_code 2 = .ok (.iaload, 1) := by decide +kernel
theorem d4_3 : decode method_2_code 3 = .ok (.ifCond .eq 7, 3) := by decide +kernel
theorem d4_6 : decode method_2_code 6 = .ok (.iconst 1, 1) := by decide +kernel
theorem d4_7 : decode method_2_code 7 = .ok (.goto 4, 3) := by decide +kernel
theorem d4_11 : decode method_2_code 11 = .ok (.istore 4, 2) := by decide +kernel
theorem d4_13 : decode method_2_code 13 = .ok (.iload_n 2, 1) := by decide +kernel
theorem d4_14 : decode method_2_code 14 = .ok (.ifCond .ne 50, 3) := by decide +kernel
theorem d4_17 : decode method_2_code 17 = .ok (.iload 4, 2) := by decide +kernel
theorem d4_19 : decode method_2_code 19 = .ok (.ifCond .eq 33, 3) := by decide +kernel
theorem d4_22 : decode method_2_code 22 = .ok (.aload_n 0, 1) := by decide +kernel
theorem d4_23 : decode method_2_code 23 = .ok (.aconst_null, 1) := by decide +kernel
theorem d4_24 : decode method_2_code 24 = .ok (.invokevirtual 7, 3) := by decide +kernel
theorem d4_27 : decode method_2_code 27 = .ok (.aload_n 3, 1) := by decide +kernel
theorem d4_28 : decode method_2_code 28 = .ok (.iconst 0, 1) := by decide +kernel
theorem d4_29 : decode method_2_code 29 = .ok (.iconst 0, 1) := by decide +kernel
theorem d4_30 : decode method_2_code 30 = .ok (.iastore, 1) := by decide +kernel
theorem d4_31 : decode method_2_code 31 = .ok (.aload_n 3, 1) := by decide +kernel
theorem d4_32 : decode method_2_code 32 = .ok (.iconst 3, 1) := by decide +kernel
theorem d4_33 : decode method_2_code 33 = .ok (.iconst 0, 1) := by decide +kernel
theorem d4_34 : decode method_2_code 34 = .ok (.iastore, 1) := by decide +kernel
theorem d4_35 : decode method_2_code 35 = .ok (.aload_n 3, 1) := by decide +kernel
theorem d4_36 : decode method_2_code 36 = .ok (.iconst 1, 1) := by decide +kernel
theorem d4_37 : decode method_2_code 37 = .ok (.iaload, 1) := by decide +kernel
theorem d4_38 : decode method_2_code 38 = .ok (.ifCond .le 170, 3) := by decide +kernel
theorem d4_41 : decode method_2_code 41 = .ok (.aload_n 3, 1) := by decide +kernel
theorem d4_42 : decode method_2_code 42 = .ok (.iconst 1, 1) := by decide +kernel
theorem d4_43 : decode method_2_code 43 = .ok (.aload_n 3, 1) := by decide +kernel
theorem d4_44 : decode method_2_code 44 = .ok (.iconst 1, 1) := by decide +kernel
theorem d4_45 : decode method_2_code 45 = .ok (.iaload, 1) := by decide +kernel
theorem d4_46 : decode method_2_code 46 = .ok (.iconst 1, 1) := by decide +kernel
theorem d4_47 : decode method_2_code 47 = .ok (.isub, 1) := by decide +kernel
theorem d4_48 : decode method_2_code 48 = .ok (.iastore, 1) := by decide +kernel
theorem d4_49 : decode method_2_code 49 = .ok (.goto 159, 3) := by decide +kernel
theorem d4_64 : decode method_2_code 64 = .ok (.iload_n 2, 1) := by decide +kernel
theorem d4_65 : decode method_2_code 65 = .ok (.iconst 1, 1) := by decide +kernel
theorem d4_66 : decode method_2_code 66 = .ok (.if_icmp .ne 46, 3) := by decide +kernel
theorem d4_69 : decode method_2_code 69 = .ok (.iload 4, 2) := by decide +kernel
theorem d4_71 : decode method_2_code 71 = .ok (.ifCond .eq 29, 3) := by decide +kernel
theorem d4_74 : decode method_2_code 74 = .ok (.aload_n 0, 1) := by decide +kernel
theorem d4_75 : decode method_2_code 75 = .ok (.aload_n 1, 1) := by decide +kernel
theorem d4_76 : decode method_2_code 76 = .ok (.invokevirtual 7, 3) := by decide +kernel
theorem d4_79 : decode method_2_code 79 = .ok (.aload_n 3, 1) := by decide +kernel
theorem d4_80 : decode method_2_code 80 = .ok (.iconst 3, 1) := by decide +kernel
theorem d4_81 : decode method_2_code 81 = .ok (.iconst 0, 1) := by decide +kernel
theorem d4_82 : decode method_2_code 82 = .ok (.iastore, 1) := by decide +kernel
theorem d4_83 : decode method_2_code 83 = .ok (.aload_n 3, 1) := by decide +kernel
theorem d4_84 : decode method_2_code 84 = .ok (.iconst 1, 1) := by decide +kernel
theorem d4_85 : decode method_2_code 85 = .ok (.iaload, 1) := by decide +kernel
theorem d4_86 : decode method_2_code 86 = .ok (.ifCond .le 122, 3) := by decide +kernel
theorem d4_89 : decode method_2_code 89 = .ok (.aload_n 3, 1) := by decide +kernel
theorem d4_90 : decode method_2_code 90 = .ok (.iconst 1, 1) := by decide +kernel
theorem d4_91 : decode method_2_code 91 = .ok (.aload_n 3, 1) := by decide +kernel
theorem d4_92 : decode method_2_code 92 = .ok (.iconst 1, 1) := by decide +kernel
theorem d4_93 : decode method_2_code 93 = .ok (.iaload, 1) := by decide +kernel
theorem d4_94 : decode method_2_code 94 = .ok (.iconst 1, 1) := by decide +kernel
theorem d4_95 : decode method_2_code 95 = .ok (.isub, 1) := by decide +kernel
theorem d4_96 : decode method_2_code 96 = .ok (.iastore, 1) := by decide +kernel
theorem d4_97 : decode method_2_code 97 = .ok (.goto 111, 3) := by decide +kernel
theorem d4_112 : decode method_2_code 112 = .ok (.iload_n 2, 1) := by decide +kernel
theorem d4_113 : decode method_2_code 113 = .ok (.iconst 2, 1) := by decide +kernel
theorem d4_114 : decode method_2_code 114 = .ok (.if_icmp .ne 19, 3) := by decide +kernel
theorem d4_117 : decode method_2_code 117 = .ok (.aload_n 0, 1) := by decide +kernel
theorem d4_118 : decode method_2_code 118 = .ok (.invokevirtual 16, 3) := by decide +kernel
theorem d4_121 : decode method_2_code 121 = .ok (.iload 4, 2) := by decide +kernel
theorem d4_123 : decode method_2_code 123 = .ok (.ifCond .eq 85, 3) := by decide +kernel
theorem d4_126 : decode method_2_code 126 = .ok (.aload_n 3, 1) := by decide +kernel
theorem d4_127 : decode method_2_code 127 = .ok (.iconst 3, 1) := by decide +kernel
theorem d4_128 : decode method_2_code 128 = .ok (.iconst 1, 1) := by decide +kernel
theorem d4_129 : decode method_2_code 129 = .ok (.iastore, 1) := by decide +kernel
theorem d4_130 : decode method_2_code 130 = .ok (.goto 78, 3) := by decide +kernel
theorem d4_133 : decode method_2_code 133 = .ok (.iload_n 2, 1) := by decide +kernel
theorem d4_134 : decode method_2_code 134 = .ok (.iconst 3, 1) := by decide +kernel
theorem d4_135 : decode method_2_code 135 = .ok (.if_icmp .ne 44, 3) := by decide +kernel
theorem d4_138 : decode method_2_code 138 = .ok (.iload 4, 2) := by decide +kernel
theorem d4_140 : decode method_2_code 140 = .ok (.ifCond .eq 68, 3) := by decide +kernel
theorem d4_143 : decode method_2_code 143 = .ok (.aload_n 0, 1) := by decide +kernel
theorem d4_144 : decode method_2_code 144 = .ok (.iconst 1, 1) := by decide +kernel
theorem d4_145 : decode method_2_code 145 = .ok (.invokevirtual 19, 3) := by decide +kernel
theorem d4_148 : decode method_2_code 148 = .ok (.aload_n 3, 1) := by decide +kernel
theorem d4_149 : decode method_2_code 149 = .ok (.iconst 2, 1) := by decide +kernel
theorem d4_150 : decode method_2_code 150 = .ok (.iconst 1, 1) := by decide +kernel
theorem d4_151 : decode method_2_code 151 = .ok (.iconst 2, 1) := by decide +kernel
theorem d4_152 : decode method_2_code 152 = .ok (.aload_n 3, 1) := by decide +kernel
theorem d4_153 : decode method_2_code 153 = .ok (.iconst 2, 1) := by decide +kernel
theorem d4_154 : decode method_2_code 154 = .ok (.iaload, 1) := by decide +kernel
theorem d4_155 : decode method_2_code 155 = .ok (.imul, 1) := by decide +kernel
theorem d4_156 : decode method_2_code 156 = .ok (.invokestatic 23, 3) := by decide +kernel
theorem d4_159 : decode method_2_code 159 = .ok (.sipush 1024, 3) := by decide +kernel
theorem d4_162 : decode method_2_code 162 = .ok (.invokestatic 29, 3) := by decide +kernel
theorem d4_165 : decode method_2_code 165 = .ok (.iastore, 1) := by decide +kernel
theorem d4_166 : decode method_2_code 166 = .ok (.aload_n 3, 1) := by decide +kernel
theorem d4_167 : decode method_2_code 167 = .ok (.iconst 1, 1) := by decide +kernel
theorem d4_168 : decode method_2_code 168 = .ok (.aload_n 3, 1) := by decide +kernel
theorem d4_169 : decode method_2_code 169 = .ok (.iconst 2, 1) := by decide +kernel
theorem d4_170 : decode method_2_code 170 = .ok (.iaload, 1) := by decide +kernel
theorem d4_171 : decode method_2_code 171 = .ok (.iastore, 1) := by decide +kernel
theorem d4_172 : decode method_2_code 172 = .ok (.aload_n 3, 1) := by decide +kernel
theorem d4_173 : decode method_2_code 173 = .ok (.iconst 3, 1) := by decide +kernel
theorem d4_174 : decode method_2_code 174 = .ok (.iconst 0, 1) := by decide +kernel
theorem d4_175 : decode method_2_code 175 = .ok (.iastore, 1) := by decide +kernel
theorem d4_176 : decode method_2_code 176 = .ok (.goto 32, 3) := by decide +kernel
theorem d4_179 : decode method_2_code 179 = .ok (.iload_n 2, 1) := by decide +kernel
theorem d4_180 : decode method_2_code 180 = .ok (.iconst 4, 1) := by decide +kernel
theorem d4_181 : decode method_2_code 181 = .ok (.if_icmp .ne 27, 3) := by decide +kernel
theorem d4_184 : decode method_2_code 184 = .ok (.iload 4, 2) := by decide +kernel
theorem d4_186 : decode method_2_code 186 = .ok (.ifCond .eq 22, 3) := by decide +kernel
theorem d4_189 : decode method_2_code 189 = .ok (.aload_n 0, 1) := by decide +kernel
theorem d4_190 : decode method_2_code 190 = .ok (.iconst 0, 1) := by decide +kernel
theorem d4_191 : decode method_2_code 191 = .ok (.invokevirtual 19, 3) := by decide +kernel
theorem d4_194 : decode method_2_code 194 = .ok (.aload_n 3, 1) := by decide +kernel
theorem d4_195 : decode method_2_code 195 = .ok (.iconst 3, 1) := by decide +kernel
theorem d4_196 : decode method_2_code 196 = .ok (.iaload, 1) := by decide +kernel
theorem d4_197 : decode method_2_code 197 = .ok (.ifCond .eq 7, 3) := by decide +kernel
theorem d4_200 : decode method_2_code 200 = .ok (.aload_n 3, 1) := by decide +kernel
theorem d4_201 : decode method_2_code 201 = .ok (.iconst 2, 1) := by decide +kernel
theorem d4_202 : decode method_2_code 202 = .ok (.iconst 0, 1) := by decide +kernel
theorem d4_203 : decode method_2_code 203 = .ok (.iastore, 1) := by decide +kernel
theorem d4_204 : decode method_2_code 204 = .ok (.aload_n 3, 1) := by decide +kernel
theorem d4_205 : decode method_2_code 205 = .ok (.iconst 3, 1) := by decide +kernel
theorem d4_206 : decode method_2_code 206 = .ok (.iconst 0, 1) := by decide +kernel
theorem d4_207 : decode method_2_code 207 = .ok (.iastore, 1) := by decide +kernel
theorem d4_208 : decode method_2_code 208 = .ok (.return_, 1) := by decide +kernel
theorem pn_4 : plainName "com/example/quillon/quillon/engine/RowQueueIsIdlePinLaw" = true := by first | (simp [plainName, overriddenIn]; done) | decide +kernel
theorem pd4_0 : parseMethodDescriptor "(Lcom/example/quillon/quillon/engine/LockWait;)V" = some ⟨[(.object "com/example/quillon/quillon/engine/LockWait")], none⟩ := by decide +kernel
theorem pd4_1 : parseMethodDescriptor "()V" = some ⟨[], none⟩ := by decide +kernel
theorem pd4_2 : parseMethodDescriptor "(Z)V" = some ⟨[.boolean], none⟩ := by decide +kernel
theorem pd4_3 : parseMethodDescriptor "(II)I" = some ⟨[.int, .int], some .int⟩ := by decide +kernel
theorem ef_Ot (m : MethodId) (qa : Addr) (wa : Addr) (cd : Int32) (am : Addr) : entryFrame m #[(.ref qa), (.ref wa), (.int cd), (.ref am)] 5 = mkF m 0 #[.val (.ref qa), .val (.ref wa), .val (.int cd), .val (.ref am), .unset] [] := by first | (simp [entryFrame, mkF, argsToLocals, Value.category]; done) | rfl
def QOt (Z : State) (qa : Addr) (wa : Addr) (cd : Int32) (am : Addr) (kc : ClassId) (tn : Int32) (lr : Int32) (pz : Int32) (h0 : Heap) (n0 : Nat) (v : Option Value) (h : Heap) (L : List Loc) : Prop := v = none ∧ Fr n0 L ∧ h0.size ≤ h.size ∧ ∃ (b' : Bool) (tn' lr' pz' : Int32), own_RQ Z h qa wa b' tn' lr' pz' ∧ Arv Z h am kc .int (4 : Int32) [.int (own_e b'), .int tn', .int lr', .int pz'] (.int 0)
set_option maxRecDepth 65536 in
set_option maxHeartbeats 40000000 in
theorem rmOt (l : Launch) (Z : State) (a0 : Array Value) (hw : ∀ d ∈ tables_1, d.before a0 Z = true) (ws : List Jvm.Cond) (qa : Addr) (wa : Addr) (cd : Int32) (am : Addr) (kc : ClassId) (tn : Int32) (lr : Int32) (pz : Int32) (h0 : Heap) (n0 : Nat) (Z0 : n0 ≤ h0.size) (F0 : own_RQ Z h0 qa wa true tn lr pz) (V0 : Arv Z h0 am kc .int (4 : Int32) [.int (own_e true), .int tn, .int lr, .int pz] (.int 0)) (hne : am ≠ qa) (gq : n0 ≤ qa) (gm : n0 ≤ am) :
    MetFree l (⟨"com/example/quillon/quillon/engine/RowQueueIsIdlePinLaw", "step", "(Lcom/example/quillon/quillon/engine/RowQueue;Lcom/example/quillon/quillon/engine/LockWait;I[I)V"⟩ : MethodName) (head1 (Jvm.Cond.code (⟨"com/example/quillon/quillon/engine/RowQueueIsIdlePinLaw", "step", "(Lcom/example/quillon/quillon/engine/RowQueue;Lcom/example/quillon/quillon/engine/LockWait;I[I)V"⟩ : MethodName) method_2_code 5 none :: ws) ({ frames := 2, cells := 0, slots := 0, locals := 27 } : Room)) (fun a U => a = #[(.ref qa), (.ref wa), (.int cd), (.ref am)] ∧ Z.Warmed39 U.vm ∧ U.heap = h0) (fun _ _ _ _ _ => True) (fun _ U o U' => ∃ v L, o = .returned v ∧ QOt Z qa wa cd am kc tn lr pz h0 n0 v U'.heap L ∧ FrameEnd U o U' L ({ frames := 2, cells := 0, slots := 0, locals := 27 } : Room).cells ({ frames := 2, cells := 0, slots := 0, locals := 27 } : Room).slots) := by
  refine MetFree.of_bodySF (plainFor_of_name pn_4) hisR ?_
  intro p e s m args below meth c s₁ Bd hml0 hP hK
  obtain ⟨rfl, hZ, hh⟩ := hP
  have hx := Bd.exec
  have hby := Bd.bytes
  have hml : c.maxLocals = 5 := hml0
  have hlk : meth.locks = false := BodyLoose.notSynchronized Bd
  have hown : s.vm.findClass "com/example/quillon/quillon/engine/RowQueueIsIdlePinLaw" = some m.cls := findClass_of_methodNamed Bd.named
  have hnm := (name_of_methodNamed Bd.named Bd.method).1
  have X0 : Stand p l e ({ frames := 2, cells := 0, slots := 0, locals := 27 } : Room) s m #[(.ref qa), (.ref wa), (.int cd), (.ref am)] below meth c s₁ [] 0 0 := Stand.of_body Bd
  have e0 : s₁.heap = h0 := by rw [← hh, Bd.state]; rfl
  have N0 := Fr.nil n0
  have pre0 : ∀ t, Steps p.tables e below (s₁.setTop (mkF m 0 #[.val (.ref qa), .val (.ref wa), .val (.int cd), .val (.ref am), .unset] [])) t → Steps p.tables e below (s₁.setTop (entryFrame m #[(.ref qa), (.ref wa), (.int cd), (.ref am)] 5)) t := fun t k => castTop (ef_Ot m qa wa cd am) k
  have g_0 : own_Fin p e below s (QOt Z qa wa cd am kc tn lr pz h0 n0) ({ frames := 2, cells := 0, slots := 0, locals := 27 } : Room).cells ({ frames := 2, cells := 0, slots := 0, locals := 27 } : Room).slots (s₁.setTop (mkF m 0 #[.val (.ref qa), .val (.ref wa), .val (.int cd), .val (.ref am), .unset] [])) := by
    refine own_pre (B := s₁.setTop (mkF m 1 #[.val (.ref qa), .val (.ref wa), .val (.int cd), .val (.ref am), .unset] [(.ref am)])) (fun t k => XS.aloadN X0.here hx rfl (hb hby d4_0) rfl rfl k) ?_
    refine own_pre (B := s₁.setTop (mkF m 2 #[.val (.ref qa), .val (.ref wa), .val (.int cd), .val (.ref am), .unset] [(.int (0 : Int32)), (.ref am)])) (fun t k => XS.iconst X0.here hx rfl (hb hby d4_1) k) ?_
    refine own_pre (B := s₁.setTop (mkF m 3 #[.val (.ref qa), .val (.ref wa), .val (.int cd), .val (.ref am), .unset] [(.int (1 : Int32))])) (own_ld X0 hx hZ e0 V0 (j := (0 : Int32)) (v := (1 : Int32)) ⟨by decide, by decide⟩ rfl (g := (mkF m 2 #[.val (.ref qa), .val (.ref wa), .val (.int cd), .val (.ref am), .unset] [(.int (0 : Int32)), (.ref am)])) rfl rfl (hb hby d4_2)) ?_
    refine own_pre (B := s₁.setTop (mkF m 6 #[.val (.ref qa), .val (.ref wa), .val (.int cd), .val (.ref am), .unset] [])) (fun t k => XS.ifNo X0.here hx rfl (hb hby d4_3) rfl ((if0 _ _).trans (feq ((by decide) : ¬ ((1 : Int32) = (0 : Int32)))).1) k) ?_
    refine own_pre (B := s₁.setTop (mkF m 7 #[.val (.ref qa), .val (.ref wa), .val (.int cd), .val (.ref am), .unset] [(.int (1 : Int32))])) (fun t k => XS.iconst X0.here hx rfl (hb hby d4_6) k) ?_
    refine own_pre (B := s₁.setTop (mkF m 11 #[.val (.ref qa), .val (.ref wa), .val (.int cd), .val (.ref am), .unset] [(.int (1 : Int32))])) (fun t k => XS.goto X0.here hx rfl (pc0 := 7) (pc' := 11) rfl (hb hby d4_7) (by decide) (by decide) k) ?_
    refine own_pre (B := s₁.setTop (mkF m 13 #[.val (.ref qa), .val (.ref wa), .val (.int cd), .val (.ref am), .val (.int (1 : Int32))] [])) (fun t k => XS.istore X0.here hx rfl (hb hby d4_11) rfl (l' := #[.val (.ref qa), .val (.ref wa), .val (.int cd), .val (.ref am), .val (.int (1 : Int32))]) rfl k) ?_
    refine own_pre (B := s₁.setTop (mkF m 14 #[.val (.ref qa), .val (.ref wa), .val (.int cd), .val (.ref am), .val (.int (1 : Int32))] [(.int cd)])) (fun t k => XS.iloadN X0.here hx rfl (hb hby d4_13) rfl k) ?_
    by_cases hc1 : cd = (0 : Int32)
    · skip
      refine own_pre (B := s₁.setTop (mkF m 17 #[.val (.ref qa), .val (.ref wa), .val (.int cd), .val (.ref am), .val (.int (1 : Int32))] [])) (fun t k => XS.ifNo X0.here hx rfl (hb hby d4_14) rfl ((if0 _ _).trans (teq hc1).2) k) ?_
      refine own_pre (B := s₁.setTop (mkF m 19 #[.val (.ref qa), .val (.ref wa), .val (.int cd), .val (.ref am), .val (.int (1 : Int32))] [(.int (1 : Int32))])) (fun t k => XS.iload X0.here hx rfl (hb hby d4_17) rfl k) ?_
      refine own_pre (B := s₁.setTop (mkF m 22 #[.val (.ref qa), .val (.ref wa), .val (.int cd), .val (.ref am), .val (.int (1 : Int32))] [])) (fun t k => XS.ifNo X0.here hx rfl (hb hby d4_19) rfl ((if0 _ _).trans (feq ((by decide) : ¬ ((1 : Int32) = (0 : Int32)))).1) k) ?_
      refine own_pre (B := s₁.setTop (mkF m 23 #[.val (.ref qa), .val (.ref wa), .val (.int cd), .val (.ref am), .val (.int (1 : Int32))] [(.ref qa)])) (fun t k => XS.aloadN X0.here hx rfl (hb hby d4_22) rfl rfl k) ?_
      refine own_pre (B := s₁.setTop (mkF m 24 #[.val (.ref qa), .val (.ref wa), .val (.int cd), .val (.ref am), .val (.int (1 : Int32))] [.null, (.ref qa)])) (fun t k => XS.aconstNull X0.here hx rfl (hb hby d4_23) k) ?_
      obtain ⟨cq3, kq3, qa3, qb3, qc3⟩ := isOf hZ e0 F0.1
      obtain ⟨_, _, ⟨T3, L3, k3, n3⟩, -, X3, ⟨Lc3, hQ3, l3, y3, z3⟩, st3⟩ := X0.virtualBack hx (y := (⟨"com/example/quillon/quillon/engine/RowQueue", "endTurn", "(Lcom/example/quillon/quillon/engine/LockWait;)V"⟩ : MethodName)) (z := (⟨"com/example/quillon/quillon/engine/RowQueue", "endTurn", "(Lcom/example/quillon/quillon/engine/LockWait;)V"⟩ : MethodName)) hown (mvT hZ (hw _ (List.mem_of_getElem? (i := 30) rfl))) (mvT hZ (hw _ (List.mem_of_getElem? (i := 31) rfl))) (notFace_of_selects (args := #[]) (mvT hZ (hw _ (List.mem_of_getElem? (i := 33) rfl)))) (mvT hZ (hw _ (List.mem_of_getElem? (i := 33) rfl))) (mvT hZ (hw _ (List.mem_of_getElem? (i := 32) rfl))) (by decide) (backOf (W := 0) (rmEn l Z a0 hw [] qa wa true tn lr pz h0 n0 Z0 F0 gq) hZ (hw _ (List.mem_of_getElem? (i := 34) rfl)) (hw _ (List.mem_of_getElem? (i := 3) rfl)) (by decide) (by decide)) qa3 qc3 (g := (mkF m 24 #[.val (.ref qa), .val (.ref wa), .val (.int cd), .val (.ref am), .val (.int (1 : Int32))] [.null, (.ref qa)])) rfl (by rw [hml]; rfl) (Steps.refl _) (argsL := [.null]) (rest := []) (lenOf pd4_0 rfl) rfl (by show 2 * 0 + _ ≤ _; exact Nat.le_of_eq rfl) (hb hby d4_24) (fun _ _ => ⟨rfl, e0, (by decide : 0 + 0 ≤ _), (by decide : 0 + 0 ≤ _)⟩)
      dsimp only [Pt.U, Pt.locs, Pt.cells, Pt.slots] at X3 l3 y3 z3 st3 hQ3
      subst l3 y3 z3
      obtain ⟨rfl, Nq3, K3, F3⟩ := hQ3
      have N3 := Fr.app N0 Nq3
      have V3 := V0.keep K3 (ninS hne nin0)
      have ZH3 : n0 ≤ T3.heap.size := Nat.le_trans Z0 K3.1
      have SZ3 : h0.size ≤ T3.heap.size := Nat.le_trans (Nat.le_refl _) K3.1
      refine own_pre (B := T3.setTop (mkF m 27 #[.val (.ref qa), .val (.ref wa), .val (.int cd), .val (.ref am), .val (.int (1 : Int32))] [])) (fun t q => st3.trans q) ?_
      refine own_pre (B := T3.setTop (mkF m 28 #[.val (.ref qa), .val (.ref wa), .val (.int cd), .val (.ref am), .val (.int (1 : Int32))] [(.ref am)])) (fun t k => XS.aloadN X3.here hx rfl (hb hby d4_27) rfl rfl k) ?_
      refine own_pre (B := T3.setTop (mkF m 29 #[.val (.ref qa), .val (.ref wa), .val (.int cd), .val (.ref am), .val (.int (1 : Int32))] [(.int (0 : Int32)), (.ref am)])) (fun t k => XS.iconst X3.here hx rfl (hb hby d4_28) k) ?_
      refine own_pre (B := T3.setTop (mkF m 30 #[.val (.ref qa), .val (.ref wa), .val (.int cd), .val (.ref am), .val (.int (1 : Int32))] [(.int (0 : Int32)), (.int (0 : Int32)), (.ref am)])) (fun t k => XS.iconst X3.here hx rfl (hb hby d4_29) k) ?_
      obtain ⟨T4, h4, X4, e4, W4, V4', st4⟩ := own_st X3 hx hZ rfl V3 (j := (0 : Int32)) (x := (0 : Int32)) ⟨by decide, by decide⟩ 0 rfl (Nat.le_of_ble_eq_true rfl) (g := (mkF m 30 #[.val (.ref qa), .val (.ref wa), .val (.int cd), .val (.ref am), .val (.int (1 : Int32))] [(.int (0 : Int32)), (.int (0 : Int32)), (.ref am)])) rfl rfl (hb hby d4_30)
      have V4 : Arv Z h4 am kc .int (4 : Int32) [.int (0 : Int32), .int tn, .int lr, .int pz] (.int 0) := V4'
      have F4 := own_RQ_other F3 W4 hne.symm
      have N4 := Fr.snoc X4 N3 gm
      have ZH4 : n0 ≤ h4.size := by rw [W4.size]; exact ZH3
      have SZ4 : h0.size ≤ h4.size := by rw [W4.size]; exact SZ3
      refine own_pre (B := T4.setTop (mkF m 31 #[.val (.ref qa), .val (.ref wa), .val (.int cd), .val (.ref am), .val (.int (1 : Int32))] [])) st4 ?_
      refine own_pre (B := T4.setTop (mkF m 32 #[.val (.ref qa), .val (.ref wa), .val (.int cd), .val (.ref am), .val (.int (1 : Int32))] [(.ref am)])) (fun t k => XS.aloadN X4.here hx rfl (hb hby d4_31) rfl rfl k) ?_
      refine own_pre (B := T4.setTop (mkF m 33 #[.val (.ref qa), .val (.ref wa), .val (.int cd), .val (.ref am), .val (.int (1 : Int32))] [(.int (3 : Int32)), (.ref am)])) (fun t k => XS.iconst X4.here hx rfl (hb hby d4_32) k) ?_
      refine own_pre (B := T4.setTop (mkF m 34 #[.val (.ref qa), .val (.ref wa), .val (.int cd), .val (.ref am), .val (.int (1 : Int32))] [(.int (0 : Int32)), (.int (3 : Int32)), (.ref am)])) (fun t k => XS.iconst X4.here hx rfl (hb hby d4_33) k) ?_
      obtain ⟨T5, h5, X5, e5, W5, V5', st5⟩ := own_st X4 hx hZ e4 V4 (j := (3 : Int32)) (x := (0 : Int32)) ⟨by decide, by decide⟩ 3 rfl (Nat.le_of_ble_eq_true rfl) (g := (mkF m 34 #[.val (.ref qa), .val (.ref wa), .val (.int cd), .val (.ref am), .val (.int (1 : Int32))] [(.int (0 : Int32)), (.int (3 : Int32)), (.ref am)])) rfl rfl (hb hby d4_34)
      have V5 : Arv Z h5 am kc .int (4 : Int32) [.int (0 : Int32), .int tn, .int lr, .int (0 : Int32)] (.int 0) := V5'
      have F5 := own_RQ_other F4 W5 hne.symm
      have N5 := Fr.snoc X5 N4 gm
      have ZH5 : n0 ≤ h5.size := by rw [W5.size]; exact ZH4
      have SZ5 : h0.size ≤ h5.size := by rw [W5.size]; exact SZ4
      refine own_pre (B := T5.setTop (mkF m 35 #[.val (.ref qa), .val (.ref wa), .val (.int cd), .val (.ref am), .val (.int (1 : Int32))] [])) st5 ?_
      refine own_pre (B := T5.setTop (mkF m 36 #[.val (.ref qa), .val (.ref wa), .val (.int cd), .val (.ref am), .val (.int (1 : Int32))] [(.ref am)])) (fun t k => XS.aloadN X5.here hx rfl (hb hby d4_35) rfl rfl k) ?_
      refine own_pre (B := T5.setTop (mkF m 37 #[.val (.ref qa), .val (.ref wa), .val (.int cd), .val (.ref am), .val (.int (1 : Int32))] [(.int (1 : Int32)), (.ref am)])) (fun t k => XS.iconst X5.here hx rfl (hb hby d4_36) k) ?_
      refine own_pre (B := T5.setTop (mkF m 38 #[.val (.ref qa), .val (.ref wa), .val (.int cd), .val (.ref am), .val (.int (1 : Int32))] [(.int tn)])) (own_ld X5 hx hZ e5 V5 (j := (1 : Int32)) (v := tn) ⟨by decide, by decide⟩ rfl (g := (mkF m 37 #[.val (.ref qa), .val (.ref wa), .val (.int cd), .val (.ref am), .val (.int (1 : Int32))] [(.int (1 : Int32)), (.ref am)])) rfl rfl (hb hby d4_37)) ?_
      by_cases hc6 : (0 : Int32) < tn
      · skip
        refine own_pre (B := T5.setTop (mkF m 41 #[.val (.ref qa), .val (.ref wa), .val (.int cd), .val (.ref am), .val (.int (1 : Int32))] [])) (fun t k => XS.ifNo X5.here hx rfl (hb hby d4_38) rfl ((if0 _ _).trans (tlt hc6).2.2.2) k) ?_
        have F_hc6 := F5
        rw [if_pos hc6] at F_hc6
        refine own_pre (B := T5.setTop (mkF m 42 #[.val (.ref qa), .val (.ref wa), .val (.int cd), .val (.ref am), .val (.int (1 : Int32))] [(.ref am)])) (fun t k => XS.aloadN X5.here hx rfl (hb hby d4_41) rfl rfl k) ?_
        refine own_pre (B := T5.setTop (mkF m 43 #[.val (.ref qa), .val (.ref wa), .val (.int cd), .val (.ref am), .val (.int (1 : Int32))] [(.int (1 : Int32)), (.ref am)])) (fun t k => XS.iconst X5.here hx rfl (hb hby d4_42) k) ?_
        refine own_pre (B := T5.setTop (mkF m 44 #[.val (.ref qa), .val (.ref wa), .val (.int cd), .val (.ref am), .val (.int (1 : Int32))] [(.ref am), (.int (1 : Int32)), (.ref am)])) (fun t k => XS.aloadN X5.here hx rfl (hb hby d4_43) rfl rfl k) ?_
        refine own_pre (B := T5.setTop (mkF m 45 #[.val (.ref qa), .val (.ref wa), .val (.int cd), .val (.ref am), .val (.int (1 : Int32))] [(.int (1 : Int32)), (.ref am), (.int (1 : Int32)), (.ref am)])) (fun t k => XS.iconst X5.here hx rfl (hb hby d4_44) k) ?_
        refine own_pre (B := T5.setTop (mkF m 46 #[.val (.ref qa), .val (.ref wa), .val (.int cd), .val (.ref am), .val (.int (1 : Int32))] [(.int tn), (.int (1 : Int32)), (.ref am)])) (own_ld X5 hx hZ e5 V5 (j := (1 : Int32)) (v := tn) ⟨by decide, by decide⟩ rfl (g := (mkF m 45 #[.val (.ref qa), .val (.ref wa), .val (.int cd), .val (.ref am), .val (.int (1 : Int32))] [(.int (1 : Int32)), (.ref am), (.int (1 : Int32)), (.ref am)])) rfl rfl (hb hby d4_45)) ?_
        refine own_pre (B := T5.setTop (mkF m 47 #[.val (.ref qa), .val (.ref wa), .val (.int cd), .val (.ref am), .val (.int (1 : Int32))] [(.int (1 : Int32)), (.int tn), (.int (1 : Int32)), (.ref am)])) (fun t k => XS.iconst X5.here hx rfl (hb hby d4_46) k) ?_
        refine own_pre (B := T5.setTop (mkF m 48 #[.val (.ref qa), .val (.ref wa), .val (.int cd), .val (.ref am), .val (.int (1 : Int32))] [(.int (tn - (1 : Int32))), (.int (1 : Int32)), (.ref am)])) (fun t k => XS.isub X5.here hx rfl (hb hby d4_47) rfl k) ?_
        obtain ⟨T8, h8, X8, e8, W8, V8', st8⟩ := own_st X5 hx hZ e5 V5 (j := (1 : Int32)) (x := (tn - (1 : Int32))) ⟨by decide, by decide⟩ 1 rfl (Nat.le_of_ble_eq_true rfl) (g := (mkF m 48 #[.val (.ref qa), .val (.ref wa), .val (.int cd), .val (.ref am), .val (.int (1 : Int32))] [(.int (tn - (1 : Int32))), (.int (1 : Int32)), (.ref am)])) rfl rfl (hb hby d4_48)
        have V8 : Arv Z h8 am kc .int (4 : Int32) [.int (0 : Int32), .int (tn - (1 : Int32)), .int lr, .int (0 : Int32)] (.int 0) := V8'
        have F8 := own_RQ_other F_hc6 W8 hne.symm
        have N8 := Fr.snoc X8 N5 gm
        have ZH8 : n0 ≤ h8.size := by rw [W8.size]; exact ZH5
        have SZ8 : h0.size ≤ h8.size := by rw [W8.size]; exact SZ5
        refine own_pre (B := T8.setTop (mkF m 49 #[.val (.ref qa), .val (.ref wa), .val (.int cd), .val (.ref am), .val (.int (1 : Int32))] [])) st8 ?_
        refine own_pre (B := T8.setTop (mkF m 208 #[.val (.ref qa), .val (.ref wa), .val (.int cd), .val (.ref am), .val (.int (1 : Int32))] [])) (fun t k => XS.goto X8.here hx rfl (pc0 := 49) (pc' := 208) rfl (hb hby d4_49) (by decide) (by decide) k) ?_
        exact own_retV X8 hx hlk Bd.returns (hb hby d4_208) (own_at e8 ⟨rfl, N8, SZ8, false, (tn - (1 : Int32)), lr, (0 : Int32), F8, V8⟩) (by decide) (by decide)
      · skip
        refine own_pre (B := T5.setTop (mkF m 208 #[.val (.ref qa), .val (.ref wa), .val (.int cd), .val (.ref am), .val (.int (1 : Int32))] [])) (fun t k => XS.ifYes X5.here hx rfl (pc0 := 38) (pc' := 208) rfl (hb hby d4_38) rfl ((if0 _ _).trans (flt hc6).2.2.2) (by decide) (by decide) k) ?_
        have F_hc6 := F5
        rw [if_neg hc6] at F_hc6
        exact own_retV X5 hx hlk Bd.returns (hb hby d4_208) (own_at e5 ⟨rfl, N5, SZ5, false, tn, lr, (0 : Int32), F_hc6, V5⟩) (by decide) (by decide)
    · skip
      refine own_pre (B := s₁.setTop (mkF m 64 #[.val (.ref qa), .val (.ref wa), .val (.int cd), .val (.ref am), .val (.int (1 : Int32))] [])) (fun t k => XS.ifYes X0.here hx rfl (pc0 := 14) (pc' := 64) rfl (hb hby d4_14) rfl ((if0 _ _).trans (feq hc1).2) (by decide) (by decide) k) ?_
      refine own_pre (B := s₁.setTop (mkF m 65 #[.val (.ref qa), .val (.ref wa), .val (.int cd), .val (.ref am), .val (.int (1 : Int32))] [(.int cd)])) (fun t k => XS.iloadN X0.here hx rfl (hb hby d4_64) rfl k) ?_
      refine own_pre (B := s₁.setTop (mkF m 66 #[.val (.ref qa), .val (.ref wa), .val (.int cd), .val (.ref am), .val (.int (1 : Int32))] [(.int (1 : Int32)), (.int cd)])) (fun t k => XS.iconst X0.here hx rfl (hb hby d4_65) k) ?_
      by_cases hc11 : cd = (1 : Int32)
      · skip
        refine own_pre (B := s₁.setTop (mkF m 69 #[.val (.ref qa), .val (.ref wa), .val (.int cd), .val (.ref am), .val (.int (1 : Int32))] [])) (fun t k => XS.icmpNo X0.here hx rfl (hb hby d4_66) rfl (teq hc11).2 k) ?_
        refine own_pre (B := s₁.setTop (mkF m 71 #[.val (.ref qa), .val (.ref wa), .val (.int cd), .val (.ref am), .val (.int (1 : Int32))] [(.int (1 : Int32))])) (fun t k => XS.iload X0.here hx rfl (hb hby d4_69) rfl k) ?_
        refine own_pre (B := s₁.setTop (mkF m 74 #[.val (.ref qa), .val (.ref wa), .val (.int cd), .val (.ref am), .val (.int (1 : Int32))] [])) (fun t k => XS.ifNo X0.here hx rfl (hb hby d4_71) rfl ((if0 _ _).trans (feq ((by decide) : ¬ ((1 : Int32) = (0 : Int32)))).1) k) ?_
        refine own_pre (B := s₁.setTop (mkF m 75 #[.val (.ref qa), .val (.ref wa), .val (.int cd), .val (.ref am), .val (.int (1 : Int32))] [(.ref qa)])) (fun t k => XS.aloadN X0.here hx rfl (hb hby d4_74) rfl rfl k) ?_
        refine own_pre (B := s₁.setTop (mkF m 76 #[.val (.ref qa), .val (.ref wa), .val (.int cd), .val (.ref am), .val (.int (1 : Int32))] [(.ref wa), (.ref qa)])) (fun t k => XS.aloadN X0.here hx rfl (hb hby d4_75) rfl rfl k) ?_
        obtain ⟨cq13, kq13, qa13, qb13, qc13⟩ := isOf hZ e0 F0.1
        obtain ⟨_, _, ⟨T13, L13, k13, n13⟩, -, X13, ⟨Lc13, hQ13, l13, y13, z13⟩, st13⟩ := X0.virtualBack hx (y := (⟨"com/example/quillon/quillon/engine/RowQueue", "endTurn", "(Lcom/example/quillon/quillon/engine/LockWait;)V"⟩ : MethodName)) (z := (⟨"com/example/quillon/quillon/engine/RowQueue", "endTurn", "(Lcom/example/quillon/quillon/engine/LockWait;)V"⟩ : MethodName)) hown (mvT hZ (hw _ (List.mem_of_getElem? (i := 30) rfl))) (mvT hZ (hw _ (List.mem_of_getElem? (i := 31) rfl))) (notFace_of_selects (args := #[]) (mvT hZ (hw _ (List.mem_of_getElem? (i := 33) rfl)))) (mvT hZ (hw _ (List.mem_of_getElem? (i := 33) rfl))) (mvT hZ (hw _ (List.mem_of_getElem? (i := 32) rfl))) (by decide) (backOf (W := 0) (rmEw l Z a0 hw [] qa wa true tn lr pz h0 n0 Z0 F0 gq) hZ (hw _ (List.mem_of_getElem? (i := 34) rfl)) (hw _ (List.mem_of_getElem? (i := 3) rfl)) (by decide) (by decide)) qa13 qc13 (g := (mkF m 76 #[.val (.ref qa), .val (.ref wa), .val (.int cd), .val (.ref am), .val (.int (1 : Int32))] [(.ref wa), (.ref qa)])) rfl (by rw [hml]; rfl) (Steps.refl _) (argsL := [(.ref wa)]) (rest := []) (lenOf pd4_0 rfl) rfl (by show 2 * 0 + _ ≤ _; exact Nat.le_of_eq rfl) (hb hby d4_76) (fun _ _ => ⟨rfl, e0, (by decide : 0 + 0 ≤ _), (by decide : 0 + 0 ≤ _)⟩)
        dsimp only [Pt.U, Pt.locs, Pt.cells, Pt.slots] at X13 l13 y13 z13 st13 hQ13
        subst l13 y13 z13
        obtain ⟨rfl, Nq13, K13, F13⟩ := hQ13
        have N13 := Fr.app N0 Nq13
        have V13 := V0.keep K13 (ninS hne nin0)
        have ZH13 : n0 ≤ T13.heap.size := Nat.le_trans Z0 K13.1
        have SZ13 : h0.size ≤ T13.heap.size := Nat.le_trans (Nat.le_refl _) K13.1
        refine own_pre (B := T13.setTop (mkF m 79 #[.val (.ref qa), .val (.ref wa), .val (.int cd), .val (.ref am), .val (.int (1 : Int32))] [])) (fun t q => st13.trans q) ?_
        refine own_pre (B := T13.setTop (mkF m 80 #[.val (.ref qa), .val (.ref wa), .val (.int cd), .val (.ref am), .val (.int (1 : Int32))] [(.ref am)])) (fun t k => XS.aloadN X13.here hx rfl (hb hby d4_79) rfl rfl k) ?_
        refine own_pre (B := T13.setTop (mkF m 81 #[.val (.ref qa), .val (.ref wa), .val (.int cd), .val (.ref am), .val (.int (1 : Int32))] [(.int (3 : Int32)), (.ref am)])) (fun t k => XS.iconst X13.here hx rfl (hb hby d4_80) k) ?_
        refine own_pre (B := T13.setTop (mkF m 82 #[.val (.ref qa), .val (.ref wa), .val (.int cd), .val (.ref am), .val (.int (1 : Int32))] [(.int (0 : Int32)), (.int (3 : Int32)), (.ref am)])) (fun t k => XS.iconst X13.here hx rfl (hb hby d4_81) k) ?_
        obtain ⟨T14, h14, X14, e14, W14, V14', st14⟩ := own_st X13 hx hZ rfl V13 (j := (3 : Int32)) (x := (0 : Int32)) ⟨by decide, by decide⟩ 3 rfl (Nat.le_of_ble_eq_true rfl) (g := (mkF m 82 #[.val (.ref qa), .val (.ref wa), .val (.int cd), .val (.ref am), .val (.int (1 : Int32))] [(.int (0 : Int32)), (.int (3 : Int32)), (.ref am)])) rfl rfl (hb hby d4_82)
        have V14 : Arv Z h14 am kc .int (4 : Int32) [.int (1 : Int32), .int tn, .int lr, .int (0 : Int32)] (.int 0) := V14'
        have F14 := own_RQ_other F13 W14 hne.symm
        have N14 := Fr.snoc X14 N13 gm
        have ZH14 : n0 ≤ h14.size := by rw [W14.size]; exact ZH13
        have SZ14 : h0.size ≤ h14.size := by rw [W14.size]; exact SZ13
        refine own_pre (B := T14.setTop (mkF m 83 #[.val (.ref qa), .val (.ref wa), .val (.int cd), .val (.ref am), .val (.int (1 : Int32))] [])) st14 ?_
        refine own_pre (B := T14.setTop (mkF m 84 #[.val (.ref qa), .val (.ref wa), .val (.int cd), .val (.ref am), .val (.int (1 : Int32))] [(.ref am)])) (fun t k => XS.aloadN X14.here hx rfl (hb hby d4_83) rfl rfl k) ?_
        refine own_pre (B := T14.setTop (mkF m 85 #[.val (.ref qa), .val (.ref wa), .val (.int cd), .val (.ref am), .val (.int (1 : Int32))] [(.int (1 : Int32)), (.ref am)])) (fun t k => XS.iconst X14.here hx rfl (hb hby d4_84) k) ?_
        refine own_pre (B := T14.setTop (mkF m 86 #[.val (.ref qa), .val (.ref wa), .val (.int cd), .val (.ref am), .val (.int (1 : Int32))] [(.int tn)])) (own_ld X14 hx hZ e14 V14 (j := (1 : Int32)) (v := tn) ⟨by decide, by decide⟩ rfl (g := (mkF m 85 #[.val (.ref qa), .val (.ref wa), .val (.int cd), .val (.ref am), .val (.int (1 : Int32))] [(.int (1 : Int32)), (.ref am)])) rfl rfl (hb hby d4_85)) ?_
        by_cases hc15 : (0 : Int32) < tn
        · skip
          refine own_pre (B := T14.setTop (mkF m 89 #[.val (.ref qa), .val (.ref wa), .val (.int cd), .val (.ref am), .val (.int (1 : Int32))] [])) (fun t k => XS.ifNo X14.here hx rfl (hb hby d4_86) rfl ((if0 _ _).trans (tlt hc15).2.2.2) k) ?_
          have F_hc15 := F14
          rw [if_pos hc15] at F_hc15
          refine own_pre (B := T14.setTop (mkF m 90 #[.val (.ref qa), .val (.ref wa), .val (.int cd), .val (.ref am), .val (.int (1 : Int32))] [(.ref am)])) (fun t k => XS.aloadN X14.here hx rfl (hb hby d4_89) rfl rfl k) ?_
          refine own_pre (B := T14.setTop (mkF m 91 #[.val (.ref qa), .val (.ref wa), .val (.int cd), .val (.ref am), .val (.int (1 : Int32))] [(.int (1 : Int32)), (.ref am)])) (fun t k => XS.iconst X14.here hx rfl (hb hby d4_90) k) ?_
          refine own_pre (B := T14.setTop (mkF m 92 #[.val (.ref qa), .val (.ref wa), .val (.int cd), .val (.ref am), .val (.int (1 : Int32))] [(.ref am), (.int (1 : Int32)), (.ref am)])) (fun t k => XS.aloadN X14.here hx rfl (hb hby d4_91) rfl rfl k) ?_
          refine own_pre (B := T14.setTop (mkF m 93 #[.val (.ref qa), .val (.ref wa), .val (.int cd), .val (.ref am), .val (.int (1 : Int32))] [(.int (1 : Int32)), (.ref am), (.int (1 : Int32)), (.ref am)])) (fun t k => XS.iconst X14.here hx rfl (hb hby d4_92) k) ?_
          refine own_pre (B := T14.setTop (mkF m 94 #[.val (.ref qa), .val (.ref wa), .val (.int cd), .val (.ref am), .val (.int (1 : Int32))] [(.int tn), (.int (1 : Int32)), (.ref am)])) (own_ld X14 hx hZ e14 V14 (j := (1 : Int32)) (v := tn) ⟨by decide, by decide⟩ rfl (g := (mkF m 93 #[.val (.ref qa), .val (.ref wa), .val (.int cd), .val (.ref am), .val (.int (1 : Int32))] [(.int (1 : Int32)), (.ref am), (.int (1 : Int32)), (.ref am)])) rfl rfl (hb hby d4_93)) ?_
          refine own_pre (B := T14.setTop (mkF m 95 #[.val (.ref qa), .val (.ref wa), .val (.int cd), .val (.ref am), .val (.int (1 : Int32))] [(.int (1 : Int32)), (.int tn), (.int (1 : Int32)), (.ref am)])) (fun t k => XS.iconst X14.here hx rfl (hb hby d4_94) k) ?_
          refine own_pre (B := T14.setTop (mkF m 96 #[.val (.ref qa), .val (.ref wa), .val (.int cd), .val (.ref am), .val (.int (1 : Int32))] [(.int (tn - (1 : Int32))), (.int (1 : Int32)), (.ref am)])) (fun t k => XS.isub X14.here hx rfl (hb hby d4_95) rfl k) ?_
          obtain ⟨T17, h17, X17, e17, W17, V17', st17⟩ := own_st X14 hx hZ e14 V14 (j := (1 : Int32)) (x := (tn - (1 : Int32))) ⟨by decide, by decide⟩ 1 rfl (Nat.le_of_ble_eq_true rfl) (g := (mkF m 96 #[.val (.ref qa), .val (.ref wa), .val (.int cd), .val (.ref am), .val (.int (1 : Int32))] [(.int (tn - (1 : Int32))), (.int (1 : Int32)), (.ref am)])) rfl rfl (hb hby d4_96)
          have V17 : Arv Z h17 am kc .int (4 : Int32) [.int (1 : Int32), .int (tn - (1 : Int32)), .int lr, .int (0 : Int32)] (.int 0) := V17'
          have F17 := own_RQ_other F_hc15 W17 hne.symm
          have N17 := Fr.snoc X17 N14 gm
          have ZH17 : n0 ≤ h17.size := by rw [W17.size]; exact ZH14
          have SZ17 : h0.size ≤ h17.size := by rw [W17.size]; exact SZ14
          refine own_pre (B := T17.setTop (mkF m 97 #[.val (.ref qa), .val (.ref wa), .val (.int cd), .val (.ref am), .val (.int (1 : Int32))] [])) st17 ?_
          refine own_pre (B := T17.setTop (mkF m 208 #[.val (.ref qa), .val (.ref wa), .val (.int cd), .val (.ref am), .val (.int (1 : Int32))] [])) (fun t k => XS.goto X17.here hx rfl (pc0 := 97) (pc' := 208) rfl (hb hby d4_97) (by decide) (by decide) k) ?_
          exact own_retV X17 hx hlk Bd.returns (hb hby d4_208) (own_at e17 ⟨rfl, N17, SZ17, true, (tn - (1 : Int32)), lr, (0 : Int32), F17, V17⟩) (by decide) (by decide)
        · skip
          refine own_pre (B := T14.setTop (mkF m 208 #[.val (.ref qa), .val (.ref wa), .val (.int cd), .val (.ref am), .val (.int (1 : Int32))] [])) (fun t k => XS.ifYes X14.here hx rfl (pc0 := 86) (pc' := 208) rfl (hb hby d4_86) rfl ((if0 _ _).trans (flt hc15).2.2.2) (by decide) (by decide) k) ?_
          have F_hc15 := F14
          rw [if_neg hc15] at F_hc15
          exact own_retV X14 hx hlk Bd.returns (hb hby d4_208) (own_at e14 ⟨rfl, N14, SZ14, true, tn, lr, (0 : Int32), F_hc15, V14⟩) (by decide) (by decide)
      · skip
        refine own_pre (B := s₁.setTop (mkF m 112 #[.val (.ref qa), .val (.ref wa), .val (.int cd), .val (.ref am), .val (.int (1 : Int32))] [])) (fun t k => XS.icmpYes X0.here hx rfl (pc0 := 66) (pc' := 112) rfl (hb hby d4_66) rfl (feq hc11).2 (by decide) (by decide) k) ?_
        refine own_pre (B := s₁.setTop (mkF m 113 #[.val (.ref qa), .val (.ref wa), .val (.int cd), .val (.ref am), .val (.int (1 : Int32))] [(.int cd)])) (fun t k => XS.iloadN X0.here hx rfl (hb hby d4_112) rfl k) ?_
        refine own_pre (B := s₁.setTop (mkF m 114 #[.val (.ref qa), .val (.ref wa), .val (.int cd), .val (.ref am), .val (.int (1 : Int32))] [(.int (2 : Int32)), (.int cd)])) (fun t k => XS.iconst X0.here hx rfl (hb hby d4_113) k) ?_
        by_cases hc20 : cd = (2 : Int32)
        · skip
          refine own_pre (B := s₁.setTop (mkF m 117 #[.val (.ref qa), .val (.ref wa), .val (.int cd), .val (.ref am), .val (.int (1 : Int32))] [])) (fun t k => XS.icmpNo X0.here hx rfl (hb hby d4_114) rfl (teq hc20).2 k) ?_
          refine own_pre (B := s₁.setTop (mkF m 118 #[.val (.ref qa), .val (.ref wa), .val (.int cd), .val (.ref am), .val (.int (1 : Int32))] [(.ref qa)])) (fun t k => XS.aloadN X0.here hx rfl (hb hby d4_117) rfl rfl k) ?_
          obtain ⟨cq22, kq22, qa22, qb22, qc22⟩ := isOf hZ e0 F0.1
          obtain ⟨_, _, ⟨T22, L22, k22, n22⟩, -, X22, ⟨Lc22, hQ22, l22, y22, z22⟩, st22⟩ := X0.virtualBack hx (y := (⟨"com/example/quillon/quillon/engine/RowQueue", "taken", "()V"⟩ : MethodName)) (z := (⟨"com/example/quillon/quillon/engine/RowQueue", "taken", "()V"⟩ : MethodName)) hown (mvT hZ (hw _ (List.mem_of_getElem? (i := 46) rfl))) (mvT hZ (hw _ (List.mem_of_getElem? (i := 47) rfl))) (notFace_of_selects (args := #[]) (mvT hZ (hw _ (List.mem_of_getElem? (i := 49) rfl)))) (mvT hZ (hw _ (List.mem_of_getElem? (i := 49) rfl))) (mvT hZ (hw _ (List.mem_of_getElem? (i := 48) rfl))) (by decide) (backOf (W := 0) (rmTt l Z a0 hw [] qa wa tn lr pz h0 n0 Z0 F0 gq) hZ (hw _ (List.mem_of_getElem? (i := 50) rfl)) (hw _ (List.mem_of_getElem? (i := 3) rfl)) (by decide) (by decide)) qa22 qc22 (g := (mkF m 118 #[.val (.ref qa), .val (.ref wa), .val (.int cd), .val (.ref am), .val (.int (1 : Int32))] [(.ref qa)])) rfl (by rw [hml]; rfl) (Steps.refl _) (argsL := []) (rest := []) (lenOf pd4_1 rfl) rfl (by show 2 * 0 + _ ≤ _; exact Nat.le_of_eq rfl) (hb hby d4_118) (fun _ _ => ⟨rfl, e0, (by decide : 0 + 0 ≤ _), (by decide : 0 + 0 ≤ _)⟩)
          dsimp only [Pt.U, Pt.locs, Pt.cells, Pt.slots] at X22 l22 y22 z22 st22 hQ22
          subst l22 y22 z22
          obtain ⟨rfl, Nq22, K22, F22⟩ := hQ22
          have N22 := Fr.app N0 Nq22
          have V22 := V0.keep K22 (ninS hne nin0)
          have ZH22 : n0 ≤ T22.heap.size := Nat.le_trans Z0 K22.1
          have SZ22 : h0.size ≤ T22.heap.size := Nat.le_trans (Nat.le_refl _) K22.1
          refine own_pre (B := T22.setTop (mkF m 121 #[.val (.ref qa), .val (.ref wa), .val (.int cd), .val (.ref am), .val (.int (1 : Int32))] [])) (fun t q => st22.trans q) ?_
          refine own_pre (B := T22.setTop (mkF m 123 #[.val (.ref qa), .val (.ref wa), .val (.int cd), .val (.ref am), .val (.int (1 : Int32))] [(.int (1 : Int32))])) (fun t k => XS.iload X22.here hx rfl (hb hby d4_121) rfl k) ?_
          refine own_pre (B := T22.setTop (mkF m 126 #[.val (.ref qa), .val (.ref wa), .val (.int cd), .val (.ref am), .val (.int (1 : Int32))] [])) (fun t k => XS.ifNo X22.here hx rfl (hb hby d4_123) rfl ((if0 _ _).trans (feq ((by decide) : ¬ ((1 : Int32) = (0 : Int32)))).1) k) ?_
          refine own_pre (B := T22.setTop (mkF m 127 #[.val (.ref qa), .val (.ref wa), .val (.int cd), .val (.ref am), .val (.int (1 : Int32))] [(.ref am)])) (fun t k => XS.aloadN X22.here hx rfl (hb hby d4_126) rfl rfl k) ?_
          refine own_pre (B := T22.setTop (mkF m 128 #[.val (.ref qa), .val (.ref wa), .val (.int cd), .val (.ref am), .val (.int (1 : Int32))] [(.int (3 : Int32)), (.ref am)])) (fun t k => XS.iconst X22.here hx rfl (hb hby d4_127) k) ?_
          refine own_pre (B := T22.setTop (mkF m 129 #[.val (.ref qa), .val (.ref wa), .val (.int cd), .val (.ref am), .val (.int (1 : Int32))] [(.int (1 : Int32)), (.int (3 : Int32)), (.ref am)])) (fun t k => XS.iconst X22.here hx rfl (hb hby d4_128) k) ?_
          obtain ⟨T23, h23, X23, e23, W23, V23', st23⟩ := own_st X22 hx hZ rfl V22 (j := (3 : Int32)) (x := (1 : Int32)) ⟨by decide, by decide⟩ 3 rfl (Nat.le_of_ble_eq_true rfl) (g := (mkF m 129 #[.val (.ref qa), .val (.ref wa), .val (.int cd), .val (.ref am), .val (.int (1 : Int32))] [(.int (1 : Int32)), (.int (3 : Int32)), (.ref am)])) rfl rfl (hb hby d4_129)
          have V23 : Arv Z h23 am kc .int (4 : Int32) [.int (1 : Int32), .int tn, .int lr, .int (1 : Int32)] (.int 0) := V23'
          have F23 := own_RQ_other F22 W23 hne.symm
          have N23 := Fr.snoc X23 N22 gm
          have ZH23 : n0 ≤ h23.size := by rw [W23.size]; exact ZH22
          have SZ23 : h0.size ≤ h23.size := by rw [W23.size]; exact SZ22
          refine own_pre (B := T23.setTop (mkF m 130 #[.val (.ref qa), .val (.ref wa), .val (.int cd), .val (.ref am), .val (.int (1 : Int32))] [])) st23 ?_
          refine own_pre (B := T23.setTop (mkF m 208 #[.val (.ref qa), .val (.ref wa), .val (.int cd), .val (.ref am), .val (.int (1 : Int32))] [])) (fun t k => XS.goto X23.here hx rfl (pc0 := 130) (pc' := 208) rfl (hb hby d4_130) (by decide) (by decide) k) ?_
          exact own_retV X23 hx hlk Bd.returns (hb hby d4_208) (own_at e23 ⟨rfl, N23, SZ23, true, tn, lr, (1 : Int32), F23, V23⟩) (by decide) (by decide)
        · skip
          refine own_pre (B := s₁.setTop (mkF m 133 #[.val (.ref qa), .val (.ref wa), .val (.int cd), .val (.ref am), .val (.int (1 : Int32))] [])) (fun t k => XS.icmpYes X0.here hx rfl (pc0 := 114) (pc' := 133) rfl (hb hby d4_114) rfl (feq hc20).2 (by decide) (by decide) k) ?_
          refine own_pre (B := s₁.setTop (mkF m 134 #[.val (.ref qa), .val (.ref wa), .val (.int cd), .val (.ref am), .val (.int (1 : Int32))] [(.int cd)])) (fun t k => XS.iloadN X0.here hx rfl (hb hby d4_133) rfl k) ?_
          refine own_pre (B := s₁.setTop (mkF m 135 #[.val (.ref qa), .val (.ref wa), .val (.int cd), .val (.ref am), .val (.int (1 : Int32))] [(.int (3 : Int32)), (.int cd)])) (fun t k => XS.iconst X0.here hx rfl (hb hby d4_134) k) ?_
          by_cases hc25 : cd = (3 : Int32)
          · skip
            refine own_pre (B := s₁.setTop (mkF m 138 #[.val (.ref qa), .val (.ref wa), .val (.int cd), .val (.ref am), .val (.int (1 : Int32))] [])) (fun t k => XS.icmpNo X0.here hx rfl (hb hby d4_135) rfl (teq hc25).2 k) ?_
            refine own_pre (B := s₁.setTop (mkF m 140 #[.val (.ref qa), .val (.ref wa), .val (.int cd), .val (.ref am), .val (.int (1 : Int32))] [(.int (1 : Int32))])) (fun t k => XS.iload X0.here hx rfl (hb hby d4_138) rfl k) ?_
            refine own_pre (B := s₁.setTop (mkF m 143 #[.val (.ref qa), .val (.ref wa), .val (.int cd), .val (.ref am), .val (.int (1 : Int32))] [])) (fun t k => XS.ifNo X0.here hx rfl (hb hby d4_140) rfl ((if0 _ _).trans (feq ((by decide) : ¬ ((1 : Int32) = (0 : Int32)))).1) k) ?_
            refine own_pre (B := s₁.setTop (mkF m 144 #[.val (.ref qa), .val (.ref wa), .val (.int cd), .val (.ref am), .val (.int (1 : Int32))] [(.ref qa)])) (fun t k => XS.aloadN X0.here hx rfl (hb hby d4_143) rfl rfl k) ?_
            refine own_pre (B := s₁.setTop (mkF m 145 #[.val (.ref qa), .val (.ref wa), .val (.int cd), .val (.ref am), .val (.int (1 : Int32))] [(.int (1 : Int32)), (.ref qa)])) (fun t k => XS.iconst X0.here hx rfl (hb hby d4_144) k) ?_
            obtain ⟨cq27, kq27, qa27, qb27, qc27⟩ := isOf hZ e0 F0.1
            obtain ⟨_, _, ⟨T27, L27, k27, n27⟩, -, X27, ⟨Lc27, hQ27, l27, y27, z27⟩, st27⟩ := X0.virtualBack hx (y := (⟨"com/example/quillon/quillon/engine/RowQueue", "firstIsBack", "(Z)V"⟩ : MethodName)) (z := (⟨"com/example/quillon/quillon/engine/RowQueue", "firstIsBack", "(Z)V"⟩ : MethodName)) hown (mvT hZ (hw _ (List.mem_of_getElem? (i := 51) rfl))) (mvT hZ (hw _ (List.mem_of_getElem? (i := 52) rfl))) (notFace_of_selects (args := #[]) (mvT hZ (hw _ (List.mem_of_getElem? (i := 54) rfl)))) (mvT hZ (hw _ (List.mem_of_getElem? (i := 54) rfl))) (mvT hZ (hw _ (List.mem_of_getElem? (i := 53) rfl))) (by decide) (backOf (W := 0) (rmBt l Z a0 hw [] qa (1 : Int32) wa true tn lr pz h0 n0 Z0 F0 gq (by decide)) hZ (hw _ (List.mem_of_getElem? (i := 55) rfl)) (hw _ (List.mem_of_getElem? (i := 3) rfl)) (by decide) (by decide)) qa27 qc27 (g := (mkF m 145 #[.val (.ref qa), .val (.ref wa), .val (.int cd), .val (.ref am), .val (.int (1 : Int32))] [(.int (1 : Int32)), (.ref qa)])) rfl (by rw [hml]; rfl) (Steps.refl _) (argsL := [(.int (1 : Int32))]) (rest := []) (lenOf pd4_2 rfl) rfl (by show 2 * 0 + _ ≤ _; exact Nat.le_of_eq rfl) (hb hby d4_145) (fun _ _ => ⟨rfl, e0, (by decide : 0 + 0 ≤ _), (by decide : 0 + 0 ≤ _)⟩)
            dsimp only [Pt.U, Pt.locs, Pt.cells, Pt.slots] at X27 l27 y27 z27 st27 hQ27
            subst l27 y27 z27
            obtain ⟨rfl, Nq27, K27, F27⟩ := hQ27
            have N27 := Fr.app N0 Nq27
            have V27 := V0.keep K27 (ninS hne nin0)
            have ZH27 : n0 ≤ T27.heap.size := Nat.le_trans Z0 K27.1
            have SZ27 : h0.size ≤ T27.heap.size := Nat.le_trans (Nat.le_refl _) K27.1
            refine own_pre (B := T27.setTop (mkF m 148 #[.val (.ref qa), .val (.ref wa), .val (.int cd), .val (.ref am), .val (.int (1 : Int32))] [])) (fun t q => st27.trans q) ?_
            refine own_pre (B := T27.setTop (mkF m 149 #[.val (.ref qa), .val (.ref wa), .val (.int cd), .val (.ref am), .val (.int (1 : Int32))] [(.ref am)])) (fun t k => XS.aloadN X27.here hx rfl (hb hby d4_148) rfl rfl k) ?_
            refine own_pre (B := T27.setTop (mkF m 150 #[.val (.ref qa), .val (.ref wa), .val (.int cd), .val (.ref am), .val (.int (1 : Int32))] [(.int (2 : Int32)), (.ref am)])) (fun t k => XS.iconst X27.here hx rfl (hb hby d4_149) k) ?_
            refine own_pre (B := T27.setTop (mkF m 151 #[.val (.ref qa), .val (.ref wa), .val (.int cd), .val (.ref am), .val (.int (1 : Int32))] [(.int (1 : Int32)), (.int (2 : Int32)), (.ref am)])) (fun t k => XS.iconst X27.here hx rfl (hb hby d4_150) k) ?_
            refine own_pre (B := T27.setTop (mkF m 152 #[.val (.ref qa), .val (.ref wa), .val (.int cd), .val (.ref am), .val (.int (1 : Int32))] [(.int (2 : Int32)), (.int (1 : Int32)), (.int (2 : Int32)), (.ref am)])) (fun t k => XS.iconst X27.here hx rfl (hb hby d4_151) k) ?_
            refine own_pre (B := T27.setTop (mkF m 153 #[.val (.ref qa), .val (.ref wa), .val (.int cd), .val (.ref am), .val (.int (1 : Int32))] [(.ref am), (.int (2 : Int32)), (.int (1 : Int32)), (.int (2 : Int32)), (.ref am)])) (fun t k => XS.aloadN X27.here hx rfl (hb hby d4_152) rfl rfl k) ?_
            refine own_pre (B := T27.setTop (mkF m 154 #[.val (.ref qa), .val (.ref wa), .val (.int cd), .val (.ref am), .val (.int (1 : Int32))] [(.int (2 : Int32)), (.ref am), (.int (2 : Int32)), (.int (1 : Int32)), (.int (2 : Int32)), (.ref am)])) (fun t k => XS.iconst X27.here hx rfl (hb hby d4_153) k) ?_
            refine own_pre (B := T27.setTop (mkF m 155 #[.val (.ref qa), .val (.ref wa), .val (.int cd), .val (.ref am), .val (.int (1 : Int32))] [(.int lr), (.int (2 : Int32)), (.int (1 : Int32)), (.int (2 : Int32)), (.ref am)])) (own_ld X27 hx hZ rfl V27 (j := (2 : Int32)) (v := lr) ⟨by decide, by decide⟩ rfl (g := (mkF m 154 #[.val (.ref qa), .val (.ref wa), .val (.int cd), .val (.ref am), .val (.int (1 : Int32))] [(.int (2 : Int32)), (.ref am), (.int (2 : Int32)), (.int (1 : Int32)), (.int (2 : Int32)), (.ref am)])) rfl rfl (hb hby d4_154)) ?_
            refine own_pre (B := T27.setTop (mkF m 156 #[.val (.ref qa), .val (.ref wa), .val (.int cd), .val (.ref am), .val (.int (1 : Int32))] [(.int ((2 : Int32) * lr)), (.int (1 : Int32)), (.int (2 : Int32)), (.ref am)])) (fun t k => XS.imul X27.here hx rfl (hb hby d4_155) rfl k) ?_
            obtain ⟨_, _, ⟨T28, L28, k28, n28⟩, -, X28, ⟨Lc28, hQ28, l28, y28, z28⟩, st28⟩ := Jvm.LawKit.callS X27 hx (y := (⟨"java/lang/Math", "max", "(II)I"⟩ : MethodName)) hown (mvT hZ (hw _ (List.mem_of_getElem? (i := 63) rfl))) (mvT hZ (hw _ (List.mem_of_getElem? (i := 57) rfl))) (mvT hZ (hw _ (List.mem_of_getElem? (i := 58) rfl))) (mvT hZ (hw _ (List.mem_of_getElem? (i := 59) rfl))) (by decide) (backOf (W := 2) (rm10 l Z a0 hw [] (1 : Int32) ((2 : Int32) * lr) T27.heap n0 ZH27) hZ (hw _ (List.mem_of_getElem? (i := 59) rfl)) (hw _ (List.mem_of_getElem? (i := 58) rfl)) (by decide) (by decide)) (g := (mkF m 156 #[.val (.ref qa), .val (.ref wa), .val (.int cd), .val (.ref am), .val (.int (1 : Int32))] [(.int ((2 : Int32) * lr)), (.int (1 : Int32)), (.int (2 : Int32)), (.ref am)])) rfl (by rw [hml]; rfl) (argsL := [(.int (1 : Int32)), (.int ((2 : Int32) * lr))]) (rest := [(.int (2 : Int32)), (.ref am)]) (lenOf pd4_3 rfl) rfl (by show 2 * 0 + _ ≤ _; exact Nat.le_of_eq rfl) (hb hby d4_156) (fun _ _ => ⟨rfl, rfl, (by decide : 0 + 0 ≤ _), (by decide : 0 + 0 ≤ _)⟩)
            dsimp only [Pt.U, Pt.locs, Pt.cells, Pt.slots] at X28 l28 y28 z28 st28 hQ28
            subst l28 y28 z28
            obtain ⟨rfl, Nq28, e28⟩ := hQ28
            have N28 := Fr.app N27 Nq28
            refine own_pre (B := T28.setTop (mkF m 159 #[.val (.ref qa), .val (.ref wa), .val (.int cd), .val (.ref am), .val (.int (1 : Int32))] [(.int (f10_0 (1 : Int32) ((2 : Int32) * lr))), (.int (2 : Int32)), (.ref am)])) st28 ?_
            refine own_pre (B := T28.setTop (mkF m 162 #[.val (.ref qa), .val (.ref wa), .val (.int cd), .val (.ref am), .val (.int (1 : Int32))] [(.int (1024 : Int32)), (.int (f10_0 (1 : Int32) ((2 : Int32) * lr))), (.int (2 : Int32)), (.ref am)])) (fun t k => XS.sipush X28.here hx rfl (hb hby d4_159) k) ?_
            obtain ⟨_, _, ⟨T29, L29, k29, n29⟩, -, X29, ⟨Lc29, hQ29, l29, y29, z29⟩, st29⟩ := Jvm.LawKit.callS X28 hx (y := (⟨"java/lang/Math", "min", "(II)I"⟩ : MethodName)) hown (mvT hZ (hw _ (List.mem_of_getElem? (i := 64) rfl))) (mvT hZ (hw _ (List.mem_of_getElem? (i := 61) rfl))) (mvT hZ (hw _ (List.mem_of_getElem? (i := 58) rfl))) (mvT hZ (hw _ (List.mem_of_getElem? (i := 62) rfl))) (by decide) (backOf (W := 2) (rm11 l Z a0 hw [] (f10_0 (1 : Int32) ((2 : Int32) * lr)) (1024 : Int32) T27.heap n0 ZH27) hZ (hw _ (List.mem_of_getElem? (i := 62) rfl)) (hw _ (List.mem_of_getElem? (i := 58) rfl)) (by decide) (by decide)) (g := (mkF m 162 #[.val (.ref qa), .val (.ref wa), .val (.int cd), .val (.ref am), .val (.int (1 : Int32))] [(.int (1024 : Int32)), (.int (f10_0 (1 : Int32) ((2 : Int32) * lr))), (.int (2 : Int32)), (.ref am)])) rfl (by rw [hml]; rfl) (argsL := [(.int (f10_0 (1 : Int32) ((2 : Int32) * lr))), (.int (1024 : Int32))]) (rest := [(.int (2 : Int32)), (.ref am)]) (lenOf pd4_3 rfl) rfl (by show 2 * 0 + _ ≤ _; exact Nat.le_of_eq rfl) (hb hby d4_162) (fun _ _ => ⟨rfl, e28, (by decide : 0 + 0 ≤ _), (by decide : 0 + 0 ≤ _)⟩)
            dsimp only [Pt.U, Pt.locs, Pt.cells, Pt.slots] at X29 l29 y29 z29 st29 hQ29
            subst l29 y29 z29
            obtain ⟨rfl, Nq29, e29⟩ := hQ29
            have N29 := Fr.app N28 Nq29
            refine own_pre (B := T29.setTop (mkF m 165 #[.val (.ref qa), .val (.ref wa), .val (.int cd), .val (.ref am), .val (.int (1 : Int32))] [(.int (f11_0 (f10_0 (1 : Int32) ((2 : Int32) * lr)) (1024 : Int32))), (.int (2 : Int32)), (.ref am)])) st29 ?_
            obtain ⟨T30, h30, X30, e30, W30, V30', st30⟩ := own_st X29 hx hZ e29 V27 (j := (2 : Int32)) (x := (f11_0 (f10_0 (1 : Int32) ((2 : Int32) * lr)) (1024 : Int32))) ⟨by decide, by decide⟩ 2 rfl (Nat.le_of_ble_eq_true rfl) (g := (mkF m 165 #[.val (.ref qa), .val (.ref wa), .val (.int cd), .val (.ref am), .val (.int (1 : Int32))] [(.int (f11_0 (f10_0 (1 : Int32) ((2 : Int32) * lr)) (1024 : Int32))), (.int (2 : Int32)), (.ref am)])) rfl rfl (hb hby d4_165)
            have V30 : Arv Z h30 am kc .int (4 : Int32) [.int (1 : Int32), .int tn, .int (f11_0 (f10_0 (1 : Int32) ((2 : Int32) * lr)) (1024 : Int32)), .int pz] (.int 0) := V30'
            have F30 := own_RQ_other F27 W30 hne.symm
            have N30 := Fr.snoc X30 N29 gm
            have ZH30 : n0 ≤ h30.size := by rw [W30.size]; exact ZH27
            have SZ30 : h0.size ≤ h30.size := by rw [W30.size]; exact SZ27
            refine own_pre (B := T30.setTop (mkF m 166 #[.val (.ref qa), .val (.ref wa), .val (.int cd), .val (.ref am), .val (.int (1 : Int32))] [])) st30 ?_
            refine own_pre (B := T30.setTop (mkF m 167 #[.val (.ref qa), .val (.ref wa), .val (.int cd), .val (.ref am), .val (.int (1 : Int32))] [(.ref am)])) (fun t k => XS.aloadN X30.here hx rfl (hb hby d4_166) rfl rfl k) ?_
            refine own_pre (B := T30.setTop (mkF m 168 #[.val (.ref qa), .val (.ref wa), .val (.int cd), .val (.ref am), .val (.int (1 : Int32))] [(.int (1 : Int32)), (.ref am)])) (fun t k => XS.iconst X30.here hx rfl (hb hby d4_167) k) ?_
            refine own_pre (B := T30.setTop (mkF m 169 #[.val (.ref qa), .val (.ref wa), .val (.int cd), .val (.ref am), .val (.int (1 : Int32))] [(.ref am), (.int (1 : Int32)), (.ref am)])) (fun t k => XS.aloadN X30.here hx rfl (hb hby d4_168) rfl rfl k) ?_
            refine own_pre (B := T30.setTop (mkF m 170 #[.val (.ref qa), .val (.ref wa), .val (.int cd), .val (.ref am), .val (.int (1 : Int32))] [(.int (2 : Int32)), (.ref am), (.int (1 : Int32)), (.ref am)])) (fun t k => XS.iconst X30.here hx rfl (hb hby d4_169) k) ?_
            refine own_pre (B := T30.setTop (mkF m 171 #[.val (.ref qa), .val (.ref wa), .val (.int cd), .val (.ref am), .val (.int (1 : Int32))] [(.int (f11_0 (f10_0 (1 : Int32) ((2 : Int32) * lr)) (1024 : Int32))), (.int (1 : Int32)), (.ref am)])) (own_ld X30 hx hZ e30 V30 (j := (2 : Int32)) (v := (f11_0 (f10_0 (1 : Int32) ((2 : Int32) * lr)) (1024 : Int32))) ⟨by decide, by decide⟩ rfl (g := (mkF m 170 #[.val (.ref qa), .val (.ref wa), .val (.int cd), .val (.ref am), .val (.int (1 : Int32))] [(.int (2 : Int32)), (.ref am), (.int (1 : Int32)), (.ref am)])) rfl rfl (hb hby d4_170)) ?_
            obtain ⟨T31, h31, X31, e31, W31, V31', st31⟩ := own_st X30 hx hZ e30 V30 (j := (1 : Int32)) (x := (f11_0 (f10_0 (1 : Int32) ((2 : Int32) * lr)) (1024 : Int32))) ⟨by decide, by decide⟩ 1 rfl (Nat.le_of_ble_eq_true rfl) (g := (mkF m 171 #[.val (.ref qa), .val (.ref wa), .val (.int cd), .val (.ref am), .val (.int (1 : Int32))] [(.int (f11_0 (f10_0 (1 : Int32) ((2 : Int32) * lr)) (1024 : Int32))), (.int (1 : Int32)), (.ref am)])) rfl rfl (hb hby d4_171)
            have V31 : Arv Z h31 am kc .int (4 : Int32) [.int (1 : Int32), .int (f11_0 (f10_0 (1 : Int32) ((2 : Int32) * lr)) (1024 : Int32)), .int (f11_0 (f10_0 (1 : Int32) ((2 : Int32) * lr)) (1024 : Int32)), .int pz] (.int 0) := V31'
            have F31 := own_RQ_other F30 W31 hne.symm
            have N31 := Fr.snoc X31 N30 gm
            have ZH31 : n0 ≤ h31.size := by rw [W31.size]; exact ZH30
            have SZ31 : h0.size ≤ h31.size := by rw [W31.size]; exact SZ30
            refine own_pre (B := T31.setTop (mkF m 172 #[.val (.ref qa), .val (.ref wa), .val (.int cd), .val (.ref am), .val (.int (1 : Int32))] [])) st31 ?_
            refine own_pre (B := T31.setTop (mkF m 173 #[.val (.ref qa), .val (.ref wa), .val (.int cd), .val (.ref am), .val (.int (1 : Int32))] [(.ref am)])) (fun t k => XS.aloadN X31.here hx rfl (hb hby d4_172) rfl rfl k) ?_
            refine own_pre (B := T31.setTop (mkF m 174 #[.val (.ref qa), .val (.ref wa), .val (.int cd), .val (.ref am), .val (.int (1 : Int32))] [(.int (3 : Int32)), (.ref am)])) (fun t k => XS.iconst X31.here hx rfl (hb hby d4_173) k) ?_
            refine own_pre (B := T31.setTop (mkF m 175 #[.val (.ref qa), .val (.ref wa), .val (.int cd), .val (.ref am), .val (.int (1 : Int32))] [(.int (0 : Int32)), (.int (3 : Int32)), (.ref am)])) (fun t k => XS.iconst X31.here hx rfl (hb hby d4_174) k) ?_
            obtain ⟨T32, h32, X32, e32, W32, V32', st32⟩ := own_st X31 hx hZ e31 V31 (j := (3 : Int32)) (x := (0 : Int32)) ⟨by decide, by decide⟩ 3 rfl (Nat.le_of_ble_eq_true rfl) (g := (mkF m 175 #[.val (.ref qa), .val (.ref wa), .val (.int cd), .val (.ref am), .val (.int (1 : Int32))] [(.int (0 : Int32)), (.int (3 : Int32)), (.ref am)])) rfl rfl (hb hby d4_175)
            have V32 : Arv Z h32 am kc .int (4 : Int32) [.int (1 : Int32), .int (f11_0 (f10_0 (1 : Int32) ((2 : Int32) * lr)) (1024 : Int32)), .int (f11_0 (f10_0 (1 : Int32) ((2 : Int32) * lr)) (1024 : Int32)), .int (0 : Int32)] (.int 0) := V32'
            have F32 := own_RQ_other F31 W32 hne.symm
            have N32 := Fr.snoc X32 N31 gm
            have ZH32 : n0 ≤ h32.size := by rw [W32.size]; exact ZH31
            have SZ32 : h0.size ≤ h32.size := by rw [W32.size]; exact SZ31
            refine own_pre (B := T32.setTop (mkF m 176 #[.val (.ref qa), .val (.ref wa), .val (.int cd), .val (.ref am), .val (.int (1 : Int32))] [])) st32 ?_
            refine own_pre (B := T32.setTop (mkF m 208 #[.val (.ref qa), .val (.ref wa), .val (.int cd), .val (.ref am), .val (.int (1 : Int32))] [])) (fun t k => XS.goto X32.here hx rfl (pc0 := 176) (pc' := 208) rfl (hb hby d4_176) (by decide) (by decide) k) ?_
            exact own_retV X32 hx hlk Bd.returns (hb hby d4_208) (own_at e32 ⟨rfl, N32, SZ32, true, (f11_0 (f10_0 (1 : Int32) ((2 : Int32) * lr)) (1024 : Int32)), (f11_0 (f10_0 (1 : Int32) ((2 : Int32) * lr)) (1024 : Int32)), (0 : Int32), F32, V32⟩) (by decide) (by decide)
          · skip
            refine own_pre (B := s₁.setTop (mkF m 179 #[.val (.ref qa), .val (.ref wa), .val (.int cd), .val (.ref am), .val (.int (1 : Int32))] [])) (fun t k => XS.icmpYes X0.here hx rfl (pc0 := 135) (pc' := 179) rfl (hb hby d4_135) rfl (feq hc25).2 (by decide) (by decide) k) ?_
            refine own_pre (B := s₁.setTop (mkF m 180 #[.val (.ref qa), .val (.ref wa), .val (.int cd), .val (.ref am), .val (.int (1 : Int32))] [(.int cd)])) (fun t k => XS.iloadN X0.here hx rfl (hb hby d4_179) rfl k) ?_
            refine own_pre (B := s₁.setTop (mkF m 181 #[.val (.ref qa), .val (.ref wa), .val (.int cd), .val (.ref am), .val (.int (1 : Int32))] [(.int (4 : Int32)), (.int cd)])) (fun t k => XS.iconst X0.here hx rfl (hb hby d4_180) k) ?_
            by_cases hc34 : cd = (4 : Int32)
            · skip
              refine own_pre (B := s₁.setTop (mkF m 184 #[.val (.ref qa), .val (.ref wa), .val (.int cd), .val (.ref am), .val (.int (1 : Int32))] [])) (fun t k => XS.icmpNo X0.here hx rfl (hb hby d4_181) rfl (teq hc34).2 k) ?_
              refine own_pre (B := s₁.setTop (mkF m 186 #[.val (.ref qa), .val (.ref wa), .val (.int cd), .val (.ref am), .val (.int (1 : Int32))] [(.int (1 : Int32))])) (fun t k => XS.iload X0.here hx rfl (hb hby d4_184) rfl k) ?_
              refine own_pre (B := s₁.setTop (mkF m 189 #[.val (.ref qa), .val (.ref wa), .val (.int cd), .val (.ref am), .val (.int (1 : Int32))] [])) (fun t k => XS.ifNo X0.here hx rfl (hb hby d4_186) rfl ((if0 _ _).trans (feq ((by decide) : ¬ ((1 : Int32) = (0 : Int32)))).1) k) ?_
              refine own_pre (B := s₁.setTop (mkF m 190 #[.val (.ref qa), .val (.ref wa), .val (.int cd), .val (.ref am), .val (.int (1 : Int32))] [(.ref qa)])) (fun t k => XS.aloadN X0.here hx rfl (hb hby d4_189) rfl rfl k) ?_
              refine own_pre (B := s₁.setTop (mkF m 191 #[.val (.ref qa), .val (.ref wa), .val (.int cd), .val (.ref am), .val (.int (1 : Int32))] [(.int (0 : Int32)), (.ref qa)])) (fun t k => XS.iconst X0.here hx rfl (hb hby d4_190) k) ?_
              obtain ⟨cq36, kq36, qa36, qb36, qc36⟩ := isOf hZ e0 F0.1
              obtain ⟨_, _, ⟨T36, L36, k36, n36⟩, -, X36, ⟨Lc36, hQ36, l36, y36, z36⟩, st36⟩ := X0.virtualBack hx (y := (⟨"com/example/quillon/quillon/engine/RowQueue", "firstIsBack", "(Z)V"⟩ : MethodName)) (z := (⟨"com/example/quillon/quillon/engine/RowQueue", "firstIsBack", "(Z)V"⟩ : MethodName)) hown (mvT hZ (hw _ (List.mem_of_getElem? (i := 51) rfl))) (mvT hZ (hw _ (List.mem_of_getElem? (i := 52) rfl))) (notFace_of_selects (args := #[]) (mvT hZ (hw _ (List.mem_of_getElem? (i := 54) rfl)))) (mvT hZ (hw _ (List.mem_of_getElem? (i := 54) rfl))) (mvT hZ (hw _ (List.mem_of_getElem? (i := 53) rfl))) (by decide) (backOf (W := 0) (rmBf l Z a0 hw [] qa (0 : Int32) wa true tn lr pz h0 n0 Z0 F0 gq rfl) hZ (hw _ (List.mem_of_getElem? (i := 55) rfl)) (hw _ (List.mem_of_getElem? (i := 3) rfl)) (by decide) (by decide)) qa36 qc36 (g := (mkF m 191 #[.val (.ref qa), .val (.ref wa), .val (.int cd), .val (.ref am), .val (.int (1 : Int32))] [(.int (0 : Int32)), (.ref qa)])) rfl (by rw [hml]; rfl) (Steps.refl _) (argsL := [(.int (0 : Int32))]) (rest := []) (lenOf pd4_2 rfl) rfl (by show 2 * 0 + _ ≤ _; exact Nat.le_of_eq rfl) (hb hby d4_191) (fun _ _ => ⟨rfl, e0, (by decide : 0 + 0 ≤ _), (by decide : 0 + 0 ≤ _)⟩)
              dsimp only [Pt.U, Pt.locs, Pt.cells, Pt.slots] at X36 l36 y36 z36 st36 hQ36
              subst l36 y36 z36
              obtain ⟨rfl, Nq36, K36, F36⟩ := hQ36
              have N36 := Fr.app N0 Nq36
              have V36 := V0.keep K36 (ninS hne nin0)
              have ZH36 : n0 ≤ T36.heap.size := Nat.le_trans Z0 K36.1
              have SZ36 : h0.size ≤ T36.heap.size := Nat.le_trans (Nat.le_refl _) K36.1
              refine own_pre (B := T36.setTop (mkF m 194 #[.val (.ref qa), .val (.ref wa), .val (.int cd), .val (.ref am), .val (.int (1 : Int32))] [])) (fun t q => st36.trans q) ?_
              refine own_pre (B := T36.setTop (mkF m 195 #[.val (.ref qa), .val (.ref wa), .val (.int cd), .val (.ref am), .val (.int (1 : Int32))] [(.ref am)])) (fun t k => XS.aloadN X36.here hx rfl (hb hby d4_194) rfl rfl k) ?_
              refine own_pre (B := T36.setTop (mkF m 196 #[.val (.ref qa), .val (.ref wa), .val (.int cd), .val (.ref am), .val (.int (1 : Int32))] [(.int (3 : Int32)), (.ref am)])) (fun t k => XS.iconst X36.here hx rfl (hb hby d4_195) k) ?_
              refine own_pre (B := T36.setTop (mkF m 197 #[.val (.ref qa), .val (.ref wa), .val (.int cd), .val (.ref am), .val (.int (1 : Int32))] [(.int pz)])) (own_ld X36 hx hZ rfl V36 (j := (3 : Int32)) (v := pz) ⟨by decide, by decide⟩ rfl (g := (mkF m 196 #[.val (.ref qa), .val (.ref wa), .val (.int cd), .val (.ref am), .val (.int (1 : Int32))] [(.int (3 : Int32)), (.ref am)])) rfl rfl (hb hby d4_196)) ?_
              by_cases hc37 : pz = (0 : Int32)
              · skip
                refine own_pre (B := T36.setTop (mkF m 204 #[.val (.ref qa), .val (.ref wa), .val (.int cd), .val (.ref am), .val (.int (1 : Int32))] [])) (fun t k => XS.ifYes X36.here hx rfl (pc0 := 197) (pc' := 204) rfl (hb hby d4_197) rfl ((if0 _ _).trans (teq hc37).1) (by decide) (by decide) k) ?_
                have F_hc37 := F36
                rw [if_pos hc37] at F_hc37
                refine own_pre (B := T36.setTop (mkF m 205 #[.val (.ref qa), .val (.ref wa), .val (.int cd), .val (.ref am), .val (.int (1 : Int32))] [(.ref am)])) (fun t k => XS.aloadN X36.here hx rfl (hb hby d4_204) rfl rfl k) ?_
                refine own_pre (B := T36.setTop (mkF m 206 #[.val (.ref qa), .val (.ref wa), .val (.int cd), .val (.ref am), .val (.int (1 : Int32))] [(.int (3 : Int32)), (.ref am)])) (fun t k => XS.iconst X36.here hx rfl (hb hby d4_205) k) ?_
                refine own_pre (B := T36.setTop (mkF m 207 #[.val (.ref qa), .val (.ref wa), .val (.int cd), .val (.ref am), .val (.int (1 : Int32))] [(.int (0 : Int32)), (.int (3 : Int32)), (.ref am)])) (fun t k => XS.iconst X36.here hx rfl (hb hby d4_206) k) ?_
                obtain ⟨T39, h39, X39, e39, W39, V39', st39⟩ := own_st X36 hx hZ rfl V36 (j := (3 : Int32)) (x := (0 : Int32)) ⟨by decide, by decide⟩ 3 rfl (Nat.le_of_ble_eq_true rfl) (g := (mkF m 207 #[.val (.ref qa), .val (.ref wa), .val (.int cd), .val (.ref am), .val (.int (1 : Int32))] [(.int (0 : Int32)), (.int (3 : Int32)), (.ref am)])) rfl rfl (hb hby d4_207)
                have V39 : Arv Z h39 am kc .int (4 : Int32) [.int (1 : Int32), .int tn, .int lr, .int (0 : Int32)] (.int 0) := V39'
                have F39 := own_RQ_other F_hc37 W39 hne.symm
                have N39 := Fr.snoc X39 N36 gm
                have ZH39 : n0 ≤ h39.size := by rw [W39.size]; exact ZH36
                have SZ39 : h0.size ≤ h39.size := by rw [W39.size]; exact SZ36
                refine own_pre (B := T39.setTop (mkF m 208 #[.val (.ref qa), .val (.ref wa), .val (.int cd), .val (.ref am), .val (.int (1 : Int32))] [])) st39 ?_
                exact own_retV X39 hx hlk Bd.returns (hb hby d4_208) (own_at e39 ⟨rfl, N39, SZ39, true, tn, lr, (0 : Int32), F39, V39⟩) (by decide) (by decide)
              · skip
                refine own_pre (B := T36.setTop (mkF m 200 #[.val (.ref qa), .val (.ref wa), .val (.int cd), .val (.ref am), .val (.int (1 : Int32))] [])) (fun t k => XS.ifNo X36.here hx rfl (hb hby d4_197) rfl ((if0 _ _).trans (feq hc37).1) k) ?_
                have F_hc37 := F36
                rw [if_neg hc37] at F_hc37
                refine own_pre (B := T36.setTop (mkF m 201 #[.val (.ref qa), .val (.ref wa), .val (.int cd), .val (.ref am), .val (.int (1 : Int32))] [(.ref am)])) (fun t k => XS.aloadN X36.here hx rfl (hb hby d4_200) rfl rfl k) ?_
                refine own_pre (B := T36.setTop (mkF m 202 #[.val (.ref qa), .val (.ref wa), .val (.int cd), .val (.ref am), .val (.int (1 : Int32))] [(.int (2 : Int32)), (.ref am)])) (fun t k => XS.iconst X36.here hx rfl (hb hby d4_201) k) ?_
                refine own_pre (B := T36.setTop (mkF m 203 #[.val (.ref qa), .val (.ref wa), .val (.int cd), .val (.ref am), .val (.int (1 : Int32))] [(.int (0 : Int32)), (.int (2 : Int32)), (.ref am)])) (fun t k => XS.iconst X36.here hx rfl (hb hby d4_202) k) ?_
                obtain ⟨T41, h41, X41, e41, W41, V41', st41⟩ := own_st X36 hx hZ rfl V36 (j := (2 : Int32)) (x := (0 : Int32)) ⟨by decide, by decide⟩ 2 rfl (Nat.le_of_ble_eq_true rfl) (g := (mkF m 203 #[.val (.ref qa), .val (.ref wa), .val (.int cd), .val (.ref am), .val (.int (1 : Int32))] [(.int (0 : Int32)), (.int (2 : Int32)), (.ref am)])) rfl rfl (hb hby d4_203)
                have V41 : Arv Z h41 am kc .int (4 : Int32) [.int (1 : Int32), .int tn, .int (0 : Int32), .int pz] (.int 0) := V41'
                have F41 := own_RQ_other F_hc37 W41 hne.symm
                have N41 := Fr.snoc X41 N36 gm
                have ZH41 : n0 ≤ h41.size := by rw [W41.size]; exact ZH36
                have SZ41 : h0.size ≤ h41.size := by rw [W41.size]; exact SZ36
                refine own_pre (B := T41.setTop (mkF m 204 #[.val (.ref qa), .val (.ref wa), .val (.int cd), .val (.ref am), .val (.int (1 : Int32))] [])) st41 ?_
                refine own_pre (B := T41.setTop (mkF m 205 #[.val (.ref qa), .val (.ref wa), .val (.int cd), .val (.ref am), .val (.int (1 : Int32))] [(.ref am)])) (fun t k => XS.aloadN X41.here hx rfl (hb hby d4_204) rfl rfl k) ?_
                refine own_pre (B := T41.setTop (mkF m 206 #[.val (.ref qa), .val (.ref wa), .val (.int cd), .val (.ref am), .val (.int (1 : Int32))] [(.int (3 : Int32)), (.ref am)])) (fun t k => XS.iconst X41.here hx rfl (hb hby d4_205) k) ?_
                refine own_pre (B := T41.setTop (mkF m 207 #[.val (.ref qa), .val (.ref wa), .val (.int cd), .val (.ref am), .val (.int (1 : Int32))] [(.int (0 : Int32)), (.int (3 : Int32)), (.ref am)])) (fun t k => XS.iconst X41.here hx rfl (hb hby d4_206) k) ?_
                obtain ⟨T42, h42, X42, e42, W42, V42', st42⟩ := own_st X41 hx hZ e41 V41 (j := (3 : Int32)) (x := (0 : Int32)) ⟨by decide, by decide⟩ 3 rfl (Nat.le_of_ble_eq_true rfl) (g := (mkF m 207 #[.val (.ref qa), .val (.ref wa), .val (.int cd), .val (.ref am), .val (.int (1 : Int32))] [(.int (0 : Int32)), (.int (3 : Int32)), (.ref am)])) rfl rfl (hb hby d4_207)
                have V42 : Arv Z h42 am kc .int (4 : Int32) [.int (1 : Int32), .int tn, .int (0 : Int32), .int (0 : Int32)] (.int 0) := V42'
                have F42 := own_RQ_other F41 W42 hne.symm
                have N42 := Fr.snoc X42 N41 gm
                have ZH42 : n0 ≤ h42.size := by rw [W42.size]; exact ZH41
                have SZ42 : h0.size ≤ h42.size := by rw [W42.size]; exact SZ41
                refine own_pre (B := T42.setTop (mkF m 208 #[.val (.ref qa), .val (.ref wa), .val (.int cd), .val (.ref am), .val (.int (1 : Int32))] [])) st42 ?_
                exact own_retV X42 hx hlk Bd.returns (hb hby d4_208) (own_at e42 ⟨rfl, N42, SZ42, true, tn, (0 : Int32), (0 : Int32), F42, V42⟩) (by decide) (by decide)
            · skip
              refine own_pre (B := s₁.setTop (mkF m 208 #[.val (.ref qa), .val (.ref wa), .val (.int cd), .val (.ref am), .val (.int (1 : Int32))] [])) (fun t k => XS.icmpYes X0.here hx rfl (pc0 := 181) (pc' := 208) rfl (hb hby d4_181) rfl (feq hc34).2 (by decide) (by decide) k) ?_
              exact own_retV X0 hx hlk Bd.returns (hb hby d4_208) (own_at e0 ⟨rfl, N0, (Nat.le_refl _), true, tn, lr, pz, F0, V0⟩) (by decide) (by decide)
  exact own_pre pre0 g_0
theorem d4_10 : decode method_2_code 10 = .ok (.iconst 0, 1) := by decide +kernel
theorem d4_52 : decode method_2_code 52 = .ok (.aload_n 0, 1) := by decide +kernel
theorem d4_53 : decode method_2_code 53 = .ok (.aload_n 1, 1) := by decide +kernel
theorem d4_54 : decode method_2_code 54 = .ok (.invokevirtual 13, 3) := by decide +kernel
theorem d4_57 : decode method_2_code 57 = .ok (.aload_n 3, 1) := by decide +kernel
theorem d4_58 : decode method_2_code 58 = .ok (.iconst 0, 1) := by decide +kernel
theorem d4_59 : decode method_2_code 59 = .ok (.iconst 1, 1) := by decide +kernel
theorem d4_60 : decode method_2_code 60 = .ok (.iastore, 1) := by decide +kernel
theorem d4_61 : decode method_2_code 61 = .ok (.goto 147, 3) := by decide +kernel
theorem d4_100 : decode method_2_code 100 = .ok (.aload_n 0, 1) := by decide +kernel
theorem d4_101 : decode method_2_code 101 = .ok (.aload_n 1, 1) := by decide +kernel
theorem d4_102 : decode method_2_code 102 = .ok (.invokevirtual 13, 3) := by decide +kernel
theorem d4_105 : decode method_2_code 105 = .ok (.aload_n 3, 1) := by decide +kernel
theorem d4_106 : decode method_2_code 106 = .ok (.iconst 0, 1) := by decide +kernel
theorem d4_107 : decode method_2_code 107 = .ok (.iconst 1, 1) := by decide +kernel
theorem d4_108 : decode method_2_code 108 = .ok (.iastore, 1) := by decide +kernel
theorem d4_109 : decode method_2_code 109 = .ok (.goto 99, 3) := by decide +kernel
theorem ef_Of (m : MethodId) (qa : Addr) (wa : Addr) (cd : Int32) (am : Addr) : entryFrame m #[(.ref qa), (.ref wa), (.int cd), (.ref am)] 5 = mkF m 0 #[.val (.ref qa), .val (.ref wa), .val (.int cd), .val (.ref am), .unset] [] := by first | (simp [entryFrame, mkF, argsToLocals, Value.category]; done) | rfl
def QOf (Z : State) (qa : Addr) (wa : Addr) (cd : Int32) (am : Addr) (kc : ClassId) (tn : Int32) (lr : Int32) (pz : Int32) (h0 : Heap) (n0 : Nat) (v : Option Value) (h : Heap) (L : List Loc) : Prop := v = none ∧ Fr n0 L ∧ h0.size ≤ h.size ∧ ∃ (b' : Bool) (tn' lr' pz' : Int32), own_RQ Z h qa wa b' tn' lr' pz' ∧ Arv Z h am kc .int (4 : Int32) [.int (own_e b'), .int tn', .int lr', .int pz'] (.int 0)
set_option maxRecDepth 65536 in
set_option maxHeartbeats 40000000 in
theorem rmOf (l : Launch) (Z : State) (a0 : Array Value) (hw : ∀ d ∈ tables_1, d.before a0 Z = true) (ws : List Jvm.Cond) (qa : Addr) (wa : Addr) (cd : Int32) (am : Addr) (kc : ClassId) (tn : Int32) (lr : Int32) (pz : Int32) (h0 : Heap) (n0 : Nat) (Z0 : n0 ≤ h0.size) (F0 : own_RQ Z h0 qa wa false tn lr pz) (V0 : Arv Z h0 am kc .int (4 : Int32) [.int (own_e false), .int tn, .int lr, .int pz] (.int 0)) (hne : am ≠ qa) (gq : n0 ≤ qa) (gm : n0 ≤ am) :
    MetFree l (⟨"com/example/quillon/quillon/engine/RowQueueIsIdlePinLaw", "step", "(Lcom/example/quillon/quillon/engine/RowQueue;Lcom/example/quillon/quillon/engine/LockWait;I[I)V"⟩ : MethodName) (head1 (Jvm.Cond.code (⟨"com/example/quillon/quillon/engine/RowQueueIsIdlePinLaw", "step", "(Lcom/example/quillon/quillon/engine/RowQueue;Lcom/example/quillon/quillon/engine/LockWait;I[I)V"⟩ : MethodName) method_2_code 5 none :: ws) ({ frames := 2, cells := 0, slots := 0, locals := 27 } : Room)) (fun a U => a = #[(.ref qa), (.ref wa), (.int cd), (.ref am)] ∧ Z.Warmed39 U.vm ∧ U.heap = h0) (fun _ _ _ _ _ => True) (fun _ U o U' => ∃ v L, o = .returned v ∧ QOf Z qa wa cd am kc tn lr pz h0 n0 v U'.heap L ∧ FrameEnd U o U' L ({ frames := 2, cells := 0, slots := 0, locals := 27 } : Room).cells ({ frames := 2, cells := 0, slots := 0, locals := 27 } : Room).slots) := by
  refine MetFree.of_bodySF (plainFor_of_name pn_4) hisR ?_
  intro p e s m args below meth c s₁ Bd hml0 hP hK
  obtain ⟨rfl, hZ, hh⟩ := hP
  have hx := Bd.exec
  have hby := Bd.bytes
  have hml : c.maxLocals = 5 := hml0
  have hlk : meth.locks = false := BodyLoose.notSynchronized Bd
  have hown : s.vm.findClass "com/example/quillon/quillon/engine/RowQueueIsIdlePinLaw" = some m.cls := findClass_of_methodNamed Bd.named
  have hnm := (name_of_methodNamed Bd.named Bd.method).1
  have X0 : Stand p l e ({ frames := 2, cells := 0, slots := 0, locals := 27 } : Room) s m #[(.ref qa), (.ref wa), (.int cd), (.ref am)] below meth c s₁ [] 0 0 := Stand.of_body Bd
  have e0 : s₁.heap = h0 := by rw [← hh, Bd.state]; rfl
  have N0 := Fr.nil n0
  have pre0 : ∀ t, Steps p.tables e below (s₁.setTop (mkF m 0 #[.val (.ref qa), .val (.ref wa), .val (.int cd), .val (.ref am), .unset] [])) t → Steps p.tables e below (s₁.setTop (entryFrame m #[(.ref qa), (.ref wa), (.int cd), (.ref am)] 5)) t := fun t k => castTop (ef_Of m qa wa cd am) k
  have g_0 : own_Fin p e below s (QOf Z qa wa cd am kc tn lr pz h0 n0) ({ frames := 2, cells := 0, slots := 0, locals := 27 } : Room).cells ({ frames := 2, cells := 0, slots := 0, locals := 27 } : Room).slots (s₁.setTop (mkF m 0 #[.val (.ref qa), .val (.ref wa), .val (.int cd), .val (.ref am), .unset] [])) := by
    refine own_pre (B := s₁.setTop (mkF m 1 #[.val (.ref qa), .val (.ref wa), .val (.int cd), .val (.ref am), .unset] [(.ref am)])) (fun t k => XS.aloadN X0.here hx rfl (hb hby d4_0) rfl rfl k) ?_
    refine own_pre (B := s₁.setTop (mkF m 2 #[.val (.ref qa), .val (.ref wa), .val (.int cd), .val (.ref am), .unset] [(.int (0 : Int32)), (.ref am)])) (fun t k => XS.iconst X0.here hx rfl (hb hby d4_1) k) ?_
    refine own_pre (B := s₁.setTop (mkF m 3 #[.val (.ref qa), .val (.ref wa), .val (.int cd), .val (.ref am), .unset] [(.int (0 : Int32))])) (own_ld X0 hx hZ e0 V0 (j := (0 : Int32)) (v := (0 : Int32)) ⟨by decide, by decide⟩ rfl (g := (mkF m 2 #[.val (.ref qa), .val (.ref wa), .val (.int cd), .val (.ref am), .unset] [(.int (0 : Int32)), (.ref am)])) rfl rfl (hb hby d4_2)) ?_
    refine own_pre (B := s₁.setTop (mkF m 10 #[.val (.ref qa), .val (.ref wa), .val (.int cd), .val (.ref am), .unset] [])) (fun t k => XS.ifYes X0.here hx rfl (pc0 := 3) (pc' := 10) rfl (hb hby d4_3) rfl ((if0 _ _).trans (teq ((by decide) : (0 : Int32) = (0 : Int32))).1) (by decide) (by decide) k) ?_
    refine own_pre (B := s₁.setTop (mkF m 11 #[.val (.ref qa), .val (.ref wa), .val (.int cd), .val (.ref am), .unset] [(.int (0 : Int32))])) (fun t k => XS.iconst X0.here hx rfl (hb hby d4_10) k) ?_
    refine own_pre (B := s₁.setTop (mkF m 13 #[.val (.ref qa), .val (.ref wa), .val (.int cd), .val (.ref am), .val (.int (0 : Int32))] [])) (fun t k => XS.istore X0.here hx rfl (hb hby d4_11) rfl (l' := #[.val (.ref qa), .val (.ref wa), .val (.int cd), .val (.ref am), .val (.int (0 : Int32))]) rfl k) ?_
    refine own_pre (B := s₁.setTop (mkF m 14 #[.val (.ref qa), .val (.ref wa), .val (.int cd), .val (.ref am), .val (.int (0 : Int32))] [(.int cd)])) (fun t k => XS.iloadN X0.here hx rfl (hb hby d4_13) rfl k) ?_
    by_cases hc1 : cd = (0 : Int32)
    · skip
      refine own_pre (B := s₁.setTop (mkF m 17 #[.val (.ref qa), .val (.ref wa), .val (.int cd), .val (.ref am), .val (.int (0 : Int32))] [])) (fun t k => XS.ifNo X0.here hx rfl (hb hby d4_14) rfl ((if0 _ _).trans (teq hc1).2) k) ?_
      refine own_pre (B := s₁.setTop (mkF m 19 #[.val (.ref qa), .val (.ref wa), .val (.int cd), .val (.ref am), .val (.int (0 : Int32))] [(.int (0 : Int32))])) (fun t k => XS.iload X0.here hx rfl (hb hby d4_17) rfl k) ?_
      refine own_pre (B := s₁.setTop (mkF m 52 #[.val (.ref qa), .val (.ref wa), .val (.int cd), .val (.ref am), .val (.int (0 : Int32))] [])) (fun t k => XS.ifYes X0.here hx rfl (pc0 := 19) (pc' := 52) rfl (hb hby d4_19) rfl ((if0 _ _).trans (teq ((by decide) : (0 : Int32) = (0 : Int32))).1) (by decide) (by decide) k) ?_
      refine own_pre (B := s₁.setTop (mkF m 53 #[.val (.ref qa), .val (.ref wa), .val (.int cd), .val (.ref am), .val (.int (0 : Int32))] [(.ref qa)])) (fun t k => XS.aloadN X0.here hx rfl (hb hby d4_52) rfl rfl k) ?_
      refine own_pre (B := s₁.setTop (mkF m 54 #[.val (.ref qa), .val (.ref wa), .val (.int cd), .val (.ref am), .val (.int (0 : Int32))] [(.ref wa), (.ref qa)])) (fun t k => XS.aloadN X0.here hx rfl (hb hby d4_53) rfl rfl k) ?_
      obtain ⟨cq3, kq3, qa3, qb3, qc3⟩ := isOf hZ e0 F0.1
      obtain ⟨_, _, ⟨T3, L3, k3, n3⟩, -, X3, ⟨Lc3, hQ3, l3, y3, z3⟩, st3⟩ := X0.virtualBack hx (y := (⟨"com/example/quillon/quillon/engine/RowQueue", "start", "(Lcom/example/quillon/quillon/engine/LockWait;)V"⟩ : MethodName)) (z := (⟨"com/example/quillon/quillon/engine/RowQueue", "start", "(Lcom/example/quillon/quillon/engine/LockWait;)V"⟩ : MethodName)) hown (mvT hZ (hw _ (List.mem_of_getElem? (i := 23) rfl))) (mvT hZ (hw _ (List.mem_of_getElem? (i := 24) rfl))) (notFace_of_selects (args := #[]) (mvT hZ (hw _ (List.mem_of_getElem? (i := 26) rfl)))) (mvT hZ (hw _ (List.mem_of_getElem? (i := 26) rfl))) (mvT hZ (hw _ (List.mem_of_getElem? (i := 25) rfl))) (by decide) (backOf (W := 0) (rmSt l Z a0 hw [] qa wa false tn lr pz h0 n0 Z0 F0 gq) hZ (hw _ (List.mem_of_getElem? (i := 27) rfl)) (hw _ (List.mem_of_getElem? (i := 3) rfl)) (by decide) (by decide)) qa3 qc3 (g := (mkF m 54 #[.val (.ref qa), .val (.ref wa), .val (.int cd), .val (.ref am), .val (.int (0 : Int32))] [(.ref wa), (.ref qa)])) rfl (by rw [hml]; rfl) (Steps.refl _) (argsL := [(.ref wa)]) (rest := []) (lenOf pd4_0 rfl) rfl (by show 2 * 0 + _ ≤ _; exact Nat.le_of_eq rfl) (hb hby d4_54) (fun _ _ => ⟨rfl, e0, (by decide : 0 + 0 ≤ _), (by decide : 0 + 0 ≤ _)⟩)
      dsimp only [Pt.U, Pt.locs, Pt.cells, Pt.slots] at X3 l3 y3 z3 st3 hQ3
      subst l3 y3 z3
      obtain ⟨rfl, Nq3, K3, F3⟩ := hQ3
      have N3 := Fr.app N0 Nq3
      have V3 := V0.keep K3 (ninS hne nin0)
      have ZH3 : n0 ≤ T3.heap.size := Nat.le_trans Z0 K3.1
      have SZ3 : h0.size ≤ T3.heap.size := Nat.le_trans (Nat.le_refl _) K3.1
      refine own_pre (B := T3.setTop (mkF m 57 #[.val (.ref qa), .val (.ref wa), .val (.int cd), .val (.ref am), .val (.int (0 : Int32))] [])) (fun t q => st3.trans q) ?_
      refine own_pre (B := T3.setTop (mkF m 58 #[.val (.ref qa), .val (.ref wa), .val (.int cd), .val (.ref am), .val (.int (0 : Int32))] [(.ref am)])) (fun t k => XS.aloadN X3.here hx rfl (hb hby d4_57) rfl rfl k) ?_
      refine own_pre (B := T3.setTop (mkF m 59 #[.val (.ref qa), .val (.ref wa), .val (.int cd), .val (.ref am), .val (.int (0 : Int32))] [(.int (0 : Int32)), (.ref am)])) (fun t k => XS.iconst X3.here hx rfl (hb hby d4_58) k) ?_
      refine own_pre (B := T3.setTop (mkF m 60 #[.val (.ref qa), .val (.ref wa), .val (.int cd), .val (.ref am), .val (.int (0 : Int32))] [(.int (1 : Int32)), (.int (0 : Int32)), (.ref am)])) (fun t k => XS.iconst X3.here hx rfl (hb hby d4_59) k) ?_
      obtain ⟨T4, h4, X4, e4, W4, V4', st4⟩ := own_st X3 hx hZ rfl V3 (j := (0 : Int32)) (x := (1 : Int32)) ⟨by decide, by decide⟩ 0 rfl (Nat.le_of_ble_eq_true rfl) (g := (mkF m 60 #[.val (.ref qa), .val (.ref wa), .val (.int cd), .val (.ref am), .val (.int (0 : Int32))] [(.int (1 : Int32)), (.int (0 : Int32)), (.ref am)])) rfl rfl (hb hby d4_60)
      have V4 : Arv Z h4 am kc .int (4 : Int32) [.int (1 : Int32), .int tn, .int lr, .int pz] (.int 0) := V4'
      have F4 := own_RQ_other F3 W4 hne.symm
      have N4 := Fr.snoc X4 N3 gm
      have ZH4 : n0 ≤ h4.size := by rw [W4.size]; exact ZH3
      have SZ4 : h0.size ≤ h4.size := by rw [W4.size]; exact SZ3
      refine own_pre (B := T4.setTop (mkF m 61 #[.val (.ref qa), .val (.ref wa), .val (.int cd), .val (.ref am), .val (.int (0 : Int32))] [])) st4 ?_
      refine own_pre (B := T4.setTop (mkF m 208 #[.val (.ref qa), .val (.ref wa), .val (.int cd), .val (.ref am), .val (.int (0 : Int32))] [])) (fun t k => XS.goto X4.here hx rfl (pc0 := 61) (pc' := 208) rfl (hb hby d4_61) (by decide) (by decide) k) ?_
      exact own_retV X4 hx hlk Bd.returns (hb hby d4_208) (own_at e4 ⟨rfl, N4, SZ4, true, tn, lr, pz, F4, V4⟩) (by decide) (by decide)
    · skip
      refine own_pre (B := s₁.setTop (mkF m 64 #[.val (.ref qa), .val (.ref wa), .val (.int cd), .val (.ref am), .val (.int (0 : Int32))] [])) (fun t k => XS.ifYes X0.here hx rfl (pc0 := 14) (pc' := 64) rfl (hb hby d4_14) rfl ((if0 _ _).trans (feq hc1).2) (by decide) (by decide) k) ?_
      refine own_pre (B := s₁.setTop (mkF m 65 #[.val (.ref qa), .val (.ref wa), .val (.int cd), .val (.ref am), .val (.int (0 : Int32))] [(.int cd)])) (fun t k => XS.iloadN X0.here hx rfl (hb hby d4_64) rfl k) ?_
      refine own_pre (B := s₁.setTop (mkF m 66 #[.val (.ref qa), .val (.ref wa), .val (.int cd), .val (.ref am), .val (.int (0 : Int32))] [(.int (1 : Int32)), (.int cd)])) (fun t k => XS.iconst X0.here hx rfl (hb hby d4_65) k) ?_
      by_cases hc6 : cd = (1 : Int32)
      · skip
        refine own_pre (B := s₁.setTop (mkF m 69 #[.val (.ref qa), .val (.ref wa), .val (.int cd), .val (.ref am), .val (.int (0 : Int32))] [])) (fun t k => XS.icmpNo X0.here hx rfl (hb hby d4_66) rfl (teq hc6).2 k) ?_
        refine own_pre (B := s₁.setTop (mkF m 71 #[.val (.ref qa), .val (.ref wa), .val (.int cd), .val (.ref am), .val (.int (0 : Int32))] [(.int (0 : Int32))])) (fun t k => XS.iload X0.here hx rfl (hb hby d4_69) rfl k) ?_
        refine own_pre (B := s₁.setTop (mkF m 100 #[.val (.ref qa), .val (.ref wa), .val (.int cd), .val (.ref am), .val (.int (0 : Int32))] [])) (fun t k => XS.ifYes X0.here hx rfl (pc0 := 71) (pc' := 100) rfl (hb hby d4_71) rfl ((if0 _ _).trans (teq ((by decide) : (0 : Int32) = (0 : Int32))).1) (by decide) (by decide) k) ?_
        refine own_pre (B := s₁.setTop (mkF m 101 #[.val (.ref qa), .val (.ref wa), .val (.int cd), .val (.ref am), .val (.int (0 : Int32))] [(.ref qa)])) (fun t k => XS.aloadN X0.here hx rfl (hb hby d4_100) rfl rfl k) ?_
        refine own_pre (B := s₁.setTop (mkF m 102 #[.val (.ref qa), .val (.ref wa), .val (.int cd), .val (.ref am), .val (.int (0 : Int32))] [(.ref wa), (.ref qa)])) (fun t k => XS.aloadN X0.here hx rfl (hb hby d4_101) rfl rfl k) ?_
        obtain ⟨cq8, kq8, qa8, qb8, qc8⟩ := isOf hZ e0 F0.1
        obtain ⟨_, _, ⟨T8, L8, k8, n8⟩, -, X8, ⟨Lc8, hQ8, l8, y8, z8⟩, st8⟩ := X0.virtualBack hx (y := (⟨"com/example/quillon/quillon/engine/RowQueue", "start", "(Lcom/example/quillon/quillon/engine/LockWait;)V"⟩ : MethodName)) (z := (⟨"com/example/quillon/quillon/engine/RowQueue", "start", "(Lcom/example/quillon/quillon/engine/LockWait;)V"⟩ : MethodName)) hown (mvT hZ (hw _ (List.mem_of_getElem? (i := 23) rfl))) (mvT hZ (hw _ (List.mem_of_getElem? (i := 24) rfl))) (notFace_of_selects (args := #[]) (mvT hZ (hw _ (List.mem_of_getElem? (i := 26) rfl)))) (mvT hZ (hw _ (List.mem_of_getElem? (i := 26) rfl))) (mvT hZ (hw _ (List.mem_of_getElem? (i := 25) rfl))) (by decide) (backOf (W := 0) (rmSt l Z a0 hw [] qa wa false tn lr pz h0 n0 Z0 F0 gq) hZ (hw _ (List.mem_of_getElem? (i := 27) rfl)) (hw _ (List.mem_of_getElem? (i := 3) rfl)) (by decide) (by decide)) qa8 qc8 (g := (mkF m 102 #[.val (.ref qa), .val (.ref wa), .val (.int cd), .val (.ref am), .val (.int (0 : Int32))] [(.ref wa), (.ref qa)])) rfl (by rw [hml]; rfl) (Steps.refl _) (argsL := [(.ref wa)]) (rest := []) (lenOf pd4_0 rfl) rfl (by show 2 * 0 + _ ≤ _; exact Nat.le_of_eq rfl) (hb hby d4_102) (fun _ _ => ⟨rfl, e0, (by decide : 0 + 0 ≤ _), (by decide : 0 + 0 ≤ _)⟩)
        dsimp only [Pt.U, Pt.locs, Pt.cells, Pt.slots] at X8 l8 y8 z8 st8 hQ8
        subst l8 y8 z8
        obtain ⟨rfl, Nq8, K8, F8⟩ := hQ8
        have N8 := Fr.app N0 Nq8
        have V8 := V0.keep K8 (ninS hne nin0)
        have ZH8 : n0 ≤ T8.heap.size := Nat.le_trans Z0 K8.1
        have SZ8 : h0.size ≤ T8.heap.size := Nat.le_trans (Nat.le_refl _) K8.1
        refine own_pre (B := T8.setTop (mkF m 105 #[.val (.ref qa), .val (.ref wa), .val (.int cd), .val (.ref am), .val (.int (0 : Int32))] [])) (fun t q => st8.trans q) ?_
        refine own_pre (B := T8.setTop (mkF m 106 #[.val (.ref qa), .val (.ref wa), .val (.int cd), .val (.ref am), .val (.int (0 : Int32))] [(.ref am)])) (fun t k => XS.aloadN X8.here hx rfl (hb hby d4_105) rfl rfl k) ?_
        refine own_pre (B := T8.setTop (mkF m 107 #[.val (.ref qa), .val (.ref wa), .val (.int cd), .val (.ref am), .val (.int (0 : Int32))] [(.int (0 : Int32)), (.ref am)])) (fun t k => XS.iconst X8.here hx rfl (hb hby d4_106) k) ?_
        refine own_pre (B := T8.setTop (mkF m 108 #[.val (.ref qa), .val (.ref wa), .val (.int cd), .val (.ref am), .val (.int (0 : Int32))] [(.int (1 : Int32)), (.int (0 : Int32)), (.ref am)])) (fun t k => XS.iconst X8.here hx rfl (hb hby d4_107) k) ?_
        obtain ⟨T9, h9, X9, e9, W9, V9', st9⟩ := own_st X8 hx hZ rfl V8 (j := (0 : Int32)) (x := (1 : Int32)) ⟨by decide, by decide⟩ 0 rfl (Nat.le_of_ble_eq_true rfl) (g := (mkF m 108 #[.val (.ref qa), .val (.ref wa), .val (.int cd), .val (.ref am), .val (.int (0 : Int32))] [(.int (1 : Int32)), (.int (0 : Int32)), (.ref am)])) rfl rfl (hb hby d4_108)
        have V9 : Arv Z h9 am kc .int (4 : Int32) [.int (1 : Int32), .int tn, .int lr, .int pz] (.int 0) := V9'
        have F9 := own_RQ_other F8 W9 hne.symm
        have N9 := Fr.snoc X9 N8 gm
        have ZH9 : n0 ≤ h9.size := by rw [W9.size]; exact ZH8
        have SZ9 : h0.size ≤ h9.size := by rw [W9.size]; exact SZ8
        refine own_pre (B := T9.setTop (mkF m 109 #[.val (.ref qa), .val (.ref wa), .val (.int cd), .val (.ref am), .val (.int (0 : Int32))] [])) st9 ?_
        refine own_pre (B := T9.setTop (mkF m 208 #[.val (.ref qa), .val (.ref wa), .val (.int cd), .val (.ref am), .val (.int (0 : Int32))] [])) (fun t k => XS.goto X9.here hx rfl (pc0 := 109) (pc' := 208) rfl (hb hby d4_109) (by decide) (by decide) k) ?_
        exact own_retV X9 hx hlk Bd.returns (hb hby d4_208) (own_at e9 ⟨rfl, N9, SZ9, true, tn, lr, pz, F9, V9⟩) (by decide) (by decide)
      · skip
        refine own_pre (B := s₁.setTop (mkF m 112 #[.val (.ref qa), .val (.ref wa), .val (.int cd), .val (.ref am), .val (.int (0 : Int32))] [])) (fun t k => XS.icmpYes X0.here hx rfl (pc0 := 66) (pc' := 112) rfl (hb hby d4_66) rfl (feq hc6).2 (by decide) (by decide) k) ?_
        refine own_pre (B := s₁.setTop (mkF m 113 #[.val (.ref qa), .val (.ref wa), .val (.int cd), .val (.ref am), .val (.int (0 : Int32))] [(.int cd)])) (fun t k => XS.iloadN X0.here hx rfl (hb hby d4_112) rfl k) ?_
        refine own_pre (B := s₁.setTop (mkF m 114 #[.val (.ref qa), .val (.ref wa), .val (.int cd), .val (.ref am), .val (.int (0 : Int32))] [(.int (2 : Int32)), (.int cd)])) (fun t k => XS.iconst X0.here hx rfl (hb hby d4_113) k) ?_
        by_cases hc11 : cd = (2 : Int32)
        · skip
          refine own_pre (B := s₁.setTop (mkF m 117 #[.val (.ref qa), .val (.ref wa), .val (.int cd), .val (.ref am), .val (.int (0 : Int32))] [])) (fun t k => XS.icmpNo X0.here hx rfl (hb hby d4_114) rfl (teq hc11).2 k) ?_
          refine own_pre (B := s₁.setTop (mkF m 118 #[.val (.ref qa), .val (.ref wa), .val (.int cd), .val (.ref am), .val (.int (0 : Int32))] [(.ref qa)])) (fun t k => XS.aloadN X0.here hx rfl (hb hby d4_117) rfl rfl k) ?_
          obtain ⟨cq13, kq13, qa13, qb13, qc13⟩ := isOf hZ e0 F0.1
          obtain ⟨_, _, ⟨T13, L13, k13, n13⟩, -, X13, ⟨Lc13, hQ13, l13, y13, z13⟩, st13⟩ := X0.virtualBack hx (y := (⟨"com/example/quillon/quillon/engine/RowQueue", "taken", "()V"⟩ : MethodName)) (z := (⟨"com/example/quillon/quillon/engine/RowQueue", "taken", "()V"⟩ : MethodName)) hown (mvT hZ (hw _ (List.mem_of_getElem? (i := 46) rfl))) (mvT hZ (hw _ (List.mem_of_getElem? (i := 47) rfl))) (notFace_of_selects (args := #[]) (mvT hZ (hw _ (List.mem_of_getElem? (i := 49) rfl)))) (mvT hZ (hw _ (List.mem_of_getElem? (i := 49) rfl))) (mvT hZ (hw _ (List.mem_of_getElem? (i := 48) rfl))) (by decide) (backOf (W := 0) (rmTf l Z a0 hw [] qa wa tn lr pz h0 n0 Z0 F0 gq) hZ (hw _ (List.mem_of_getElem? (i := 50) rfl)) (hw _ (List.mem_of_getElem? (i := 3) rfl)) (by decide) (by decide)) qa13 qc13 (g := (mkF m 118 #[.val (.ref qa), .val (.ref wa), .val (.int cd), .val (.ref am), .val (.int (0 : Int32))] [(.ref qa)])) rfl (by rw [hml]; rfl) (Steps.refl _) (argsL := []) (rest := []) (lenOf pd4_1 rfl) rfl (by show 2 * 0 + _ ≤ _; exact Nat.le_of_eq rfl) (hb hby d4_118) (fun _ _ => ⟨rfl, e0, (by decide : 0 + 0 ≤ _), (by decide : 0 + 0 ≤ _)⟩)
          dsimp only [Pt.U, Pt.locs, Pt.cells, Pt.slots] at X13 l13 y13 z13 st13 hQ13
          subst l13 y13 z13
          obtain ⟨rfl, Nq13, K13, F13⟩ := hQ13
          have N13 := Fr.app N0 Nq13
          have V13 := V0.keep K13 (ninS hne nin0)
          have ZH13 : n0 ≤ T13.heap.size := Nat.le_trans Z0 K13.1
          have SZ13 : h0.size ≤ T13.heap.size := Nat.le_trans (Nat.le_refl _) K13.1
          refine own_pre (B := T13.setTop (mkF m 121 #[.val (.ref qa), .val (.ref wa), .val (.int cd), .val (.ref am), .val (.int (0 : Int32))] [])) (fun t q => st13.trans q) ?_
          refine own_pre (B := T13.setTop (mkF m 123 #[.val (.ref qa), .val (.ref wa), .val (.int cd), .val (.ref am), .val (.int (0 : Int32))] [(.int (0 : Int32))])) (fun t k => XS.iload X13.here hx rfl (hb hby d4_121) rfl k) ?_
          refine own_pre (B := T13.setTop (mkF m 208 #[.val (.ref qa), .val (.ref wa), .val (.int cd), .val (.ref am), .val (.int (0 : Int32))] [])) (fun t k => XS.ifYes X13.here hx rfl (pc0 := 123) (pc' := 208) rfl (hb hby d4_123) rfl ((if0 _ _).trans (teq ((by decide) : (0 : Int32) = (0 : Int32))).1) (by decide) (by decide) k) ?_
          exact own_retV X13 hx hlk Bd.returns (hb hby d4_208) (own_at rfl ⟨rfl, N13, SZ13, false, tn, lr, pz, F13, V13⟩) (by decide) (by decide)
        · skip
          refine own_pre (B := s₁.setTop (mkF m 133 #[.val (.ref qa), .val (.ref wa), .val (.int cd), .val (.ref am), .val (.int (0 : Int32))] [])) (fun t k => XS.icmpYes X0.here hx rfl (pc0 := 114) (pc' := 133) rfl (hb hby d4_114) rfl (feq hc11).2 (by decide) (by decide) k) ?_
          refine own_pre (B := s₁.setTop (mkF m 134 #[.val (.ref qa), .val (.ref wa), .val (.int cd), .val (.ref am), .val (.int (0 : Int32))] [(.int cd)])) (fun t k => XS.iloadN X0.here hx rfl (hb hby d4_133) rfl k) ?_
          refine own_pre (B := s₁.setTop (mkF m 135 #[.val (.ref qa), .val (.ref wa), .val (.int cd), .val (.ref am), .val (.int (0 : Int32))] [(.int (3 : Int32)), (.int cd)])) (fun t k => XS.iconst X0.here hx rfl (hb hby d4_134) k) ?_
          by_cases hc15 : cd = (3 : Int32)
          · skip
            refine own_pre (B := s₁.setTop (mkF m 138 #[.val (.ref qa), .val (.ref wa), .val (.int cd), .val (.ref am), .val (.int (0 : Int32))] [])) (fun t k => XS.icmpNo X0.here hx rfl (hb hby d4_135) rfl (teq hc15).2 k) ?_
            refine own_pre (B := s₁.setTop (mkF m 140 #[.val (.ref qa), .val (.ref wa), .val (.int cd), .val (.ref am), .val (.int (0 : Int32))] [(.int (0 : Int32))])) (fun t k => XS.iload X0.here hx rfl (hb hby d4_138) rfl k) ?_
            refine own_pre (B := s₁.setTop (mkF m 208 #[.val (.ref qa), .val (.ref wa), .val (.int cd), .val (.ref am), .val (.int (0 : Int32))] [])) (fun t k => XS.ifYes X0.here hx rfl (pc0 := 140) (pc' := 208) rfl (hb hby d4_140) rfl ((if0 _ _).trans (teq ((by decide) : (0 : Int32) = (0 : Int32))).1) (by decide) (by decide) k) ?_
            exact own_retV X0 hx hlk Bd.returns (hb hby d4_208) (own_at e0 ⟨rfl, N0, (Nat.le_refl _), false, tn, lr, pz, F0, V0⟩) (by decide) (by decide)
          · skip
            refine own_pre (B := s₁.setTop (mkF m 179 #[.val (.ref qa), .val (.ref wa), .val (.int cd), .val (.ref am), .val (.int (0 : Int32))] [])) (fun t k => XS.icmpYes X0.here hx rfl (pc0 := 135) (pc' := 179) rfl (hb hby d4_135) rfl (feq hc15).2 (by decide) (by decide) k) ?_
            refine own_pre (B := s₁.setTop (mkF m 180 #[.val (.ref qa), .val (.ref wa), .val (.int cd), .val (.ref am), .val (.int (0 : Int32))] [(.int cd)])) (fun t k => XS.iloadN X0.here hx rfl (hb hby d4_179) rfl k) ?_
            refine own_pre (B := s₁.setTop (mkF m 181 #[.val (.ref qa), .val (.ref wa), .val (.int cd), .val (.ref am), .val (.int (0 : Int32))] [(.int (4 : Int32)), (.int cd)])) (fun t k => XS.iconst X0.here hx rfl (hb hby d4_180) k) ?_
            by_cases hc18 : cd = (4 : Int32)
            · skip
              refine own_pre (B := s₁.setTop (mkF m 184 #[.val (.ref qa), .val (.ref wa), .val (.int cd), .val (.ref am), .val (.int (0 : Int32))] [])) (fun t k => XS.icmpNo X0.here hx rfl (hb hby d4_181) rfl (teq hc18).2 k) ?_
              refine own_pre (B := s₁.setTop (mkF m 186 #[.val (.ref qa), .val (.ref wa), .val (.int cd), .val (.ref am), .val (.int (0 : Int32))] [(.int (0 : Int32))])) (fun t k => XS.iload X0.here hx rfl (hb hby d4_184) rfl k) ?_
              refine own_pre (B := s₁.setTop (mkF m 208 #[.val (.ref qa), .val (.ref wa), .val (.int cd), .val (.ref am), .val (.int (0 : Int32))] [])) (fun t k => XS.ifYes X0.here hx rfl (pc0 := 186) (pc' := 208) rfl (hb hby d4_186) rfl ((if0 _ _).trans (teq ((by decide) : (0 : Int32) = (0 : Int32))).1) (by decide) (by decide) k) ?_
              exact own_retV X0 hx hlk Bd.returns (hb hby d4_208) (own_at e0 ⟨rfl, N0, (Nat.le_refl _), false, tn, lr, pz, F0, V0⟩) (by decide) (by decide)
            · skip
              refine own_pre (B := s₁.setTop (mkF m 208 #[.val (.ref qa), .val (.ref wa), .val (.int cd), .val (.ref am), .val (.int (0 : Int32))] [])) (fun t k => XS.icmpYes X0.here hx rfl (pc0 := 181) (pc' := 208) rfl (hb hby d4_181) rfl (feq hc18).2 (by decide) (by decide) k) ?_
              exact own_retV X0 hx hlk Bd.returns (hb hby d4_208) (own_at e0 ⟨rfl, N0, (Nat.le_refl _), false, tn, lr, pz, F0, V0⟩) (by decide) (by decide)
  exact own_pre pre0 g_0
def QOp (Z : State) (qa : Addr) (wa : Addr) (cd : Int32) (am : Addr) (kc : ClassId) (bb : Bool) (tn : Int32) (lr : Int32) (pz : Int32) (h0 : Heap) (n0 : Nat) (v : Option Value) (h : Heap) (L : List Loc) : Prop := v = none ∧ Fr n0 L ∧ h0.size ≤ h.size ∧ ∃ (b' : Bool) (tn' lr' pz' : Int32), own_RQ Z h qa wa b' tn' lr' pz' ∧ Arv Z h am kc .int (4 : Int32) [.int (own_e b'), .int tn', .int lr', .int pz'] (.int 0)
theorem rmOp (l : Launch) (Z : State) (a0 : Array Value) (hw : ∀ d ∈ tables_1, d.before a0 Z = true) (ws : List Jvm.Cond) (qa : Addr) (wa : Addr) (cd : Int32) (am : Addr) (kc : ClassId) (bb : Bool) (tn : Int32) (lr : Int32) (pz : Int32) (h0 : Heap) (n0 : Nat) (Z0 : n0 ≤ h0.size) (F0 : own_RQ Z h0 qa wa bb tn lr pz) (V0 : Arv Z h0 am kc .int (4 : Int32) [.int (own_e bb), .int tn, .int lr, .int pz] (.int 0)) (hne : am ≠ qa) (gq : n0 ≤ qa) (gm : n0 ≤ am) :
    MetFree l (⟨"com/example/quillon/quillon/engine/RowQueueIsIdlePinLaw", "step", "(Lcom/example/quillon/quillon/engine/RowQueue;Lcom/example/quillon/quillon/engine/LockWait;I[I)V"⟩ : MethodName) (head1 (Jvm.Cond.code (⟨"com/example/quillon/quillon/engine/RowQueueIsIdlePinLaw", "step", "(Lcom/example/quillon/quillon/engine/RowQueue;Lcom/example/quillon/quillon/engine/LockWait;I[I)V"⟩ : MethodName) method_2_code 5 none :: ws) ({ frames := 2, cells := 0, slots := 0, locals := 27 } : Room)) (fun a U => a = #[(.ref qa), (.ref wa), (.int cd), (.ref am)] ∧ Z.Warmed39 U.vm ∧ U.heap = h0) (fun _ _ _ _ _ => True) (fun _ U o U' => ∃ v L, o = .returned v ∧ QOp Z qa wa cd am kc bb tn lr pz h0 n0 v U'.heap L ∧ FrameEnd U o U' L ({ frames := 2, cells := 0, slots := 0, locals := 27 } : Room).cells ({ frames := 2, cells := 0, slots := 0, locals := 27 } : Room).slots) := by
  cases bb
  · exact rmOf l Z a0 hw ws qa wa cd am kc tn lr pz h0 n0 Z0 F0 V0 hne gq gm
  · exact rmOt l Z a0 hw ws qa wa cd am kc tn lr pz h0 n0 Z0 F0 V0 hne gq gm
theorem own_id1 {b : Bool} {tn lr : Int32} (h1 : own_e b = 0) (h2 : tn = 0) (h3 : lr = 0) : own_idle b tn lr = 1 := by
  subst h2 h3
  cases b
  · rfl
  · exact absurd h1 (by decide)
theorem own_id0a {b : Bool} {tn lr : Int32} (h1 : ¬ own_e b = 0) : own_idle b tn lr = 0 := by
  cases b
  · exact absurd rfl h1
  · rfl
theorem own_id0b {b : Bool} {tn lr : Int32} (h1 : ¬ tn = 0) : own_idle b tn lr = 0 := by
  cases b
  · exact if_neg h1
  · rfl
theorem own_id0c {b : Bool} {tn lr : Int32} (h1 : ¬ lr = 0) : own_idle b tn lr = 0 := by
  cases b
  · show (if tn = (0 : Int32) then (if lr = (0 : Int32) then (1 : Int32) else 0) else 0) = 0
    rw [if_neg h1]
    split <;> rfl
  · rfl
theorem pn_0 : plainName "com/example/quillon/quillon/engine/RowQueueIsIdlePinLaw" = true := by first | (simp [plainName, overriddenIn]; done) | decide +kernel
theorem pd0_0 : parseMethodDescriptor "()V" = some ⟨[], none⟩ := by decide +kernel
theorem pd0_1 : parseMethodDescriptor "(Lcom/example/quillon/quillon/engine/Transaction;)V" = some ⟨[(.object "com/example/quillon/quillon/engine/Transaction")], none⟩ := by decide +kernel
theorem pd0_2 : parseMethodDescriptor "(Lcom/example/quillon/quillon/engine/RowQueue;Lcom/example/quillon/quillon/engine/LockWait;I[I)V" = some ⟨[(.object "com/example/quillon/quillon/engine/RowQueue"), (.object "com/example/quillon/quillon/engine/LockWait"), .int, (.array .int)], none⟩ := by decide +kernel
theorem pd0_3 : parseMethodDescriptor "()Z" = some ⟨[], some .boolean⟩ := by decide +kernel
theorem ef_0 (m : MethodId) (p0 : Int32) : entryFrame m #[(.int p0)] maxLocals = mkF m 0 #[.val (.int p0), .unset, .unset, .unset, .unset] [] := by first | (simp [entryFrame, mkF, argsToLocals, Value.category, maxLocals]; done) | rfl
def Q0 (Z : State) (p0 : Int32) (h0 : Heap) (n0 : Nat) (v : Option Value) (h : Heap) (L : List Loc) : Prop := v = some (.int 1) ∧ Fr n0 L
set_option maxRecDepth 65536 in
set_option maxHeartbeats 40000000 in
theorem rm0 (l : Launch) (Z : State) (a0 : Array Value) (hw : ∀ d ∈ tables_1, d.before a0 Z = true) (ws : List Jvm.Cond) (p0 : Int32) (h0 : Heap) (n0 : Nat) (Z0 : n0 ≤ h0.size) :
    MetFree l x (head1 (Jvm.Cond.code x code maxLocals ret :: ws) room_1) (fun a U => a = #[(.int p0)] ∧ Z.Warmed39 U.vm ∧ U.heap = h0) (fun _ _ _ _ _ => True) (fun _ U o U' => ∃ v L, o = .returned v ∧ Q0 Z p0 h0 n0 v U'.heap L ∧ FrameEnd U o U' L room_1.cells room_1.slots) := by
  refine MetFree.of_bodySF (plainFor_of_name pn_0) hisR ?_
  intro p e s m args below meth c s₁ Bd hml0 hP hK
  obtain ⟨rfl, hZ, hh⟩ := hP
  have hx := Bd.exec
  have hby := Bd.bytes
  have hml : c.maxLocals = 5 := hml0
  have hlk : meth.locks = false := BodyLoose.notSynchronized Bd
  have hown : s.vm.findClass "com/example/quillon/quillon/engine/RowQueueIsIdlePinLaw" = some m.cls := findClass_of_methodNamed Bd.named
  have hnm := (name_of_methodNamed Bd.named Bd.method).1
  have X0 : Stand p l e room_1 s m #[(.int p0)] below meth c s₁ [] 0 0 := Stand.of_body Bd
  have e0 : s₁.heap = h0 := by rw [← hh, Bd.state]; rfl
  have N0 := Fr.nil n0
  have pre0 : ∀ t, Steps p.tables e below (s₁.setTop (mkF m 0 #[.val (.int p0), .unset, .unset, .unset, .unset] [])) t → Steps p.tables e below (s₁.setTop (entryFrame m #[(.int p0)] maxLocals)) t := fun t k => castTop (ef_0 m p0) k
  have g_0 : own_Fin p e below s (Q0 Z p0 h0 n0) room_1.cells room_1.slots (s₁.setTop (mkF m 0 #[.val (.int p0), .unset, .unset, .unset, .unset] [])) := by
    refine own_pre (B := s₁.setTop (mkF m 1 #[.val (.int p0), .unset, .unset, .unset, .unset] [(.int (4 : Int32))])) (fun t k => XS.iconst X0.here hx rfl (hb hby at_0) k) ?_
    obtain ⟨T1, h1, kc, X1, e1, E1, A1, st1⟩ := newP X0 hx hZ (hw _ (List.mem_of_getElem? (i := 0) rfl)) e0 (g := (mkF m 1 #[.val (.int p0), .unset, .unset, .unset, .unset] [(.int (4 : Int32))])) rfl (hb hby at_1) rfl (by decide) (cap := 4) (by decide) (by decide) (by decide) (by decide)
    obtain ⟨am, gam⟩ : ∃ z, z = h0.size := ⟨_, rfl⟩
    rw [← gam] at A1 st1
    have V1 : Arv Z h1 am kc .int (4 : Int32) [.int 0, .int 0, .int 0, .int 0] (.int 0) := (Arv.new A1 (by decide)).pad (pad_rep [] (.int (0 : Int32)) 4)
    have gm : n0 ≤ am := Nat.le_trans Z0 (Nat.le_of_eq gam.symm)
    have ZH1 : n0 ≤ h1.size := Nat.le_trans Z0 E1.1
    refine own_pre (B := T1.setTop (mkF m 3 #[.val (.int p0), .unset, .unset, .unset, .unset] [(.ref am)])) st1 ?_
    refine own_pre (B := T1.setTop (mkF m 4 #[.val (.int p0), .val (.ref am), .unset, .unset, .unset] [])) (fun t k => XS.astoreN X1.here hx rfl (hb hby at_3) rfl rfl (l' := #[.val (.int p0), .val (.ref am), .unset, .unset, .unset]) rfl k) ?_
    obtain ⟨T2, h2, X2, e2, E2, A2, D2, -, st2⟩ := newO X1 hx hZ hown (hw _ (List.mem_of_getElem? (i := 1) rfl)) (hw _ (List.mem_of_getElem? (i := 2) rfl)) (hw _ (List.mem_of_getElem? (i := 3) rfl)) e1 (g := (mkF m 4 #[.val (.int p0), .val (.ref am), .unset, .unset, .unset] [])) rfl (hb hby at_4) (by decide) (by decide)
    obtain ⟨b2, g2⟩ : ∃ z, z = h1.size := ⟨_, rfl⟩
    rw [← g2] at A2 D2 st2
    have gb2 : n0 ≤ b2 := Nat.le_trans ZH1 (Nat.le_of_eq g2.symm)
    have ZH2 : n0 ≤ h2.size := Nat.le_trans ZH1 E2.1
    have Zs2 : n0 ≤ T2.heap.size := by rw [e2]; exact ZH2
    have hne : am ≠ b2 := Nat.ne_of_lt (Nat.lt_of_lt_of_le V1.lt (Nat.le_of_eq g2.symm))
    have gq := gb2
    have V2 := V1.ext E2
    have F2 : own_RQ Z h2 b2 0 false 0 0 0 := ⟨A2, D2 (Or.inl (hw _ (List.mem_of_getElem? (i := 29) rfl))) (ty := (.object "com/example/quillon/quillon/engine/LockWait")) (by decide), D2 (Or.inl (hw _ (List.mem_of_getElem? (i := 38) rfl))) (ty := .int) (by decide), D2 (Or.inl (hw _ (List.mem_of_getElem? (i := 45) rfl))) (ty := .int) (by decide), D2 (Or.inl (hw _ (List.mem_of_getElem? (i := 36) rfl))) (ty := .boolean) (by decide)⟩
    refine own_pre (B := T2.setTop (mkF m 7 #[.val (.int p0), .val (.ref am), .unset, .unset, .unset] [(.ref b2)])) st2 ?_
    refine own_pre (B := T2.setTop (mkF m 8 #[.val (.int p0), .val (.ref am), .unset, .unset, .unset] [(.ref b2), (.ref b2)])) (fun t k => XS.dup X2.here hx rfl (hb hby at_7) rfl rfl k) ?_
    obtain ⟨_, _, ⟨T3, L3, k3, n3⟩, -, X3, ⟨Lc3, hQ3, l3, y3, z3⟩, st3⟩ := X2.specialBack hx (y := (⟨"com/example/quillon/quillon/engine/RowQueue", "<init>", "()V"⟩ : MethodName)) rfl hown (mvT hZ (hw _ (List.mem_of_getElem? (i := 4) rfl))) (mvT hZ (hw _ (List.mem_of_getElem? (i := 5) rfl))) (mvT hZ (hw _ (List.mem_of_getElem? (i := 6) rfl))) (by decide) (backOf (W := 1) (rm1 l Z a0 hw [] b2 h2 n0 ZH2) hZ (hw _ (List.mem_of_getElem? (i := 6) rfl)) (hw _ (List.mem_of_getElem? (i := 3) rfl)) (by decide) (by decide)) (g := (mkF m 8 #[.val (.int p0), .val (.ref am), .unset, .unset, .unset] [(.ref b2), (.ref b2)])) rfl (by rw [hml]; rfl) (Steps.refl _) (a := b2) (argsL := []) (rest := [(.ref b2)]) (lenOf pd0_0 rfl) rfl (by show 2 * 0 + _ ≤ _; exact Nat.le_of_eq rfl) (hb hby at_8) (fun _ _ => ⟨rfl, e2, (by decide : 2 + 0 ≤ _), (by decide : 8 + 0 ≤ _)⟩)
    dsimp only [Pt.U, Pt.locs, Pt.cells, Pt.slots] at X3 l3 y3 z3 st3 hQ3
    subst l3 y3 z3
    obtain ⟨rfl, Nq3, e3⟩ := hQ3
    have N3 := Fr.app N0 Nq3
    have eh3 : T3.heap = h2 := e3
    refine own_pre (B := T3.setTop (mkF m 11 #[.val (.int p0), .val (.ref am), .unset, .unset, .unset] [(.ref b2)])) (fun t q => st3.trans q) ?_
    refine own_pre (B := T3.setTop (mkF m 12 #[.val (.int p0), .val (.ref am), .val (.ref b2), .unset, .unset] [])) (fun t k => XS.astoreN X3.here hx rfl (hb hby at_11) rfl rfl (l' := #[.val (.int p0), .val (.ref am), .val (.ref b2), .unset, .unset]) rfl k) ?_
    obtain ⟨T4, h4, X4, e4, E4, A4, D4, -, st4⟩ := newO X3 hx hZ hown (hw _ (List.mem_of_getElem? (i := 10) rfl)) (hw _ (List.mem_of_getElem? (i := 11) rfl)) (hw _ (List.mem_of_getElem? (i := 12) rfl)) eh3 (g := (mkF m 12 #[.val (.int p0), .val (.ref am), .val (.ref b2), .unset, .unset] [])) rfl (hb hby at_12) (by decide) (by decide)
    obtain ⟨b4, g4⟩ : ∃ z, z = h2.size := ⟨_, rfl⟩
    rw [← g4] at A4 D4 st4
    have gb4 : n0 ≤ b4 := Nat.le_trans ZH2 (Nat.le_of_eq g4.symm)
    have ZH4 : n0 ≤ h4.size := Nat.le_trans ZH2 E4.1
    have Zs4 : n0 ≤ T4.heap.size := by rw [e4]; exact ZH4
    have V4 := V2.ext E4
    have F4 : own_RQ Z h4 b2 b4 false 0 0 0 := own_RQ_ext F2 E4
    have nq4 : b2 ≠ b4 := Nat.ne_of_lt (Nat.lt_of_lt_of_le F2.1.lt (Nat.le_of_eq g4.symm))
    have nm4 : am ≠ b4 := Nat.ne_of_lt (Nat.lt_of_lt_of_le V2.lt (Nat.le_of_eq g4.symm))
    have Fw4 : Fld Z h4 b4 "com/example/quillon/quillon/engine/LockWait" "waiter" "Lcom/example/quillon/quillon/engine/Transaction;" .null := D4 (Or.inr (hw _ (List.mem_of_getElem? (i := 18) rfl))) (ty := .object "com/example/quillon/quillon/engine/Transaction") (by decide)
    refine own_pre (B := T4.setTop (mkF m 15 #[.val (.int p0), .val (.ref am), .val (.ref b2), .unset, .unset] [(.ref b4)])) st4 ?_
    refine own_pre (B := T4.setTop (mkF m 16 #[.val (.int p0), .val (.ref am), .val (.ref b2), .unset, .unset] [(.ref b4), (.ref b4)])) (fun t k => XS.dup X4.here hx rfl (hb hby at_15) rfl rfl k) ?_
    refine own_pre (B := T4.setTop (mkF m 17 #[.val (.int p0), .val (.ref am), .val (.ref b2), .unset, .unset] [.null, (.ref b4), (.ref b4)])) (fun t k => XS.aconstNull X4.here hx rfl (hb hby at_16) k) ?_
    obtain ⟨_, _, ⟨T5, L5, k5, n5⟩, -, X5, ⟨Lc5, hQ5, l5, y5, z5⟩, st5⟩ := X4.specialBack hx (y := (⟨"com/example/quillon/quillon/engine/LockWait", "<init>", "(Lcom/example/quillon/quillon/engine/Transaction;)V"⟩ : MethodName)) rfl hown (mvT hZ (hw _ (List.mem_of_getElem? (i := 13) rfl))) (mvT hZ (hw _ (List.mem_of_getElem? (i := 14) rfl))) (mvT hZ (hw _ (List.mem_of_getElem? (i := 15) rfl))) (by decide) (backOf (W := 1) (rm3 l Z a0 hw [] b4 _ h4 n0 ZH4 A4 Fw4 gb4) hZ (hw _ (List.mem_of_getElem? (i := 15) rfl)) (hw _ (List.mem_of_getElem? (i := 12) rfl)) (by decide) (by decide)) (g := (mkF m 17 #[.val (.int p0), .val (.ref am), .val (.ref b2), .unset, .unset] [.null, (.ref b4), (.ref b4)])) rfl (by rw [hml]; rfl) (Steps.refl _) (a := b4) (argsL := [.null]) (rest := [(.ref b4)]) (lenOf pd0_1 rfl) rfl (by show 2 * 0 + _ ≤ _; exact Nat.le_of_eq rfl) (hb hby at_17) (fun _ _ => ⟨rfl, e4, (by decide : 3 + 0 ≤ _), (by decide : 14 + 0 ≤ _)⟩)
    dsimp only [Pt.U, Pt.locs, Pt.cells, Pt.slots] at X5 l5 y5 z5 st5 hQ5
    subst l5 y5 z5
    obtain ⟨rfl, Nq5, K5⟩ := hQ5
    have N5 := Fr.app N3 Nq5
    have V5 := V4.keep K5 (ninS nm4 nin0)
    have F5 := own_RQ_keep F4 K5 (ninS nq4 nin0)
    have ZH5 : n0 ≤ T5.heap.size := Nat.le_trans ZH4 K5.1
    refine own_pre (B := T5.setTop (mkF m 20 #[.val (.int p0), .val (.ref am), .val (.ref b2), .unset, .unset] [(.ref b4)])) (fun t q => st5.trans q) ?_
    refine own_pre (B := T5.setTop (mkF m 21 #[.val (.int p0), .val (.ref am), .val (.ref b2), .val (.ref b4), .unset] [])) (fun t k => XS.astoreN X5.here hx rfl (hb hby at_20) rfl rfl (l' := #[.val (.int p0), .val (.ref am), .val (.ref b2), .val (.ref b4), .unset]) rfl k) ?_
    refine own_pre (B := T5.setTop (mkF m 22 #[.val (.int p0), .val (.ref am), .val (.ref b2), .val (.ref b4), .unset] [(.ref b2)])) (fun t k => XS.aloadN X5.here hx rfl (hb hby at_21) rfl rfl k) ?_
    refine own_pre (B := T5.setTop (mkF m 23 #[.val (.int p0), .val (.ref am), .val (.ref b2), .val (.ref b4), .unset] [(.ref b4), (.ref b2)])) (fun t k => XS.aloadN X5.here hx rfl (hb hby at_22) rfl rfl k) ?_
    refine own_pre (B := T5.setTop (mkF m 24 #[.val (.int p0), .val (.ref am), .val (.ref b2), .val (.ref b4), .unset] [(.int p0), (.ref b4), (.ref b2)])) (fun t k => XS.iloadN X5.here hx rfl (hb hby at_23) rfl k) ?_
    refine own_pre (B := T5.setTop (mkF m 26 #[.val (.int p0), .val (.ref am), .val (.ref b2), .val (.ref b4), .unset] [(.int (7 : Int32)), (.int p0), (.ref b4), (.ref b2)])) (fun t k => XS.bipush X5.here hx rfl (hb hby at_24) k) ?_
    refine own_pre (B := T5.setTop (mkF m 27 #[.val (.int p0), .val (.ref am), .val (.ref b2), .val (.ref b4), .unset] [(.int (p0 &&& (7 : Int32))), (.ref b4), (.ref b2)])) (fun t k => XS.iand X5.here hx rfl (hb hby at_26) rfl k) ?_
    refine own_pre (B := T5.setTop (mkF m 28 #[.val (.int p0), .val (.ref am), .val (.ref b2), .val (.ref b4), .unset] [(.ref am), (.int (p0 &&& (7 : Int32))), (.ref b4), (.ref b2)])) (fun t k => XS.aloadN X5.here hx rfl (hb hby at_27) rfl rfl k) ?_
    obtain ⟨_, _, ⟨T6, L6, k6, n6⟩, -, X6, ⟨Lc6, hQ6, l6, y6, z6⟩, st6⟩ := Jvm.LawKit.callS X5 hx (y := (⟨"com/example/quillon/quillon/engine/RowQueueIsIdlePinLaw", "step", "(Lcom/example/quillon/quillon/engine/RowQueue;Lcom/example/quillon/quillon/engine/LockWait;I[I)V"⟩ : MethodName)) hown (mvT hZ (hw _ (List.mem_of_getElem? (i := 19) rfl))) (mvT hZ (hw _ (List.mem_of_getElem? (i := 20) rfl))) (mvT hZ (hw _ (List.mem_of_getElem? (i := 21) rfl))) (mvT hZ (hw _ (List.mem_of_getElem? (i := 22) rfl))) (by decide) (backOf (W := 0) (rmOp l Z a0 hw [] b2 b4 (p0 &&& (7 : Int32)) am kc false (0 : Int32) (0 : Int32) (0 : Int32) T5.heap n0 ZH5 F5 V5 hne gq gm) hZ (hw _ (List.mem_of_getElem? (i := 22) rfl)) (hw _ (List.mem_of_getElem? (i := 21) rfl)) (by decide) (by decide)) (g := (mkF m 28 #[.val (.int p0), .val (.ref am), .val (.ref b2), .val (.ref b4), .unset] [(.ref am), (.int (p0 &&& (7 : Int32))), (.ref b4), (.ref b2)])) rfl (by rw [hml]; rfl) (argsL := [(.ref b2), (.ref b4), (.int (p0 &&& (7 : Int32))), (.ref am)]) (rest := []) (lenOf pd0_2 rfl) rfl (by show 2 * 0 + _ ≤ _; exact Nat.le_of_eq rfl) (hb hby at_28) (fun _ _ => ⟨rfl, rfl, (by decide : 3 + 0 ≤ _), (by decide : 14 + 0 ≤ _)⟩)
    dsimp only [Pt.U, Pt.locs, Pt.cells, Pt.slots] at X6 l6 y6 z6 st6 hQ6
    subst l6 y6 z6
    obtain ⟨rfl, Nq6, SZ6, bb6, tn6, lr6, pz6, F6, V6⟩ := hQ6
    have N6 := Fr.app N5 Nq6
    have ZH6 : n0 ≤ T6.heap.size := Nat.le_trans ZH5 SZ6
    refine own_pre (B := T6.setTop (mkF m 31 #[.val (.int p0), .val (.ref am), .val (.ref b2), .val (.ref b4), .unset] [])) st6 ?_
    refine own_pre (B := T6.setTop (mkF m 32 #[.val (.int p0), .val (.ref am), .val (.ref b2), .val (.ref b4), .unset] [(.ref b2)])) (fun t k => XS.aloadN X6.here hx rfl (hb hby at_31) rfl rfl k) ?_
    refine own_pre (B := T6.setTop (mkF m 33 #[.val (.int p0), .val (.ref am), .val (.ref b2), .val (.ref b4), .unset] [(.ref b4), (.ref b2)])) (fun t k => XS.aloadN X6.here hx rfl (hb hby at_32) rfl rfl k) ?_
    refine own_pre (B := T6.setTop (mkF m 34 #[.val (.int p0), .val (.ref am), .val (.ref b2), .val (.ref b4), .unset] [(.int p0), (.ref b4), (.ref b2)])) (fun t k => XS.iloadN X6.here hx rfl (hb hby at_33) rfl k) ?_
    refine own_pre (B := T6.setTop (mkF m 35 #[.val (.int p0), .val (.ref am), .val (.ref b2), .val (.ref b4), .unset] [(.int (3 : Int32)), (.int p0), (.ref b4), (.ref b2)])) (fun t k => XS.iconst X6.here hx rfl (hb hby at_34) k) ?_
    refine own_pre (B := T6.setTop (mkF m 36 #[.val (.int p0), .val (.ref am), .val (.ref b2), .val (.ref b4), .unset] [(.int ((p0.toUInt32 >>> ((3 : Int32) &&& 31).toUInt32).toInt32)), (.ref b4), (.ref b2)])) (fun t k => XS.iushr X6.here hx rfl (hb hby at_35) rfl k) ?_
    refine own_pre (B := T6.setTop (mkF m 38 #[.val (.int p0), .val (.ref am), .val (.ref b2), .val (.ref b4), .unset] [(.int (7 : Int32)), (.int ((p0.toUInt32 >>> ((3 : Int32) &&& 31).toUInt32).toInt32)), (.ref b4), (.ref b2)])) (fun t k => XS.bipush X6.here hx rfl (hb hby at_36) k) ?_
    refine own_pre (B := T6.setTop (mkF m 39 #[.val (.int p0), .val (.ref am), .val (.ref b2), .val (.ref b4), .unset] [(.int (((p0.toUInt32 >>> ((3 : Int32) &&& 31).toUInt32).toInt32) &&& (7 : Int32))), (.ref b4), (.ref b2)])) (fun t k => XS.iand X6.here hx rfl (hb hby at_38) rfl k) ?_
    refine own_pre (B := T6.setTop (mkF m 40 #[.val (.int p0), .val (.ref am), .val (.ref b2), .val (.ref b4), .unset] [(.ref am), (.int (((p0.toUInt32 >>> ((3 : Int32) &&& 31).toUInt32).toInt32) &&& (7 : Int32))), (.ref b4), (.ref b2)])) (fun t k => XS.aloadN X6.here hx rfl (hb hby at_39) rfl rfl k) ?_
    obtain ⟨_, _, ⟨T7, L7, k7, n7⟩, -, X7, ⟨Lc7, hQ7, l7, y7, z7⟩, st7⟩ := Jvm.LawKit.callS X6 hx (y := (⟨"com/example/quillon/quillon/engine/RowQueueIsIdlePinLaw", "step", "(Lcom/example/quillon/quillon/engine/RowQueue;Lcom/example/quillon/quillon/engine/LockWait;I[I)V"⟩ : MethodName)) hown (mvT hZ (hw _ (List.mem_of_getElem? (i := 19) rfl))) (mvT hZ (hw _ (List.mem_of_getElem? (i := 20) rfl))) (mvT hZ (hw _ (List.mem_of_getElem? (i := 21) rfl))) (mvT hZ (hw _ (List.mem_of_getElem? (i := 22) rfl))) (by decide) (backOf (W := 0) (rmOp l Z a0 hw [] b2 b4 (((p0.toUInt32 >>> ((3 : Int32) &&& 31).toUInt32).toInt32) &&& (7 : Int32)) am kc bb6 tn6 lr6 pz6 T6.heap n0 ZH6 F6 V6 hne gq gm) hZ (hw _ (List.mem_of_getElem? (i := 22) rfl)) (hw _ (List.mem_of_getElem? (i := 21) rfl)) (by decide) (by decide)) (g := (mkF m 40 #[.val (.int p0), .val (.ref am), .val (.ref b2), .val (.ref b4), .unset] [(.ref am), (.int (((p0.toUInt32 >>> ((3 : Int32) &&& 31).toUInt32).toInt32) &&& (7 : Int32))), (.ref b4), (.ref b2)])) rfl (by rw [hml]; rfl) (argsL := [(.ref b2), (.ref b4), (.int (((p0.toUInt32 >>> ((3 : Int32) &&& 31).toUInt32).toInt32) &&& (7 : Int32))), (.ref am)]) (rest := []) (lenOf pd0_2 rfl) rfl (by show 2 * 0 + _ ≤ _; exact Nat.le_of_eq rfl) (hb hby at_40) (fun _ _ => ⟨rfl, rfl, (by decide : 3 + 0 ≤ _), (by decide : 14 + 0 ≤ _)⟩)
    dsimp only [Pt.U, Pt.locs, Pt.cells, Pt.slots] at X7 l7 y7 z7 st7 hQ7
    subst l7 y7 z7
    obtain ⟨rfl, Nq7, SZ7, bb7, tn7, lr7, pz7, F7, V7⟩ := hQ7
    have N7 := Fr.app N6 Nq7
    have ZH7 : n0 ≤ T7.heap.size := Nat.le_trans ZH6 SZ7
    refine own_pre (B := T7.setTop (mkF m 43 #[.val (.int p0), .val (.ref am), .val (.ref b2), .val (.ref b4), .unset] [])) st7 ?_
    refine own_pre (B := T7.setTop (mkF m 44 #[.val (.int p0), .val (.ref am), .val (.ref b2), .val (.ref b4), .unset] [(.ref b2)])) (fun t k => XS.aloadN X7.here hx rfl (hb hby at_43) rfl rfl k) ?_
    refine own_pre (B := T7.setTop (mkF m 45 #[.val (.int p0), .val (.ref am), .val (.ref b2), .val (.ref b4), .unset] [(.ref b4), (.ref b2)])) (fun t k => XS.aloadN X7.here hx rfl (hb hby at_44) rfl rfl k) ?_
    refine own_pre (B := T7.setTop (mkF m 46 #[.val (.int p0), .val (.ref am), .val (.ref b2), .val (.ref b4), .unset] [(.int p0), (.ref b4), (.ref b2)])) (fun t k => XS.iloadN X7.here hx rfl (hb hby at_45) rfl k) ?_
    refine own_pre (B := T7.setTop (mkF m 48 #[.val (.int p0), .val (.ref am), .val (.ref b2), .val (.ref b4), .unset] [(.int (6 : Int32)), (.int p0), (.ref b4), (.ref b2)])) (fun t k => XS.bipush X7.here hx rfl (hb hby at_46) k) ?_
    refine own_pre (B := T7.setTop (mkF m 49 #[.val (.int p0), .val (.ref am), .val (.ref b2), .val (.ref b4), .unset] [(.int ((p0.toUInt32 >>> ((6 : Int32) &&& 31).toUInt32).toInt32)), (.ref b4), (.ref b2)])) (fun t k => XS.iushr X7.here hx rfl (hb hby at_48) rfl k) ?_
    refine own_pre (B := T7.setTop (mkF m 51 #[.val (.int p0), .val (.ref am), .val (.ref b2), .val (.ref b4), .unset] [(.int (7 : Int32)), (.int ((p0.toUInt32 >>> ((6 : Int32) &&& 31).toUInt32).toInt32)), (.ref b4), (.ref b2)])) (fun t k => XS.bipush X7.here hx rfl (hb hby at_49) k) ?_
    refine own_pre (B := T7.setTop (mkF m 52 #[.val (.int p0), .val (.ref am), .val (.ref b2), .val (.ref b4), .unset] [(.int (((p0.toUInt32 >>> ((6 : Int32) &&& 31).toUInt32).toInt32) &&& (7 : Int32))), (.ref b4), (.ref b2)])) (fun t k => XS.iand X7.here hx rfl (hb hby at_51) rfl k) ?_
    refine own_pre (B := T7.setTop (mkF m 53 #[.val (.int p0), .val (.ref am), .val (.ref b2), .val (.ref b4), .unset] [(.ref am), (.int (((p0.toUInt32 >>> ((6 : Int32) &&& 31).toUInt32).toInt32) &&& (7 : Int32))), (.ref b4), (.ref b2)])) (fun t k => XS.aloadN X7.here hx rfl (hb hby at_52) rfl rfl k) ?_
    obtain ⟨_, _, ⟨T8, L8, k8, n8⟩, -, X8, ⟨Lc8, hQ8, l8, y8, z8⟩, st8⟩ := Jvm.LawKit.callS X7 hx (y := (⟨"com/example/quillon/quillon/engine/RowQueueIsIdlePinLaw", "step", "(Lcom/example/quillon/quillon/engine/RowQueue;Lcom/example/quillon/quillon/engine/LockWait;I[I)V"⟩ : MethodName)) hown (mvT hZ (hw _ (List.mem_of_getElem? (i := 19) rfl))) (mvT hZ (hw _ (List.mem_of_getElem? (i := 20) rfl))) (mvT hZ (hw _ (List.mem_of_getElem? (i := 21) rfl))) (mvT hZ (hw _ (List.mem_of_getElem? (i := 22) rfl))) (by decide) (backOf (W := 0) (rmOp l Z a0 hw [] b2 b4 (((p0.toUInt32 >>> ((6 : Int32) &&& 31).toUInt32).toInt32) &&& (7 : Int32)) am kc bb7 tn7 lr7 pz7 T7.heap n0 ZH7 F7 V7 hne gq gm) hZ (hw _ (List.mem_of_getElem? (i := 22) rfl)) (hw _ (List.mem_of_getElem? (i := 21) rfl)) (by decide) (by decide)) (g := (mkF m 53 #[.val (.int p0), .val (.ref am), .val (.ref b2), .val (.ref b4), .unset] [(.ref am), (.int (((p0.toUInt32 >>> ((6 : Int32) &&& 31).toUInt32).toInt32) &&& (7 : Int32))), (.ref b4), (.ref b2)])) rfl (by rw [hml]; rfl) (argsL := [(.ref b2), (.ref b4), (.int (((p0.toUInt32 >>> ((6 : Int32) &&& 31).toUInt32).toInt32) &&& (7 : Int32))), (.ref am)]) (rest := []) (lenOf pd0_2 rfl) rfl (by show 2 * 0 + _ ≤ _; exact Nat.le_of_eq rfl) (hb hby at_53) (fun _ _ => ⟨rfl, rfl, (by decide : 3 + 0 ≤ _), (by decide : 14 + 0 ≤ _)⟩)
    dsimp only [Pt.U, Pt.locs, Pt.cells, Pt.slots] at X8 l8 y8 z8 st8 hQ8
    subst l8 y8 z8
    obtain ⟨rfl, Nq8, SZ8, bb8, tn8, lr8, pz8, F8, V8⟩ := hQ8
    have N8 := Fr.app N7 Nq8
    have ZH8 : n0 ≤ T8.heap.size := Nat.le_trans ZH7 SZ8
    refine own_pre (B := T8.setTop (mkF m 56 #[.val (.int p0), .val (.ref am), .val (.ref b2), .val (.ref b4), .unset] [])) st8 ?_
    refine own_pre (B := T8.setTop (mkF m 57 #[.val (.int p0), .val (.ref am), .val (.ref b2), .val (.ref b4), .unset] [(.ref b2)])) (fun t k => XS.aloadN X8.here hx rfl (hb hby at_56) rfl rfl k) ?_
    refine own_pre (B := T8.setTop (mkF m 58 #[.val (.int p0), .val (.ref am), .val (.ref b2), .val (.ref b4), .unset] [(.ref b4), (.ref b2)])) (fun t k => XS.aloadN X8.here hx rfl (hb hby at_57) rfl rfl k) ?_
    refine own_pre (B := T8.setTop (mkF m 59 #[.val (.int p0), .val (.ref am), .val (.ref b2), .val (.ref b4), .unset] [(.int p0), (.ref b4), (.ref b2)])) (fun t k => XS.iloadN X8.here hx rfl (hb hby at_58) rfl k) ?_
    refine own_pre (B := T8.setTop (mkF m 61 #[.val (.int p0), .val (.ref am), .val (.ref b2), .val (.ref b4), .unset] [(.int (9 : Int32)), (.int p0), (.ref b4), (.ref b2)])) (fun t k => XS.bipush X8.here hx rfl (hb hby at_59) k) ?_
    refine own_pre (B := T8.setTop (mkF m 62 #[.val (.int p0), .val (.ref am), .val (.ref b2), .val (.ref b4), .unset] [(.int ((p0.toUInt32 >>> ((9 : Int32) &&& 31).toUInt32).toInt32)), (.ref b4), (.ref b2)])) (fun t k => XS.iushr X8.here hx rfl (hb hby at_61) rfl k) ?_
    refine own_pre (B := T8.setTop (mkF m 64 #[.val (.int p0), .val (.ref am), .val (.ref b2), .val (.ref b4), .unset] [(.int (7 : Int32)), (.int ((p0.toUInt32 >>> ((9 : Int32) &&& 31).toUInt32).toInt32)), (.ref b4), (.ref b2)])) (fun t k => XS.bipush X8.here hx rfl (hb hby at_62) k) ?_
    refine own_pre (B := T8.setTop (mkF m 65 #[.val (.int p0), .val (.ref am), .val (.ref b2), .val (.ref b4), .unset] [(.int (((p0.toUInt32 >>> ((9 : Int32) &&& 31).toUInt32).toInt32) &&& (7 : Int32))), (.ref b4), (.ref b2)])) (fun t k => XS.iand X8.here hx rfl (hb hby at_64) rfl k) ?_
    refine own_pre (B := T8.setTop (mkF m 66 #[.val (.int p0), .val (.ref am), .val (.ref b2), .val (.ref b4), .unset] [(.ref am), (.int (((p0.toUInt32 >>> ((9 : Int32) &&& 31).toUInt32).toInt32) &&& (7 : Int32))), (.ref b4), (.ref b2)])) (fun t k => XS.aloadN X8.here hx rfl (hb hby at_65) rfl rfl k) ?_
    obtain ⟨_, _, ⟨T9, L9, k9, n9⟩, -, X9, ⟨Lc9, hQ9, l9, y9, z9⟩, st9⟩ := Jvm.LawKit.callS X8 hx (y := (⟨"com/example/quillon/quillon/engine/RowQueueIsIdlePinLaw", "step", "(Lcom/example/quillon/quillon/engine/RowQueue;Lcom/example/quillon/quillon/engine/LockWait;I[I)V"⟩ : MethodName)) hown (mvT hZ (hw _ (List.mem_of_getElem? (i := 19) rfl))) (mvT hZ (hw _ (List.mem_of_getElem? (i := 20) rfl))) (mvT hZ (hw _ (List.mem_of_getElem? (i := 21) rfl))) (mvT hZ (hw _ (List.mem_of_getElem? (i := 22) rfl))) (by decide) (backOf (W := 0) (rmOp l Z a0 hw [] b2 b4 (((p0.toUInt32 >>> ((9 : Int32) &&& 31).toUInt32).toInt32) &&& (7 : Int32)) am kc bb8 tn8 lr8 pz8 T8.heap n0 ZH8 F8 V8 hne gq gm) hZ (hw _ (List.mem_of_getElem? (i := 22) rfl)) (hw _ (List.mem_of_getElem? (i := 21) rfl)) (by decide) (by decide)) (g := (mkF m 66 #[.val (.int p0), .val (.ref am), .val (.ref b2), .val (.ref b4), .unset] [(.ref am), (.int (((p0.toUInt32 >>> ((9 : Int32) &&& 31).toUInt32).toInt32) &&& (7 : Int32))), (.ref b4), (.ref b2)])) rfl (by rw [hml]; rfl) (argsL := [(.ref b2), (.ref b4), (.int (((p0.toUInt32 >>> ((9 : Int32) &&& 31).toUInt32).toInt32) &&& (7 : Int32))), (.ref am)]) (rest := []) (lenOf pd0_2 rfl) rfl (by show 2 * 0 + _ ≤ _; exact Nat.le_of_eq rfl) (hb hby at_66) (fun _ _ => ⟨rfl, rfl, (by decide : 3 + 0 ≤ _), (by decide : 14 + 0 ≤ _)⟩)
    dsimp only [Pt.U, Pt.locs, Pt.cells, Pt.slots] at X9 l9 y9 z9 st9 hQ9
    subst l9 y9 z9
    obtain ⟨rfl, Nq9, SZ9, bb9, tn9, lr9, pz9, F9, V9⟩ := hQ9
    have N9 := Fr.app N8 Nq9
    have ZH9 : n0 ≤ T9.heap.size := Nat.le_trans ZH8 SZ9
    refine own_pre (B := T9.setTop (mkF m 69 #[.val (.int p0), .val (.ref am), .val (.ref b2), .val (.ref b4), .unset] [])) st9 ?_
    refine own_pre (B := T9.setTop (mkF m 70 #[.val (.int p0), .val (.ref am), .val (.ref b2), .val (.ref b4), .unset] [(.ref b2)])) (fun t k => XS.aloadN X9.here hx rfl (hb hby at_69) rfl rfl k) ?_
    refine own_pre (B := T9.setTop (mkF m 71 #[.val (.int p0), .val (.ref am), .val (.ref b2), .val (.ref b4), .unset] [(.ref b4), (.ref b2)])) (fun t k => XS.aloadN X9.here hx rfl (hb hby at_70) rfl rfl k) ?_
    refine own_pre (B := T9.setTop (mkF m 72 #[.val (.int p0), .val (.ref am), .val (.ref b2), .val (.ref b4), .unset] [(.int p0), (.ref b4), (.ref b2)])) (fun t k => XS.iloadN X9.here hx rfl (hb hby at_71) rfl k) ?_
    refine own_pre (B := T9.setTop (mkF m 74 #[.val (.int p0), .val (.ref am), .val (.ref b2), .val (.ref b4), .unset] [(.int (12 : Int32)), (.int p0), (.ref b4), (.ref b2)])) (fun t k => XS.bipush X9.here hx rfl (hb hby at_72) k) ?_
    refine own_pre (B := T9.setTop (mkF m 75 #[.val (.int p0), .val (.ref am), .val (.ref b2), .val (.ref b4), .unset] [(.int ((p0.toUInt32 >>> ((12 : Int32) &&& 31).toUInt32).toInt32)), (.ref b4), (.ref b2)])) (fun t k => XS.iushr X9.here hx rfl (hb hby at_74) rfl k) ?_
    refine own_pre (B := T9.setTop (mkF m 77 #[.val (.int p0), .val (.ref am), .val (.ref b2), .val (.ref b4), .unset] [(.int (7 : Int32)), (.int ((p0.toUInt32 >>> ((12 : Int32) &&& 31).toUInt32).toInt32)), (.ref b4), (.ref b2)])) (fun t k => XS.bipush X9.here hx rfl (hb hby at_75) k) ?_
    refine own_pre (B := T9.setTop (mkF m 78 #[.val (.int p0), .val (.ref am), .val (.ref b2), .val (.ref b4), .unset] [(.int (((p0.toUInt32 >>> ((12 : Int32) &&& 31).toUInt32).toInt32) &&& (7 : Int32))), (.ref b4), (.ref b2)])) (fun t k => XS.iand X9.here hx rfl (hb hby at_77) rfl k) ?_
    refine own_pre (B := T9.setTop (mkF m 79 #[.val (.int p0), .val (.ref am), .val (.ref b2), .val (.ref b4), .unset] [(.ref am), (.int (((p0.toUInt32 >>> ((12 : Int32) &&& 31).toUInt32).toInt32) &&& (7 : Int32))), (.ref b4), (.ref b2)])) (fun t k => XS.aloadN X9.here hx rfl (hb hby at_78) rfl rfl k) ?_
    obtain ⟨_, _, ⟨T10, L10, k10, n10⟩, -, X10, ⟨Lc10, hQ10, l10, y10, z10⟩, st10⟩ := Jvm.LawKit.callS X9 hx (y := (⟨"com/example/quillon/quillon/engine/RowQueueIsIdlePinLaw", "step", "(Lcom/example/quillon/quillon/engine/RowQueue;Lcom/example/quillon/quillon/engine/LockWait;I[I)V"⟩ : MethodName)) hown (mvT hZ (hw _ (List.mem_of_getElem? (i := 19) rfl))) (mvT hZ (hw _ (List.mem_of_getElem? (i := 20) rfl))) (mvT hZ (hw _ (List.mem_of_getElem? (i := 21) rfl))) (mvT hZ (hw _ (List.mem_of_getElem? (i := 22) rfl))) (by decide) (backOf (W := 0) (rmOp l Z a0 hw [] b2 b4 (((p0.toUInt32 >>> ((12 : Int32) &&& 31).toUInt32).toInt32) &&& (7 : Int32)) am kc bb9 tn9 lr9 pz9 T9.heap n0 ZH9 F9 V9 hne gq gm) hZ (hw _ (List.mem_of_getElem? (i := 22) rfl)) (hw _ (List.mem_of_getElem? (i := 21) rfl)) (by decide) (by decide)) (g := (mkF m 79 #[.val (.int p0), .val (.ref am), .val (.ref b2), .val (.ref b4), .unset] [(.ref am), (.int (((p0.toUInt32 >>> ((12 : Int32) &&& 31).toUInt32).toInt32) &&& (7 : Int32))), (.ref b4), (.ref b2)])) rfl (by rw [hml]; rfl) (argsL := [(.ref b2), (.ref b4), (.int (((p0.toUInt32 >>> ((12 : Int32) &&& 31).toUInt32).toInt32) &&& (7 : Int32))), (.ref am)]) (rest := []) (lenOf pd0_2 rfl) rfl (by show 2 * 0 + _ ≤ _; exact Nat.le_of_eq rfl) (hb hby at_79) (fun _ _ => ⟨rfl, rfl, (by decide : 3 + 0 ≤ _), (by decide : 14 + 0 ≤ _)⟩)
    dsimp only [Pt.U, Pt.locs, Pt.cells, Pt.slots] at X10 l10 y10 z10 st10 hQ10
    subst l10 y10 z10
    obtain ⟨rfl, Nq10, SZ10, bb10, tn10, lr10, pz10, F10, V10⟩ := hQ10
    have N10 := Fr.app N9 Nq10
    have ZH10 : n0 ≤ T10.heap.size := Nat.le_trans ZH9 SZ10
    refine own_pre (B := T10.setTop (mkF m 82 #[.val (.int p0), .val (.ref am), .val (.ref b2), .val (.ref b4), .unset] [])) st10 ?_
    refine own_pre (B := T10.setTop (mkF m 83 #[.val (.int p0), .val (.ref am), .val (.ref b2), .val (.ref b4), .unset] [(.ref b2)])) (fun t k => XS.aloadN X10.here hx rfl (hb hby at_82) rfl rfl k) ?_
    refine own_pre (B := T10.setTop (mkF m 84 #[.val (.int p0), .val (.ref am), .val (.ref b2), .val (.ref b4), .unset] [(.ref b4), (.ref b2)])) (fun t k => XS.aloadN X10.here hx rfl (hb hby at_83) rfl rfl k) ?_
    refine own_pre (B := T10.setTop (mkF m 85 #[.val (.int p0), .val (.ref am), .val (.ref b2), .val (.ref b4), .unset] [(.int p0), (.ref b4), (.ref b2)])) (fun t k => XS.iloadN X10.here hx rfl (hb hby at_84) rfl k) ?_
    refine own_pre (B := T10.setTop (mkF m 87 #[.val (.int p0), .val (.ref am), .val (.ref b2), .val (.ref b4), .unset] [(.int (15 : Int32)), (.int p0), (.ref b4), (.ref b2)])) (fun t k => XS.bipush X10.here hx rfl (hb hby at_85) k) ?_
    refine own_pre (B := T10.setTop (mkF m 88 #[.val (.int p0), .val (.ref am), .val (.ref b2), .val (.ref b4), .unset] [(.int ((p0.toUInt32 >>> ((15 : Int32) &&& 31).toUInt32).toInt32)), (.ref b4), (.ref b2)])) (fun t k => XS.iushr X10.here hx rfl (hb hby at_87) rfl k) ?_
    refine own_pre (B := T10.setTop (mkF m 90 #[.val (.int p0), .val (.ref am), .val (.ref b2), .val (.ref b4), .unset] [(.int (7 : Int32)), (.int ((p0.toUInt32 >>> ((15 : Int32) &&& 31).toUInt32).toInt32)), (.ref b4), (.ref b2)])) (fun t k => XS.bipush X10.here hx rfl (hb hby at_88) k) ?_
    refine own_pre (B := T10.setTop (mkF m 91 #[.val (.int p0), .val (.ref am), .val (.ref b2), .val (.ref b4), .unset] [(.int (((p0.toUInt32 >>> ((15 : Int32) &&& 31).toUInt32).toInt32) &&& (7 : Int32))), (.ref b4), (.ref b2)])) (fun t k => XS.iand X10.here hx rfl (hb hby at_90) rfl k) ?_
    refine own_pre (B := T10.setTop (mkF m 92 #[.val (.int p0), .val (.ref am), .val (.ref b2), .val (.ref b4), .unset] [(.ref am), (.int (((p0.toUInt32 >>> ((15 : Int32) &&& 31).toUInt32).toInt32) &&& (7 : Int32))), (.ref b4), (.ref b2)])) (fun t k => XS.aloadN X10.here hx rfl (hb hby at_91) rfl rfl k) ?_
    obtain ⟨_, _, ⟨T11, L11, k11, n11⟩, -, X11, ⟨Lc11, hQ11, l11, y11, z11⟩, st11⟩ := Jvm.LawKit.callS X10 hx (y := (⟨"com/example/quillon/quillon/engine/RowQueueIsIdlePinLaw", "step", "(Lcom/example/quillon/quillon/engine/RowQueue;Lcom/example/quillon/quillon/engine/LockWait;I[I)V"⟩ : MethodName)) hown (mvT hZ (hw _ (List.mem_of_getElem? (i := 19) rfl))) (mvT hZ (hw _ (List.mem_of_getElem? (i := 20) rfl))) (mvT hZ (hw _ (List.mem_of_getElem? (i := 21) rfl))) (mvT hZ (hw _ (List.mem_of_getElem? (i := 22) rfl))) (by decide) (backOf (W := 0) (rmOp l Z a0 hw [] b2 b4 (((p0.toUInt32 >>> ((15 : Int32) &&& 31).toUInt32).toInt32) &&& (7 : Int32)) am kc bb10 tn10 lr10 pz10 T10.heap n0 ZH10 F10 V10 hne gq gm) hZ (hw _ (List.mem_of_getElem? (i := 22) rfl)) (hw _ (List.mem_of_getElem? (i := 21) rfl)) (by decide) (by decide)) (g := (mkF m 92 #[.val (.int p0), .val (.ref am), .val (.ref b2), .val (.ref b4), .unset] [(.ref am), (.int (((p0.toUInt32 >>> ((15 : Int32) &&& 31).toUInt32).toInt32) &&& (7 : Int32))), (.ref b4), (.ref b2)])) rfl (by rw [hml]; rfl) (argsL := [(.ref b2), (.ref b4), (.int (((p0.toUInt32 >>> ((15 : Int32) &&& 31).toUInt32).toInt32) &&& (7 : Int32))), (.ref am)]) (rest := []) (lenOf pd0_2 rfl) rfl (by show 2 * 0 + _ ≤ _; exact Nat.le_of_eq rfl) (hb hby at_92) (fun _ _ => ⟨rfl, rfl, (by decide : 3 + 0 ≤ _), (by decide : 14 + 0 ≤ _)⟩)
    dsimp only [Pt.U, Pt.locs, Pt.cells, Pt.slots] at X11 l11 y11 z11 st11 hQ11
    subst l11 y11 z11
    obtain ⟨rfl, Nq11, SZ11, bb11, tn11, lr11, pz11, F11, V11⟩ := hQ11
    have N11 := Fr.app N10 Nq11
    have ZH11 : n0 ≤ T11.heap.size := Nat.le_trans ZH10 SZ11
    refine own_pre (B := T11.setTop (mkF m 95 #[.val (.int p0), .val (.ref am), .val (.ref b2), .val (.ref b4), .unset] [])) st11 ?_
    refine own_pre (B := T11.setTop (mkF m 96 #[.val (.int p0), .val (.ref am), .val (.ref b2), .val (.ref b4), .unset] [(.ref am)])) (fun t k => XS.aloadN X11.here hx rfl (hb hby at_95) rfl rfl k) ?_
    refine own_pre (B := T11.setTop (mkF m 97 #[.val (.int p0), .val (.ref am), .val (.ref b2), .val (.ref b4), .unset] [(.int (0 : Int32)), (.ref am)])) (fun t k => XS.iconst X11.here hx rfl (hb hby at_96) k) ?_
    refine own_pre (B := T11.setTop (mkF m 98 #[.val (.int p0), .val (.ref am), .val (.ref b2), .val (.ref b4), .unset] [(.int (own_e bb11))])) (own_ld X11 hx hZ rfl V11 (j := (0 : Int32)) (v := (own_e bb11)) ⟨by decide, by decide⟩ rfl (g := (mkF m 97 #[.val (.int p0), .val (.ref am), .val (.ref b2), .val (.ref b4), .unset] [(.int (0 : Int32)), (.ref am)])) rfl rfl (hb hby at_97)) ?_
    by_cases hc12 : (own_e bb11) = (0 : Int32)
    · skip
      refine own_pre (B := T11.setTop (mkF m 101 #[.val (.int p0), .val (.ref am), .val (.ref b2), .val (.ref b4), .unset] [])) (fun t k => XS.ifNo X11.here hx rfl (hb hby at_98) rfl ((if0 _ _).trans (teq hc12).2) k) ?_
      refine own_pre (B := T11.setTop (mkF m 102 #[.val (.int p0), .val (.ref am), .val (.ref b2), .val (.ref b4), .unset] [(.ref am)])) (fun t k => XS.aloadN X11.here hx rfl (hb hby at_101) rfl rfl k) ?_
      refine own_pre (B := T11.setTop (mkF m 103 #[.val (.int p0), .val (.ref am), .val (.ref b2), .val (.ref b4), .unset] [(.int (1 : Int32)), (.ref am)])) (fun t k => XS.iconst X11.here hx rfl (hb hby at_102) k) ?_
      refine own_pre (B := T11.setTop (mkF m 104 #[.val (.int p0), .val (.ref am), .val (.ref b2), .val (.ref b4), .unset] [(.int tn11)])) (own_ld X11 hx hZ rfl V11 (j := (1 : Int32)) (v := tn11) ⟨by decide, by decide⟩ rfl (g := (mkF m 103 #[.val (.int p0), .val (.ref am), .val (.ref b2), .val (.ref b4), .unset] [(.int (1 : Int32)), (.ref am)])) rfl rfl (hb hby at_103)) ?_
      by_cases hc14 : tn11 = (0 : Int32)
      · skip
        refine own_pre (B := T11.setTop (mkF m 107 #[.val (.int p0), .val (.ref am), .val (.ref b2), .val (.ref b4), .unset] [])) (fun t k => XS.ifNo X11.here hx rfl (hb hby at_104) rfl ((if0 _ _).trans (teq hc14).2) k) ?_
        refine own_pre (B := T11.setTop (mkF m 108 #[.val (.int p0), .val (.ref am), .val (.ref b2), .val (.ref b4), .unset] [(.ref am)])) (fun t k => XS.aloadN X11.here hx rfl (hb hby at_107) rfl rfl k) ?_
        refine own_pre (B := T11.setTop (mkF m 109 #[.val (.int p0), .val (.ref am), .val (.ref b2), .val (.ref b4), .unset] [(.int (2 : Int32)), (.ref am)])) (fun t k => XS.iconst X11.here hx rfl (hb hby at_108) k) ?_
        refine own_pre (B := T11.setTop (mkF m 110 #[.val (.int p0), .val (.ref am), .val (.ref b2), .val (.ref b4), .unset] [(.int lr11)])) (own_ld X11 hx hZ rfl V11 (j := (2 : Int32)) (v := lr11) ⟨by decide, by decide⟩ rfl (g := (mkF m 109 #[.val (.int p0), .val (.ref am), .val (.ref b2), .val (.ref b4), .unset] [(.int (2 : Int32)), (.ref am)])) rfl rfl (hb hby at_109)) ?_
        by_cases hc16 : lr11 = (0 : Int32)
        · skip
          refine own_pre (B := T11.setTop (mkF m 113 #[.val (.int p0), .val (.ref am), .val (.ref b2), .val (.ref b4), .unset] [])) (fun t k => XS.ifNo X11.here hx rfl (hb hby at_110) rfl ((if0 _ _).trans (teq hc16).2) k) ?_
          refine own_pre (B := T11.setTop (mkF m 114 #[.val (.int p0), .val (.ref am), .val (.ref b2), .val (.ref b4), .unset] [(.int (1 : Int32))])) (fun t k => XS.iconst X11.here hx rfl (hb hby at_113) k) ?_
          refine own_pre (B := T11.setTop (mkF m 118 #[.val (.int p0), .val (.ref am), .val (.ref b2), .val (.ref b4), .unset] [(.int (1 : Int32))])) (fun t k => XS.goto X11.here hx rfl (pc0 := 114) (pc' := 118) rfl (hb hby at_114) (by decide) (by decide) k) ?_
          refine own_pre (B := T11.setTop (mkF m 120 #[.val (.int p0), .val (.ref am), .val (.ref b2), .val (.ref b4), .val (.int (1 : Int32))] [])) (fun t k => XS.istore X11.here hx rfl (hb hby at_118) rfl (l' := #[.val (.int p0), .val (.ref am), .val (.ref b2), .val (.ref b4), .val (.int (1 : Int32))]) rfl k) ?_
          refine own_pre (B := T11.setTop (mkF m 121 #[.val (.int p0), .val (.ref am), .val (.ref b2), .val (.ref b4), .val (.int (1 : Int32))] [(.ref b2)])) (fun t k => XS.aloadN X11.here hx rfl (hb hby at_120) rfl rfl k) ?_
          obtain ⟨cq18, kq18, qa18, qb18, qc18⟩ := isOf hZ rfl F11.1
          obtain ⟨_, _, ⟨T18, L18, k18, n18⟩, -, X18, ⟨Lc18, hQ18, l18, y18, z18⟩, st18⟩ := X11.virtualBack hx (y := (⟨"com/example/quillon/quillon/engine/RowQueue", "isIdle", "()Z"⟩ : MethodName)) (z := (⟨"com/example/quillon/quillon/engine/RowQueue", "isIdle", "()Z"⟩ : MethodName)) hown (mvT hZ (hw _ (List.mem_of_getElem? (i := 39) rfl))) (mvT hZ (hw _ (List.mem_of_getElem? (i := 40) rfl))) (notFace_of_selects (args := #[]) (mvT hZ (hw _ (List.mem_of_getElem? (i := 42) rfl)))) (mvT hZ (hw _ (List.mem_of_getElem? (i := 42) rfl))) (mvT hZ (hw _ (List.mem_of_getElem? (i := 41) rfl))) (by decide) (backOf (W := 0) (rmId l Z a0 hw [] b2 b4 bb11 tn11 lr11 pz11 T11.heap n0 ZH11 F11) hZ (hw _ (List.mem_of_getElem? (i := 43) rfl)) (hw _ (List.mem_of_getElem? (i := 3) rfl)) (by decide) (by decide)) qa18 qc18 (g := (mkF m 121 #[.val (.int p0), .val (.ref am), .val (.ref b2), .val (.ref b4), .val (.int (1 : Int32))] [(.ref b2)])) rfl (by rw [hml]; rfl) (Steps.refl _) (argsL := []) (rest := []) (lenOf pd0_3 rfl) rfl (by show 2 * 0 + _ ≤ _; exact Nat.le_of_eq rfl) (hb hby at_121) (fun _ _ => ⟨rfl, rfl, (by decide : 3 + 0 ≤ _), (by decide : 14 + 0 ≤ _)⟩)
          dsimp only [Pt.U, Pt.locs, Pt.cells, Pt.slots] at X18 l18 y18 z18 st18 hQ18
          subst l18 y18 z18
          obtain ⟨rfl, Nq18, e18⟩ := hQ18
          have N18 := Fr.app N11 Nq18
          have eh18 : T18.heap = T11.heap := e18
          refine own_pre (B := T18.setTop (mkF m 124 #[.val (.int p0), .val (.ref am), .val (.ref b2), .val (.ref b4), .val (.int (1 : Int32))] [(.int (own_idle bb11 tn11 lr11))])) (fun t q => st18.trans q) ?_
          refine own_pre (B := T18.setTop (mkF m 126 #[.val (.int p0), .val (.ref am), .val (.ref b2), .val (.ref b4), .val (.int (1 : Int32))] [(.int (1 : Int32)), (.int (own_idle bb11 tn11 lr11))])) (fun t k => XS.iload X18.here hx rfl (hb hby at_124) rfl k) ?_
          refine own_pre (B := T18.setTop (mkF m 129 #[.val (.int p0), .val (.ref am), .val (.ref b2), .val (.ref b4), .val (.int (1 : Int32))] [])) (fun t k => XS.icmpNo X18.here hx rfl (hb hby at_126) rfl (teq (own_id1 hc12 hc14 hc16 : (own_idle bb11 tn11 lr11) = (1 : Int32))).2 k) ?_
          refine own_pre (B := T18.setTop (mkF m 130 #[.val (.int p0), .val (.ref am), .val (.ref b2), .val (.ref b4), .val (.int (1 : Int32))] [(.int (1 : Int32))])) (fun t k => XS.iconst X18.here hx rfl (hb hby at_129) k) ?_
          refine own_pre (B := T18.setTop (mkF m 134 #[.val (.int p0), .val (.ref am), .val (.ref b2), .val (.ref b4), .val (.int (1 : Int32))] [(.int (1 : Int32))])) (fun t k => XS.goto X18.here hx rfl (pc0 := 130) (pc' := 134) rfl (hb hby at_130) (by decide) (by decide) k) ?_
          exact own_retZ X18 hx hlk Bd.returns (hb hby at_134) (⟨rfl, N18⟩) (by decide) (by decide)
        · skip
          refine own_pre (B := T11.setTop (mkF m 117 #[.val (.int p0), .val (.ref am), .val (.ref b2), .val (.ref b4), .unset] [])) (fun t k => XS.ifYes X11.here hx rfl (pc0 := 110) (pc' := 117) rfl (hb hby at_110) rfl ((if0 _ _).trans (feq hc16).2) (by decide) (by decide) k) ?_
          refine own_pre (B := T11.setTop (mkF m 118 #[.val (.int p0), .val (.ref am), .val (.ref b2), .val (.ref b4), .unset] [(.int (0 : Int32))])) (fun t k => XS.iconst X11.here hx rfl (hb hby at_117) k) ?_
          refine own_pre (B := T11.setTop (mkF m 120 #[.val (.int p0), .val (.ref am), .val (.ref b2), .val (.ref b4), .val (.int (0 : Int32))] [])) (fun t k => XS.istore X11.here hx rfl (hb hby at_118) rfl (l' := #[.val (.int p0), .val (.ref am), .val (.ref b2), .val (.ref b4), .val (.int (0 : Int32))]) rfl k) ?_
          refine own_pre (B := T11.setTop (mkF m 121 #[.val (.int p0), .val (.ref am), .val (.ref b2), .val (.ref b4), .val (.int (0 : Int32))] [(.ref b2)])) (fun t k => XS.aloadN X11.here hx rfl (hb hby at_120) rfl rfl k) ?_
          obtain ⟨cq20, kq20, qa20, qb20, qc20⟩ := isOf hZ rfl F11.1
          obtain ⟨_, _, ⟨T20, L20, k20, n20⟩, -, X20, ⟨Lc20, hQ20, l20, y20, z20⟩, st20⟩ := X11.virtualBack hx (y := (⟨"com/example/quillon/quillon/engine/RowQueue", "isIdle", "()Z"⟩ : MethodName)) (z := (⟨"com/example/quillon/quillon/engine/RowQueue", "isIdle", "()Z"⟩ : MethodName)) hown (mvT hZ (hw _ (List.mem_of_getElem? (i := 39) rfl))) (mvT hZ (hw _ (List.mem_of_getElem? (i := 40) rfl))) (notFace_of_selects (args := #[]) (mvT hZ (hw _ (List.mem_of_getElem? (i := 42) rfl)))) (mvT hZ (hw _ (List.mem_of_getElem? (i := 42) rfl))) (mvT hZ (hw _ (List.mem_of_getElem? (i := 41) rfl))) (by decide) (backOf (W := 0) (rmId l Z a0 hw [] b2 b4 bb11 tn11 lr11 pz11 T11.heap n0 ZH11 F11) hZ (hw _ (List.mem_of_getElem? (i := 43) rfl)) (hw _ (List.mem_of_getElem? (i := 3) rfl)) (by decide) (by decide)) qa20 qc20 (g := (mkF m 121 #[.val (.int p0), .val (.ref am), .val (.ref b2), .val (.ref b4), .val (.int (0 : Int32))] [(.ref b2)])) rfl (by rw [hml]; rfl) (Steps.refl _) (argsL := []) (rest := []) (lenOf pd0_3 rfl) rfl (by show 2 * 0 + _ ≤ _; exact Nat.le_of_eq rfl) (hb hby at_121) (fun _ _ => ⟨rfl, rfl, (by decide : 3 + 0 ≤ _), (by decide : 14 + 0 ≤ _)⟩)
          dsimp only [Pt.U, Pt.locs, Pt.cells, Pt.slots] at X20 l20 y20 z20 st20 hQ20
          subst l20 y20 z20
          obtain ⟨rfl, Nq20, e20⟩ := hQ20
          have N20 := Fr.app N11 Nq20
          have eh20 : T20.heap = T11.heap := e20
          refine own_pre (B := T20.setTop (mkF m 124 #[.val (.int p0), .val (.ref am), .val (.ref b2), .val (.ref b4), .val (.int (0 : Int32))] [(.int (own_idle bb11 tn11 lr11))])) (fun t q => st20.trans q) ?_
          refine own_pre (B := T20.setTop (mkF m 126 #[.val (.int p0), .val (.ref am), .val (.ref b2), .val (.ref b4), .val (.int (0 : Int32))] [(.int (0 : Int32)), (.int (own_idle bb11 tn11 lr11))])) (fun t k => XS.iload X20.here hx rfl (hb hby at_124) rfl k) ?_
          refine own_pre (B := T20.setTop (mkF m 129 #[.val (.int p0), .val (.ref am), .val (.ref b2), .val (.ref b4), .val (.int (0 : Int32))] [])) (fun t k => XS.icmpNo X20.here hx rfl (hb hby at_126) rfl (teq (own_id0c hc16 : (own_idle bb11 tn11 lr11) = (0 : Int32))).2 k) ?_
          refine own_pre (B := T20.setTop (mkF m 130 #[.val (.int p0), .val (.ref am), .val (.ref b2), .val (.ref b4), .val (.int (0 : Int32))] [(.int (1 : Int32))])) (fun t k => XS.iconst X20.here hx rfl (hb hby at_129) k) ?_
          refine own_pre (B := T20.setTop (mkF m 134 #[.val (.int p0), .val (.ref am), .val (.ref b2), .val (.ref b4), .val (.int (0 : Int32))] [(.int (1 : Int32))])) (fun t k => XS.goto X20.here hx rfl (pc0 := 130) (pc' := 134) rfl (hb hby at_130) (by decide) (by decide) k) ?_
          exact own_retZ X20 hx hlk Bd.returns (hb hby at_134) (⟨rfl, N20⟩) (by decide) (by decide)
      · skip
        refine own_pre (B := T11.setTop (mkF m 117 #[.val (.int p0), .val (.ref am), .val (.ref b2), .val (.ref b4), .unset] [])) (fun t k => XS.ifYes X11.here hx rfl (pc0 := 104) (pc' := 117) rfl (hb hby at_104) rfl ((if0 _ _).trans (feq hc14).2) (by decide) (by decide) k) ?_
        refine own_pre (B := T11.setTop (mkF m 118 #[.val (.int p0), .val (.ref am), .val (.ref b2), .val (.ref b4), .unset] [(.int (0 : Int32))])) (fun t k => XS.iconst X11.here hx rfl (hb hby at_117) k) ?_
        refine own_pre (B := T11.setTop (mkF m 120 #[.val (.int p0), .val (.ref am), .val (.ref b2), .val (.ref b4), .val (.int (0 : Int32))] [])) (fun t k => XS.istore X11.here hx rfl (hb hby at_118) rfl (l' := #[.val (.int p0), .val (.ref am), .val (.ref b2), .val (.ref b4), .val (.int (0 : Int32))]) rfl k) ?_
        refine own_pre (B := T11.setTop (mkF m 121 #[.val (.int p0), .val (.ref am), .val (.ref b2), .val (.ref b4), .val (.int (0 : Int32))] [(.ref b2)])) (fun t k => XS.aloadN X11.here hx rfl (hb hby at_120) rfl rfl k) ?_
        obtain ⟨cq22, kq22, qa22, qb22, qc22⟩ := isOf hZ rfl F11.1
        obtain ⟨_, _, ⟨T22, L22, k22, n22⟩, -, X22, ⟨Lc22, hQ22, l22, y22, z22⟩, st22⟩ := X11.virtualBack hx (y := (⟨"com/example/quillon/quillon/engine/RowQueue", "isIdle", "()Z"⟩ : MethodName)) (z := (⟨"com/example/quillon/quillon/engine/RowQueue", "isIdle", "()Z"⟩ : MethodName)) hown (mvT hZ (hw _ (List.mem_of_getElem? (i := 39) rfl))) (mvT hZ (hw _ (List.mem_of_getElem? (i := 40) rfl))) (notFace_of_selects (args := #[]) (mvT hZ (hw _ (List.mem_of_getElem? (i := 42) rfl)))) (mvT hZ (hw _ (List.mem_of_getElem? (i := 42) rfl))) (mvT hZ (hw _ (List.mem_of_getElem? (i := 41) rfl))) (by decide) (backOf (W := 0) (rmId l Z a0 hw [] b2 b4 bb11 tn11 lr11 pz11 T11.heap n0 ZH11 F11) hZ (hw _ (List.mem_of_getElem? (i := 43) rfl)) (hw _ (List.mem_of_getElem? (i := 3) rfl)) (by decide) (by decide)) qa22 qc22 (g := (mkF m 121 #[.val (.int p0), .val (.ref am), .val (.ref b2), .val (.ref b4), .val (.int (0 : Int32))] [(.ref b2)])) rfl (by rw [hml]; rfl) (Steps.refl _) (argsL := []) (rest := []) (lenOf pd0_3 rfl) rfl (by show 2 * 0 + _ ≤ _; exact Nat.le_of_eq rfl) (hb hby at_121) (fun _ _ => ⟨rfl, rfl, (by decide : 3 + 0 ≤ _), (by decide : 14 + 0 ≤ _)⟩)
        dsimp only [Pt.U, Pt.locs, Pt.cells, Pt.slots] at X22 l22 y22 z22 st22 hQ22
        subst l22 y22 z22
        obtain ⟨rfl, Nq22, e22⟩ := hQ22
        have N22 := Fr.app N11 Nq22
        have eh22 : T22.heap = T11.heap := e22
        refine own_pre (B := T22.setTop (mkF m 124 #[.val (.int p0), .val (.ref am), .val (.ref b2), .val (.ref b4), .val (.int (0 : Int32))] [(.int (own_idle bb11 tn11 lr11))])) (fun t q => st22.trans q) ?_
        refine own_pre (B := T22.setTop (mkF m 126 #[.val (.int p0), .val (.ref am), .val (.ref b2), .val (.ref b4), .val (.int (0 : Int32))] [(.int (0 : Int32)), (.int (own_idle bb11 tn11 lr11))])) (fun t k => XS.iload X22.here hx rfl (hb hby at_124) rfl k) ?_
        refine own_pre (B := T22.setTop (mkF m 129 #[.val (.int p0), .val (.ref am), .val (.ref b2), .val (.ref b4), .val (.int (0 : Int32))] [])) (fun t k => XS.icmpNo X22.here hx rfl (hb hby at_126) rfl (teq (own_id0b hc14 : (own_idle bb11 tn11 lr11) = (0 : Int32))).2 k) ?_
        refine own_pre (B := T22.setTop (mkF m 130 #[.val (.int p0), .val (.ref am), .val (.ref b2), .val (.ref b4), .val (.int (0 : Int32))] [(.int (1 : Int32))])) (fun t k => XS.iconst X22.here hx rfl (hb hby at_129) k) ?_
        refine own_pre (B := T22.setTop (mkF m 134 #[.val (.int p0), .val (.ref am), .val (.ref b2), .val (.ref b4), .val (.int (0 : Int32))] [(.int (1 : Int32))])) (fun t k => XS.goto X22.here hx rfl (pc0 := 130) (pc' := 134) rfl (hb hby at_130) (by decide) (by decide) k) ?_
        exact own_retZ X22 hx hlk Bd.returns (hb hby at_134) (⟨rfl, N22⟩) (by decide) (by decide)
    · skip
      refine own_pre (B := T11.setTop (mkF m 117 #[.val (.int p0), .val (.ref am), .val (.ref b2), .val (.ref b4), .unset] [])) (fun t k => XS.ifYes X11.here hx rfl (pc0 := 98) (pc' := 117) rfl (hb hby at_98) rfl ((if0 _ _).trans (feq hc12).2) (by decide) (by decide) k) ?_
      refine own_pre (B := T11.setTop (mkF m 118 #[.val (.int p0), .val (.ref am), .val (.ref b2), .val (.ref b4), .unset] [(.int (0 : Int32))])) (fun t k => XS.iconst X11.here hx rfl (hb hby at_117) k) ?_
      refine own_pre (B := T11.setTop (mkF m 120 #[.val (.int p0), .val (.ref am), .val (.ref b2), .val (.ref b4), .val (.int (0 : Int32))] [])) (fun t k => XS.istore X11.here hx rfl (hb hby at_118) rfl (l' := #[.val (.int p0), .val (.ref am), .val (.ref b2), .val (.ref b4), .val (.int (0 : Int32))]) rfl k) ?_
      refine own_pre (B := T11.setTop (mkF m 121 #[.val (.int p0), .val (.ref am), .val (.ref b2), .val (.ref b4), .val (.int (0 : Int32))] [(.ref b2)])) (fun t k => XS.aloadN X11.here hx rfl (hb hby at_120) rfl rfl k) ?_
      obtain ⟨cq24, kq24, qa24, qb24, qc24⟩ := isOf hZ rfl F11.1
      obtain ⟨_, _, ⟨T24, L24, k24, n24⟩, -, X24, ⟨Lc24, hQ24, l24, y24, z24⟩, st24⟩ := X11.virtualBack hx (y := (⟨"com/example/quillon/quillon/engine/RowQueue", "isIdle", "()Z"⟩ : MethodName)) (z := (⟨"com/example/quillon/quillon/engine/RowQueue", "isIdle", "()Z"⟩ : MethodName)) hown (mvT hZ (hw _ (List.mem_of_getElem? (i := 39) rfl))) (mvT hZ (hw _ (List.mem_of_getElem? (i := 40) rfl))) (notFace_of_selects (args := #[]) (mvT hZ (hw _ (List.mem_of_getElem? (i := 42) rfl)))) (mvT hZ (hw _ (List.mem_of_getElem? (i := 42) rfl))) (mvT hZ (hw _ (List.mem_of_getElem? (i := 41) rfl))) (by decide) (backOf (W := 0) (rmId l Z a0 hw [] b2 b4 bb11 tn11 lr11 pz11 T11.heap n0 ZH11 F11) hZ (hw _ (List.mem_of_getElem? (i := 43) rfl)) (hw _ (List.mem_of_getElem? (i := 3) rfl)) (by decide) (by decide)) qa24 qc24 (g := (mkF m 121 #[.val (.int p0), .val (.ref am), .val (.ref b2), .val (.ref b4), .val (.int (0 : Int32))] [(.ref b2)])) rfl (by rw [hml]; rfl) (Steps.refl _) (argsL := []) (rest := []) (lenOf pd0_3 rfl) rfl (by show 2 * 0 + _ ≤ _; exact Nat.le_of_eq rfl) (hb hby at_121) (fun _ _ => ⟨rfl, rfl, (by decide : 3 + 0 ≤ _), (by decide : 14 + 0 ≤ _)⟩)
      dsimp only [Pt.U, Pt.locs, Pt.cells, Pt.slots] at X24 l24 y24 z24 st24 hQ24
      subst l24 y24 z24
      obtain ⟨rfl, Nq24, e24⟩ := hQ24
      have N24 := Fr.app N11 Nq24
      have eh24 : T24.heap = T11.heap := e24
      refine own_pre (B := T24.setTop (mkF m 124 #[.val (.int p0), .val (.ref am), .val (.ref b2), .val (.ref b4), .val (.int (0 : Int32))] [(.int (own_idle bb11 tn11 lr11))])) (fun t q => st24.trans q) ?_
      refine own_pre (B := T24.setTop (mkF m 126 #[.val (.int p0), .val (.ref am), .val (.ref b2), .val (.ref b4), .val (.int (0 : Int32))] [(.int (0 : Int32)), (.int (own_idle bb11 tn11 lr11))])) (fun t k => XS.iload X24.here hx rfl (hb hby at_124) rfl k) ?_
      refine own_pre (B := T24.setTop (mkF m 129 #[.val (.int p0), .val (.ref am), .val (.ref b2), .val (.ref b4), .val (.int (0 : Int32))] [])) (fun t k => XS.icmpNo X24.here hx rfl (hb hby at_126) rfl (teq (own_id0a hc12 : (own_idle bb11 tn11 lr11) = (0 : Int32))).2 k) ?_
      refine own_pre (B := T24.setTop (mkF m 130 #[.val (.int p0), .val (.ref am), .val (.ref b2), .val (.ref b4), .val (.int (0 : Int32))] [(.int (1 : Int32))])) (fun t k => XS.iconst X24.here hx rfl (hb hby at_129) k) ?_
      refine own_pre (B := T24.setTop (mkF m 134 #[.val (.int p0), .val (.ref am), .val (.ref b2), .val (.ref b4), .val (.int (0 : Int32))] [(.int (1 : Int32))])) (fun t k => XS.goto X24.here hx rfl (pc0 := 130) (pc' := 134) rfl (hb hby at_130) (by decide) (by decide) k) ?_
      exact own_retZ X24 hx hlk Bd.returns (hb hby at_134) (⟨rfl, N24⟩) (by decide) (by decide)
  exact own_pre pre0 g_0
set_option maxRecDepth 65536 in
set_option maxHeartbeats 40000000 in
theorem comes_1 {Post : Tables → Env → Array Value → State → Outcome → State → Prop} (hpost : ∀ tb e args s v u, (limb_1_1.after args s (.returned v) u = true ∧ limb_1_2.after args s (.returned v) u = true ∧ True) → FrameEnd s (.returned v) u (Jvm.fieldLocs frame_1_writes args s ++ Jvm.arrayLocs frame_1_arrays args s ++ Jvm.staticLocs frame_1_statics s) 16 128 → Post tb e args s (.returned v) u) :
    ArmFor flags0 classFile x code maxLocals ret World_1 tables_1 room_1 Calls_1 rest_1 Pre_1 Post := by
  intro l hfl _ _ p e ha hc hk s m args below hf hA hF happ hP
  obtain ⟨hcalls, hrest, hpre⟩ := hP
  obtain ⟨-, -, -, hnamed, -, -, -, hat⟩ := (Spec.applies_iff hf).mp happ
  obtain ⟨hg, hn⟩ := and_e (Cond.before_iff.mp (show (Jvm.Cond.and given_1 narrow_1).before args s = true from hpre))
  obtain ⟨gg1, gg2⟩ := and_e hg
  obtain ⟨w0, rfl⟩ : ∃ w0 : Value, args = #[w0] := by
    have hs : args.size = 1 := by simpa [Cond.value, given_1] using gg1
    obtain ⟨L⟩ := args
    match L, hs with
    | [w0], _ => exact ⟨w0, rfl⟩
  have hw := fun d (hd : d ∈ tables_1) => atoms_spec (ws := Jvm.Cond.code x code maxLocals ret :: tables_1) hat d (List.mem_cons_of_mem _ hd)
  obtain ⟨i0, ei0⟩ := is_v gg2
  obtain rfl : w0 = (.int i0) := Option.some.inj ei0
  obtain ⟨n, o, h1, h2, h3, _, L, rfl, ⟨rfl, N⟩, hq⟩ := rm0 l s _ hw tables_1 i0 s.heap s.heap.size (Nat.le_refl _) p e ha hc hk s m _ below hf ((Spec.applies_iff_loose hf).mp happ).1 ⟨rfl, State.Warmed39.refl s, rfl⟩ trivial
  refine ⟨n, _, h1, h2, h3, hpost _ _ _ _ _ _ ⟨Cond.after_iff.mpr rfl, Cond.after_iff.mpr (eq_i res_at (Term.int_eval (1)) rfl), trivial⟩ ⟨hq.1, hq.2.1, (hq.2.2.sift fun y hy => Or.inr (N y hy)).mono (by decide) (by decide)⟩⟩
theorem main_1_1 : Claimed_1_1 := comes_1 fun _ _ _ _ _ _ h hF => ⟨h.1, hF⟩
theorem main_1_2 : Claimed_1_2 := comes_1 fun _ _ _ _ _ _ h hF => ⟨h.2.1, hF⟩
end Jvm.Pilot.@@N@@
namespace Jvm.Pilot.@@N@@
open Jvm Jvm.ClassFile Sem Op Lib Jvm.Free Jvm.Stand Jvm.Pilot.@@N@@.Jvm.D
/-! MADE BY PROGRAM (witnessworld.py) out of the Statement's table words and the real class files: 11 classes; the members and pool entries that the words name. The judged class is class 1, her method 2. -/
namespace start1
open Jvm.ClassFile
def u (s : String) : CpInfo := .utf8 (stringToUtf16 s)
/-- a pool by its gaps: so many unusable entries, then the entry; so many at the end -/
def gap : Nat → List CpInfo → List CpInfo
  | 0, r => r
  | n + 1, r => .unusable :: gap n r
def poolList (es : List (Nat × CpInfo)) (last : Nat) : List CpInfo := es.foldr (fun e r => gap e.1 (e.2 :: r)) (gap last [])
def pool (es : List (Nat × CpInfo)) (last : Nat) : Array CpInfo := ⟨poolList es last⟩
def fileOf (pool : Array CpInfo) (this : Nat) (attrs : Array Attribute := #[]) (ms : Array MethodInfo := #[]) (fl : Nat := 33) (sup : Nat := 0) (ifs : Array Nat := #[]) (fds : Array FieldInfo := #[]) : ClassFile where
  minorVersion := 0
  majorVersion := 65
  constantPool := pool
  accessFlags := fl
  thisClass := this
  superClass := sup
  interfaces := ifs
  fields := fds
  methods := ms
  attributes := attrs
def plain (name : String) (sup : Option ClassId) : Class where
  name := name
  kind := .ordinary
  loader := none
  accessFlags := 33
  super := sup
  interfaces := #[]
  cf := none
  fields := #[]
  methods := #[]
  instanceTypes := #[]
  staticTypes := #[]
  resolved := #[]
  callSites := []
  init := .initialized
  statics := none
  mirror := none

def pool0 : Array CpInfo := pool [(5, u "<init>"), (0, u "()V"), (1, .class_ 10), (1, u "java/lang/Object")] 113

def k0c0 : Code := { maxStack := 0, maxLocals := 1, code := object_method_1_code, exceptionTable := #[], attributes := #[] }
def k0m0 : Method := { name := "<init>", desc := "()V", sig := { parameters := [], returnType := none }, accessFlags := 1, code := some k0c0 }
/-- java/lang/Object -/
def k0 : Class := { plain "java/lang/Object" none with
  accessFlags := 33
  interfaces := #[]
  cf := some (fileOf pool0 8 #[] #[{ accessFlags := 1, nameIndex := 5, descriptorIndex := 6, attributes := #[] }] 33 0 #[] #[])
  fields := #[]
  methods := #[k0m0]
  instanceTypes := #[]
  staticTypes := #[]
  resolved := Array.replicate 124 none
  statics := none }

def pool1 : Array CpInfo := pool [(2, .class_ 4), (0, .nameAndType 5 6), (0, u "java/lang/Object"), (0, u "<init>"), (0, u "()V"), (0, .methodref 8 9), (0, .class_ 10), (0, .nameAndType 11 12), (0, u "com/example/quillon/quillon/engine/RowQueue"), (0, u "endTurn"), (0, u "(Lcom/example/quillon/quillon/engine/LockWait;)V"), (0, .methodref 8 14), (0, .nameAndType 15 12), (0, u "start"), (0, .methodref 8 17), (0, .nameAndType 18 6), (0, u "taken"), (0, .methodref 8 20), (0, .nameAndType 21 22), (0, u "firstIsBack"), (0, u "(Z)V"), (0, .methodref 24 25), (0, .class_ 26), (0, .nameAndType 27 28), (0, u "java/lang/Math"), (0, u "max"), (0, u "(II)I"), (0, .methodref 24 30), (0, .nameAndType 31 28), (0, u "min"), (0, .methodref 8 3), (0, .class_ 34), (0, u "com/example/quillon/quillon/engine/LockWait"), (0, .methodref 33 36), (0, .nameAndType 5 37), (0, u "(Lcom/example/quillon/quillon/engine/Transaction;)V"), (0, .methodref 39 40), (0, .class_ 41), (0, .nameAndType 42 43), (0, u "com/example/quillon/quillon/engine/RowQueueIsIdlePinLaw"), (0, u "step"), (0, u "(Lcom/example/quillon/quillon/engine/RowQueue;Lcom/example/quillon/quillon/engine/LockWait;I[I)V"), (0, .methodref 8 45), (0, .nameAndType 46 47), (0, u "isIdle"), (0, u "()Z"), (3, u "law"), (0, u "(I)Z")] 4

def k1m0 : Method := { name := "<init>", desc := "()V", sig := { parameters := [], returnType := none }, accessFlags := 1, code := none }
def k1c1 : Code := { maxStack := 6, maxLocals := 5, code := method_2_code, exceptionTable := #[], attributes := #[] }
def k1m1 : Method := { name := "step", desc := "(Lcom/example/quillon/quillon/engine/RowQueue;Lcom/example/quillon/quillon/engine/LockWait;I[I)V", sig := { parameters := [(.object "com/example/quillon/quillon/engine/RowQueue"), (.object "com/example/quillon/quillon/engine/LockWait"), .int, (.array .int)], returnType := none }, accessFlags := 10, code := some k1c1 }
def k1c2 : Code := { maxStack := 4, maxLocals := 5, code := code, exceptionTable := #[], attributes := #[] }
def k1m2 : Method := { name := "law", desc := "(I)Z", sig := { parameters := [.int], returnType := some .boolean }, accessFlags := 9, code := some k1c2 }
/-- com/example/quillon/quillon/engine/RowQueueIsIdlePinLaw -/
def k1 : Class := { plain "com/example/quillon/quillon/engine/RowQueueIsIdlePinLaw" (some 0) with
  accessFlags := 49
  interfaces := #[]
  cf := some (fileOf pool1 39 #[] #[{ accessFlags := 1, nameIndex := 5, descriptorIndex := 6, attributes := #[] }, { accessFlags := 10, nameIndex := 42, descriptorIndex := 43, attributes := #[] }, { accessFlags := 9, nameIndex := 51, descriptorIndex := 52, attributes := #[] }] 49 2 #[] #[])
  fields := #[]
  methods := #[k1m0, k1m1, k1m2]
  instanceTypes := #[]
  staticTypes := #[]
  resolved := Array.replicate 57 none
  statics := none }

def pool2 : Array CpInfo := pool [(1, .methodref 2 3), (0, .class_ 4), (0, .nameAndType 5 6), (0, u "java/lang/Object"), (0, u "<init>"), (0, u "()V"), (0, .fieldref 8 9), (0, .class_ 10), (0, .nameAndType 11 12), (0, u "com/example/quillon/quillon/engine/RowQueue"), (0, u "first"), (0, u "Lcom/example/quillon/quillon/engine/LockWait;"), (0, .fieldref 8 14), (0, .nameAndType 15 16), (0, u "passed"), (0, u "Z"), (0, .fieldref 8 18), (0, .nameAndType 19 20), (0, u "turnsInOrder"), (0, u "I"), (6, .fieldref 8 28), (0, .nameAndType 29 20), (0, u "lastRun"), (0, .methodref 31 32), (0, .class_ 33), (0, .nameAndType 34 35), (0, u "java/lang/Math"), (0, u "max"), (0, u "(II)I"), (0, .methodref 31 37), (0, .nameAndType 38 35), (0, u "min"), (0, u "MOST_TURNS_IN_ORDER"), (5, u "start"), (0, u "(Lcom/example/quillon/quillon/engine/LockWait;)V"), (0, u "endTurn"), (3, u "taken"), (0, u "firstIsBack"), (0, u "(Z)V"), (0, u "isIdle"), (0, u "()Z")] 2

def k2c0 : Code := { maxStack := 1, maxLocals := 1, code := prog_117_method_1_code, exceptionTable := #[], attributes := #[] }
def k2m0 : Method := { name := "<init>", desc := "()V", sig := { parameters := [], returnType := none }, accessFlags := 0, code := some k2c0 }
def k2c1 : Code := { maxStack := 2, maxLocals := 2, code := prog_117_method_3_code, exceptionTable := #[], attributes := #[] }
def k2m1 : Method := { name := "start", desc := "(Lcom/example/quillon/quillon/engine/LockWait;)V", sig := { parameters := [(.object "com/example/quillon/quillon/engine/LockWait")], returnType := none }, accessFlags := 0, code := some k2c1 }
def k2c2 : Code := { maxStack := 3, maxLocals := 2, code := prog_117_method_4_code, exceptionTable := #[], attributes := #[] }
def k2m2 : Method := { name := "endTurn", desc := "(Lcom/example/quillon/quillon/engine/LockWait;)V", sig := { parameters := [(.object "com/example/quillon/quillon/engine/LockWait")], returnType := none }, accessFlags := 0, code := some k2c2 }
def k2c3 : Code := { maxStack := 2, maxLocals := 1, code := prog_117_method_6_code, exceptionTable := #[], attributes := #[] }
def k2m3 : Method := { name := "taken", desc := "()V", sig := { parameters := [], returnType := none }, accessFlags := 0, code := some k2c3 }
def k2c4 : Code := { maxStack := 4, maxLocals := 2, code := prog_117_method_7_code, exceptionTable := #[], attributes := #[] }
def k2m4 : Method := { name := "firstIsBack", desc := "(Z)V", sig := { parameters := [.boolean], returnType := none }, accessFlags := 0, code := some k2c4 }
def k2c5 : Code := { maxStack := 1, maxLocals := 1, code := prog_117_method_8_code, exceptionTable := #[], attributes := #[] }
def k2m5 : Method := { name := "isIdle", desc := "()Z", sig := { parameters := [], returnType := some .boolean }, accessFlags := 0, code := some k2c5 }
/-- com/example/quillon/quillon/engine/RowQueue -/
def k2 : Class := { plain "com/example/quillon/quillon/engine/RowQueue" (some 0) with
  accessFlags := 48
  interfaces := #[]
  cf := some (fileOf pool2 8 #[] #[{ accessFlags := 0, nameIndex := 5, descriptorIndex := 6, attributes := #[] }, { accessFlags := 0, nameIndex := 45, descriptorIndex := 46, attributes := #[] }, { accessFlags := 0, nameIndex := 47, descriptorIndex := 46, attributes := #[] }, { accessFlags := 0, nameIndex := 51, descriptorIndex := 6, attributes := #[] }, { accessFlags := 0, nameIndex := 52, descriptorIndex := 53, attributes := #[] }, { accessFlags := 0, nameIndex := 54, descriptorIndex := 55, attributes := #[] }] 48 2 #[] #[{ accessFlags := 24, nameIndex := 39, descriptorIndex := 20, attributes := #[] }, { accessFlags := 2, nameIndex := 11, descriptorIndex := 12, attributes := #[] }, { accessFlags := 2, nameIndex := 19, descriptorIndex := 20, attributes := #[] }, { accessFlags := 2, nameIndex := 29, descriptorIndex := 20, attributes := #[] }, { accessFlags := 2, nameIndex := 15, descriptorIndex := 16, attributes := #[] }])
  fields := #[{ name := "MOST_TURNS_IN_ORDER", type := .int, accessFlags := 24, slot := 0, constantValue := 0 }, { name := "first", type := (.object "com/example/quillon/quillon/engine/LockWait"), accessFlags := 2, slot := 0, constantValue := 0 }, { name := "turnsInOrder", type := .int, accessFlags := 2, slot := 1, constantValue := 0 }, { name := "lastRun", type := .int, accessFlags := 2, slot := 2, constantValue := 0 }, { name := "passed", type := .boolean, accessFlags := 2, slot := 3, constantValue := 0 }]
  methods := #[k2m0, k2m1, k2m2, k2m3, k2m4, k2m5]
  instanceTypes := #[(.object "com/example/quillon/quillon/engine/LockWait"), .int, .int, .boolean]
  staticTypes := #[.int]
  resolved := Array.replicate 58 none
  statics := none }

def pool3 : Array CpInfo := pool [(1, .methodref 2 3), (0, .class_ 4), (0, .nameAndType 5 6), (0, u "java/lang/Object"), (0, u "<init>"), (0, u "()V"), (0, .fieldref 8 9), (0, .class_ 10), (0, .nameAndType 11 12), (0, u "com/example/quillon/quillon/engine/LockWait"), (0, u "waiter"), (0, u "Lcom/example/quillon/quillon/engine/Transaction;"), (8, u "signaller"), (11, u "row"), (0, u "Lcom/example/quillon/quillon/engine/Row;"), (14, u "next"), (0, u "Lcom/example/quillon/quillon/engine/LockWait;"), (10, u "(Lcom/example/quillon/quillon/engine/Transaction;)V"), (32, u "signalled"), (0, u "Z"), (21, u "nextSignalled")] 15

def k3c0 : Code := { maxStack := 2, maxLocals := 2, code := prog_84_method_1_code, exceptionTable := #[], attributes := #[] }
def k3m0 : Method := { name := "<init>", desc := "(Lcom/example/quillon/quillon/engine/Transaction;)V", sig := { parameters := [(.object "com/example/quillon/quillon/engine/Transaction")], returnType := none }, accessFlags := 0, code := some k3c0 }
/-- com/example/quillon/quillon/engine/LockWait -/
def k3 : Class := { plain "com/example/quillon/quillon/engine/LockWait" (some 0) with
  accessFlags := 48
  interfaces := #[]
  cf := some (fileOf pool3 8 #[] #[{ accessFlags := 0, nameIndex := 5, descriptorIndex := 61, attributes := #[] }] 48 2 #[] #[{ accessFlags := 18, nameIndex := 11, descriptorIndex := 12, attributes := #[] }, { accessFlags := 2, nameIndex := 94, descriptorIndex := 95, attributes := #[] }, { accessFlags := 2, nameIndex := 21, descriptorIndex := 12, attributes := #[] }, { accessFlags := 2, nameIndex := 33, descriptorIndex := 34, attributes := #[] }, { accessFlags := 2, nameIndex := 49, descriptorIndex := 50, attributes := #[] }, { accessFlags := 2, nameIndex := 117, descriptorIndex := 50, attributes := #[] }])
  fields := #[{ name := "waiter", type := (.object "com/example/quillon/quillon/engine/Transaction"), accessFlags := 18, slot := 0, constantValue := 0 }, { name := "signalled", type := .boolean, accessFlags := 2, slot := 1, constantValue := 0 }, { name := "signaller", type := (.object "com/example/quillon/quillon/engine/Transaction"), accessFlags := 2, slot := 2, constantValue := 0 }, { name := "row", type := (.object "com/example/quillon/quillon/engine/Row"), accessFlags := 2, slot := 3, constantValue := 0 }, { name := "next", type := (.object "com/example/quillon/quillon/engine/LockWait"), accessFlags := 2, slot := 4, constantValue := 0 }, { name := "nextSignalled", type := (.object "com/example/quillon/quillon/engine/LockWait"), accessFlags := 2, slot := 5, constantValue := 0 }]
  methods := #[k3m0]
  instanceTypes := #[(.object "com/example/quillon/quillon/engine/Transaction"), .boolean, (.object "com/example/quillon/quillon/engine/Transaction"), (.object "com/example/quillon/quillon/engine/Row"), (.object "com/example/quillon/quillon/engine/LockWait"), (.object "com/example/quillon/quillon/engine/LockWait")]
  staticTypes := #[]
  resolved := Array.replicate 133 none
  statics := none }

def pool4 : Array CpInfo := pool [(1, .class_ 2), (0, u "java/lang/Math"), (1, .class_ 6), (1, u "java/lang/Object"), (0, u "<init>"), (0, u "()V"), (89, .class_ 100), (1, u "java/lang/Math$RandomNumberGeneratorHolder"), (71, u "negativeZeroFloatBits"), (0, u "J"), (2, u "negativeZeroDoubleBits"), (21, u "max"), (2, u "min"), (43, u "$assertionsDisabled"), (0, u "Z"), (88, u "(II)I"), (2, u "twoToTheDoubleScaleDown"), (0, u "D"), (4, u "twoToTheDoubleScaleUp"), (9, u "E"), (3, u "PI"), (2, u "TAU"), (2, u "DEGREES_TO_RADIANS"), (0, u "RADIANS_TO_DEGREES")] 94

def k4m0 : Method := { name := "<init>", desc := "()V", sig := { parameters := [], returnType := none }, accessFlags := 2, code := none }
def k4c1 : Code := { maxStack := 2, maxLocals := 2, code := jdk_29_method_65_code, exceptionTable := #[], attributes := #[] }
def k4m1 : Method := { name := "max", desc := "(II)I", sig := { parameters := [.int, .int], returnType := some .int }, accessFlags := 9, code := some k4c1 }
def k4c2 : Code := { maxStack := 2, maxLocals := 2, code := jdk_29_method_69_code, exceptionTable := #[], attributes := #[] }
def k4m2 : Method := { name := "min", desc := "(II)I", sig := { parameters := [.int, .int], returnType := some .int }, accessFlags := 9, code := some k4c2 }
/-- java/lang/Math -/
def k4 : Class := { plain "java/lang/Math" (some 0) with
  accessFlags := 49
  interfaces := #[]
  cf := some (fileOf pool4 1 #[.nestMembers #[98]] #[{ accessFlags := 2, nameIndex := 7, descriptorIndex := 8, attributes := #[] }, { accessFlags := 9, nameIndex := 198, descriptorIndex := 335, attributes := #[] }, { accessFlags := 9, nameIndex := 201, descriptorIndex := 335, attributes := #[] }] 49 4 #[] #[{ accessFlags := 25, nameIndex := 354, descriptorIndex := 339, attributes := #[] }, { accessFlags := 25, nameIndex := 358, descriptorIndex := 339, attributes := #[] }, { accessFlags := 25, nameIndex := 361, descriptorIndex := 339, attributes := #[] }, { accessFlags := 26, nameIndex := 364, descriptorIndex := 339, attributes := #[] }, { accessFlags := 26, nameIndex := 365, descriptorIndex := 339, attributes := #[] }, { accessFlags := 26, nameIndex := 172, descriptorIndex := 173, attributes := #[] }, { accessFlags := 26, nameIndex := 176, descriptorIndex := 173, attributes := #[] }, { accessFlags := 8, nameIndex := 344, descriptorIndex := 339, attributes := #[] }, { accessFlags := 8, nameIndex := 338, descriptorIndex := 339, attributes := #[] }, { accessFlags := 4120, nameIndex := 245, descriptorIndex := 246, attributes := #[] }])
  fields := #[{ name := "E", type := .double, accessFlags := 25, slot := 0, constantValue := 0 }, { name := "PI", type := .double, accessFlags := 25, slot := 1, constantValue := 0 }, { name := "TAU", type := .double, accessFlags := 25, slot := 2, constantValue := 0 }, { name := "DEGREES_TO_RADIANS", type := .double, accessFlags := 26, slot := 3, constantValue := 0 }, { name := "RADIANS_TO_DEGREES", type := .double, accessFlags := 26, slot := 4, constantValue := 0 }, { name := "negativeZeroFloatBits", type := .long, accessFlags := 26, slot := 5, constantValue := 0 }, { name := "negativeZeroDoubleBits", type := .long, accessFlags := 26, slot := 6, constantValue := 0 }, { name := "twoToTheDoubleScaleUp", type := .double, accessFlags := 8, slot := 7, constantValue := 0 }, { name := "twoToTheDoubleScaleDown", type := .double, accessFlags := 8, slot := 8, constantValue := 0 }, { name := "$assertionsDisabled", type := .boolean, accessFlags := 4120, slot := 9, constantValue := 0 }]
  methods := #[k4m0, k4m1, k4m2]
  instanceTypes := #[]
  staticTypes := #[.double, .double, .double, .double, .double, .long, .long, .double, .double, .boolean]
  resolved := Array.replicate 460 none
  statics := none }

def pool5 : Array CpInfo := pool [(1, u "java/lang/Cloneable"), (0, .class_ 1), (0, u "java/lang/Object"), (0, .class_ 3)] 3

/-- java/lang/Cloneable -/
def k5 : Class := { plain "java/lang/Cloneable" (some 0) with
  accessFlags := 1537
  interfaces := #[]
  cf := some (fileOf pool5 2 #[] #[] 1537 4 #[] #[])
  fields := #[]
  methods := #[]
  instanceTypes := #[]
  staticTypes := #[]
  resolved := Array.replicate 8 none
  statics := none }

def pool6 : Array CpInfo := pool [(1, u "java/io/Serializable"), (0, .class_ 1), (0, u "java/lang/Object"), (0, .class_ 3)] 3

/-- java/io/Serializable -/
def k6 : Class := { plain "java/io/Serializable" (some 0) with
  accessFlags := 1537
  interfaces := #[]
  cf := some (fileOf pool6 2 #[] #[] 1537 4 #[] #[])
  fields := #[]
  methods := #[]
  instanceTypes := #[]
  staticTypes := #[]
  resolved := Array.replicate 8 none
  statics := none }

/-- the primitive byte -/
def k7 : Class := { plain "byte" none with kind := .primitive 'B', accessFlags := 0x411 }
/-- [B -/
def k8 : Class := { plain "[B" (some 0) with kind := .array 7 .byte, interfaces := #[5, 6], accessFlags := 1041 }

/-- the primitive int -/
def k9 : Class := { plain "int" none with kind := .primitive 'I', accessFlags := 0x411 }
/-- [I -/
def k10 : Class := { plain "[I" (some 0) with kind := .array 9 .int, interfaces := #[5, 6], accessFlags := 1041 }

def heap : Heap := #[]
def classes : Array Class := #[k0, k1, k2, k3, k4, k5, k6, k7, k8, k9, k10]
def interned : List (Array UInt16 × Addr) := []
def slotsUsed : Nat := 0
def theMethod : MethodId := ⟨1, 2⟩
def args0 : Array Value := #[.int 5]
def aboutOver (below : List Frame) : State where
  vm := { classes := classes, interned := interned.toArray }
  heap := heap
  slotsUsed := slotsUsed
  threads := #[{ frames := .invoking theMethod args0 :: below }]
def below0 : List Frame := [.native { method := ⟨0, 0⟩, args := #[] }]
def about1 : State := aboutOver below0
def p0 : Program := .bare "" "" ""
def e0 : Env := launch0.env 0 0 0
theorem w_frames : about1.frames = Frame.invoking theMethod args0 :: below0 := rfl
set_option maxRecDepth 65536 in
theorem w_args : argsFit about1.vm theMethod args0 = true := by decide +kernel
set_option maxRecDepth 65536 in
theorem w_heap : heapFits about1 = true := by decide +kernel
set_option maxRecDepth 65536 in
theorem w_runnable : about1.curStatus? = some .runnable := by decide +kernel
set_option maxRecDepth 65536 in
theorem w_alone : about1.alone = true := by decide +kernel
set_option maxRecDepth 65536 in
theorem w_named : about1.methodNamed? x = some theMethod := by decide +kernel
set_option maxRecDepth 65536 in
theorem w_hears : about1.hears theMethod below0 = true := by decide +kernel
set_option maxRecDepth 65536 in
theorem w_ripe : about1.ripe theMethod args0 below0 = true := by decide +kernel
theorem w_running : about1.status = .running := rfl
set_option maxRecDepth 65536 in
theorem w_room : about1.hasRoom e0.platform room_1 = true :=
  launch0.hasRoom_least _ room_1 (by decide +kernel) (by decide +kernel) (by decide +kernel) (by decide +kernel) (by decide +kernel) (by decide +kernel)
theorem allAtoms_all (ts : List Jvm.Cond) (a : Array Jvm.Value) (st : Jvm.State) : (allAtoms ts).before a st = ts.all (fun c => c.before a st) := by
  induction ts with
  | nil => rfl
  | cons c t ih =>
    show (Jvm.Cond.and c (allAtoms t)).before a st = _
    rw [Jvm.Cond.before_and, ih, List.all_cons]
def words1 : List Jvm.Cond := Jvm.Cond.code x code maxLocals ret :: tables_1
/-- a 'code' word, met by the world's own term for the bytes: nothing is compared byte by byte -/
theorem code_word {y : MethodName} {bytes : ByteArray} {mx : Nat} {rt : Option FieldType} {a : Array Value} {s : State} {m : MethodId} {meth : Method} {c : Code} (h1 : s.methodNamed? y = some m) (h2 : s.vm.method? m = some meth) (h3 : meth.code = some c) (h4 : c.code = bytes)
    (h5 : (c.maxLocals == mx && c.exceptionTable.isEmpty && decide (c.maxStack ≤ mostOperands) && decide (meth.sig.returnType = rt) && !meth.locks && decide (parseMethodDescriptor y.desc = some meth.sig)) = true) : (Jvm.Cond.code y bytes mx rt).before a s = true := by
  simp only [Bool.and_eq_true, beq_iff_eq, Bool.not_eq_true', decide_eq_true_eq] at h5
  obtain ⟨⟨⟨⟨⟨g1, g2⟩, g3⟩, g4⟩, g5⟩, g6⟩ := h5
  simp [Cond.before, Cond.holds, Cond.value, h1, h2, h3, h4, g1, g2, g3, g4, g5, g6]
def isCode : Jvm.Cond → Bool
  | .code _ _ _ _ => true
  | _ => false
theorem all_split {L : List Jvm.Cond} {P : Jvm.Cond → Bool} (h1 : L.all (fun c => isCode c || P c) = true) (h2 : ∀ c ∈ L.filter isCode, P c = true) : L.all P = true := by
  refine List.all_eq_true.mpr fun c hc => ?_
  have h := List.all_eq_true.mp h1 c hc
  rcases Bool.eq_false_or_eq_true (isCode c) with hi | hi
  · exact h2 c (List.mem_filter.mpr ⟨hc, hi⟩)
  · simpa [hi] using h
set_option maxRecDepth 65536 in
theorem w_c0 : (Jvm.Cond.code x code maxLocals ret).before args0 about1 = true := code_word (m := ⟨1, 2⟩) (meth := k1m2) (c := k1c2) (by decide +kernel) rfl rfl rfl (by decide +kernel)
set_option maxRecDepth 65536 in
theorem w_c1 : (Jvm.Cond.code ({ cls := "com/example/quillon/quillon/engine/RowQueue", name := "<init>", desc := "()V" } : Jvm.MethodName) prog_117_method_1_code (1 : Nat) (Option.none : Option Jvm.ClassFile.FieldType)).before args0 about1 = true := code_word (m := ⟨2, 0⟩) (meth := k2m0) (c := k2c0) (by decide +kernel) rfl rfl rfl (by decide +kernel)
set_option maxRecDepth 65536 in
theorem w_c2 : (Jvm.Cond.code ({ cls := "java/lang/Object", name := "<init>", desc := "()V" } : Jvm.MethodName) object_method_1_code (1 : Nat) (Option.none : Option Jvm.ClassFile.FieldType)).before args0 about1 = true := code_word (m := ⟨0, 0⟩) (meth := k0m0) (c := k0c0) (by decide +kernel) rfl rfl rfl (by decide +kernel)
set_option maxRecDepth 65536 in
theorem w_c3 : (Jvm.Cond.code ({ cls := "com/example/quillon/quillon/engine/LockWait", name := "<init>", desc := "(Lcom/example/quillon/quillon/engine/Transaction;)V" } : Jvm.MethodName) prog_84_method_1_code (2 : Nat) (Option.none : Option Jvm.ClassFile.FieldType)).before args0 about1 = true := code_word (m := ⟨3, 0⟩) (meth := k3m0) (c := k3c0) (by decide +kernel) rfl rfl rfl (by decide +kernel)
set_option maxRecDepth 65536 in
theorem w_c4 : (Jvm.Cond.code ({ cls := "com/example/quillon/quillon/engine/RowQueueIsIdlePinLaw", name := "step", desc := "(Lcom/example/quillon/quillon/engine/RowQueue;Lcom/example/quillon/quillon/engine/LockWait;I[I)V" } : Jvm.MethodName) method_2_code (5 : Nat) (Option.none : Option Jvm.ClassFile.FieldType)).before args0 about1 = true := code_word (m := ⟨1, 1⟩) (meth := k1m1) (c := k1c1) (by decide +kernel) rfl rfl rfl (by decide +kernel)
set_option maxRecDepth 65536 in
theorem w_c5 : (Jvm.Cond.code ({ cls := "com/example/quillon/quillon/engine/RowQueue", name := "start", desc := "(Lcom/example/quillon/quillon/engine/LockWait;)V" } : Jvm.MethodName) prog_117_method_3_code (2 : Nat) (Option.none : Option Jvm.ClassFile.FieldType)).before args0 about1 = true := code_word (m := ⟨2, 1⟩) (meth := k2m1) (c := k2c1) (by decide +kernel) rfl rfl rfl (by decide +kernel)
set_option maxRecDepth 65536 in
theorem w_c6 : (Jvm.Cond.code ({ cls := "com/example/quillon/quillon/engine/RowQueue", name := "endTurn", desc := "(Lcom/example/quillon/quillon/engine/LockWait;)V" } : Jvm.MethodName) prog_117_method_4_code (2 : Nat) (Option.none : Option Jvm.ClassFile.FieldType)).before args0 about1 = true := code_word (m := ⟨2, 2⟩) (meth := k2m2) (c := k2c2) (by decide +kernel) rfl rfl rfl (by decide +kernel)
set_option maxRecDepth 65536 in
theorem w_c7 : (Jvm.Cond.code ({ cls := "com/example/quillon/quillon/engine/RowQueue", name := "isIdle", desc := "()Z" } : Jvm.MethodName) prog_117_method_8_code (1 : Nat) (Option.some Jvm.ClassFile.FieldType.boolean)).before args0 about1 = true := code_word (m := ⟨2, 5⟩) (meth := k2m5) (c := k2c5) (by decide +kernel) rfl rfl rfl (by decide +kernel)
set_option maxRecDepth 65536 in
theorem w_c8 : (Jvm.Cond.code ({ cls := "com/example/quillon/quillon/engine/RowQueue", name := "taken", desc := "()V" } : Jvm.MethodName) prog_117_method_6_code (1 : Nat) (Option.none : Option Jvm.ClassFile.FieldType)).before args0 about1 = true := code_word (m := ⟨2, 3⟩) (meth := k2m3) (c := k2c3) (by decide +kernel) rfl rfl rfl (by decide +kernel)
set_option maxRecDepth 65536 in
theorem w_c9 : (Jvm.Cond.code ({ cls := "com/example/quillon/quillon/engine/RowQueue", name := "firstIsBack", desc := "(Z)V" } : Jvm.MethodName) prog_117_method_7_code (2 : Nat) (Option.none : Option Jvm.ClassFile.FieldType)).before args0 about1 = true := code_word (m := ⟨2, 4⟩) (meth := k2m4) (c := k2c4) (by decide +kernel) rfl rfl rfl (by decide +kernel)
set_option maxRecDepth 65536 in
theorem w_c10 : (Jvm.Cond.code ({ cls := "java/lang/Math", name := "max", desc := "(II)I" } : Jvm.MethodName) jdk_29_method_65_code (2 : Nat) (Option.some Jvm.ClassFile.FieldType.int)).before args0 about1 = true := code_word (m := ⟨4, 1⟩) (meth := k4m1) (c := k4c1) (by decide +kernel) rfl rfl rfl (by decide +kernel)
set_option maxRecDepth 65536 in
theorem w_c11 : (Jvm.Cond.code ({ cls := "java/lang/Math", name := "min", desc := "(II)I" } : Jvm.MethodName) jdk_29_method_69_code (2 : Nat) (Option.some Jvm.ClassFile.FieldType.int)).before args0 about1 = true := code_word (m := ⟨4, 2⟩) (meth := k4m2) (c := k4c2) (by decide +kernel) rfl rfl rfl (by decide +kernel)
def codes1 : List Jvm.Cond := [Jvm.Cond.code x code maxLocals ret, Jvm.Cond.code ({ cls := "com/example/quillon/quillon/engine/RowQueue", name := "<init>", desc := "()V" } : Jvm.MethodName) prog_117_method_1_code (1 : Nat) (Option.none : Option Jvm.ClassFile.FieldType), Jvm.Cond.code ({ cls := "java/lang/Object", name := "<init>", desc := "()V" } : Jvm.MethodName) object_method_1_code (1 : Nat) (Option.none : Option Jvm.ClassFile.FieldType), Jvm.Cond.code ({ cls := "com/example/quillon/quillon/engine/LockWait", name := "<init>", desc := "(Lcom/example/quillon/quillon/engine/Transaction;)V" } : Jvm.MethodName) prog_84_method_1_code (2 : Nat) (Option.none : Option Jvm.ClassFile.FieldType), Jvm.Cond.code ({ cls := "com/example/quillon/quillon/engine/RowQueueIsIdlePinLaw", name := "step", desc := "(Lcom/example/quillon/quillon/engine/RowQueue;Lcom/example/quillon/quillon/engine/LockWait;I[I)V" } : Jvm.MethodName) method_2_code (5 : Nat) (Option.none : Option Jvm.ClassFile.FieldType), Jvm.Cond.code ({ cls := "com/example/quillon/quillon/engine/RowQueue", name := "start", desc := "(Lcom/example/quillon/quillon/engine/LockWait;)V" } : Jvm.MethodName) prog_117_method_3_code (2 : Nat) (Option.none : Option Jvm.ClassFile.FieldType), Jvm.Cond.code ({ cls := "com/example/quillon/quillon/engine/RowQueue", name := "endTurn", desc := "(Lcom/example/quillon/quillon/engine/LockWait;)V" } : Jvm.MethodName) prog_117_method_4_code (2 : Nat) (Option.none : Option Jvm.ClassFile.FieldType), Jvm.Cond.code ({ cls := "com/example/quillon/quillon/engine/RowQueue", name := "isIdle", desc := "()Z" } : Jvm.MethodName) prog_117_method_8_code (1 : Nat) (Option.some Jvm.ClassFile.FieldType.boolean), Jvm.Cond.code ({ cls := "com/example/quillon/quillon/engine/RowQueue", name := "taken", desc := "()V" } : Jvm.MethodName) prog_117_method_6_code (1 : Nat) (Option.none : Option Jvm.ClassFile.FieldType), Jvm.Cond.code ({ cls := "com/example/quillon/quillon/engine/RowQueue", name := "firstIsBack", desc := "(Z)V" } : Jvm.MethodName) prog_117_method_7_code (2 : Nat) (Option.none : Option Jvm.ClassFile.FieldType), Jvm.Cond.code ({ cls := "java/lang/Math", name := "max", desc := "(II)I" } : Jvm.MethodName) jdk_29_method_65_code (2 : Nat) (Option.some Jvm.ClassFile.FieldType.int), Jvm.Cond.code ({ cls := "java/lang/Math", name := "min", desc := "(II)I" } : Jvm.MethodName) jdk_29_method_69_code (2 : Nat) (Option.some Jvm.ClassFile.FieldType.int)]
set_option maxRecDepth 65536 in
theorem codes_eq : words1.filter isCode = codes1 := rfl
theorem w_codes : ∀ c ∈ words1.filter isCode, c.before args0 about1 = true := by
  rw [codes_eq]
  intro c hc
  simp only [codes1, List.mem_cons, List.not_mem_nil, or_false] at hc
  rcases hc with rfl | rfl | rfl | rfl | rfl | rfl | rfl | rfl | rfl | rfl | rfl | rfl
  · exact w_c0
  · exact w_c1
  · exact w_c2
  · exact w_c3
  · exact w_c4
  · exact w_c5
  · exact w_c6
  · exact w_c7
  · exact w_c8
  · exact w_c9
  · exact w_c10
  · exact w_c11
set_option maxRecDepth 65536 in
theorem w_t1 : (words1.take 24).all (fun c => isCode c || c.before args0 about1) = true := by decide +kernel
set_option maxRecDepth 65536 in
theorem w_t2 : ((words1.drop 24).take 24).all (fun c => isCode c || c.before args0 about1) = true := by decide +kernel
set_option maxRecDepth 65536 in
theorem w_t3 : ((words1.drop 24).drop 24).all (fun c => isCode c || c.before args0 about1) = true := by decide +kernel
theorem w_tables : (allAtoms (Jvm.Cond.code x code maxLocals ret :: tables_1)).before args0 about1 = true := by
  rw [allAtoms_all]
  show words1.all (fun c => c.before args0 about1) = true
  refine all_split ?_ w_codes
  rw [← List.take_append_drop 24 words1, List.all_append, w_t1, ← List.take_append_drop 24 (words1.drop 24), List.all_append, w_t2, w_t3]
  rfl
set_option maxRecDepth 65536 in
theorem w_case : (Jvm.Cond.and given_1 narrow_1).before args0 about1 = true := by decide +kernel
theorem w_applies : (headSpec (Jvm.Cond.code x code maxLocals ret :: tables_1) room_1).applies x e0.platform about1 = true :=
  (Spec.applies_iff w_frames).mpr ⟨w_running, w_runnable, w_alone, w_named, w_hears, w_ripe, w_room, w_tables⟩
theorem atStart : AtStart classFile x code maxLocals ret World_1 tables_1 room_1 Calls_1 rest_1 Pre_1 launch0 p0 e0 about1 theMethod args0 below0 :=
  ⟨lists_1, trivial, launch0.admits_env _ _ _, launch0.least_env, fairChoices_fair.cas, fairChoices_fair.clock, w_frames, w_args, w_heap, w_applies, trivial, trivial, w_case⟩
end start1
theorem witness_1 : WitnessClaimed_1 := ⟨start1.p0, start1.e0, start1.about1, start1.theMethod, start1.args0, start1.below0, start1.atStart⟩
end Jvm.Pilot.@@N@@
