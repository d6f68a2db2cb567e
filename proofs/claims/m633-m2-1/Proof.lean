import JvmDerived
import JvmDerived.Pilot.@@N@@Statement
import JvmDerived.Pilot.@@N@@Code
set_option linter.unusedVariables false
set_option linter.unusedSimpArgs false
namespace Jvm.RoadKit
open Sem ClassFile Op Lib Jvm.Stand Jvm.Free Jvm.LawKit
section New
variable {p : Program} {l : Launch} {e : Env} {R : Room} {s : State} {m : MethodId} {args : Array Value} {below : List Frame} {meth : Method} {c : Code} {T : State} {locs : List Loc} {cells slots : Nat}
theorem retI (X : Stand p l e R s m args below meth c T locs cells slots) (hx : p.tables.exec = Jvm.exec) {pc : Nat} {Ls : Array Slot} {z : Int32} {rest : List Value} (hret : meth.sig.returnType = some .int) (hd : decode c.code pc = .ok (.ireturn, 1)) {fs : List Frame}
    (hl : ∀ (f : JFrame) (acts : List Action), f.method = m → f.locked = none → f.entered = [] → (doReturn e (T.setTop f) acts (some (.int z))).1 = T.setFrames fs) : Steps p.tables e below (T.setTop (mkF m pc Ls (.int z :: rest))) (T.setFrames fs) := by
  have hm' : T.vm.method? m = some meth := X.method'
  have hn : narrow .int (.int z) = .int z := rfl
  show Steps p.tables e below (T.setTop { method := m, pc := pc, locals := Ls, stack := _ :: rest, locked := none }) _
  jvm_step X.here [X.here.top, hx, hd, hm', hret, hn]
  first | (intro acts; rw [hl _ acts rfl rfl rfl]) | rw [hl _ _ rfl rfl rfl]
  exact Steps.refl _
end New
end Jvm.RoadKit
namespace Jvm.Pilot.@@N@@
open Jvm Jvm.ClassFile Sem Op Lib Jvm.Free Jvm.Stand Jvm.LawKit Jvm.RoadKit Bundle Jvm.Pilot.@@N@@.Jvm.D
/-! 0. what is still to be walked, as one predicate: from A the invocation comes to its end, and Q says how it ends -/
def own_Fin (p : Program) (e : Env) (below : List Frame) (s : State) (Q : Option Value → Heap → List Loc → Prop) (k n : Nat) (A : State) : Prop :=
  ∃ s₂ o, Steps p.tables e below A s₂ ∧ s₂.status = .running ∧ Ended s₂ below o ∧ ∃ v L, o = .returned v ∧ Q v s₂.heap L ∧ FrameEnd s o s₂ L k n
section Own
variable {p : Program} {l : Launch} {e : Env} {R : Room} {s : State} {m : MethodId} {args : Array Value} {below : List Frame} {meth : Method} {c : Code} {T : State} {locs : List Loc} {cells slots k n : Nat} {Q : Option Value → Heap → List Loc → Prop} {A B : State}
theorem own_pre (h : ∀ t, Steps p.tables e below B t → Steps p.tables e below A t) (q : own_Fin p e below s Q k n B) : own_Fin p e below s Q k n A := by
  obtain ⟨s₂, o, h1, h2⟩ := q; exact ⟨s₂, o, h _ h1, h2⟩
theorem own_retZ (X : Stand p l e R s m args below meth c T locs cells slots) (hx : p.tables.exec = Jvm.exec) (hlk : meth.locks = false) {pc : Nat} {Ls : Array Slot} {z : Int32} {rest : List Value} (hret : meth.sig.returnType = some .boolean) (hd : decode c.code pc = .ok (.ireturn, 1))
    (hQ : Q (some (.int (z &&& 1))) T.heap locs) (hk : cells ≤ k) (hn : slots ≤ n) : own_Fin p e below s Q k n (T.setTop (mkF m pc Ls (.int z :: rest))) := by
  obtain ⟨fs, hr, hrun, hended, hW, hsame⟩ := X.leave (v := some (.int (z &&& 1))) (fun h => by rw [hret] at h; cases h) hlk
  exact ⟨_, _, retN X hx (t := .boolean) hret (by simp) hd hr, hrun, hended, _, _, rfl, hQ, ⟨_, rfl⟩, hW, hsame.mono hk hn⟩
theorem own_retI (X : Stand p l e R s m args below meth c T locs cells slots) (hx : p.tables.exec = Jvm.exec) (hlk : meth.locks = false) {pc : Nat} {Ls : Array Slot} {z : Int32} {rest : List Value} (hret : meth.sig.returnType = some .int) (hd : decode c.code pc = .ok (.ireturn, 1))
    (hQ : Q (some (.int z)) T.heap locs) (hk : cells ≤ k) (hn : slots ≤ n) : own_Fin p e below s Q k n (T.setTop (mkF m pc Ls (.int z :: rest))) := by
  obtain ⟨fs, hr, hrun, hended, hW, hsame⟩ := X.leave (v := some (.int z)) (fun h => by rw [hret] at h; cases h) hlk
  exact ⟨_, _, retI X hx hret hd hr, hrun, hended, _, _, rfl, hQ, ⟨_, rfl⟩, hW, hsame.mono hk hn⟩
theorem own_retJ (X : Stand p l e R s m args below meth c T locs cells slots) (hx : p.tables.exec = Jvm.exec) (hlk : meth.locks = false) {pc : Nat} {Ls : Array Slot} {z : Int64} (hret : meth.sig.returnType = some .long) (hd : decode c.code pc = .ok (.lreturn, 1))
    (hQ : Q (some (.long z)) T.heap locs) (hk : cells ≤ k) (hn : slots ≤ n) : own_Fin p e below s Q k n (T.setTop (mkF m pc Ls [.long z])) := by
  obtain ⟨fs, hr, hrun, hended, hW, hsame⟩ := X.leave (v := some (.long z)) (fun h => by rw [hret] at h; cases h) hlk
  exact ⟨_, _, X.lreturnOut hx hret hd hr, hrun, hended, _, _, rfl, hQ, ⟨_, rfl⟩, hW, hsame.mono hk hn⟩
theorem own_retV (X : Stand p l e R s m args below meth c T locs cells slots) (hx : p.tables.exec = Jvm.exec) (hlk : meth.locks = false) {pc : Nat} {Ls : Array Slot} (hret : meth.sig.returnType = none) (hd : decode c.code pc = .ok (.return_, 1))
    (hQ : Q none T.heap locs) (hk : cells ≤ k) (hn : slots ≤ n) : own_Fin p e below s Q k n (T.setTop (mkF m pc Ls [])) := by
  obtain ⟨fs, hr, hrun, hended, hW, hsame⟩ := X.leave (v := none) (fun _ => rfl) hlk
  exact ⟨_, _, X.returnOut hx hret hd hr, hrun, hended, _, _, rfl, hQ, ⟨_, rfl⟩, hW, hsame.mono hk hn⟩
theorem own_at {v : Option Value} {h h' : Heap} {L : List Loc} (e : h' = h) (q : Q v h L) : Q v h' L := e ▸ q
theorem own_someI {r z : Int32} (h : r = z) : some (Value.int z) = some (Value.int r) := by rw [h]
theorem own_someJ {r z : Int64} (h : r = z) : some (Value.long z) = some (Value.long r) := by rw [h]
end Own
theorem own_retR {p : Program} {l : Launch} {e : Env} {R : Room} {s : State} {m : MethodId} {args : Array Value} {below : List Frame} {meth : Method} {c : Code} {T : State} {locs : List Loc} {cells slots k n : Nat} {Q : Option Value → Heap → List Loc → Prop}
    (X : Stand p l e R s m args below meth c T locs cells slots) (hx : p.tables.exec = Jvm.exec) (hlk : meth.locks = false) {pc : Nat} {Ls : Array Slot} {w : Value} {t : FieldType} (hret : meth.sig.returnType = some t) (hd : decode c.code pc = .ok (.areturn, 1)) (hw : w.isRef = true) (ht : t.isReference = true)
    (hQ : Q (some w) T.heap locs) (hk : cells ≤ k) (hn : slots ≤ n) : own_Fin p e below s Q k n (T.setTop (mkF m pc Ls [w])) := by
  obtain ⟨fs, hr, hrun, hended, hW, hsame⟩ := X.leave (v := some w) (fun h => by rw [hret] at h; cases h) hlk
  exact ⟨_, _, X.areturnOut hx hw hret ht hd hr, hrun, hended, _, _, rfl, hQ, ⟨_, rfl⟩, hW, hsame.mono hk hn⟩
section OwnSync
variable {p : Program} {l : Launch} {e : Env} {R : Room} {s sS : State} {m : MethodId} {args : Array Value} {below : List Frame} {meth : Method} {c : Code} {T : State} {locs : List Loc} {cells slots k n : Nat} {Q : Option Value → Heap → List Loc → Prop} {Z : State} {a0 : Array Value} {h h' : Heap} {a : Addr} {cell : Cell}
theorem own_unt (U : Unt s.heap a) {V : State} {o : Outcome} (F : FrameEnd s o V locs cells slots) : Unt V.heap a := by
  obtain ⟨cl, h1, h2, h3⟩ := U
  obtain ⟨-, -, -, -, -, -, -, q⟩ := F
  obtain ⟨c', q1, q2, -, -⟩ := q _ _ h1
  exact ⟨c', q1, by rw [q2]; exact h2, by rw [q2]; exact h3⟩
theorem own_retSV (hsS : sS = s.setCell a (cell.withEntry s.cur)) (X : Stand p l e R sS m args below meth c T locs cells slots) (hx : p.tables.exec = Jvm.exec) (hc : s.heap[a]? = some cell) (ho : cell.enterable s.cur) (hl : meth.locks = true) (hret : meth.sig.returnType = none) {pc : Nat} {Ls : Array Slot} {st : List Value} (hd : decode c.code pc = .ok (.return_, 1))
    (hQ : ∀ V : State, Mon T.heap V.heap → FrameEnd s (.returned none) V locs cells slots → Q none V.heap locs) (hk : cells ≤ k) (hn : slots ≤ n) : own_Fin p e below s Q k n (T.setTop (mkL a m pc Ls st)) := by
  subst hsS
  obtain ⟨V, hr, hrun, hended, M1, hW, hsame⟩ := leaveS X hc ho hl (v := none) (fun _ => rfl)
  exact ⟨V, _, retS0 X hx hret hd hr, hrun, hended, _, _, rfl, hQ V M1 ⟨⟨_, rfl⟩, hW, hsame⟩, ⟨_, rfl⟩, hW, hsame.mono hk hn⟩
theorem own_retSI (hsS : sS = s.setCell a (cell.withEntry s.cur)) (X : Stand p l e R sS m args below meth c T locs cells slots) (hx : p.tables.exec = Jvm.exec) (hc : s.heap[a]? = some cell) (ho : cell.enterable s.cur) (hl : meth.locks = true) (hret : meth.sig.returnType = some .int) {pc : Nat} {Ls : Array Slot} {z : Int32} {st : List Value} (hd : decode c.code pc = .ok (.ireturn, 1))
    (hQ : ∀ V : State, Mon T.heap V.heap → FrameEnd s (.returned (some (.int z))) V locs cells slots → Q (some (.int z)) V.heap locs) (hk : cells ≤ k) (hn : slots ≤ n) : own_Fin p e below s Q k n (T.setTop (mkL a m pc Ls (.int z :: st))) := by
  subst hsS
  obtain ⟨V, hr, hrun, hended, M1, hW, hsame⟩ := leaveS X hc ho hl (v := some (.int z)) (fun h => by rw [hret] at h; cases h)
  exact ⟨V, _, retS X hx hret rfl (Or.inl ⟨rfl, Or.inl rfl, _, rfl⟩) hd hr, hrun, hended, _, _, rfl, hQ V M1 ⟨⟨_, rfl⟩, hW, hsame⟩, ⟨_, rfl⟩, hW, hsame.mono hk hn⟩
theorem own_backS {y : MethodName} {bytes : ByteArray} {maxL : Nat} {ret : Option FieldType} {rm : Room} {len W : Nat} {as' : Array Value} {QQ : Option Value → Heap → List Loc → Prop}
    (hM : MetFree l y (head1 [Cond.codeSync y bytes maxL ret, Cond.instanceMethod y] rm) (fun b U => b = as' ∧ Z.Warmed39 U.vm ∧ U.heap = h ∧ ∃ cell : Cell, h[a]? = some cell ∧ cell.enterable U.cur) (fun _ _ _ _ _ => True) (fun _ U o U' => ∃ v L, o = .returned v ∧ QQ v U'.heap L ∧ FrameEnd U o U' L rm.cells rm.slots))
    (hZ : Z.Warmed39 s.vm) (wc : (Cond.codeSync y bytes maxL ret).before a0 Z = true) (wi : (Cond.instanceMethod y).before a0 Z = true) (wz : (Cond.initialized y.cls).before a0 Z = true) (N : Unt h a) (hf : rm.frames + 1 ≤ R.frames) (hl : W + (maxL + 11) + rm.locals ≤ R.locals) :
    Back l R p e below s args y len W (fun A b => b = as' ∧ A.U.heap = h ∧ A.cells + rm.cells ≤ R.cells ∧ A.slots + rm.slots ≤ R.slots)
      (fun A _ v B => ∃ L, QQ v B.U.heap L ∧ B.locs = A.locs ++ L ∧ B.cells = A.cells + rm.cells ∧ B.slots = A.slots + rm.slots) :=
  Jvm.Free.XT.back_of_sync (bytes := bytes) (maxL := maxL) (ret := ret) (E := fun _ _ o t L k n => k = rm.cells ∧ n = rm.slots ∧ ∃ v, o = .returned v ∧ QQ v t.heap L) hM hf hl
    (fun m meth c A b Y hp => have hU : Z.Warmed39 A.U.vm := wtrans hZ Y.warmed
      ⟨by show (Cond.and _ (Cond.and _ .tt)).before b A.U = true; rw [Cond.before_and, Cond.before_and, mv hU wc, mv hU wi]; rfl, mv hU wc, mv hU wz, hp.2.2.1, hp.2.2.2⟩)
    (fun m meth c A b g mk Y hp => ⟨hp.1, wtrans hZ Y.warmed, hp.2.1, by obtain ⟨cl, u1, -, u3⟩ := N; exact ⟨cl, u1, by rw [Cell.enterable, u3]; simp⟩⟩)
    (fun _ _ _ _ _ _ _ _ _ => trivial)
    (fun _ _ _ _ ⟨v, L, h1, h2, h3⟩ => ⟨L, _, _, h3, rfl, rfl, v, h1, h2⟩)
    (fun m meth c A b g mk v t L k n Y hp _ _ ⟨e1, e2, v', e3, e4⟩ => by cases e3; subst e1 e2; exact ⟨L, e4, rfl, rfl, rfl⟩)
theorem own_Arv_mon {b : Addr} {kc : ClassId} {ty : FieldType} {z : Int32} {vs : List Value} {d : Value} (W : Mon h h') (F : Arv Z h b kc ty z vs d) : Arv Z h' b kc ty z vs d := by
  obtain ⟨cl, A, r⟩ := F
  obtain ⟨mo, q⟩ := W.2 _ _ A.1
  exact ⟨{ cl with monitor := mo }, ⟨q, A.2.1, A.2.2⟩, r⟩
theorem own_cls {C : String} (hZ : Z.Warmed39 s.vm) (eT : T.heap = h) (E : Exa Z h a C) : ∃ cl : Cell, T.heap[a]? = some cl ∧ cl.vm.isStatics = false ∧ s.vm.findClass C = some cl.cls := by
  obtain ⟨cl, kk, h1, h2, h3, h4, -⟩ := E
  exact ⟨cl, by rw [eT]; exact h1, h4, by rw [hZ.alike.findClass]; exact h2⟩
end OwnSync
def own_B (Z : State) (h : Heap) (rb : Addr) (vb : Value) (cn uu : Int32) : Prop := Exa Z h rb "com/example/quillon/quillon/storage/LogFormat$RecordBuffer" ∧ Fld Z h rb "java/io/ByteArrayOutputStream" "buf" "[B" vb ∧ Fld Z h rb "java/io/ByteArrayOutputStream" "count" "I" (.int cn) ∧ Fld Z h rb "com/example/quillon/quillon/storage/LogFormat$RecordBuffer" "usualBytes" "I" (.int uu)
section Buffer
variable {p : Program} {l : Launch} {e : Env} {R : Room} {s : State} {m : MethodId} {args : Array Value} {below : List Frame} {meth : Method} {c : Code} {T : State} {locs : List Loc} {cells slots : Nat} {Z : State} {a0 : Array Value} {h h' : Heap} {rb a : Addr} {vb vb' : Value} {cn cn' uu uu' : Int32} {k : ClassId} {ty : FieldType} {z : Int32} {vs : List Value} {dv : Value}
theorem own_B_keep {ws : List Addr} (F : own_B Z h rb vb cn uu) (K : Keep h h' ws) (n : rb ∉ ws) : own_B Z h' rb vb cn uu := ⟨F.1.keep K, F.2.1.keep K n, F.2.2.1.keep K n, F.2.2.2.keep K n⟩
theorem own_B_ext (F : own_B Z h rb vb cn uu) (E : Ext h h') : own_B Z h' rb vb cn uu := ⟨F.1.ext E, F.2.1.ext E, F.2.2.1.ext E, F.2.2.2.ext E⟩
theorem own_B_mon (F : own_B Z h rb vb cn uu) (W : Mon h h') : own_B Z h' rb vb cn uu := ⟨F.1.mon W, F.2.1.mon W, F.2.2.1.mon W, F.2.2.2.mon W⟩
theorem own_B_buf (hw : ∀ d ∈ tables_1, d.before a0 Z = true) (F : own_B Z h rb vb cn uu) (W : Wr h h' rb (Jvm.RoadKit.slotOf Z "java/io/ByteArrayOutputStream" "buf" "[B") vb') : own_B Z h' rb vb' cn uu :=
  ⟨F.1.wr W, F.2.1.same W, F.2.2.1.other W (Or.inr (slot_ne (Or.inl (hw _ (List.mem_of_getElem? (i := 40) rfl))) (Or.inl (hw _ (List.mem_of_getElem? (i := 22) rfl))) (by decide) (t := .int) (t' := .array .byte) (by decide) (by decide))), F.2.2.2.other W (Or.inr (slot_ne (Or.inr (hw _ (List.mem_of_getElem? (i := 24) rfl))) (Or.inl (hw _ (List.mem_of_getElem? (i := 22) rfl))) (by decide) (t := .int) (t' := .array .byte) (by decide) (by decide)))⟩
theorem own_B_cnt (hw : ∀ d ∈ tables_1, d.before a0 Z = true) (F : own_B Z h rb vb cn uu) (W : Wr h h' rb (Jvm.RoadKit.slotOf Z "java/io/ByteArrayOutputStream" "count" "I") (.int cn')) : own_B Z h' rb vb cn' uu :=
  ⟨F.1.wr W, F.2.1.other W (Or.inr (slot_ne (Or.inl (hw _ (List.mem_of_getElem? (i := 22) rfl))) (Or.inl (hw _ (List.mem_of_getElem? (i := 40) rfl))) (by decide) (t := .array .byte) (t' := .int) (by decide) (by decide))), F.2.2.1.same W, F.2.2.2.other W (Or.inr (slot_ne (Or.inr (hw _ (List.mem_of_getElem? (i := 24) rfl))) (Or.inl (hw _ (List.mem_of_getElem? (i := 40) rfl))) (by decide) (t := .int) (t' := .int) (by decide) (by decide)))⟩
theorem own_B_usu (hw : ∀ d ∈ tables_1, d.before a0 Z = true) (F : own_B Z h rb vb cn uu) (W : Wr h h' rb (Jvm.RoadKit.slotOf Z "com/example/quillon/quillon/storage/LogFormat$RecordBuffer" "usualBytes" "I") (.int uu')) : own_B Z h' rb vb cn uu' :=
  ⟨F.1.wr W, F.2.1.other W (Or.inr (slot_ne (Or.inl (hw _ (List.mem_of_getElem? (i := 22) rfl))) (Or.inr (hw _ (List.mem_of_getElem? (i := 24) rfl))) (by decide) (t := .array .byte) (t' := .int) (by decide) (by decide))), F.2.2.1.other W (Or.inr (slot_ne (Or.inl (hw _ (List.mem_of_getElem? (i := 40) rfl))) (Or.inr (hw _ (List.mem_of_getElem? (i := 24) rfl))) (by decide) (t := .int) (t' := .int) (by decide) (by decide))), F.2.2.2.same W⟩
theorem own_len (X : Stand p l e R s m args below meth c T locs cells slots) (hx : p.tables.exec = Jvm.exec) (hZ : Z.Warmed39 s.vm) (eT : T.heap = h) (F : Arv Z h a k ty z vs dv) {g : JFrame} (hg : g.method = m) {rest : List Value} (hs : g.stack = .ref a :: rest) (hd : decode c.code g.pc = .ok (.arraylength, 1)) :
    ∀ t, Steps p.tables e below (T.setTop { g with pc := g.pc + 1, stack := .int z :: rest }) t → Steps p.tables e below (T.setTop g) t := by
  obtain ⟨cl, A, -, S, N, -, -⟩ := F
  intro t kt
  refine X.arraylength hx (by rw [eT]; exact A.1) (State.isArrayOf_alike hZ.alike A.2.1) hg hs hd _ ?_
  rw [len_of S N]; exact kt
theorem own_ldB (X : Stand p l e R s m args below meth c T locs cells slots) (hx : p.tables.exec = Jvm.exec) (hZ : Z.Warmed39 s.vm) (eT : T.heap = h) (F : Arv Z h a k .byte z vs dv) {j v : Int32} (hj : ¬ j < 0 ∧ j < z) (hv : vs.getD j.toNatClampNeg dv = .int v) {g : JFrame} (hg : g.method = m) {rest : List Value} (hs : g.stack = .int j :: .ref a :: rest) (hd : decode c.code g.pc = .ok (.baload, 1)) :
    ∀ t, Steps p.tables e below (T.setTop { g with pc := g.pc + 1, stack := .int v :: rest }) t → Steps p.tables e below (T.setTop g) t := by
  obtain ⟨cl, A, -, S, N, H, -⟩ := F
  have hin := inb_of (j := j) S hj
  exact X.baloadBytes hx (by rw [eT]; exact A.1) (State.isArrayOf_alike hZ.alike A.2.1) A.2.2 hin (Has.at H hin hv) hg hs hd
theorem own_stB (X : Stand p l e R s m args below meth c T locs cells slots) (hx : p.tables.exec = Jvm.exec) (hZ : Z.Warmed39 s.vm) (eT : T.heap = h) (F : Arv Z h a k .byte z vs dv) {j x : Int32} (hj : ¬ j < 0 ∧ j < z) (hl : j.toNatClampNeg < vs.length) {g : JFrame} (hg : g.method = m) {rest : List Value} (hs : g.stack = .int x :: .int j :: .ref a :: rest) (hd : decode c.code g.pc = .ok (.bastore, 1)) :
    ∃ T' h', Stand p l e R s m args below meth c T' (locs ++ [⟨a, j.toNatClampNeg⟩]) cells slots ∧ T'.heap = h' ∧ Wr h h' a j.toNatClampNeg (.int (nar .byte x)) ∧ Arv Z h' a k .byte z (vs.set j.toNatClampNeg (.int (nar .byte x))) dv ∧ ∀ t, Steps p.tables e below (T'.setTop { g with pc := g.pc + 1, stack := rest }) t → Steps p.tables e below (T.setTop g) t := by
  obtain ⟨cl, A, q, S, N, H, G⟩ := F
  obtain ⟨T', h', X', e', W, st⟩ := stB X hx hZ eT A (j := j) (x := x) (inb_of S hj) hg hs hd
  exact ⟨T', h', X', e', W, Arv.set A q S N H G (fits_nar_byte x) W _ rfl hl, st⟩
theorem own_int (F : Arv Z h a k .byte z vs dv) {i : Nat} (hi : i < z.toNatClampNeg) : ∃ x, vs.getD i dv = .int x := by
  obtain ⟨cl, A, q, S, N, H, G⟩ := F
  exact fit_I (G i (by rw [S]; exact hi)) (Or.inr (Or.inr (Or.inl rfl)))
end Buffer
theorem own_lt {x y : Int32} (h : x.toInt < y.toInt) : x < y := Int32.lt_iff_toInt_lt.mpr h
theorem own_nlt {x y : Int32} (h : y.toInt ≤ x.toInt) : ¬ x < y := fun q => by have := Int32.lt_iff_toInt_lt.mp q; omega
theorem own_nat {x : Int32} {n : Nat} (h : x.toInt ≤ n) : x.toNatClampNeg ≤ n := by simp only [Int32.toNatClampNeg]; omega
theorem own_natle {x y : Int32} (h : x.toInt ≤ y.toInt) : x.toNatClampNeg ≤ y.toNatClampNeg := by simp only [Int32.toNatClampNeg]; omega
theorem own_cp {n : Nat} {vs L : List Value} {d : Value} {k i z : Nat} (hz : z = 0) (hi : i < n) : (L.take z ++ ((List.range n).map fun i => vs.getD (z + i) d) ++ L.drop k).getD i d = vs.getD i d := by
  subst hz
  rw [List.take_zero, List.nil_append, List.getD_eq_getElem?_getD, List.getElem?_append_left (by simpa using hi)]
  simp [hi]
theorem d10_0 : decode jdk_29_method_65_code 0 = .ok (.iload_n 0, 1) := by decide +kernel
theorem d10_1 : decode jdk_29_method_65_code 1 = .ok (.iload_n 1, 1) := by decide +kernel
theorem d10_2 : decode jdk_29_method_65_code 2 = .ok (.if_icmp .lt 7, 3) := by decide +kernel
theorem d10_5 : decode jdk_29_method_65_code 5 = .ok (.iload_n 0, 1) := by decide +kernel
theorem d10_6 : decode jdk_29_method_65_code 6 = .ok (.goto 4, 3) := by decide +kernel
theorem d10_9 : decode jdk_29_method_65_code 9 = .ok (.iload_n 1, 1) := by decide +kernel
theorem d10_10 : decode jdk_29_method_65_code 10 = .ok (.ireturn, 1) := by decide +kernel
theorem ef_10 (m : MethodId) (p0 : Int32) (p1 : Int32) : entryFrame m #[(.int p0), (.int p1)] 2 = mkF m 0 #[.val (.int p0), .val (.int p1)] [] := by first | (simp [entryFrame, mkF, argsToLocals, Value.category]; done) | rfl
def f10_10 (p0 : Int32) (p1 : Int32) (t0 : Int32) : Int32 := t0
def f10_0 (p0 : Int32) (p1 : Int32) : Int32 := (if p0 < p1 then (f10_10 p0 p1 p1) else (f10_10 p0 p1 p0))
def Q10 (p0 : Int32) (p1 : Int32) (h0 : Heap) (n0 : Nat) (v : Option Value) (h : Heap) (L : List Loc) : Prop := v = some (.int (f10_0 p0 p1)) ∧ Fr n0 L ∧ h = h0
set_option maxRecDepth 65536 in
set_option maxHeartbeats 40000000 in
theorem rm10 (l : Launch) (Z : State) (a0 : Array Value) (hw : ∀ d ∈ tables_1, d.before a0 Z = true) (ws : List Jvm.Cond) (p0 : Int32) (p1 : Int32) (h0 : Heap) (n0 : Nat) (Z0 : n0 ≤ h0.size) :
    MetFree l (⟨"java/lang/Math", "max", "(II)I"⟩ : MethodName) (head1 (Jvm.Cond.code (⟨"java/lang/Math", "max", "(II)I"⟩ : MethodName) jdk_29_method_65_code 2 (some .int) :: ws) ({ frames := 0, cells := 0, slots := 0, locals := 0 } : Room)) (fun a U => a = #[(.int p0), (.int p1)] ∧ Z.Warmed39 U.vm ∧ U.heap = h0) (fun _ _ _ _ _ => True) (fun _ U o U' => ∃ v L, o = .returned v ∧ Q10 p0 p1 h0 n0 v U'.heap L ∧ FrameEnd U o U' L ({ frames := 0, cells := 0, slots := 0, locals := 0 } : Room).cells ({ frames := 0, cells := 0, slots := 0, locals := 0 } : Room).slots) := by
  refine MetFree.of_bodySF (Jvm.Free.JP.mathPlain rfl (by decide +kernel)) hisR ?_
  intro p e s m args below meth c s₁ Bd hml0 hP hK
  obtain ⟨rfl, hZ, hh⟩ := hP
  have hx := Bd.exec
  have hby := Bd.bytes
  have hml : c.maxLocals = 2 := hml0
  have hlk : meth.locks = false := BodyLoose.notSynchronized Bd
  have hown : s.vm.findClass "java/lang/Math" = some m.cls := findClass_of_methodNamed Bd.named
  have X0 : Stand p l e ({ frames := 0, cells := 0, slots := 0, locals := 0 } : Room) s m #[(.int p0), (.int p1)] below meth c s₁ [] 0 0 := Stand.of_body Bd
  have e0 : s₁.heap = h0 := by rw [← hh, Bd.state]; rfl
  have N0 := Fr.nil n0
  have Zs0 : n0 ≤ s₁.heap.size := by rw [e0]; exact Z0
  have pre0 : ∀ t, Steps p.tables e below (s₁.setTop (mkF m 0 #[.val (.int p0), .val (.int p1)] [])) t → Steps p.tables e below (s₁.setTop (entryFrame m #[(.int p0), (.int p1)] 2)) t := fun t k => castTop (ef_10 m p0 p1) k
  have hnm := (name_of_methodNamed Bd.named Bd.method).1
  have g_10 : ∀ (T : State) (locs : List Loc) (X : Stand p l e ({ frames := 0, cells := 0, slots := 0, locals := 0 } : Room) s m #[(.int p0), (.int p1)] below meth c T locs 0 0) (eT : T.heap = h0) (N : Fr n0 locs) (t0 : Int32)  (r : Int32), r = f10_10 p0 p1 t0 → own_Fin p e below s (fun v h L => v = some (.int r) ∧ Fr n0 L ∧ h = h0) ({ frames := 0, cells := 0, slots := 0, locals := 0 } : Room).cells ({ frames := 0, cells := 0, slots := 0, locals := 0 } : Room).slots (T.setTop (mkF m 10 #[.val (.int p0), .val (.int p1)] [(.int t0)])) := by
    intro T locs X eT N t0  r hr
    have hr : r = t0 := hr
    exact own_retI X hx hlk Bd.returns (hb hby d10_10) ⟨own_someI hr, N, eT⟩ (by decide) (by decide)
  have g_0 : ∀ r, r = f10_0 p0 p1 → own_Fin p e below s (fun v h L => v = some (.int r) ∧ Fr n0 L ∧ h = h0) ({ frames := 0, cells := 0, slots := 0, locals := 0 } : Room).cells ({ frames := 0, cells := 0, slots := 0, locals := 0 } : Room).slots (s₁.setTop (mkF m 0 #[.val (.int p0), .val (.int p1)] [])) := by
    intro r hr
    have hr : r = (if p0 < p1 then (f10_10 p0 p1 p1) else (f10_10 p0 p1 p0)) := hr
    refine own_pre (B := s₁.setTop (mkF m 1 #[.val (.int p0), .val (.int p1)] [(.int p0)])) (fun t k => XS.iloadN X0.here hx rfl (hb hby d10_0) rfl k) ?_
    refine own_pre (B := s₁.setTop (mkF m 2 #[.val (.int p0), .val (.int p1)] [(.int p1), (.int p0)])) (fun t k => XS.iloadN X0.here hx rfl (hb hby d10_1) rfl k) ?_
    by_cases hc1 : p0 < p1
    · have hr2 := hr.trans (if_pos hc1)
      refine own_pre (B := s₁.setTop (mkF m 9 #[.val (.int p0), .val (.int p1)] [])) (fun t k => XS.icmpYes X0.here hx rfl (pc0 := 2) (pc' := 9) rfl (hb hby d10_2) rfl (tlt hc1).1 (by decide) (by decide) k) ?_
      refine own_pre (B := s₁.setTop (mkF m 10 #[.val (.int p0), .val (.int p1)] [(.int p1)])) (fun t k => XS.iloadN X0.here hx rfl (hb hby d10_9) rfl k) ?_
      exact g_10 s₁ _ X0 e0 N0 p1 _ hr2
    · have hr3 := hr.trans (if_neg hc1)
      refine own_pre (B := s₁.setTop (mkF m 5 #[.val (.int p0), .val (.int p1)] [])) (fun t k => XS.icmpNo X0.here hx rfl (hb hby d10_2) rfl (flt hc1).1 k) ?_
      refine own_pre (B := s₁.setTop (mkF m 6 #[.val (.int p0), .val (.int p1)] [(.int p0)])) (fun t k => XS.iloadN X0.here hx rfl (hb hby d10_5) rfl k) ?_
      refine own_pre (B := s₁.setTop (mkF m 10 #[.val (.int p0), .val (.int p1)] [(.int p0)])) (fun t k => XS.goto X0.here hx rfl (pc0 := 6) (pc' := 10) rfl (hb hby d10_6) (by decide) (by decide) k) ?_
      exact g_10 s₁ _ X0 e0 N0 p0 _ hr3
  exact own_pre pre0 (g_0 _ rfl)
theorem d12_0 : decode jdk_29_method_69_code 0 = .ok (.iload_n 0, 1) := by decide +kernel
theorem d12_1 : decode jdk_29_method_69_code 1 = .ok (.iload_n 1, 1) := by decide +kernel
theorem d12_2 : decode jdk_29_method_69_code 2 = .ok (.if_icmp .gt 7, 3) := by decide +kernel
theorem d12_5 : decode jdk_29_method_69_code 5 = .ok (.iload_n 0, 1) := by decide +kernel
theorem d12_6 : decode jdk_29_method_69_code 6 = .ok (.goto 4, 3) := by decide +kernel
theorem d12_9 : decode jdk_29_method_69_code 9 = .ok (.iload_n 1, 1) := by decide +kernel
theorem d12_10 : decode jdk_29_method_69_code 10 = .ok (.ireturn, 1) := by decide +kernel
theorem ef_12 (m : MethodId) (p0 : Int32) (p1 : Int32) : entryFrame m #[(.int p0), (.int p1)] 2 = mkF m 0 #[.val (.int p0), .val (.int p1)] [] := by first | (simp [entryFrame, mkF, argsToLocals, Value.category]; done) | rfl
def f12_10 (p0 : Int32) (p1 : Int32) (t0 : Int32) : Int32 := t0
def f12_0 (p0 : Int32) (p1 : Int32) : Int32 := (if p1 < p0 then (f12_10 p0 p1 p1) else (f12_10 p0 p1 p0))
def Q12 (p0 : Int32) (p1 : Int32) (h0 : Heap) (n0 : Nat) (v : Option Value) (h : Heap) (L : List Loc) : Prop := v = some (.int (f12_0 p0 p1)) ∧ Fr n0 L ∧ h = h0
set_option maxRecDepth 65536 in
set_option maxHeartbeats 40000000 in
theorem rm12 (l : Launch) (Z : State) (a0 : Array Value) (hw : ∀ d ∈ tables_1, d.before a0 Z = true) (ws : List Jvm.Cond) (p0 : Int32) (p1 : Int32) (h0 : Heap) (n0 : Nat) (Z0 : n0 ≤ h0.size) :
    MetFree l (⟨"java/lang/Math", "min", "(II)I"⟩ : MethodName) (head1 (Jvm.Cond.code (⟨"java/lang/Math", "min", "(II)I"⟩ : MethodName) jdk_29_method_69_code 2 (some .int) :: ws) ({ frames := 0, cells := 0, slots := 0, locals := 0 } : Room)) (fun a U => a = #[(.int p0), (.int p1)] ∧ Z.Warmed39 U.vm ∧ U.heap = h0) (fun _ _ _ _ _ => True) (fun _ U o U' => ∃ v L, o = .returned v ∧ Q12 p0 p1 h0 n0 v U'.heap L ∧ FrameEnd U o U' L ({ frames := 0, cells := 0, slots := 0, locals := 0 } : Room).cells ({ frames := 0, cells := 0, slots := 0, locals := 0 } : Room).slots) := by
  refine MetFree.of_bodySF (Jvm.Free.JP.mathPlain rfl (by decide +kernel)) hisR ?_
  intro p e s m args below meth c s₁ Bd hml0 hP hK
  obtain ⟨rfl, hZ, hh⟩ := hP
  have hx := Bd.exec
  have hby := Bd.bytes
  have hml : c.maxLocals = 2 := hml0
  have hlk : meth.locks = false := BodyLoose.notSynchronized Bd
  have hown : s.vm.findClass "java/lang/Math" = some m.cls := findClass_of_methodNamed Bd.named
  have X0 : Stand p l e ({ frames := 0, cells := 0, slots := 0, locals := 0 } : Room) s m #[(.int p0), (.int p1)] below meth c s₁ [] 0 0 := Stand.of_body Bd
  have e0 : s₁.heap = h0 := by rw [← hh, Bd.state]; rfl
  have N0 := Fr.nil n0
  have Zs0 : n0 ≤ s₁.heap.size := by rw [e0]; exact Z0
  have pre0 : ∀ t, Steps p.tables e below (s₁.setTop (mkF m 0 #[.val (.int p0), .val (.int p1)] [])) t → Steps p.tables e below (s₁.setTop (entryFrame m #[(.int p0), (.int p1)] 2)) t := fun t k => castTop (ef_12 m p0 p1) k
  have hnm := (name_of_methodNamed Bd.named Bd.method).1
  have g_10 : ∀ (T : State) (locs : List Loc) (X : Stand p l e ({ frames := 0, cells := 0, slots := 0, locals := 0 } : Room) s m #[(.int p0), (.int p1)] below meth c T locs 0 0) (eT : T.heap = h0) (N : Fr n0 locs) (t0 : Int32)  (r : Int32), r = f12_10 p0 p1 t0 → own_Fin p e below s (fun v h L => v = some (.int r) ∧ Fr n0 L ∧ h = h0) ({ frames := 0, cells := 0, slots := 0, locals := 0 } : Room).cells ({ frames := 0, cells := 0, slots := 0, locals := 0 } : Room).slots (T.setTop (mkF m 10 #[.val (.int p0), .val (.int p1)] [(.int t0)])) := by
    intro T locs X eT N t0  r hr
    have hr : r = t0 := hr
    exact own_retI X hx hlk Bd.returns (hb hby d12_10) ⟨own_someI hr, N, eT⟩ (by decide) (by decide)
  have g_0 : ∀ r, r = f12_0 p0 p1 → own_Fin p e below s (fun v h L => v = some (.int r) ∧ Fr n0 L ∧ h = h0) ({ frames := 0, cells := 0, slots := 0, locals := 0 } : Room).cells ({ frames := 0, cells := 0, slots := 0, locals := 0 } : Room).slots (s₁.setTop (mkF m 0 #[.val (.int p0), .val (.int p1)] [])) := by
    intro r hr
    have hr : r = (if p1 < p0 then (f12_10 p0 p1 p1) else (f12_10 p0 p1 p0)) := hr
    refine own_pre (B := s₁.setTop (mkF m 1 #[.val (.int p0), .val (.int p1)] [(.int p0)])) (fun t k => XS.iloadN X0.here hx rfl (hb hby d12_0) rfl k) ?_
    refine own_pre (B := s₁.setTop (mkF m 2 #[.val (.int p0), .val (.int p1)] [(.int p1), (.int p0)])) (fun t k => XS.iloadN X0.here hx rfl (hb hby d12_1) rfl k) ?_
    by_cases hc1 : p1 < p0
    · have hr2 := hr.trans (if_pos hc1)
      refine own_pre (B := s₁.setTop (mkF m 9 #[.val (.int p0), .val (.int p1)] [])) (fun t k => XS.icmpYes X0.here hx rfl (pc0 := 2) (pc' := 9) rfl (hb hby d12_2) rfl (tlt hc1).2.2.1 (by decide) (by decide) k) ?_
      refine own_pre (B := s₁.setTop (mkF m 10 #[.val (.int p0), .val (.int p1)] [(.int p1)])) (fun t k => XS.iloadN X0.here hx rfl (hb hby d12_9) rfl k) ?_
      exact g_10 s₁ _ X0 e0 N0 p1 _ hr2
    · have hr3 := hr.trans (if_neg hc1)
      refine own_pre (B := s₁.setTop (mkF m 5 #[.val (.int p0), .val (.int p1)] [])) (fun t k => XS.icmpNo X0.here hx rfl (hb hby d12_2) rfl (flt hc1).2.2.1 k) ?_
      refine own_pre (B := s₁.setTop (mkF m 6 #[.val (.int p0), .val (.int p1)] [(.int p0)])) (fun t k => XS.iloadN X0.here hx rfl (hb hby d12_5) rfl k) ?_
      refine own_pre (B := s₁.setTop (mkF m 10 #[.val (.int p0), .val (.int p1)] [(.int p0)])) (fun t k => XS.goto X0.here hx rfl (pc0 := 6) (pc' := 10) rfl (hb hby d12_6) (by decide) (by decide) k) ?_
      exact g_10 s₁ _ X0 e0 N0 p0 _ hr3
  exact own_pre pre0 (g_0 _ rfl)
theorem own_min {a b : Int32} (h : ¬ b < a) : f12_0 a b = a := by
  unfold f12_0 f12_10
  rw [if_neg h]
def own_ln (us mc : Int32) : Int32 := us + f10_0 (mc - us) us
theorem own_ln_ok {us mc : Int32} (h0 : 0 ≤ us.toInt) (h1 : us.toInt ≤ 63) (h2 : us.toInt < mc.toInt) (h3 : mc.toInt ≤ 127) : us.toInt < (own_ln us mc).toInt ∧ mc.toInt ≤ (own_ln us mc).toInt ∧ (own_ln us mc).toInt ≤ 127 := by
  have s1 := c_isub mc us
  have r1 := rng32 (mc - us)
  have d1 : (mc - us).toInt = mc.toInt - us.toInt := by omega
  unfold own_ln f10_0 f10_10
  by_cases q : mc - us < us
  · rw [if_pos q]
    rw [Int32.lt_iff_toInt_lt] at q
    have s2 := c_iadd us us
    have r2 := rng32 (us + us)
    omega
  · rw [if_neg q]
    rw [Int32.lt_iff_toInt_lt] at q
    have s2 := c_iadd us (mc - us)
    have r2 := rng32 (us + (mc - us))
    omega
theorem d3_0 : decode jdk_2038_method_1_code 0 = .ok (.aload_n 0, 1) := by decide +kernel
theorem d3_1 : decode jdk_2038_method_1_code 1 = .ok (.invokespecial 1, 3) := by decide +kernel
theorem d3_4 : decode jdk_2038_method_1_code 4 = .ok (.return_, 1) := by decide +kernel
theorem pn_3 : plainName "java/io/OutputStream" = true := by first | (simp [plainName, overriddenIn]; done) | decide +kernel
theorem ef_3 (m : MethodId) (rb : Addr) : entryFrame m #[(.ref rb)] 1 = mkF m 0 #[.val (.ref rb)] [] := by first | (simp [entryFrame, mkF, argsToLocals, Value.category]; done) | rfl
def Q3 (Z : State) (rb : Addr) (h0 : Heap) (n0 : Nat) (v : Option Value) (h : Heap) (L : List Loc) : Prop := v = none ∧ Fr n0 L ∧ h = h0
set_option maxRecDepth 65536 in
set_option maxHeartbeats 40000000 in
theorem rm3 (l : Launch) (Z : State) (a0 : Array Value) (hw : ∀ d ∈ tables_1, d.before a0 Z = true) (ws : List Jvm.Cond) (rb : Addr) (h0 : Heap) (n0 : Nat) (Z0 : n0 ≤ h0.size) :
    MetFree l (⟨"java/io/OutputStream", "<init>", "()V"⟩ : MethodName) (head1 (Jvm.Cond.code (⟨"java/io/OutputStream", "<init>", "()V"⟩ : MethodName) jdk_2038_method_1_code 1 none :: ws) ({ frames := 1, cells := 0, slots := 0, locals := 12 } : Room)) (fun a U => a = #[(.ref rb)] ∧ Z.Warmed39 U.vm ∧ U.heap = h0) (fun _ _ _ _ _ => True) (fun _ U o U' => ∃ v L, o = .returned v ∧ Q3 Z rb h0 n0 v U'.heap L ∧ FrameEnd U o U' L ({ frames := 1, cells := 0, slots := 0, locals := 12 } : Room).cells ({ frames := 1, cells := 0, slots := 0, locals := 12 } : Room).slots) := by
  refine MetFree.of_bodySF (plainFor_of_name pn_3) hisR ?_
  intro p e s m args below meth c s₁ Bd hml0 hP hK
  obtain ⟨rfl, hZ, hh⟩ := hP
  have hx := Bd.exec
  have hby := Bd.bytes
  have hml : c.maxLocals = 1 := hml0
  have hlk : meth.locks = false := BodyLoose.notSynchronized Bd
  have hown : s.vm.findClass "java/io/OutputStream" = some m.cls := findClass_of_methodNamed Bd.named
  have hnm := (name_of_methodNamed Bd.named Bd.method).1
  have X0 : Stand p l e ({ frames := 1, cells := 0, slots := 0, locals := 12 } : Room) s m #[(.ref rb)] below meth c s₁ [] 0 0 := Stand.of_body Bd
  have e0 : s₁.heap = h0 := by rw [← hh, Bd.state]; rfl
  have N0 := Fr.nil n0
  have pre0 : ∀ t, Steps p.tables e below (s₁.setTop (mkF m 0 #[.val (.ref rb)] [])) t → Steps p.tables e below (s₁.setTop (entryFrame m #[(.ref rb)] 1)) t := fun t k => castTop (ef_3 m rb) k
  have g_0 : own_Fin p e below s (Q3 Z rb h0 n0) ({ frames := 1, cells := 0, slots := 0, locals := 12 } : Room).cells ({ frames := 1, cells := 0, slots := 0, locals := 12 } : Room).slots (s₁.setTop (mkF m 0 #[.val (.ref rb)] [])) := by
    refine own_pre (B := s₁.setTop (mkF m 1 #[.val (.ref rb)] [(.ref rb)])) (fun t k => XS.aloadN X0.here hx rfl (hb hby d3_0) rfl rfl k) ?_
    obtain ⟨T1, X1, e1, st1⟩ := initO X0 hx hZ hown (hw _ (List.mem_of_getElem? (i := 18) rfl)) (hw _ (List.mem_of_getElem? (i := 19) rfl)) (hw _ (List.mem_of_getElem? (i := 20) rfl)) e0 (g := (mkF m 1 #[.val (.ref rb)] [(.ref rb)])) rfl (by rw [hml]; rfl) rfl (hb hby d3_1) (by decide) (W := 0) (by show 2 * 0 + _ ≤ _; exact Nat.le_of_eq rfl) (by decide)
    refine own_pre (B := T1.setTop (mkF m 4 #[.val (.ref rb)] [])) st1 ?_
    exact own_retV X1 hx hlk Bd.returns (hb hby d3_4) (own_at e1 ⟨rfl, N0, rfl⟩) (by decide) (by decide)
  exact own_pre pre0 g_0
theorem d2_0 : decode jdk_2005_method_2_code 0 = .ok (.aload_n 0, 1) := by decide +kernel
theorem d2_1 : decode jdk_2005_method_2_code 1 = .ok (.invokespecial 7, 3) := by decide +kernel
theorem d2_4 : decode jdk_2005_method_2_code 4 = .ok (.iload_n 1, 1) := by decide +kernel
theorem d2_5 : decode jdk_2005_method_2_code 5 = .ok (.ifCond .ge 30, 3) := by decide +kernel
theorem d2_35 : decode jdk_2005_method_2_code 35 = .ok (.aload_n 0, 1) := by decide +kernel
theorem d2_36 : decode jdk_2005_method_2_code 36 = .ok (.iload_n 1, 1) := by decide +kernel
theorem d2_37 : decode jdk_2005_method_2_code 37 = .ok (.newarray .byte, 2) := by decide +kernel
theorem d2_39 : decode jdk_2005_method_2_code 39 = .ok (.putfield 33, 3) := by decide +kernel
theorem d2_42 : decode jdk_2005_method_2_code 42 = .ok (.return_, 1) := by decide +kernel
theorem pn_2 : plainName "java/io/ByteArrayOutputStream" = true := by first | (simp [plainName, overriddenIn]; done) | decide +kernel
theorem pd2_0 : parseMethodDescriptor "()V" = some ⟨[], none⟩ := by decide +kernel
theorem ef_2 (m : MethodId) (rb : Addr) (us : Int32) : entryFrame m #[(.ref rb), (.int us)] 2 = mkF m 0 #[.val (.ref rb), .val (.int us)] [] := by first | (simp [entryFrame, mkF, argsToLocals, Value.category]; done) | rfl
def Q2 (Z : State) (rb : Addr) (us : Int32) (vb : Value) (cn : Int32) (uu : Int32) (h0 : Heap) (n0 : Nat) (v : Option Value) (h : Heap) (L : List Loc) : Prop := v = none ∧ Fr n0 L ∧ Keep h0 h [rb] ∧ Unt h rb ∧ ∃ (b : Addr) (kb : ClassId), h0.size ≤ b ∧ own_B Z h rb (.ref b) cn uu ∧ Arv Z h b kb .byte us [] (.int 0)
set_option maxRecDepth 65536 in
set_option maxHeartbeats 40000000 in
theorem rm2 (l : Launch) (Z : State) (a0 : Array Value) (hw : ∀ d ∈ tables_1, d.before a0 Z = true) (ws : List Jvm.Cond) (rb : Addr) (us : Int32) (vb : Value) (cn : Int32) (uu : Int32) (h0 : Heap) (n0 : Nat) (Z0 : n0 ≤ h0.size) (F0 : own_B Z h0 rb vb cn uu) (U0 : Unt h0 rb) (gr : n0 ≤ rb) (u0 : 0 ≤ us.toInt) (u1 : us.toInt ≤ 63) :
    MetFree l (⟨"java/io/ByteArrayOutputStream", "<init>", "(I)V"⟩ : MethodName) (head1 (Jvm.Cond.code (⟨"java/io/ByteArrayOutputStream", "<init>", "(I)V"⟩ : MethodName) jdk_2005_method_2_code 2 none :: ws) ({ frames := 2, cells := 1, slots := 63, locals := 24 } : Room)) (fun a U => a = #[(.ref rb), (.int us)] ∧ Z.Warmed39 U.vm ∧ U.heap = h0) (fun _ _ _ _ _ => True) (fun _ U o U' => ∃ v L, o = .returned v ∧ Q2 Z rb us vb cn uu h0 n0 v U'.heap L ∧ FrameEnd U o U' L ({ frames := 2, cells := 1, slots := 63, locals := 24 } : Room).cells ({ frames := 2, cells := 1, slots := 63, locals := 24 } : Room).slots) := by
  refine MetFree.of_bodySF (plainFor_of_name pn_2) hisR ?_
  intro p e s m args below meth c s₁ Bd hml0 hP hK
  obtain ⟨rfl, hZ, hh⟩ := hP
  have hx := Bd.exec
  have hby := Bd.bytes
  have hml : c.maxLocals = 2 := hml0
  have hlk : meth.locks = false := BodyLoose.notSynchronized Bd
  have hown : s.vm.findClass "java/io/ByteArrayOutputStream" = some m.cls := findClass_of_methodNamed Bd.named
  have hnm := (name_of_methodNamed Bd.named Bd.method).1
  have X0 : Stand p l e ({ frames := 2, cells := 1, slots := 63, locals := 24 } : Room) s m #[(.ref rb), (.int us)] below meth c s₁ [] 0 0 := Stand.of_body Bd
  have e0 : s₁.heap = h0 := by rw [← hh, Bd.state]; rfl
  have N0 := Fr.nil n0
  have pre0 : ∀ t, Steps p.tables e below (s₁.setTop (mkF m 0 #[.val (.ref rb), .val (.int us)] [])) t → Steps p.tables e below (s₁.setTop (entryFrame m #[(.ref rb), (.int us)] 2)) t := fun t k => castTop (ef_2 m rb us) k
  have g_0 : own_Fin p e below s (Q2 Z rb us vb cn uu h0 n0) ({ frames := 2, cells := 1, slots := 63, locals := 24 } : Room).cells ({ frames := 2, cells := 1, slots := 63, locals := 24 } : Room).slots (s₁.setTop (mkF m 0 #[.val (.ref rb), .val (.int us)] [])) := by
    refine own_pre (B := s₁.setTop (mkF m 1 #[.val (.ref rb), .val (.int us)] [(.ref rb)])) (fun t k => XS.aloadN X0.here hx rfl (hb hby d2_0) rfl rfl k) ?_
    obtain ⟨_, _, ⟨T1, L1, k1, n1⟩, -, X1, ⟨Lc1, hQ1, l1, y1, z1⟩, st1⟩ := X0.specialBack hx (y := (⟨"java/io/OutputStream", "<init>", "()V"⟩ : MethodName)) rfl hown (mvT hZ (hw _ (List.mem_of_getElem? (i := 12) rfl))) (mvT hZ (hw _ (List.mem_of_getElem? (i := 13) rfl))) (mvT hZ (hw _ (List.mem_of_getElem? (i := 17) rfl))) (by decide) (backOf (W := 0) (rm3 l Z a0 hw [] rb h0 n0 Z0) hZ (hw _ (List.mem_of_getElem? (i := 17) rfl)) (hw _ (List.mem_of_getElem? (i := 16) rfl)) (by decide) (by decide)) (g := (mkF m 1 #[.val (.ref rb), .val (.int us)] [(.ref rb)])) rfl (by rw [hml]; rfl) (Steps.refl _) (a := rb) (argsL := []) (rest := []) (lenOf pd2_0 rfl) rfl (by show 2 * 0 + _ ≤ _; exact Nat.le_of_eq rfl) (hb hby d2_1) (fun _ _ => ⟨rfl, e0, (by decide : 0 + 0 ≤ _), (by decide : 0 + 0 ≤ _)⟩)
    dsimp only [Pt.U, Pt.locs, Pt.cells, Pt.slots] at X1 l1 y1 z1 st1 hQ1
    subst l1 y1 z1
    obtain ⟨rfl, Nq1, e1⟩ := hQ1
    have N1 := Fr.app N0 Nq1
    have eh1 : T1.heap = h0 := e1
    refine own_pre (B := T1.setTop (mkF m 4 #[.val (.ref rb), .val (.int us)] [])) (fun t q => st1.trans q) ?_
    refine own_pre (B := T1.setTop (mkF m 5 #[.val (.ref rb), .val (.int us)] [(.int us)])) (fun t k => XS.iloadN X1.here hx rfl (hb hby d2_4) rfl k) ?_
    refine own_pre (B := T1.setTop (mkF m 35 #[.val (.ref rb), .val (.int us)] [])) (fun t k => XS.ifYes X1.here hx rfl (pc0 := 5) (pc' := 35) rfl (hb hby d2_5) rfl ((if0 _ _).trans (flt (own_nlt u0 : ¬ (us < (0 : Int32)))).2.1) (by decide) (by decide) k) ?_
    refine own_pre (B := T1.setTop (mkF m 36 #[.val (.ref rb), .val (.int us)] [(.ref rb)])) (fun t k => XS.aloadN X1.here hx rfl (hb hby d2_35) rfl rfl k) ?_
    refine own_pre (B := T1.setTop (mkF m 37 #[.val (.ref rb), .val (.int us)] [(.int us), (.ref rb)])) (fun t k => XS.iloadN X1.here hx rfl (hb hby d2_36) rfl k) ?_
    obtain ⟨T2, h2, kc2, X2, e2, E2, A2, st2⟩ := newP X1 hx hZ (hw _ (List.mem_of_getElem? (i := 0) rfl)) eh1 (g := (mkF m 37 #[.val (.ref rb), .val (.int us)] [(.int us), (.ref rb)])) rfl (hb hby d2_37) rfl (own_nlt u0) (cap := 63) (own_nat u1) (by decide) (by decide) (by decide)
    obtain ⟨b2, g2⟩ : ∃ z, z = h0.size := ⟨_, rfl⟩
    rw [← g2] at A2 st2
    have V2 : Arv Z h2 b2 kc2 .byte us [] (.int (0 : Int32)) := Arv.new A2 (own_nlt u0)
    have gb2 : n0 ≤ b2 := Nat.le_trans Z0 (Nat.le_of_eq g2.symm)
    have ZH2 : n0 ≤ h2.size := Nat.le_trans Z0 E2.1
    have K2 := Keep.ext (Keep.refl h0 [rb]) E2
    have sb2 := Nat.le_trans ((Keep.refl h0 [rb])).1 (Nat.le_of_eq g2.symm)
    have F2 := own_B_ext F0 E2
    have U2 := Unt.ext E2 U0
    have ne2 : b2 ≠ rb := Ne.symm (Nat.ne_of_lt (Nat.lt_of_lt_of_le (F0).1.lt (Nat.le_of_eq g2.symm)))
    refine own_pre (B := T2.setTop (mkF m 39 #[.val (.ref rb), .val (.int us)] [(.ref b2), (.ref rb)])) st2 ?_
    obtain ⟨T3, h3, X3, e3, W3, st3⟩ := putF X2 hx hZ hown (host := "") (Or.inl (hw _ (List.mem_of_getElem? (i := 21) rfl))) Via.refl e2 (F2).2.1 (F2).1 (Or.inl (hw _ (List.mem_of_getElem? (i := 22) rfl))) (hw _ (List.mem_of_getElem? (i := 2) rfl)) (ty := (.array .byte)) (by decide) rfl rfl (g := (mkF m 39 #[.val (.ref rb), .val (.int us)] [(.ref b2), (.ref rb)])) rfl rfl (hb hby d2_39)
    have N3 := Fr.snoc X3 N1 gr
    have ZH3 : n0 ≤ h3.size := by rw [W3.size]; exact ZH2
    have F3 := own_B_buf hw F2 W3
    have K3 := Keep.wr (ws := [rb]) K2 W3 (Or.inl (List.mem_of_getElem? (i := 0) rfl))
    have U3 := Unt.wr W3 U2
    have V3 := V2.other W3 ne2
    refine own_pre (B := T3.setTop (mkF m 42 #[.val (.ref rb), .val (.int us)] [])) st3 ?_
    exact own_retV X3 hx hlk Bd.returns (hb hby d2_42) (own_at e3 ⟨rfl, N3, K3, U3, b2, kc2, sb2, F3, V3⟩) (by decide) (by decide)
  exact own_pre pre0 g_0
theorem d1_0 : decode prog_272_method_1_code 0 = .ok (.aload_n 0, 1) := by decide +kernel
theorem d1_1 : decode prog_272_method_1_code 1 = .ok (.iload_n 1, 1) := by decide +kernel
theorem d1_2 : decode prog_272_method_1_code 2 = .ok (.invokespecial 3, 3) := by decide +kernel
theorem d1_5 : decode prog_272_method_1_code 5 = .ok (.aload_n 0, 1) := by decide +kernel
theorem d1_6 : decode prog_272_method_1_code 6 = .ok (.iload_n 1, 1) := by decide +kernel
theorem d1_7 : decode prog_272_method_1_code 7 = .ok (.putfield 9, 3) := by decide +kernel
theorem d1_10 : decode prog_272_method_1_code 10 = .ok (.return_, 1) := by decide +kernel
theorem pn_1 : plainName "com/example/quillon/quillon/storage/LogFormat$RecordBuffer" = true := by first | (simp [plainName, overriddenIn]; done) | decide +kernel
theorem pd1_0 : parseMethodDescriptor "(I)V" = some ⟨[.int], none⟩ := by decide +kernel
theorem ef_1 (m : MethodId) (rb : Addr) (us : Int32) : entryFrame m #[(.ref rb), (.int us)] 2 = mkF m 0 #[.val (.ref rb), .val (.int us)] [] := by first | (simp [entryFrame, mkF, argsToLocals, Value.category]; done) | rfl
def Q1 (Z : State) (rb : Addr) (us : Int32) (vb : Value) (cn : Int32) (uu : Int32) (h0 : Heap) (n0 : Nat) (v : Option Value) (h : Heap) (L : List Loc) : Prop := v = none ∧ Fr n0 L ∧ Keep h0 h [rb] ∧ Unt h rb ∧ ∃ (b : Addr) (kb : ClassId), h0.size ≤ b ∧ own_B Z h rb (.ref b) cn us ∧ Arv Z h b kb .byte us [] (.int 0)
set_option maxRecDepth 65536 in
set_option maxHeartbeats 40000000 in
theorem rm1 (l : Launch) (Z : State) (a0 : Array Value) (hw : ∀ d ∈ tables_1, d.before a0 Z = true) (ws : List Jvm.Cond) (rb : Addr) (us : Int32) (vb : Value) (cn : Int32) (uu : Int32) (h0 : Heap) (n0 : Nat) (Z0 : n0 ≤ h0.size) (F0 : own_B Z h0 rb vb cn uu) (U0 : Unt h0 rb) (gr : n0 ≤ rb) (u0 : 0 ≤ us.toInt) (u1 : us.toInt ≤ 63) :
    MetFree l (⟨"com/example/quillon/quillon/storage/LogFormat$RecordBuffer", "<init>", "(I)V"⟩ : MethodName) (head1 (Jvm.Cond.code (⟨"com/example/quillon/quillon/storage/LogFormat$RecordBuffer", "<init>", "(I)V"⟩ : MethodName) prog_272_method_1_code 2 none :: ws) ({ frames := 3, cells := 1, slots := 63, locals := 37 } : Room)) (fun a U => a = #[(.ref rb), (.int us)] ∧ Z.Warmed39 U.vm ∧ U.heap = h0) (fun _ _ _ _ _ => True) (fun _ U o U' => ∃ v L, o = .returned v ∧ Q1 Z rb us vb cn uu h0 n0 v U'.heap L ∧ FrameEnd U o U' L ({ frames := 3, cells := 1, slots := 63, locals := 37 } : Room).cells ({ frames := 3, cells := 1, slots := 63, locals := 37 } : Room).slots) := by
  refine MetFree.of_bodySF (plainFor_of_name pn_1) hisR ?_
  intro p e s m args below meth c s₁ Bd hml0 hP hK
  obtain ⟨rfl, hZ, hh⟩ := hP
  have hx := Bd.exec
  have hby := Bd.bytes
  have hml : c.maxLocals = 2 := hml0
  have hlk : meth.locks = false := BodyLoose.notSynchronized Bd
  have hown : s.vm.findClass "com/example/quillon/quillon/storage/LogFormat$RecordBuffer" = some m.cls := findClass_of_methodNamed Bd.named
  have hnm := (name_of_methodNamed Bd.named Bd.method).1
  have X0 : Stand p l e ({ frames := 3, cells := 1, slots := 63, locals := 37 } : Room) s m #[(.ref rb), (.int us)] below meth c s₁ [] 0 0 := Stand.of_body Bd
  have e0 : s₁.heap = h0 := by rw [← hh, Bd.state]; rfl
  have N0 := Fr.nil n0
  have pre0 : ∀ t, Steps p.tables e below (s₁.setTop (mkF m 0 #[.val (.ref rb), .val (.int us)] [])) t → Steps p.tables e below (s₁.setTop (entryFrame m #[(.ref rb), (.int us)] 2)) t := fun t k => castTop (ef_1 m rb us) k
  have g_0 : own_Fin p e below s (Q1 Z rb us vb cn uu h0 n0) ({ frames := 3, cells := 1, slots := 63, locals := 37 } : Room).cells ({ frames := 3, cells := 1, slots := 63, locals := 37 } : Room).slots (s₁.setTop (mkF m 0 #[.val (.ref rb), .val (.int us)] [])) := by
    refine own_pre (B := s₁.setTop (mkF m 1 #[.val (.ref rb), .val (.int us)] [(.ref rb)])) (fun t k => XS.aloadN X0.here hx rfl (hb hby d1_0) rfl rfl k) ?_
    refine own_pre (B := s₁.setTop (mkF m 2 #[.val (.ref rb), .val (.int us)] [(.int us), (.ref rb)])) (fun t k => XS.iloadN X0.here hx rfl (hb hby d1_1) rfl k) ?_
    obtain ⟨_, _, ⟨T1, L1, k1, n1⟩, -, X1, ⟨Lc1, hQ1, l1, y1, z1⟩, st1⟩ := X0.specialBack hx (y := (⟨"java/io/ByteArrayOutputStream", "<init>", "(I)V"⟩ : MethodName)) rfl hown (mvT hZ (hw _ (List.mem_of_getElem? (i := 7) rfl))) (mvT hZ (hw _ (List.mem_of_getElem? (i := 8) rfl))) (mvT hZ (hw _ (List.mem_of_getElem? (i := 11) rfl))) (by decide) (backOf (W := 0) (rm2 l Z a0 hw [] rb us vb cn uu h0 n0 Z0 F0 U0 gr u0 u1) hZ (hw _ (List.mem_of_getElem? (i := 11) rfl)) (hw _ (List.mem_of_getElem? (i := 10) rfl)) (by decide) (by decide)) (g := (mkF m 2 #[.val (.ref rb), .val (.int us)] [(.int us), (.ref rb)])) rfl (by rw [hml]; rfl) (Steps.refl _) (a := rb) (argsL := [(.int us)]) (rest := []) (lenOf pd1_0 rfl) rfl (by show 2 * 0 + _ ≤ _; exact Nat.le_of_eq rfl) (hb hby d1_2) (fun _ _ => ⟨rfl, e0, (by decide : 0 + 1 ≤ _), (by decide : 0 + 63 ≤ _)⟩)
    dsimp only [Pt.U, Pt.locs, Pt.cells, Pt.slots] at X1 l1 y1 z1 st1 hQ1
    subst l1 y1 z1
    obtain ⟨rfl, Nq1, K1, U1, b1, kc1, sb1, F1, V1⟩ := hQ1
    have N1 := Fr.app N0 Nq1
    have ZH1 : n0 ≤ T1.heap.size := Nat.le_trans Z0 K1.1
    have ne1 : b1 ≠ rb := Ne.symm (Nat.ne_of_lt (Nat.lt_of_lt_of_le (F0).1.lt sb1))
    refine own_pre (B := T1.setTop (mkF m 5 #[.val (.ref rb), .val (.int us)] [])) (fun t q => st1.trans q) ?_
    refine own_pre (B := T1.setTop (mkF m 6 #[.val (.ref rb), .val (.int us)] [(.ref rb)])) (fun t k => XS.aloadN X1.here hx rfl (hb hby d1_5) rfl rfl k) ?_
    refine own_pre (B := T1.setTop (mkF m 7 #[.val (.ref rb), .val (.int us)] [(.int us), (.ref rb)])) (fun t k => XS.iloadN X1.here hx rfl (hb hby d1_6) rfl k) ?_
    obtain ⟨T2, h2, X2, e2, W2, st2⟩ := putF X1 hx hZ hown (host := "") (Or.inl (hw _ (List.mem_of_getElem? (i := 23) rfl))) Via.refl rfl (F1).2.2.2 (F1).1 (Or.inr ⟨(hw _ (List.mem_of_getElem? (i := 24) rfl)), rfl, hnm⟩) (hw _ (List.mem_of_getElem? (i := 2) rfl)) (ty := .int) (by decide) rfl rfl (g := (mkF m 7 #[.val (.ref rb), .val (.int us)] [(.int us), (.ref rb)])) rfl rfl (hb hby d1_7)
    have N2 := Fr.snoc X2 N1 gr
    have ZH2 : n0 ≤ h2.size := by rw [W2.size]; exact ZH1
    have F2 := own_B_usu hw F1 W2
    have K2 := Keep.wr (ws := [rb]) K1 W2 (Or.inl (List.mem_of_getElem? (i := 0) rfl))
    have U2 := Unt.wr W2 U1
    have V2 := V1.other W2 ne1
    refine own_pre (B := T2.setTop (mkF m 10 #[.val (.ref rb), .val (.int us)] [])) st2 ?_
    exact own_retV X2 hx hlk Bd.returns (hb hby d1_10) (own_at e2 ⟨rfl, N2, K2, U2, b1, kc1, sb1, F2, V2⟩) (by decide) (by decide)
  exact own_pre pre0 g_0
theorem d7_0 : decode jdk_41_method_13_code 0 = .ok (.iload_n 2, 1) := by decide +kernel
theorem d7_1 : decode jdk_41_method_13_code 1 = .ok (.iload_n 0, 1) := by decide +kernel
theorem d7_2 : decode jdk_41_method_13_code 2 = .ok (.ior, 1) := by decide +kernel
theorem d7_3 : decode jdk_41_method_13_code 3 = .ok (.iload_n 1, 1) := by decide +kernel
theorem d7_4 : decode jdk_41_method_13_code 4 = .ok (.ior, 1) := by decide +kernel
theorem d7_5 : decode jdk_41_method_13_code 5 = .ok (.ifCond .lt 10, 3) := by decide +kernel
theorem d7_8 : decode jdk_41_method_13_code 8 = .ok (.iload_n 1, 1) := by decide +kernel
theorem d7_9 : decode jdk_41_method_13_code 9 = .ok (.iload_n 2, 1) := by decide +kernel
theorem d7_10 : decode jdk_41_method_13_code 10 = .ok (.iload_n 0, 1) := by decide +kernel
theorem d7_11 : decode jdk_41_method_13_code 11 = .ok (.isub, 1) := by decide +kernel
theorem d7_12 : decode jdk_41_method_13_code 12 = .ok (.if_icmp .le 11, 3) := by decide +kernel
theorem d7_23 : decode jdk_41_method_13_code 23 = .ok (.iload_n 0, 1) := by decide +kernel
theorem d7_24 : decode jdk_41_method_13_code 24 = .ok (.ireturn, 1) := by decide +kernel
theorem pn_7 : plainName "jdk/internal/util/Preconditions" = true := by first | (simp [plainName, overriddenIn]; done) | decide +kernel
theorem ef_7 (m : MethodId) (p0 : Int32) (p1 : Int32) (p2 : Int32) : entryFrame m #[(.int p0), (.int p1), (.int p2), .null] 4 = mkF m 0 #[.val (.int p0), .val (.int p1), .val (.int p2), .val .null] [] := by first | (simp [entryFrame, mkF, argsToLocals, Value.category]; done) | rfl
def Q7 (Z : State) (p0 : Int32) (p1 : Int32) (p2 : Int32) (h0 : Heap) (n0 : Nat) (v : Option Value) (h : Heap) (L : List Loc) : Prop := v = some (.int p0) ∧ Fr n0 L ∧ h = h0
set_option maxRecDepth 65536 in
set_option maxHeartbeats 40000000 in
theorem rm7 (l : Launch) (Z : State) (a0 : Array Value) (hw : ∀ d ∈ tables_1, d.before a0 Z = true) (ws : List Jvm.Cond) (p0 : Int32) (p1 : Int32) (p2 : Int32) (h0 : Heap) (n0 : Nat) (Z0 : n0 ≤ h0.size) (c1 : ¬ ((p2 ||| p0) ||| p1) < (0 : Int32)) (c2 : ¬ (p2 - p0) < p1) :
    MetFree l (⟨"jdk/internal/util/Preconditions", "checkFromIndexSize", "(IIILjava/util/function/BiFunction;)I"⟩ : MethodName) (head1 (Jvm.Cond.code (⟨"jdk/internal/util/Preconditions", "checkFromIndexSize", "(IIILjava/util/function/BiFunction;)I"⟩ : MethodName) jdk_41_method_13_code 4 (some .int) :: ws) ({ frames := 0, cells := 0, slots := 0, locals := 0 } : Room)) (fun a U => a = #[(.int p0), (.int p1), (.int p2), .null] ∧ Z.Warmed39 U.vm ∧ U.heap = h0) (fun _ _ _ _ _ => True) (fun _ U o U' => ∃ v L, o = .returned v ∧ Q7 Z p0 p1 p2 h0 n0 v U'.heap L ∧ FrameEnd U o U' L ({ frames := 0, cells := 0, slots := 0, locals := 0 } : Room).cells ({ frames := 0, cells := 0, slots := 0, locals := 0 } : Room).slots) := by
  refine MetFree.of_bodySF (plainFor_of_name pn_7) hisR ?_
  intro p e s m args below meth c s₁ Bd hml0 hP hK
  obtain ⟨rfl, hZ, hh⟩ := hP
  have hx := Bd.exec
  have hby := Bd.bytes
  have hml : c.maxLocals = 4 := hml0
  have hlk : meth.locks = false := BodyLoose.notSynchronized Bd
  have hown : s.vm.findClass "jdk/internal/util/Preconditions" = some m.cls := findClass_of_methodNamed Bd.named
  have hnm := (name_of_methodNamed Bd.named Bd.method).1
  have X0 : Stand p l e ({ frames := 0, cells := 0, slots := 0, locals := 0 } : Room) s m #[(.int p0), (.int p1), (.int p2), .null] below meth c s₁ [] 0 0 := Stand.of_body Bd
  have e0 : s₁.heap = h0 := by rw [← hh, Bd.state]; rfl
  have N0 := Fr.nil n0
  have pre0 : ∀ t, Steps p.tables e below (s₁.setTop (mkF m 0 #[.val (.int p0), .val (.int p1), .val (.int p2), .val .null] [])) t → Steps p.tables e below (s₁.setTop (entryFrame m #[(.int p0), (.int p1), (.int p2), .null] 4)) t := fun t k => castTop (ef_7 m p0 p1 p2) k
  have g_0 : own_Fin p e below s (Q7 Z p0 p1 p2 h0 n0) ({ frames := 0, cells := 0, slots := 0, locals := 0 } : Room).cells ({ frames := 0, cells := 0, slots := 0, locals := 0 } : Room).slots (s₁.setTop (mkF m 0 #[.val (.int p0), .val (.int p1), .val (.int p2), .val .null] [])) := by
    refine own_pre (B := s₁.setTop (mkF m 1 #[.val (.int p0), .val (.int p1), .val (.int p2), .val .null] [(.int p2)])) (fun t k => XS.iloadN X0.here hx rfl (hb hby d7_0) rfl k) ?_
    refine own_pre (B := s₁.setTop (mkF m 2 #[.val (.int p0), .val (.int p1), .val (.int p2), .val .null] [(.int p0), (.int p2)])) (fun t k => XS.iloadN X0.here hx rfl (hb hby d7_1) rfl k) ?_
    refine own_pre (B := s₁.setTop (mkF m 3 #[.val (.int p0), .val (.int p1), .val (.int p2), .val .null] [(.int (p2 ||| p0))])) (fun t k => XS.ior X0.here hx rfl (hb hby d7_2) rfl k) ?_
    refine own_pre (B := s₁.setTop (mkF m 4 #[.val (.int p0), .val (.int p1), .val (.int p2), .val .null] [(.int p1), (.int (p2 ||| p0))])) (fun t k => XS.iloadN X0.here hx rfl (hb hby d7_3) rfl k) ?_
    refine own_pre (B := s₁.setTop (mkF m 5 #[.val (.int p0), .val (.int p1), .val (.int p2), .val .null] [(.int ((p2 ||| p0) ||| p1))])) (fun t k => XS.ior X0.here hx rfl (hb hby d7_4) rfl k) ?_
    refine own_pre (B := s₁.setTop (mkF m 8 #[.val (.int p0), .val (.int p1), .val (.int p2), .val .null] [])) (fun t k => XS.ifNo X0.here hx rfl (hb hby d7_5) rfl ((if0 _ _).trans (flt (c1 : ¬ (((p2 ||| p0) ||| p1) < (0 : Int32)))).1) k) ?_
    refine own_pre (B := s₁.setTop (mkF m 9 #[.val (.int p0), .val (.int p1), .val (.int p2), .val .null] [(.int p1)])) (fun t k => XS.iloadN X0.here hx rfl (hb hby d7_8) rfl k) ?_
    refine own_pre (B := s₁.setTop (mkF m 10 #[.val (.int p0), .val (.int p1), .val (.int p2), .val .null] [(.int p2), (.int p1)])) (fun t k => XS.iloadN X0.here hx rfl (hb hby d7_9) rfl k) ?_
    refine own_pre (B := s₁.setTop (mkF m 11 #[.val (.int p0), .val (.int p1), .val (.int p2), .val .null] [(.int p0), (.int p2), (.int p1)])) (fun t k => XS.iloadN X0.here hx rfl (hb hby d7_10) rfl k) ?_
    refine own_pre (B := s₁.setTop (mkF m 12 #[.val (.int p0), .val (.int p1), .val (.int p2), .val .null] [(.int (p2 - p0)), (.int p1)])) (fun t k => XS.isub X0.here hx rfl (hb hby d7_11) rfl k) ?_
    refine own_pre (B := s₁.setTop (mkF m 23 #[.val (.int p0), .val (.int p1), .val (.int p2), .val .null] [])) (fun t k => XS.icmpYes X0.here hx rfl (pc0 := 12) (pc' := 23) rfl (hb hby d7_12) rfl (flt (c2 : ¬ ((p2 - p0) < p1))).2.2.2 (by decide) (by decide) k) ?_
    refine own_pre (B := s₁.setTop (mkF m 24 #[.val (.int p0), .val (.int p1), .val (.int p2), .val .null] [(.int p0)])) (fun t k => XS.iloadN X0.here hx rfl (hb hby d7_23) rfl k) ?_
    exact own_retI X0 hx hlk Bd.returns (hb hby d7_24) (own_at e0 ⟨rfl, N0, rfl⟩) (by decide) (by decide)
  exact own_pre pre0 g_0
theorem d6_0 : decode jdk_31_method_19_code 0 = .ok (.iload_n 0, 1) := by decide +kernel
theorem d6_1 : decode jdk_31_method_19_code 1 = .ok (.iload_n 1, 1) := by decide +kernel
theorem d6_2 : decode jdk_31_method_19_code 2 = .ok (.iload_n 2, 1) := by decide +kernel
theorem d6_3 : decode jdk_31_method_19_code 3 = .ok (.aconst_null, 1) := by decide +kernel
theorem d6_4 : decode jdk_31_method_19_code 4 = .ok (.invokestatic 115, 3) := by decide +kernel
theorem d6_7 : decode jdk_31_method_19_code 7 = .ok (.ireturn, 1) := by decide +kernel
theorem pn_6 : plainName "java/util/Objects" = true := by first | (simp [plainName, overriddenIn]; done) | decide +kernel
theorem pd6_0 : parseMethodDescriptor "(IIILjava/util/function/BiFunction;)I" = some ⟨[.int, .int, .int, (.object "java/util/function/BiFunction")], some .int⟩ := by decide +kernel
theorem ef_6 (m : MethodId) (p0 : Int32) (p1 : Int32) (p2 : Int32) : entryFrame m #[(.int p0), (.int p1), (.int p2)] 3 = mkF m 0 #[.val (.int p0), .val (.int p1), .val (.int p2)] [] := by first | (simp [entryFrame, mkF, argsToLocals, Value.category]; done) | rfl
def Q6 (Z : State) (p0 : Int32) (p1 : Int32) (p2 : Int32) (h0 : Heap) (n0 : Nat) (v : Option Value) (h : Heap) (L : List Loc) : Prop := v = some (.int p0) ∧ Fr n0 L ∧ h = h0
set_option maxRecDepth 65536 in
set_option maxHeartbeats 40000000 in
theorem rm6 (l : Launch) (Z : State) (a0 : Array Value) (hw : ∀ d ∈ tables_1, d.before a0 Z = true) (ws : List Jvm.Cond) (p0 : Int32) (p1 : Int32) (p2 : Int32) (h0 : Heap) (n0 : Nat) (Z0 : n0 ≤ h0.size) (c1 : ¬ ((p2 ||| p0) ||| p1) < (0 : Int32)) (c2 : ¬ (p2 - p0) < p1) :
    MetFree l (⟨"java/util/Objects", "checkFromIndexSize", "(III)I"⟩ : MethodName) (head1 (Jvm.Cond.code (⟨"java/util/Objects", "checkFromIndexSize", "(III)I"⟩ : MethodName) jdk_31_method_19_code 3 (some .int) :: ws) ({ frames := 1, cells := 0, slots := 0, locals := 15 } : Room)) (fun a U => a = #[(.int p0), (.int p1), (.int p2)] ∧ Z.Warmed39 U.vm ∧ U.heap = h0) (fun _ _ _ _ _ => True) (fun _ U o U' => ∃ v L, o = .returned v ∧ Q6 Z p0 p1 p2 h0 n0 v U'.heap L ∧ FrameEnd U o U' L ({ frames := 1, cells := 0, slots := 0, locals := 15 } : Room).cells ({ frames := 1, cells := 0, slots := 0, locals := 15 } : Room).slots) := by
  refine MetFree.of_bodySF (plainFor_of_name pn_6) hisR ?_
  intro p e s m args below meth c s₁ Bd hml0 hP hK
  obtain ⟨rfl, hZ, hh⟩ := hP
  have hx := Bd.exec
  have hby := Bd.bytes
  have hml : c.maxLocals = 3 := hml0
  have hlk : meth.locks = false := BodyLoose.notSynchronized Bd
  have hown : s.vm.findClass "java/util/Objects" = some m.cls := findClass_of_methodNamed Bd.named
  have hnm := (name_of_methodNamed Bd.named Bd.method).1
  have X0 : Stand p l e ({ frames := 1, cells := 0, slots := 0, locals := 15 } : Room) s m #[(.int p0), (.int p1), (.int p2)] below meth c s₁ [] 0 0 := Stand.of_body Bd
  have e0 : s₁.heap = h0 := by rw [← hh, Bd.state]; rfl
  have N0 := Fr.nil n0
  have pre0 : ∀ t, Steps p.tables e below (s₁.setTop (mkF m 0 #[.val (.int p0), .val (.int p1), .val (.int p2)] [])) t → Steps p.tables e below (s₁.setTop (entryFrame m #[(.int p0), (.int p1), (.int p2)] 3)) t := fun t k => castTop (ef_6 m p0 p1 p2) k
  have g_0 : own_Fin p e below s (Q6 Z p0 p1 p2 h0 n0) ({ frames := 1, cells := 0, slots := 0, locals := 15 } : Room).cells ({ frames := 1, cells := 0, slots := 0, locals := 15 } : Room).slots (s₁.setTop (mkF m 0 #[.val (.int p0), .val (.int p1), .val (.int p2)] [])) := by
    refine own_pre (B := s₁.setTop (mkF m 1 #[.val (.int p0), .val (.int p1), .val (.int p2)] [(.int p0)])) (fun t k => XS.iloadN X0.here hx rfl (hb hby d6_0) rfl k) ?_
    refine own_pre (B := s₁.setTop (mkF m 2 #[.val (.int p0), .val (.int p1), .val (.int p2)] [(.int p1), (.int p0)])) (fun t k => XS.iloadN X0.here hx rfl (hb hby d6_1) rfl k) ?_
    refine own_pre (B := s₁.setTop (mkF m 3 #[.val (.int p0), .val (.int p1), .val (.int p2)] [(.int p2), (.int p1), (.int p0)])) (fun t k => XS.iloadN X0.here hx rfl (hb hby d6_2) rfl k) ?_
    refine own_pre (B := s₁.setTop (mkF m 4 #[.val (.int p0), .val (.int p1), .val (.int p2)] [.null, (.int p2), (.int p1), (.int p0)])) (fun t k => XS.aconstNull X0.here hx rfl (hb hby d6_3) k) ?_
    obtain ⟨_, _, ⟨T1, L1, k1, n1⟩, -, X1, ⟨Lc1, hQ1, l1, y1, z1⟩, st1⟩ := Jvm.LawKit.callS X0 hx (y := (⟨"jdk/internal/util/Preconditions", "checkFromIndexSize", "(IIILjava/util/function/BiFunction;)I"⟩ : MethodName)) hown (mvT hZ (hw _ (List.mem_of_getElem? (i := 35) rfl))) (mvT hZ (hw _ (List.mem_of_getElem? (i := 36) rfl))) (mvT hZ (hw _ (List.mem_of_getElem? (i := 37) rfl))) (mvT hZ (hw _ (List.mem_of_getElem? (i := 38) rfl))) (by decide) (backOf (W := 0) (rm7 l Z a0 hw [] p0 p1 p2 h0 n0 Z0 c1 c2) hZ (hw _ (List.mem_of_getElem? (i := 38) rfl)) (hw _ (List.mem_of_getElem? (i := 37) rfl)) (by decide) (by decide)) (g := (mkF m 4 #[.val (.int p0), .val (.int p1), .val (.int p2)] [.null, (.int p2), (.int p1), (.int p0)])) rfl (by rw [hml]; rfl) (argsL := [(.int p0), (.int p1), (.int p2), .null]) (rest := []) (lenOf pd6_0 rfl) rfl (by show 2 * 0 + _ ≤ _; exact Nat.le_of_eq rfl) (hb hby d6_4) (fun _ _ => ⟨rfl, e0, (by decide : 0 + 0 ≤ _), (by decide : 0 + 0 ≤ _)⟩)
    dsimp only [Pt.U, Pt.locs, Pt.cells, Pt.slots] at X1 l1 y1 z1 st1 hQ1
    subst l1 y1 z1
    obtain ⟨rfl, Nq1, e1⟩ := hQ1
    have N1 := Fr.app N0 Nq1
    have eh1 : T1.heap = h0 := e1
    refine own_pre (B := T1.setTop (mkF m 7 #[.val (.int p0), .val (.int p1), .val (.int p2)] [(.int p0)])) st1 ?_
    exact own_retI X1 hx hlk Bd.returns (hb hby d6_7) (own_at eh1 ⟨rfl, N1, rfl⟩) (by decide) (by decide)
  exact own_pre pre0 g_0
theorem d9_0 : decode jdk_48_method_27_code 0 = .ok (.iload_n 0, 1) := by decide +kernel
theorem d9_1 : decode jdk_48_method_27_code 1 = .ok (.iload_n 1, 1) := by decide +kernel
theorem d9_2 : decode jdk_48_method_27_code 2 = .ok (.iload_n 2, 1) := by decide +kernel
theorem d9_3 : decode jdk_48_method_27_code 3 = .ok (.invokestatic 194, 3) := by decide +kernel
theorem d9_6 : decode jdk_48_method_27_code 6 = .ok (.iadd, 1) := by decide +kernel
theorem d9_7 : decode jdk_48_method_27_code 7 = .ok (.istore_n 3, 1) := by decide +kernel
theorem d9_8 : decode jdk_48_method_27_code 8 = .ok (.iconst 0, 1) := by decide +kernel
theorem d9_9 : decode jdk_48_method_27_code 9 = .ok (.iload_n 3, 1) := by decide +kernel
theorem d9_10 : decode jdk_48_method_27_code 10 = .ok (.if_icmp .ge 11, 3) := by decide +kernel
theorem d9_13 : decode jdk_48_method_27_code 13 = .ok (.iload_n 3, 1) := by decide +kernel
theorem d9_14 : decode jdk_48_method_27_code 14 = .ok (.ldc 200, 2) := by decide +kernel
theorem d9_16 : decode jdk_48_method_27_code 16 = .ok (.if_icmp .gt 5, 3) := by decide +kernel
theorem d9_19 : decode jdk_48_method_27_code 19 = .ok (.iload_n 3, 1) := by decide +kernel
theorem d9_20 : decode jdk_48_method_27_code 20 = .ok (.ireturn, 1) := by decide +kernel
theorem pn_9 : plainName "jdk/internal/util/ArraysSupport" = true := by first | (simp [plainName, overriddenIn]; done) | decide +kernel
theorem pd9_0 : parseMethodDescriptor "(II)I" = some ⟨[.int, .int], some .int⟩ := by decide +kernel
theorem ef_9 (m : MethodId) (p0 : Int32) (p1 : Int32) (p2 : Int32) : entryFrame m #[(.int p0), (.int p1), (.int p2)] 4 = mkF m 0 #[.val (.int p0), .val (.int p1), .val (.int p2), .unset] [] := by first | (simp [entryFrame, mkF, argsToLocals, Value.category]; done) | rfl
def Q9 (Z : State) (p0 : Int32) (p1 : Int32) (p2 : Int32) (h0 : Heap) (n0 : Nat) (v : Option Value) (h : Heap) (L : List Loc) : Prop := v = some (.int (p0 + f10_0 p1 p2)) ∧ Fr n0 L ∧ h = h0
set_option maxRecDepth 65536 in
set_option maxHeartbeats 40000000 in
theorem rm9 (l : Launch) (Z : State) (a0 : Array Value) (hw : ∀ d ∈ tables_1, d.before a0 Z = true) (ws : List Jvm.Cond) (p0 : Int32) (p1 : Int32) (p2 : Int32) (h0 : Heap) (n0 : Nat) (Z0 : n0 ≤ h0.size) (c1 : (0 : Int32) < (p0 + f10_0 p1 p2)) (c2 : ¬ (2147483639 : Int32) < (p0 + f10_0 p1 p2)) :
    MetFree l (⟨"jdk/internal/util/ArraysSupport", "newLength", "(III)I"⟩ : MethodName) (head1 (Jvm.Cond.code (⟨"jdk/internal/util/ArraysSupport", "newLength", "(III)I"⟩ : MethodName) jdk_48_method_27_code 4 (some .int) :: ws) ({ frames := 1, cells := 0, slots := 0, locals := 14 } : Room)) (fun a U => a = #[(.int p0), (.int p1), (.int p2)] ∧ Z.Warmed39 U.vm ∧ U.heap = h0) (fun _ _ _ _ _ => True) (fun _ U o U' => ∃ v L, o = .returned v ∧ Q9 Z p0 p1 p2 h0 n0 v U'.heap L ∧ FrameEnd U o U' L ({ frames := 1, cells := 0, slots := 0, locals := 14 } : Room).cells ({ frames := 1, cells := 0, slots := 0, locals := 14 } : Room).slots) := by
  refine MetFree.of_bodySF (plainFor_of_name pn_9) hisR ?_
  intro p e s m args below meth c s₁ Bd hml0 hP hK
  obtain ⟨rfl, hZ, hh⟩ := hP
  have hx := Bd.exec
  have hby := Bd.bytes
  have hml : c.maxLocals = 4 := hml0
  have hlk : meth.locks = false := BodyLoose.notSynchronized Bd
  have hown : s.vm.findClass "jdk/internal/util/ArraysSupport" = some m.cls := findClass_of_methodNamed Bd.named
  have hnm := (name_of_methodNamed Bd.named Bd.method).1
  have X0 : Stand p l e ({ frames := 1, cells := 0, slots := 0, locals := 14 } : Room) s m #[(.int p0), (.int p1), (.int p2)] below meth c s₁ [] 0 0 := Stand.of_body Bd
  have e0 : s₁.heap = h0 := by rw [← hh, Bd.state]; rfl
  have N0 := Fr.nil n0
  have pre0 : ∀ t, Steps p.tables e below (s₁.setTop (mkF m 0 #[.val (.int p0), .val (.int p1), .val (.int p2), .unset] [])) t → Steps p.tables e below (s₁.setTop (entryFrame m #[(.int p0), (.int p1), (.int p2)] 4)) t := fun t k => castTop (ef_9 m p0 p1 p2) k
  have g_0 : own_Fin p e below s (Q9 Z p0 p1 p2 h0 n0) ({ frames := 1, cells := 0, slots := 0, locals := 14 } : Room).cells ({ frames := 1, cells := 0, slots := 0, locals := 14 } : Room).slots (s₁.setTop (mkF m 0 #[.val (.int p0), .val (.int p1), .val (.int p2), .unset] [])) := by
    refine own_pre (B := s₁.setTop (mkF m 1 #[.val (.int p0), .val (.int p1), .val (.int p2), .unset] [(.int p0)])) (fun t k => XS.iloadN X0.here hx rfl (hb hby d9_0) rfl k) ?_
    refine own_pre (B := s₁.setTop (mkF m 2 #[.val (.int p0), .val (.int p1), .val (.int p2), .unset] [(.int p1), (.int p0)])) (fun t k => XS.iloadN X0.here hx rfl (hb hby d9_1) rfl k) ?_
    refine own_pre (B := s₁.setTop (mkF m 3 #[.val (.int p0), .val (.int p1), .val (.int p2), .unset] [(.int p2), (.int p1), (.int p0)])) (fun t k => XS.iloadN X0.here hx rfl (hb hby d9_2) rfl k) ?_
    obtain ⟨_, _, ⟨T1, L1, k1, n1⟩, -, X1, ⟨Lc1, hQ1, l1, y1, z1⟩, st1⟩ := Jvm.LawKit.callS X0 hx (y := (⟨"java/lang/Math", "max", "(II)I"⟩ : MethodName)) hown (mvT hZ (hw _ (List.mem_of_getElem? (i := 50) rfl))) (mvT hZ (hw _ (List.mem_of_getElem? (i := 51) rfl))) (mvT hZ (hw _ (List.mem_of_getElem? (i := 52) rfl))) (mvT hZ (hw _ (List.mem_of_getElem? (i := 53) rfl))) (by decide) (backOf (W := 1) (rm10 l Z a0 hw [] p1 p2 h0 n0 Z0) hZ (hw _ (List.mem_of_getElem? (i := 53) rfl)) (hw _ (List.mem_of_getElem? (i := 52) rfl)) (by decide) (by decide)) (g := (mkF m 3 #[.val (.int p0), .val (.int p1), .val (.int p2), .unset] [(.int p2), (.int p1), (.int p0)])) rfl (by rw [hml]; rfl) (argsL := [(.int p1), (.int p2)]) (rest := [(.int p0)]) (lenOf pd9_0 rfl) rfl (by show 2 * 0 + _ ≤ _; exact Nat.le_of_eq rfl) (hb hby d9_3) (fun _ _ => ⟨rfl, e0, (by decide : 0 + 0 ≤ _), (by decide : 0 + 0 ≤ _)⟩)
    dsimp only [Pt.U, Pt.locs, Pt.cells, Pt.slots] at X1 l1 y1 z1 st1 hQ1
    subst l1 y1 z1
    obtain ⟨rfl, Nq1, e1⟩ := hQ1
    have N1 := Fr.app N0 Nq1
    refine own_pre (B := T1.setTop (mkF m 6 #[.val (.int p0), .val (.int p1), .val (.int p2), .unset] [(.int (f10_0 p1 p2)), (.int p0)])) st1 ?_
    refine own_pre (B := T1.setTop (mkF m 7 #[.val (.int p0), .val (.int p1), .val (.int p2), .unset] [(.int (p0 + (f10_0 p1 p2)))])) (fun t k => XS.iadd X1.here hx rfl (hb hby d9_6) rfl k) ?_
    refine own_pre (B := T1.setTop (mkF m 8 #[.val (.int p0), .val (.int p1), .val (.int p2), .val (.int (p0 + (f10_0 p1 p2)))] [])) (fun t k => XS.istoreN X1.here hx rfl (hb hby d9_7) rfl (l' := #[.val (.int p0), .val (.int p1), .val (.int p2), .val (.int (p0 + (f10_0 p1 p2)))]) rfl k) ?_
    refine own_pre (B := T1.setTop (mkF m 9 #[.val (.int p0), .val (.int p1), .val (.int p2), .val (.int (p0 + (f10_0 p1 p2)))] [(.int (0 : Int32))])) (fun t k => XS.iconst X1.here hx rfl (hb hby d9_8) k) ?_
    refine own_pre (B := T1.setTop (mkF m 10 #[.val (.int p0), .val (.int p1), .val (.int p2), .val (.int (p0 + (f10_0 p1 p2)))] [(.int (p0 + (f10_0 p1 p2))), (.int (0 : Int32))])) (fun t k => XS.iloadN X1.here hx rfl (hb hby d9_9) rfl k) ?_
    refine own_pre (B := T1.setTop (mkF m 13 #[.val (.int p0), .val (.int p1), .val (.int p2), .val (.int (p0 + (f10_0 p1 p2)))] [])) (fun t k => XS.icmpNo X1.here hx rfl (hb hby d9_10) rfl (tlt (c1 : (0 : Int32) < (p0 + (f10_0 p1 p2)))).2.1 k) ?_
    refine own_pre (B := T1.setTop (mkF m 14 #[.val (.int p0), .val (.int p1), .val (.int p2), .val (.int (p0 + (f10_0 p1 p2)))] [(.int (p0 + (f10_0 p1 p2)))])) (fun t k => XS.iloadN X1.here hx rfl (hb hby d9_13) rfl k) ?_
    refine own_pre (B := T1.setTop (mkF m 16 #[.val (.int p0), .val (.int p1), .val (.int p2), .val (.int (p0 + (f10_0 p1 p2)))] [(.int (2147483639 : Int32)), (.int (p0 + (f10_0 p1 p2)))])) (fun t k => X1.ldcInt hx hown (mvT hZ (hw _ (List.mem_of_getElem? (i := 54) rfl))) (g := (mkF m 14 #[.val (.int p0), .val (.int p1), .val (.int p2), .val (.int (p0 + (f10_0 p1 p2)))] [(.int (p0 + (f10_0 p1 p2)))])) rfl (hb hby d9_14) _ k) ?_
    refine own_pre (B := T1.setTop (mkF m 19 #[.val (.int p0), .val (.int p1), .val (.int p2), .val (.int (p0 + (f10_0 p1 p2)))] [])) (fun t k => XS.icmpNo X1.here hx rfl (hb hby d9_16) rfl (flt (c2 : ¬ ((2147483639 : Int32) < (p0 + (f10_0 p1 p2))))).2.2.1 k) ?_
    refine own_pre (B := T1.setTop (mkF m 20 #[.val (.int p0), .val (.int p1), .val (.int p2), .val (.int (p0 + (f10_0 p1 p2)))] [(.int (p0 + (f10_0 p1 p2)))])) (fun t k => XS.iloadN X1.here hx rfl (hb hby d9_19) rfl k) ?_
    exact own_retI X1 hx hlk Bd.returns (hb hby d9_20) (own_at e1 ⟨rfl, N1, rfl⟩) (by decide) (by decide)
  exact own_pre pre0 g_0
theorem d11_0 : decode jdk_65_method_121_code 0 = .ok (.iload_n 1, 1) := by decide +kernel
theorem d11_1 : decode jdk_65_method_121_code 1 = .ok (.aload_n 0, 1) := by decide +kernel
theorem d11_2 : decode jdk_65_method_121_code 2 = .ok (.arraylength, 1) := by decide +kernel
theorem d11_3 : decode jdk_65_method_121_code 3 = .ok (.if_icmp .ne 11, 3) := by decide +kernel
theorem d11_14 : decode jdk_65_method_121_code 14 = .ok (.iload_n 1, 1) := by decide +kernel
theorem d11_15 : decode jdk_65_method_121_code 15 = .ok (.newarray .byte, 2) := by decide +kernel
theorem d11_17 : decode jdk_65_method_121_code 17 = .ok (.astore_n 2, 1) := by decide +kernel
theorem d11_18 : decode jdk_65_method_121_code 18 = .ok (.aload_n 0, 1) := by decide +kernel
theorem d11_19 : decode jdk_65_method_121_code 19 = .ok (.iconst 0, 1) := by decide +kernel
theorem d11_20 : decode jdk_65_method_121_code 20 = .ok (.aload_n 2, 1) := by decide +kernel
theorem d11_21 : decode jdk_65_method_121_code 21 = .ok (.iconst 0, 1) := by decide +kernel
theorem d11_22 : decode jdk_65_method_121_code 22 = .ok (.aload_n 0, 1) := by decide +kernel
theorem d11_23 : decode jdk_65_method_121_code 23 = .ok (.arraylength, 1) := by decide +kernel
theorem d11_24 : decode jdk_65_method_121_code 24 = .ok (.iload_n 1, 1) := by decide +kernel
theorem d11_25 : decode jdk_65_method_121_code 25 = .ok (.invokestatic 304, 3) := by decide +kernel
theorem d11_28 : decode jdk_65_method_121_code 28 = .ok (.invokestatic 150, 3) := by decide +kernel
theorem d11_31 : decode jdk_65_method_121_code 31 = .ok (.aload_n 2, 1) := by decide +kernel
theorem d11_32 : decode jdk_65_method_121_code 32 = .ok (.areturn, 1) := by decide +kernel
theorem pn_11 : plainName "java/util/Arrays" = true := by first | (simp [plainName, overriddenIn]; done) | decide +kernel
theorem pd11_0 : parseMethodDescriptor "(II)I" = some ⟨[.int, .int], some .int⟩ := by decide +kernel
theorem ef_11 (m : MethodId) (bf : Addr) (ln : Int32) : entryFrame m #[(.ref bf), (.int ln)] 3 = mkF m 0 #[.val (.ref bf), .val (.int ln), .unset] [] := by first | (simp [entryFrame, mkF, argsToLocals, Value.category]; done) | rfl
def Q11 (Z : State) (bf : Addr) (ln : Int32) (kb : ClassId) (us : Int32) (vd : List Value) (h0 : Heap) (n0 : Nat) (v : Option Value) (h : Heap) (L : List Loc) : Prop := ∃ (b : Addr) (kb : ClassId) (ws : List Value), v = some (.ref b) ∧ Fr n0 L ∧ Keep h0 h [] ∧ h0.size ≤ b ∧ Arv Z h b kb .byte ln ws (.int 0)
set_option maxRecDepth 65536 in
set_option maxHeartbeats 40000000 in
theorem rm11 (l : Launch) (Z : State) (a0 : Array Value) (hw : ∀ d ∈ tables_1, d.before a0 Z = true) (ws : List Jvm.Cond) (bf : Addr) (ln : Int32) (kb : ClassId) (us : Int32) (vd : List Value) (h0 : Heap) (n0 : Nat) (Z0 : n0 ≤ h0.size) (V0 : Arv Z h0 bf kb .byte us vd (.int 0)) (u0 : 0 ≤ us.toInt) (u1 : us.toInt ≤ 63) (c1 : us.toInt < ln.toInt) (c2 : ln.toInt ≤ 127) :
    MetFree l (⟨"java/util/Arrays", "copyOf", "([BI)[B"⟩ : MethodName) (head1 (Jvm.Cond.code (⟨"java/util/Arrays", "copyOf", "([BI)[B"⟩ : MethodName) jdk_65_method_121_code 3 (some (.array .byte)) :: ws) ({ frames := 1, cells := 1, slots := 127, locals := 40 } : Room)) (fun a U => a = #[(.ref bf), (.int ln)] ∧ Z.Warmed39 U.vm ∧ U.heap = h0) (fun _ _ _ _ _ => True) (fun _ U o U' => ∃ v L, o = .returned v ∧ Q11 Z bf ln kb us vd h0 n0 v U'.heap L ∧ FrameEnd U o U' L ({ frames := 1, cells := 1, slots := 127, locals := 40 } : Room).cells ({ frames := 1, cells := 1, slots := 127, locals := 40 } : Room).slots) := by
  refine MetFree.of_bodySF (plainFor_of_name pn_11) hisR ?_
  intro p e s m args below meth c s₁ Bd hml0 hP hK
  obtain ⟨rfl, hZ, hh⟩ := hP
  have hx := Bd.exec
  have hby := Bd.bytes
  have hml : c.maxLocals = 3 := hml0
  have hlk : meth.locks = false := BodyLoose.notSynchronized Bd
  have hown : s.vm.findClass "java/util/Arrays" = some m.cls := findClass_of_methodNamed Bd.named
  have hnm := (name_of_methodNamed Bd.named Bd.method).1
  have X0 : Stand p l e ({ frames := 1, cells := 1, slots := 127, locals := 40 } : Room) s m #[(.ref bf), (.int ln)] below meth c s₁ [] 0 0 := Stand.of_body Bd
  have e0 : s₁.heap = h0 := by rw [← hh, Bd.state]; rfl
  have N0 := Fr.nil n0
  have pre0 : ∀ t, Steps p.tables e below (s₁.setTop (mkF m 0 #[.val (.ref bf), .val (.int ln), .unset] [])) t → Steps p.tables e below (s₁.setTop (entryFrame m #[(.ref bf), (.int ln)] 3)) t := fun t k => castTop (ef_11 m bf ln) k
  have g_0 : own_Fin p e below s (Q11 Z bf ln kb us vd h0 n0) ({ frames := 1, cells := 1, slots := 127, locals := 40 } : Room).cells ({ frames := 1, cells := 1, slots := 127, locals := 40 } : Room).slots (s₁.setTop (mkF m 0 #[.val (.ref bf), .val (.int ln), .unset] [])) := by
    refine own_pre (B := s₁.setTop (mkF m 1 #[.val (.ref bf), .val (.int ln), .unset] [(.int ln)])) (fun t k => XS.iloadN X0.here hx rfl (hb hby d11_0) rfl k) ?_
    refine own_pre (B := s₁.setTop (mkF m 2 #[.val (.ref bf), .val (.int ln), .unset] [(.ref bf), (.int ln)])) (fun t k => XS.aloadN X0.here hx rfl (hb hby d11_1) rfl rfl k) ?_
    refine own_pre (B := s₁.setTop (mkF m 3 #[.val (.ref bf), .val (.int ln), .unset] [(.int us), (.int ln)])) (own_len X0 hx hZ e0 V0 (g := (mkF m 2 #[.val (.ref bf), .val (.int ln), .unset] [(.ref bf), (.int ln)])) rfl rfl (hb hby d11_2)) ?_
    refine own_pre (B := s₁.setTop (mkF m 14 #[.val (.ref bf), .val (.int ln), .unset] [])) (fun t k => XS.icmpYes X0.here hx rfl (pc0 := 3) (pc' := 14) rfl (hb hby d11_3) rfl (feq ((fun w => by have : ln.toInt = us.toInt := congrArg Int32.toInt w; omega) : ¬ (ln = us))).2 (by decide) (by decide) k) ?_
    refine own_pre (B := s₁.setTop (mkF m 15 #[.val (.ref bf), .val (.int ln), .unset] [(.int ln)])) (fun t k => XS.iloadN X0.here hx rfl (hb hby d11_14) rfl k) ?_
    obtain ⟨T1, h1, kc1, X1, e1, E1, A1, st1⟩ := newP X0 hx hZ (hw _ (List.mem_of_getElem? (i := 0) rfl)) e0 (g := (mkF m 15 #[.val (.ref bf), .val (.int ln), .unset] [(.int ln)])) rfl (hb hby d11_15) rfl (own_nlt (show (0 : Int32).toInt ≤ ln.toInt from by have : (0 : Int32).toInt = 0 := rfl; omega)) (cap := 127) (own_nat c2) (by decide) (by decide) (by decide)
    obtain ⟨b1, g1⟩ : ∃ z, z = h0.size := ⟨_, rfl⟩
    rw [← g1] at A1 st1
    have V1 : Arv Z h1 b1 kc1 .byte ln [] (.int (0 : Int32)) := Arv.new A1 (own_nlt (show (0 : Int32).toInt ≤ ln.toInt from by have : (0 : Int32).toInt = 0 := rfl; omega))
    have gb1 : n0 ≤ b1 := Nat.le_trans Z0 (Nat.le_of_eq g1.symm)
    have ZH1 : n0 ≤ h1.size := Nat.le_trans Z0 E1.1
    have K1 := Keep.ext (Keep.refl h0 []) E1
    have sb1 := Nat.le_trans ((Keep.refl h0 [])).1 (Nat.le_of_eq g1.symm)
    have W1 := V1.pad (pad_rep [] (.int (0 : Int32)) 127)
    have Vo1 := V0.ext E1
    refine own_pre (B := T1.setTop (mkF m 17 #[.val (.ref bf), .val (.int ln), .unset] [(.ref b1)])) st1 ?_
    refine own_pre (B := T1.setTop (mkF m 18 #[.val (.ref bf), .val (.int ln), .val (.ref b1)] [])) (fun t k => XS.astoreN X1.here hx rfl (hb hby d11_17) rfl rfl (l' := #[.val (.ref bf), .val (.int ln), .val (.ref b1)]) rfl k) ?_
    refine own_pre (B := T1.setTop (mkF m 19 #[.val (.ref bf), .val (.int ln), .val (.ref b1)] [(.ref bf)])) (fun t k => XS.aloadN X1.here hx rfl (hb hby d11_18) rfl rfl k) ?_
    refine own_pre (B := T1.setTop (mkF m 20 #[.val (.ref bf), .val (.int ln), .val (.ref b1)] [(.int (0 : Int32)), (.ref bf)])) (fun t k => XS.iconst X1.here hx rfl (hb hby d11_19) k) ?_
    refine own_pre (B := T1.setTop (mkF m 21 #[.val (.ref bf), .val (.int ln), .val (.ref b1)] [(.ref b1), (.int (0 : Int32)), (.ref bf)])) (fun t k => XS.aloadN X1.here hx rfl (hb hby d11_20) rfl rfl k) ?_
    refine own_pre (B := T1.setTop (mkF m 22 #[.val (.ref bf), .val (.int ln), .val (.ref b1)] [(.int (0 : Int32)), (.ref b1), (.int (0 : Int32)), (.ref bf)])) (fun t k => XS.iconst X1.here hx rfl (hb hby d11_21) k) ?_
    refine own_pre (B := T1.setTop (mkF m 23 #[.val (.ref bf), .val (.int ln), .val (.ref b1)] [(.ref bf), (.int (0 : Int32)), (.ref b1), (.int (0 : Int32)), (.ref bf)])) (fun t k => XS.aloadN X1.here hx rfl (hb hby d11_22) rfl rfl k) ?_
    refine own_pre (B := T1.setTop (mkF m 24 #[.val (.ref bf), .val (.int ln), .val (.ref b1)] [(.int us), (.int (0 : Int32)), (.ref b1), (.int (0 : Int32)), (.ref bf)])) (own_len X1 hx hZ e1 Vo1 (g := (mkF m 23 #[.val (.ref bf), .val (.int ln), .val (.ref b1)] [(.ref bf), (.int (0 : Int32)), (.ref b1), (.int (0 : Int32)), (.ref bf)])) rfl rfl (hb hby d11_23)) ?_
    refine own_pre (B := T1.setTop (mkF m 25 #[.val (.ref bf), .val (.int ln), .val (.ref b1)] [(.int ln), (.int us), (.int (0 : Int32)), (.ref b1), (.int (0 : Int32)), (.ref bf)])) (fun t k => XS.iloadN X1.here hx rfl (hb hby d11_24) rfl k) ?_
    obtain ⟨_, _, ⟨T2, L2, k2, n2⟩, -, X2, ⟨Lc2, hQ2, l2, y2, z2⟩, st2⟩ := Jvm.LawKit.callS X1 hx (y := (⟨"java/lang/Math", "min", "(II)I"⟩ : MethodName)) hown (mvT hZ (hw _ (List.mem_of_getElem? (i := 59) rfl))) (mvT hZ (hw _ (List.mem_of_getElem? (i := 60) rfl))) (mvT hZ (hw _ (List.mem_of_getElem? (i := 52) rfl))) (mvT hZ (hw _ (List.mem_of_getElem? (i := 61) rfl))) (by decide) (backOf (W := 4) (rm12 l Z a0 hw [] us ln h1 n0 ZH1) hZ (hw _ (List.mem_of_getElem? (i := 61) rfl)) (hw _ (List.mem_of_getElem? (i := 52) rfl)) (by decide) (by decide)) (g := (mkF m 25 #[.val (.ref bf), .val (.int ln), .val (.ref b1)] [(.int ln), (.int us), (.int (0 : Int32)), (.ref b1), (.int (0 : Int32)), (.ref bf)])) rfl (by rw [hml]; rfl) (argsL := [(.int us), (.int ln)]) (rest := [(.int (0 : Int32)), (.ref b1), (.int (0 : Int32)), (.ref bf)]) (lenOf pd11_0 rfl) rfl (by show 2 * 0 + _ ≤ _; exact Nat.le_of_eq rfl) (hb hby d11_25) (fun _ _ => ⟨rfl, e1, (by decide : 1 + 0 ≤ _), (by decide : 127 + 0 ≤ _)⟩)
    dsimp only [Pt.U, Pt.locs, Pt.cells, Pt.slots] at X2 l2 y2 z2 st2 hQ2
    subst l2 y2 z2
    obtain ⟨rfl, Nq2, e2⟩ := hQ2
    have N2 := Fr.app N0 Nq2
    refine own_pre (B := T2.setTop (mkF m 28 #[.val (.ref bf), .val (.int ln), .val (.ref b1)] [(.int (f12_0 us ln)), (.int (0 : Int32)), (.ref b1), (.int (0 : Int32)), (.ref bf)])) st2 ?_
    obtain ⟨T3, h3, L3, X3, e3, N3, Kc3, Vc3, st3⟩ := cpA X2 hx hZ hown (hw _ (List.mem_of_getElem? (i := 62) rfl)) (hw _ (List.mem_of_getElem? (i := 65) rfl)) (hw _ (List.mem_of_getElem? (i := 63) rfl)) (hw _ (List.mem_of_getElem? (i := 64) rfl)) e2 Vo1 W1 (Or.inl ⟨rfl, rfl⟩) (by decide) (by decide) (by rw [own_min (own_nlt (Int.le_of_lt c1))]; exact own_nlt u0) (by rw [own_min (own_nlt (Int.le_of_lt c1))]; show 0 + us.toNatClampNeg ≤ _; omega) (by rw [own_min (own_nlt (Int.le_of_lt c1))]; show 0 + us.toNatClampNeg ≤ _; have := own_natle (Int.le_of_lt c1); omega) rfl (by rw [own_min (own_nlt (Int.le_of_lt c1))]; show 0 + us.toNatClampNeg ≤ 127; have := own_nat (n := 63) u1; omega) N2 gb1 (g := (mkF m 28 #[.val (.ref bf), .val (.int ln), .val (.ref b1)] [(.int (f12_0 us ln)), (.int (0 : Int32)), (.ref b1), (.int (0 : Int32)), (.ref bf)])) rfl (by rw [hml]; rfl) rfl (hb hby d11_28) (by decide) (W := 0) (by show 2 * 0 + _ ≤ _; exact Nat.le_of_eq rfl) (by decide)
    have ZH3 : n0 ≤ h3.size := Nat.le_trans ZH1 Kc3.1
    have K3 : Keep h0 h3 [] := Keep.trans K1 Kc3 (allS (Or.inr sb1) all0)
    refine own_pre (B := T3.setTop (mkF m 31 #[.val (.ref bf), .val (.int ln), .val (.ref b1)] [])) st3 ?_
    refine own_pre (B := T3.setTop (mkF m 32 #[.val (.ref bf), .val (.int ln), .val (.ref b1)] [(.ref b1)])) (fun t k => XS.aloadN X3.here hx rfl (hb hby d11_31) rfl rfl k) ?_
    exact own_retR X3 hx hlk Bd.returns (hb hby d11_32) (by rfl) (by rfl) (own_at e3 ⟨b1, kc1, _, rfl, N3, K3, sb1, Vc3⟩) (by decide) (by decide)
  exact own_pre pre0 g_0
theorem d8_0 : decode jdk_2005_method_3_code 0 = .ok (.aload_n 0, 1) := by decide +kernel
theorem d8_1 : decode jdk_2005_method_3_code 1 = .ok (.getfield 33, 3) := by decide +kernel
theorem d8_4 : decode jdk_2005_method_3_code 4 = .ok (.arraylength, 1) := by decide +kernel
theorem d8_5 : decode jdk_2005_method_3_code 5 = .ok (.istore_n 2, 1) := by decide +kernel
theorem d8_6 : decode jdk_2005_method_3_code 6 = .ok (.iload_n 1, 1) := by decide +kernel
theorem d8_7 : decode jdk_2005_method_3_code 7 = .ok (.iload_n 2, 1) := by decide +kernel
theorem d8_8 : decode jdk_2005_method_3_code 8 = .ok (.isub, 1) := by decide +kernel
theorem d8_9 : decode jdk_2005_method_3_code 9 = .ok (.istore_n 3, 1) := by decide +kernel
theorem d8_10 : decode jdk_2005_method_3_code 10 = .ok (.iload_n 3, 1) := by decide +kernel
theorem d8_11 : decode jdk_2005_method_3_code 11 = .ok (.ifCond .le 20, 3) := by decide +kernel
theorem d8_31 : decode jdk_2005_method_3_code 31 = .ok (.return_, 1) := by decide +kernel
theorem pn_8 : plainName "java/io/ByteArrayOutputStream" = true := by first | (simp [plainName, overriddenIn]; done) | decide +kernel
theorem ef_E0 (m : MethodId) (rb : Addr) (mc : Int32) : entryFrame m #[(.ref rb), (.int mc)] 4 = mkF m 0 #[.val (.ref rb), .val (.int mc), .unset, .unset] [] := by first | (simp [entryFrame, mkF, argsToLocals, Value.category]; done) | rfl
def QE0 (Z : State) (rb : Addr) (mc : Int32) (bf : Addr) (cn : Int32) (uu : Int32) (kb : ClassId) (us : Int32) (vd : List Value) (h0 : Heap) (n0 : Nat) (v : Option Value) (h : Heap) (L : List Loc) : Prop := v = none ∧ Fr n0 L ∧ h = h0
set_option maxRecDepth 65536 in
set_option maxHeartbeats 40000000 in
theorem rmE0 (l : Launch) (Z : State) (a0 : Array Value) (hw : ∀ d ∈ tables_1, d.before a0 Z = true) (ws : List Jvm.Cond) (rb : Addr) (mc : Int32) (bf : Addr) (cn : Int32) (uu : Int32) (kb : ClassId) (us : Int32) (vd : List Value) (h0 : Heap) (n0 : Nat) (Z0 : n0 ≤ h0.size) (F0 : own_B Z h0 rb (.ref bf) cn uu) (V0 : Arv Z h0 bf kb .byte us vd (.int 0)) (c1 : ¬ (0 : Int32) < mc - us) :
    MetFree l (⟨"java/io/ByteArrayOutputStream", "ensureCapacity", "(I)V"⟩ : MethodName) (head1 (Jvm.Cond.code (⟨"java/io/ByteArrayOutputStream", "ensureCapacity", "(I)V"⟩ : MethodName) jdk_2005_method_3_code 4 none :: ws) ({ frames := 0, cells := 0, slots := 0, locals := 0 } : Room)) (fun a U => a = #[(.ref rb), (.int mc)] ∧ Z.Warmed39 U.vm ∧ U.heap = h0) (fun _ _ _ _ _ => True) (fun _ U o U' => ∃ v L, o = .returned v ∧ QE0 Z rb mc bf cn uu kb us vd h0 n0 v U'.heap L ∧ FrameEnd U o U' L ({ frames := 0, cells := 0, slots := 0, locals := 0 } : Room).cells ({ frames := 0, cells := 0, slots := 0, locals := 0 } : Room).slots) := by
  refine MetFree.of_bodySF (plainFor_of_name pn_8) hisR ?_
  intro p e s m args below meth c s₁ Bd hml0 hP hK
  obtain ⟨rfl, hZ, hh⟩ := hP
  have hx := Bd.exec
  have hby := Bd.bytes
  have hml : c.maxLocals = 4 := hml0
  have hlk : meth.locks = false := BodyLoose.notSynchronized Bd
  have hown : s.vm.findClass "java/io/ByteArrayOutputStream" = some m.cls := findClass_of_methodNamed Bd.named
  have hnm := (name_of_methodNamed Bd.named Bd.method).1
  have X0 : Stand p l e ({ frames := 0, cells := 0, slots := 0, locals := 0 } : Room) s m #[(.ref rb), (.int mc)] below meth c s₁ [] 0 0 := Stand.of_body Bd
  have e0 : s₁.heap = h0 := by rw [← hh, Bd.state]; rfl
  have N0 := Fr.nil n0
  have pre0 : ∀ t, Steps p.tables e below (s₁.setTop (mkF m 0 #[.val (.ref rb), .val (.int mc), .unset, .unset] [])) t → Steps p.tables e below (s₁.setTop (entryFrame m #[(.ref rb), (.int mc)] 4)) t := fun t k => castTop (ef_E0 m rb mc) k
  have g_0 : own_Fin p e below s (QE0 Z rb mc bf cn uu kb us vd h0 n0) ({ frames := 0, cells := 0, slots := 0, locals := 0 } : Room).cells ({ frames := 0, cells := 0, slots := 0, locals := 0 } : Room).slots (s₁.setTop (mkF m 0 #[.val (.ref rb), .val (.int mc), .unset, .unset] [])) := by
    refine own_pre (B := s₁.setTop (mkF m 1 #[.val (.ref rb), .val (.int mc), .unset, .unset] [(.ref rb)])) (fun t k => XS.aloadN X0.here hx rfl (hb hby d8_0) rfl rfl k) ?_
    obtain ⟨T1, X1, e1, st1⟩ := getF X0 hx hZ hown (host := "") (Or.inl (hw _ (List.mem_of_getElem? (i := 21) rfl))) Via.refl e0 (F0).2.1 (g := (mkF m 1 #[.val (.ref rb), .val (.int mc), .unset, .unset] [(.ref rb)])) rfl rfl (hb hby d8_1)
    refine own_pre (B := T1.setTop (mkF m 4 #[.val (.ref rb), .val (.int mc), .unset, .unset] [(.ref bf)])) st1 ?_
    refine own_pre (B := T1.setTop (mkF m 5 #[.val (.ref rb), .val (.int mc), .unset, .unset] [(.int us)])) (own_len X1 hx hZ e1 V0 (g := (mkF m 4 #[.val (.ref rb), .val (.int mc), .unset, .unset] [(.ref bf)])) rfl rfl (hb hby d8_4)) ?_
    refine own_pre (B := T1.setTop (mkF m 6 #[.val (.ref rb), .val (.int mc), .val (.int us), .unset] [])) (fun t k => XS.istoreN X1.here hx rfl (hb hby d8_5) rfl (l' := #[.val (.ref rb), .val (.int mc), .val (.int us), .unset]) rfl k) ?_
    refine own_pre (B := T1.setTop (mkF m 7 #[.val (.ref rb), .val (.int mc), .val (.int us), .unset] [(.int mc)])) (fun t k => XS.iloadN X1.here hx rfl (hb hby d8_6) rfl k) ?_
    refine own_pre (B := T1.setTop (mkF m 8 #[.val (.ref rb), .val (.int mc), .val (.int us), .unset] [(.int us), (.int mc)])) (fun t k => XS.iloadN X1.here hx rfl (hb hby d8_7) rfl k) ?_
    refine own_pre (B := T1.setTop (mkF m 9 #[.val (.ref rb), .val (.int mc), .val (.int us), .unset] [(.int (mc - us))])) (fun t k => XS.isub X1.here hx rfl (hb hby d8_8) rfl k) ?_
    refine own_pre (B := T1.setTop (mkF m 10 #[.val (.ref rb), .val (.int mc), .val (.int us), .val (.int (mc - us))] [])) (fun t k => XS.istoreN X1.here hx rfl (hb hby d8_9) rfl (l' := #[.val (.ref rb), .val (.int mc), .val (.int us), .val (.int (mc - us))]) rfl k) ?_
    refine own_pre (B := T1.setTop (mkF m 11 #[.val (.ref rb), .val (.int mc), .val (.int us), .val (.int (mc - us))] [(.int (mc - us))])) (fun t k => XS.iloadN X1.here hx rfl (hb hby d8_10) rfl k) ?_
    refine own_pre (B := T1.setTop (mkF m 31 #[.val (.ref rb), .val (.int mc), .val (.int us), .val (.int (mc - us))] [])) (fun t k => XS.ifYes X1.here hx rfl (pc0 := 11) (pc' := 31) rfl (hb hby d8_11) rfl ((if0 _ _).trans (flt (c1 : ¬ ((0 : Int32) < (mc - us)))).2.2.2) (by decide) (by decide) k) ?_
    exact own_retV X1 hx hlk Bd.returns (hb hby d8_31) (own_at e1 ⟨rfl, N0, rfl⟩) (by decide) (by decide)
  exact own_pre pre0 g_0
theorem d8_14 : decode jdk_2005_method_3_code 14 = .ok (.aload_n 0, 1) := by decide +kernel
theorem d8_15 : decode jdk_2005_method_3_code 15 = .ok (.aload_n 0, 1) := by decide +kernel
theorem d8_16 : decode jdk_2005_method_3_code 16 = .ok (.getfield 33, 3) := by decide +kernel
theorem d8_19 : decode jdk_2005_method_3_code 19 = .ok (.iload_n 2, 1) := by decide +kernel
theorem d8_20 : decode jdk_2005_method_3_code 20 = .ok (.iload_n 3, 1) := by decide +kernel
theorem d8_21 : decode jdk_2005_method_3_code 21 = .ok (.iload_n 2, 1) := by decide +kernel
theorem d8_22 : decode jdk_2005_method_3_code 22 = .ok (.invokestatic 37, 3) := by decide +kernel
theorem d8_25 : decode jdk_2005_method_3_code 25 = .ok (.invokestatic 43, 3) := by decide +kernel
theorem d8_28 : decode jdk_2005_method_3_code 28 = .ok (.putfield 33, 3) := by decide +kernel
theorem pd8_0 : parseMethodDescriptor "(III)I" = some ⟨[.int, .int, .int], some .int⟩ := by decide +kernel
theorem pd8_1 : parseMethodDescriptor "([BI)[B" = some ⟨[(.array .byte), .int], some (.array .byte)⟩ := by decide +kernel
theorem ef_E1 (m : MethodId) (rb : Addr) (mc : Int32) : entryFrame m #[(.ref rb), (.int mc)] 4 = mkF m 0 #[.val (.ref rb), .val (.int mc), .unset, .unset] [] := by first | (simp [entryFrame, mkF, argsToLocals, Value.category]; done) | rfl
def QE1 (Z : State) (rb : Addr) (mc : Int32) (bf : Addr) (cn : Int32) (uu : Int32) (kb : ClassId) (us : Int32) (vd : List Value) (h0 : Heap) (n0 : Nat) (v : Option Value) (h : Heap) (L : List Loc) : Prop := v = none ∧ Fr n0 L ∧ Keep h0 h [rb] ∧ ∃ (b : Addr) (kb' : ClassId) (ws : List Value), h0.size ≤ b ∧ own_B Z h rb (.ref b) cn uu ∧ Arv Z h b kb' .byte (own_ln us mc) ws (.int 0)
set_option maxRecDepth 65536 in
set_option maxHeartbeats 40000000 in
theorem rmE1 (l : Launch) (Z : State) (a0 : Array Value) (hw : ∀ d ∈ tables_1, d.before a0 Z = true) (ws : List Jvm.Cond) (rb : Addr) (mc : Int32) (bf : Addr) (cn : Int32) (uu : Int32) (kb : ClassId) (us : Int32) (vd : List Value) (h0 : Heap) (n0 : Nat) (Z0 : n0 ≤ h0.size) (F0 : own_B Z h0 rb (.ref bf) cn uu) (V0 : Arv Z h0 bf kb .byte us vd (.int 0)) (gr : n0 ≤ rb) (u0 : 0 ≤ us.toInt) (u1 : us.toInt ≤ 63) (c1 : us.toInt < mc.toInt) (c2 : mc.toInt ≤ 127) :
    MetFree l (⟨"java/io/ByteArrayOutputStream", "ensureCapacity", "(I)V"⟩ : MethodName) (head1 (Jvm.Cond.code (⟨"java/io/ByteArrayOutputStream", "ensureCapacity", "(I)V"⟩ : MethodName) jdk_2005_method_3_code 4 none :: ws) ({ frames := 2, cells := 1, slots := 127, locals := 55 } : Room)) (fun a U => a = #[(.ref rb), (.int mc)] ∧ Z.Warmed39 U.vm ∧ U.heap = h0) (fun _ _ _ _ _ => True) (fun _ U o U' => ∃ v L, o = .returned v ∧ QE1 Z rb mc bf cn uu kb us vd h0 n0 v U'.heap L ∧ FrameEnd U o U' L ({ frames := 2, cells := 1, slots := 127, locals := 55 } : Room).cells ({ frames := 2, cells := 1, slots := 127, locals := 55 } : Room).slots) := by
  refine MetFree.of_bodySF (plainFor_of_name pn_8) hisR ?_
  intro p e s m args below meth c s₁ Bd hml0 hP hK
  obtain ⟨rfl, hZ, hh⟩ := hP
  have hx := Bd.exec
  have hby := Bd.bytes
  have hml : c.maxLocals = 4 := hml0
  have hlk : meth.locks = false := BodyLoose.notSynchronized Bd
  have hown : s.vm.findClass "java/io/ByteArrayOutputStream" = some m.cls := findClass_of_methodNamed Bd.named
  have hnm := (name_of_methodNamed Bd.named Bd.method).1
  have X0 : Stand p l e ({ frames := 2, cells := 1, slots := 127, locals := 55 } : Room) s m #[(.ref rb), (.int mc)] below meth c s₁ [] 0 0 := Stand.of_body Bd
  have e0 : s₁.heap = h0 := by rw [← hh, Bd.state]; rfl
  have N0 := Fr.nil n0
  have pre0 : ∀ t, Steps p.tables e below (s₁.setTop (mkF m 0 #[.val (.ref rb), .val (.int mc), .unset, .unset] [])) t → Steps p.tables e below (s₁.setTop (entryFrame m #[(.ref rb), (.int mc)] 4)) t := fun t k => castTop (ef_E1 m rb mc) k
  have g_0 : own_Fin p e below s (QE1 Z rb mc bf cn uu kb us vd h0 n0) ({ frames := 2, cells := 1, slots := 127, locals := 55 } : Room).cells ({ frames := 2, cells := 1, slots := 127, locals := 55 } : Room).slots (s₁.setTop (mkF m 0 #[.val (.ref rb), .val (.int mc), .unset, .unset] [])) := by
    refine own_pre (B := s₁.setTop (mkF m 1 #[.val (.ref rb), .val (.int mc), .unset, .unset] [(.ref rb)])) (fun t k => XS.aloadN X0.here hx rfl (hb hby d8_0) rfl rfl k) ?_
    obtain ⟨T1, X1, e1, st1⟩ := getF X0 hx hZ hown (host := "") (Or.inl (hw _ (List.mem_of_getElem? (i := 21) rfl))) Via.refl e0 (F0).2.1 (g := (mkF m 1 #[.val (.ref rb), .val (.int mc), .unset, .unset] [(.ref rb)])) rfl rfl (hb hby d8_1)
    refine own_pre (B := T1.setTop (mkF m 4 #[.val (.ref rb), .val (.int mc), .unset, .unset] [(.ref bf)])) st1 ?_
    refine own_pre (B := T1.setTop (mkF m 5 #[.val (.ref rb), .val (.int mc), .unset, .unset] [(.int us)])) (own_len X1 hx hZ e1 V0 (g := (mkF m 4 #[.val (.ref rb), .val (.int mc), .unset, .unset] [(.ref bf)])) rfl rfl (hb hby d8_4)) ?_
    refine own_pre (B := T1.setTop (mkF m 6 #[.val (.ref rb), .val (.int mc), .val (.int us), .unset] [])) (fun t k => XS.istoreN X1.here hx rfl (hb hby d8_5) rfl (l' := #[.val (.ref rb), .val (.int mc), .val (.int us), .unset]) rfl k) ?_
    refine own_pre (B := T1.setTop (mkF m 7 #[.val (.ref rb), .val (.int mc), .val (.int us), .unset] [(.int mc)])) (fun t k => XS.iloadN X1.here hx rfl (hb hby d8_6) rfl k) ?_
    refine own_pre (B := T1.setTop (mkF m 8 #[.val (.ref rb), .val (.int mc), .val (.int us), .unset] [(.int us), (.int mc)])) (fun t k => XS.iloadN X1.here hx rfl (hb hby d8_7) rfl k) ?_
    refine own_pre (B := T1.setTop (mkF m 9 #[.val (.ref rb), .val (.int mc), .val (.int us), .unset] [(.int (mc - us))])) (fun t k => XS.isub X1.here hx rfl (hb hby d8_8) rfl k) ?_
    refine own_pre (B := T1.setTop (mkF m 10 #[.val (.ref rb), .val (.int mc), .val (.int us), .val (.int (mc - us))] [])) (fun t k => XS.istoreN X1.here hx rfl (hb hby d8_9) rfl (l' := #[.val (.ref rb), .val (.int mc), .val (.int us), .val (.int (mc - us))]) rfl k) ?_
    refine own_pre (B := T1.setTop (mkF m 11 #[.val (.ref rb), .val (.int mc), .val (.int us), .val (.int (mc - us))] [(.int (mc - us))])) (fun t k => XS.iloadN X1.here hx rfl (hb hby d8_10) rfl k) ?_
    refine own_pre (B := T1.setTop (mkF m 14 #[.val (.ref rb), .val (.int mc), .val (.int us), .val (.int (mc - us))] [])) (fun t k => XS.ifNo X1.here hx rfl (hb hby d8_11) rfl ((if0 _ _).trans (tlt ((own_lt (by have s1 := c_isub mc us; have r1 := rng32 (mc - us); have z0 : (0 : Int32).toInt = 0 := rfl; omega)) : (0 : Int32) < (mc - us))).2.2.2) k) ?_
    refine own_pre (B := T1.setTop (mkF m 15 #[.val (.ref rb), .val (.int mc), .val (.int us), .val (.int (mc - us))] [(.ref rb)])) (fun t k => XS.aloadN X1.here hx rfl (hb hby d8_14) rfl rfl k) ?_
    refine own_pre (B := T1.setTop (mkF m 16 #[.val (.ref rb), .val (.int mc), .val (.int us), .val (.int (mc - us))] [(.ref rb), (.ref rb)])) (fun t k => XS.aloadN X1.here hx rfl (hb hby d8_15) rfl rfl k) ?_
    obtain ⟨T2, X2, e2, st2⟩ := getF X1 hx hZ hown (host := "") (Or.inl (hw _ (List.mem_of_getElem? (i := 21) rfl))) Via.refl e1 (F0).2.1 (g := (mkF m 16 #[.val (.ref rb), .val (.int mc), .val (.int us), .val (.int (mc - us))] [(.ref rb), (.ref rb)])) rfl rfl (hb hby d8_16)
    refine own_pre (B := T2.setTop (mkF m 19 #[.val (.ref rb), .val (.int mc), .val (.int us), .val (.int (mc - us))] [(.ref bf), (.ref rb)])) st2 ?_
    refine own_pre (B := T2.setTop (mkF m 20 #[.val (.ref rb), .val (.int mc), .val (.int us), .val (.int (mc - us))] [(.int us), (.ref bf), (.ref rb)])) (fun t k => XS.iloadN X2.here hx rfl (hb hby d8_19) rfl k) ?_
    refine own_pre (B := T2.setTop (mkF m 21 #[.val (.ref rb), .val (.int mc), .val (.int us), .val (.int (mc - us))] [(.int (mc - us)), (.int us), (.ref bf), (.ref rb)])) (fun t k => XS.iloadN X2.here hx rfl (hb hby d8_20) rfl k) ?_
    refine own_pre (B := T2.setTop (mkF m 22 #[.val (.ref rb), .val (.int mc), .val (.int us), .val (.int (mc - us))] [(.int us), (.int (mc - us)), (.int us), (.ref bf), (.ref rb)])) (fun t k => XS.iloadN X2.here hx rfl (hb hby d8_21) rfl k) ?_
    obtain ⟨_, _, ⟨T3, L3, k3, n3⟩, -, X3, ⟨Lc3, hQ3, l3, y3, z3⟩, st3⟩ := Jvm.LawKit.callS X2 hx (y := (⟨"jdk/internal/util/ArraysSupport", "newLength", "(III)I"⟩ : MethodName)) hown (mvT hZ (hw _ (List.mem_of_getElem? (i := 46) rfl))) (mvT hZ (hw _ (List.mem_of_getElem? (i := 47) rfl))) (mvT hZ (hw _ (List.mem_of_getElem? (i := 48) rfl))) (mvT hZ (hw _ (List.mem_of_getElem? (i := 49) rfl))) (by decide) (backOf (W := 2) (rm9 l Z a0 hw [] us (mc - us) us h0 n0 Z0 (own_lt (by have q := own_ln_ok u0 u1 c1 c2; have z0 : (0 : Int32).toInt = 0 := rfl; unfold own_ln at q; omega)) (own_nlt (by have q := own_ln_ok u0 u1 c1 c2; have z0 : (2147483639 : Int32).toInt = 2147483639 := rfl; unfold own_ln at q; omega))) hZ (hw _ (List.mem_of_getElem? (i := 49) rfl)) (hw _ (List.mem_of_getElem? (i := 48) rfl)) (by decide) (by decide)) (g := (mkF m 22 #[.val (.ref rb), .val (.int mc), .val (.int us), .val (.int (mc - us))] [(.int us), (.int (mc - us)), (.int us), (.ref bf), (.ref rb)])) rfl (by rw [hml]; rfl) (argsL := [(.int us), (.int (mc - us)), (.int us)]) (rest := [(.ref bf), (.ref rb)]) (lenOf pd8_0 rfl) rfl (by show 2 * 0 + _ ≤ _; exact Nat.le_of_eq rfl) (hb hby d8_22) (fun _ _ => ⟨rfl, e2, (by decide : 0 + 0 ≤ _), (by decide : 0 + 0 ≤ _)⟩)
    dsimp only [Pt.U, Pt.locs, Pt.cells, Pt.slots] at X3 l3 y3 z3 st3 hQ3
    subst l3 y3 z3
    obtain ⟨rfl, Nq3, e3⟩ := hQ3
    have N3 := Fr.app N0 Nq3
    have eh3 : T3.heap = h0 := e3
    refine own_pre (B := T3.setTop (mkF m 25 #[.val (.ref rb), .val (.int mc), .val (.int us), .val (.int (mc - us))] [(.int (own_ln us mc)), (.ref bf), (.ref rb)])) st3 ?_
    obtain ⟨_, _, ⟨T4, L4, k4, n4⟩, -, X4, ⟨Lc4, hQ4, l4, y4, z4⟩, st4⟩ := Jvm.LawKit.callS X3 hx (y := (⟨"java/util/Arrays", "copyOf", "([BI)[B"⟩ : MethodName)) hown (mvT hZ (hw _ (List.mem_of_getElem? (i := 55) rfl))) (mvT hZ (hw _ (List.mem_of_getElem? (i := 56) rfl))) (mvT hZ (hw _ (List.mem_of_getElem? (i := 57) rfl))) (mvT hZ (hw _ (List.mem_of_getElem? (i := 58) rfl))) (by decide) (backOf (W := 1) (rm11 l Z a0 hw [] bf (own_ln us mc) kb us vd h0 n0 Z0 V0 u0 u1 (own_ln_ok u0 u1 c1 c2).1 (own_ln_ok u0 u1 c1 c2).2.2) hZ (hw _ (List.mem_of_getElem? (i := 58) rfl)) (hw _ (List.mem_of_getElem? (i := 57) rfl)) (by decide) (by decide)) (g := (mkF m 25 #[.val (.ref rb), .val (.int mc), .val (.int us), .val (.int (mc - us))] [(.int (own_ln us mc)), (.ref bf), (.ref rb)])) rfl (by rw [hml]; rfl) (argsL := [(.ref bf), (.int (own_ln us mc))]) (rest := [(.ref rb)]) (lenOf pd8_1 rfl) rfl (by show 2 * 0 + _ ≤ _; exact Nat.le_of_eq rfl) (hb hby d8_25) (fun _ _ => ⟨rfl, eh3, (by decide : 0 + 1 ≤ _), (by decide : 0 + 127 ≤ _)⟩)
    dsimp only [Pt.U, Pt.locs, Pt.cells, Pt.slots] at X4 l4 y4 z4 st4 hQ4
    subst l4 y4 z4
    obtain ⟨b4, kc4, ws4, rfl, Nq4, K4, sb4, V4⟩ := hQ4
    have N4 := Fr.app N3 Nq4
    have F4 := own_B_keep F0 K4 nin0
    have ZH4 : n0 ≤ T4.heap.size := Nat.le_trans Z0 K4.1
    have ne4 : b4 ≠ rb := Ne.symm (Nat.ne_of_lt (Nat.lt_of_lt_of_le F0.1.lt sb4))
    have Kr4 : Keep h0 T4.heap [rb] := Keep.trans (Keep.refl h0 [rb]) K4 all0
    refine own_pre (B := T4.setTop (mkF m 28 #[.val (.ref rb), .val (.int mc), .val (.int us), .val (.int (mc - us))] [(.ref b4), (.ref rb)])) st4 ?_
    obtain ⟨T5, h5, X5, e5, W5, st5⟩ := putF X4 hx hZ hown (host := "") (Or.inl (hw _ (List.mem_of_getElem? (i := 21) rfl))) Via.refl rfl (F4).2.1 (F4).1 (Or.inl (hw _ (List.mem_of_getElem? (i := 22) rfl))) (hw _ (List.mem_of_getElem? (i := 2) rfl)) (ty := (.array .byte)) (by decide) rfl rfl (g := (mkF m 28 #[.val (.ref rb), .val (.int mc), .val (.int us), .val (.int (mc - us))] [(.ref b4), (.ref rb)])) rfl rfl (hb hby d8_28)
    have N5 := Fr.snoc X5 N4 gr
    have ZH5 : n0 ≤ h5.size := by rw [W5.size]; exact ZH4
    have F5 := own_B_buf hw F4 W5
    have K5 := Keep.wr (ws := [rb]) Kr4 W5 (Or.inl (List.mem_of_getElem? (i := 0) rfl))
    have V5 := V4.other W5 ne4
    refine own_pre (B := T5.setTop (mkF m 31 #[.val (.ref rb), .val (.int mc), .val (.int us), .val (.int (mc - us))] [])) st5 ?_
    exact own_retV X5 hx hlk Bd.returns (hb hby d8_31) (own_at e5 ⟨rfl, N5, K5, b4, kc4, _, sb4, F5, V5⟩) (by decide) (by decide)
  exact own_pre pre0 g_0
theorem d5_0 : decode jdk_2005_method_5_code 0 = .ok (.iload_n 2, 1) := by decide +kernel
theorem d5_1 : decode jdk_2005_method_5_code 1 = .ok (.iload_n 3, 1) := by decide +kernel
theorem d5_2 : decode jdk_2005_method_5_code 2 = .ok (.aload_n 1, 1) := by decide +kernel
theorem d5_3 : decode jdk_2005_method_5_code 3 = .ok (.arraylength, 1) := by decide +kernel
theorem d5_4 : decode jdk_2005_method_5_code 4 = .ok (.invokestatic 56, 3) := by decide +kernel
theorem d5_7 : decode jdk_2005_method_5_code 7 = .ok (.pop, 1) := by decide +kernel
theorem d5_8 : decode jdk_2005_method_5_code 8 = .ok (.aload_n 0, 1) := by decide +kernel
theorem d5_9 : decode jdk_2005_method_5_code 9 = .ok (.aload_n 0, 1) := by decide +kernel
theorem d5_10 : decode jdk_2005_method_5_code 10 = .ok (.getfield 49, 3) := by decide +kernel
theorem d5_13 : decode jdk_2005_method_5_code 13 = .ok (.iload_n 3, 1) := by decide +kernel
theorem d5_14 : decode jdk_2005_method_5_code 14 = .ok (.iadd, 1) := by decide +kernel
theorem d5_15 : decode jdk_2005_method_5_code 15 = .ok (.invokevirtual 53, 3) := by decide +kernel
theorem d5_18 : decode jdk_2005_method_5_code 18 = .ok (.aload_n 1, 1) := by decide +kernel
theorem d5_19 : decode jdk_2005_method_5_code 19 = .ok (.iload_n 2, 1) := by decide +kernel
theorem d5_20 : decode jdk_2005_method_5_code 20 = .ok (.aload_n 0, 1) := by decide +kernel
theorem d5_21 : decode jdk_2005_method_5_code 21 = .ok (.getfield 33, 3) := by decide +kernel
theorem d5_24 : decode jdk_2005_method_5_code 24 = .ok (.aload_n 0, 1) := by decide +kernel
theorem d5_25 : decode jdk_2005_method_5_code 25 = .ok (.getfield 49, 3) := by decide +kernel
theorem d5_28 : decode jdk_2005_method_5_code 28 = .ok (.iload_n 3, 1) := by decide +kernel
theorem d5_29 : decode jdk_2005_method_5_code 29 = .ok (.invokestatic 61, 3) := by decide +kernel
theorem d5_32 : decode jdk_2005_method_5_code 32 = .ok (.aload_n 0, 1) := by decide +kernel
theorem d5_33 : decode jdk_2005_method_5_code 33 = .ok (.dup, 1) := by decide +kernel
theorem d5_34 : decode jdk_2005_method_5_code 34 = .ok (.getfield 49, 3) := by decide +kernel
theorem d5_37 : decode jdk_2005_method_5_code 37 = .ok (.iload_n 3, 1) := by decide +kernel
theorem d5_38 : decode jdk_2005_method_5_code 38 = .ok (.iadd, 1) := by decide +kernel
theorem d5_39 : decode jdk_2005_method_5_code 39 = .ok (.putfield 49, 3) := by decide +kernel
theorem d5_42 : decode jdk_2005_method_5_code 42 = .ok (.return_, 1) := by decide +kernel
theorem pn_5 : plainName "java/io/ByteArrayOutputStream" = true := by first | (simp [plainName, overriddenIn]; done) | decide +kernel
theorem pd5_0 : parseMethodDescriptor "(III)I" = some ⟨[.int, .int, .int], some .int⟩ := by decide +kernel
theorem pd5_1 : parseMethodDescriptor "(I)V" = some ⟨[.int], none⟩ := by decide +kernel
theorem ef_W0 (m : MethodId) (rb : Addr) (da : Addr) (nn : Int32) : entryFrameSync m #[(.ref rb), (.ref da), (.int (0 : Int32)), (.int nn)] 4 rb = mkL rb m 0 #[.val (.ref rb), .val (.ref da), .val (.int (0 : Int32)), .val (.int nn)] [] := by first | (simp [entryFrameSync, mkL, argsToLocals, Value.category]; done) | rfl
def QW0 (Z : State) (rb : Addr) (da : Addr) (nn : Int32) (bf : Addr) (uu : Int32) (kb : ClassId) (us : Int32) (vd : List Value) (kd : ClassId) (vs : List Value) (h0 : Heap) (n0 : Nat) (v : Option Value) (h : Heap) (L : List Loc) : Prop := v = none ∧ Fr n0 L ∧ Unt h rb ∧ h0.size ≤ h.size ∧ own_B Z h rb (.ref bf) ((0 : Int32) + nn) uu ∧ Arv Z h da kd .byte (128 : Int32) vs (.int 0) ∧ ∃ ws : List Value, (∀ i, i < nn.toNatClampNeg → ws.getD i (.int 0) = vs.getD i (.int 0)) ∧ Arv Z h bf kb .byte us ws (.int 0)
set_option maxRecDepth 65536 in
set_option maxHeartbeats 40000000 in
theorem rmW0 (l : Launch) (Z : State) (a0 : Array Value) (hw : ∀ d ∈ tables_1, d.before a0 Z = true) (rb : Addr) (da : Addr) (nn : Int32) (bf : Addr) (uu : Int32) (kb : ClassId) (us : Int32) (vd : List Value) (kd : ClassId) (vs : List Value) (h0 : Heap) (n0 : Nat) (Z0 : n0 ≤ h0.size) (F0 : own_B Z h0 rb (.ref bf) (0 : Int32) uu) (U0 : Unt h0 rb) (V0 : Arv Z h0 bf kb .byte us vd (.int 0)) (D0 : Arv Z h0 da kd .byte (128 : Int32) vs (.int 0)) (gr : n0 ≤ rb) (gf : n0 ≤ bf) (n1 : da ≠ rb) (n2 : bf ≠ rb) (n3 : da ≠ bf) (u0 : 0 ≤ us.toInt) (u1 : us.toInt ≤ 63) (c0 : 0 ≤ nn.toInt) (c2 : nn.toInt ≤ 127) (c1 : nn.toInt ≤ us.toInt) :
    MetFree l (⟨"java/io/ByteArrayOutputStream", "write", "([BII)V"⟩ : MethodName) (head1 [Jvm.Cond.codeSync (⟨"java/io/ByteArrayOutputStream", "write", "([BII)V"⟩ : MethodName) jdk_2005_method_5_code 4 none, Jvm.Cond.instanceMethod (⟨"java/io/ByteArrayOutputStream", "write", "([BII)V"⟩ : MethodName)] ({ frames := 3, cells := 0, slots := 0, locals := 72 } : Room)) (fun a U => a = #[(.ref rb), (.ref da), (.int (0 : Int32)), (.int nn)] ∧ Z.Warmed39 U.vm ∧ U.heap = h0 ∧ ∃ cell : Cell, h0[rb]? = some cell ∧ cell.enterable U.cur) (fun _ _ _ _ _ => True) (fun _ U o U' => ∃ v L, o = .returned v ∧ QW0 Z rb da nn bf uu kb us vd kd vs h0 n0 v U'.heap L ∧ FrameEnd U o U' L ({ frames := 3, cells := 0, slots := 0, locals := 72 } : Room).cells ({ frames := 3, cells := 0, slots := 0, locals := 72 } : Room).slots) := by
  refine MetFree.of_bodySync (plainFor_of_name pn_5) (hisS (List.mem_cons_self ..)) (fun _ s _ ⟨h1, _, h2, cl, h3, h4⟩ => ⟨rb, cl, by rw [h1]; rfl, by rw [h2]; exact h3, h4⟩) ?_
  intro p e s m args below meth c a' cell s₁ Bd hml0 hP hK
  obtain ⟨rfl, hZ0, hh, -⟩ := hP
  cases Bd.receiver
  have hx := Bd.exec
  have hby := Bd.bytes
  have hml : c.maxLocals = 4 := hml0
  obtain ⟨sS, hsS⟩ : ∃ z, z = s.setCell rb (cell.withEntry s.cur) := ⟨_, rfl⟩
  have X0 : Stand p l e ({ frames := 3, cells := 0, slots := 0, locals := 72 } : Room) sS m #[(.ref rb), (.ref da), (.int (0 : Int32)), (.int nn)] below meth c s₁ [] 0 0 := by rw [hsS]; exact Stand.of_bodySync Bd
  have hZ : Z.Warmed39 sS.vm := by rw [hsS]; exact hZ0
  have hown : sS.vm.findClass "java/io/ByteArrayOutputStream" = some m.cls := by rw [hsS]; exact (findClass_of_methodNamed Bd.named :)
  have M0 : Mon h0 s₁.heap := by rw [← hh, Bd.state]; exact mon_set Bd.object _
  obtain ⟨hS, e0⟩ : ∃ z, s₁.heap = z := ⟨_, rfl⟩
  rw [e0] at M0
  have ZS : n0 ≤ hS.size := by rw [M0.size]; exact Z0
  have N0 := Fr.nil n0
  have pre0 : ∀ t, Steps p.tables e below (s₁.setTop (mkL rb m 0 #[.val (.ref rb), .val (.ref da), .val (.int (0 : Int32)), .val (.int nn)] [])) t → Steps p.tables e below (s₁.setTop (entryFrameSync m #[(.ref rb), (.ref da), (.int (0 : Int32)), (.int nn)] 4 rb)) t := fun t k => castTop (ef_W0 m rb da nn) k
  have F1 := own_B_mon F0 M0
  have V1 := own_Arv_mon M0 V0
  have D1 := own_Arv_mon M0 D0
  have gs : h0.size ≤ hS.size := Nat.le_of_eq M0.size.symm
  have g_0 : own_Fin p e below s (QW0 Z rb da nn bf uu kb us vd kd vs h0 n0) ({ frames := 3, cells := 0, slots := 0, locals := 72 } : Room).cells ({ frames := 3, cells := 0, slots := 0, locals := 72 } : Room).slots (s₁.setTop (mkL rb m 0 #[.val (.ref rb), .val (.ref da), .val (.int (0 : Int32)), .val (.int nn)] [])) := by
    refine own_pre (B := s₁.setTop (mkL rb m 1 #[.val (.ref rb), .val (.ref da), .val (.int (0 : Int32)), .val (.int nn)] [(.int (0 : Int32))])) (fun t k => XS.iloadN X0.here hx rfl (hb hby d5_0) rfl k) ?_
    refine own_pre (B := s₁.setTop (mkL rb m 2 #[.val (.ref rb), .val (.ref da), .val (.int (0 : Int32)), .val (.int nn)] [(.int nn), (.int (0 : Int32))])) (fun t k => XS.iloadN X0.here hx rfl (hb hby d5_1) rfl k) ?_
    refine own_pre (B := s₁.setTop (mkL rb m 3 #[.val (.ref rb), .val (.ref da), .val (.int (0 : Int32)), .val (.int nn)] [(.ref da), (.int nn), (.int (0 : Int32))])) (fun t k => XS.aloadN X0.here hx rfl (hb hby d5_2) rfl rfl k) ?_
    refine own_pre (B := s₁.setTop (mkL rb m 4 #[.val (.ref rb), .val (.ref da), .val (.int (0 : Int32)), .val (.int nn)] [(.int (128 : Int32)), (.int nn), (.int (0 : Int32))])) (own_len X0 hx hZ e0 D1 (g := (mkL rb m 3 #[.val (.ref rb), .val (.ref da), .val (.int (0 : Int32)), .val (.int nn)] [(.ref da), (.int nn), (.int (0 : Int32))])) rfl rfl (hb hby d5_3)) ?_
    obtain ⟨_, _, ⟨T1, L1, k1, n1⟩, -, X1, ⟨Lc1, hQ1, l1, y1, z1⟩, st1⟩ := Jvm.LawKit.callS X0 hx (y := (⟨"java/util/Objects", "checkFromIndexSize", "(III)I"⟩ : MethodName)) hown (mvT hZ (hw _ (List.mem_of_getElem? (i := 31) rfl))) (mvT hZ (hw _ (List.mem_of_getElem? (i := 32) rfl))) (mvT hZ (hw _ (List.mem_of_getElem? (i := 33) rfl))) (mvT hZ (hw _ (List.mem_of_getElem? (i := 34) rfl))) (by decide) (backOf (W := 2) (rm6 l Z a0 hw [] (0 : Int32) nn (128 : Int32) hS n0 ZS (by rw [Int32.lt_iff_toInt_lt]; have o1 := (c_orS (128 ||| 0) nn).1 (by decide) c0; have z0 : (0 : Int32).toInt = 0 := rfl; omega) (by rw [Int32.lt_iff_toInt_lt]; have z0 : ((128 : Int32) - 0).toInt = 128 := rfl; omega)) hZ (hw _ (List.mem_of_getElem? (i := 34) rfl)) (hw _ (List.mem_of_getElem? (i := 33) rfl)) (by decide) (by decide)) (g := (mkL rb m 4 #[.val (.ref rb), .val (.ref da), .val (.int (0 : Int32)), .val (.int nn)] [(.int (128 : Int32)), (.int nn), (.int (0 : Int32))])) rfl (by rw [hml]; rfl) (argsL := [(.int (0 : Int32)), (.int nn), (.int (128 : Int32))]) (rest := []) (lenOf pd5_0 rfl) rfl (by show 2 * 1 + _ ≤ _; exact Nat.le_of_eq rfl) (hb hby d5_4) (fun _ _ => ⟨rfl, e0, (by decide : 0 + 0 ≤ _), (by decide : 0 + 0 ≤ _)⟩)
    dsimp only [Pt.U, Pt.locs, Pt.cells, Pt.slots] at X1 l1 y1 z1 st1 hQ1
    subst l1 y1 z1
    obtain ⟨rfl, Nq1, e1⟩ := hQ1
    have N1 := Fr.app N0 Nq1
    have eh1 : T1.heap = hS := e1
    refine own_pre (B := T1.setTop (mkL rb m 7 #[.val (.ref rb), .val (.ref da), .val (.int (0 : Int32)), .val (.int nn)] [(.int (0 : Int32))])) st1 ?_
    refine own_pre (B := T1.setTop (mkL rb m 8 #[.val (.ref rb), .val (.ref da), .val (.int (0 : Int32)), .val (.int nn)] [])) (fun t k => XS.pop X1.here hx rfl (hb hby d5_7) rfl rfl k) ?_
    refine own_pre (B := T1.setTop (mkL rb m 9 #[.val (.ref rb), .val (.ref da), .val (.int (0 : Int32)), .val (.int nn)] [(.ref rb)])) (fun t k => XS.aloadN X1.here hx rfl (hb hby d5_8) rfl rfl k) ?_
    refine own_pre (B := T1.setTop (mkL rb m 10 #[.val (.ref rb), .val (.ref da), .val (.int (0 : Int32)), .val (.int nn)] [(.ref rb), (.ref rb)])) (fun t k => XS.aloadN X1.here hx rfl (hb hby d5_9) rfl rfl k) ?_
    obtain ⟨T2, X2, e2, st2⟩ := getF X1 hx hZ hown (host := "") (Or.inl (hw _ (List.mem_of_getElem? (i := 39) rfl))) Via.refl eh1 (F1).2.2.1 (g := (mkL rb m 10 #[.val (.ref rb), .val (.ref da), .val (.int (0 : Int32)), .val (.int nn)] [(.ref rb), (.ref rb)])) rfl rfl (hb hby d5_10)
    refine own_pre (B := T2.setTop (mkL rb m 13 #[.val (.ref rb), .val (.ref da), .val (.int (0 : Int32)), .val (.int nn)] [(.int (0 : Int32)), (.ref rb)])) st2 ?_
    refine own_pre (B := T2.setTop (mkL rb m 14 #[.val (.ref rb), .val (.ref da), .val (.int (0 : Int32)), .val (.int nn)] [(.int nn), (.int (0 : Int32)), (.ref rb)])) (fun t k => XS.iloadN X2.here hx rfl (hb hby d5_13) rfl k) ?_
    refine own_pre (B := T2.setTop (mkL rb m 15 #[.val (.ref rb), .val (.ref da), .val (.int (0 : Int32)), .val (.int nn)] [(.int ((0 : Int32) + nn)), (.ref rb)])) (fun t k => XS.iadd X2.here hx rfl (hb hby d5_14) rfl k) ?_
    obtain ⟨cl3, cc3, cd3, ce3⟩ := own_cls hZ e2 (F1).1
    obtain ⟨_, _, ⟨T3, L3, k3, n3⟩, -, X3, ⟨Lc3, hQ3, l3, y3, z3⟩, st3⟩ := Jvm.LawKit.callV X2 hx (C := "com/example/quillon/quillon/storage/LogFormat$RecordBuffer") (y := (⟨"java/io/ByteArrayOutputStream", "ensureCapacity", "(I)V"⟩ : MethodName)) hown (mvT hZ (hw _ (List.mem_of_getElem? (i := 41) rfl))) (mvT hZ (hw _ (List.mem_of_getElem? (i := 42) rfl))) (mvT hZ (hw _ (List.mem_of_getElem? (i := 44) rfl))) (mvT hZ (hw _ (List.mem_of_getElem? (i := 45) rfl))) (by decide) (backOf (W := 2) (rmE0 l Z a0 hw [] rb ((0 : Int32) + nn) bf (0 : Int32) uu kb us vd hS n0 ZS F1 V1 (by rw [Int32.zero_add]; exact own_nlt (by have s1 := c_isub nn us; have r1 := rng32 (nn - us); have z0 : (0 : Int32).toInt = 0 := rfl; omega))) hZ (hw _ (List.mem_of_getElem? (i := 45) rfl)) (hw _ (List.mem_of_getElem? (i := 10) rfl)) (by decide) (by decide)) cc3 cd3 ce3 (g := (mkL rb m 15 #[.val (.ref rb), .val (.ref da), .val (.int (0 : Int32)), .val (.int nn)] [(.int ((0 : Int32) + nn)), (.ref rb)])) rfl (by rw [hml]; rfl) (argsL := [(.int ((0 : Int32) + nn))]) (rest := []) (lenOf pd5_1 rfl) rfl (by show 2 * 1 + _ ≤ _; exact Nat.le_of_eq rfl) (hb hby d5_15) (fun _ _ => ⟨rfl, e2, (by decide : 0 + 0 ≤ _), (by decide : 0 + 0 ≤ _)⟩)
    dsimp only [Pt.U, Pt.locs, Pt.cells, Pt.slots] at X3 l3 y3 z3 st3 hQ3
    subst l3 y3 z3
    obtain ⟨rfl, Nq3, e3⟩ := hQ3
    have N3 := Fr.app N1 Nq3
    have eh3 : T3.heap = hS := e3
    have P3 := V1.pad (pad_rep vd (.int (0 : Int32)) 127)
    refine own_pre (B := T3.setTop (mkL rb m 18 #[.val (.ref rb), .val (.ref da), .val (.int (0 : Int32)), .val (.int nn)] [])) st3 ?_
    refine own_pre (B := T3.setTop (mkL rb m 19 #[.val (.ref rb), .val (.ref da), .val (.int (0 : Int32)), .val (.int nn)] [(.ref da)])) (fun t k => XS.aloadN X3.here hx rfl (hb hby d5_18) rfl rfl k) ?_
    refine own_pre (B := T3.setTop (mkL rb m 20 #[.val (.ref rb), .val (.ref da), .val (.int (0 : Int32)), .val (.int nn)] [(.int (0 : Int32)), (.ref da)])) (fun t k => XS.iloadN X3.here hx rfl (hb hby d5_19) rfl k) ?_
    refine own_pre (B := T3.setTop (mkL rb m 21 #[.val (.ref rb), .val (.ref da), .val (.int (0 : Int32)), .val (.int nn)] [(.ref rb), (.int (0 : Int32)), (.ref da)])) (fun t k => XS.aloadN X3.here hx rfl (hb hby d5_20) rfl rfl k) ?_
    obtain ⟨T4, X4, e4, st4⟩ := getF X3 hx hZ hown (host := "") (Or.inl (hw _ (List.mem_of_getElem? (i := 21) rfl))) Via.refl eh3 (F1).2.1 (g := (mkL rb m 21 #[.val (.ref rb), .val (.ref da), .val (.int (0 : Int32)), .val (.int nn)] [(.ref rb), (.int (0 : Int32)), (.ref da)])) rfl rfl (hb hby d5_21)
    refine own_pre (B := T4.setTop (mkL rb m 24 #[.val (.ref rb), .val (.ref da), .val (.int (0 : Int32)), .val (.int nn)] [(.ref bf), (.int (0 : Int32)), (.ref da)])) st4 ?_
    refine own_pre (B := T4.setTop (mkL rb m 25 #[.val (.ref rb), .val (.ref da), .val (.int (0 : Int32)), .val (.int nn)] [(.ref rb), (.ref bf), (.int (0 : Int32)), (.ref da)])) (fun t k => XS.aloadN X4.here hx rfl (hb hby d5_24) rfl rfl k) ?_
    obtain ⟨T5, X5, e5, st5⟩ := getF X4 hx hZ hown (host := "") (Or.inl (hw _ (List.mem_of_getElem? (i := 39) rfl))) Via.refl e4 (F1).2.2.1 (g := (mkL rb m 25 #[.val (.ref rb), .val (.ref da), .val (.int (0 : Int32)), .val (.int nn)] [(.ref rb), (.ref bf), (.int (0 : Int32)), (.ref da)])) rfl rfl (hb hby d5_25)
    refine own_pre (B := T5.setTop (mkL rb m 28 #[.val (.ref rb), .val (.ref da), .val (.int (0 : Int32)), .val (.int nn)] [(.int (0 : Int32)), (.ref bf), (.int (0 : Int32)), (.ref da)])) st5 ?_
    refine own_pre (B := T5.setTop (mkL rb m 29 #[.val (.ref rb), .val (.ref da), .val (.int (0 : Int32)), .val (.int nn)] [(.int nn), (.int (0 : Int32)), (.ref bf), (.int (0 : Int32)), (.ref da)])) (fun t k => XS.iloadN X5.here hx rfl (hb hby d5_28) rfl k) ?_
    obtain ⟨T6, h6, L6, X6, e6, N6, Kc6, Vc6, st6⟩ := cpA X5 hx hZ hown (hw _ (List.mem_of_getElem? (i := 66) rfl)) (hw _ (List.mem_of_getElem? (i := 65) rfl)) (hw _ (List.mem_of_getElem? (i := 63) rfl)) (hw _ (List.mem_of_getElem? (i := 64) rfl)) e5 D1 P3 (Or.inl ⟨rfl, rfl⟩) (by decide) (by decide) (own_nlt c0) (by show 0 + nn.toNatClampNeg ≤ (128 : Int32).toNatClampNeg; have := own_nat (n := 127) c2; have z8 : (128 : Int32).toNatClampNeg = 128 := rfl; omega) (by show 0 + nn.toNatClampNeg ≤ us.toNatClampNeg; have := own_natle c1; omega) rfl (by show 0 + nn.toNatClampNeg ≤ _; rw [List.length_append, List.length_replicate]; have := own_nat (n := 127) c2; omega) N3 gf (g := (mkL rb m 29 #[.val (.ref rb), .val (.ref da), .val (.int (0 : Int32)), .val (.int nn)] [(.int nn), (.int (0 : Int32)), (.ref bf), (.int (0 : Int32)), (.ref da)])) rfl (by rw [hml]; rfl) rfl (hb hby d5_29) (by decide) (W := 2) (by show 2 * 1 + _ ≤ _; exact Nat.le_of_eq rfl) (by decide)
    have ZH6 : n0 ≤ h6.size := Nat.le_trans ZS Kc6.1
    have F6 := own_B_keep F1 Kc6 (ninS (Ne.symm n2) nin0)
    have SZ6 : h0.size ≤ h6.size := Nat.le_trans gs Kc6.1
    have Kw6 := Keep.refl h6 [rb]
    have D6 := D1.keep Kc6 (ninS n3 nin0)
    refine own_pre (B := T6.setTop (mkL rb m 32 #[.val (.ref rb), .val (.ref da), .val (.int (0 : Int32)), .val (.int nn)] [])) st6 ?_
    refine own_pre (B := T6.setTop (mkL rb m 33 #[.val (.ref rb), .val (.ref da), .val (.int (0 : Int32)), .val (.int nn)] [(.ref rb)])) (fun t k => XS.aloadN X6.here hx rfl (hb hby d5_32) rfl rfl k) ?_
    refine own_pre (B := T6.setTop (mkL rb m 34 #[.val (.ref rb), .val (.ref da), .val (.int (0 : Int32)), .val (.int nn)] [(.ref rb), (.ref rb)])) (fun t k => XS.dup X6.here hx rfl (hb hby d5_33) rfl rfl k) ?_
    obtain ⟨T7, X7, e7, st7⟩ := getF X6 hx hZ hown (host := "") (Or.inl (hw _ (List.mem_of_getElem? (i := 39) rfl))) Via.refl e6 (F6).2.2.1 (g := (mkL rb m 34 #[.val (.ref rb), .val (.ref da), .val (.int (0 : Int32)), .val (.int nn)] [(.ref rb), (.ref rb)])) rfl rfl (hb hby d5_34)
    refine own_pre (B := T7.setTop (mkL rb m 37 #[.val (.ref rb), .val (.ref da), .val (.int (0 : Int32)), .val (.int nn)] [(.int (0 : Int32)), (.ref rb)])) st7 ?_
    refine own_pre (B := T7.setTop (mkL rb m 38 #[.val (.ref rb), .val (.ref da), .val (.int (0 : Int32)), .val (.int nn)] [(.int nn), (.int (0 : Int32)), (.ref rb)])) (fun t k => XS.iloadN X7.here hx rfl (hb hby d5_37) rfl k) ?_
    refine own_pre (B := T7.setTop (mkL rb m 39 #[.val (.ref rb), .val (.ref da), .val (.int (0 : Int32)), .val (.int nn)] [(.int ((0 : Int32) + nn)), (.ref rb)])) (fun t k => XS.iadd X7.here hx rfl (hb hby d5_38) rfl k) ?_
    obtain ⟨T8, h8, X8, e8, W8, st8⟩ := putF X7 hx hZ hown (host := "") (Or.inl (hw _ (List.mem_of_getElem? (i := 39) rfl))) Via.refl e7 (F6).2.2.1 (F6).1 (Or.inl (hw _ (List.mem_of_getElem? (i := 40) rfl))) (hw _ (List.mem_of_getElem? (i := 2) rfl)) (ty := .int) (by decide) rfl rfl (g := (mkL rb m 39 #[.val (.ref rb), .val (.ref da), .val (.int (0 : Int32)), .val (.int nn)] [(.int ((0 : Int32) + nn)), (.ref rb)])) rfl rfl (hb hby d5_39)
    have N8 := Fr.snoc X8 N6 gr
    have ZH8 : n0 ≤ h8.size := by rw [W8.size]; exact ZH6
    have F8 := own_B_cnt hw F6 W8
    have K8 := Keep.wr (ws := [rb]) Kw6 W8 (Or.inl (List.mem_of_getElem? (i := 0) rfl))
    have V8 := Vc6.other W8 n2
    have D8 := D6.other W8 n1
    have SZ8 : h0.size ≤ h8.size := by rw [W8.size]; exact SZ6
    refine own_pre (B := T8.setTop (mkL rb m 42 #[.val (.ref rb), .val (.ref da), .val (.int (0 : Int32)), .val (.int nn)] [])) st8 ?_
    exact own_retSV hsS X8 hx Bd.object Bd.enterable Bd.synchronized Bd.returns (hb hby d5_42) (fun V M F => ⟨rfl, N8, own_unt (by rw [hh]; exact U0) F, by rw [M.size, e8]; exact SZ8, own_B_mon (by rw [e8]; exact F8) M, own_Arv_mon M (by rw [e8]; exact D8), _, fun i hi => own_cp (z := (0 : Int32).toNatClampNeg) rfl hi, own_Arv_mon M (by rw [e8]; exact V8)⟩) (by decide) (by decide)
  exact own_pre pre0 g_0
theorem ef_W1 (m : MethodId) (rb : Addr) (da : Addr) (nn : Int32) : entryFrameSync m #[(.ref rb), (.ref da), (.int (0 : Int32)), (.int nn)] 4 rb = mkL rb m 0 #[.val (.ref rb), .val (.ref da), .val (.int (0 : Int32)), .val (.int nn)] [] := by first | (simp [entryFrameSync, mkL, argsToLocals, Value.category]; done) | rfl
def QW1 (Z : State) (rb : Addr) (da : Addr) (nn : Int32) (bf : Addr) (uu : Int32) (kb : ClassId) (us : Int32) (vd : List Value) (kd : ClassId) (vs : List Value) (h0 : Heap) (n0 : Nat) (v : Option Value) (h : Heap) (L : List Loc) : Prop := v = none ∧ Fr n0 L ∧ Unt h rb ∧ h0.size ≤ h.size ∧ ∃ (b : Addr) (kb' : ClassId) (ws : List Value), h0.size ≤ b ∧ own_B Z h rb (.ref b) ((0 : Int32) + nn) uu ∧ Arv Z h b kb' .byte (own_ln us ((0 : Int32) + nn)) ws (.int 0)
set_option maxRecDepth 65536 in
set_option maxHeartbeats 40000000 in
theorem rmW1 (l : Launch) (Z : State) (a0 : Array Value) (hw : ∀ d ∈ tables_1, d.before a0 Z = true) (rb : Addr) (da : Addr) (nn : Int32) (bf : Addr) (uu : Int32) (kb : ClassId) (us : Int32) (vd : List Value) (kd : ClassId) (vs : List Value) (h0 : Heap) (n0 : Nat) (Z0 : n0 ≤ h0.size) (F0 : own_B Z h0 rb (.ref bf) (0 : Int32) uu) (U0 : Unt h0 rb) (V0 : Arv Z h0 bf kb .byte us vd (.int 0)) (D0 : Arv Z h0 da kd .byte (128 : Int32) vs (.int 0)) (gr : n0 ≤ rb) (gf : n0 ≤ bf) (n1 : da ≠ rb) (n2 : bf ≠ rb) (n3 : da ≠ bf) (u0 : 0 ≤ us.toInt) (u1 : us.toInt ≤ 63) (c0 : 0 ≤ nn.toInt) (c2 : nn.toInt ≤ 127) (c1 : us.toInt < nn.toInt) :
    MetFree l (⟨"java/io/ByteArrayOutputStream", "write", "([BII)V"⟩ : MethodName) (head1 [Jvm.Cond.codeSync (⟨"java/io/ByteArrayOutputStream", "write", "([BII)V"⟩ : MethodName) jdk_2005_method_5_code 4 none, Jvm.Cond.instanceMethod (⟨"java/io/ByteArrayOutputStream", "write", "([BII)V"⟩ : MethodName)] ({ frames := 3, cells := 1, slots := 127, locals := 72 } : Room)) (fun a U => a = #[(.ref rb), (.ref da), (.int (0 : Int32)), (.int nn)] ∧ Z.Warmed39 U.vm ∧ U.heap = h0 ∧ ∃ cell : Cell, h0[rb]? = some cell ∧ cell.enterable U.cur) (fun _ _ _ _ _ => True) (fun _ U o U' => ∃ v L, o = .returned v ∧ QW1 Z rb da nn bf uu kb us vd kd vs h0 n0 v U'.heap L ∧ FrameEnd U o U' L ({ frames := 3, cells := 1, slots := 127, locals := 72 } : Room).cells ({ frames := 3, cells := 1, slots := 127, locals := 72 } : Room).slots) := by
  refine MetFree.of_bodySync (plainFor_of_name pn_5) (hisS (List.mem_cons_self ..)) (fun _ s _ ⟨h1, _, h2, cl, h3, h4⟩ => ⟨rb, cl, by rw [h1]; rfl, by rw [h2]; exact h3, h4⟩) ?_
  intro p e s m args below meth c a' cell s₁ Bd hml0 hP hK
  obtain ⟨rfl, hZ0, hh, -⟩ := hP
  cases Bd.receiver
  have hx := Bd.exec
  have hby := Bd.bytes
  have hml : c.maxLocals = 4 := hml0
  obtain ⟨sS, hsS⟩ : ∃ z, z = s.setCell rb (cell.withEntry s.cur) := ⟨_, rfl⟩
  have X0 : Stand p l e ({ frames := 3, cells := 1, slots := 127, locals := 72 } : Room) sS m #[(.ref rb), (.ref da), (.int (0 : Int32)), (.int nn)] below meth c s₁ [] 0 0 := by rw [hsS]; exact Stand.of_bodySync Bd
  have hZ : Z.Warmed39 sS.vm := by rw [hsS]; exact hZ0
  have hown : sS.vm.findClass "java/io/ByteArrayOutputStream" = some m.cls := by rw [hsS]; exact (findClass_of_methodNamed Bd.named :)
  have M0 : Mon h0 s₁.heap := by rw [← hh, Bd.state]; exact mon_set Bd.object _
  obtain ⟨hS, e0⟩ : ∃ z, s₁.heap = z := ⟨_, rfl⟩
  rw [e0] at M0
  have ZS : n0 ≤ hS.size := by rw [M0.size]; exact Z0
  have N0 := Fr.nil n0
  have pre0 : ∀ t, Steps p.tables e below (s₁.setTop (mkL rb m 0 #[.val (.ref rb), .val (.ref da), .val (.int (0 : Int32)), .val (.int nn)] [])) t → Steps p.tables e below (s₁.setTop (entryFrameSync m #[(.ref rb), (.ref da), (.int (0 : Int32)), (.int nn)] 4 rb)) t := fun t k => castTop (ef_W1 m rb da nn) k
  have F1 := own_B_mon F0 M0
  have V1 := own_Arv_mon M0 V0
  have D1 := own_Arv_mon M0 D0
  have gs : h0.size ≤ hS.size := Nat.le_of_eq M0.size.symm
  have g_0 : own_Fin p e below s (QW1 Z rb da nn bf uu kb us vd kd vs h0 n0) ({ frames := 3, cells := 1, slots := 127, locals := 72 } : Room).cells ({ frames := 3, cells := 1, slots := 127, locals := 72 } : Room).slots (s₁.setTop (mkL rb m 0 #[.val (.ref rb), .val (.ref da), .val (.int (0 : Int32)), .val (.int nn)] [])) := by
    refine own_pre (B := s₁.setTop (mkL rb m 1 #[.val (.ref rb), .val (.ref da), .val (.int (0 : Int32)), .val (.int nn)] [(.int (0 : Int32))])) (fun t k => XS.iloadN X0.here hx rfl (hb hby d5_0) rfl k) ?_
    refine own_pre (B := s₁.setTop (mkL rb m 2 #[.val (.ref rb), .val (.ref da), .val (.int (0 : Int32)), .val (.int nn)] [(.int nn), (.int (0 : Int32))])) (fun t k => XS.iloadN X0.here hx rfl (hb hby d5_1) rfl k) ?_
    refine own_pre (B := s₁.setTop (mkL rb m 3 #[.val (.ref rb), .val (.ref da), .val (.int (0 : Int32)), .val (.int nn)] [(.ref da), (.int nn), (.int (0 : Int32))])) (fun t k => XS.aloadN X0.here hx rfl (hb hby d5_2) rfl rfl k) ?_
    refine own_pre (B := s₁.setTop (mkL rb m 4 #[.val (.ref rb), .val (.ref da), .val (.int (0 : Int32)), .val (.int nn)] [(.int (128 : Int32)), (.int nn), (.int (0 : Int32))])) (own_len X0 hx hZ e0 D1 (g := (mkL rb m 3 #[.val (.ref rb), .val (.ref da), .val (.int (0 : Int32)), .val (.int nn)] [(.ref da), (.int nn), (.int (0 : Int32))])) rfl rfl (hb hby d5_3)) ?_
    obtain ⟨_, _, ⟨T1, L1, k1, n1⟩, -, X1, ⟨Lc1, hQ1, l1, y1, z1⟩, st1⟩ := Jvm.LawKit.callS X0 hx (y := (⟨"java/util/Objects", "checkFromIndexSize", "(III)I"⟩ : MethodName)) hown (mvT hZ (hw _ (List.mem_of_getElem? (i := 31) rfl))) (mvT hZ (hw _ (List.mem_of_getElem? (i := 32) rfl))) (mvT hZ (hw _ (List.mem_of_getElem? (i := 33) rfl))) (mvT hZ (hw _ (List.mem_of_getElem? (i := 34) rfl))) (by decide) (backOf (W := 2) (rm6 l Z a0 hw [] (0 : Int32) nn (128 : Int32) hS n0 ZS (by rw [Int32.lt_iff_toInt_lt]; have o1 := (c_orS (128 ||| 0) nn).1 (by decide) c0; have z0 : (0 : Int32).toInt = 0 := rfl; omega) (by rw [Int32.lt_iff_toInt_lt]; have z0 : ((128 : Int32) - 0).toInt = 128 := rfl; omega)) hZ (hw _ (List.mem_of_getElem? (i := 34) rfl)) (hw _ (List.mem_of_getElem? (i := 33) rfl)) (by decide) (by decide)) (g := (mkL rb m 4 #[.val (.ref rb), .val (.ref da), .val (.int (0 : Int32)), .val (.int nn)] [(.int (128 : Int32)), (.int nn), (.int (0 : Int32))])) rfl (by rw [hml]; rfl) (argsL := [(.int (0 : Int32)), (.int nn), (.int (128 : Int32))]) (rest := []) (lenOf pd5_0 rfl) rfl (by show 2 * 1 + _ ≤ _; exact Nat.le_of_eq rfl) (hb hby d5_4) (fun _ _ => ⟨rfl, e0, (by decide : 0 + 0 ≤ _), (by decide : 0 + 0 ≤ _)⟩)
    dsimp only [Pt.U, Pt.locs, Pt.cells, Pt.slots] at X1 l1 y1 z1 st1 hQ1
    subst l1 y1 z1
    obtain ⟨rfl, Nq1, e1⟩ := hQ1
    have N1 := Fr.app N0 Nq1
    have eh1 : T1.heap = hS := e1
    refine own_pre (B := T1.setTop (mkL rb m 7 #[.val (.ref rb), .val (.ref da), .val (.int (0 : Int32)), .val (.int nn)] [(.int (0 : Int32))])) st1 ?_
    refine own_pre (B := T1.setTop (mkL rb m 8 #[.val (.ref rb), .val (.ref da), .val (.int (0 : Int32)), .val (.int nn)] [])) (fun t k => XS.pop X1.here hx rfl (hb hby d5_7) rfl rfl k) ?_
    refine own_pre (B := T1.setTop (mkL rb m 9 #[.val (.ref rb), .val (.ref da), .val (.int (0 : Int32)), .val (.int nn)] [(.ref rb)])) (fun t k => XS.aloadN X1.here hx rfl (hb hby d5_8) rfl rfl k) ?_
    refine own_pre (B := T1.setTop (mkL rb m 10 #[.val (.ref rb), .val (.ref da), .val (.int (0 : Int32)), .val (.int nn)] [(.ref rb), (.ref rb)])) (fun t k => XS.aloadN X1.here hx rfl (hb hby d5_9) rfl rfl k) ?_
    obtain ⟨T2, X2, e2, st2⟩ := getF X1 hx hZ hown (host := "") (Or.inl (hw _ (List.mem_of_getElem? (i := 39) rfl))) Via.refl eh1 (F1).2.2.1 (g := (mkL rb m 10 #[.val (.ref rb), .val (.ref da), .val (.int (0 : Int32)), .val (.int nn)] [(.ref rb), (.ref rb)])) rfl rfl (hb hby d5_10)
    refine own_pre (B := T2.setTop (mkL rb m 13 #[.val (.ref rb), .val (.ref da), .val (.int (0 : Int32)), .val (.int nn)] [(.int (0 : Int32)), (.ref rb)])) st2 ?_
    refine own_pre (B := T2.setTop (mkL rb m 14 #[.val (.ref rb), .val (.ref da), .val (.int (0 : Int32)), .val (.int nn)] [(.int nn), (.int (0 : Int32)), (.ref rb)])) (fun t k => XS.iloadN X2.here hx rfl (hb hby d5_13) rfl k) ?_
    refine own_pre (B := T2.setTop (mkL rb m 15 #[.val (.ref rb), .val (.ref da), .val (.int (0 : Int32)), .val (.int nn)] [(.int ((0 : Int32) + nn)), (.ref rb)])) (fun t k => XS.iadd X2.here hx rfl (hb hby d5_14) rfl k) ?_
    obtain ⟨cl3, cc3, cd3, ce3⟩ := own_cls hZ e2 (F1).1
    obtain ⟨_, _, ⟨T3, L3, k3, n3⟩, -, X3, ⟨Lc3, hQ3, l3, y3, z3⟩, st3⟩ := Jvm.LawKit.callV X2 hx (C := "com/example/quillon/quillon/storage/LogFormat$RecordBuffer") (y := (⟨"java/io/ByteArrayOutputStream", "ensureCapacity", "(I)V"⟩ : MethodName)) hown (mvT hZ (hw _ (List.mem_of_getElem? (i := 41) rfl))) (mvT hZ (hw _ (List.mem_of_getElem? (i := 42) rfl))) (mvT hZ (hw _ (List.mem_of_getElem? (i := 44) rfl))) (mvT hZ (hw _ (List.mem_of_getElem? (i := 45) rfl))) (by decide) (backOf (W := 2) (rmE1 l Z a0 hw [] rb ((0 : Int32) + nn) bf (0 : Int32) uu kb us vd hS n0 ZS F1 V1 gr u0 u1 (by rw [Int32.zero_add]; exact c1) (by rw [Int32.zero_add]; exact c2)) hZ (hw _ (List.mem_of_getElem? (i := 45) rfl)) (hw _ (List.mem_of_getElem? (i := 10) rfl)) (by decide) (by decide)) cc3 cd3 ce3 (g := (mkL rb m 15 #[.val (.ref rb), .val (.ref da), .val (.int (0 : Int32)), .val (.int nn)] [(.int ((0 : Int32) + nn)), (.ref rb)])) rfl (by rw [hml]; rfl) (argsL := [(.int ((0 : Int32) + nn))]) (rest := []) (lenOf pd5_1 rfl) rfl (by show 2 * 1 + _ ≤ _; exact Nat.le_of_eq rfl) (hb hby d5_15) (fun _ _ => ⟨rfl, e2, (by decide : 0 + 1 ≤ _), (by decide : 0 + 127 ≤ _)⟩)
    dsimp only [Pt.U, Pt.locs, Pt.cells, Pt.slots] at X3 l3 y3 z3 st3 hQ3
    subst l3 y3 z3
    obtain ⟨rfl, Nq3, K3, b3, kc3, ws3, sb3, F3, V3⟩ := hQ3
    have N3 := Fr.app N1 Nq3
    have ZH3 : n0 ≤ T3.heap.size := Nat.le_trans ZS K3.1
    have SZ3 : h0.size ≤ T3.heap.size := Nat.le_trans gs K3.1
    have D3 := D1.keep K3 (ninS n1 nin0)
    have ne3 : b3 ≠ rb := Ne.symm (Nat.ne_of_lt (Nat.lt_of_lt_of_le (F1).1.lt sb3))
    have gb3 : n0 ≤ b3 := Nat.le_trans ZS sb3
    have sy3 : h0.size ≤ b3 := Nat.le_trans gs sb3
    have P3 := V3.pad (pad_rep ws3 (.int (0 : Int32)) 127)
    refine own_pre (B := T3.setTop (mkL rb m 18 #[.val (.ref rb), .val (.ref da), .val (.int (0 : Int32)), .val (.int nn)] [])) st3 ?_
    refine own_pre (B := T3.setTop (mkL rb m 19 #[.val (.ref rb), .val (.ref da), .val (.int (0 : Int32)), .val (.int nn)] [(.ref da)])) (fun t k => XS.aloadN X3.here hx rfl (hb hby d5_18) rfl rfl k) ?_
    refine own_pre (B := T3.setTop (mkL rb m 20 #[.val (.ref rb), .val (.ref da), .val (.int (0 : Int32)), .val (.int nn)] [(.int (0 : Int32)), (.ref da)])) (fun t k => XS.iloadN X3.here hx rfl (hb hby d5_19) rfl k) ?_
    refine own_pre (B := T3.setTop (mkL rb m 21 #[.val (.ref rb), .val (.ref da), .val (.int (0 : Int32)), .val (.int nn)] [(.ref rb), (.int (0 : Int32)), (.ref da)])) (fun t k => XS.aloadN X3.here hx rfl (hb hby d5_20) rfl rfl k) ?_
    obtain ⟨T4, X4, e4, st4⟩ := getF X3 hx hZ hown (host := "") (Or.inl (hw _ (List.mem_of_getElem? (i := 21) rfl))) Via.refl rfl (F3).2.1 (g := (mkL rb m 21 #[.val (.ref rb), .val (.ref da), .val (.int (0 : Int32)), .val (.int nn)] [(.ref rb), (.int (0 : Int32)), (.ref da)])) rfl rfl (hb hby d5_21)
    refine own_pre (B := T4.setTop (mkL rb m 24 #[.val (.ref rb), .val (.ref da), .val (.int (0 : Int32)), .val (.int nn)] [(.ref b3), (.int (0 : Int32)), (.ref da)])) st4 ?_
    refine own_pre (B := T4.setTop (mkL rb m 25 #[.val (.ref rb), .val (.ref da), .val (.int (0 : Int32)), .val (.int nn)] [(.ref rb), (.ref b3), (.int (0 : Int32)), (.ref da)])) (fun t k => XS.aloadN X4.here hx rfl (hb hby d5_24) rfl rfl k) ?_
    obtain ⟨T5, X5, e5, st5⟩ := getF X4 hx hZ hown (host := "") (Or.inl (hw _ (List.mem_of_getElem? (i := 39) rfl))) Via.refl e4 (F3).2.2.1 (g := (mkL rb m 25 #[.val (.ref rb), .val (.ref da), .val (.int (0 : Int32)), .val (.int nn)] [(.ref rb), (.ref b3), (.int (0 : Int32)), (.ref da)])) rfl rfl (hb hby d5_25)
    refine own_pre (B := T5.setTop (mkL rb m 28 #[.val (.ref rb), .val (.ref da), .val (.int (0 : Int32)), .val (.int nn)] [(.int (0 : Int32)), (.ref b3), (.int (0 : Int32)), (.ref da)])) st5 ?_
    refine own_pre (B := T5.setTop (mkL rb m 29 #[.val (.ref rb), .val (.ref da), .val (.int (0 : Int32)), .val (.int nn)] [(.int nn), (.int (0 : Int32)), (.ref b3), (.int (0 : Int32)), (.ref da)])) (fun t k => XS.iloadN X5.here hx rfl (hb hby d5_28) rfl k) ?_
    obtain ⟨T6, h6, L6, X6, e6, N6, Kc6, Vc6, st6⟩ := cpA X5 hx hZ hown (hw _ (List.mem_of_getElem? (i := 66) rfl)) (hw _ (List.mem_of_getElem? (i := 65) rfl)) (hw _ (List.mem_of_getElem? (i := 63) rfl)) (hw _ (List.mem_of_getElem? (i := 64) rfl)) e5 D3 P3 (Or.inl ⟨rfl, rfl⟩) (by decide) (by decide) (own_nlt c0) (by show 0 + nn.toNatClampNeg ≤ (128 : Int32).toNatClampNeg; have := own_nat (n := 127) c2; have z8 : (128 : Int32).toNatClampNeg = 128 := rfl; omega) (by show 0 + nn.toNatClampNeg ≤ (own_ln us ((0 : Int32) + nn)).toNatClampNeg; have := own_natle (x := nn) (by have q := (own_ln_ok u0 u1 (by rw [Int32.zero_add]; exact c1 : us.toInt < (((0 : Int32) + nn)).toInt) (by rw [Int32.zero_add]; exact c2)).2.1; rw [Int32.zero_add] at q; rw [Int32.zero_add]; exact q : nn.toInt ≤ (own_ln us ((0 : Int32) + nn)).toInt); omega) rfl (by show 0 + nn.toNatClampNeg ≤ _; rw [List.length_append, List.length_replicate]; have := own_nat (n := 127) c2; omega) N3 gb3 (g := (mkL rb m 29 #[.val (.ref rb), .val (.ref da), .val (.int (0 : Int32)), .val (.int nn)] [(.int nn), (.int (0 : Int32)), (.ref b3), (.int (0 : Int32)), (.ref da)])) rfl (by rw [hml]; rfl) rfl (hb hby d5_29) (by decide) (W := 2) (by show 2 * 1 + _ ≤ _; exact Nat.le_of_eq rfl) (by decide)
    have ZH6 : n0 ≤ h6.size := Nat.le_trans ZH3 Kc6.1
    have F6 := own_B_keep F3 Kc6 (ninS (Ne.symm ne3) nin0)
    have SZ6 : h0.size ≤ h6.size := Nat.le_trans SZ3 Kc6.1
    have Kw6 := Keep.refl h6 [rb]
    refine own_pre (B := T6.setTop (mkL rb m 32 #[.val (.ref rb), .val (.ref da), .val (.int (0 : Int32)), .val (.int nn)] [])) st6 ?_
    refine own_pre (B := T6.setTop (mkL rb m 33 #[.val (.ref rb), .val (.ref da), .val (.int (0 : Int32)), .val (.int nn)] [(.ref rb)])) (fun t k => XS.aloadN X6.here hx rfl (hb hby d5_32) rfl rfl k) ?_
    refine own_pre (B := T6.setTop (mkL rb m 34 #[.val (.ref rb), .val (.ref da), .val (.int (0 : Int32)), .val (.int nn)] [(.ref rb), (.ref rb)])) (fun t k => XS.dup X6.here hx rfl (hb hby d5_33) rfl rfl k) ?_
    obtain ⟨T7, X7, e7, st7⟩ := getF X6 hx hZ hown (host := "") (Or.inl (hw _ (List.mem_of_getElem? (i := 39) rfl))) Via.refl e6 (F6).2.2.1 (g := (mkL rb m 34 #[.val (.ref rb), .val (.ref da), .val (.int (0 : Int32)), .val (.int nn)] [(.ref rb), (.ref rb)])) rfl rfl (hb hby d5_34)
    refine own_pre (B := T7.setTop (mkL rb m 37 #[.val (.ref rb), .val (.ref da), .val (.int (0 : Int32)), .val (.int nn)] [(.int (0 : Int32)), (.ref rb)])) st7 ?_
    refine own_pre (B := T7.setTop (mkL rb m 38 #[.val (.ref rb), .val (.ref da), .val (.int (0 : Int32)), .val (.int nn)] [(.int nn), (.int (0 : Int32)), (.ref rb)])) (fun t k => XS.iloadN X7.here hx rfl (hb hby d5_37) rfl k) ?_
    refine own_pre (B := T7.setTop (mkL rb m 39 #[.val (.ref rb), .val (.ref da), .val (.int (0 : Int32)), .val (.int nn)] [(.int ((0 : Int32) + nn)), (.ref rb)])) (fun t k => XS.iadd X7.here hx rfl (hb hby d5_38) rfl k) ?_
    obtain ⟨T8, h8, X8, e8, W8, st8⟩ := putF X7 hx hZ hown (host := "") (Or.inl (hw _ (List.mem_of_getElem? (i := 39) rfl))) Via.refl e7 (F6).2.2.1 (F6).1 (Or.inl (hw _ (List.mem_of_getElem? (i := 40) rfl))) (hw _ (List.mem_of_getElem? (i := 2) rfl)) (ty := .int) (by decide) rfl rfl (g := (mkL rb m 39 #[.val (.ref rb), .val (.ref da), .val (.int (0 : Int32)), .val (.int nn)] [(.int ((0 : Int32) + nn)), (.ref rb)])) rfl rfl (hb hby d5_39)
    have N8 := Fr.snoc X8 N6 gr
    have ZH8 : n0 ≤ h8.size := by rw [W8.size]; exact ZH6
    have F8 := own_B_cnt hw F6 W8
    have K8 := Keep.wr (ws := [rb]) Kw6 W8 (Or.inl (List.mem_of_getElem? (i := 0) rfl))
    have V8 := Vc6.other W8 ne3
    have SZ8 : h0.size ≤ h8.size := by rw [W8.size]; exact SZ6
    refine own_pre (B := T8.setTop (mkL rb m 42 #[.val (.ref rb), .val (.ref da), .val (.int (0 : Int32)), .val (.int nn)] [])) st8 ?_
    exact own_retSV hsS X8 hx Bd.object Bd.enterable Bd.synchronized Bd.returns (hb hby d5_42) (fun V M F => ⟨rfl, N8, own_unt (by rw [hh]; exact U0) F, by rw [M.size, e8]; exact SZ8, b3, kc3, _, sy3, own_B_mon (by rw [e8]; exact F8) M, own_Arv_mon M (by rw [e8]; exact V8)⟩) (by decide) (by decide)
  exact own_pre pre0 g_0
theorem d15_0 : decode jdk_2005_method_10_code 0 = .ok (.aload_n 0, 1) := by decide +kernel
theorem d15_1 : decode jdk_2005_method_10_code 1 = .ok (.getfield 49, 3) := by decide +kernel
theorem d15_4 : decode jdk_2005_method_10_code 4 = .ok (.ireturn, 1) := by decide +kernel
theorem pn_15 : plainName "java/io/ByteArrayOutputStream" = true := by first | (simp [plainName, overriddenIn]; done) | decide +kernel
theorem ef_Sz (m : MethodId) (rb : Addr) : entryFrameSync m #[(.ref rb)] 1 rb = mkL rb m 0 #[.val (.ref rb)] [] := by first | (simp [entryFrameSync, mkL, argsToLocals, Value.category]; done) | rfl
def QSz (Z : State) (rb : Addr) (vb : Value) (cn : Int32) (uu : Int32) (h0 : Heap) (n0 : Nat) (v : Option Value) (h : Heap) (L : List Loc) : Prop := v = some (.int cn) ∧ Fr n0 L ∧ h = h0
set_option maxRecDepth 65536 in
set_option maxHeartbeats 40000000 in
theorem rmSz (l : Launch) (Z : State) (a0 : Array Value) (hw : ∀ d ∈ tables_1, d.before a0 Z = true) (rb : Addr) (vb : Value) (cn : Int32) (uu : Int32) (h0 : Heap) (n0 : Nat) (Z0 : n0 ≤ h0.size) (F0 : own_B Z h0 rb vb cn uu) :
    MetFree l (⟨"java/io/ByteArrayOutputStream", "size", "()I"⟩ : MethodName) (head1 [Jvm.Cond.codeSync (⟨"java/io/ByteArrayOutputStream", "size", "()I"⟩ : MethodName) jdk_2005_method_10_code 1 (some .int), Jvm.Cond.instanceMethod (⟨"java/io/ByteArrayOutputStream", "size", "()I"⟩ : MethodName)] ({ frames := 0, cells := 0, slots := 0, locals := 0 } : Room)) (fun a U => a = #[(.ref rb)] ∧ Z.Warmed39 U.vm ∧ U.heap = h0 ∧ ∃ cell : Cell, h0[rb]? = some cell ∧ cell.enterable U.cur) (fun _ _ _ _ _ => True) (fun _ U o U' => ∃ v L, o = .returned v ∧ QSz Z rb vb cn uu h0 n0 v U'.heap L ∧ FrameEnd U o U' L ({ frames := 0, cells := 0, slots := 0, locals := 0 } : Room).cells ({ frames := 0, cells := 0, slots := 0, locals := 0 } : Room).slots) := by
  refine MetFree.of_bodySync (plainFor_of_name pn_15) (hisS (List.mem_cons_self ..)) (fun _ s _ ⟨h1, _, h2, cl, h3, h4⟩ => ⟨rb, cl, by rw [h1]; rfl, by rw [h2]; exact h3, h4⟩) ?_
  intro p e s m args below meth c a' cell s₁ Bd hml0 hP hK
  obtain ⟨rfl, hZ0, hh, -⟩ := hP
  cases Bd.receiver
  have hx := Bd.exec
  have hby := Bd.bytes
  have hml : c.maxLocals = 1 := hml0
  obtain ⟨sS, hsS⟩ : ∃ z, z = s.setCell rb (cell.withEntry s.cur) := ⟨_, rfl⟩
  have X0 : Stand p l e ({ frames := 0, cells := 0, slots := 0, locals := 0 } : Room) sS m #[(.ref rb)] below meth c s₁ [] 0 0 := by rw [hsS]; exact Stand.of_bodySync Bd
  have hZ : Z.Warmed39 sS.vm := by rw [hsS]; exact hZ0
  have hown : sS.vm.findClass "java/io/ByteArrayOutputStream" = some m.cls := by rw [hsS]; exact (findClass_of_methodNamed Bd.named :)
  have M0 : Mon h0 s₁.heap := by rw [← hh, Bd.state]; exact mon_set Bd.object _
  obtain ⟨hS, e0⟩ : ∃ z, s₁.heap = z := ⟨_, rfl⟩
  rw [e0] at M0
  have ZS : n0 ≤ hS.size := by rw [M0.size]; exact Z0
  have N0 := Fr.nil n0
  have pre0 : ∀ t, Steps p.tables e below (s₁.setTop (mkL rb m 0 #[.val (.ref rb)] [])) t → Steps p.tables e below (s₁.setTop (entryFrameSync m #[(.ref rb)] 1 rb)) t := fun t k => castTop (ef_Sz m rb) k
  have F1 := own_B_mon F0 M0
  have g_0 : own_Fin p e below s (QSz Z rb vb cn uu h0 n0) ({ frames := 0, cells := 0, slots := 0, locals := 0 } : Room).cells ({ frames := 0, cells := 0, slots := 0, locals := 0 } : Room).slots (s₁.setTop (mkL rb m 0 #[.val (.ref rb)] [])) := by
    refine own_pre (B := s₁.setTop (mkL rb m 1 #[.val (.ref rb)] [(.ref rb)])) (fun t k => XS.aloadN X0.here hx rfl (hb hby d15_0) rfl rfl k) ?_
    obtain ⟨T1, X1, e1, st1⟩ := getF X0 hx hZ hown (host := "") (Or.inl (hw _ (List.mem_of_getElem? (i := 39) rfl))) Via.refl e0 (F1).2.2.1 (g := (mkL rb m 1 #[.val (.ref rb)] [(.ref rb)])) rfl rfl (hb hby d15_1)
    refine own_pre (B := T1.setTop (mkL rb m 4 #[.val (.ref rb)] [(.int cn)])) st1 ?_
    exact own_retSI hsS X1 hx Bd.object Bd.enterable Bd.synchronized Bd.returns (hb hby d15_4) (fun V M F => ⟨rfl, N0, (heap_of_end F).trans hh⟩) (by decide) (by decide)
  exact own_pre pre0 g_0
theorem d13_0 : decode prog_272_method_4_code 0 = .ok (.aload_n 0, 1) := by decide +kernel
theorem d13_1 : decode prog_272_method_4_code 1 = .ok (.getfield 15, 3) := by decide +kernel
theorem d13_4 : decode prog_272_method_4_code 4 = .ok (.areturn, 1) := by decide +kernel
theorem pn_13 : plainName "com/example/quillon/quillon/storage/LogFormat$RecordBuffer" = true := by first | (simp [plainName, overriddenIn]; done) | decide +kernel
theorem ef_13 (m : MethodId) (rb : Addr) : entryFrame m #[(.ref rb)] 1 = mkF m 0 #[.val (.ref rb)] [] := by first | (simp [entryFrame, mkF, argsToLocals, Value.category]; done) | rfl
def Q13 (Z : State) (rb : Addr) (bf : Addr) (cn : Int32) (uu : Int32) (h0 : Heap) (n0 : Nat) (v : Option Value) (h : Heap) (L : List Loc) : Prop := v = some (.ref bf) ∧ Fr n0 L ∧ h = h0
set_option maxRecDepth 65536 in
set_option maxHeartbeats 40000000 in
theorem rm13 (l : Launch) (Z : State) (a0 : Array Value) (hw : ∀ d ∈ tables_1, d.before a0 Z = true) (ws : List Jvm.Cond) (rb : Addr) (bf : Addr) (cn : Int32) (uu : Int32) (h0 : Heap) (n0 : Nat) (Z0 : n0 ≤ h0.size) (F0 : own_B Z h0 rb (.ref bf) cn uu) :
    MetFree l (⟨"com/example/quillon/quillon/storage/LogFormat$RecordBuffer", "bytes", "()[B"⟩ : MethodName) (head1 (Jvm.Cond.code (⟨"com/example/quillon/quillon/storage/LogFormat$RecordBuffer", "bytes", "()[B"⟩ : MethodName) prog_272_method_4_code 1 (some (.array .byte)) :: ws) ({ frames := 0, cells := 0, slots := 0, locals := 0 } : Room)) (fun a U => a = #[(.ref rb)] ∧ Z.Warmed39 U.vm ∧ U.heap = h0) (fun _ _ _ _ _ => True) (fun _ U o U' => ∃ v L, o = .returned v ∧ Q13 Z rb bf cn uu h0 n0 v U'.heap L ∧ FrameEnd U o U' L ({ frames := 0, cells := 0, slots := 0, locals := 0 } : Room).cells ({ frames := 0, cells := 0, slots := 0, locals := 0 } : Room).slots) := by
  refine MetFree.of_bodySF (plainFor_of_name pn_13) hisR ?_
  intro p e s m args below meth c s₁ Bd hml0 hP hK
  obtain ⟨rfl, hZ, hh⟩ := hP
  have hx := Bd.exec
  have hby := Bd.bytes
  have hml : c.maxLocals = 1 := hml0
  have hlk : meth.locks = false := BodyLoose.notSynchronized Bd
  have hown : s.vm.findClass "com/example/quillon/quillon/storage/LogFormat$RecordBuffer" = some m.cls := findClass_of_methodNamed Bd.named
  have hnm := (name_of_methodNamed Bd.named Bd.method).1
  have X0 : Stand p l e ({ frames := 0, cells := 0, slots := 0, locals := 0 } : Room) s m #[(.ref rb)] below meth c s₁ [] 0 0 := Stand.of_body Bd
  have e0 : s₁.heap = h0 := by rw [← hh, Bd.state]; rfl
  have N0 := Fr.nil n0
  have pre0 : ∀ t, Steps p.tables e below (s₁.setTop (mkF m 0 #[.val (.ref rb)] [])) t → Steps p.tables e below (s₁.setTop (entryFrame m #[(.ref rb)] 1)) t := fun t k => castTop (ef_13 m rb) k
  have g_0 : own_Fin p e below s (Q13 Z rb bf cn uu h0 n0) ({ frames := 0, cells := 0, slots := 0, locals := 0 } : Room).cells ({ frames := 0, cells := 0, slots := 0, locals := 0 } : Room).slots (s₁.setTop (mkF m 0 #[.val (.ref rb)] [])) := by
    refine own_pre (B := s₁.setTop (mkF m 1 #[.val (.ref rb)] [(.ref rb)])) (fun t k => XS.aloadN X0.here hx rfl (hb hby d13_0) rfl rfl k) ?_
    obtain ⟨T1, X1, e1, st1⟩ := getF X0 hx hZ hown (host := "") (Or.inl (hw _ (List.mem_of_getElem? (i := 72) rfl))) (Via.of (hw _ (List.mem_of_getElem? (i := 73) rfl))) e0 (F0).2.1 (g := (mkF m 1 #[.val (.ref rb)] [(.ref rb)])) rfl rfl (hb hby d13_1)
    refine own_pre (B := T1.setTop (mkF m 4 #[.val (.ref rb)] [(.ref bf)])) st1 ?_
    exact own_retR X1 hx hlk Bd.returns (hb hby d13_4) (by rfl) (by rfl) (own_at e1 ⟨rfl, N0, rfl⟩) (by decide) (by decide)
  exact own_pre pre0 g_0
theorem d14_0 : decode prog_272_method_2_code 0 = .ok (.aload_n 0, 1) := by decide +kernel
theorem d14_1 : decode prog_272_method_2_code 1 = .ok (.getfield 15, 3) := by decide +kernel
theorem d14_4 : decode prog_272_method_2_code 4 = .ok (.arraylength, 1) := by decide +kernel
theorem d14_5 : decode prog_272_method_2_code 5 = .ok (.aload_n 0, 1) := by decide +kernel
theorem d14_6 : decode prog_272_method_2_code 6 = .ok (.getfield 9, 3) := by decide +kernel
theorem d14_9 : decode prog_272_method_2_code 9 = .ok (.if_icmp .le 18, 3) := by decide +kernel
theorem d14_27 : decode prog_272_method_2_code 27 = .ok (.return_, 1) := by decide +kernel
theorem pn_14 : plainName "com/example/quillon/quillon/storage/LogFormat$RecordBuffer" = true := by first | (simp [plainName, overriddenIn]; done) | decide +kernel
theorem ef_S0 (m : MethodId) (rb : Addr) : entryFrame m #[(.ref rb)] 1 = mkF m 0 #[.val (.ref rb)] [] := by first | (simp [entryFrame, mkF, argsToLocals, Value.category]; done) | rfl
def QS0 (Z : State) (rb : Addr) (bf : Addr) (cn : Int32) (uu : Int32) (kb : ClassId) (ln : Int32) (vd : List Value) (h0 : Heap) (n0 : Nat) (v : Option Value) (h : Heap) (L : List Loc) : Prop := v = none ∧ Fr n0 L ∧ h = h0
set_option maxRecDepth 65536 in
set_option maxHeartbeats 40000000 in
theorem rmS0 (l : Launch) (Z : State) (a0 : Array Value) (hw : ∀ d ∈ tables_1, d.before a0 Z = true) (ws : List Jvm.Cond) (rb : Addr) (bf : Addr) (cn : Int32) (uu : Int32) (kb : ClassId) (ln : Int32) (vd : List Value) (h0 : Heap) (n0 : Nat) (Z0 : n0 ≤ h0.size) (F0 : own_B Z h0 rb (.ref bf) cn uu) (V0 : Arv Z h0 bf kb .byte ln vd (.int 0)) (c1 : ¬ uu < ln) :
    MetFree l (⟨"com/example/quillon/quillon/storage/LogFormat$RecordBuffer", "shrink", "()V"⟩ : MethodName) (head1 (Jvm.Cond.code (⟨"com/example/quillon/quillon/storage/LogFormat$RecordBuffer", "shrink", "()V"⟩ : MethodName) prog_272_method_2_code 1 none :: ws) ({ frames := 0, cells := 0, slots := 0, locals := 0 } : Room)) (fun a U => a = #[(.ref rb)] ∧ Z.Warmed39 U.vm ∧ U.heap = h0) (fun _ _ _ _ _ => True) (fun _ U o U' => ∃ v L, o = .returned v ∧ QS0 Z rb bf cn uu kb ln vd h0 n0 v U'.heap L ∧ FrameEnd U o U' L ({ frames := 0, cells := 0, slots := 0, locals := 0 } : Room).cells ({ frames := 0, cells := 0, slots := 0, locals := 0 } : Room).slots) := by
  refine MetFree.of_bodySF (plainFor_of_name pn_14) hisR ?_
  intro p e s m args below meth c s₁ Bd hml0 hP hK
  obtain ⟨rfl, hZ, hh⟩ := hP
  have hx := Bd.exec
  have hby := Bd.bytes
  have hml : c.maxLocals = 1 := hml0
  have hlk : meth.locks = false := BodyLoose.notSynchronized Bd
  have hown : s.vm.findClass "com/example/quillon/quillon/storage/LogFormat$RecordBuffer" = some m.cls := findClass_of_methodNamed Bd.named
  have hnm := (name_of_methodNamed Bd.named Bd.method).1
  have X0 : Stand p l e ({ frames := 0, cells := 0, slots := 0, locals := 0 } : Room) s m #[(.ref rb)] below meth c s₁ [] 0 0 := Stand.of_body Bd
  have e0 : s₁.heap = h0 := by rw [← hh, Bd.state]; rfl
  have N0 := Fr.nil n0
  have pre0 : ∀ t, Steps p.tables e below (s₁.setTop (mkF m 0 #[.val (.ref rb)] [])) t → Steps p.tables e below (s₁.setTop (entryFrame m #[(.ref rb)] 1)) t := fun t k => castTop (ef_S0 m rb) k
  have g_0 : own_Fin p e below s (QS0 Z rb bf cn uu kb ln vd h0 n0) ({ frames := 0, cells := 0, slots := 0, locals := 0 } : Room).cells ({ frames := 0, cells := 0, slots := 0, locals := 0 } : Room).slots (s₁.setTop (mkF m 0 #[.val (.ref rb)] [])) := by
    refine own_pre (B := s₁.setTop (mkF m 1 #[.val (.ref rb)] [(.ref rb)])) (fun t k => XS.aloadN X0.here hx rfl (hb hby d14_0) rfl rfl k) ?_
    obtain ⟨T1, X1, e1, st1⟩ := getF X0 hx hZ hown (host := "") (Or.inl (hw _ (List.mem_of_getElem? (i := 72) rfl))) (Via.of (hw _ (List.mem_of_getElem? (i := 73) rfl))) e0 (F0).2.1 (g := (mkF m 1 #[.val (.ref rb)] [(.ref rb)])) rfl rfl (hb hby d14_1)
    refine own_pre (B := T1.setTop (mkF m 4 #[.val (.ref rb)] [(.ref bf)])) st1 ?_
    refine own_pre (B := T1.setTop (mkF m 5 #[.val (.ref rb)] [(.int ln)])) (own_len X1 hx hZ e1 V0 (g := (mkF m 4 #[.val (.ref rb)] [(.ref bf)])) rfl rfl (hb hby d14_4)) ?_
    refine own_pre (B := T1.setTop (mkF m 6 #[.val (.ref rb)] [(.ref rb), (.int ln)])) (fun t k => XS.aloadN X1.here hx rfl (hb hby d14_5) rfl rfl k) ?_
    obtain ⟨T2, X2, e2, st2⟩ := getF X1 hx hZ hown (host := "") (Or.inl (hw _ (List.mem_of_getElem? (i := 23) rfl))) Via.refl e1 (F0).2.2.2 (g := (mkF m 6 #[.val (.ref rb)] [(.ref rb), (.int ln)])) rfl rfl (hb hby d14_6)
    refine own_pre (B := T2.setTop (mkF m 9 #[.val (.ref rb)] [(.int uu), (.int ln)])) st2 ?_
    refine own_pre (B := T2.setTop (mkF m 27 #[.val (.ref rb)] [])) (fun t k => XS.icmpYes X2.here hx rfl (pc0 := 9) (pc' := 27) rfl (hb hby d14_9) rfl (flt (c1 : ¬ (uu < ln))).2.2.2 (by decide) (by decide) k) ?_
    exact own_retV X2 hx hlk Bd.returns (hb hby d14_27) (own_at e2 ⟨rfl, N0, rfl⟩) (by decide) (by decide)
  exact own_pre pre0 g_0
theorem d14_12 : decode prog_272_method_2_code 12 = .ok (.aload_n 0, 1) := by decide +kernel
theorem d14_13 : decode prog_272_method_2_code 13 = .ok (.aload_n 0, 1) := by decide +kernel
theorem d14_14 : decode prog_272_method_2_code 14 = .ok (.getfield 9, 3) := by decide +kernel
theorem d14_17 : decode prog_272_method_2_code 17 = .ok (.newarray .byte, 2) := by decide +kernel
theorem d14_19 : decode prog_272_method_2_code 19 = .ok (.putfield 15, 3) := by decide +kernel
theorem d14_22 : decode prog_272_method_2_code 22 = .ok (.aload_n 0, 1) := by decide +kernel
theorem d14_23 : decode prog_272_method_2_code 23 = .ok (.iconst 0, 1) := by decide +kernel
theorem d14_24 : decode prog_272_method_2_code 24 = .ok (.putfield 19, 3) := by decide +kernel
theorem ef_S1 (m : MethodId) (rb : Addr) : entryFrame m #[(.ref rb)] 1 = mkF m 0 #[.val (.ref rb)] [] := by first | (simp [entryFrame, mkF, argsToLocals, Value.category]; done) | rfl
def QS1 (Z : State) (rb : Addr) (bf : Addr) (cn : Int32) (uu : Int32) (kb : ClassId) (ln : Int32) (vd : List Value) (h0 : Heap) (n0 : Nat) (v : Option Value) (h : Heap) (L : List Loc) : Prop := v = none ∧ Fr n0 L ∧ Keep h0 h [rb] ∧ Unt h rb ∧ ∃ (b : Addr) (kb : ClassId), h0.size ≤ b ∧ own_B Z h rb (.ref b) 0 uu ∧ Arv Z h b kb .byte uu [] (.int 0)
set_option maxRecDepth 65536 in
set_option maxHeartbeats 40000000 in
theorem rmS1 (l : Launch) (Z : State) (a0 : Array Value) (hw : ∀ d ∈ tables_1, d.before a0 Z = true) (ws : List Jvm.Cond) (rb : Addr) (bf : Addr) (cn : Int32) (uu : Int32) (kb : ClassId) (ln : Int32) (vd : List Value) (h0 : Heap) (n0 : Nat) (Z0 : n0 ≤ h0.size) (F0 : own_B Z h0 rb (.ref bf) cn uu) (V0 : Arv Z h0 bf kb .byte ln vd (.int 0)) (U0 : Unt h0 rb) (gr : n0 ≤ rb) (u0 : 0 ≤ uu.toInt) (u1 : uu.toInt ≤ 63) (c1 : uu < ln) :
    MetFree l (⟨"com/example/quillon/quillon/storage/LogFormat$RecordBuffer", "shrink", "()V"⟩ : MethodName) (head1 (Jvm.Cond.code (⟨"com/example/quillon/quillon/storage/LogFormat$RecordBuffer", "shrink", "()V"⟩ : MethodName) prog_272_method_2_code 1 none :: ws) ({ frames := 0, cells := 1, slots := 63, locals := 0 } : Room)) (fun a U => a = #[(.ref rb)] ∧ Z.Warmed39 U.vm ∧ U.heap = h0) (fun _ _ _ _ _ => True) (fun _ U o U' => ∃ v L, o = .returned v ∧ QS1 Z rb bf cn uu kb ln vd h0 n0 v U'.heap L ∧ FrameEnd U o U' L ({ frames := 0, cells := 1, slots := 63, locals := 0 } : Room).cells ({ frames := 0, cells := 1, slots := 63, locals := 0 } : Room).slots) := by
  refine MetFree.of_bodySF (plainFor_of_name pn_14) hisR ?_
  intro p e s m args below meth c s₁ Bd hml0 hP hK
  obtain ⟨rfl, hZ, hh⟩ := hP
  have hx := Bd.exec
  have hby := Bd.bytes
  have hml : c.maxLocals = 1 := hml0
  have hlk : meth.locks = false := BodyLoose.notSynchronized Bd
  have hown : s.vm.findClass "com/example/quillon/quillon/storage/LogFormat$RecordBuffer" = some m.cls := findClass_of_methodNamed Bd.named
  have hnm := (name_of_methodNamed Bd.named Bd.method).1
  have X0 : Stand p l e ({ frames := 0, cells := 1, slots := 63, locals := 0 } : Room) s m #[(.ref rb)] below meth c s₁ [] 0 0 := Stand.of_body Bd
  have e0 : s₁.heap = h0 := by rw [← hh, Bd.state]; rfl
  have N0 := Fr.nil n0
  have pre0 : ∀ t, Steps p.tables e below (s₁.setTop (mkF m 0 #[.val (.ref rb)] [])) t → Steps p.tables e below (s₁.setTop (entryFrame m #[(.ref rb)] 1)) t := fun t k => castTop (ef_S1 m rb) k
  have g_0 : own_Fin p e below s (QS1 Z rb bf cn uu kb ln vd h0 n0) ({ frames := 0, cells := 1, slots := 63, locals := 0 } : Room).cells ({ frames := 0, cells := 1, slots := 63, locals := 0 } : Room).slots (s₁.setTop (mkF m 0 #[.val (.ref rb)] [])) := by
    refine own_pre (B := s₁.setTop (mkF m 1 #[.val (.ref rb)] [(.ref rb)])) (fun t k => XS.aloadN X0.here hx rfl (hb hby d14_0) rfl rfl k) ?_
    obtain ⟨T1, X1, e1, st1⟩ := getF X0 hx hZ hown (host := "") (Or.inl (hw _ (List.mem_of_getElem? (i := 72) rfl))) (Via.of (hw _ (List.mem_of_getElem? (i := 73) rfl))) e0 (F0).2.1 (g := (mkF m 1 #[.val (.ref rb)] [(.ref rb)])) rfl rfl (hb hby d14_1)
    refine own_pre (B := T1.setTop (mkF m 4 #[.val (.ref rb)] [(.ref bf)])) st1 ?_
    refine own_pre (B := T1.setTop (mkF m 5 #[.val (.ref rb)] [(.int ln)])) (own_len X1 hx hZ e1 V0 (g := (mkF m 4 #[.val (.ref rb)] [(.ref bf)])) rfl rfl (hb hby d14_4)) ?_
    refine own_pre (B := T1.setTop (mkF m 6 #[.val (.ref rb)] [(.ref rb), (.int ln)])) (fun t k => XS.aloadN X1.here hx rfl (hb hby d14_5) rfl rfl k) ?_
    obtain ⟨T2, X2, e2, st2⟩ := getF X1 hx hZ hown (host := "") (Or.inl (hw _ (List.mem_of_getElem? (i := 23) rfl))) Via.refl e1 (F0).2.2.2 (g := (mkF m 6 #[.val (.ref rb)] [(.ref rb), (.int ln)])) rfl rfl (hb hby d14_6)
    refine own_pre (B := T2.setTop (mkF m 9 #[.val (.ref rb)] [(.int uu), (.int ln)])) st2 ?_
    refine own_pre (B := T2.setTop (mkF m 12 #[.val (.ref rb)] [])) (fun t k => XS.icmpNo X2.here hx rfl (hb hby d14_9) rfl (tlt (c1 : uu < ln)).2.2.2 k) ?_
    refine own_pre (B := T2.setTop (mkF m 13 #[.val (.ref rb)] [(.ref rb)])) (fun t k => XS.aloadN X2.here hx rfl (hb hby d14_12) rfl rfl k) ?_
    refine own_pre (B := T2.setTop (mkF m 14 #[.val (.ref rb)] [(.ref rb), (.ref rb)])) (fun t k => XS.aloadN X2.here hx rfl (hb hby d14_13) rfl rfl k) ?_
    obtain ⟨T3, X3, e3, st3⟩ := getF X2 hx hZ hown (host := "") (Or.inl (hw _ (List.mem_of_getElem? (i := 23) rfl))) Via.refl e2 (F0).2.2.2 (g := (mkF m 14 #[.val (.ref rb)] [(.ref rb), (.ref rb)])) rfl rfl (hb hby d14_14)
    refine own_pre (B := T3.setTop (mkF m 17 #[.val (.ref rb)] [(.int uu), (.ref rb)])) st3 ?_
    obtain ⟨T4, h4, kc4, X4, e4, E4, A4, st4⟩ := newP X3 hx hZ (hw _ (List.mem_of_getElem? (i := 0) rfl)) e3 (g := (mkF m 17 #[.val (.ref rb)] [(.int uu), (.ref rb)])) rfl (hb hby d14_17) rfl (own_nlt u0) (cap := 63) (own_nat u1) (by decide) (by decide) (by decide)
    obtain ⟨b4, g4⟩ : ∃ z, z = h0.size := ⟨_, rfl⟩
    rw [← g4] at A4 st4
    have V4 : Arv Z h4 b4 kc4 .byte uu [] (.int (0 : Int32)) := Arv.new A4 (own_nlt u0)
    have gb4 : n0 ≤ b4 := Nat.le_trans Z0 (Nat.le_of_eq g4.symm)
    have ZH4 : n0 ≤ h4.size := Nat.le_trans Z0 E4.1
    have K4 := Keep.ext (Keep.refl h0 [rb]) E4
    have sb4 := Nat.le_trans ((Keep.refl h0 [rb])).1 (Nat.le_of_eq g4.symm)
    have F4 := own_B_ext F0 E4
    have U4 := Unt.ext E4 U0
    have ne4 : b4 ≠ rb := Ne.symm (Nat.ne_of_lt (Nat.lt_of_lt_of_le (F0).1.lt (Nat.le_of_eq g4.symm)))
    refine own_pre (B := T4.setTop (mkF m 19 #[.val (.ref rb)] [(.ref b4), (.ref rb)])) st4 ?_
    obtain ⟨T5, h5, X5, e5, W5, st5⟩ := putF X4 hx hZ hown (host := "") (Or.inl (hw _ (List.mem_of_getElem? (i := 72) rfl))) (Via.of (hw _ (List.mem_of_getElem? (i := 73) rfl))) e4 (F4).2.1 (F4).1 (Or.inl (hw _ (List.mem_of_getElem? (i := 22) rfl))) (hw _ (List.mem_of_getElem? (i := 2) rfl)) (ty := (.array .byte)) (by decide) rfl rfl (g := (mkF m 19 #[.val (.ref rb)] [(.ref b4), (.ref rb)])) rfl rfl (hb hby d14_19)
    have N5 := Fr.snoc X5 N0 gr
    have ZH5 : n0 ≤ h5.size := by rw [W5.size]; exact ZH4
    have F5 := own_B_buf hw F4 W5
    have K5 := Keep.wr (ws := [rb]) K4 W5 (Or.inl (List.mem_of_getElem? (i := 0) rfl))
    have U5 := Unt.wr W5 U4
    have V5 := V4.other W5 ne4
    refine own_pre (B := T5.setTop (mkF m 22 #[.val (.ref rb)] [])) st5 ?_
    refine own_pre (B := T5.setTop (mkF m 23 #[.val (.ref rb)] [(.ref rb)])) (fun t k => XS.aloadN X5.here hx rfl (hb hby d14_22) rfl rfl k) ?_
    refine own_pre (B := T5.setTop (mkF m 24 #[.val (.ref rb)] [(.int (0 : Int32)), (.ref rb)])) (fun t k => XS.iconst X5.here hx rfl (hb hby d14_23) k) ?_
    obtain ⟨T6, h6, X6, e6, W6, st6⟩ := putF X5 hx hZ hown (host := "") (Or.inl (hw _ (List.mem_of_getElem? (i := 79) rfl))) (Via.of (hw _ (List.mem_of_getElem? (i := 80) rfl))) e5 (F5).2.2.1 (F5).1 (Or.inl (hw _ (List.mem_of_getElem? (i := 40) rfl))) (hw _ (List.mem_of_getElem? (i := 2) rfl)) (ty := .int) (by decide) rfl rfl (g := (mkF m 24 #[.val (.ref rb)] [(.int (0 : Int32)), (.ref rb)])) rfl rfl (hb hby d14_24)
    have N6 := Fr.snoc X6 N5 gr
    have ZH6 : n0 ≤ h6.size := by rw [W6.size]; exact ZH5
    have F6 := own_B_cnt hw F5 W6
    have K6 := Keep.wr (ws := [rb]) K5 W6 (Or.inl (List.mem_of_getElem? (i := 0) rfl))
    have U6 := Unt.wr W6 U5
    have V6 := V5.other W6 ne4
    refine own_pre (B := T6.setTop (mkF m 27 #[.val (.ref rb)] [])) st6 ?_
    exact own_retV X6 hx hlk Bd.returns (hb hby d14_27) (own_at e6 ⟨rfl, N6, K6, U6, b4, kc4, sb4, F6, V6⟩) (by decide) (by decide)
  exact own_pre pre0 g_0
theorem own_us (x : Int32) : 0 ≤ (x &&& (63 : Int32)).toInt ∧ (x &&& (63 : Int32)).toInt ≤ 63 := by
  have h1 := c_mask x 63 6 (by decide) (by decide)
  omega
theorem own_nw (x : Int32) : 0 ≤ (x &&& (127 : Int32)).toInt ∧ (x &&& (127 : Int32)).toInt ≤ 127 := by
  have h1 := c_mask x 127 7 (by decide) (by decide)
  omega
theorem own_pos {x : Int32} (h : (0 : Int32) < x) (h2 : x.toInt ≤ 127) : (¬ x - (1 : Int32) < 0 ∧ x - (1 : Int32) < 128) ∧ (x - (1 : Int32)).toNatClampNeg < 128 ∧ (x - (1 : Int32)).toNatClampNeg < x.toNatClampNeg := by
  have s1 := c_isub x 1
  have r1 := rng32 (x - 1)
  have z0 : (0 : Int32).toInt = 0 := rfl
  have z1 : (1 : Int32).toInt = 1 := rfl
  have z8 : (128 : Int32).toInt = 128 := rfl
  rw [Int32.lt_iff_toInt_lt] at h
  have d1 : (x - 1).toInt = x.toInt - 1 := by omega
  simp only [Int32.lt_iff_toInt_lt, Int32.toNatClampNeg]
  omega
theorem pn_0 : plainName "com/example/quillon/quillon/storage/RecordBufferShrinkPinLaw" = true := by first | (simp [plainName, overriddenIn]; done) | decide +kernel
theorem pd0_0 : parseMethodDescriptor "(I)V" = some ⟨[.int], none⟩ := by decide +kernel
theorem pd0_1 : parseMethodDescriptor "([BII)V" = some ⟨[(.array .byte), .int, .int], none⟩ := by decide +kernel
theorem pd0_2 : parseMethodDescriptor "()[B" = some ⟨[], some (.array .byte)⟩ := by decide +kernel
theorem pd0_3 : parseMethodDescriptor "()V" = some ⟨[], none⟩ := by decide +kernel
theorem pd0_4 : parseMethodDescriptor "()I" = some ⟨[], some .int⟩ := by decide +kernel
theorem ef_0A (m : MethodId) (p0 : Int32) (p1 : Int32) (p2 : Int32) (p3 : Int32) (p4 : Int32) : entryFrame m #[(.int p0), (.int p1), (.int p2), (.int p3), (.int p4)] maxLocals = mkF m 0 #[.val (.int p0), .val (.int p1), .val (.int p2), .val (.int p3), .val (.int p4), .unset, .unset, .unset, .unset, .unset, .unset, .unset] [] := by first | (simp [entryFrame, mkF, argsToLocals, Value.category, maxLocals]; done) | rfl
def Q0A (Z : State) (p0 : Int32) (p1 : Int32) (p2 : Int32) (p3 : Int32) (p4 : Int32) (h0 : Heap) (n0 : Nat) (v : Option Value) (h : Heap) (L : List Loc) : Prop := v = some (.int 1) ∧ Fr n0 L
set_option maxRecDepth 65536 in
set_option maxHeartbeats 40000000 in
theorem rm0A (l : Launch) (Z : State) (a0 : Array Value) (hw : ∀ d ∈ tables_1, d.before a0 Z = true) (ws : List Jvm.Cond) (p0 : Int32) (p1 : Int32) (p2 : Int32) (p3 : Int32) (p4 : Int32) (h0 : Heap) (n0 : Nat) (Z0 : n0 ≤ h0.size) (hc : (p0 &&& (63 : Int32)).toInt < (p1 &&& (127 : Int32)).toInt) :
    MetFree l x (head1 (Jvm.Cond.code x code maxLocals ret :: ws) room_1) (fun a U => a = #[(.int p0), (.int p1), (.int p2), (.int p3), (.int p4)] ∧ Z.Warmed39 U.vm ∧ U.heap = h0) (fun _ _ _ _ _ => True) (fun _ U o U' => ∃ v L, o = .returned v ∧ Q0A Z p0 p1 p2 p3 p4 h0 n0 v U'.heap L ∧ FrameEnd U o U' L room_1.cells room_1.slots) := by
  refine MetFree.of_bodySF (plainFor_of_name pn_0) hisR ?_
  intro p e s m args below meth c s₁ Bd hml0 hP hK
  obtain ⟨rfl, hZ, hh⟩ := hP
  have hx := Bd.exec
  have hby := Bd.bytes
  have hml : c.maxLocals = 12 := hml0
  have hlk : meth.locks = false := BodyLoose.notSynchronized Bd
  have hown : s.vm.findClass "com/example/quillon/quillon/storage/RecordBufferShrinkPinLaw" = some m.cls := findClass_of_methodNamed Bd.named
  have hnm := (name_of_methodNamed Bd.named Bd.method).1
  have X0 : Stand p l e room_1 s m #[(.int p0), (.int p1), (.int p2), (.int p3), (.int p4)] below meth c s₁ [] 0 0 := Stand.of_body Bd
  have e0 : s₁.heap = h0 := by rw [← hh, Bd.state]; rfl
  have N0 := Fr.nil n0
  have pre0 : ∀ t, Steps p.tables e below (s₁.setTop (mkF m 0 #[.val (.int p0), .val (.int p1), .val (.int p2), .val (.int p3), .val (.int p4), .unset, .unset, .unset, .unset, .unset, .unset, .unset] [])) t → Steps p.tables e below (s₁.setTop (entryFrame m #[(.int p0), (.int p1), (.int p2), (.int p3), (.int p4)] maxLocals)) t := fun t k => castTop (ef_0A m p0 p1 p2 p3 p4) k
  have g_0 : own_Fin p e below s (Q0A Z p0 p1 p2 p3 p4 h0 n0) room_1.cells room_1.slots (s₁.setTop (mkF m 0 #[.val (.int p0), .val (.int p1), .val (.int p2), .val (.int p3), .val (.int p4), .unset, .unset, .unset, .unset, .unset, .unset, .unset] [])) := by
    refine own_pre (B := s₁.setTop (mkF m 1 #[.val (.int p0), .val (.int p1), .val (.int p2), .val (.int p3), .val (.int p4), .unset, .unset, .unset, .unset, .unset, .unset, .unset] [(.int p0)])) (fun t k => XS.iloadN X0.here hx rfl (hb hby at_0) rfl k) ?_
    refine own_pre (B := s₁.setTop (mkF m 3 #[.val (.int p0), .val (.int p1), .val (.int p2), .val (.int p3), .val (.int p4), .unset, .unset, .unset, .unset, .unset, .unset, .unset] [(.int (63 : Int32)), (.int p0)])) (fun t k => XS.bipush X0.here hx rfl (hb hby at_1) k) ?_
    refine own_pre (B := s₁.setTop (mkF m 4 #[.val (.int p0), .val (.int p1), .val (.int p2), .val (.int p3), .val (.int p4), .unset, .unset, .unset, .unset, .unset, .unset, .unset] [(.int (p0 &&& (63 : Int32)))])) (fun t k => XS.iand X0.here hx rfl (hb hby at_3) rfl k) ?_
    refine own_pre (B := s₁.setTop (mkF m 6 #[.val (.int p0), .val (.int p1), .val (.int p2), .val (.int p3), .val (.int p4), .val (.int (p0 &&& (63 : Int32))), .unset, .unset, .unset, .unset, .unset, .unset] [])) (fun t k => XS.istore X0.here hx rfl (hb hby at_4) rfl (l' := #[.val (.int p0), .val (.int p1), .val (.int p2), .val (.int p3), .val (.int p4), .val (.int (p0 &&& (63 : Int32))), .unset, .unset, .unset, .unset, .unset, .unset]) rfl k) ?_
    refine own_pre (B := s₁.setTop (mkF m 7 #[.val (.int p0), .val (.int p1), .val (.int p2), .val (.int p3), .val (.int p4), .val (.int (p0 &&& (63 : Int32))), .unset, .unset, .unset, .unset, .unset, .unset] [(.int p1)])) (fun t k => XS.iloadN X0.here hx rfl (hb hby at_6) rfl k) ?_
    refine own_pre (B := s₁.setTop (mkF m 9 #[.val (.int p0), .val (.int p1), .val (.int p2), .val (.int p3), .val (.int p4), .val (.int (p0 &&& (63 : Int32))), .unset, .unset, .unset, .unset, .unset, .unset] [(.int (127 : Int32)), (.int p1)])) (fun t k => XS.bipush X0.here hx rfl (hb hby at_7) k) ?_
    refine own_pre (B := s₁.setTop (mkF m 10 #[.val (.int p0), .val (.int p1), .val (.int p2), .val (.int p3), .val (.int p4), .val (.int (p0 &&& (63 : Int32))), .unset, .unset, .unset, .unset, .unset, .unset] [(.int (p1 &&& (127 : Int32)))])) (fun t k => XS.iand X0.here hx rfl (hb hby at_9) rfl k) ?_
    refine own_pre (B := s₁.setTop (mkF m 12 #[.val (.int p0), .val (.int p1), .val (.int p2), .val (.int p3), .val (.int p4), .val (.int (p0 &&& (63 : Int32))), .val (.int (p1 &&& (127 : Int32))), .unset, .unset, .unset, .unset, .unset] [])) (fun t k => XS.istore X0.here hx rfl (hb hby at_10) rfl (l' := #[.val (.int p0), .val (.int p1), .val (.int p2), .val (.int p3), .val (.int p4), .val (.int (p0 &&& (63 : Int32))), .val (.int (p1 &&& (127 : Int32))), .unset, .unset, .unset, .unset, .unset]) rfl k) ?_
    refine own_pre (B := s₁.setTop (mkF m 15 #[.val (.int p0), .val (.int p1), .val (.int p2), .val (.int p3), .val (.int p4), .val (.int (p0 &&& (63 : Int32))), .val (.int (p1 &&& (127 : Int32))), .unset, .unset, .unset, .unset, .unset] [(.int (128 : Int32))])) (fun t k => XS.sipush X0.here hx rfl (hb hby at_12) k) ?_
    obtain ⟨T1, h1, kc1, X1, e1, E1, A1, st1⟩ := newP X0 hx hZ (hw _ (List.mem_of_getElem? (i := 0) rfl)) e0 (g := (mkF m 15 #[.val (.int p0), .val (.int p1), .val (.int p2), .val (.int p3), .val (.int p4), .val (.int (p0 &&& (63 : Int32))), .val (.int (p1 &&& (127 : Int32))), .unset, .unset, .unset, .unset, .unset] [(.int (128 : Int32))])) rfl (hb hby at_15) rfl (by decide) (cap := 128) (by decide) (by decide) (by decide) (by decide)
    obtain ⟨b1, g1⟩ : ∃ z, z = h0.size := ⟨_, rfl⟩
    rw [← g1] at A1 st1
    have V1 : Arv Z h1 b1 kc1 .byte (128 : Int32) [] (.int (0 : Int32)) := Arv.new A1 (by decide)
    have gb1 : n0 ≤ b1 := Nat.le_trans Z0 (Nat.le_of_eq g1.symm)
    have ZH1 : n0 ≤ h1.size := Nat.le_trans Z0 E1.1
    have K1 := Keep.ext (Keep.refl h0 []) E1
    have sb1 := Nat.le_trans ((Keep.refl h0 [])).1 (Nat.le_of_eq g1.symm)
    have D1 := V1.pad (pad_rep [] (.int (0 : Int32)) 128)
    have da_lt1 := V1.lt
    refine own_pre (B := T1.setTop (mkF m 17 #[.val (.int p0), .val (.int p1), .val (.int p2), .val (.int p3), .val (.int p4), .val (.int (p0 &&& (63 : Int32))), .val (.int (p1 &&& (127 : Int32))), .unset, .unset, .unset, .unset, .unset] [(.ref b1)])) st1 ?_
    refine own_pre (B := T1.setTop (mkF m 19 #[.val (.int p0), .val (.int p1), .val (.int p2), .val (.int p3), .val (.int p4), .val (.int (p0 &&& (63 : Int32))), .val (.int (p1 &&& (127 : Int32))), .val (.ref b1), .unset, .unset, .unset, .unset] [])) (fun t k => XS.astore X1.here hx rfl (hb hby at_17) rfl rfl (l' := #[.val (.int p0), .val (.int p1), .val (.int p2), .val (.int p3), .val (.int p4), .val (.int (p0 &&& (63 : Int32))), .val (.int (p1 &&& (127 : Int32))), .val (.ref b1), .unset, .unset, .unset, .unset]) rfl k) ?_
    refine own_pre (B := T1.setTop (mkF m 21 #[.val (.int p0), .val (.int p1), .val (.int p2), .val (.int p3), .val (.int p4), .val (.int (p0 &&& (63 : Int32))), .val (.int (p1 &&& (127 : Int32))), .val (.ref b1), .unset, .unset, .unset, .unset] [(.ref b1)])) (fun t k => XS.aload X1.here hx rfl (hb hby at_19) rfl rfl k) ?_
    refine own_pre (B := T1.setTop (mkF m 22 #[.val (.int p0), .val (.int p1), .val (.int p2), .val (.int p3), .val (.int p4), .val (.int (p0 &&& (63 : Int32))), .val (.int (p1 &&& (127 : Int32))), .val (.ref b1), .unset, .unset, .unset, .unset] [(.int (0 : Int32)), (.ref b1)])) (fun t k => XS.iconst X1.here hx rfl (hb hby at_21) k) ?_
    refine own_pre (B := T1.setTop (mkF m 23 #[.val (.int p0), .val (.int p1), .val (.int p2), .val (.int p3), .val (.int p4), .val (.int (p0 &&& (63 : Int32))), .val (.int (p1 &&& (127 : Int32))), .val (.ref b1), .unset, .unset, .unset, .unset] [(.int p2), (.int (0 : Int32)), (.ref b1)])) (fun t k => XS.iloadN X1.here hx rfl (hb hby at_22) rfl k) ?_
    refine own_pre (B := T1.setTop (mkF m 24 #[.val (.int p0), .val (.int p1), .val (.int p2), .val (.int p3), .val (.int p4), .val (.int (p0 &&& (63 : Int32))), .val (.int (p1 &&& (127 : Int32))), .val (.ref b1), .unset, .unset, .unset, .unset] [(.int (p2.toInt8.toInt32)), (.int (0 : Int32)), (.ref b1)])) (fun t k => XS.i2b X1.here hx rfl (hb hby at_23) rfl k) ?_
    obtain ⟨T2, h2, X2, e2, W2, D2, st2⟩ := own_stB X1 hx hZ e1 D1 (j := (0 : Int32)) (x := (p2.toInt8.toInt32)) ⟨by decide, by decide⟩ (by rw [List.nil_append, List.length_replicate]; decide) (g := (mkF m 24 #[.val (.int p0), .val (.int p1), .val (.int p2), .val (.int p3), .val (.int p4), .val (.int (p0 &&& (63 : Int32))), .val (.int (p1 &&& (127 : Int32))), .val (.ref b1), .unset, .unset, .unset, .unset] [(.int (p2.toInt8.toInt32)), (.int (0 : Int32)), (.ref b1)])) rfl rfl (hb hby at_24)
    have N2 := Fr.snoc X2 N0 gb1
    have ZH2 : n0 ≤ h2.size := by rw [W2.size]; exact ZH1
    have K2 := Keep.refl h2 []
    refine own_pre (B := T2.setTop (mkF m 25 #[.val (.int p0), .val (.int p1), .val (.int p2), .val (.int p3), .val (.int p4), .val (.int (p0 &&& (63 : Int32))), .val (.int (p1 &&& (127 : Int32))), .val (.ref b1), .unset, .unset, .unset, .unset] [])) st2 ?_
    refine own_pre (B := T2.setTop (mkF m 27 #[.val (.int p0), .val (.int p1), .val (.int p2), .val (.int p3), .val (.int p4), .val (.int (p0 &&& (63 : Int32))), .val (.int (p1 &&& (127 : Int32))), .val (.ref b1), .unset, .unset, .unset, .unset] [(.int (p1 &&& (127 : Int32)))])) (fun t k => XS.iload X2.here hx rfl (hb hby at_25) rfl k) ?_
    refine own_pre (B := T2.setTop (mkF m 30 #[.val (.int p0), .val (.int p1), .val (.int p2), .val (.int p3), .val (.int p4), .val (.int (p0 &&& (63 : Int32))), .val (.int (p1 &&& (127 : Int32))), .val (.ref b1), .unset, .unset, .unset, .unset] [])) (fun t k => XS.ifNo X2.here hx rfl (hb hby at_27) rfl ((if0 _ _).trans (tlt ((own_lt (by have := (own_us p0).1; have z0 : (0 : Int32).toInt = 0 := rfl; omega)) : (0 : Int32) < (p1 &&& (127 : Int32)))).2.2.2) k) ?_
    refine own_pre (B := T2.setTop (mkF m 32 #[.val (.int p0), .val (.int p1), .val (.int p2), .val (.int p3), .val (.int p4), .val (.int (p0 &&& (63 : Int32))), .val (.int (p1 &&& (127 : Int32))), .val (.ref b1), .unset, .unset, .unset, .unset] [(.ref b1)])) (fun t k => XS.aload X2.here hx rfl (hb hby at_30) rfl rfl k) ?_
    refine own_pre (B := T2.setTop (mkF m 34 #[.val (.int p0), .val (.int p1), .val (.int p2), .val (.int p3), .val (.int p4), .val (.int (p0 &&& (63 : Int32))), .val (.int (p1 &&& (127 : Int32))), .val (.ref b1), .unset, .unset, .unset, .unset] [(.int (p1 &&& (127 : Int32))), (.ref b1)])) (fun t k => XS.iload X2.here hx rfl (hb hby at_32) rfl k) ?_
    refine own_pre (B := T2.setTop (mkF m 35 #[.val (.int p0), .val (.int p1), .val (.int p2), .val (.int p3), .val (.int p4), .val (.int (p0 &&& (63 : Int32))), .val (.int (p1 &&& (127 : Int32))), .val (.ref b1), .unset, .unset, .unset, .unset] [(.int (1 : Int32)), (.int (p1 &&& (127 : Int32))), (.ref b1)])) (fun t k => XS.iconst X2.here hx rfl (hb hby at_34) k) ?_
    refine own_pre (B := T2.setTop (mkF m 36 #[.val (.int p0), .val (.int p1), .val (.int p2), .val (.int p3), .val (.int p4), .val (.int (p0 &&& (63 : Int32))), .val (.int (p1 &&& (127 : Int32))), .val (.ref b1), .unset, .unset, .unset, .unset] [(.int ((p1 &&& (127 : Int32)) - (1 : Int32))), (.ref b1)])) (fun t k => XS.isub X2.here hx rfl (hb hby at_35) rfl k) ?_
    refine own_pre (B := T2.setTop (mkF m 37 #[.val (.int p0), .val (.int p1), .val (.int p2), .val (.int p3), .val (.int p4), .val (.int (p0 &&& (63 : Int32))), .val (.int (p1 &&& (127 : Int32))), .val (.ref b1), .unset, .unset, .unset, .unset] [(.int p3), (.int ((p1 &&& (127 : Int32)) - (1 : Int32))), (.ref b1)])) (fun t k => XS.iloadN X2.here hx rfl (hb hby at_36) rfl k) ?_
    refine own_pre (B := T2.setTop (mkF m 38 #[.val (.int p0), .val (.int p1), .val (.int p2), .val (.int p3), .val (.int p4), .val (.int (p0 &&& (63 : Int32))), .val (.int (p1 &&& (127 : Int32))), .val (.ref b1), .unset, .unset, .unset, .unset] [(.int (p3.toInt8.toInt32)), (.int ((p1 &&& (127 : Int32)) - (1 : Int32))), (.ref b1)])) (fun t k => XS.i2b X2.here hx rfl (hb hby at_37) rfl k) ?_
    obtain ⟨T3, h3, X3, e3, W3, D3, st3⟩ := own_stB X2 hx hZ e2 D2 (j := ((p1 &&& (127 : Int32)) - (1 : Int32))) (x := (p3.toInt8.toInt32)) (own_pos (own_lt (by have := (own_us p0).1; have z0 : (0 : Int32).toInt = 0 := rfl; omega)) (own_nw p1).2).1 (by rw [List.length_set, List.nil_append, List.length_replicate]; exact (own_pos (own_lt (by have := (own_us p0).1; have z0 : (0 : Int32).toInt = 0 := rfl; omega)) (own_nw p1).2).2.1) (g := (mkF m 38 #[.val (.int p0), .val (.int p1), .val (.int p2), .val (.int p3), .val (.int p4), .val (.int (p0 &&& (63 : Int32))), .val (.int (p1 &&& (127 : Int32))), .val (.ref b1), .unset, .unset, .unset, .unset] [(.int (p3.toInt8.toInt32)), (.int ((p1 &&& (127 : Int32)) - (1 : Int32))), (.ref b1)])) rfl rfl (hb hby at_38)
    have N3 := Fr.snoc X3 N2 gb1
    have ZH3 : n0 ≤ h3.size := by rw [W3.size]; exact ZH2
    have K3 := Keep.refl h3 []
    refine own_pre (B := T3.setTop (mkF m 39 #[.val (.int p0), .val (.int p1), .val (.int p2), .val (.int p3), .val (.int p4), .val (.int (p0 &&& (63 : Int32))), .val (.int (p1 &&& (127 : Int32))), .val (.ref b1), .unset, .unset, .unset, .unset] [])) st3 ?_
    obtain ⟨T4, h4, X4, e4, E4, A4, D4, Un4, st4⟩ := newO X3 hx hZ hown (hw _ (List.mem_of_getElem? (i := 1) rfl)) (hw _ (List.mem_of_getElem? (i := 2) rfl)) (hw _ (List.mem_of_getElem? (i := 3) rfl)) e3 (g := (mkF m 39 #[.val (.int p0), .val (.int p1), .val (.int p2), .val (.int p3), .val (.int p4), .val (.int (p0 &&& (63 : Int32))), .val (.int (p1 &&& (127 : Int32))), .val (.ref b1), .unset, .unset, .unset, .unset] [])) rfl (hb hby at_39) (by decide) (by decide)
    obtain ⟨b4, g4⟩ : ∃ z, z = h3.size := ⟨_, rfl⟩
    rw [← g4] at A4 D4 Un4 st4
    have gb4 : n0 ≤ b4 := Nat.le_trans ZH3 (Nat.le_of_eq g4.symm)
    have ZH4 : n0 ≤ h4.size := Nat.le_trans ZH3 E4.1
    have Zs4 : n0 ≤ T4.heap.size := by rw [e4]; exact ZH4
    have F4 : own_B Z h4 b4 .null 0 0 := ⟨A4, D4 (Or.inl (hw _ (List.mem_of_getElem? (i := 22) rfl))) (ty := .array .byte) (by decide), D4 (Or.inl (hw _ (List.mem_of_getElem? (i := 40) rfl))) (ty := .int) (by decide), D4 (Or.inr (hw _ (List.mem_of_getElem? (i := 24) rfl))) (ty := .int) (by decide)⟩
    have Dd4 := D3.ext E4
    have n14 : b1 ≠ b4 := Nat.ne_of_lt (Nat.lt_of_lt_of_le D3.lt (Nat.le_of_eq g4.symm))
    refine own_pre (B := T4.setTop (mkF m 42 #[.val (.int p0), .val (.int p1), .val (.int p2), .val (.int p3), .val (.int p4), .val (.int (p0 &&& (63 : Int32))), .val (.int (p1 &&& (127 : Int32))), .val (.ref b1), .unset, .unset, .unset, .unset] [(.ref b4)])) st4 ?_
    refine own_pre (B := T4.setTop (mkF m 43 #[.val (.int p0), .val (.int p1), .val (.int p2), .val (.int p3), .val (.int p4), .val (.int (p0 &&& (63 : Int32))), .val (.int (p1 &&& (127 : Int32))), .val (.ref b1), .unset, .unset, .unset, .unset] [(.ref b4), (.ref b4)])) (fun t k => XS.dup X4.here hx rfl (hb hby at_42) rfl rfl k) ?_
    refine own_pre (B := T4.setTop (mkF m 45 #[.val (.int p0), .val (.int p1), .val (.int p2), .val (.int p3), .val (.int p4), .val (.int (p0 &&& (63 : Int32))), .val (.int (p1 &&& (127 : Int32))), .val (.ref b1), .unset, .unset, .unset, .unset] [(.int (p0 &&& (63 : Int32))), (.ref b4), (.ref b4)])) (fun t k => XS.iload X4.here hx rfl (hb hby at_43) rfl k) ?_
    obtain ⟨_, _, ⟨T5, L5, k5, n5⟩, -, X5, ⟨Lc5, hQ5, l5, y5, z5⟩, st5⟩ := X4.specialBack hx (y := (⟨"com/example/quillon/quillon/storage/LogFormat$RecordBuffer", "<init>", "(I)V"⟩ : MethodName)) rfl hown (mvT hZ (hw _ (List.mem_of_getElem? (i := 4) rfl))) (mvT hZ (hw _ (List.mem_of_getElem? (i := 5) rfl))) (mvT hZ (hw _ (List.mem_of_getElem? (i := 6) rfl))) (by decide) (backOf (W := 1) (rm1 l Z a0 hw [] b4 (p0 &&& (63 : Int32)) _ _ _ h4 n0 ZH4 F4 Un4 gb4 (own_us p0).1 (own_us p0).2) hZ (hw _ (List.mem_of_getElem? (i := 6) rfl)) (hw _ (List.mem_of_getElem? (i := 3) rfl)) (by decide) (by decide)) (g := (mkF m 45 #[.val (.int p0), .val (.int p1), .val (.int p2), .val (.int p3), .val (.int p4), .val (.int (p0 &&& (63 : Int32))), .val (.int (p1 &&& (127 : Int32))), .val (.ref b1), .unset, .unset, .unset, .unset] [(.int (p0 &&& (63 : Int32))), (.ref b4), (.ref b4)])) rfl (by rw [hml]; rfl) (Steps.refl _) (a := b4) (argsL := [(.int (p0 &&& (63 : Int32)))]) (rest := [(.ref b4)]) (lenOf pd0_0 rfl) rfl (by show 2 * 0 + _ ≤ _; exact Nat.le_of_eq rfl) (hb hby at_45) (fun _ _ => ⟨rfl, e4, (by decide : 2 + 1 ≤ _), (by decide : 131 + 63 ≤ _)⟩)
    dsimp only [Pt.U, Pt.locs, Pt.cells, Pt.slots] at X5 l5 y5 z5 st5 hQ5
    subst l5 y5 z5
    obtain ⟨rfl, Nq5, K5, U5, b5, kc5, sb5, F5, V5⟩ := hQ5
    have N5 := Fr.app N3 Nq5
    have ZH5 : n0 ≤ T5.heap.size := Nat.le_trans ZH4 K5.1
    have D5 := Dd4.keep K5 (ninS n14 nin0)
    have n25 : b5 ≠ b4 := Ne.symm (Nat.ne_of_lt (Nat.lt_of_lt_of_le (F4).1.lt sb5))
    have n35 : b1 ≠ b5 := Nat.ne_of_lt (Nat.lt_of_lt_of_le Dd4.lt sb5)
    have gf5 : n0 ≤ b5 := Nat.le_trans ZH4 sb5
    refine own_pre (B := T5.setTop (mkF m 48 #[.val (.int p0), .val (.int p1), .val (.int p2), .val (.int p3), .val (.int p4), .val (.int (p0 &&& (63 : Int32))), .val (.int (p1 &&& (127 : Int32))), .val (.ref b1), .unset, .unset, .unset, .unset] [(.ref b4)])) (fun t q => st5.trans q) ?_
    refine own_pre (B := T5.setTop (mkF m 50 #[.val (.int p0), .val (.int p1), .val (.int p2), .val (.int p3), .val (.int p4), .val (.int (p0 &&& (63 : Int32))), .val (.int (p1 &&& (127 : Int32))), .val (.ref b1), .val (.ref b4), .unset, .unset, .unset] [])) (fun t k => XS.astore X5.here hx rfl (hb hby at_48) rfl rfl (l' := #[.val (.int p0), .val (.int p1), .val (.int p2), .val (.int p3), .val (.int p4), .val (.int (p0 &&& (63 : Int32))), .val (.int (p1 &&& (127 : Int32))), .val (.ref b1), .val (.ref b4), .unset, .unset, .unset]) rfl k) ?_
    refine own_pre (B := T5.setTop (mkF m 52 #[.val (.int p0), .val (.int p1), .val (.int p2), .val (.int p3), .val (.int p4), .val (.int (p0 &&& (63 : Int32))), .val (.int (p1 &&& (127 : Int32))), .val (.ref b1), .val (.ref b4), .unset, .unset, .unset] [(.ref b4)])) (fun t k => XS.aload X5.here hx rfl (hb hby at_50) rfl rfl k) ?_
    refine own_pre (B := T5.setTop (mkF m 54 #[.val (.int p0), .val (.int p1), .val (.int p2), .val (.int p3), .val (.int p4), .val (.int (p0 &&& (63 : Int32))), .val (.int (p1 &&& (127 : Int32))), .val (.ref b1), .val (.ref b4), .unset, .unset, .unset] [(.ref b1), (.ref b4)])) (fun t k => XS.aload X5.here hx rfl (hb hby at_52) rfl rfl k) ?_
    refine own_pre (B := T5.setTop (mkF m 55 #[.val (.int p0), .val (.int p1), .val (.int p2), .val (.int p3), .val (.int p4), .val (.int (p0 &&& (63 : Int32))), .val (.int (p1 &&& (127 : Int32))), .val (.ref b1), .val (.ref b4), .unset, .unset, .unset] [(.int (0 : Int32)), (.ref b1), (.ref b4)])) (fun t k => XS.iconst X5.here hx rfl (hb hby at_54) k) ?_
    refine own_pre (B := T5.setTop (mkF m 57 #[.val (.int p0), .val (.int p1), .val (.int p2), .val (.int p3), .val (.int p4), .val (.int (p0 &&& (63 : Int32))), .val (.int (p1 &&& (127 : Int32))), .val (.ref b1), .val (.ref b4), .unset, .unset, .unset] [(.int (p1 &&& (127 : Int32))), (.int (0 : Int32)), (.ref b1), (.ref b4)])) (fun t k => XS.iload X5.here hx rfl (hb hby at_55) rfl k) ?_
    obtain ⟨cq6, kq6, qa6, qb6, qc6⟩ := isOf hZ rfl (F5).1
    obtain ⟨_, _, ⟨T6, L6, k6, n6⟩, -, X6, ⟨Lc6, hQ6, l6, y6, z6⟩, st6⟩ := X5.virtualBackUp hx (C := "com/example/quillon/quillon/storage/LogFormat$RecordBuffer") (owner := "java/io/ByteArrayOutputStream") (x := (⟨"com/example/quillon/quillon/storage/LogFormat$RecordBuffer", "write", "([BII)V"⟩ : MethodName)) (y := (⟨"java/io/ByteArrayOutputStream", "write", "([BII)V"⟩ : MethodName)) hown (mvT hZ (hw _ (List.mem_of_getElem? (i := 25) rfl))) (mvT hZ (hw _ (List.mem_of_getElem? (i := 26) rfl))) (mvT hZ (hw _ (List.mem_of_getElem? (i := 27) rfl))) (by decide) (mvT hZ (hw _ (List.mem_of_getElem? (i := 29) rfl))) (mvT hZ (hw _ (List.mem_of_getElem? (i := 28) rfl))) (own_backS (W := 0) (rmW1 l Z a0 hw b4 b1 (p1 &&& (127 : Int32)) b5 (p0 &&& (63 : Int32)) kc5 (p0 &&& (63 : Int32)) [] kc1 _ T5.heap n0 ZH5 F5 U5 V5 D5 gb4 gf5 n14 n25 n35 (own_us p0).1 (own_us p0).2 (own_nw p1).1 (own_nw p1).2 hc) hZ (hw _ (List.mem_of_getElem? (i := 30) rfl)) (hw _ (List.mem_of_getElem? (i := 28) rfl)) (hw _ (List.mem_of_getElem? (i := 10) rfl)) U5 (by decide) (by decide)) qa6 qc6 (g := (mkF m 57 #[.val (.int p0), .val (.int p1), .val (.int p2), .val (.int p3), .val (.int p4), .val (.int (p0 &&& (63 : Int32))), .val (.int (p1 &&& (127 : Int32))), .val (.ref b1), .val (.ref b4), .unset, .unset, .unset] [(.int (p1 &&& (127 : Int32))), (.int (0 : Int32)), (.ref b1), (.ref b4)])) rfl (by rw [hml]; rfl) (Steps.refl _) (argsL := [(.ref b1), (.int (0 : Int32)), (.int (p1 &&& (127 : Int32)))]) (rest := []) (lenOf pd0_1 rfl) rfl (by show 2 * 0 + _ ≤ _; exact Nat.le_of_eq rfl) (hb hby at_57) (fun _ _ => ⟨rfl, rfl, (by decide : 3 + 1 ≤ _), (by decide : 194 + 127 ≤ _)⟩)
    dsimp only [Pt.U, Pt.locs, Pt.cells, Pt.slots] at X6 l6 y6 z6 st6 hQ6
    subst l6 y6 z6
    obtain ⟨rfl, Nq6, U6, SZ6, b6, kc6, ws6, sb6, F6, V6⟩ := hQ6
    have N6 := Fr.app N5 Nq6
    have ZH6 : n0 ≤ T6.heap.size := Nat.le_trans ZH5 SZ6
    refine own_pre (B := T6.setTop (mkF m 60 #[.val (.int p0), .val (.int p1), .val (.int p2), .val (.int p3), .val (.int p4), .val (.int (p0 &&& (63 : Int32))), .val (.int (p1 &&& (127 : Int32))), .val (.ref b1), .val (.ref b4), .unset, .unset, .unset] [])) (fun t q => st6.trans q) ?_
    refine own_pre (B := T6.setTop (mkF m 62 #[.val (.int p0), .val (.int p1), .val (.int p2), .val (.int p3), .val (.int p4), .val (.int (p0 &&& (63 : Int32))), .val (.int (p1 &&& (127 : Int32))), .val (.ref b1), .val (.ref b4), .unset, .unset, .unset] [(.ref b4)])) (fun t k => XS.aload X6.here hx rfl (hb hby at_60) rfl rfl k) ?_
    obtain ⟨cq7, kq7, qa7, qb7, qc7⟩ := isOf hZ rfl (F6).1
    obtain ⟨_, _, ⟨T7, L7, k7, n7⟩, -, X7, ⟨Lc7, hQ7, l7, y7, z7⟩, st7⟩ := X6.virtualBack hx (y := (⟨"com/example/quillon/quillon/storage/LogFormat$RecordBuffer", "bytes", "()[B"⟩ : MethodName)) (z := (⟨"com/example/quillon/quillon/storage/LogFormat$RecordBuffer", "bytes", "()[B"⟩ : MethodName)) hown (mvT hZ (hw _ (List.mem_of_getElem? (i := 67) rfl))) (mvT hZ (hw _ (List.mem_of_getElem? (i := 68) rfl))) (notFace_of_selects (args := #[]) (mvT hZ (hw _ (List.mem_of_getElem? (i := 70) rfl)))) (mvT hZ (hw _ (List.mem_of_getElem? (i := 70) rfl))) (mvT hZ (hw _ (List.mem_of_getElem? (i := 69) rfl))) (by decide) (backOf (W := 0) (rm13 l Z a0 hw [] b4 b6 ((0 : Int32) + (p1 &&& (127 : Int32))) (p0 &&& (63 : Int32)) T6.heap n0 ZH6 F6) hZ (hw _ (List.mem_of_getElem? (i := 71) rfl)) (hw _ (List.mem_of_getElem? (i := 3) rfl)) (by decide) (by decide)) qa7 qc7 (g := (mkF m 62 #[.val (.int p0), .val (.int p1), .val (.int p2), .val (.int p3), .val (.int p4), .val (.int (p0 &&& (63 : Int32))), .val (.int (p1 &&& (127 : Int32))), .val (.ref b1), .val (.ref b4), .unset, .unset, .unset] [(.ref b4)])) rfl (by rw [hml]; rfl) (Steps.refl _) (argsL := []) (rest := []) (lenOf pd0_2 rfl) rfl (by show 2 * 0 + _ ≤ _; exact Nat.le_of_eq rfl) (hb hby at_62) (fun _ _ => ⟨rfl, rfl, (by decide : 4 + 0 ≤ _), (by decide : 321 + 0 ≤ _)⟩)
    dsimp only [Pt.U, Pt.locs, Pt.cells, Pt.slots] at X7 l7 y7 z7 st7 hQ7
    subst l7 y7 z7
    obtain ⟨rfl, Nq7, e7⟩ := hQ7
    have N7 := Fr.app N6 Nq7
    have eh7 : T7.heap = T6.heap := e7
    refine own_pre (B := T7.setTop (mkF m 65 #[.val (.int p0), .val (.int p1), .val (.int p2), .val (.int p3), .val (.int p4), .val (.int (p0 &&& (63 : Int32))), .val (.int (p1 &&& (127 : Int32))), .val (.ref b1), .val (.ref b4), .unset, .unset, .unset] [(.ref b6)])) (fun t q => st7.trans q) ?_
    refine own_pre (B := T7.setTop (mkF m 67 #[.val (.int p0), .val (.int p1), .val (.int p2), .val (.int p3), .val (.int p4), .val (.int (p0 &&& (63 : Int32))), .val (.int (p1 &&& (127 : Int32))), .val (.ref b1), .val (.ref b4), .val (.ref b6), .unset, .unset] [])) (fun t k => XS.astore X7.here hx rfl (hb hby at_65) rfl rfl (l' := #[.val (.int p0), .val (.int p1), .val (.int p2), .val (.int p3), .val (.int p4), .val (.int (p0 &&& (63 : Int32))), .val (.int (p1 &&& (127 : Int32))), .val (.ref b1), .val (.ref b4), .val (.ref b6), .unset, .unset]) rfl k) ?_
    refine own_pre (B := T7.setTop (mkF m 69 #[.val (.int p0), .val (.int p1), .val (.int p2), .val (.int p3), .val (.int p4), .val (.int (p0 &&& (63 : Int32))), .val (.int (p1 &&& (127 : Int32))), .val (.ref b1), .val (.ref b4), .val (.ref b6), .unset, .unset] [(.ref b4)])) (fun t k => XS.aload X7.here hx rfl (hb hby at_67) rfl rfl k) ?_
    obtain ⟨cq8, kq8, qa8, qb8, qc8⟩ := isOf hZ eh7 (F6).1
    obtain ⟨_, _, ⟨T8, L8, k8, n8⟩, -, X8, ⟨Lc8, hQ8, l8, y8, z8⟩, st8⟩ := X7.virtualBack hx (y := (⟨"com/example/quillon/quillon/storage/LogFormat$RecordBuffer", "shrink", "()V"⟩ : MethodName)) (z := (⟨"com/example/quillon/quillon/storage/LogFormat$RecordBuffer", "shrink", "()V"⟩ : MethodName)) hown (mvT hZ (hw _ (List.mem_of_getElem? (i := 74) rfl))) (mvT hZ (hw _ (List.mem_of_getElem? (i := 75) rfl))) (notFace_of_selects (args := #[]) (mvT hZ (hw _ (List.mem_of_getElem? (i := 77) rfl)))) (mvT hZ (hw _ (List.mem_of_getElem? (i := 77) rfl))) (mvT hZ (hw _ (List.mem_of_getElem? (i := 76) rfl))) (by decide) (backOf (W := 0) (rmS1 l Z a0 hw [] b4 b6 ((0 : Int32) + (p1 &&& (127 : Int32))) (p0 &&& (63 : Int32)) kc6 (own_ln (p0 &&& (63 : Int32)) ((0 : Int32) + (p1 &&& (127 : Int32)))) ws6 T6.heap n0 ZH6 F6 V6 U6 gb4 (own_us p0).1 (own_us p0).2 (own_lt (own_ln_ok (us := (p0 &&& (63 : Int32))) (mc := (0 : Int32) + (p1 &&& (127 : Int32))) (own_us p0).1 (own_us p0).2 (by rw [Int32.zero_add]; exact hc) (by rw [Int32.zero_add]; exact (own_nw p1).2)).1)) hZ (hw _ (List.mem_of_getElem? (i := 78) rfl)) (hw _ (List.mem_of_getElem? (i := 3) rfl)) (by decide) (by decide)) qa8 qc8 (g := (mkF m 69 #[.val (.int p0), .val (.int p1), .val (.int p2), .val (.int p3), .val (.int p4), .val (.int (p0 &&& (63 : Int32))), .val (.int (p1 &&& (127 : Int32))), .val (.ref b1), .val (.ref b4), .val (.ref b6), .unset, .unset] [(.ref b4)])) rfl (by rw [hml]; rfl) (Steps.refl _) (argsL := []) (rest := []) (lenOf pd0_3 rfl) rfl (by show 2 * 0 + _ ≤ _; exact Nat.le_of_eq rfl) (hb hby at_69) (fun _ _ => ⟨rfl, eh7, (by decide : 4 + 1 ≤ _), (by decide : 321 + 63 ≤ _)⟩)
    dsimp only [Pt.U, Pt.locs, Pt.cells, Pt.slots] at X8 l8 y8 z8 st8 hQ8
    subst l8 y8 z8
    obtain ⟨rfl, Nq8, K8, U8, b8, kc8, sb8, F8, V8⟩ := hQ8
    have N8 := Fr.app N7 Nq8
    have ZH8 : n0 ≤ T8.heap.size := Nat.le_trans ZH6 K8.1
    have nbb8 : b8 ≠ b6 := Ne.symm (Nat.ne_of_lt (Nat.lt_of_lt_of_le V6.lt sb8))
    refine own_pre (B := T8.setTop (mkF m 72 #[.val (.int p0), .val (.int p1), .val (.int p2), .val (.int p3), .val (.int p4), .val (.int (p0 &&& (63 : Int32))), .val (.int (p1 &&& (127 : Int32))), .val (.ref b1), .val (.ref b4), .val (.ref b6), .unset, .unset] [])) (fun t q => st8.trans q) ?_
    refine own_pre (B := T8.setTop (mkF m 74 #[.val (.int p0), .val (.int p1), .val (.int p2), .val (.int p3), .val (.int p4), .val (.int (p0 &&& (63 : Int32))), .val (.int (p1 &&& (127 : Int32))), .val (.ref b1), .val (.ref b4), .val (.ref b6), .unset, .unset] [(.int p4)])) (fun t k => XS.iload X8.here hx rfl (hb hby at_72) rfl k) ?_
    refine own_pre (B := T8.setTop (mkF m 75 #[.val (.int p0), .val (.int p1), .val (.int p2), .val (.int p3), .val (.int p4), .val (.int (p0 &&& (63 : Int32))), .val (.int (p1 &&& (127 : Int32))), .val (.ref b1), .val (.ref b4), .val (.ref b6), .unset, .unset] [(.int (1 : Int32)), (.int p4)])) (fun t k => XS.iconst X8.here hx rfl (hb hby at_74) k) ?_
    refine own_pre (B := T8.setTop (mkF m 76 #[.val (.int p0), .val (.int p1), .val (.int p2), .val (.int p3), .val (.int p4), .val (.int (p0 &&& (63 : Int32))), .val (.int (p1 &&& (127 : Int32))), .val (.ref b1), .val (.ref b4), .val (.ref b6), .unset, .unset] [(.int (p4 &&& (1 : Int32)))])) (fun t k => XS.iand X8.here hx rfl (hb hby at_75) rfl k) ?_
    by_cases hc9 : (p4 &&& (1 : Int32)) = (0 : Int32)
    · skip
      refine own_pre (B := T8.setTop (mkF m 84 #[.val (.int p0), .val (.int p1), .val (.int p2), .val (.int p3), .val (.int p4), .val (.int (p0 &&& (63 : Int32))), .val (.int (p1 &&& (127 : Int32))), .val (.ref b1), .val (.ref b4), .val (.ref b6), .unset, .unset] [])) (fun t k => XS.ifYes X8.here hx rfl (pc0 := 76) (pc' := 84) rfl (hb hby at_76) rfl ((if0 _ _).trans (teq hc9).1) (by decide) (by decide) k) ?_
      refine own_pre (B := T8.setTop (mkF m 86 #[.val (.int p0), .val (.int p1), .val (.int p2), .val (.int p3), .val (.int p4), .val (.int (p0 &&& (63 : Int32))), .val (.int (p1 &&& (127 : Int32))), .val (.ref b1), .val (.ref b4), .val (.ref b6), .unset, .unset] [(.ref b4)])) (fun t k => XS.aload X8.here hx rfl (hb hby at_84) rfl rfl k) ?_
      obtain ⟨cq11, kq11, qa11, qb11, qc11⟩ := isOf hZ rfl (F8).1
      obtain ⟨_, _, ⟨T11, L11, k11, n11⟩, -, X11, ⟨Lc11, hQ11, l11, y11, z11⟩, st11⟩ := X8.virtualBack hx (y := (⟨"com/example/quillon/quillon/storage/LogFormat$RecordBuffer", "bytes", "()[B"⟩ : MethodName)) (z := (⟨"com/example/quillon/quillon/storage/LogFormat$RecordBuffer", "bytes", "()[B"⟩ : MethodName)) hown (mvT hZ (hw _ (List.mem_of_getElem? (i := 67) rfl))) (mvT hZ (hw _ (List.mem_of_getElem? (i := 68) rfl))) (notFace_of_selects (args := #[]) (mvT hZ (hw _ (List.mem_of_getElem? (i := 70) rfl)))) (mvT hZ (hw _ (List.mem_of_getElem? (i := 70) rfl))) (mvT hZ (hw _ (List.mem_of_getElem? (i := 69) rfl))) (by decide) (backOf (W := 0) (rm13 l Z a0 hw [] b4 b8 (0 : Int32) (p0 &&& (63 : Int32)) T8.heap n0 ZH8 F8) hZ (hw _ (List.mem_of_getElem? (i := 71) rfl)) (hw _ (List.mem_of_getElem? (i := 3) rfl)) (by decide) (by decide)) qa11 qc11 (g := (mkF m 86 #[.val (.int p0), .val (.int p1), .val (.int p2), .val (.int p3), .val (.int p4), .val (.int (p0 &&& (63 : Int32))), .val (.int (p1 &&& (127 : Int32))), .val (.ref b1), .val (.ref b4), .val (.ref b6), .unset, .unset] [(.ref b4)])) rfl (by rw [hml]; rfl) (Steps.refl _) (argsL := []) (rest := []) (lenOf pd0_2 rfl) rfl (by show 2 * 0 + _ ≤ _; exact Nat.le_of_eq rfl) (hb hby at_86) (fun _ _ => ⟨rfl, rfl, (by decide : 5 + 0 ≤ _), (by decide : 384 + 0 ≤ _)⟩)
      dsimp only [Pt.U, Pt.locs, Pt.cells, Pt.slots] at X11 l11 y11 z11 st11 hQ11
      subst l11 y11 z11
      obtain ⟨rfl, Nq11, e11⟩ := hQ11
      have N11 := Fr.app N8 Nq11
      have eh11 : T11.heap = T8.heap := e11
      refine own_pre (B := T11.setTop (mkF m 89 #[.val (.int p0), .val (.int p1), .val (.int p2), .val (.int p3), .val (.int p4), .val (.int (p0 &&& (63 : Int32))), .val (.int (p1 &&& (127 : Int32))), .val (.ref b1), .val (.ref b4), .val (.ref b6), .unset, .unset] [(.ref b8)])) (fun t q => st11.trans q) ?_
      refine own_pre (B := T11.setTop (mkF m 91 #[.val (.int p0), .val (.int p1), .val (.int p2), .val (.int p3), .val (.int p4), .val (.int (p0 &&& (63 : Int32))), .val (.int (p1 &&& (127 : Int32))), .val (.ref b1), .val (.ref b4), .val (.ref b6), .val (.ref b8), .unset] [])) (fun t k => XS.astore X11.here hx rfl (hb hby at_89) rfl rfl (l' := #[.val (.int p0), .val (.int p1), .val (.int p2), .val (.int p3), .val (.int p4), .val (.int (p0 &&& (63 : Int32))), .val (.int (p1 &&& (127 : Int32))), .val (.ref b1), .val (.ref b4), .val (.ref b6), .val (.ref b8), .unset]) rfl k) ?_
      refine own_pre (B := T11.setTop (mkF m 93 #[.val (.int p0), .val (.int p1), .val (.int p2), .val (.int p3), .val (.int p4), .val (.int (p0 &&& (63 : Int32))), .val (.int (p1 &&& (127 : Int32))), .val (.ref b1), .val (.ref b4), .val (.ref b6), .val (.ref b8), .unset] [(.ref b4)])) (fun t k => XS.aload X11.here hx rfl (hb hby at_91) rfl rfl k) ?_
      obtain ⟨cq12, kq12, qa12, qb12, qc12⟩ := isOf hZ eh11 (F8).1
      obtain ⟨_, _, ⟨T12, L12, k12, n12⟩, -, X12, ⟨Lc12, hQ12, l12, y12, z12⟩, st12⟩ := X11.virtualBackUp hx (C := "com/example/quillon/quillon/storage/LogFormat$RecordBuffer") (owner := "java/io/ByteArrayOutputStream") (x := (⟨"com/example/quillon/quillon/storage/LogFormat$RecordBuffer", "size", "()I"⟩ : MethodName)) (y := (⟨"java/io/ByteArrayOutputStream", "size", "()I"⟩ : MethodName)) hown (mvT hZ (hw _ (List.mem_of_getElem? (i := 81) rfl))) (mvT hZ (hw _ (List.mem_of_getElem? (i := 82) rfl))) (mvT hZ (hw _ (List.mem_of_getElem? (i := 83) rfl))) (by decide) (mvT hZ (hw _ (List.mem_of_getElem? (i := 85) rfl))) (mvT hZ (hw _ (List.mem_of_getElem? (i := 84) rfl))) (own_backS (W := 0) (rmSz l Z a0 hw b4 (.ref b8) (0 : Int32) (p0 &&& (63 : Int32)) T8.heap n0 ZH8 F8) hZ (hw _ (List.mem_of_getElem? (i := 86) rfl)) (hw _ (List.mem_of_getElem? (i := 84) rfl)) (hw _ (List.mem_of_getElem? (i := 10) rfl)) U8 (by decide) (by decide)) qa12 qc12 (g := (mkF m 93 #[.val (.int p0), .val (.int p1), .val (.int p2), .val (.int p3), .val (.int p4), .val (.int (p0 &&& (63 : Int32))), .val (.int (p1 &&& (127 : Int32))), .val (.ref b1), .val (.ref b4), .val (.ref b6), .val (.ref b8), .unset] [(.ref b4)])) rfl (by rw [hml]; rfl) (Steps.refl _) (argsL := []) (rest := []) (lenOf pd0_4 rfl) rfl (by show 2 * 0 + _ ≤ _; exact Nat.le_of_eq rfl) (hb hby at_93) (fun _ _ => ⟨rfl, eh11, (by decide : 5 + 0 ≤ _), (by decide : 384 + 0 ≤ _)⟩)
      dsimp only [Pt.U, Pt.locs, Pt.cells, Pt.slots] at X12 l12 y12 z12 st12 hQ12
      subst l12 y12 z12
      obtain ⟨rfl, Nq12, e12⟩ := hQ12
      have N12 := Fr.app N11 Nq12
      have eh12 : T12.heap = T8.heap := e12
      refine own_pre (B := T12.setTop (mkF m 96 #[.val (.int p0), .val (.int p1), .val (.int p2), .val (.int p3), .val (.int p4), .val (.int (p0 &&& (63 : Int32))), .val (.int (p1 &&& (127 : Int32))), .val (.ref b1), .val (.ref b4), .val (.ref b6), .val (.ref b8), .unset] [(.int (0 : Int32))])) (fun t q => st12.trans q) ?_
      refine own_pre (B := T12.setTop (mkF m 98 #[.val (.int p0), .val (.int p1), .val (.int p2), .val (.int p3), .val (.int p4), .val (.int (p0 &&& (63 : Int32))), .val (.int (p1 &&& (127 : Int32))), .val (.ref b1), .val (.ref b4), .val (.ref b6), .val (.ref b8), .val (.int (0 : Int32))] [])) (fun t k => XS.istore X12.here hx rfl (hb hby at_96) rfl (l' := #[.val (.int p0), .val (.int p1), .val (.int p2), .val (.int p3), .val (.int p4), .val (.int (p0 &&& (63 : Int32))), .val (.int (p1 &&& (127 : Int32))), .val (.ref b1), .val (.ref b4), .val (.ref b6), .val (.ref b8), .val (.int (0 : Int32))]) rfl k) ?_
      refine own_pre (B := T12.setTop (mkF m 100 #[.val (.int p0), .val (.int p1), .val (.int p2), .val (.int p3), .val (.int p4), .val (.int (p0 &&& (63 : Int32))), .val (.int (p1 &&& (127 : Int32))), .val (.ref b1), .val (.ref b4), .val (.ref b6), .val (.ref b8), .val (.int (0 : Int32))] [(.ref b8)])) (fun t k => XS.aload X12.here hx rfl (hb hby at_98) rfl rfl k) ?_
      refine own_pre (B := T12.setTop (mkF m 101 #[.val (.int p0), .val (.int p1), .val (.int p2), .val (.int p3), .val (.int p4), .val (.int (p0 &&& (63 : Int32))), .val (.int (p1 &&& (127 : Int32))), .val (.ref b1), .val (.ref b4), .val (.ref b6), .val (.ref b8), .val (.int (0 : Int32))] [(.int (p0 &&& (63 : Int32)))])) (own_len X12 hx hZ eh12 V8 (g := (mkF m 100 #[.val (.int p0), .val (.int p1), .val (.int p2), .val (.int p3), .val (.int p4), .val (.int (p0 &&& (63 : Int32))), .val (.int (p1 &&& (127 : Int32))), .val (.ref b1), .val (.ref b4), .val (.ref b6), .val (.ref b8), .val (.int (0 : Int32))] [(.ref b8)])) rfl rfl (hb hby at_100)) ?_
      refine own_pre (B := T12.setTop (mkF m 103 #[.val (.int p0), .val (.int p1), .val (.int p2), .val (.int p3), .val (.int p4), .val (.int (p0 &&& (63 : Int32))), .val (.int (p1 &&& (127 : Int32))), .val (.ref b1), .val (.ref b4), .val (.ref b6), .val (.ref b8), .val (.int (0 : Int32))] [(.int (p0 &&& (63 : Int32))), (.int (p0 &&& (63 : Int32)))])) (fun t k => XS.iload X12.here hx rfl (hb hby at_101) rfl k) ?_
      refine own_pre (B := T12.setTop (mkF m 108 #[.val (.int p0), .val (.int p1), .val (.int p2), .val (.int p3), .val (.int p4), .val (.int (p0 &&& (63 : Int32))), .val (.int (p1 &&& (127 : Int32))), .val (.ref b1), .val (.ref b4), .val (.ref b6), .val (.ref b8), .val (.int (0 : Int32))] [])) (fun t k => XS.icmpYes X12.here hx rfl (pc0 := 103) (pc' := 108) rfl (hb hby at_103) rfl (teq (rfl : (p0 &&& (63 : Int32)) = (p0 &&& (63 : Int32)))).1 (by decide) (by decide) k) ?_
      refine own_pre (B := T12.setTop (mkF m 110 #[.val (.int p0), .val (.int p1), .val (.int p2), .val (.int p3), .val (.int p4), .val (.int (p0 &&& (63 : Int32))), .val (.int (p1 &&& (127 : Int32))), .val (.ref b1), .val (.ref b4), .val (.ref b6), .val (.ref b8), .val (.int (0 : Int32))] [(.int (p1 &&& (127 : Int32)))])) (fun t k => XS.iload X12.here hx rfl (hb hby at_108) rfl k) ?_
      refine own_pre (B := T12.setTop (mkF m 112 #[.val (.int p0), .val (.int p1), .val (.int p2), .val (.int p3), .val (.int p4), .val (.int (p0 &&& (63 : Int32))), .val (.int (p1 &&& (127 : Int32))), .val (.ref b1), .val (.ref b4), .val (.ref b6), .val (.ref b8), .val (.int (0 : Int32))] [(.int (p0 &&& (63 : Int32))), (.int (p1 &&& (127 : Int32)))])) (fun t k => XS.iload X12.here hx rfl (hb hby at_110) rfl k) ?_
      refine own_pre (B := T12.setTop (mkF m 115 #[.val (.int p0), .val (.int p1), .val (.int p2), .val (.int p3), .val (.int p4), .val (.int (p0 &&& (63 : Int32))), .val (.int (p1 &&& (127 : Int32))), .val (.ref b1), .val (.ref b4), .val (.ref b6), .val (.ref b8), .val (.int (0 : Int32))] [])) (fun t k => XS.icmpNo X12.here hx rfl (hb hby at_112) rfl (tlt (own_lt hc : (p0 &&& (63 : Int32)) < (p1 &&& (127 : Int32)))).2.2.2 k) ?_
      refine own_pre (B := T12.setTop (mkF m 117 #[.val (.int p0), .val (.int p1), .val (.int p2), .val (.int p3), .val (.int p4), .val (.int (p0 &&& (63 : Int32))), .val (.int (p1 &&& (127 : Int32))), .val (.ref b1), .val (.ref b4), .val (.ref b6), .val (.ref b8), .val (.int (0 : Int32))] [(.int (0 : Int32))])) (fun t k => XS.iload X12.here hx rfl (hb hby at_115) rfl k) ?_
      refine own_pre (B := T12.setTop (mkF m 120 #[.val (.int p0), .val (.int p1), .val (.int p2), .val (.int p3), .val (.int p4), .val (.int (p0 &&& (63 : Int32))), .val (.int (p1 &&& (127 : Int32))), .val (.ref b1), .val (.ref b4), .val (.ref b6), .val (.ref b8), .val (.int (0 : Int32))] [])) (fun t k => XS.ifNo X12.here hx rfl (hb hby at_117) rfl ((if0 _ _).trans (teq ((by decide) : (0 : Int32) = (0 : Int32))).2) k) ?_
      refine own_pre (B := T12.setTop (mkF m 122 #[.val (.int p0), .val (.int p1), .val (.int p2), .val (.int p3), .val (.int p4), .val (.int (p0 &&& (63 : Int32))), .val (.int (p1 &&& (127 : Int32))), .val (.ref b1), .val (.ref b4), .val (.ref b6), .val (.ref b8), .val (.int (0 : Int32))] [(.ref b8)])) (fun t k => XS.aload X12.here hx rfl (hb hby at_120) rfl rfl k) ?_
      refine own_pre (B := T12.setTop (mkF m 124 #[.val (.int p0), .val (.int p1), .val (.int p2), .val (.int p3), .val (.int p4), .val (.int (p0 &&& (63 : Int32))), .val (.int (p1 &&& (127 : Int32))), .val (.ref b1), .val (.ref b4), .val (.ref b6), .val (.ref b8), .val (.int (0 : Int32))] [(.ref b6), (.ref b8)])) (fun t k => XS.aload X12.here hx rfl (hb hby at_122) rfl rfl k) ?_
      refine own_pre (B := T12.setTop (mkF m 127 #[.val (.int p0), .val (.int p1), .val (.int p2), .val (.int p3), .val (.int p4), .val (.int (p0 &&& (63 : Int32))), .val (.int (p1 &&& (127 : Int32))), .val (.ref b1), .val (.ref b4), .val (.ref b6), .val (.ref b8), .val (.int (0 : Int32))] [])) (fun t k => Jvm.RoadKit.acmp (g := (mkF m 124 #[.val (.int p0), .val (.int p1), .val (.int p2), .val (.int p3), .val (.int p4), .val (.int (p0 &&& (63 : Int32))), .val (.int (p1 &&& (127 : Int32))), .val (.ref b1), .val (.ref b4), .val (.ref b6), .val (.ref b8), .val (.int (0 : Int32))] [(.ref b6), (.ref b8)])) X12 hx rfl rfl rfl (pc0 := 124) (pc' := 127) (same := false) rfl (hb hby at_124) rfl (decide_eq_false fun q => nbb8 (Value.ref.inj q)) (by decide) (by decide) k) ?_
      refine own_pre (B := T12.setTop (mkF m 128 #[.val (.int p0), .val (.int p1), .val (.int p2), .val (.int p3), .val (.int p4), .val (.int (p0 &&& (63 : Int32))), .val (.int (p1 &&& (127 : Int32))), .val (.ref b1), .val (.ref b4), .val (.ref b6), .val (.ref b8), .val (.int (0 : Int32))] [(.int (1 : Int32))])) (fun t k => XS.iconst X12.here hx rfl (hb hby at_127) k) ?_
      refine own_pre (B := T12.setTop (mkF m 132 #[.val (.int p0), .val (.int p1), .val (.int p2), .val (.int p3), .val (.int p4), .val (.int (p0 &&& (63 : Int32))), .val (.int (p1 &&& (127 : Int32))), .val (.ref b1), .val (.ref b4), .val (.ref b6), .val (.ref b8), .val (.int (0 : Int32))] [(.int (1 : Int32))])) (fun t k => XS.goto X12.here hx rfl (pc0 := 128) (pc' := 132) rfl (hb hby at_128) (by decide) (by decide) k) ?_
      exact own_retZ X12 hx hlk Bd.returns (hb hby at_132) (⟨rfl, N12⟩) (by decide) (by decide)
    · skip
      refine own_pre (B := T8.setTop (mkF m 79 #[.val (.int p0), .val (.int p1), .val (.int p2), .val (.int p3), .val (.int p4), .val (.int (p0 &&& (63 : Int32))), .val (.int (p1 &&& (127 : Int32))), .val (.ref b1), .val (.ref b4), .val (.ref b6), .unset, .unset] [])) (fun t k => XS.ifNo X8.here hx rfl (hb hby at_76) rfl ((if0 _ _).trans (feq hc9).1) k) ?_
      refine own_pre (B := T8.setTop (mkF m 81 #[.val (.int p0), .val (.int p1), .val (.int p2), .val (.int p3), .val (.int p4), .val (.int (p0 &&& (63 : Int32))), .val (.int (p1 &&& (127 : Int32))), .val (.ref b1), .val (.ref b4), .val (.ref b6), .unset, .unset] [(.ref b4)])) (fun t k => XS.aload X8.here hx rfl (hb hby at_79) rfl rfl k) ?_
      obtain ⟨cq14, kq14, qa14, qb14, qc14⟩ := isOf hZ rfl (F8).1
      obtain ⟨_, _, ⟨T14, L14, k14, n14⟩, -, X14, ⟨Lc14, hQ14, l14, y14, z14⟩, st14⟩ := X8.virtualBack hx (y := (⟨"com/example/quillon/quillon/storage/LogFormat$RecordBuffer", "shrink", "()V"⟩ : MethodName)) (z := (⟨"com/example/quillon/quillon/storage/LogFormat$RecordBuffer", "shrink", "()V"⟩ : MethodName)) hown (mvT hZ (hw _ (List.mem_of_getElem? (i := 74) rfl))) (mvT hZ (hw _ (List.mem_of_getElem? (i := 75) rfl))) (notFace_of_selects (args := #[]) (mvT hZ (hw _ (List.mem_of_getElem? (i := 77) rfl)))) (mvT hZ (hw _ (List.mem_of_getElem? (i := 77) rfl))) (mvT hZ (hw _ (List.mem_of_getElem? (i := 76) rfl))) (by decide) (backOf (W := 0) (rmS0 l Z a0 hw [] b4 b8 (0 : Int32) (p0 &&& (63 : Int32)) kc8 (p0 &&& (63 : Int32)) [] T8.heap n0 ZH8 F8 V8 (own_nlt (Int.le_refl _))) hZ (hw _ (List.mem_of_getElem? (i := 78) rfl)) (hw _ (List.mem_of_getElem? (i := 3) rfl)) (by decide) (by decide)) qa14 qc14 (g := (mkF m 81 #[.val (.int p0), .val (.int p1), .val (.int p2), .val (.int p3), .val (.int p4), .val (.int (p0 &&& (63 : Int32))), .val (.int (p1 &&& (127 : Int32))), .val (.ref b1), .val (.ref b4), .val (.ref b6), .unset, .unset] [(.ref b4)])) rfl (by rw [hml]; rfl) (Steps.refl _) (argsL := []) (rest := []) (lenOf pd0_3 rfl) rfl (by show 2 * 0 + _ ≤ _; exact Nat.le_of_eq rfl) (hb hby at_81) (fun _ _ => ⟨rfl, rfl, (by decide : 5 + 0 ≤ _), (by decide : 384 + 0 ≤ _)⟩)
      dsimp only [Pt.U, Pt.locs, Pt.cells, Pt.slots] at X14 l14 y14 z14 st14 hQ14
      subst l14 y14 z14
      obtain ⟨rfl, Nq14, e14⟩ := hQ14
      have N14 := Fr.app N8 Nq14
      have eh14 : T14.heap = T8.heap := e14
      refine own_pre (B := T14.setTop (mkF m 84 #[.val (.int p0), .val (.int p1), .val (.int p2), .val (.int p3), .val (.int p4), .val (.int (p0 &&& (63 : Int32))), .val (.int (p1 &&& (127 : Int32))), .val (.ref b1), .val (.ref b4), .val (.ref b6), .unset, .unset] [])) (fun t q => st14.trans q) ?_
      refine own_pre (B := T14.setTop (mkF m 86 #[.val (.int p0), .val (.int p1), .val (.int p2), .val (.int p3), .val (.int p4), .val (.int (p0 &&& (63 : Int32))), .val (.int (p1 &&& (127 : Int32))), .val (.ref b1), .val (.ref b4), .val (.ref b6), .unset, .unset] [(.ref b4)])) (fun t k => XS.aload X14.here hx rfl (hb hby at_84) rfl rfl k) ?_
      obtain ⟨cq15, kq15, qa15, qb15, qc15⟩ := isOf hZ eh14 (F8).1
      obtain ⟨_, _, ⟨T15, L15, k15, n15⟩, -, X15, ⟨Lc15, hQ15, l15, y15, z15⟩, st15⟩ := X14.virtualBack hx (y := (⟨"com/example/quillon/quillon/storage/LogFormat$RecordBuffer", "bytes", "()[B"⟩ : MethodName)) (z := (⟨"com/example/quillon/quillon/storage/LogFormat$RecordBuffer", "bytes", "()[B"⟩ : MethodName)) hown (mvT hZ (hw _ (List.mem_of_getElem? (i := 67) rfl))) (mvT hZ (hw _ (List.mem_of_getElem? (i := 68) rfl))) (notFace_of_selects (args := #[]) (mvT hZ (hw _ (List.mem_of_getElem? (i := 70) rfl)))) (mvT hZ (hw _ (List.mem_of_getElem? (i := 70) rfl))) (mvT hZ (hw _ (List.mem_of_getElem? (i := 69) rfl))) (by decide) (backOf (W := 0) (rm13 l Z a0 hw [] b4 b8 (0 : Int32) (p0 &&& (63 : Int32)) T8.heap n0 ZH8 F8) hZ (hw _ (List.mem_of_getElem? (i := 71) rfl)) (hw _ (List.mem_of_getElem? (i := 3) rfl)) (by decide) (by decide)) qa15 qc15 (g := (mkF m 86 #[.val (.int p0), .val (.int p1), .val (.int p2), .val (.int p3), .val (.int p4), .val (.int (p0 &&& (63 : Int32))), .val (.int (p1 &&& (127 : Int32))), .val (.ref b1), .val (.ref b4), .val (.ref b6), .unset, .unset] [(.ref b4)])) rfl (by rw [hml]; rfl) (Steps.refl _) (argsL := []) (rest := []) (lenOf pd0_2 rfl) rfl (by show 2 * 0 + _ ≤ _; exact Nat.le_of_eq rfl) (hb hby at_86) (fun _ _ => ⟨rfl, eh14, (by decide : 5 + 0 ≤ _), (by decide : 384 + 0 ≤ _)⟩)
      dsimp only [Pt.U, Pt.locs, Pt.cells, Pt.slots] at X15 l15 y15 z15 st15 hQ15
      subst l15 y15 z15
      obtain ⟨rfl, Nq15, e15⟩ := hQ15
      have N15 := Fr.app N14 Nq15
      have eh15 : T15.heap = T8.heap := e15
      refine own_pre (B := T15.setTop (mkF m 89 #[.val (.int p0), .val (.int p1), .val (.int p2), .val (.int p3), .val (.int p4), .val (.int (p0 &&& (63 : Int32))), .val (.int (p1 &&& (127 : Int32))), .val (.ref b1), .val (.ref b4), .val (.ref b6), .unset, .unset] [(.ref b8)])) (fun t q => st15.trans q) ?_
      refine own_pre (B := T15.setTop (mkF m 91 #[.val (.int p0), .val (.int p1), .val (.int p2), .val (.int p3), .val (.int p4), .val (.int (p0 &&& (63 : Int32))), .val (.int (p1 &&& (127 : Int32))), .val (.ref b1), .val (.ref b4), .val (.ref b6), .val (.ref b8), .unset] [])) (fun t k => XS.astore X15.here hx rfl (hb hby at_89) rfl rfl (l' := #[.val (.int p0), .val (.int p1), .val (.int p2), .val (.int p3), .val (.int p4), .val (.int (p0 &&& (63 : Int32))), .val (.int (p1 &&& (127 : Int32))), .val (.ref b1), .val (.ref b4), .val (.ref b6), .val (.ref b8), .unset]) rfl k) ?_
      refine own_pre (B := T15.setTop (mkF m 93 #[.val (.int p0), .val (.int p1), .val (.int p2), .val (.int p3), .val (.int p4), .val (.int (p0 &&& (63 : Int32))), .val (.int (p1 &&& (127 : Int32))), .val (.ref b1), .val (.ref b4), .val (.ref b6), .val (.ref b8), .unset] [(.ref b4)])) (fun t k => XS.aload X15.here hx rfl (hb hby at_91) rfl rfl k) ?_
      obtain ⟨cq16, kq16, qa16, qb16, qc16⟩ := isOf hZ eh15 (F8).1
      obtain ⟨_, _, ⟨T16, L16, k16, n16⟩, -, X16, ⟨Lc16, hQ16, l16, y16, z16⟩, st16⟩ := X15.virtualBackUp hx (C := "com/example/quillon/quillon/storage/LogFormat$RecordBuffer") (owner := "java/io/ByteArrayOutputStream") (x := (⟨"com/example/quillon/quillon/storage/LogFormat$RecordBuffer", "size", "()I"⟩ : MethodName)) (y := (⟨"java/io/ByteArrayOutputStream", "size", "()I"⟩ : MethodName)) hown (mvT hZ (hw _ (List.mem_of_getElem? (i := 81) rfl))) (mvT hZ (hw _ (List.mem_of_getElem? (i := 82) rfl))) (mvT hZ (hw _ (List.mem_of_getElem? (i := 83) rfl))) (by decide) (mvT hZ (hw _ (List.mem_of_getElem? (i := 85) rfl))) (mvT hZ (hw _ (List.mem_of_getElem? (i := 84) rfl))) (own_backS (W := 0) (rmSz l Z a0 hw b4 (.ref b8) (0 : Int32) (p0 &&& (63 : Int32)) T8.heap n0 ZH8 F8) hZ (hw _ (List.mem_of_getElem? (i := 86) rfl)) (hw _ (List.mem_of_getElem? (i := 84) rfl)) (hw _ (List.mem_of_getElem? (i := 10) rfl)) U8 (by decide) (by decide)) qa16 qc16 (g := (mkF m 93 #[.val (.int p0), .val (.int p1), .val (.int p2), .val (.int p3), .val (.int p4), .val (.int (p0 &&& (63 : Int32))), .val (.int (p1 &&& (127 : Int32))), .val (.ref b1), .val (.ref b4), .val (.ref b6), .val (.ref b8), .unset] [(.ref b4)])) rfl (by rw [hml]; rfl) (Steps.refl _) (argsL := []) (rest := []) (lenOf pd0_4 rfl) rfl (by show 2 * 0 + _ ≤ _; exact Nat.le_of_eq rfl) (hb hby at_93) (fun _ _ => ⟨rfl, eh15, (by decide : 5 + 0 ≤ _), (by decide : 384 + 0 ≤ _)⟩)
      dsimp only [Pt.U, Pt.locs, Pt.cells, Pt.slots] at X16 l16 y16 z16 st16 hQ16
      subst l16 y16 z16
      obtain ⟨rfl, Nq16, e16⟩ := hQ16
      have N16 := Fr.app N15 Nq16
      have eh16 : T16.heap = T8.heap := e16
      refine own_pre (B := T16.setTop (mkF m 96 #[.val (.int p0), .val (.int p1), .val (.int p2), .val (.int p3), .val (.int p4), .val (.int (p0 &&& (63 : Int32))), .val (.int (p1 &&& (127 : Int32))), .val (.ref b1), .val (.ref b4), .val (.ref b6), .val (.ref b8), .unset] [(.int (0 : Int32))])) (fun t q => st16.trans q) ?_
      refine own_pre (B := T16.setTop (mkF m 98 #[.val (.int p0), .val (.int p1), .val (.int p2), .val (.int p3), .val (.int p4), .val (.int (p0 &&& (63 : Int32))), .val (.int (p1 &&& (127 : Int32))), .val (.ref b1), .val (.ref b4), .val (.ref b6), .val (.ref b8), .val (.int (0 : Int32))] [])) (fun t k => XS.istore X16.here hx rfl (hb hby at_96) rfl (l' := #[.val (.int p0), .val (.int p1), .val (.int p2), .val (.int p3), .val (.int p4), .val (.int (p0 &&& (63 : Int32))), .val (.int (p1 &&& (127 : Int32))), .val (.ref b1), .val (.ref b4), .val (.ref b6), .val (.ref b8), .val (.int (0 : Int32))]) rfl k) ?_
      refine own_pre (B := T16.setTop (mkF m 100 #[.val (.int p0), .val (.int p1), .val (.int p2), .val (.int p3), .val (.int p4), .val (.int (p0 &&& (63 : Int32))), .val (.int (p1 &&& (127 : Int32))), .val (.ref b1), .val (.ref b4), .val (.ref b6), .val (.ref b8), .val (.int (0 : Int32))] [(.ref b8)])) (fun t k => XS.aload X16.here hx rfl (hb hby at_98) rfl rfl k) ?_
      refine own_pre (B := T16.setTop (mkF m 101 #[.val (.int p0), .val (.int p1), .val (.int p2), .val (.int p3), .val (.int p4), .val (.int (p0 &&& (63 : Int32))), .val (.int (p1 &&& (127 : Int32))), .val (.ref b1), .val (.ref b4), .val (.ref b6), .val (.ref b8), .val (.int (0 : Int32))] [(.int (p0 &&& (63 : Int32)))])) (own_len X16 hx hZ eh16 V8 (g := (mkF m 100 #[.val (.int p0), .val (.int p1), .val (.int p2), .val (.int p3), .val (.int p4), .val (.int (p0 &&& (63 : Int32))), .val (.int (p1 &&& (127 : Int32))), .val (.ref b1), .val (.ref b4), .val (.ref b6), .val (.ref b8), .val (.int (0 : Int32))] [(.ref b8)])) rfl rfl (hb hby at_100)) ?_
      refine own_pre (B := T16.setTop (mkF m 103 #[.val (.int p0), .val (.int p1), .val (.int p2), .val (.int p3), .val (.int p4), .val (.int (p0 &&& (63 : Int32))), .val (.int (p1 &&& (127 : Int32))), .val (.ref b1), .val (.ref b4), .val (.ref b6), .val (.ref b8), .val (.int (0 : Int32))] [(.int (p0 &&& (63 : Int32))), (.int (p0 &&& (63 : Int32)))])) (fun t k => XS.iload X16.here hx rfl (hb hby at_101) rfl k) ?_
      refine own_pre (B := T16.setTop (mkF m 108 #[.val (.int p0), .val (.int p1), .val (.int p2), .val (.int p3), .val (.int p4), .val (.int (p0 &&& (63 : Int32))), .val (.int (p1 &&& (127 : Int32))), .val (.ref b1), .val (.ref b4), .val (.ref b6), .val (.ref b8), .val (.int (0 : Int32))] [])) (fun t k => XS.icmpYes X16.here hx rfl (pc0 := 103) (pc' := 108) rfl (hb hby at_103) rfl (teq (rfl : (p0 &&& (63 : Int32)) = (p0 &&& (63 : Int32)))).1 (by decide) (by decide) k) ?_
      refine own_pre (B := T16.setTop (mkF m 110 #[.val (.int p0), .val (.int p1), .val (.int p2), .val (.int p3), .val (.int p4), .val (.int (p0 &&& (63 : Int32))), .val (.int (p1 &&& (127 : Int32))), .val (.ref b1), .val (.ref b4), .val (.ref b6), .val (.ref b8), .val (.int (0 : Int32))] [(.int (p1 &&& (127 : Int32)))])) (fun t k => XS.iload X16.here hx rfl (hb hby at_108) rfl k) ?_
      refine own_pre (B := T16.setTop (mkF m 112 #[.val (.int p0), .val (.int p1), .val (.int p2), .val (.int p3), .val (.int p4), .val (.int (p0 &&& (63 : Int32))), .val (.int (p1 &&& (127 : Int32))), .val (.ref b1), .val (.ref b4), .val (.ref b6), .val (.ref b8), .val (.int (0 : Int32))] [(.int (p0 &&& (63 : Int32))), (.int (p1 &&& (127 : Int32)))])) (fun t k => XS.iload X16.here hx rfl (hb hby at_110) rfl k) ?_
      refine own_pre (B := T16.setTop (mkF m 115 #[.val (.int p0), .val (.int p1), .val (.int p2), .val (.int p3), .val (.int p4), .val (.int (p0 &&& (63 : Int32))), .val (.int (p1 &&& (127 : Int32))), .val (.ref b1), .val (.ref b4), .val (.ref b6), .val (.ref b8), .val (.int (0 : Int32))] [])) (fun t k => XS.icmpNo X16.here hx rfl (hb hby at_112) rfl (tlt (own_lt hc : (p0 &&& (63 : Int32)) < (p1 &&& (127 : Int32)))).2.2.2 k) ?_
      refine own_pre (B := T16.setTop (mkF m 117 #[.val (.int p0), .val (.int p1), .val (.int p2), .val (.int p3), .val (.int p4), .val (.int (p0 &&& (63 : Int32))), .val (.int (p1 &&& (127 : Int32))), .val (.ref b1), .val (.ref b4), .val (.ref b6), .val (.ref b8), .val (.int (0 : Int32))] [(.int (0 : Int32))])) (fun t k => XS.iload X16.here hx rfl (hb hby at_115) rfl k) ?_
      refine own_pre (B := T16.setTop (mkF m 120 #[.val (.int p0), .val (.int p1), .val (.int p2), .val (.int p3), .val (.int p4), .val (.int (p0 &&& (63 : Int32))), .val (.int (p1 &&& (127 : Int32))), .val (.ref b1), .val (.ref b4), .val (.ref b6), .val (.ref b8), .val (.int (0 : Int32))] [])) (fun t k => XS.ifNo X16.here hx rfl (hb hby at_117) rfl ((if0 _ _).trans (teq ((by decide) : (0 : Int32) = (0 : Int32))).2) k) ?_
      refine own_pre (B := T16.setTop (mkF m 122 #[.val (.int p0), .val (.int p1), .val (.int p2), .val (.int p3), .val (.int p4), .val (.int (p0 &&& (63 : Int32))), .val (.int (p1 &&& (127 : Int32))), .val (.ref b1), .val (.ref b4), .val (.ref b6), .val (.ref b8), .val (.int (0 : Int32))] [(.ref b8)])) (fun t k => XS.aload X16.here hx rfl (hb hby at_120) rfl rfl k) ?_
      refine own_pre (B := T16.setTop (mkF m 124 #[.val (.int p0), .val (.int p1), .val (.int p2), .val (.int p3), .val (.int p4), .val (.int (p0 &&& (63 : Int32))), .val (.int (p1 &&& (127 : Int32))), .val (.ref b1), .val (.ref b4), .val (.ref b6), .val (.ref b8), .val (.int (0 : Int32))] [(.ref b6), (.ref b8)])) (fun t k => XS.aload X16.here hx rfl (hb hby at_122) rfl rfl k) ?_
      refine own_pre (B := T16.setTop (mkF m 127 #[.val (.int p0), .val (.int p1), .val (.int p2), .val (.int p3), .val (.int p4), .val (.int (p0 &&& (63 : Int32))), .val (.int (p1 &&& (127 : Int32))), .val (.ref b1), .val (.ref b4), .val (.ref b6), .val (.ref b8), .val (.int (0 : Int32))] [])) (fun t k => Jvm.RoadKit.acmp (g := (mkF m 124 #[.val (.int p0), .val (.int p1), .val (.int p2), .val (.int p3), .val (.int p4), .val (.int (p0 &&& (63 : Int32))), .val (.int (p1 &&& (127 : Int32))), .val (.ref b1), .val (.ref b4), .val (.ref b6), .val (.ref b8), .val (.int (0 : Int32))] [(.ref b6), (.ref b8)])) X16 hx rfl rfl rfl (pc0 := 124) (pc' := 127) (same := false) rfl (hb hby at_124) rfl (decide_eq_false fun q => nbb8 (Value.ref.inj q)) (by decide) (by decide) k) ?_
      refine own_pre (B := T16.setTop (mkF m 128 #[.val (.int p0), .val (.int p1), .val (.int p2), .val (.int p3), .val (.int p4), .val (.int (p0 &&& (63 : Int32))), .val (.int (p1 &&& (127 : Int32))), .val (.ref b1), .val (.ref b4), .val (.ref b6), .val (.ref b8), .val (.int (0 : Int32))] [(.int (1 : Int32))])) (fun t k => XS.iconst X16.here hx rfl (hb hby at_127) k) ?_
      refine own_pre (B := T16.setTop (mkF m 132 #[.val (.int p0), .val (.int p1), .val (.int p2), .val (.int p3), .val (.int p4), .val (.int (p0 &&& (63 : Int32))), .val (.int (p1 &&& (127 : Int32))), .val (.ref b1), .val (.ref b4), .val (.ref b6), .val (.ref b8), .val (.int (0 : Int32))] [(.int (1 : Int32))])) (fun t k => XS.goto X16.here hx rfl (pc0 := 128) (pc' := 132) rfl (hb hby at_128) (by decide) (by decide) k) ?_
      exact own_retZ X16 hx hlk Bd.returns (hb hby at_132) (⟨rfl, N16⟩) (by decide) (by decide)
  exact own_pre pre0 g_0
theorem ef_0B0 (m : MethodId) (p0 : Int32) (p1 : Int32) (p2 : Int32) (p3 : Int32) (p4 : Int32) : entryFrame m #[(.int p0), (.int p1), (.int p2), (.int p3), (.int p4)] maxLocals = mkF m 0 #[.val (.int p0), .val (.int p1), .val (.int p2), .val (.int p3), .val (.int p4), .unset, .unset, .unset, .unset, .unset, .unset, .unset] [] := by first | (simp [entryFrame, mkF, argsToLocals, Value.category, maxLocals]; done) | rfl
def Q0B0 (Z : State) (p0 : Int32) (p1 : Int32) (p2 : Int32) (p3 : Int32) (p4 : Int32) (h0 : Heap) (n0 : Nat) (v : Option Value) (h : Heap) (L : List Loc) : Prop := v = some (.int 1) ∧ Fr n0 L
set_option maxRecDepth 65536 in
set_option maxHeartbeats 40000000 in
theorem rm0B0 (l : Launch) (Z : State) (a0 : Array Value) (hw : ∀ d ∈ tables_1, d.before a0 Z = true) (ws : List Jvm.Cond) (p0 : Int32) (p1 : Int32) (p2 : Int32) (p3 : Int32) (p4 : Int32) (h0 : Heap) (n0 : Nat) (Z0 : n0 ≤ h0.size) (hc : (p1 &&& (127 : Int32)).toInt ≤ (p0 &&& (63 : Int32)).toInt) (hz : (p1 &&& (127 : Int32)).toInt = 0) :
    MetFree l x (head1 (Jvm.Cond.code x code maxLocals ret :: ws) room_1) (fun a U => a = #[(.int p0), (.int p1), (.int p2), (.int p3), (.int p4)] ∧ Z.Warmed39 U.vm ∧ U.heap = h0) (fun _ _ _ _ _ => True) (fun _ U o U' => ∃ v L, o = .returned v ∧ Q0B0 Z p0 p1 p2 p3 p4 h0 n0 v U'.heap L ∧ FrameEnd U o U' L room_1.cells room_1.slots) := by
  refine MetFree.of_bodySF (plainFor_of_name pn_0) hisR ?_
  intro p e s m args below meth c s₁ Bd hml0 hP hK
  obtain ⟨rfl, hZ, hh⟩ := hP
  have hx := Bd.exec
  have hby := Bd.bytes
  have hml : c.maxLocals = 12 := hml0
  have hlk : meth.locks = false := BodyLoose.notSynchronized Bd
  have hown : s.vm.findClass "com/example/quillon/quillon/storage/RecordBufferShrinkPinLaw" = some m.cls := findClass_of_methodNamed Bd.named
  have hnm := (name_of_methodNamed Bd.named Bd.method).1
  have X0 : Stand p l e room_1 s m #[(.int p0), (.int p1), (.int p2), (.int p3), (.int p4)] below meth c s₁ [] 0 0 := Stand.of_body Bd
  have e0 : s₁.heap = h0 := by rw [← hh, Bd.state]; rfl
  have N0 := Fr.nil n0
  have pre0 : ∀ t, Steps p.tables e below (s₁.setTop (mkF m 0 #[.val (.int p0), .val (.int p1), .val (.int p2), .val (.int p3), .val (.int p4), .unset, .unset, .unset, .unset, .unset, .unset, .unset] [])) t → Steps p.tables e below (s₁.setTop (entryFrame m #[(.int p0), (.int p1), (.int p2), (.int p3), (.int p4)] maxLocals)) t := fun t k => castTop (ef_0B0 m p0 p1 p2 p3 p4) k
  have g_0 : own_Fin p e below s (Q0B0 Z p0 p1 p2 p3 p4 h0 n0) room_1.cells room_1.slots (s₁.setTop (mkF m 0 #[.val (.int p0), .val (.int p1), .val (.int p2), .val (.int p3), .val (.int p4), .unset, .unset, .unset, .unset, .unset, .unset, .unset] [])) := by
    refine own_pre (B := s₁.setTop (mkF m 1 #[.val (.int p0), .val (.int p1), .val (.int p2), .val (.int p3), .val (.int p4), .unset, .unset, .unset, .unset, .unset, .unset, .unset] [(.int p0)])) (fun t k => XS.iloadN X0.here hx rfl (hb hby at_0) rfl k) ?_
    refine own_pre (B := s₁.setTop (mkF m 3 #[.val (.int p0), .val (.int p1), .val (.int p2), .val (.int p3), .val (.int p4), .unset, .unset, .unset, .unset, .unset, .unset, .unset] [(.int (63 : Int32)), (.int p0)])) (fun t k => XS.bipush X0.here hx rfl (hb hby at_1) k) ?_
    refine own_pre (B := s₁.setTop (mkF m 4 #[.val (.int p0), .val (.int p1), .val (.int p2), .val (.int p3), .val (.int p4), .unset, .unset, .unset, .unset, .unset, .unset, .unset] [(.int (p0 &&& (63 : Int32)))])) (fun t k => XS.iand X0.here hx rfl (hb hby at_3) rfl k) ?_
    refine own_pre (B := s₁.setTop (mkF m 6 #[.val (.int p0), .val (.int p1), .val (.int p2), .val (.int p3), .val (.int p4), .val (.int (p0 &&& (63 : Int32))), .unset, .unset, .unset, .unset, .unset, .unset] [])) (fun t k => XS.istore X0.here hx rfl (hb hby at_4) rfl (l' := #[.val (.int p0), .val (.int p1), .val (.int p2), .val (.int p3), .val (.int p4), .val (.int (p0 &&& (63 : Int32))), .unset, .unset, .unset, .unset, .unset, .unset]) rfl k) ?_
    refine own_pre (B := s₁.setTop (mkF m 7 #[.val (.int p0), .val (.int p1), .val (.int p2), .val (.int p3), .val (.int p4), .val (.int (p0 &&& (63 : Int32))), .unset, .unset, .unset, .unset, .unset, .unset] [(.int p1)])) (fun t k => XS.iloadN X0.here hx rfl (hb hby at_6) rfl k) ?_
    refine own_pre (B := s₁.setTop (mkF m 9 #[.val (.int p0), .val (.int p1), .val (.int p2), .val (.int p3), .val (.int p4), .val (.int (p0 &&& (63 : Int32))), .unset, .unset, .unset, .unset, .unset, .unset] [(.int (127 : Int32)), (.int p1)])) (fun t k => XS.bipush X0.here hx rfl (hb hby at_7) k) ?_
    refine own_pre (B := s₁.setTop (mkF m 10 #[.val (.int p0), .val (.int p1), .val (.int p2), .val (.int p3), .val (.int p4), .val (.int (p0 &&& (63 : Int32))), .unset, .unset, .unset, .unset, .unset, .unset] [(.int (p1 &&& (127 : Int32)))])) (fun t k => XS.iand X0.here hx rfl (hb hby at_9) rfl k) ?_
    refine own_pre (B := s₁.setTop (mkF m 12 #[.val (.int p0), .val (.int p1), .val (.int p2), .val (.int p3), .val (.int p4), .val (.int (p0 &&& (63 : Int32))), .val (.int (p1 &&& (127 : Int32))), .unset, .unset, .unset, .unset, .unset] [])) (fun t k => XS.istore X0.here hx rfl (hb hby at_10) rfl (l' := #[.val (.int p0), .val (.int p1), .val (.int p2), .val (.int p3), .val (.int p4), .val (.int (p0 &&& (63 : Int32))), .val (.int (p1 &&& (127 : Int32))), .unset, .unset, .unset, .unset, .unset]) rfl k) ?_
    refine own_pre (B := s₁.setTop (mkF m 15 #[.val (.int p0), .val (.int p1), .val (.int p2), .val (.int p3), .val (.int p4), .val (.int (p0 &&& (63 : Int32))), .val (.int (p1 &&& (127 : Int32))), .unset, .unset, .unset, .unset, .unset] [(.int (128 : Int32))])) (fun t k => XS.sipush X0.here hx rfl (hb hby at_12) k) ?_
    obtain ⟨T1, h1, kc1, X1, e1, E1, A1, st1⟩ := newP X0 hx hZ (hw _ (List.mem_of_getElem? (i := 0) rfl)) e0 (g := (mkF m 15 #[.val (.int p0), .val (.int p1), .val (.int p2), .val (.int p3), .val (.int p4), .val (.int (p0 &&& (63 : Int32))), .val (.int (p1 &&& (127 : Int32))), .unset, .unset, .unset, .unset, .unset] [(.int (128 : Int32))])) rfl (hb hby at_15) rfl (by decide) (cap := 128) (by decide) (by decide) (by decide) (by decide)
    obtain ⟨b1, g1⟩ : ∃ z, z = h0.size := ⟨_, rfl⟩
    rw [← g1] at A1 st1
    have V1 : Arv Z h1 b1 kc1 .byte (128 : Int32) [] (.int (0 : Int32)) := Arv.new A1 (by decide)
    have gb1 : n0 ≤ b1 := Nat.le_trans Z0 (Nat.le_of_eq g1.symm)
    have ZH1 : n0 ≤ h1.size := Nat.le_trans Z0 E1.1
    have K1 := Keep.ext (Keep.refl h0 []) E1
    have sb1 := Nat.le_trans ((Keep.refl h0 [])).1 (Nat.le_of_eq g1.symm)
    have D1 := V1.pad (pad_rep [] (.int (0 : Int32)) 128)
    have da_lt1 := V1.lt
    refine own_pre (B := T1.setTop (mkF m 17 #[.val (.int p0), .val (.int p1), .val (.int p2), .val (.int p3), .val (.int p4), .val (.int (p0 &&& (63 : Int32))), .val (.int (p1 &&& (127 : Int32))), .unset, .unset, .unset, .unset, .unset] [(.ref b1)])) st1 ?_
    refine own_pre (B := T1.setTop (mkF m 19 #[.val (.int p0), .val (.int p1), .val (.int p2), .val (.int p3), .val (.int p4), .val (.int (p0 &&& (63 : Int32))), .val (.int (p1 &&& (127 : Int32))), .val (.ref b1), .unset, .unset, .unset, .unset] [])) (fun t k => XS.astore X1.here hx rfl (hb hby at_17) rfl rfl (l' := #[.val (.int p0), .val (.int p1), .val (.int p2), .val (.int p3), .val (.int p4), .val (.int (p0 &&& (63 : Int32))), .val (.int (p1 &&& (127 : Int32))), .val (.ref b1), .unset, .unset, .unset, .unset]) rfl k) ?_
    refine own_pre (B := T1.setTop (mkF m 21 #[.val (.int p0), .val (.int p1), .val (.int p2), .val (.int p3), .val (.int p4), .val (.int (p0 &&& (63 : Int32))), .val (.int (p1 &&& (127 : Int32))), .val (.ref b1), .unset, .unset, .unset, .unset] [(.ref b1)])) (fun t k => XS.aload X1.here hx rfl (hb hby at_19) rfl rfl k) ?_
    refine own_pre (B := T1.setTop (mkF m 22 #[.val (.int p0), .val (.int p1), .val (.int p2), .val (.int p3), .val (.int p4), .val (.int (p0 &&& (63 : Int32))), .val (.int (p1 &&& (127 : Int32))), .val (.ref b1), .unset, .unset, .unset, .unset] [(.int (0 : Int32)), (.ref b1)])) (fun t k => XS.iconst X1.here hx rfl (hb hby at_21) k) ?_
    refine own_pre (B := T1.setTop (mkF m 23 #[.val (.int p0), .val (.int p1), .val (.int p2), .val (.int p3), .val (.int p4), .val (.int (p0 &&& (63 : Int32))), .val (.int (p1 &&& (127 : Int32))), .val (.ref b1), .unset, .unset, .unset, .unset] [(.int p2), (.int (0 : Int32)), (.ref b1)])) (fun t k => XS.iloadN X1.here hx rfl (hb hby at_22) rfl k) ?_
    refine own_pre (B := T1.setTop (mkF m 24 #[.val (.int p0), .val (.int p1), .val (.int p2), .val (.int p3), .val (.int p4), .val (.int (p0 &&& (63 : Int32))), .val (.int (p1 &&& (127 : Int32))), .val (.ref b1), .unset, .unset, .unset, .unset] [(.int (p2.toInt8.toInt32)), (.int (0 : Int32)), (.ref b1)])) (fun t k => XS.i2b X1.here hx rfl (hb hby at_23) rfl k) ?_
    obtain ⟨T2, h2, X2, e2, W2, D2, st2⟩ := own_stB X1 hx hZ e1 D1 (j := (0 : Int32)) (x := (p2.toInt8.toInt32)) ⟨by decide, by decide⟩ (by rw [List.nil_append, List.length_replicate]; decide) (g := (mkF m 24 #[.val (.int p0), .val (.int p1), .val (.int p2), .val (.int p3), .val (.int p4), .val (.int (p0 &&& (63 : Int32))), .val (.int (p1 &&& (127 : Int32))), .val (.ref b1), .unset, .unset, .unset, .unset] [(.int (p2.toInt8.toInt32)), (.int (0 : Int32)), (.ref b1)])) rfl rfl (hb hby at_24)
    have N2 := Fr.snoc X2 N0 gb1
    have ZH2 : n0 ≤ h2.size := by rw [W2.size]; exact ZH1
    have K2 := Keep.refl h2 []
    refine own_pre (B := T2.setTop (mkF m 25 #[.val (.int p0), .val (.int p1), .val (.int p2), .val (.int p3), .val (.int p4), .val (.int (p0 &&& (63 : Int32))), .val (.int (p1 &&& (127 : Int32))), .val (.ref b1), .unset, .unset, .unset, .unset] [])) st2 ?_
    refine own_pre (B := T2.setTop (mkF m 27 #[.val (.int p0), .val (.int p1), .val (.int p2), .val (.int p3), .val (.int p4), .val (.int (p0 &&& (63 : Int32))), .val (.int (p1 &&& (127 : Int32))), .val (.ref b1), .unset, .unset, .unset, .unset] [(.int (p1 &&& (127 : Int32)))])) (fun t k => XS.iload X2.here hx rfl (hb hby at_25) rfl k) ?_
    refine own_pre (B := T2.setTop (mkF m 39 #[.val (.int p0), .val (.int p1), .val (.int p2), .val (.int p3), .val (.int p4), .val (.int (p0 &&& (63 : Int32))), .val (.int (p1 &&& (127 : Int32))), .val (.ref b1), .unset, .unset, .unset, .unset] [])) (fun t k => XS.ifYes X2.here hx rfl (pc0 := 27) (pc' := 39) rfl (hb hby at_27) rfl ((if0 _ _).trans (flt ((own_nlt (by have z0 : (0 : Int32).toInt = 0 := rfl; omega)) : ¬ ((0 : Int32) < (p1 &&& (127 : Int32))))).2.2.2) (by decide) (by decide) k) ?_
    obtain ⟨T3, h3, X3, e3, E3, A3, D3, Un3, st3⟩ := newO X2 hx hZ hown (hw _ (List.mem_of_getElem? (i := 1) rfl)) (hw _ (List.mem_of_getElem? (i := 2) rfl)) (hw _ (List.mem_of_getElem? (i := 3) rfl)) e2 (g := (mkF m 39 #[.val (.int p0), .val (.int p1), .val (.int p2), .val (.int p3), .val (.int p4), .val (.int (p0 &&& (63 : Int32))), .val (.int (p1 &&& (127 : Int32))), .val (.ref b1), .unset, .unset, .unset, .unset] [])) rfl (hb hby at_39) (by decide) (by decide)
    obtain ⟨b3, g3⟩ : ∃ z, z = h2.size := ⟨_, rfl⟩
    rw [← g3] at A3 D3 Un3 st3
    have gb3 : n0 ≤ b3 := Nat.le_trans ZH2 (Nat.le_of_eq g3.symm)
    have ZH3 : n0 ≤ h3.size := Nat.le_trans ZH2 E3.1
    have Zs3 : n0 ≤ T3.heap.size := by rw [e3]; exact ZH3
    have F3 : own_B Z h3 b3 .null 0 0 := ⟨A3, D3 (Or.inl (hw _ (List.mem_of_getElem? (i := 22) rfl))) (ty := .array .byte) (by decide), D3 (Or.inl (hw _ (List.mem_of_getElem? (i := 40) rfl))) (ty := .int) (by decide), D3 (Or.inr (hw _ (List.mem_of_getElem? (i := 24) rfl))) (ty := .int) (by decide)⟩
    have Dd3 := D2.ext E3
    have n13 : b1 ≠ b3 := Nat.ne_of_lt (Nat.lt_of_lt_of_le D2.lt (Nat.le_of_eq g3.symm))
    refine own_pre (B := T3.setTop (mkF m 42 #[.val (.int p0), .val (.int p1), .val (.int p2), .val (.int p3), .val (.int p4), .val (.int (p0 &&& (63 : Int32))), .val (.int (p1 &&& (127 : Int32))), .val (.ref b1), .unset, .unset, .unset, .unset] [(.ref b3)])) st3 ?_
    refine own_pre (B := T3.setTop (mkF m 43 #[.val (.int p0), .val (.int p1), .val (.int p2), .val (.int p3), .val (.int p4), .val (.int (p0 &&& (63 : Int32))), .val (.int (p1 &&& (127 : Int32))), .val (.ref b1), .unset, .unset, .unset, .unset] [(.ref b3), (.ref b3)])) (fun t k => XS.dup X3.here hx rfl (hb hby at_42) rfl rfl k) ?_
    refine own_pre (B := T3.setTop (mkF m 45 #[.val (.int p0), .val (.int p1), .val (.int p2), .val (.int p3), .val (.int p4), .val (.int (p0 &&& (63 : Int32))), .val (.int (p1 &&& (127 : Int32))), .val (.ref b1), .unset, .unset, .unset, .unset] [(.int (p0 &&& (63 : Int32))), (.ref b3), (.ref b3)])) (fun t k => XS.iload X3.here hx rfl (hb hby at_43) rfl k) ?_
    obtain ⟨_, _, ⟨T4, L4, k4, n4⟩, -, X4, ⟨Lc4, hQ4, l4, y4, z4⟩, st4⟩ := X3.specialBack hx (y := (⟨"com/example/quillon/quillon/storage/LogFormat$RecordBuffer", "<init>", "(I)V"⟩ : MethodName)) rfl hown (mvT hZ (hw _ (List.mem_of_getElem? (i := 4) rfl))) (mvT hZ (hw _ (List.mem_of_getElem? (i := 5) rfl))) (mvT hZ (hw _ (List.mem_of_getElem? (i := 6) rfl))) (by decide) (backOf (W := 1) (rm1 l Z a0 hw [] b3 (p0 &&& (63 : Int32)) _ _ _ h3 n0 ZH3 F3 Un3 gb3 (own_us p0).1 (own_us p0).2) hZ (hw _ (List.mem_of_getElem? (i := 6) rfl)) (hw _ (List.mem_of_getElem? (i := 3) rfl)) (by decide) (by decide)) (g := (mkF m 45 #[.val (.int p0), .val (.int p1), .val (.int p2), .val (.int p3), .val (.int p4), .val (.int (p0 &&& (63 : Int32))), .val (.int (p1 &&& (127 : Int32))), .val (.ref b1), .unset, .unset, .unset, .unset] [(.int (p0 &&& (63 : Int32))), (.ref b3), (.ref b3)])) rfl (by rw [hml]; rfl) (Steps.refl _) (a := b3) (argsL := [(.int (p0 &&& (63 : Int32)))]) (rest := [(.ref b3)]) (lenOf pd0_0 rfl) rfl (by show 2 * 0 + _ ≤ _; exact Nat.le_of_eq rfl) (hb hby at_45) (fun _ _ => ⟨rfl, e3, (by decide : 2 + 1 ≤ _), (by decide : 131 + 63 ≤ _)⟩)
    dsimp only [Pt.U, Pt.locs, Pt.cells, Pt.slots] at X4 l4 y4 z4 st4 hQ4
    subst l4 y4 z4
    obtain ⟨rfl, Nq4, K4, U4, b4, kc4, sb4, F4, V4⟩ := hQ4
    have N4 := Fr.app N2 Nq4
    have ZH4 : n0 ≤ T4.heap.size := Nat.le_trans ZH3 K4.1
    have D4 := Dd3.keep K4 (ninS n13 nin0)
    have n24 : b4 ≠ b3 := Ne.symm (Nat.ne_of_lt (Nat.lt_of_lt_of_le (F3).1.lt sb4))
    have n34 : b1 ≠ b4 := Nat.ne_of_lt (Nat.lt_of_lt_of_le Dd3.lt sb4)
    have gf4 : n0 ≤ b4 := Nat.le_trans ZH3 sb4
    refine own_pre (B := T4.setTop (mkF m 48 #[.val (.int p0), .val (.int p1), .val (.int p2), .val (.int p3), .val (.int p4), .val (.int (p0 &&& (63 : Int32))), .val (.int (p1 &&& (127 : Int32))), .val (.ref b1), .unset, .unset, .unset, .unset] [(.ref b3)])) (fun t q => st4.trans q) ?_
    refine own_pre (B := T4.setTop (mkF m 50 #[.val (.int p0), .val (.int p1), .val (.int p2), .val (.int p3), .val (.int p4), .val (.int (p0 &&& (63 : Int32))), .val (.int (p1 &&& (127 : Int32))), .val (.ref b1), .val (.ref b3), .unset, .unset, .unset] [])) (fun t k => XS.astore X4.here hx rfl (hb hby at_48) rfl rfl (l' := #[.val (.int p0), .val (.int p1), .val (.int p2), .val (.int p3), .val (.int p4), .val (.int (p0 &&& (63 : Int32))), .val (.int (p1 &&& (127 : Int32))), .val (.ref b1), .val (.ref b3), .unset, .unset, .unset]) rfl k) ?_
    refine own_pre (B := T4.setTop (mkF m 52 #[.val (.int p0), .val (.int p1), .val (.int p2), .val (.int p3), .val (.int p4), .val (.int (p0 &&& (63 : Int32))), .val (.int (p1 &&& (127 : Int32))), .val (.ref b1), .val (.ref b3), .unset, .unset, .unset] [(.ref b3)])) (fun t k => XS.aload X4.here hx rfl (hb hby at_50) rfl rfl k) ?_
    refine own_pre (B := T4.setTop (mkF m 54 #[.val (.int p0), .val (.int p1), .val (.int p2), .val (.int p3), .val (.int p4), .val (.int (p0 &&& (63 : Int32))), .val (.int (p1 &&& (127 : Int32))), .val (.ref b1), .val (.ref b3), .unset, .unset, .unset] [(.ref b1), (.ref b3)])) (fun t k => XS.aload X4.here hx rfl (hb hby at_52) rfl rfl k) ?_
    refine own_pre (B := T4.setTop (mkF m 55 #[.val (.int p0), .val (.int p1), .val (.int p2), .val (.int p3), .val (.int p4), .val (.int (p0 &&& (63 : Int32))), .val (.int (p1 &&& (127 : Int32))), .val (.ref b1), .val (.ref b3), .unset, .unset, .unset] [(.int (0 : Int32)), (.ref b1), (.ref b3)])) (fun t k => XS.iconst X4.here hx rfl (hb hby at_54) k) ?_
    refine own_pre (B := T4.setTop (mkF m 57 #[.val (.int p0), .val (.int p1), .val (.int p2), .val (.int p3), .val (.int p4), .val (.int (p0 &&& (63 : Int32))), .val (.int (p1 &&& (127 : Int32))), .val (.ref b1), .val (.ref b3), .unset, .unset, .unset] [(.int (p1 &&& (127 : Int32))), (.int (0 : Int32)), (.ref b1), (.ref b3)])) (fun t k => XS.iload X4.here hx rfl (hb hby at_55) rfl k) ?_
    obtain ⟨cq5, kq5, qa5, qb5, qc5⟩ := isOf hZ rfl (F4).1
    obtain ⟨_, _, ⟨T5, L5, k5, n5⟩, -, X5, ⟨Lc5, hQ5, l5, y5, z5⟩, st5⟩ := X4.virtualBackUp hx (C := "com/example/quillon/quillon/storage/LogFormat$RecordBuffer") (owner := "java/io/ByteArrayOutputStream") (x := (⟨"com/example/quillon/quillon/storage/LogFormat$RecordBuffer", "write", "([BII)V"⟩ : MethodName)) (y := (⟨"java/io/ByteArrayOutputStream", "write", "([BII)V"⟩ : MethodName)) hown (mvT hZ (hw _ (List.mem_of_getElem? (i := 25) rfl))) (mvT hZ (hw _ (List.mem_of_getElem? (i := 26) rfl))) (mvT hZ (hw _ (List.mem_of_getElem? (i := 27) rfl))) (by decide) (mvT hZ (hw _ (List.mem_of_getElem? (i := 29) rfl))) (mvT hZ (hw _ (List.mem_of_getElem? (i := 28) rfl))) (own_backS (W := 0) (rmW0 l Z a0 hw b3 b1 (p1 &&& (127 : Int32)) b4 (p0 &&& (63 : Int32)) kc4 (p0 &&& (63 : Int32)) [] kc1 _ T4.heap n0 ZH4 F4 U4 V4 D4 gb3 gf4 n13 n24 n34 (own_us p0).1 (own_us p0).2 (own_nw p1).1 (own_nw p1).2 hc) hZ (hw _ (List.mem_of_getElem? (i := 30) rfl)) (hw _ (List.mem_of_getElem? (i := 28) rfl)) (hw _ (List.mem_of_getElem? (i := 10) rfl)) U4 (by decide) (by decide)) qa5 qc5 (g := (mkF m 57 #[.val (.int p0), .val (.int p1), .val (.int p2), .val (.int p3), .val (.int p4), .val (.int (p0 &&& (63 : Int32))), .val (.int (p1 &&& (127 : Int32))), .val (.ref b1), .val (.ref b3), .unset, .unset, .unset] [(.int (p1 &&& (127 : Int32))), (.int (0 : Int32)), (.ref b1), (.ref b3)])) rfl (by rw [hml]; rfl) (Steps.refl _) (argsL := [(.ref b1), (.int (0 : Int32)), (.int (p1 &&& (127 : Int32)))]) (rest := []) (lenOf pd0_1 rfl) rfl (by show 2 * 0 + _ ≤ _; exact Nat.le_of_eq rfl) (hb hby at_57) (fun _ _ => ⟨rfl, rfl, (by decide : 3 + 0 ≤ _), (by decide : 194 + 0 ≤ _)⟩)
    dsimp only [Pt.U, Pt.locs, Pt.cells, Pt.slots] at X5 l5 y5 z5 st5 hQ5
    subst l5 y5 z5
    obtain ⟨rfl, Nq5, U5, SZ5, F5, D5, ws5, hws5, V5⟩ := hQ5
    have N5 := Fr.app N4 Nq5
    have ZH5 : n0 ≤ T5.heap.size := Nat.le_trans ZH4 SZ5
    refine own_pre (B := T5.setTop (mkF m 60 #[.val (.int p0), .val (.int p1), .val (.int p2), .val (.int p3), .val (.int p4), .val (.int (p0 &&& (63 : Int32))), .val (.int (p1 &&& (127 : Int32))), .val (.ref b1), .val (.ref b3), .unset, .unset, .unset] [])) (fun t q => st5.trans q) ?_
    refine own_pre (B := T5.setTop (mkF m 62 #[.val (.int p0), .val (.int p1), .val (.int p2), .val (.int p3), .val (.int p4), .val (.int (p0 &&& (63 : Int32))), .val (.int (p1 &&& (127 : Int32))), .val (.ref b1), .val (.ref b3), .unset, .unset, .unset] [(.ref b3)])) (fun t k => XS.aload X5.here hx rfl (hb hby at_60) rfl rfl k) ?_
    obtain ⟨cq6, kq6, qa6, qb6, qc6⟩ := isOf hZ rfl (F5).1
    obtain ⟨_, _, ⟨T6, L6, k6, n6⟩, -, X6, ⟨Lc6, hQ6, l6, y6, z6⟩, st6⟩ := X5.virtualBack hx (y := (⟨"com/example/quillon/quillon/storage/LogFormat$RecordBuffer", "bytes", "()[B"⟩ : MethodName)) (z := (⟨"com/example/quillon/quillon/storage/LogFormat$RecordBuffer", "bytes", "()[B"⟩ : MethodName)) hown (mvT hZ (hw _ (List.mem_of_getElem? (i := 67) rfl))) (mvT hZ (hw _ (List.mem_of_getElem? (i := 68) rfl))) (notFace_of_selects (args := #[]) (mvT hZ (hw _ (List.mem_of_getElem? (i := 70) rfl)))) (mvT hZ (hw _ (List.mem_of_getElem? (i := 70) rfl))) (mvT hZ (hw _ (List.mem_of_getElem? (i := 69) rfl))) (by decide) (backOf (W := 0) (rm13 l Z a0 hw [] b3 b4 ((0 : Int32) + (p1 &&& (127 : Int32))) (p0 &&& (63 : Int32)) T5.heap n0 ZH5 F5) hZ (hw _ (List.mem_of_getElem? (i := 71) rfl)) (hw _ (List.mem_of_getElem? (i := 3) rfl)) (by decide) (by decide)) qa6 qc6 (g := (mkF m 62 #[.val (.int p0), .val (.int p1), .val (.int p2), .val (.int p3), .val (.int p4), .val (.int (p0 &&& (63 : Int32))), .val (.int (p1 &&& (127 : Int32))), .val (.ref b1), .val (.ref b3), .unset, .unset, .unset] [(.ref b3)])) rfl (by rw [hml]; rfl) (Steps.refl _) (argsL := []) (rest := []) (lenOf pd0_2 rfl) rfl (by show 2 * 0 + _ ≤ _; exact Nat.le_of_eq rfl) (hb hby at_62) (fun _ _ => ⟨rfl, rfl, (by decide : 3 + 0 ≤ _), (by decide : 194 + 0 ≤ _)⟩)
    dsimp only [Pt.U, Pt.locs, Pt.cells, Pt.slots] at X6 l6 y6 z6 st6 hQ6
    subst l6 y6 z6
    obtain ⟨rfl, Nq6, e6⟩ := hQ6
    have N6 := Fr.app N5 Nq6
    have eh6 : T6.heap = T5.heap := e6
    refine own_pre (B := T6.setTop (mkF m 65 #[.val (.int p0), .val (.int p1), .val (.int p2), .val (.int p3), .val (.int p4), .val (.int (p0 &&& (63 : Int32))), .val (.int (p1 &&& (127 : Int32))), .val (.ref b1), .val (.ref b3), .unset, .unset, .unset] [(.ref b4)])) (fun t q => st6.trans q) ?_
    refine own_pre (B := T6.setTop (mkF m 67 #[.val (.int p0), .val (.int p1), .val (.int p2), .val (.int p3), .val (.int p4), .val (.int (p0 &&& (63 : Int32))), .val (.int (p1 &&& (127 : Int32))), .val (.ref b1), .val (.ref b3), .val (.ref b4), .unset, .unset] [])) (fun t k => XS.astore X6.here hx rfl (hb hby at_65) rfl rfl (l' := #[.val (.int p0), .val (.int p1), .val (.int p2), .val (.int p3), .val (.int p4), .val (.int (p0 &&& (63 : Int32))), .val (.int (p1 &&& (127 : Int32))), .val (.ref b1), .val (.ref b3), .val (.ref b4), .unset, .unset]) rfl k) ?_
    refine own_pre (B := T6.setTop (mkF m 69 #[.val (.int p0), .val (.int p1), .val (.int p2), .val (.int p3), .val (.int p4), .val (.int (p0 &&& (63 : Int32))), .val (.int (p1 &&& (127 : Int32))), .val (.ref b1), .val (.ref b3), .val (.ref b4), .unset, .unset] [(.ref b3)])) (fun t k => XS.aload X6.here hx rfl (hb hby at_67) rfl rfl k) ?_
    obtain ⟨cq7, kq7, qa7, qb7, qc7⟩ := isOf hZ eh6 (F5).1
    obtain ⟨_, _, ⟨T7, L7, k7, n7⟩, -, X7, ⟨Lc7, hQ7, l7, y7, z7⟩, st7⟩ := X6.virtualBack hx (y := (⟨"com/example/quillon/quillon/storage/LogFormat$RecordBuffer", "shrink", "()V"⟩ : MethodName)) (z := (⟨"com/example/quillon/quillon/storage/LogFormat$RecordBuffer", "shrink", "()V"⟩ : MethodName)) hown (mvT hZ (hw _ (List.mem_of_getElem? (i := 74) rfl))) (mvT hZ (hw _ (List.mem_of_getElem? (i := 75) rfl))) (notFace_of_selects (args := #[]) (mvT hZ (hw _ (List.mem_of_getElem? (i := 77) rfl)))) (mvT hZ (hw _ (List.mem_of_getElem? (i := 77) rfl))) (mvT hZ (hw _ (List.mem_of_getElem? (i := 76) rfl))) (by decide) (backOf (W := 0) (rmS0 l Z a0 hw [] b3 b4 ((0 : Int32) + (p1 &&& (127 : Int32))) (p0 &&& (63 : Int32)) kc4 (p0 &&& (63 : Int32)) ws5 T5.heap n0 ZH5 F5 V5 (own_nlt (Int.le_refl _))) hZ (hw _ (List.mem_of_getElem? (i := 78) rfl)) (hw _ (List.mem_of_getElem? (i := 3) rfl)) (by decide) (by decide)) qa7 qc7 (g := (mkF m 69 #[.val (.int p0), .val (.int p1), .val (.int p2), .val (.int p3), .val (.int p4), .val (.int (p0 &&& (63 : Int32))), .val (.int (p1 &&& (127 : Int32))), .val (.ref b1), .val (.ref b3), .val (.ref b4), .unset, .unset] [(.ref b3)])) rfl (by rw [hml]; rfl) (Steps.refl _) (argsL := []) (rest := []) (lenOf pd0_3 rfl) rfl (by show 2 * 0 + _ ≤ _; exact Nat.le_of_eq rfl) (hb hby at_69) (fun _ _ => ⟨rfl, eh6, (by decide : 3 + 0 ≤ _), (by decide : 194 + 0 ≤ _)⟩)
    dsimp only [Pt.U, Pt.locs, Pt.cells, Pt.slots] at X7 l7 y7 z7 st7 hQ7
    subst l7 y7 z7
    obtain ⟨rfl, Nq7, e7⟩ := hQ7
    have N7 := Fr.app N6 Nq7
    have eh7 : T7.heap = T5.heap := e7
    refine own_pre (B := T7.setTop (mkF m 72 #[.val (.int p0), .val (.int p1), .val (.int p2), .val (.int p3), .val (.int p4), .val (.int (p0 &&& (63 : Int32))), .val (.int (p1 &&& (127 : Int32))), .val (.ref b1), .val (.ref b3), .val (.ref b4), .unset, .unset] [])) (fun t q => st7.trans q) ?_
    refine own_pre (B := T7.setTop (mkF m 74 #[.val (.int p0), .val (.int p1), .val (.int p2), .val (.int p3), .val (.int p4), .val (.int (p0 &&& (63 : Int32))), .val (.int (p1 &&& (127 : Int32))), .val (.ref b1), .val (.ref b3), .val (.ref b4), .unset, .unset] [(.int p4)])) (fun t k => XS.iload X7.here hx rfl (hb hby at_72) rfl k) ?_
    refine own_pre (B := T7.setTop (mkF m 75 #[.val (.int p0), .val (.int p1), .val (.int p2), .val (.int p3), .val (.int p4), .val (.int (p0 &&& (63 : Int32))), .val (.int (p1 &&& (127 : Int32))), .val (.ref b1), .val (.ref b3), .val (.ref b4), .unset, .unset] [(.int (1 : Int32)), (.int p4)])) (fun t k => XS.iconst X7.here hx rfl (hb hby at_74) k) ?_
    refine own_pre (B := T7.setTop (mkF m 76 #[.val (.int p0), .val (.int p1), .val (.int p2), .val (.int p3), .val (.int p4), .val (.int (p0 &&& (63 : Int32))), .val (.int (p1 &&& (127 : Int32))), .val (.ref b1), .val (.ref b3), .val (.ref b4), .unset, .unset] [(.int (p4 &&& (1 : Int32)))])) (fun t k => XS.iand X7.here hx rfl (hb hby at_75) rfl k) ?_
    by_cases hc8 : (p4 &&& (1 : Int32)) = (0 : Int32)
    · skip
      refine own_pre (B := T7.setTop (mkF m 84 #[.val (.int p0), .val (.int p1), .val (.int p2), .val (.int p3), .val (.int p4), .val (.int (p0 &&& (63 : Int32))), .val (.int (p1 &&& (127 : Int32))), .val (.ref b1), .val (.ref b3), .val (.ref b4), .unset, .unset] [])) (fun t k => XS.ifYes X7.here hx rfl (pc0 := 76) (pc' := 84) rfl (hb hby at_76) rfl ((if0 _ _).trans (teq hc8).1) (by decide) (by decide) k) ?_
      refine own_pre (B := T7.setTop (mkF m 86 #[.val (.int p0), .val (.int p1), .val (.int p2), .val (.int p3), .val (.int p4), .val (.int (p0 &&& (63 : Int32))), .val (.int (p1 &&& (127 : Int32))), .val (.ref b1), .val (.ref b3), .val (.ref b4), .unset, .unset] [(.ref b3)])) (fun t k => XS.aload X7.here hx rfl (hb hby at_84) rfl rfl k) ?_
      obtain ⟨cq10, kq10, qa10, qb10, qc10⟩ := isOf hZ eh7 (F5).1
      obtain ⟨_, _, ⟨T10, L10, k10, n10⟩, -, X10, ⟨Lc10, hQ10, l10, y10, z10⟩, st10⟩ := X7.virtualBack hx (y := (⟨"com/example/quillon/quillon/storage/LogFormat$RecordBuffer", "bytes", "()[B"⟩ : MethodName)) (z := (⟨"com/example/quillon/quillon/storage/LogFormat$RecordBuffer", "bytes", "()[B"⟩ : MethodName)) hown (mvT hZ (hw _ (List.mem_of_getElem? (i := 67) rfl))) (mvT hZ (hw _ (List.mem_of_getElem? (i := 68) rfl))) (notFace_of_selects (args := #[]) (mvT hZ (hw _ (List.mem_of_getElem? (i := 70) rfl)))) (mvT hZ (hw _ (List.mem_of_getElem? (i := 70) rfl))) (mvT hZ (hw _ (List.mem_of_getElem? (i := 69) rfl))) (by decide) (backOf (W := 0) (rm13 l Z a0 hw [] b3 b4 ((0 : Int32) + (p1 &&& (127 : Int32))) (p0 &&& (63 : Int32)) T5.heap n0 ZH5 F5) hZ (hw _ (List.mem_of_getElem? (i := 71) rfl)) (hw _ (List.mem_of_getElem? (i := 3) rfl)) (by decide) (by decide)) qa10 qc10 (g := (mkF m 86 #[.val (.int p0), .val (.int p1), .val (.int p2), .val (.int p3), .val (.int p4), .val (.int (p0 &&& (63 : Int32))), .val (.int (p1 &&& (127 : Int32))), .val (.ref b1), .val (.ref b3), .val (.ref b4), .unset, .unset] [(.ref b3)])) rfl (by rw [hml]; rfl) (Steps.refl _) (argsL := []) (rest := []) (lenOf pd0_2 rfl) rfl (by show 2 * 0 + _ ≤ _; exact Nat.le_of_eq rfl) (hb hby at_86) (fun _ _ => ⟨rfl, eh7, (by decide : 3 + 0 ≤ _), (by decide : 194 + 0 ≤ _)⟩)
      dsimp only [Pt.U, Pt.locs, Pt.cells, Pt.slots] at X10 l10 y10 z10 st10 hQ10
      subst l10 y10 z10
      obtain ⟨rfl, Nq10, e10⟩ := hQ10
      have N10 := Fr.app N7 Nq10
      have eh10 : T10.heap = T5.heap := e10
      refine own_pre (B := T10.setTop (mkF m 89 #[.val (.int p0), .val (.int p1), .val (.int p2), .val (.int p3), .val (.int p4), .val (.int (p0 &&& (63 : Int32))), .val (.int (p1 &&& (127 : Int32))), .val (.ref b1), .val (.ref b3), .val (.ref b4), .unset, .unset] [(.ref b4)])) (fun t q => st10.trans q) ?_
      refine own_pre (B := T10.setTop (mkF m 91 #[.val (.int p0), .val (.int p1), .val (.int p2), .val (.int p3), .val (.int p4), .val (.int (p0 &&& (63 : Int32))), .val (.int (p1 &&& (127 : Int32))), .val (.ref b1), .val (.ref b3), .val (.ref b4), .val (.ref b4), .unset] [])) (fun t k => XS.astore X10.here hx rfl (hb hby at_89) rfl rfl (l' := #[.val (.int p0), .val (.int p1), .val (.int p2), .val (.int p3), .val (.int p4), .val (.int (p0 &&& (63 : Int32))), .val (.int (p1 &&& (127 : Int32))), .val (.ref b1), .val (.ref b3), .val (.ref b4), .val (.ref b4), .unset]) rfl k) ?_
      refine own_pre (B := T10.setTop (mkF m 93 #[.val (.int p0), .val (.int p1), .val (.int p2), .val (.int p3), .val (.int p4), .val (.int (p0 &&& (63 : Int32))), .val (.int (p1 &&& (127 : Int32))), .val (.ref b1), .val (.ref b3), .val (.ref b4), .val (.ref b4), .unset] [(.ref b3)])) (fun t k => XS.aload X10.here hx rfl (hb hby at_91) rfl rfl k) ?_
      obtain ⟨cq11, kq11, qa11, qb11, qc11⟩ := isOf hZ eh10 (F5).1
      obtain ⟨_, _, ⟨T11, L11, k11, n11⟩, -, X11, ⟨Lc11, hQ11, l11, y11, z11⟩, st11⟩ := X10.virtualBackUp hx (C := "com/example/quillon/quillon/storage/LogFormat$RecordBuffer") (owner := "java/io/ByteArrayOutputStream") (x := (⟨"com/example/quillon/quillon/storage/LogFormat$RecordBuffer", "size", "()I"⟩ : MethodName)) (y := (⟨"java/io/ByteArrayOutputStream", "size", "()I"⟩ : MethodName)) hown (mvT hZ (hw _ (List.mem_of_getElem? (i := 81) rfl))) (mvT hZ (hw _ (List.mem_of_getElem? (i := 82) rfl))) (mvT hZ (hw _ (List.mem_of_getElem? (i := 83) rfl))) (by decide) (mvT hZ (hw _ (List.mem_of_getElem? (i := 85) rfl))) (mvT hZ (hw _ (List.mem_of_getElem? (i := 84) rfl))) (own_backS (W := 0) (rmSz l Z a0 hw b3 (.ref b4) ((0 : Int32) + (p1 &&& (127 : Int32))) (p0 &&& (63 : Int32)) T5.heap n0 ZH5 F5) hZ (hw _ (List.mem_of_getElem? (i := 86) rfl)) (hw _ (List.mem_of_getElem? (i := 84) rfl)) (hw _ (List.mem_of_getElem? (i := 10) rfl)) U5 (by decide) (by decide)) qa11 qc11 (g := (mkF m 93 #[.val (.int p0), .val (.int p1), .val (.int p2), .val (.int p3), .val (.int p4), .val (.int (p0 &&& (63 : Int32))), .val (.int (p1 &&& (127 : Int32))), .val (.ref b1), .val (.ref b3), .val (.ref b4), .val (.ref b4), .unset] [(.ref b3)])) rfl (by rw [hml]; rfl) (Steps.refl _) (argsL := []) (rest := []) (lenOf pd0_4 rfl) rfl (by show 2 * 0 + _ ≤ _; exact Nat.le_of_eq rfl) (hb hby at_93) (fun _ _ => ⟨rfl, eh10, (by decide : 3 + 0 ≤ _), (by decide : 194 + 0 ≤ _)⟩)
      dsimp only [Pt.U, Pt.locs, Pt.cells, Pt.slots] at X11 l11 y11 z11 st11 hQ11
      subst l11 y11 z11
      obtain ⟨rfl, Nq11, e11⟩ := hQ11
      have N11 := Fr.app N10 Nq11
      have eh11 : T11.heap = T5.heap := e11
      refine own_pre (B := T11.setTop (mkF m 96 #[.val (.int p0), .val (.int p1), .val (.int p2), .val (.int p3), .val (.int p4), .val (.int (p0 &&& (63 : Int32))), .val (.int (p1 &&& (127 : Int32))), .val (.ref b1), .val (.ref b3), .val (.ref b4), .val (.ref b4), .unset] [(.int ((0 : Int32) + (p1 &&& (127 : Int32))))])) (fun t q => st11.trans q) ?_
      refine own_pre (B := T11.setTop (mkF m 98 #[.val (.int p0), .val (.int p1), .val (.int p2), .val (.int p3), .val (.int p4), .val (.int (p0 &&& (63 : Int32))), .val (.int (p1 &&& (127 : Int32))), .val (.ref b1), .val (.ref b3), .val (.ref b4), .val (.ref b4), .val (.int ((0 : Int32) + (p1 &&& (127 : Int32))))] [])) (fun t k => XS.istore X11.here hx rfl (hb hby at_96) rfl (l' := #[.val (.int p0), .val (.int p1), .val (.int p2), .val (.int p3), .val (.int p4), .val (.int (p0 &&& (63 : Int32))), .val (.int (p1 &&& (127 : Int32))), .val (.ref b1), .val (.ref b3), .val (.ref b4), .val (.ref b4), .val (.int ((0 : Int32) + (p1 &&& (127 : Int32))))]) rfl k) ?_
      refine own_pre (B := T11.setTop (mkF m 100 #[.val (.int p0), .val (.int p1), .val (.int p2), .val (.int p3), .val (.int p4), .val (.int (p0 &&& (63 : Int32))), .val (.int (p1 &&& (127 : Int32))), .val (.ref b1), .val (.ref b3), .val (.ref b4), .val (.ref b4), .val (.int ((0 : Int32) + (p1 &&& (127 : Int32))))] [(.ref b4)])) (fun t k => XS.aload X11.here hx rfl (hb hby at_98) rfl rfl k) ?_
      refine own_pre (B := T11.setTop (mkF m 101 #[.val (.int p0), .val (.int p1), .val (.int p2), .val (.int p3), .val (.int p4), .val (.int (p0 &&& (63 : Int32))), .val (.int (p1 &&& (127 : Int32))), .val (.ref b1), .val (.ref b3), .val (.ref b4), .val (.ref b4), .val (.int ((0 : Int32) + (p1 &&& (127 : Int32))))] [(.int (p0 &&& (63 : Int32)))])) (own_len X11 hx hZ eh11 V5 (g := (mkF m 100 #[.val (.int p0), .val (.int p1), .val (.int p2), .val (.int p3), .val (.int p4), .val (.int (p0 &&& (63 : Int32))), .val (.int (p1 &&& (127 : Int32))), .val (.ref b1), .val (.ref b3), .val (.ref b4), .val (.ref b4), .val (.int ((0 : Int32) + (p1 &&& (127 : Int32))))] [(.ref b4)])) rfl rfl (hb hby at_100)) ?_
      refine own_pre (B := T11.setTop (mkF m 103 #[.val (.int p0), .val (.int p1), .val (.int p2), .val (.int p3), .val (.int p4), .val (.int (p0 &&& (63 : Int32))), .val (.int (p1 &&& (127 : Int32))), .val (.ref b1), .val (.ref b3), .val (.ref b4), .val (.ref b4), .val (.int ((0 : Int32) + (p1 &&& (127 : Int32))))] [(.int (p0 &&& (63 : Int32))), (.int (p0 &&& (63 : Int32)))])) (fun t k => XS.iload X11.here hx rfl (hb hby at_101) rfl k) ?_
      refine own_pre (B := T11.setTop (mkF m 108 #[.val (.int p0), .val (.int p1), .val (.int p2), .val (.int p3), .val (.int p4), .val (.int (p0 &&& (63 : Int32))), .val (.int (p1 &&& (127 : Int32))), .val (.ref b1), .val (.ref b3), .val (.ref b4), .val (.ref b4), .val (.int ((0 : Int32) + (p1 &&& (127 : Int32))))] [])) (fun t k => XS.icmpYes X11.here hx rfl (pc0 := 103) (pc' := 108) rfl (hb hby at_103) rfl (teq (rfl : (p0 &&& (63 : Int32)) = (p0 &&& (63 : Int32)))).1 (by decide) (by decide) k) ?_
      refine own_pre (B := T11.setTop (mkF m 110 #[.val (.int p0), .val (.int p1), .val (.int p2), .val (.int p3), .val (.int p4), .val (.int (p0 &&& (63 : Int32))), .val (.int (p1 &&& (127 : Int32))), .val (.ref b1), .val (.ref b3), .val (.ref b4), .val (.ref b4), .val (.int ((0 : Int32) + (p1 &&& (127 : Int32))))] [(.int (p1 &&& (127 : Int32)))])) (fun t k => XS.iload X11.here hx rfl (hb hby at_108) rfl k) ?_
      refine own_pre (B := T11.setTop (mkF m 112 #[.val (.int p0), .val (.int p1), .val (.int p2), .val (.int p3), .val (.int p4), .val (.int (p0 &&& (63 : Int32))), .val (.int (p1 &&& (127 : Int32))), .val (.ref b1), .val (.ref b3), .val (.ref b4), .val (.ref b4), .val (.int ((0 : Int32) + (p1 &&& (127 : Int32))))] [(.int (p0 &&& (63 : Int32))), (.int (p1 &&& (127 : Int32)))])) (fun t k => XS.iload X11.here hx rfl (hb hby at_110) rfl k) ?_
      refine own_pre (B := T11.setTop (mkF m 133 #[.val (.int p0), .val (.int p1), .val (.int p2), .val (.int p3), .val (.int p4), .val (.int (p0 &&& (63 : Int32))), .val (.int (p1 &&& (127 : Int32))), .val (.ref b1), .val (.ref b3), .val (.ref b4), .val (.ref b4), .val (.int ((0 : Int32) + (p1 &&& (127 : Int32))))] [])) (fun t k => XS.icmpYes X11.here hx rfl (pc0 := 112) (pc' := 133) rfl (hb hby at_112) rfl (flt (own_nlt hc : ¬ ((p0 &&& (63 : Int32)) < (p1 &&& (127 : Int32))))).2.2.2 (by decide) (by decide) k) ?_
      refine own_pre (B := T11.setTop (mkF m 135 #[.val (.int p0), .val (.int p1), .val (.int p2), .val (.int p3), .val (.int p4), .val (.int (p0 &&& (63 : Int32))), .val (.int (p1 &&& (127 : Int32))), .val (.ref b1), .val (.ref b3), .val (.ref b4), .val (.ref b4), .val (.int ((0 : Int32) + (p1 &&& (127 : Int32))))] [(.int ((0 : Int32) + (p1 &&& (127 : Int32))))])) (fun t k => XS.iload X11.here hx rfl (hb hby at_133) rfl k) ?_
      refine own_pre (B := T11.setTop (mkF m 137 #[.val (.int p0), .val (.int p1), .val (.int p2), .val (.int p3), .val (.int p4), .val (.int (p0 &&& (63 : Int32))), .val (.int (p1 &&& (127 : Int32))), .val (.ref b1), .val (.ref b3), .val (.ref b4), .val (.ref b4), .val (.int ((0 : Int32) + (p1 &&& (127 : Int32))))] [(.int (p1 &&& (127 : Int32))), (.int ((0 : Int32) + (p1 &&& (127 : Int32))))])) (fun t k => XS.iload X11.here hx rfl (hb hby at_135) rfl k) ?_
      refine own_pre (B := T11.setTop (mkF m 140 #[.val (.int p0), .val (.int p1), .val (.int p2), .val (.int p3), .val (.int p4), .val (.int (p0 &&& (63 : Int32))), .val (.int (p1 &&& (127 : Int32))), .val (.ref b1), .val (.ref b3), .val (.ref b4), .val (.ref b4), .val (.int ((0 : Int32) + (p1 &&& (127 : Int32))))] [])) (fun t k => XS.icmpNo X11.here hx rfl (hb hby at_137) rfl (teq (Int32.zero_add _ : ((0 : Int32) + (p1 &&& (127 : Int32))) = (p1 &&& (127 : Int32)))).2 k) ?_
      refine own_pre (B := T11.setTop (mkF m 142 #[.val (.int p0), .val (.int p1), .val (.int p2), .val (.int p3), .val (.int p4), .val (.int (p0 &&& (63 : Int32))), .val (.int (p1 &&& (127 : Int32))), .val (.ref b1), .val (.ref b3), .val (.ref b4), .val (.ref b4), .val (.int ((0 : Int32) + (p1 &&& (127 : Int32))))] [(.ref b4)])) (fun t k => XS.aload X11.here hx rfl (hb hby at_140) rfl rfl k) ?_
      refine own_pre (B := T11.setTop (mkF m 144 #[.val (.int p0), .val (.int p1), .val (.int p2), .val (.int p3), .val (.int p4), .val (.int (p0 &&& (63 : Int32))), .val (.int (p1 &&& (127 : Int32))), .val (.ref b1), .val (.ref b3), .val (.ref b4), .val (.ref b4), .val (.int ((0 : Int32) + (p1 &&& (127 : Int32))))] [(.ref b4), (.ref b4)])) (fun t k => XS.aload X11.here hx rfl (hb hby at_142) rfl rfl k) ?_
      refine own_pre (B := T11.setTop (mkF m 149 #[.val (.int p0), .val (.int p1), .val (.int p2), .val (.int p3), .val (.int p4), .val (.int (p0 &&& (63 : Int32))), .val (.int (p1 &&& (127 : Int32))), .val (.ref b1), .val (.ref b3), .val (.ref b4), .val (.ref b4), .val (.int ((0 : Int32) + (p1 &&& (127 : Int32))))] [])) (fun t k => Jvm.RoadKit.acmp (g := (mkF m 144 #[.val (.int p0), .val (.int p1), .val (.int p2), .val (.int p3), .val (.int p4), .val (.int (p0 &&& (63 : Int32))), .val (.int (p1 &&& (127 : Int32))), .val (.ref b1), .val (.ref b3), .val (.ref b4), .val (.ref b4), .val (.int ((0 : Int32) + (p1 &&& (127 : Int32))))] [(.ref b4), (.ref b4)])) X11 hx rfl rfl rfl (pc0 := 144) (pc' := 149) (same := true) rfl (hb hby at_144) rfl (decide_eq_true rfl) (by decide) (by decide) k) ?_
      refine own_pre (B := T11.setTop (mkF m 151 #[.val (.int p0), .val (.int p1), .val (.int p2), .val (.int p3), .val (.int p4), .val (.int (p0 &&& (63 : Int32))), .val (.int (p1 &&& (127 : Int32))), .val (.ref b1), .val (.ref b3), .val (.ref b4), .val (.ref b4), .val (.int ((0 : Int32) + (p1 &&& (127 : Int32))))] [(.int (p1 &&& (127 : Int32)))])) (fun t k => XS.iload X11.here hx rfl (hb hby at_149) rfl k) ?_
      refine own_pre (B := T11.setTop (mkF m 154 #[.val (.int p0), .val (.int p1), .val (.int p2), .val (.int p3), .val (.int p4), .val (.int (p0 &&& (63 : Int32))), .val (.int (p1 &&& (127 : Int32))), .val (.ref b1), .val (.ref b3), .val (.ref b4), .val (.ref b4), .val (.int ((0 : Int32) + (p1 &&& (127 : Int32))))] [])) (fun t k => XS.ifNo X11.here hx rfl (hb hby at_151) rfl ((if0 _ _).trans (teq ((Int32.toInt_inj.mp hz) : (p1 &&& (127 : Int32)) = (0 : Int32))).2) k) ?_
      refine own_pre (B := T11.setTop (mkF m 155 #[.val (.int p0), .val (.int p1), .val (.int p2), .val (.int p3), .val (.int p4), .val (.int (p0 &&& (63 : Int32))), .val (.int (p1 &&& (127 : Int32))), .val (.ref b1), .val (.ref b3), .val (.ref b4), .val (.ref b4), .val (.int ((0 : Int32) + (p1 &&& (127 : Int32))))] [(.int (1 : Int32))])) (fun t k => XS.iconst X11.here hx rfl (hb hby at_154) k) ?_
      exact own_retZ X11 hx hlk Bd.returns (hb hby at_155) (⟨rfl, N11⟩) (by decide) (by decide)
    · skip
      refine own_pre (B := T7.setTop (mkF m 79 #[.val (.int p0), .val (.int p1), .val (.int p2), .val (.int p3), .val (.int p4), .val (.int (p0 &&& (63 : Int32))), .val (.int (p1 &&& (127 : Int32))), .val (.ref b1), .val (.ref b3), .val (.ref b4), .unset, .unset] [])) (fun t k => XS.ifNo X7.here hx rfl (hb hby at_76) rfl ((if0 _ _).trans (feq hc8).1) k) ?_
      refine own_pre (B := T7.setTop (mkF m 81 #[.val (.int p0), .val (.int p1), .val (.int p2), .val (.int p3), .val (.int p4), .val (.int (p0 &&& (63 : Int32))), .val (.int (p1 &&& (127 : Int32))), .val (.ref b1), .val (.ref b3), .val (.ref b4), .unset, .unset] [(.ref b3)])) (fun t k => XS.aload X7.here hx rfl (hb hby at_79) rfl rfl k) ?_
      obtain ⟨cq13, kq13, qa13, qb13, qc13⟩ := isOf hZ eh7 (F5).1
      obtain ⟨_, _, ⟨T13, L13, k13, n13⟩, -, X13, ⟨Lc13, hQ13, l13, y13, z13⟩, st13⟩ := X7.virtualBack hx (y := (⟨"com/example/quillon/quillon/storage/LogFormat$RecordBuffer", "shrink", "()V"⟩ : MethodName)) (z := (⟨"com/example/quillon/quillon/storage/LogFormat$RecordBuffer", "shrink", "()V"⟩ : MethodName)) hown (mvT hZ (hw _ (List.mem_of_getElem? (i := 74) rfl))) (mvT hZ (hw _ (List.mem_of_getElem? (i := 75) rfl))) (notFace_of_selects (args := #[]) (mvT hZ (hw _ (List.mem_of_getElem? (i := 77) rfl)))) (mvT hZ (hw _ (List.mem_of_getElem? (i := 77) rfl))) (mvT hZ (hw _ (List.mem_of_getElem? (i := 76) rfl))) (by decide) (backOf (W := 0) (rmS0 l Z a0 hw [] b3 b4 ((0 : Int32) + (p1 &&& (127 : Int32))) (p0 &&& (63 : Int32)) kc4 (p0 &&& (63 : Int32)) ws5 T5.heap n0 ZH5 F5 V5 (own_nlt (Int.le_refl _))) hZ (hw _ (List.mem_of_getElem? (i := 78) rfl)) (hw _ (List.mem_of_getElem? (i := 3) rfl)) (by decide) (by decide)) qa13 qc13 (g := (mkF m 81 #[.val (.int p0), .val (.int p1), .val (.int p2), .val (.int p3), .val (.int p4), .val (.int (p0 &&& (63 : Int32))), .val (.int (p1 &&& (127 : Int32))), .val (.ref b1), .val (.ref b3), .val (.ref b4), .unset, .unset] [(.ref b3)])) rfl (by rw [hml]; rfl) (Steps.refl _) (argsL := []) (rest := []) (lenOf pd0_3 rfl) rfl (by show 2 * 0 + _ ≤ _; exact Nat.le_of_eq rfl) (hb hby at_81) (fun _ _ => ⟨rfl, eh7, (by decide : 3 + 0 ≤ _), (by decide : 194 + 0 ≤ _)⟩)
      dsimp only [Pt.U, Pt.locs, Pt.cells, Pt.slots] at X13 l13 y13 z13 st13 hQ13
      subst l13 y13 z13
      obtain ⟨rfl, Nq13, e13⟩ := hQ13
      have N13 := Fr.app N7 Nq13
      have eh13 : T13.heap = T5.heap := e13
      refine own_pre (B := T13.setTop (mkF m 84 #[.val (.int p0), .val (.int p1), .val (.int p2), .val (.int p3), .val (.int p4), .val (.int (p0 &&& (63 : Int32))), .val (.int (p1 &&& (127 : Int32))), .val (.ref b1), .val (.ref b3), .val (.ref b4), .unset, .unset] [])) (fun t q => st13.trans q) ?_
      refine own_pre (B := T13.setTop (mkF m 86 #[.val (.int p0), .val (.int p1), .val (.int p2), .val (.int p3), .val (.int p4), .val (.int (p0 &&& (63 : Int32))), .val (.int (p1 &&& (127 : Int32))), .val (.ref b1), .val (.ref b3), .val (.ref b4), .unset, .unset] [(.ref b3)])) (fun t k => XS.aload X13.here hx rfl (hb hby at_84) rfl rfl k) ?_
      obtain ⟨cq14, kq14, qa14, qb14, qc14⟩ := isOf hZ eh13 (F5).1
      obtain ⟨_, _, ⟨T14, L14, k14, n14⟩, -, X14, ⟨Lc14, hQ14, l14, y14, z14⟩, st14⟩ := X13.virtualBack hx (y := (⟨"com/example/quillon/quillon/storage/LogFormat$RecordBuffer", "bytes", "()[B"⟩ : MethodName)) (z := (⟨"com/example/quillon/quillon/storage/LogFormat$RecordBuffer", "bytes", "()[B"⟩ : MethodName)) hown (mvT hZ (hw _ (List.mem_of_getElem? (i := 67) rfl))) (mvT hZ (hw _ (List.mem_of_getElem? (i := 68) rfl))) (notFace_of_selects (args := #[]) (mvT hZ (hw _ (List.mem_of_getElem? (i := 70) rfl)))) (mvT hZ (hw _ (List.mem_of_getElem? (i := 70) rfl))) (mvT hZ (hw _ (List.mem_of_getElem? (i := 69) rfl))) (by decide) (backOf (W := 0) (rm13 l Z a0 hw [] b3 b4 ((0 : Int32) + (p1 &&& (127 : Int32))) (p0 &&& (63 : Int32)) T5.heap n0 ZH5 F5) hZ (hw _ (List.mem_of_getElem? (i := 71) rfl)) (hw _ (List.mem_of_getElem? (i := 3) rfl)) (by decide) (by decide)) qa14 qc14 (g := (mkF m 86 #[.val (.int p0), .val (.int p1), .val (.int p2), .val (.int p3), .val (.int p4), .val (.int (p0 &&& (63 : Int32))), .val (.int (p1 &&& (127 : Int32))), .val (.ref b1), .val (.ref b3), .val (.ref b4), .unset, .unset] [(.ref b3)])) rfl (by rw [hml]; rfl) (Steps.refl _) (argsL := []) (rest := []) (lenOf pd0_2 rfl) rfl (by show 2 * 0 + _ ≤ _; exact Nat.le_of_eq rfl) (hb hby at_86) (fun _ _ => ⟨rfl, eh13, (by decide : 3 + 0 ≤ _), (by decide : 194 + 0 ≤ _)⟩)
      dsimp only [Pt.U, Pt.locs, Pt.cells, Pt.slots] at X14 l14 y14 z14 st14 hQ14
      subst l14 y14 z14
      obtain ⟨rfl, Nq14, e14⟩ := hQ14
      have N14 := Fr.app N13 Nq14
      have eh14 : T14.heap = T5.heap := e14
      refine own_pre (B := T14.setTop (mkF m 89 #[.val (.int p0), .val (.int p1), .val (.int p2), .val (.int p3), .val (.int p4), .val (.int (p0 &&& (63 : Int32))), .val (.int (p1 &&& (127 : Int32))), .val (.ref b1), .val (.ref b3), .val (.ref b4), .unset, .unset] [(.ref b4)])) (fun t q => st14.trans q) ?_
      refine own_pre (B := T14.setTop (mkF m 91 #[.val (.int p0), .val (.int p1), .val (.int p2), .val (.int p3), .val (.int p4), .val (.int (p0 &&& (63 : Int32))), .val (.int (p1 &&& (127 : Int32))), .val (.ref b1), .val (.ref b3), .val (.ref b4), .val (.ref b4), .unset] [])) (fun t k => XS.astore X14.here hx rfl (hb hby at_89) rfl rfl (l' := #[.val (.int p0), .val (.int p1), .val (.int p2), .val (.int p3), .val (.int p4), .val (.int (p0 &&& (63 : Int32))), .val (.int (p1 &&& (127 : Int32))), .val (.ref b1), .val (.ref b3), .val (.ref b4), .val (.ref b4), .unset]) rfl k) ?_
      refine own_pre (B := T14.setTop (mkF m 93 #[.val (.int p0), .val (.int p1), .val (.int p2), .val (.int p3), .val (.int p4), .val (.int (p0 &&& (63 : Int32))), .val (.int (p1 &&& (127 : Int32))), .val (.ref b1), .val (.ref b3), .val (.ref b4), .val (.ref b4), .unset] [(.ref b3)])) (fun t k => XS.aload X14.here hx rfl (hb hby at_91) rfl rfl k) ?_
      obtain ⟨cq15, kq15, qa15, qb15, qc15⟩ := isOf hZ eh14 (F5).1
      obtain ⟨_, _, ⟨T15, L15, k15, n15⟩, -, X15, ⟨Lc15, hQ15, l15, y15, z15⟩, st15⟩ := X14.virtualBackUp hx (C := "com/example/quillon/quillon/storage/LogFormat$RecordBuffer") (owner := "java/io/ByteArrayOutputStream") (x := (⟨"com/example/quillon/quillon/storage/LogFormat$RecordBuffer", "size", "()I"⟩ : MethodName)) (y := (⟨"java/io/ByteArrayOutputStream", "size", "()I"⟩ : MethodName)) hown (mvT hZ (hw _ (List.mem_of_getElem? (i := 81) rfl))) (mvT hZ (hw _ (List.mem_of_getElem? (i := 82) rfl))) (mvT hZ (hw _ (List.mem_of_getElem? (i := 83) rfl))) (by decide) (mvT hZ (hw _ (List.mem_of_getElem? (i := 85) rfl))) (mvT hZ (hw _ (List.mem_of_getElem? (i := 84) rfl))) (own_backS (W := 0) (rmSz l Z a0 hw b3 (.ref b4) ((0 : Int32) + (p1 &&& (127 : Int32))) (p0 &&& (63 : Int32)) T5.heap n0 ZH5 F5) hZ (hw _ (List.mem_of_getElem? (i := 86) rfl)) (hw _ (List.mem_of_getElem? (i := 84) rfl)) (hw _ (List.mem_of_getElem? (i := 10) rfl)) U5 (by decide) (by decide)) qa15 qc15 (g := (mkF m 93 #[.val (.int p0), .val (.int p1), .val (.int p2), .val (.int p3), .val (.int p4), .val (.int (p0 &&& (63 : Int32))), .val (.int (p1 &&& (127 : Int32))), .val (.ref b1), .val (.ref b3), .val (.ref b4), .val (.ref b4), .unset] [(.ref b3)])) rfl (by rw [hml]; rfl) (Steps.refl _) (argsL := []) (rest := []) (lenOf pd0_4 rfl) rfl (by show 2 * 0 + _ ≤ _; exact Nat.le_of_eq rfl) (hb hby at_93) (fun _ _ => ⟨rfl, eh14, (by decide : 3 + 0 ≤ _), (by decide : 194 + 0 ≤ _)⟩)
      dsimp only [Pt.U, Pt.locs, Pt.cells, Pt.slots] at X15 l15 y15 z15 st15 hQ15
      subst l15 y15 z15
      obtain ⟨rfl, Nq15, e15⟩ := hQ15
      have N15 := Fr.app N14 Nq15
      have eh15 : T15.heap = T5.heap := e15
      refine own_pre (B := T15.setTop (mkF m 96 #[.val (.int p0), .val (.int p1), .val (.int p2), .val (.int p3), .val (.int p4), .val (.int (p0 &&& (63 : Int32))), .val (.int (p1 &&& (127 : Int32))), .val (.ref b1), .val (.ref b3), .val (.ref b4), .val (.ref b4), .unset] [(.int ((0 : Int32) + (p1 &&& (127 : Int32))))])) (fun t q => st15.trans q) ?_
      refine own_pre (B := T15.setTop (mkF m 98 #[.val (.int p0), .val (.int p1), .val (.int p2), .val (.int p3), .val (.int p4), .val (.int (p0 &&& (63 : Int32))), .val (.int (p1 &&& (127 : Int32))), .val (.ref b1), .val (.ref b3), .val (.ref b4), .val (.ref b4), .val (.int ((0 : Int32) + (p1 &&& (127 : Int32))))] [])) (fun t k => XS.istore X15.here hx rfl (hb hby at_96) rfl (l' := #[.val (.int p0), .val (.int p1), .val (.int p2), .val (.int p3), .val (.int p4), .val (.int (p0 &&& (63 : Int32))), .val (.int (p1 &&& (127 : Int32))), .val (.ref b1), .val (.ref b3), .val (.ref b4), .val (.ref b4), .val (.int ((0 : Int32) + (p1 &&& (127 : Int32))))]) rfl k) ?_
      refine own_pre (B := T15.setTop (mkF m 100 #[.val (.int p0), .val (.int p1), .val (.int p2), .val (.int p3), .val (.int p4), .val (.int (p0 &&& (63 : Int32))), .val (.int (p1 &&& (127 : Int32))), .val (.ref b1), .val (.ref b3), .val (.ref b4), .val (.ref b4), .val (.int ((0 : Int32) + (p1 &&& (127 : Int32))))] [(.ref b4)])) (fun t k => XS.aload X15.here hx rfl (hb hby at_98) rfl rfl k) ?_
      refine own_pre (B := T15.setTop (mkF m 101 #[.val (.int p0), .val (.int p1), .val (.int p2), .val (.int p3), .val (.int p4), .val (.int (p0 &&& (63 : Int32))), .val (.int (p1 &&& (127 : Int32))), .val (.ref b1), .val (.ref b3), .val (.ref b4), .val (.ref b4), .val (.int ((0 : Int32) + (p1 &&& (127 : Int32))))] [(.int (p0 &&& (63 : Int32)))])) (own_len X15 hx hZ eh15 V5 (g := (mkF m 100 #[.val (.int p0), .val (.int p1), .val (.int p2), .val (.int p3), .val (.int p4), .val (.int (p0 &&& (63 : Int32))), .val (.int (p1 &&& (127 : Int32))), .val (.ref b1), .val (.ref b3), .val (.ref b4), .val (.ref b4), .val (.int ((0 : Int32) + (p1 &&& (127 : Int32))))] [(.ref b4)])) rfl rfl (hb hby at_100)) ?_
      refine own_pre (B := T15.setTop (mkF m 103 #[.val (.int p0), .val (.int p1), .val (.int p2), .val (.int p3), .val (.int p4), .val (.int (p0 &&& (63 : Int32))), .val (.int (p1 &&& (127 : Int32))), .val (.ref b1), .val (.ref b3), .val (.ref b4), .val (.ref b4), .val (.int ((0 : Int32) + (p1 &&& (127 : Int32))))] [(.int (p0 &&& (63 : Int32))), (.int (p0 &&& (63 : Int32)))])) (fun t k => XS.iload X15.here hx rfl (hb hby at_101) rfl k) ?_
      refine own_pre (B := T15.setTop (mkF m 108 #[.val (.int p0), .val (.int p1), .val (.int p2), .val (.int p3), .val (.int p4), .val (.int (p0 &&& (63 : Int32))), .val (.int (p1 &&& (127 : Int32))), .val (.ref b1), .val (.ref b3), .val (.ref b4), .val (.ref b4), .val (.int ((0 : Int32) + (p1 &&& (127 : Int32))))] [])) (fun t k => XS.icmpYes X15.here hx rfl (pc0 := 103) (pc' := 108) rfl (hb hby at_103) rfl (teq (rfl : (p0 &&& (63 : Int32)) = (p0 &&& (63 : Int32)))).1 (by decide) (by decide) k) ?_
      refine own_pre (B := T15.setTop (mkF m 110 #[.val (.int p0), .val (.int p1), .val (.int p2), .val (.int p3), .val (.int p4), .val (.int (p0 &&& (63 : Int32))), .val (.int (p1 &&& (127 : Int32))), .val (.ref b1), .val (.ref b3), .val (.ref b4), .val (.ref b4), .val (.int ((0 : Int32) + (p1 &&& (127 : Int32))))] [(.int (p1 &&& (127 : Int32)))])) (fun t k => XS.iload X15.here hx rfl (hb hby at_108) rfl k) ?_
      refine own_pre (B := T15.setTop (mkF m 112 #[.val (.int p0), .val (.int p1), .val (.int p2), .val (.int p3), .val (.int p4), .val (.int (p0 &&& (63 : Int32))), .val (.int (p1 &&& (127 : Int32))), .val (.ref b1), .val (.ref b3), .val (.ref b4), .val (.ref b4), .val (.int ((0 : Int32) + (p1 &&& (127 : Int32))))] [(.int (p0 &&& (63 : Int32))), (.int (p1 &&& (127 : Int32)))])) (fun t k => XS.iload X15.here hx rfl (hb hby at_110) rfl k) ?_
      refine own_pre (B := T15.setTop (mkF m 133 #[.val (.int p0), .val (.int p1), .val (.int p2), .val (.int p3), .val (.int p4), .val (.int (p0 &&& (63 : Int32))), .val (.int (p1 &&& (127 : Int32))), .val (.ref b1), .val (.ref b3), .val (.ref b4), .val (.ref b4), .val (.int ((0 : Int32) + (p1 &&& (127 : Int32))))] [])) (fun t k => XS.icmpYes X15.here hx rfl (pc0 := 112) (pc' := 133) rfl (hb hby at_112) rfl (flt (own_nlt hc : ¬ ((p0 &&& (63 : Int32)) < (p1 &&& (127 : Int32))))).2.2.2 (by decide) (by decide) k) ?_
      refine own_pre (B := T15.setTop (mkF m 135 #[.val (.int p0), .val (.int p1), .val (.int p2), .val (.int p3), .val (.int p4), .val (.int (p0 &&& (63 : Int32))), .val (.int (p1 &&& (127 : Int32))), .val (.ref b1), .val (.ref b3), .val (.ref b4), .val (.ref b4), .val (.int ((0 : Int32) + (p1 &&& (127 : Int32))))] [(.int ((0 : Int32) + (p1 &&& (127 : Int32))))])) (fun t k => XS.iload X15.here hx rfl (hb hby at_133) rfl k) ?_
      refine own_pre (B := T15.setTop (mkF m 137 #[.val (.int p0), .val (.int p1), .val (.int p2), .val (.int p3), .val (.int p4), .val (.int (p0 &&& (63 : Int32))), .val (.int (p1 &&& (127 : Int32))), .val (.ref b1), .val (.ref b3), .val (.ref b4), .val (.ref b4), .val (.int ((0 : Int32) + (p1 &&& (127 : Int32))))] [(.int (p1 &&& (127 : Int32))), (.int ((0 : Int32) + (p1 &&& (127 : Int32))))])) (fun t k => XS.iload X15.here hx rfl (hb hby at_135) rfl k) ?_
      refine own_pre (B := T15.setTop (mkF m 140 #[.val (.int p0), .val (.int p1), .val (.int p2), .val (.int p3), .val (.int p4), .val (.int (p0 &&& (63 : Int32))), .val (.int (p1 &&& (127 : Int32))), .val (.ref b1), .val (.ref b3), .val (.ref b4), .val (.ref b4), .val (.int ((0 : Int32) + (p1 &&& (127 : Int32))))] [])) (fun t k => XS.icmpNo X15.here hx rfl (hb hby at_137) rfl (teq (Int32.zero_add _ : ((0 : Int32) + (p1 &&& (127 : Int32))) = (p1 &&& (127 : Int32)))).2 k) ?_
      refine own_pre (B := T15.setTop (mkF m 142 #[.val (.int p0), .val (.int p1), .val (.int p2), .val (.int p3), .val (.int p4), .val (.int (p0 &&& (63 : Int32))), .val (.int (p1 &&& (127 : Int32))), .val (.ref b1), .val (.ref b3), .val (.ref b4), .val (.ref b4), .val (.int ((0 : Int32) + (p1 &&& (127 : Int32))))] [(.ref b4)])) (fun t k => XS.aload X15.here hx rfl (hb hby at_140) rfl rfl k) ?_
      refine own_pre (B := T15.setTop (mkF m 144 #[.val (.int p0), .val (.int p1), .val (.int p2), .val (.int p3), .val (.int p4), .val (.int (p0 &&& (63 : Int32))), .val (.int (p1 &&& (127 : Int32))), .val (.ref b1), .val (.ref b3), .val (.ref b4), .val (.ref b4), .val (.int ((0 : Int32) + (p1 &&& (127 : Int32))))] [(.ref b4), (.ref b4)])) (fun t k => XS.aload X15.here hx rfl (hb hby at_142) rfl rfl k) ?_
      refine own_pre (B := T15.setTop (mkF m 149 #[.val (.int p0), .val (.int p1), .val (.int p2), .val (.int p3), .val (.int p4), .val (.int (p0 &&& (63 : Int32))), .val (.int (p1 &&& (127 : Int32))), .val (.ref b1), .val (.ref b3), .val (.ref b4), .val (.ref b4), .val (.int ((0 : Int32) + (p1 &&& (127 : Int32))))] [])) (fun t k => Jvm.RoadKit.acmp (g := (mkF m 144 #[.val (.int p0), .val (.int p1), .val (.int p2), .val (.int p3), .val (.int p4), .val (.int (p0 &&& (63 : Int32))), .val (.int (p1 &&& (127 : Int32))), .val (.ref b1), .val (.ref b3), .val (.ref b4), .val (.ref b4), .val (.int ((0 : Int32) + (p1 &&& (127 : Int32))))] [(.ref b4), (.ref b4)])) X15 hx rfl rfl rfl (pc0 := 144) (pc' := 149) (same := true) rfl (hb hby at_144) rfl (decide_eq_true rfl) (by decide) (by decide) k) ?_
      refine own_pre (B := T15.setTop (mkF m 151 #[.val (.int p0), .val (.int p1), .val (.int p2), .val (.int p3), .val (.int p4), .val (.int (p0 &&& (63 : Int32))), .val (.int (p1 &&& (127 : Int32))), .val (.ref b1), .val (.ref b3), .val (.ref b4), .val (.ref b4), .val (.int ((0 : Int32) + (p1 &&& (127 : Int32))))] [(.int (p1 &&& (127 : Int32)))])) (fun t k => XS.iload X15.here hx rfl (hb hby at_149) rfl k) ?_
      refine own_pre (B := T15.setTop (mkF m 154 #[.val (.int p0), .val (.int p1), .val (.int p2), .val (.int p3), .val (.int p4), .val (.int (p0 &&& (63 : Int32))), .val (.int (p1 &&& (127 : Int32))), .val (.ref b1), .val (.ref b3), .val (.ref b4), .val (.ref b4), .val (.int ((0 : Int32) + (p1 &&& (127 : Int32))))] [])) (fun t k => XS.ifNo X15.here hx rfl (hb hby at_151) rfl ((if0 _ _).trans (teq ((Int32.toInt_inj.mp hz) : (p1 &&& (127 : Int32)) = (0 : Int32))).2) k) ?_
      refine own_pre (B := T15.setTop (mkF m 155 #[.val (.int p0), .val (.int p1), .val (.int p2), .val (.int p3), .val (.int p4), .val (.int (p0 &&& (63 : Int32))), .val (.int (p1 &&& (127 : Int32))), .val (.ref b1), .val (.ref b3), .val (.ref b4), .val (.ref b4), .val (.int ((0 : Int32) + (p1 &&& (127 : Int32))))] [(.int (1 : Int32))])) (fun t k => XS.iconst X15.here hx rfl (hb hby at_154) k) ?_
      exact own_retZ X15 hx hlk Bd.returns (hb hby at_155) (⟨rfl, N15⟩) (by decide) (by decide)
  exact own_pre pre0 g_0
theorem ef_0B1 (m : MethodId) (p0 : Int32) (p1 : Int32) (p2 : Int32) (p3 : Int32) (p4 : Int32) : entryFrame m #[(.int p0), (.int p1), (.int p2), (.int p3), (.int p4)] maxLocals = mkF m 0 #[.val (.int p0), .val (.int p1), .val (.int p2), .val (.int p3), .val (.int p4), .unset, .unset, .unset, .unset, .unset, .unset, .unset] [] := by first | (simp [entryFrame, mkF, argsToLocals, Value.category, maxLocals]; done) | rfl
def Q0B1 (Z : State) (p0 : Int32) (p1 : Int32) (p2 : Int32) (p3 : Int32) (p4 : Int32) (h0 : Heap) (n0 : Nat) (v : Option Value) (h : Heap) (L : List Loc) : Prop := v = some (.int 1) ∧ Fr n0 L
set_option maxRecDepth 65536 in
set_option maxHeartbeats 40000000 in
theorem rm0B1 (l : Launch) (Z : State) (a0 : Array Value) (hw : ∀ d ∈ tables_1, d.before a0 Z = true) (ws : List Jvm.Cond) (p0 : Int32) (p1 : Int32) (p2 : Int32) (p3 : Int32) (p4 : Int32) (h0 : Heap) (n0 : Nat) (Z0 : n0 ≤ h0.size) (hc : (p1 &&& (127 : Int32)).toInt ≤ (p0 &&& (63 : Int32)).toInt) (hp : (0 : Int32) < (p1 &&& (127 : Int32))) :
    MetFree l x (head1 (Jvm.Cond.code x code maxLocals ret :: ws) room_1) (fun a U => a = #[(.int p0), (.int p1), (.int p2), (.int p3), (.int p4)] ∧ Z.Warmed39 U.vm ∧ U.heap = h0) (fun _ _ _ _ _ => True) (fun _ U o U' => ∃ v L, o = .returned v ∧ Q0B1 Z p0 p1 p2 p3 p4 h0 n0 v U'.heap L ∧ FrameEnd U o U' L room_1.cells room_1.slots) := by
  refine MetFree.of_bodySF (plainFor_of_name pn_0) hisR ?_
  intro p e s m args below meth c s₁ Bd hml0 hP hK
  obtain ⟨rfl, hZ, hh⟩ := hP
  have hx := Bd.exec
  have hby := Bd.bytes
  have hml : c.maxLocals = 12 := hml0
  have hlk : meth.locks = false := BodyLoose.notSynchronized Bd
  have hown : s.vm.findClass "com/example/quillon/quillon/storage/RecordBufferShrinkPinLaw" = some m.cls := findClass_of_methodNamed Bd.named
  have hnm := (name_of_methodNamed Bd.named Bd.method).1
  have X0 : Stand p l e room_1 s m #[(.int p0), (.int p1), (.int p2), (.int p3), (.int p4)] below meth c s₁ [] 0 0 := Stand.of_body Bd
  have e0 : s₁.heap = h0 := by rw [← hh, Bd.state]; rfl
  have N0 := Fr.nil n0
  have pre0 : ∀ t, Steps p.tables e below (s₁.setTop (mkF m 0 #[.val (.int p0), .val (.int p1), .val (.int p2), .val (.int p3), .val (.int p4), .unset, .unset, .unset, .unset, .unset, .unset, .unset] [])) t → Steps p.tables e below (s₁.setTop (entryFrame m #[(.int p0), (.int p1), (.int p2), (.int p3), (.int p4)] maxLocals)) t := fun t k => castTop (ef_0B1 m p0 p1 p2 p3 p4) k
  have g_0 : own_Fin p e below s (Q0B1 Z p0 p1 p2 p3 p4 h0 n0) room_1.cells room_1.slots (s₁.setTop (mkF m 0 #[.val (.int p0), .val (.int p1), .val (.int p2), .val (.int p3), .val (.int p4), .unset, .unset, .unset, .unset, .unset, .unset, .unset] [])) := by
    refine own_pre (B := s₁.setTop (mkF m 1 #[.val (.int p0), .val (.int p1), .val (.int p2), .val (.int p3), .val (.int p4), .unset, .unset, .unset, .unset, .unset, .unset, .unset] [(.int p0)])) (fun t k => XS.iloadN X0.here hx rfl (hb hby at_0) rfl k) ?_
    refine own_pre (B := s₁.setTop (mkF m 3 #[.val (.int p0), .val (.int p1), .val (.int p2), .val (.int p3), .val (.int p4), .unset, .unset, .unset, .unset, .unset, .unset, .unset] [(.int (63 : Int32)), (.int p0)])) (fun t k => XS.bipush X0.here hx rfl (hb hby at_1) k) ?_
    refine own_pre (B := s₁.setTop (mkF m 4 #[.val (.int p0), .val (.int p1), .val (.int p2), .val (.int p3), .val (.int p4), .unset, .unset, .unset, .unset, .unset, .unset, .unset] [(.int (p0 &&& (63 : Int32)))])) (fun t k => XS.iand X0.here hx rfl (hb hby at_3) rfl k) ?_
    refine own_pre (B := s₁.setTop (mkF m 6 #[.val (.int p0), .val (.int p1), .val (.int p2), .val (.int p3), .val (.int p4), .val (.int (p0 &&& (63 : Int32))), .unset, .unset, .unset, .unset, .unset, .unset] [])) (fun t k => XS.istore X0.here hx rfl (hb hby at_4) rfl (l' := #[.val (.int p0), .val (.int p1), .val (.int p2), .val (.int p3), .val (.int p4), .val (.int (p0 &&& (63 : Int32))), .unset, .unset, .unset, .unset, .unset, .unset]) rfl k) ?_
    refine own_pre (B := s₁.setTop (mkF m 7 #[.val (.int p0), .val (.int p1), .val (.int p2), .val (.int p3), .val (.int p4), .val (.int (p0 &&& (63 : Int32))), .unset, .unset, .unset, .unset, .unset, .unset] [(.int p1)])) (fun t k => XS.iloadN X0.here hx rfl (hb hby at_6) rfl k) ?_
    refine own_pre (B := s₁.setTop (mkF m 9 #[.val (.int p0), .val (.int p1), .val (.int p2), .val (.int p3), .val (.int p4), .val (.int (p0 &&& (63 : Int32))), .unset, .unset, .unset, .unset, .unset, .unset] [(.int (127 : Int32)), (.int p1)])) (fun t k => XS.bipush X0.here hx rfl (hb hby at_7) k) ?_
    refine own_pre (B := s₁.setTop (mkF m 10 #[.val (.int p0), .val (.int p1), .val (.int p2), .val (.int p3), .val (.int p4), .val (.int (p0 &&& (63 : Int32))), .unset, .unset, .unset, .unset, .unset, .unset] [(.int (p1 &&& (127 : Int32)))])) (fun t k => XS.iand X0.here hx rfl (hb hby at_9) rfl k) ?_
    refine own_pre (B := s₁.setTop (mkF m 12 #[.val (.int p0), .val (.int p1), .val (.int p2), .val (.int p3), .val (.int p4), .val (.int (p0 &&& (63 : Int32))), .val (.int (p1 &&& (127 : Int32))), .unset, .unset, .unset, .unset, .unset] [])) (fun t k => XS.istore X0.here hx rfl (hb hby at_10) rfl (l' := #[.val (.int p0), .val (.int p1), .val (.int p2), .val (.int p3), .val (.int p4), .val (.int (p0 &&& (63 : Int32))), .val (.int (p1 &&& (127 : Int32))), .unset, .unset, .unset, .unset, .unset]) rfl k) ?_
    refine own_pre (B := s₁.setTop (mkF m 15 #[.val (.int p0), .val (.int p1), .val (.int p2), .val (.int p3), .val (.int p4), .val (.int (p0 &&& (63 : Int32))), .val (.int (p1 &&& (127 : Int32))), .unset, .unset, .unset, .unset, .unset] [(.int (128 : Int32))])) (fun t k => XS.sipush X0.here hx rfl (hb hby at_12) k) ?_
    obtain ⟨T1, h1, kc1, X1, e1, E1, A1, st1⟩ := newP X0 hx hZ (hw _ (List.mem_of_getElem? (i := 0) rfl)) e0 (g := (mkF m 15 #[.val (.int p0), .val (.int p1), .val (.int p2), .val (.int p3), .val (.int p4), .val (.int (p0 &&& (63 : Int32))), .val (.int (p1 &&& (127 : Int32))), .unset, .unset, .unset, .unset, .unset] [(.int (128 : Int32))])) rfl (hb hby at_15) rfl (by decide) (cap := 128) (by decide) (by decide) (by decide) (by decide)
    obtain ⟨b1, g1⟩ : ∃ z, z = h0.size := ⟨_, rfl⟩
    rw [← g1] at A1 st1
    have V1 : Arv Z h1 b1 kc1 .byte (128 : Int32) [] (.int (0 : Int32)) := Arv.new A1 (by decide)
    have gb1 : n0 ≤ b1 := Nat.le_trans Z0 (Nat.le_of_eq g1.symm)
    have ZH1 : n0 ≤ h1.size := Nat.le_trans Z0 E1.1
    have K1 := Keep.ext (Keep.refl h0 []) E1
    have sb1 := Nat.le_trans ((Keep.refl h0 [])).1 (Nat.le_of_eq g1.symm)
    have D1 := V1.pad (pad_rep [] (.int (0 : Int32)) 128)
    have da_lt1 := V1.lt
    refine own_pre (B := T1.setTop (mkF m 17 #[.val (.int p0), .val (.int p1), .val (.int p2), .val (.int p3), .val (.int p4), .val (.int (p0 &&& (63 : Int32))), .val (.int (p1 &&& (127 : Int32))), .unset, .unset, .unset, .unset, .unset] [(.ref b1)])) st1 ?_
    refine own_pre (B := T1.setTop (mkF m 19 #[.val (.int p0), .val (.int p1), .val (.int p2), .val (.int p3), .val (.int p4), .val (.int (p0 &&& (63 : Int32))), .val (.int (p1 &&& (127 : Int32))), .val (.ref b1), .unset, .unset, .unset, .unset] [])) (fun t k => XS.astore X1.here hx rfl (hb hby at_17) rfl rfl (l' := #[.val (.int p0), .val (.int p1), .val (.int p2), .val (.int p3), .val (.int p4), .val (.int (p0 &&& (63 : Int32))), .val (.int (p1 &&& (127 : Int32))), .val (.ref b1), .unset, .unset, .unset, .unset]) rfl k) ?_
    refine own_pre (B := T1.setTop (mkF m 21 #[.val (.int p0), .val (.int p1), .val (.int p2), .val (.int p3), .val (.int p4), .val (.int (p0 &&& (63 : Int32))), .val (.int (p1 &&& (127 : Int32))), .val (.ref b1), .unset, .unset, .unset, .unset] [(.ref b1)])) (fun t k => XS.aload X1.here hx rfl (hb hby at_19) rfl rfl k) ?_
    refine own_pre (B := T1.setTop (mkF m 22 #[.val (.int p0), .val (.int p1), .val (.int p2), .val (.int p3), .val (.int p4), .val (.int (p0 &&& (63 : Int32))), .val (.int (p1 &&& (127 : Int32))), .val (.ref b1), .unset, .unset, .unset, .unset] [(.int (0 : Int32)), (.ref b1)])) (fun t k => XS.iconst X1.here hx rfl (hb hby at_21) k) ?_
    refine own_pre (B := T1.setTop (mkF m 23 #[.val (.int p0), .val (.int p1), .val (.int p2), .val (.int p3), .val (.int p4), .val (.int (p0 &&& (63 : Int32))), .val (.int (p1 &&& (127 : Int32))), .val (.ref b1), .unset, .unset, .unset, .unset] [(.int p2), (.int (0 : Int32)), (.ref b1)])) (fun t k => XS.iloadN X1.here hx rfl (hb hby at_22) rfl k) ?_
    refine own_pre (B := T1.setTop (mkF m 24 #[.val (.int p0), .val (.int p1), .val (.int p2), .val (.int p3), .val (.int p4), .val (.int (p0 &&& (63 : Int32))), .val (.int (p1 &&& (127 : Int32))), .val (.ref b1), .unset, .unset, .unset, .unset] [(.int (p2.toInt8.toInt32)), (.int (0 : Int32)), (.ref b1)])) (fun t k => XS.i2b X1.here hx rfl (hb hby at_23) rfl k) ?_
    obtain ⟨T2, h2, X2, e2, W2, D2, st2⟩ := own_stB X1 hx hZ e1 D1 (j := (0 : Int32)) (x := (p2.toInt8.toInt32)) ⟨by decide, by decide⟩ (by rw [List.nil_append, List.length_replicate]; decide) (g := (mkF m 24 #[.val (.int p0), .val (.int p1), .val (.int p2), .val (.int p3), .val (.int p4), .val (.int (p0 &&& (63 : Int32))), .val (.int (p1 &&& (127 : Int32))), .val (.ref b1), .unset, .unset, .unset, .unset] [(.int (p2.toInt8.toInt32)), (.int (0 : Int32)), (.ref b1)])) rfl rfl (hb hby at_24)
    have N2 := Fr.snoc X2 N0 gb1
    have ZH2 : n0 ≤ h2.size := by rw [W2.size]; exact ZH1
    have K2 := Keep.refl h2 []
    refine own_pre (B := T2.setTop (mkF m 25 #[.val (.int p0), .val (.int p1), .val (.int p2), .val (.int p3), .val (.int p4), .val (.int (p0 &&& (63 : Int32))), .val (.int (p1 &&& (127 : Int32))), .val (.ref b1), .unset, .unset, .unset, .unset] [])) st2 ?_
    refine own_pre (B := T2.setTop (mkF m 27 #[.val (.int p0), .val (.int p1), .val (.int p2), .val (.int p3), .val (.int p4), .val (.int (p0 &&& (63 : Int32))), .val (.int (p1 &&& (127 : Int32))), .val (.ref b1), .unset, .unset, .unset, .unset] [(.int (p1 &&& (127 : Int32)))])) (fun t k => XS.iload X2.here hx rfl (hb hby at_25) rfl k) ?_
    refine own_pre (B := T2.setTop (mkF m 30 #[.val (.int p0), .val (.int p1), .val (.int p2), .val (.int p3), .val (.int p4), .val (.int (p0 &&& (63 : Int32))), .val (.int (p1 &&& (127 : Int32))), .val (.ref b1), .unset, .unset, .unset, .unset] [])) (fun t k => XS.ifNo X2.here hx rfl (hb hby at_27) rfl ((if0 _ _).trans (tlt (hp : (0 : Int32) < (p1 &&& (127 : Int32)))).2.2.2) k) ?_
    refine own_pre (B := T2.setTop (mkF m 32 #[.val (.int p0), .val (.int p1), .val (.int p2), .val (.int p3), .val (.int p4), .val (.int (p0 &&& (63 : Int32))), .val (.int (p1 &&& (127 : Int32))), .val (.ref b1), .unset, .unset, .unset, .unset] [(.ref b1)])) (fun t k => XS.aload X2.here hx rfl (hb hby at_30) rfl rfl k) ?_
    refine own_pre (B := T2.setTop (mkF m 34 #[.val (.int p0), .val (.int p1), .val (.int p2), .val (.int p3), .val (.int p4), .val (.int (p0 &&& (63 : Int32))), .val (.int (p1 &&& (127 : Int32))), .val (.ref b1), .unset, .unset, .unset, .unset] [(.int (p1 &&& (127 : Int32))), (.ref b1)])) (fun t k => XS.iload X2.here hx rfl (hb hby at_32) rfl k) ?_
    refine own_pre (B := T2.setTop (mkF m 35 #[.val (.int p0), .val (.int p1), .val (.int p2), .val (.int p3), .val (.int p4), .val (.int (p0 &&& (63 : Int32))), .val (.int (p1 &&& (127 : Int32))), .val (.ref b1), .unset, .unset, .unset, .unset] [(.int (1 : Int32)), (.int (p1 &&& (127 : Int32))), (.ref b1)])) (fun t k => XS.iconst X2.here hx rfl (hb hby at_34) k) ?_
    refine own_pre (B := T2.setTop (mkF m 36 #[.val (.int p0), .val (.int p1), .val (.int p2), .val (.int p3), .val (.int p4), .val (.int (p0 &&& (63 : Int32))), .val (.int (p1 &&& (127 : Int32))), .val (.ref b1), .unset, .unset, .unset, .unset] [(.int ((p1 &&& (127 : Int32)) - (1 : Int32))), (.ref b1)])) (fun t k => XS.isub X2.here hx rfl (hb hby at_35) rfl k) ?_
    refine own_pre (B := T2.setTop (mkF m 37 #[.val (.int p0), .val (.int p1), .val (.int p2), .val (.int p3), .val (.int p4), .val (.int (p0 &&& (63 : Int32))), .val (.int (p1 &&& (127 : Int32))), .val (.ref b1), .unset, .unset, .unset, .unset] [(.int p3), (.int ((p1 &&& (127 : Int32)) - (1 : Int32))), (.ref b1)])) (fun t k => XS.iloadN X2.here hx rfl (hb hby at_36) rfl k) ?_
    refine own_pre (B := T2.setTop (mkF m 38 #[.val (.int p0), .val (.int p1), .val (.int p2), .val (.int p3), .val (.int p4), .val (.int (p0 &&& (63 : Int32))), .val (.int (p1 &&& (127 : Int32))), .val (.ref b1), .unset, .unset, .unset, .unset] [(.int (p3.toInt8.toInt32)), (.int ((p1 &&& (127 : Int32)) - (1 : Int32))), (.ref b1)])) (fun t k => XS.i2b X2.here hx rfl (hb hby at_37) rfl k) ?_
    obtain ⟨T3, h3, X3, e3, W3, D3, st3⟩ := own_stB X2 hx hZ e2 D2 (j := ((p1 &&& (127 : Int32)) - (1 : Int32))) (x := (p3.toInt8.toInt32)) (own_pos hp (own_nw p1).2).1 (by rw [List.length_set, List.nil_append, List.length_replicate]; exact (own_pos hp (own_nw p1).2).2.1) (g := (mkF m 38 #[.val (.int p0), .val (.int p1), .val (.int p2), .val (.int p3), .val (.int p4), .val (.int (p0 &&& (63 : Int32))), .val (.int (p1 &&& (127 : Int32))), .val (.ref b1), .unset, .unset, .unset, .unset] [(.int (p3.toInt8.toInt32)), (.int ((p1 &&& (127 : Int32)) - (1 : Int32))), (.ref b1)])) rfl rfl (hb hby at_38)
    have N3 := Fr.snoc X3 N2 gb1
    have ZH3 : n0 ≤ h3.size := by rw [W3.size]; exact ZH2
    have K3 := Keep.refl h3 []
    refine own_pre (B := T3.setTop (mkF m 39 #[.val (.int p0), .val (.int p1), .val (.int p2), .val (.int p3), .val (.int p4), .val (.int (p0 &&& (63 : Int32))), .val (.int (p1 &&& (127 : Int32))), .val (.ref b1), .unset, .unset, .unset, .unset] [])) st3 ?_
    obtain ⟨T4, h4, X4, e4, E4, A4, D4, Un4, st4⟩ := newO X3 hx hZ hown (hw _ (List.mem_of_getElem? (i := 1) rfl)) (hw _ (List.mem_of_getElem? (i := 2) rfl)) (hw _ (List.mem_of_getElem? (i := 3) rfl)) e3 (g := (mkF m 39 #[.val (.int p0), .val (.int p1), .val (.int p2), .val (.int p3), .val (.int p4), .val (.int (p0 &&& (63 : Int32))), .val (.int (p1 &&& (127 : Int32))), .val (.ref b1), .unset, .unset, .unset, .unset] [])) rfl (hb hby at_39) (by decide) (by decide)
    obtain ⟨b4, g4⟩ : ∃ z, z = h3.size := ⟨_, rfl⟩
    rw [← g4] at A4 D4 Un4 st4
    have gb4 : n0 ≤ b4 := Nat.le_trans ZH3 (Nat.le_of_eq g4.symm)
    have ZH4 : n0 ≤ h4.size := Nat.le_trans ZH3 E4.1
    have Zs4 : n0 ≤ T4.heap.size := by rw [e4]; exact ZH4
    have F4 : own_B Z h4 b4 .null 0 0 := ⟨A4, D4 (Or.inl (hw _ (List.mem_of_getElem? (i := 22) rfl))) (ty := .array .byte) (by decide), D4 (Or.inl (hw _ (List.mem_of_getElem? (i := 40) rfl))) (ty := .int) (by decide), D4 (Or.inr (hw _ (List.mem_of_getElem? (i := 24) rfl))) (ty := .int) (by decide)⟩
    have Dd4 := D3.ext E4
    have n14 : b1 ≠ b4 := Nat.ne_of_lt (Nat.lt_of_lt_of_le D3.lt (Nat.le_of_eq g4.symm))
    refine own_pre (B := T4.setTop (mkF m 42 #[.val (.int p0), .val (.int p1), .val (.int p2), .val (.int p3), .val (.int p4), .val (.int (p0 &&& (63 : Int32))), .val (.int (p1 &&& (127 : Int32))), .val (.ref b1), .unset, .unset, .unset, .unset] [(.ref b4)])) st4 ?_
    refine own_pre (B := T4.setTop (mkF m 43 #[.val (.int p0), .val (.int p1), .val (.int p2), .val (.int p3), .val (.int p4), .val (.int (p0 &&& (63 : Int32))), .val (.int (p1 &&& (127 : Int32))), .val (.ref b1), .unset, .unset, .unset, .unset] [(.ref b4), (.ref b4)])) (fun t k => XS.dup X4.here hx rfl (hb hby at_42) rfl rfl k) ?_
    refine own_pre (B := T4.setTop (mkF m 45 #[.val (.int p0), .val (.int p1), .val (.int p2), .val (.int p3), .val (.int p4), .val (.int (p0 &&& (63 : Int32))), .val (.int (p1 &&& (127 : Int32))), .val (.ref b1), .unset, .unset, .unset, .unset] [(.int (p0 &&& (63 : Int32))), (.ref b4), (.ref b4)])) (fun t k => XS.iload X4.here hx rfl (hb hby at_43) rfl k) ?_
    obtain ⟨_, _, ⟨T5, L5, k5, n5⟩, -, X5, ⟨Lc5, hQ5, l5, y5, z5⟩, st5⟩ := X4.specialBack hx (y := (⟨"com/example/quillon/quillon/storage/LogFormat$RecordBuffer", "<init>", "(I)V"⟩ : MethodName)) rfl hown (mvT hZ (hw _ (List.mem_of_getElem? (i := 4) rfl))) (mvT hZ (hw _ (List.mem_of_getElem? (i := 5) rfl))) (mvT hZ (hw _ (List.mem_of_getElem? (i := 6) rfl))) (by decide) (backOf (W := 1) (rm1 l Z a0 hw [] b4 (p0 &&& (63 : Int32)) _ _ _ h4 n0 ZH4 F4 Un4 gb4 (own_us p0).1 (own_us p0).2) hZ (hw _ (List.mem_of_getElem? (i := 6) rfl)) (hw _ (List.mem_of_getElem? (i := 3) rfl)) (by decide) (by decide)) (g := (mkF m 45 #[.val (.int p0), .val (.int p1), .val (.int p2), .val (.int p3), .val (.int p4), .val (.int (p0 &&& (63 : Int32))), .val (.int (p1 &&& (127 : Int32))), .val (.ref b1), .unset, .unset, .unset, .unset] [(.int (p0 &&& (63 : Int32))), (.ref b4), (.ref b4)])) rfl (by rw [hml]; rfl) (Steps.refl _) (a := b4) (argsL := [(.int (p0 &&& (63 : Int32)))]) (rest := [(.ref b4)]) (lenOf pd0_0 rfl) rfl (by show 2 * 0 + _ ≤ _; exact Nat.le_of_eq rfl) (hb hby at_45) (fun _ _ => ⟨rfl, e4, (by decide : 2 + 1 ≤ _), (by decide : 131 + 63 ≤ _)⟩)
    dsimp only [Pt.U, Pt.locs, Pt.cells, Pt.slots] at X5 l5 y5 z5 st5 hQ5
    subst l5 y5 z5
    obtain ⟨rfl, Nq5, K5, U5, b5, kc5, sb5, F5, V5⟩ := hQ5
    have N5 := Fr.app N3 Nq5
    have ZH5 : n0 ≤ T5.heap.size := Nat.le_trans ZH4 K5.1
    have D5 := Dd4.keep K5 (ninS n14 nin0)
    have n25 : b5 ≠ b4 := Ne.symm (Nat.ne_of_lt (Nat.lt_of_lt_of_le (F4).1.lt sb5))
    have n35 : b1 ≠ b5 := Nat.ne_of_lt (Nat.lt_of_lt_of_le Dd4.lt sb5)
    have gf5 : n0 ≤ b5 := Nat.le_trans ZH4 sb5
    refine own_pre (B := T5.setTop (mkF m 48 #[.val (.int p0), .val (.int p1), .val (.int p2), .val (.int p3), .val (.int p4), .val (.int (p0 &&& (63 : Int32))), .val (.int (p1 &&& (127 : Int32))), .val (.ref b1), .unset, .unset, .unset, .unset] [(.ref b4)])) (fun t q => st5.trans q) ?_
    refine own_pre (B := T5.setTop (mkF m 50 #[.val (.int p0), .val (.int p1), .val (.int p2), .val (.int p3), .val (.int p4), .val (.int (p0 &&& (63 : Int32))), .val (.int (p1 &&& (127 : Int32))), .val (.ref b1), .val (.ref b4), .unset, .unset, .unset] [])) (fun t k => XS.astore X5.here hx rfl (hb hby at_48) rfl rfl (l' := #[.val (.int p0), .val (.int p1), .val (.int p2), .val (.int p3), .val (.int p4), .val (.int (p0 &&& (63 : Int32))), .val (.int (p1 &&& (127 : Int32))), .val (.ref b1), .val (.ref b4), .unset, .unset, .unset]) rfl k) ?_
    refine own_pre (B := T5.setTop (mkF m 52 #[.val (.int p0), .val (.int p1), .val (.int p2), .val (.int p3), .val (.int p4), .val (.int (p0 &&& (63 : Int32))), .val (.int (p1 &&& (127 : Int32))), .val (.ref b1), .val (.ref b4), .unset, .unset, .unset] [(.ref b4)])) (fun t k => XS.aload X5.here hx rfl (hb hby at_50) rfl rfl k) ?_
    refine own_pre (B := T5.setTop (mkF m 54 #[.val (.int p0), .val (.int p1), .val (.int p2), .val (.int p3), .val (.int p4), .val (.int (p0 &&& (63 : Int32))), .val (.int (p1 &&& (127 : Int32))), .val (.ref b1), .val (.ref b4), .unset, .unset, .unset] [(.ref b1), (.ref b4)])) (fun t k => XS.aload X5.here hx rfl (hb hby at_52) rfl rfl k) ?_
    refine own_pre (B := T5.setTop (mkF m 55 #[.val (.int p0), .val (.int p1), .val (.int p2), .val (.int p3), .val (.int p4), .val (.int (p0 &&& (63 : Int32))), .val (.int (p1 &&& (127 : Int32))), .val (.ref b1), .val (.ref b4), .unset, .unset, .unset] [(.int (0 : Int32)), (.ref b1), (.ref b4)])) (fun t k => XS.iconst X5.here hx rfl (hb hby at_54) k) ?_
    refine own_pre (B := T5.setTop (mkF m 57 #[.val (.int p0), .val (.int p1), .val (.int p2), .val (.int p3), .val (.int p4), .val (.int (p0 &&& (63 : Int32))), .val (.int (p1 &&& (127 : Int32))), .val (.ref b1), .val (.ref b4), .unset, .unset, .unset] [(.int (p1 &&& (127 : Int32))), (.int (0 : Int32)), (.ref b1), (.ref b4)])) (fun t k => XS.iload X5.here hx rfl (hb hby at_55) rfl k) ?_
    obtain ⟨cq6, kq6, qa6, qb6, qc6⟩ := isOf hZ rfl (F5).1
    obtain ⟨_, _, ⟨T6, L6, k6, n6⟩, -, X6, ⟨Lc6, hQ6, l6, y6, z6⟩, st6⟩ := X5.virtualBackUp hx (C := "com/example/quillon/quillon/storage/LogFormat$RecordBuffer") (owner := "java/io/ByteArrayOutputStream") (x := (⟨"com/example/quillon/quillon/storage/LogFormat$RecordBuffer", "write", "([BII)V"⟩ : MethodName)) (y := (⟨"java/io/ByteArrayOutputStream", "write", "([BII)V"⟩ : MethodName)) hown (mvT hZ (hw _ (List.mem_of_getElem? (i := 25) rfl))) (mvT hZ (hw _ (List.mem_of_getElem? (i := 26) rfl))) (mvT hZ (hw _ (List.mem_of_getElem? (i := 27) rfl))) (by decide) (mvT hZ (hw _ (List.mem_of_getElem? (i := 29) rfl))) (mvT hZ (hw _ (List.mem_of_getElem? (i := 28) rfl))) (own_backS (W := 0) (rmW0 l Z a0 hw b4 b1 (p1 &&& (127 : Int32)) b5 (p0 &&& (63 : Int32)) kc5 (p0 &&& (63 : Int32)) [] kc1 _ T5.heap n0 ZH5 F5 U5 V5 D5 gb4 gf5 n14 n25 n35 (own_us p0).1 (own_us p0).2 (own_nw p1).1 (own_nw p1).2 hc) hZ (hw _ (List.mem_of_getElem? (i := 30) rfl)) (hw _ (List.mem_of_getElem? (i := 28) rfl)) (hw _ (List.mem_of_getElem? (i := 10) rfl)) U5 (by decide) (by decide)) qa6 qc6 (g := (mkF m 57 #[.val (.int p0), .val (.int p1), .val (.int p2), .val (.int p3), .val (.int p4), .val (.int (p0 &&& (63 : Int32))), .val (.int (p1 &&& (127 : Int32))), .val (.ref b1), .val (.ref b4), .unset, .unset, .unset] [(.int (p1 &&& (127 : Int32))), (.int (0 : Int32)), (.ref b1), (.ref b4)])) rfl (by rw [hml]; rfl) (Steps.refl _) (argsL := [(.ref b1), (.int (0 : Int32)), (.int (p1 &&& (127 : Int32)))]) (rest := []) (lenOf pd0_1 rfl) rfl (by show 2 * 0 + _ ≤ _; exact Nat.le_of_eq rfl) (hb hby at_57) (fun _ _ => ⟨rfl, rfl, (by decide : 3 + 0 ≤ _), (by decide : 194 + 0 ≤ _)⟩)
    dsimp only [Pt.U, Pt.locs, Pt.cells, Pt.slots] at X6 l6 y6 z6 st6 hQ6
    subst l6 y6 z6
    obtain ⟨rfl, Nq6, U6, SZ6, F6, D6, ws6, hws6, V6⟩ := hQ6
    have N6 := Fr.app N5 Nq6
    have ZH6 : n0 ≤ T6.heap.size := Nat.le_trans ZH5 SZ6
    refine own_pre (B := T6.setTop (mkF m 60 #[.val (.int p0), .val (.int p1), .val (.int p2), .val (.int p3), .val (.int p4), .val (.int (p0 &&& (63 : Int32))), .val (.int (p1 &&& (127 : Int32))), .val (.ref b1), .val (.ref b4), .unset, .unset, .unset] [])) (fun t q => st6.trans q) ?_
    refine own_pre (B := T6.setTop (mkF m 62 #[.val (.int p0), .val (.int p1), .val (.int p2), .val (.int p3), .val (.int p4), .val (.int (p0 &&& (63 : Int32))), .val (.int (p1 &&& (127 : Int32))), .val (.ref b1), .val (.ref b4), .unset, .unset, .unset] [(.ref b4)])) (fun t k => XS.aload X6.here hx rfl (hb hby at_60) rfl rfl k) ?_
    obtain ⟨cq7, kq7, qa7, qb7, qc7⟩ := isOf hZ rfl (F6).1
    obtain ⟨_, _, ⟨T7, L7, k7, n7⟩, -, X7, ⟨Lc7, hQ7, l7, y7, z7⟩, st7⟩ := X6.virtualBack hx (y := (⟨"com/example/quillon/quillon/storage/LogFormat$RecordBuffer", "bytes", "()[B"⟩ : MethodName)) (z := (⟨"com/example/quillon/quillon/storage/LogFormat$RecordBuffer", "bytes", "()[B"⟩ : MethodName)) hown (mvT hZ (hw _ (List.mem_of_getElem? (i := 67) rfl))) (mvT hZ (hw _ (List.mem_of_getElem? (i := 68) rfl))) (notFace_of_selects (args := #[]) (mvT hZ (hw _ (List.mem_of_getElem? (i := 70) rfl)))) (mvT hZ (hw _ (List.mem_of_getElem? (i := 70) rfl))) (mvT hZ (hw _ (List.mem_of_getElem? (i := 69) rfl))) (by decide) (backOf (W := 0) (rm13 l Z a0 hw [] b4 b5 ((0 : Int32) + (p1 &&& (127 : Int32))) (p0 &&& (63 : Int32)) T6.heap n0 ZH6 F6) hZ (hw _ (List.mem_of_getElem? (i := 71) rfl)) (hw _ (List.mem_of_getElem? (i := 3) rfl)) (by decide) (by decide)) qa7 qc7 (g := (mkF m 62 #[.val (.int p0), .val (.int p1), .val (.int p2), .val (.int p3), .val (.int p4), .val (.int (p0 &&& (63 : Int32))), .val (.int (p1 &&& (127 : Int32))), .val (.ref b1), .val (.ref b4), .unset, .unset, .unset] [(.ref b4)])) rfl (by rw [hml]; rfl) (Steps.refl _) (argsL := []) (rest := []) (lenOf pd0_2 rfl) rfl (by show 2 * 0 + _ ≤ _; exact Nat.le_of_eq rfl) (hb hby at_62) (fun _ _ => ⟨rfl, rfl, (by decide : 3 + 0 ≤ _), (by decide : 194 + 0 ≤ _)⟩)
    dsimp only [Pt.U, Pt.locs, Pt.cells, Pt.slots] at X7 l7 y7 z7 st7 hQ7
    subst l7 y7 z7
    obtain ⟨rfl, Nq7, e7⟩ := hQ7
    have N7 := Fr.app N6 Nq7
    have eh7 : T7.heap = T6.heap := e7
    refine own_pre (B := T7.setTop (mkF m 65 #[.val (.int p0), .val (.int p1), .val (.int p2), .val (.int p3), .val (.int p4), .val (.int (p0 &&& (63 : Int32))), .val (.int (p1 &&& (127 : Int32))), .val (.ref b1), .val (.ref b4), .unset, .unset, .unset] [(.ref b5)])) (fun t q => st7.trans q) ?_
    refine own_pre (B := T7.setTop (mkF m 67 #[.val (.int p0), .val (.int p1), .val (.int p2), .val (.int p3), .val (.int p4), .val (.int (p0 &&& (63 : Int32))), .val (.int (p1 &&& (127 : Int32))), .val (.ref b1), .val (.ref b4), .val (.ref b5), .unset, .unset] [])) (fun t k => XS.astore X7.here hx rfl (hb hby at_65) rfl rfl (l' := #[.val (.int p0), .val (.int p1), .val (.int p2), .val (.int p3), .val (.int p4), .val (.int (p0 &&& (63 : Int32))), .val (.int (p1 &&& (127 : Int32))), .val (.ref b1), .val (.ref b4), .val (.ref b5), .unset, .unset]) rfl k) ?_
    refine own_pre (B := T7.setTop (mkF m 69 #[.val (.int p0), .val (.int p1), .val (.int p2), .val (.int p3), .val (.int p4), .val (.int (p0 &&& (63 : Int32))), .val (.int (p1 &&& (127 : Int32))), .val (.ref b1), .val (.ref b4), .val (.ref b5), .unset, .unset] [(.ref b4)])) (fun t k => XS.aload X7.here hx rfl (hb hby at_67) rfl rfl k) ?_
    obtain ⟨cq8, kq8, qa8, qb8, qc8⟩ := isOf hZ eh7 (F6).1
    obtain ⟨_, _, ⟨T8, L8, k8, n8⟩, -, X8, ⟨Lc8, hQ8, l8, y8, z8⟩, st8⟩ := X7.virtualBack hx (y := (⟨"com/example/quillon/quillon/storage/LogFormat$RecordBuffer", "shrink", "()V"⟩ : MethodName)) (z := (⟨"com/example/quillon/quillon/storage/LogFormat$RecordBuffer", "shrink", "()V"⟩ : MethodName)) hown (mvT hZ (hw _ (List.mem_of_getElem? (i := 74) rfl))) (mvT hZ (hw _ (List.mem_of_getElem? (i := 75) rfl))) (notFace_of_selects (args := #[]) (mvT hZ (hw _ (List.mem_of_getElem? (i := 77) rfl)))) (mvT hZ (hw _ (List.mem_of_getElem? (i := 77) rfl))) (mvT hZ (hw _ (List.mem_of_getElem? (i := 76) rfl))) (by decide) (backOf (W := 0) (rmS0 l Z a0 hw [] b4 b5 ((0 : Int32) + (p1 &&& (127 : Int32))) (p0 &&& (63 : Int32)) kc5 (p0 &&& (63 : Int32)) ws6 T6.heap n0 ZH6 F6 V6 (own_nlt (Int.le_refl _))) hZ (hw _ (List.mem_of_getElem? (i := 78) rfl)) (hw _ (List.mem_of_getElem? (i := 3) rfl)) (by decide) (by decide)) qa8 qc8 (g := (mkF m 69 #[.val (.int p0), .val (.int p1), .val (.int p2), .val (.int p3), .val (.int p4), .val (.int (p0 &&& (63 : Int32))), .val (.int (p1 &&& (127 : Int32))), .val (.ref b1), .val (.ref b4), .val (.ref b5), .unset, .unset] [(.ref b4)])) rfl (by rw [hml]; rfl) (Steps.refl _) (argsL := []) (rest := []) (lenOf pd0_3 rfl) rfl (by show 2 * 0 + _ ≤ _; exact Nat.le_of_eq rfl) (hb hby at_69) (fun _ _ => ⟨rfl, eh7, (by decide : 3 + 0 ≤ _), (by decide : 194 + 0 ≤ _)⟩)
    dsimp only [Pt.U, Pt.locs, Pt.cells, Pt.slots] at X8 l8 y8 z8 st8 hQ8
    subst l8 y8 z8
    obtain ⟨rfl, Nq8, e8⟩ := hQ8
    have N8 := Fr.app N7 Nq8
    have eh8 : T8.heap = T6.heap := e8
    refine own_pre (B := T8.setTop (mkF m 72 #[.val (.int p0), .val (.int p1), .val (.int p2), .val (.int p3), .val (.int p4), .val (.int (p0 &&& (63 : Int32))), .val (.int (p1 &&& (127 : Int32))), .val (.ref b1), .val (.ref b4), .val (.ref b5), .unset, .unset] [])) (fun t q => st8.trans q) ?_
    refine own_pre (B := T8.setTop (mkF m 74 #[.val (.int p0), .val (.int p1), .val (.int p2), .val (.int p3), .val (.int p4), .val (.int (p0 &&& (63 : Int32))), .val (.int (p1 &&& (127 : Int32))), .val (.ref b1), .val (.ref b4), .val (.ref b5), .unset, .unset] [(.int p4)])) (fun t k => XS.iload X8.here hx rfl (hb hby at_72) rfl k) ?_
    refine own_pre (B := T8.setTop (mkF m 75 #[.val (.int p0), .val (.int p1), .val (.int p2), .val (.int p3), .val (.int p4), .val (.int (p0 &&& (63 : Int32))), .val (.int (p1 &&& (127 : Int32))), .val (.ref b1), .val (.ref b4), .val (.ref b5), .unset, .unset] [(.int (1 : Int32)), (.int p4)])) (fun t k => XS.iconst X8.here hx rfl (hb hby at_74) k) ?_
    refine own_pre (B := T8.setTop (mkF m 76 #[.val (.int p0), .val (.int p1), .val (.int p2), .val (.int p3), .val (.int p4), .val (.int (p0 &&& (63 : Int32))), .val (.int (p1 &&& (127 : Int32))), .val (.ref b1), .val (.ref b4), .val (.ref b5), .unset, .unset] [(.int (p4 &&& (1 : Int32)))])) (fun t k => XS.iand X8.here hx rfl (hb hby at_75) rfl k) ?_
    by_cases hc9 : (p4 &&& (1 : Int32)) = (0 : Int32)
    · skip
      refine own_pre (B := T8.setTop (mkF m 84 #[.val (.int p0), .val (.int p1), .val (.int p2), .val (.int p3), .val (.int p4), .val (.int (p0 &&& (63 : Int32))), .val (.int (p1 &&& (127 : Int32))), .val (.ref b1), .val (.ref b4), .val (.ref b5), .unset, .unset] [])) (fun t k => XS.ifYes X8.here hx rfl (pc0 := 76) (pc' := 84) rfl (hb hby at_76) rfl ((if0 _ _).trans (teq hc9).1) (by decide) (by decide) k) ?_
      refine own_pre (B := T8.setTop (mkF m 86 #[.val (.int p0), .val (.int p1), .val (.int p2), .val (.int p3), .val (.int p4), .val (.int (p0 &&& (63 : Int32))), .val (.int (p1 &&& (127 : Int32))), .val (.ref b1), .val (.ref b4), .val (.ref b5), .unset, .unset] [(.ref b4)])) (fun t k => XS.aload X8.here hx rfl (hb hby at_84) rfl rfl k) ?_
      obtain ⟨cq11, kq11, qa11, qb11, qc11⟩ := isOf hZ eh8 (F6).1
      obtain ⟨_, _, ⟨T11, L11, k11, n11⟩, -, X11, ⟨Lc11, hQ11, l11, y11, z11⟩, st11⟩ := X8.virtualBack hx (y := (⟨"com/example/quillon/quillon/storage/LogFormat$RecordBuffer", "bytes", "()[B"⟩ : MethodName)) (z := (⟨"com/example/quillon/quillon/storage/LogFormat$RecordBuffer", "bytes", "()[B"⟩ : MethodName)) hown (mvT hZ (hw _ (List.mem_of_getElem? (i := 67) rfl))) (mvT hZ (hw _ (List.mem_of_getElem? (i := 68) rfl))) (notFace_of_selects (args := #[]) (mvT hZ (hw _ (List.mem_of_getElem? (i := 70) rfl)))) (mvT hZ (hw _ (List.mem_of_getElem? (i := 70) rfl))) (mvT hZ (hw _ (List.mem_of_getElem? (i := 69) rfl))) (by decide) (backOf (W := 0) (rm13 l Z a0 hw [] b4 b5 ((0 : Int32) + (p1 &&& (127 : Int32))) (p0 &&& (63 : Int32)) T6.heap n0 ZH6 F6) hZ (hw _ (List.mem_of_getElem? (i := 71) rfl)) (hw _ (List.mem_of_getElem? (i := 3) rfl)) (by decide) (by decide)) qa11 qc11 (g := (mkF m 86 #[.val (.int p0), .val (.int p1), .val (.int p2), .val (.int p3), .val (.int p4), .val (.int (p0 &&& (63 : Int32))), .val (.int (p1 &&& (127 : Int32))), .val (.ref b1), .val (.ref b4), .val (.ref b5), .unset, .unset] [(.ref b4)])) rfl (by rw [hml]; rfl) (Steps.refl _) (argsL := []) (rest := []) (lenOf pd0_2 rfl) rfl (by show 2 * 0 + _ ≤ _; exact Nat.le_of_eq rfl) (hb hby at_86) (fun _ _ => ⟨rfl, eh8, (by decide : 3 + 0 ≤ _), (by decide : 194 + 0 ≤ _)⟩)
      dsimp only [Pt.U, Pt.locs, Pt.cells, Pt.slots] at X11 l11 y11 z11 st11 hQ11
      subst l11 y11 z11
      obtain ⟨rfl, Nq11, e11⟩ := hQ11
      have N11 := Fr.app N8 Nq11
      have eh11 : T11.heap = T6.heap := e11
      refine own_pre (B := T11.setTop (mkF m 89 #[.val (.int p0), .val (.int p1), .val (.int p2), .val (.int p3), .val (.int p4), .val (.int (p0 &&& (63 : Int32))), .val (.int (p1 &&& (127 : Int32))), .val (.ref b1), .val (.ref b4), .val (.ref b5), .unset, .unset] [(.ref b5)])) (fun t q => st11.trans q) ?_
      refine own_pre (B := T11.setTop (mkF m 91 #[.val (.int p0), .val (.int p1), .val (.int p2), .val (.int p3), .val (.int p4), .val (.int (p0 &&& (63 : Int32))), .val (.int (p1 &&& (127 : Int32))), .val (.ref b1), .val (.ref b4), .val (.ref b5), .val (.ref b5), .unset] [])) (fun t k => XS.astore X11.here hx rfl (hb hby at_89) rfl rfl (l' := #[.val (.int p0), .val (.int p1), .val (.int p2), .val (.int p3), .val (.int p4), .val (.int (p0 &&& (63 : Int32))), .val (.int (p1 &&& (127 : Int32))), .val (.ref b1), .val (.ref b4), .val (.ref b5), .val (.ref b5), .unset]) rfl k) ?_
      refine own_pre (B := T11.setTop (mkF m 93 #[.val (.int p0), .val (.int p1), .val (.int p2), .val (.int p3), .val (.int p4), .val (.int (p0 &&& (63 : Int32))), .val (.int (p1 &&& (127 : Int32))), .val (.ref b1), .val (.ref b4), .val (.ref b5), .val (.ref b5), .unset] [(.ref b4)])) (fun t k => XS.aload X11.here hx rfl (hb hby at_91) rfl rfl k) ?_
      obtain ⟨cq12, kq12, qa12, qb12, qc12⟩ := isOf hZ eh11 (F6).1
      obtain ⟨_, _, ⟨T12, L12, k12, n12⟩, -, X12, ⟨Lc12, hQ12, l12, y12, z12⟩, st12⟩ := X11.virtualBackUp hx (C := "com/example/quillon/quillon/storage/LogFormat$RecordBuffer") (owner := "java/io/ByteArrayOutputStream") (x := (⟨"com/example/quillon/quillon/storage/LogFormat$RecordBuffer", "size", "()I"⟩ : MethodName)) (y := (⟨"java/io/ByteArrayOutputStream", "size", "()I"⟩ : MethodName)) hown (mvT hZ (hw _ (List.mem_of_getElem? (i := 81) rfl))) (mvT hZ (hw _ (List.mem_of_getElem? (i := 82) rfl))) (mvT hZ (hw _ (List.mem_of_getElem? (i := 83) rfl))) (by decide) (mvT hZ (hw _ (List.mem_of_getElem? (i := 85) rfl))) (mvT hZ (hw _ (List.mem_of_getElem? (i := 84) rfl))) (own_backS (W := 0) (rmSz l Z a0 hw b4 (.ref b5) ((0 : Int32) + (p1 &&& (127 : Int32))) (p0 &&& (63 : Int32)) T6.heap n0 ZH6 F6) hZ (hw _ (List.mem_of_getElem? (i := 86) rfl)) (hw _ (List.mem_of_getElem? (i := 84) rfl)) (hw _ (List.mem_of_getElem? (i := 10) rfl)) U6 (by decide) (by decide)) qa12 qc12 (g := (mkF m 93 #[.val (.int p0), .val (.int p1), .val (.int p2), .val (.int p3), .val (.int p4), .val (.int (p0 &&& (63 : Int32))), .val (.int (p1 &&& (127 : Int32))), .val (.ref b1), .val (.ref b4), .val (.ref b5), .val (.ref b5), .unset] [(.ref b4)])) rfl (by rw [hml]; rfl) (Steps.refl _) (argsL := []) (rest := []) (lenOf pd0_4 rfl) rfl (by show 2 * 0 + _ ≤ _; exact Nat.le_of_eq rfl) (hb hby at_93) (fun _ _ => ⟨rfl, eh11, (by decide : 3 + 0 ≤ _), (by decide : 194 + 0 ≤ _)⟩)
      dsimp only [Pt.U, Pt.locs, Pt.cells, Pt.slots] at X12 l12 y12 z12 st12 hQ12
      subst l12 y12 z12
      obtain ⟨rfl, Nq12, e12⟩ := hQ12
      have N12 := Fr.app N11 Nq12
      have eh12 : T12.heap = T6.heap := e12
      refine own_pre (B := T12.setTop (mkF m 96 #[.val (.int p0), .val (.int p1), .val (.int p2), .val (.int p3), .val (.int p4), .val (.int (p0 &&& (63 : Int32))), .val (.int (p1 &&& (127 : Int32))), .val (.ref b1), .val (.ref b4), .val (.ref b5), .val (.ref b5), .unset] [(.int ((0 : Int32) + (p1 &&& (127 : Int32))))])) (fun t q => st12.trans q) ?_
      refine own_pre (B := T12.setTop (mkF m 98 #[.val (.int p0), .val (.int p1), .val (.int p2), .val (.int p3), .val (.int p4), .val (.int (p0 &&& (63 : Int32))), .val (.int (p1 &&& (127 : Int32))), .val (.ref b1), .val (.ref b4), .val (.ref b5), .val (.ref b5), .val (.int ((0 : Int32) + (p1 &&& (127 : Int32))))] [])) (fun t k => XS.istore X12.here hx rfl (hb hby at_96) rfl (l' := #[.val (.int p0), .val (.int p1), .val (.int p2), .val (.int p3), .val (.int p4), .val (.int (p0 &&& (63 : Int32))), .val (.int (p1 &&& (127 : Int32))), .val (.ref b1), .val (.ref b4), .val (.ref b5), .val (.ref b5), .val (.int ((0 : Int32) + (p1 &&& (127 : Int32))))]) rfl k) ?_
      refine own_pre (B := T12.setTop (mkF m 100 #[.val (.int p0), .val (.int p1), .val (.int p2), .val (.int p3), .val (.int p4), .val (.int (p0 &&& (63 : Int32))), .val (.int (p1 &&& (127 : Int32))), .val (.ref b1), .val (.ref b4), .val (.ref b5), .val (.ref b5), .val (.int ((0 : Int32) + (p1 &&& (127 : Int32))))] [(.ref b5)])) (fun t k => XS.aload X12.here hx rfl (hb hby at_98) rfl rfl k) ?_
      refine own_pre (B := T12.setTop (mkF m 101 #[.val (.int p0), .val (.int p1), .val (.int p2), .val (.int p3), .val (.int p4), .val (.int (p0 &&& (63 : Int32))), .val (.int (p1 &&& (127 : Int32))), .val (.ref b1), .val (.ref b4), .val (.ref b5), .val (.ref b5), .val (.int ((0 : Int32) + (p1 &&& (127 : Int32))))] [(.int (p0 &&& (63 : Int32)))])) (own_len X12 hx hZ eh12 V6 (g := (mkF m 100 #[.val (.int p0), .val (.int p1), .val (.int p2), .val (.int p3), .val (.int p4), .val (.int (p0 &&& (63 : Int32))), .val (.int (p1 &&& (127 : Int32))), .val (.ref b1), .val (.ref b4), .val (.ref b5), .val (.ref b5), .val (.int ((0 : Int32) + (p1 &&& (127 : Int32))))] [(.ref b5)])) rfl rfl (hb hby at_100)) ?_
      refine own_pre (B := T12.setTop (mkF m 103 #[.val (.int p0), .val (.int p1), .val (.int p2), .val (.int p3), .val (.int p4), .val (.int (p0 &&& (63 : Int32))), .val (.int (p1 &&& (127 : Int32))), .val (.ref b1), .val (.ref b4), .val (.ref b5), .val (.ref b5), .val (.int ((0 : Int32) + (p1 &&& (127 : Int32))))] [(.int (p0 &&& (63 : Int32))), (.int (p0 &&& (63 : Int32)))])) (fun t k => XS.iload X12.here hx rfl (hb hby at_101) rfl k) ?_
      refine own_pre (B := T12.setTop (mkF m 108 #[.val (.int p0), .val (.int p1), .val (.int p2), .val (.int p3), .val (.int p4), .val (.int (p0 &&& (63 : Int32))), .val (.int (p1 &&& (127 : Int32))), .val (.ref b1), .val (.ref b4), .val (.ref b5), .val (.ref b5), .val (.int ((0 : Int32) + (p1 &&& (127 : Int32))))] [])) (fun t k => XS.icmpYes X12.here hx rfl (pc0 := 103) (pc' := 108) rfl (hb hby at_103) rfl (teq (rfl : (p0 &&& (63 : Int32)) = (p0 &&& (63 : Int32)))).1 (by decide) (by decide) k) ?_
      refine own_pre (B := T12.setTop (mkF m 110 #[.val (.int p0), .val (.int p1), .val (.int p2), .val (.int p3), .val (.int p4), .val (.int (p0 &&& (63 : Int32))), .val (.int (p1 &&& (127 : Int32))), .val (.ref b1), .val (.ref b4), .val (.ref b5), .val (.ref b5), .val (.int ((0 : Int32) + (p1 &&& (127 : Int32))))] [(.int (p1 &&& (127 : Int32)))])) (fun t k => XS.iload X12.here hx rfl (hb hby at_108) rfl k) ?_
      refine own_pre (B := T12.setTop (mkF m 112 #[.val (.int p0), .val (.int p1), .val (.int p2), .val (.int p3), .val (.int p4), .val (.int (p0 &&& (63 : Int32))), .val (.int (p1 &&& (127 : Int32))), .val (.ref b1), .val (.ref b4), .val (.ref b5), .val (.ref b5), .val (.int ((0 : Int32) + (p1 &&& (127 : Int32))))] [(.int (p0 &&& (63 : Int32))), (.int (p1 &&& (127 : Int32)))])) (fun t k => XS.iload X12.here hx rfl (hb hby at_110) rfl k) ?_
      refine own_pre (B := T12.setTop (mkF m 133 #[.val (.int p0), .val (.int p1), .val (.int p2), .val (.int p3), .val (.int p4), .val (.int (p0 &&& (63 : Int32))), .val (.int (p1 &&& (127 : Int32))), .val (.ref b1), .val (.ref b4), .val (.ref b5), .val (.ref b5), .val (.int ((0 : Int32) + (p1 &&& (127 : Int32))))] [])) (fun t k => XS.icmpYes X12.here hx rfl (pc0 := 112) (pc' := 133) rfl (hb hby at_112) rfl (flt (own_nlt hc : ¬ ((p0 &&& (63 : Int32)) < (p1 &&& (127 : Int32))))).2.2.2 (by decide) (by decide) k) ?_
      refine own_pre (B := T12.setTop (mkF m 135 #[.val (.int p0), .val (.int p1), .val (.int p2), .val (.int p3), .val (.int p4), .val (.int (p0 &&& (63 : Int32))), .val (.int (p1 &&& (127 : Int32))), .val (.ref b1), .val (.ref b4), .val (.ref b5), .val (.ref b5), .val (.int ((0 : Int32) + (p1 &&& (127 : Int32))))] [(.int ((0 : Int32) + (p1 &&& (127 : Int32))))])) (fun t k => XS.iload X12.here hx rfl (hb hby at_133) rfl k) ?_
      refine own_pre (B := T12.setTop (mkF m 137 #[.val (.int p0), .val (.int p1), .val (.int p2), .val (.int p3), .val (.int p4), .val (.int (p0 &&& (63 : Int32))), .val (.int (p1 &&& (127 : Int32))), .val (.ref b1), .val (.ref b4), .val (.ref b5), .val (.ref b5), .val (.int ((0 : Int32) + (p1 &&& (127 : Int32))))] [(.int (p1 &&& (127 : Int32))), (.int ((0 : Int32) + (p1 &&& (127 : Int32))))])) (fun t k => XS.iload X12.here hx rfl (hb hby at_135) rfl k) ?_
      refine own_pre (B := T12.setTop (mkF m 140 #[.val (.int p0), .val (.int p1), .val (.int p2), .val (.int p3), .val (.int p4), .val (.int (p0 &&& (63 : Int32))), .val (.int (p1 &&& (127 : Int32))), .val (.ref b1), .val (.ref b4), .val (.ref b5), .val (.ref b5), .val (.int ((0 : Int32) + (p1 &&& (127 : Int32))))] [])) (fun t k => XS.icmpNo X12.here hx rfl (hb hby at_137) rfl (teq (Int32.zero_add _ : ((0 : Int32) + (p1 &&& (127 : Int32))) = (p1 &&& (127 : Int32)))).2 k) ?_
      refine own_pre (B := T12.setTop (mkF m 142 #[.val (.int p0), .val (.int p1), .val (.int p2), .val (.int p3), .val (.int p4), .val (.int (p0 &&& (63 : Int32))), .val (.int (p1 &&& (127 : Int32))), .val (.ref b1), .val (.ref b4), .val (.ref b5), .val (.ref b5), .val (.int ((0 : Int32) + (p1 &&& (127 : Int32))))] [(.ref b5)])) (fun t k => XS.aload X12.here hx rfl (hb hby at_140) rfl rfl k) ?_
      refine own_pre (B := T12.setTop (mkF m 144 #[.val (.int p0), .val (.int p1), .val (.int p2), .val (.int p3), .val (.int p4), .val (.int (p0 &&& (63 : Int32))), .val (.int (p1 &&& (127 : Int32))), .val (.ref b1), .val (.ref b4), .val (.ref b5), .val (.ref b5), .val (.int ((0 : Int32) + (p1 &&& (127 : Int32))))] [(.ref b5), (.ref b5)])) (fun t k => XS.aload X12.here hx rfl (hb hby at_142) rfl rfl k) ?_
      refine own_pre (B := T12.setTop (mkF m 149 #[.val (.int p0), .val (.int p1), .val (.int p2), .val (.int p3), .val (.int p4), .val (.int (p0 &&& (63 : Int32))), .val (.int (p1 &&& (127 : Int32))), .val (.ref b1), .val (.ref b4), .val (.ref b5), .val (.ref b5), .val (.int ((0 : Int32) + (p1 &&& (127 : Int32))))] [])) (fun t k => Jvm.RoadKit.acmp (g := (mkF m 144 #[.val (.int p0), .val (.int p1), .val (.int p2), .val (.int p3), .val (.int p4), .val (.int (p0 &&& (63 : Int32))), .val (.int (p1 &&& (127 : Int32))), .val (.ref b1), .val (.ref b4), .val (.ref b5), .val (.ref b5), .val (.int ((0 : Int32) + (p1 &&& (127 : Int32))))] [(.ref b5), (.ref b5)])) X12 hx rfl rfl rfl (pc0 := 144) (pc' := 149) (same := true) rfl (hb hby at_144) rfl (decide_eq_true rfl) (by decide) (by decide) k) ?_
      refine own_pre (B := T12.setTop (mkF m 151 #[.val (.int p0), .val (.int p1), .val (.int p2), .val (.int p3), .val (.int p4), .val (.int (p0 &&& (63 : Int32))), .val (.int (p1 &&& (127 : Int32))), .val (.ref b1), .val (.ref b4), .val (.ref b5), .val (.ref b5), .val (.int ((0 : Int32) + (p1 &&& (127 : Int32))))] [(.int (p1 &&& (127 : Int32)))])) (fun t k => XS.iload X12.here hx rfl (hb hby at_149) rfl k) ?_
      refine own_pre (B := T12.setTop (mkF m 156 #[.val (.int p0), .val (.int p1), .val (.int p2), .val (.int p3), .val (.int p4), .val (.int (p0 &&& (63 : Int32))), .val (.int (p1 &&& (127 : Int32))), .val (.ref b1), .val (.ref b4), .val (.ref b5), .val (.ref b5), .val (.int ((0 : Int32) + (p1 &&& (127 : Int32))))] [])) (fun t k => XS.ifYes X12.here hx rfl (pc0 := 151) (pc' := 156) rfl (hb hby at_151) rfl ((if0 _ _).trans (feq ((fun q => by rw [q] at hp; exact absurd hp (by decide)) : ¬ ((p1 &&& (127 : Int32)) = (0 : Int32)))).2) (by decide) (by decide) k) ?_
      refine own_pre (B := T12.setTop (mkF m 158 #[.val (.int p0), .val (.int p1), .val (.int p2), .val (.int p3), .val (.int p4), .val (.int (p0 &&& (63 : Int32))), .val (.int (p1 &&& (127 : Int32))), .val (.ref b1), .val (.ref b4), .val (.ref b5), .val (.ref b5), .val (.int ((0 : Int32) + (p1 &&& (127 : Int32))))] [(.ref b5)])) (fun t k => XS.aload X12.here hx rfl (hb hby at_156) rfl rfl k) ?_
      refine own_pre (B := T12.setTop (mkF m 159 #[.val (.int p0), .val (.int p1), .val (.int p2), .val (.int p3), .val (.int p4), .val (.int (p0 &&& (63 : Int32))), .val (.int (p1 &&& (127 : Int32))), .val (.ref b1), .val (.ref b4), .val (.ref b5), .val (.ref b5), .val (.int ((0 : Int32) + (p1 &&& (127 : Int32))))] [(.int (0 : Int32)), (.ref b5)])) (fun t k => XS.iconst X12.here hx rfl (hb hby at_158) k) ?_
      obtain ⟨xf, hxf⟩ := own_int D6 (i := ((0 : Int32)).toNatClampNeg) (show _ < (128 : Int32).toNatClampNeg from (by decide))
      have hwxf := (hws6 _ (show (0 : Int32).toNatClampNeg < (p1 &&& (127 : Int32)).toNatClampNeg from Nat.lt_of_le_of_lt (Nat.zero_le _) (own_pos hp (own_nw p1).2).2.2)).trans hxf
      refine own_pre (B := T12.setTop (mkF m 160 #[.val (.int p0), .val (.int p1), .val (.int p2), .val (.int p3), .val (.int p4), .val (.int (p0 &&& (63 : Int32))), .val (.int (p1 &&& (127 : Int32))), .val (.ref b1), .val (.ref b4), .val (.ref b5), .val (.ref b5), .val (.int ((0 : Int32) + (p1 &&& (127 : Int32))))] [(.int xf)])) (own_ldB X12 hx hZ eh12 V6 (j := (0 : Int32)) (v := xf) ⟨by decide, own_lt (by have := Int32.lt_iff_toInt_lt.mp hp; omega)⟩ hwxf (g := (mkF m 159 #[.val (.int p0), .val (.int p1), .val (.int p2), .val (.int p3), .val (.int p4), .val (.int (p0 &&& (63 : Int32))), .val (.int (p1 &&& (127 : Int32))), .val (.ref b1), .val (.ref b4), .val (.ref b5), .val (.ref b5), .val (.int ((0 : Int32) + (p1 &&& (127 : Int32))))] [(.int (0 : Int32)), (.ref b5)])) rfl rfl (hb hby at_159)) ?_
      refine own_pre (B := T12.setTop (mkF m 162 #[.val (.int p0), .val (.int p1), .val (.int p2), .val (.int p3), .val (.int p4), .val (.int (p0 &&& (63 : Int32))), .val (.int (p1 &&& (127 : Int32))), .val (.ref b1), .val (.ref b4), .val (.ref b5), .val (.ref b5), .val (.int ((0 : Int32) + (p1 &&& (127 : Int32))))] [(.ref b1), (.int xf)])) (fun t k => XS.aload X12.here hx rfl (hb hby at_160) rfl rfl k) ?_
      refine own_pre (B := T12.setTop (mkF m 163 #[.val (.int p0), .val (.int p1), .val (.int p2), .val (.int p3), .val (.int p4), .val (.int (p0 &&& (63 : Int32))), .val (.int (p1 &&& (127 : Int32))), .val (.ref b1), .val (.ref b4), .val (.ref b5), .val (.ref b5), .val (.int ((0 : Int32) + (p1 &&& (127 : Int32))))] [(.int (0 : Int32)), (.ref b1), (.int xf)])) (fun t k => XS.iconst X12.here hx rfl (hb hby at_162) k) ?_
      refine own_pre (B := T12.setTop (mkF m 164 #[.val (.int p0), .val (.int p1), .val (.int p2), .val (.int p3), .val (.int p4), .val (.int (p0 &&& (63 : Int32))), .val (.int (p1 &&& (127 : Int32))), .val (.ref b1), .val (.ref b4), .val (.ref b5), .val (.ref b5), .val (.int ((0 : Int32) + (p1 &&& (127 : Int32))))] [(.int xf), (.int xf)])) (own_ldB X12 hx hZ eh12 D6 (j := (0 : Int32)) (v := xf) ⟨by decide, by decide⟩ hxf (g := (mkF m 163 #[.val (.int p0), .val (.int p1), .val (.int p2), .val (.int p3), .val (.int p4), .val (.int (p0 &&& (63 : Int32))), .val (.int (p1 &&& (127 : Int32))), .val (.ref b1), .val (.ref b4), .val (.ref b5), .val (.ref b5), .val (.int ((0 : Int32) + (p1 &&& (127 : Int32))))] [(.int (0 : Int32)), (.ref b1), (.int xf)])) rfl rfl (hb hby at_163)) ?_
      refine own_pre (B := T12.setTop (mkF m 167 #[.val (.int p0), .val (.int p1), .val (.int p2), .val (.int p3), .val (.int p4), .val (.int (p0 &&& (63 : Int32))), .val (.int (p1 &&& (127 : Int32))), .val (.ref b1), .val (.ref b4), .val (.ref b5), .val (.ref b5), .val (.int ((0 : Int32) + (p1 &&& (127 : Int32))))] [])) (fun t k => XS.icmpNo X12.here hx rfl (hb hby at_164) rfl (teq (rfl : xf = xf)).2 k) ?_
      refine own_pre (B := T12.setTop (mkF m 169 #[.val (.int p0), .val (.int p1), .val (.int p2), .val (.int p3), .val (.int p4), .val (.int (p0 &&& (63 : Int32))), .val (.int (p1 &&& (127 : Int32))), .val (.ref b1), .val (.ref b4), .val (.ref b5), .val (.ref b5), .val (.int ((0 : Int32) + (p1 &&& (127 : Int32))))] [(.ref b5)])) (fun t k => XS.aload X12.here hx rfl (hb hby at_167) rfl rfl k) ?_
      refine own_pre (B := T12.setTop (mkF m 171 #[.val (.int p0), .val (.int p1), .val (.int p2), .val (.int p3), .val (.int p4), .val (.int (p0 &&& (63 : Int32))), .val (.int (p1 &&& (127 : Int32))), .val (.ref b1), .val (.ref b4), .val (.ref b5), .val (.ref b5), .val (.int ((0 : Int32) + (p1 &&& (127 : Int32))))] [(.int (p1 &&& (127 : Int32))), (.ref b5)])) (fun t k => XS.iload X12.here hx rfl (hb hby at_169) rfl k) ?_
      refine own_pre (B := T12.setTop (mkF m 172 #[.val (.int p0), .val (.int p1), .val (.int p2), .val (.int p3), .val (.int p4), .val (.int (p0 &&& (63 : Int32))), .val (.int (p1 &&& (127 : Int32))), .val (.ref b1), .val (.ref b4), .val (.ref b5), .val (.ref b5), .val (.int ((0 : Int32) + (p1 &&& (127 : Int32))))] [(.int (1 : Int32)), (.int (p1 &&& (127 : Int32))), (.ref b5)])) (fun t k => XS.iconst X12.here hx rfl (hb hby at_171) k) ?_
      refine own_pre (B := T12.setTop (mkF m 173 #[.val (.int p0), .val (.int p1), .val (.int p2), .val (.int p3), .val (.int p4), .val (.int (p0 &&& (63 : Int32))), .val (.int (p1 &&& (127 : Int32))), .val (.ref b1), .val (.ref b4), .val (.ref b5), .val (.ref b5), .val (.int ((0 : Int32) + (p1 &&& (127 : Int32))))] [(.int ((p1 &&& (127 : Int32)) - (1 : Int32))), (.ref b5)])) (fun t k => XS.isub X12.here hx rfl (hb hby at_172) rfl k) ?_
      obtain ⟨xl, hxl⟩ := own_int D6 (i := (((p1 &&& (127 : Int32)) - (1 : Int32))).toNatClampNeg) (show _ < (128 : Int32).toNatClampNeg from (own_pos hp (own_nw p1).2).2.1)
      have hwxl := (hws6 _ (own_pos hp (own_nw p1).2).2.2).trans hxl
      refine own_pre (B := T12.setTop (mkF m 174 #[.val (.int p0), .val (.int p1), .val (.int p2), .val (.int p3), .val (.int p4), .val (.int (p0 &&& (63 : Int32))), .val (.int (p1 &&& (127 : Int32))), .val (.ref b1), .val (.ref b4), .val (.ref b5), .val (.ref b5), .val (.int ((0 : Int32) + (p1 &&& (127 : Int32))))] [(.int xl)])) (own_ldB X12 hx hZ eh12 V6 (j := ((p1 &&& (127 : Int32)) - (1 : Int32))) (v := xl) ⟨(own_pos hp (own_nw p1).2).1.1, own_lt (by have s1 := c_isub (p1 &&& (127 : Int32)) 1; have r1 := rng32 ((p1 &&& (127 : Int32)) - 1); have z1 : (1 : Int32).toInt = 1 := rfl; have z0 : (0 : Int32).toInt = 0 := rfl; have := Int32.lt_iff_toInt_lt.mp hp; omega)⟩ hwxl (g := (mkF m 173 #[.val (.int p0), .val (.int p1), .val (.int p2), .val (.int p3), .val (.int p4), .val (.int (p0 &&& (63 : Int32))), .val (.int (p1 &&& (127 : Int32))), .val (.ref b1), .val (.ref b4), .val (.ref b5), .val (.ref b5), .val (.int ((0 : Int32) + (p1 &&& (127 : Int32))))] [(.int ((p1 &&& (127 : Int32)) - (1 : Int32))), (.ref b5)])) rfl rfl (hb hby at_173)) ?_
      refine own_pre (B := T12.setTop (mkF m 176 #[.val (.int p0), .val (.int p1), .val (.int p2), .val (.int p3), .val (.int p4), .val (.int (p0 &&& (63 : Int32))), .val (.int (p1 &&& (127 : Int32))), .val (.ref b1), .val (.ref b4), .val (.ref b5), .val (.ref b5), .val (.int ((0 : Int32) + (p1 &&& (127 : Int32))))] [(.ref b1), (.int xl)])) (fun t k => XS.aload X12.here hx rfl (hb hby at_174) rfl rfl k) ?_
      refine own_pre (B := T12.setTop (mkF m 178 #[.val (.int p0), .val (.int p1), .val (.int p2), .val (.int p3), .val (.int p4), .val (.int (p0 &&& (63 : Int32))), .val (.int (p1 &&& (127 : Int32))), .val (.ref b1), .val (.ref b4), .val (.ref b5), .val (.ref b5), .val (.int ((0 : Int32) + (p1 &&& (127 : Int32))))] [(.int (p1 &&& (127 : Int32))), (.ref b1), (.int xl)])) (fun t k => XS.iload X12.here hx rfl (hb hby at_176) rfl k) ?_
      refine own_pre (B := T12.setTop (mkF m 179 #[.val (.int p0), .val (.int p1), .val (.int p2), .val (.int p3), .val (.int p4), .val (.int (p0 &&& (63 : Int32))), .val (.int (p1 &&& (127 : Int32))), .val (.ref b1), .val (.ref b4), .val (.ref b5), .val (.ref b5), .val (.int ((0 : Int32) + (p1 &&& (127 : Int32))))] [(.int (1 : Int32)), (.int (p1 &&& (127 : Int32))), (.ref b1), (.int xl)])) (fun t k => XS.iconst X12.here hx rfl (hb hby at_178) k) ?_
      refine own_pre (B := T12.setTop (mkF m 180 #[.val (.int p0), .val (.int p1), .val (.int p2), .val (.int p3), .val (.int p4), .val (.int (p0 &&& (63 : Int32))), .val (.int (p1 &&& (127 : Int32))), .val (.ref b1), .val (.ref b4), .val (.ref b5), .val (.ref b5), .val (.int ((0 : Int32) + (p1 &&& (127 : Int32))))] [(.int ((p1 &&& (127 : Int32)) - (1 : Int32))), (.ref b1), (.int xl)])) (fun t k => XS.isub X12.here hx rfl (hb hby at_179) rfl k) ?_
      refine own_pre (B := T12.setTop (mkF m 181 #[.val (.int p0), .val (.int p1), .val (.int p2), .val (.int p3), .val (.int p4), .val (.int (p0 &&& (63 : Int32))), .val (.int (p1 &&& (127 : Int32))), .val (.ref b1), .val (.ref b4), .val (.ref b5), .val (.ref b5), .val (.int ((0 : Int32) + (p1 &&& (127 : Int32))))] [(.int xl), (.int xl)])) (own_ldB X12 hx hZ eh12 D6 (j := ((p1 &&& (127 : Int32)) - (1 : Int32))) (v := xl) (own_pos hp (own_nw p1).2).1 hxl (g := (mkF m 180 #[.val (.int p0), .val (.int p1), .val (.int p2), .val (.int p3), .val (.int p4), .val (.int (p0 &&& (63 : Int32))), .val (.int (p1 &&& (127 : Int32))), .val (.ref b1), .val (.ref b4), .val (.ref b5), .val (.ref b5), .val (.int ((0 : Int32) + (p1 &&& (127 : Int32))))] [(.int ((p1 &&& (127 : Int32)) - (1 : Int32))), (.ref b1), (.int xl)])) rfl rfl (hb hby at_180)) ?_
      refine own_pre (B := T12.setTop (mkF m 184 #[.val (.int p0), .val (.int p1), .val (.int p2), .val (.int p3), .val (.int p4), .val (.int (p0 &&& (63 : Int32))), .val (.int (p1 &&& (127 : Int32))), .val (.ref b1), .val (.ref b4), .val (.ref b5), .val (.ref b5), .val (.int ((0 : Int32) + (p1 &&& (127 : Int32))))] [])) (fun t k => XS.icmpNo X12.here hx rfl (hb hby at_181) rfl (teq (rfl : xl = xl)).2 k) ?_
      refine own_pre (B := T12.setTop (mkF m 185 #[.val (.int p0), .val (.int p1), .val (.int p2), .val (.int p3), .val (.int p4), .val (.int (p0 &&& (63 : Int32))), .val (.int (p1 &&& (127 : Int32))), .val (.ref b1), .val (.ref b4), .val (.ref b5), .val (.ref b5), .val (.int ((0 : Int32) + (p1 &&& (127 : Int32))))] [(.int (1 : Int32))])) (fun t k => XS.iconst X12.here hx rfl (hb hby at_184) k) ?_
      refine own_pre (B := T12.setTop (mkF m 189 #[.val (.int p0), .val (.int p1), .val (.int p2), .val (.int p3), .val (.int p4), .val (.int (p0 &&& (63 : Int32))), .val (.int (p1 &&& (127 : Int32))), .val (.ref b1), .val (.ref b4), .val (.ref b5), .val (.ref b5), .val (.int ((0 : Int32) + (p1 &&& (127 : Int32))))] [(.int (1 : Int32))])) (fun t k => XS.goto X12.here hx rfl (pc0 := 185) (pc' := 189) rfl (hb hby at_185) (by decide) (by decide) k) ?_
      exact own_retZ X12 hx hlk Bd.returns (hb hby at_189) (⟨rfl, N12⟩) (by decide) (by decide)
    · skip
      refine own_pre (B := T8.setTop (mkF m 79 #[.val (.int p0), .val (.int p1), .val (.int p2), .val (.int p3), .val (.int p4), .val (.int (p0 &&& (63 : Int32))), .val (.int (p1 &&& (127 : Int32))), .val (.ref b1), .val (.ref b4), .val (.ref b5), .unset, .unset] [])) (fun t k => XS.ifNo X8.here hx rfl (hb hby at_76) rfl ((if0 _ _).trans (feq hc9).1) k) ?_
      refine own_pre (B := T8.setTop (mkF m 81 #[.val (.int p0), .val (.int p1), .val (.int p2), .val (.int p3), .val (.int p4), .val (.int (p0 &&& (63 : Int32))), .val (.int (p1 &&& (127 : Int32))), .val (.ref b1), .val (.ref b4), .val (.ref b5), .unset, .unset] [(.ref b4)])) (fun t k => XS.aload X8.here hx rfl (hb hby at_79) rfl rfl k) ?_
      obtain ⟨cq18, kq18, qa18, qb18, qc18⟩ := isOf hZ eh8 (F6).1
      obtain ⟨_, _, ⟨T18, L18, k18, n18⟩, -, X18, ⟨Lc18, hQ18, l18, y18, z18⟩, st18⟩ := X8.virtualBack hx (y := (⟨"com/example/quillon/quillon/storage/LogFormat$RecordBuffer", "shrink", "()V"⟩ : MethodName)) (z := (⟨"com/example/quillon/quillon/storage/LogFormat$RecordBuffer", "shrink", "()V"⟩ : MethodName)) hown (mvT hZ (hw _ (List.mem_of_getElem? (i := 74) rfl))) (mvT hZ (hw _ (List.mem_of_getElem? (i := 75) rfl))) (notFace_of_selects (args := #[]) (mvT hZ (hw _ (List.mem_of_getElem? (i := 77) rfl)))) (mvT hZ (hw _ (List.mem_of_getElem? (i := 77) rfl))) (mvT hZ (hw _ (List.mem_of_getElem? (i := 76) rfl))) (by decide) (backOf (W := 0) (rmS0 l Z a0 hw [] b4 b5 ((0 : Int32) + (p1 &&& (127 : Int32))) (p0 &&& (63 : Int32)) kc5 (p0 &&& (63 : Int32)) ws6 T6.heap n0 ZH6 F6 V6 (own_nlt (Int.le_refl _))) hZ (hw _ (List.mem_of_getElem? (i := 78) rfl)) (hw _ (List.mem_of_getElem? (i := 3) rfl)) (by decide) (by decide)) qa18 qc18 (g := (mkF m 81 #[.val (.int p0), .val (.int p1), .val (.int p2), .val (.int p3), .val (.int p4), .val (.int (p0 &&& (63 : Int32))), .val (.int (p1 &&& (127 : Int32))), .val (.ref b1), .val (.ref b4), .val (.ref b5), .unset, .unset] [(.ref b4)])) rfl (by rw [hml]; rfl) (Steps.refl _) (argsL := []) (rest := []) (lenOf pd0_3 rfl) rfl (by show 2 * 0 + _ ≤ _; exact Nat.le_of_eq rfl) (hb hby at_81) (fun _ _ => ⟨rfl, eh8, (by decide : 3 + 0 ≤ _), (by decide : 194 + 0 ≤ _)⟩)
      dsimp only [Pt.U, Pt.locs, Pt.cells, Pt.slots] at X18 l18 y18 z18 st18 hQ18
      subst l18 y18 z18
      obtain ⟨rfl, Nq18, e18⟩ := hQ18
      have N18 := Fr.app N8 Nq18
      have eh18 : T18.heap = T6.heap := e18
      refine own_pre (B := T18.setTop (mkF m 84 #[.val (.int p0), .val (.int p1), .val (.int p2), .val (.int p3), .val (.int p4), .val (.int (p0 &&& (63 : Int32))), .val (.int (p1 &&& (127 : Int32))), .val (.ref b1), .val (.ref b4), .val (.ref b5), .unset, .unset] [])) (fun t q => st18.trans q) ?_
      refine own_pre (B := T18.setTop (mkF m 86 #[.val (.int p0), .val (.int p1), .val (.int p2), .val (.int p3), .val (.int p4), .val (.int (p0 &&& (63 : Int32))), .val (.int (p1 &&& (127 : Int32))), .val (.ref b1), .val (.ref b4), .val (.ref b5), .unset, .unset] [(.ref b4)])) (fun t k => XS.aload X18.here hx rfl (hb hby at_84) rfl rfl k) ?_
      obtain ⟨cq19, kq19, qa19, qb19, qc19⟩ := isOf hZ eh18 (F6).1
      obtain ⟨_, _, ⟨T19, L19, k19, n19⟩, -, X19, ⟨Lc19, hQ19, l19, y19, z19⟩, st19⟩ := X18.virtualBack hx (y := (⟨"com/example/quillon/quillon/storage/LogFormat$RecordBuffer", "bytes", "()[B"⟩ : MethodName)) (z := (⟨"com/example/quillon/quillon/storage/LogFormat$RecordBuffer", "bytes", "()[B"⟩ : MethodName)) hown (mvT hZ (hw _ (List.mem_of_getElem? (i := 67) rfl))) (mvT hZ (hw _ (List.mem_of_getElem? (i := 68) rfl))) (notFace_of_selects (args := #[]) (mvT hZ (hw _ (List.mem_of_getElem? (i := 70) rfl)))) (mvT hZ (hw _ (List.mem_of_getElem? (i := 70) rfl))) (mvT hZ (hw _ (List.mem_of_getElem? (i := 69) rfl))) (by decide) (backOf (W := 0) (rm13 l Z a0 hw [] b4 b5 ((0 : Int32) + (p1 &&& (127 : Int32))) (p0 &&& (63 : Int32)) T6.heap n0 ZH6 F6) hZ (hw _ (List.mem_of_getElem? (i := 71) rfl)) (hw _ (List.mem_of_getElem? (i := 3) rfl)) (by decide) (by decide)) qa19 qc19 (g := (mkF m 86 #[.val (.int p0), .val (.int p1), .val (.int p2), .val (.int p3), .val (.int p4), .val (.int (p0 &&& (63 : Int32))), .val (.int (p1 &&& (127 : Int32))), .val (.ref b1), .val (.ref b4), .val (.ref b5), .unset, .unset] [(.ref b4)])) rfl (by rw [hml]; rfl) (Steps.refl _) (argsL := []) (rest := []) (lenOf pd0_2 rfl) rfl (by show 2 * 0 + _ ≤ _; exact Nat.le_of_eq rfl) (hb hby at_86) (fun _ _ => ⟨rfl, eh18, (by decide : 3 + 0 ≤ _), (by decide : 194 + 0 ≤ _)⟩)
      dsimp only [Pt.U, Pt.locs, Pt.cells, Pt.slots] at X19 l19 y19 z19 st19 hQ19
      subst l19 y19 z19
      obtain ⟨rfl, Nq19, e19⟩ := hQ19
      have N19 := Fr.app N18 Nq19
      have eh19 : T19.heap = T6.heap := e19
      refine own_pre (B := T19.setTop (mkF m 89 #[.val (.int p0), .val (.int p1), .val (.int p2), .val (.int p3), .val (.int p4), .val (.int (p0 &&& (63 : Int32))), .val (.int (p1 &&& (127 : Int32))), .val (.ref b1), .val (.ref b4), .val (.ref b5), .unset, .unset] [(.ref b5)])) (fun t q => st19.trans q) ?_
      refine own_pre (B := T19.setTop (mkF m 91 #[.val (.int p0), .val (.int p1), .val (.int p2), .val (.int p3), .val (.int p4), .val (.int (p0 &&& (63 : Int32))), .val (.int (p1 &&& (127 : Int32))), .val (.ref b1), .val (.ref b4), .val (.ref b5), .val (.ref b5), .unset] [])) (fun t k => XS.astore X19.here hx rfl (hb hby at_89) rfl rfl (l' := #[.val (.int p0), .val (.int p1), .val (.int p2), .val (.int p3), .val (.int p4), .val (.int (p0 &&& (63 : Int32))), .val (.int (p1 &&& (127 : Int32))), .val (.ref b1), .val (.ref b4), .val (.ref b5), .val (.ref b5), .unset]) rfl k) ?_
      refine own_pre (B := T19.setTop (mkF m 93 #[.val (.int p0), .val (.int p1), .val (.int p2), .val (.int p3), .val (.int p4), .val (.int (p0 &&& (63 : Int32))), .val (.int (p1 &&& (127 : Int32))), .val (.ref b1), .val (.ref b4), .val (.ref b5), .val (.ref b5), .unset] [(.ref b4)])) (fun t k => XS.aload X19.here hx rfl (hb hby at_91) rfl rfl k) ?_
      obtain ⟨cq20, kq20, qa20, qb20, qc20⟩ := isOf hZ eh19 (F6).1
      obtain ⟨_, _, ⟨T20, L20, k20, n20⟩, -, X20, ⟨Lc20, hQ20, l20, y20, z20⟩, st20⟩ := X19.virtualBackUp hx (C := "com/example/quillon/quillon/storage/LogFormat$RecordBuffer") (owner := "java/io/ByteArrayOutputStream") (x := (⟨"com/example/quillon/quillon/storage/LogFormat$RecordBuffer", "size", "()I"⟩ : MethodName)) (y := (⟨"java/io/ByteArrayOutputStream", "size", "()I"⟩ : MethodName)) hown (mvT hZ (hw _ (List.mem_of_getElem? (i := 81) rfl))) (mvT hZ (hw _ (List.mem_of_getElem? (i := 82) rfl))) (mvT hZ (hw _ (List.mem_of_getElem? (i := 83) rfl))) (by decide) (mvT hZ (hw _ (List.mem_of_getElem? (i := 85) rfl))) (mvT hZ (hw _ (List.mem_of_getElem? (i := 84) rfl))) (own_backS (W := 0) (rmSz l Z a0 hw b4 (.ref b5) ((0 : Int32) + (p1 &&& (127 : Int32))) (p0 &&& (63 : Int32)) T6.heap n0 ZH6 F6) hZ (hw _ (List.mem_of_getElem? (i := 86) rfl)) (hw _ (List.mem_of_getElem? (i := 84) rfl)) (hw _ (List.mem_of_getElem? (i := 10) rfl)) U6 (by decide) (by decide)) qa20 qc20 (g := (mkF m 93 #[.val (.int p0), .val (.int p1), .val (.int p2), .val (.int p3), .val (.int p4), .val (.int (p0 &&& (63 : Int32))), .val (.int (p1 &&& (127 : Int32))), .val (.ref b1), .val (.ref b4), .val (.ref b5), .val (.ref b5), .unset] [(.ref b4)])) rfl (by rw [hml]; rfl) (Steps.refl _) (argsL := []) (rest := []) (lenOf pd0_4 rfl) rfl (by show 2 * 0 + _ ≤ _; exact Nat.le_of_eq rfl) (hb hby at_93) (fun _ _ => ⟨rfl, eh19, (by decide : 3 + 0 ≤ _), (by decide : 194 + 0 ≤ _)⟩)
      dsimp only [Pt.U, Pt.locs, Pt.cells, Pt.slots] at X20 l20 y20 z20 st20 hQ20
      subst l20 y20 z20
      obtain ⟨rfl, Nq20, e20⟩ := hQ20
      have N20 := Fr.app N19 Nq20
      have eh20 : T20.heap = T6.heap := e20
      refine own_pre (B := T20.setTop (mkF m 96 #[.val (.int p0), .val (.int p1), .val (.int p2), .val (.int p3), .val (.int p4), .val (.int (p0 &&& (63 : Int32))), .val (.int (p1 &&& (127 : Int32))), .val (.ref b1), .val (.ref b4), .val (.ref b5), .val (.ref b5), .unset] [(.int ((0 : Int32) + (p1 &&& (127 : Int32))))])) (fun t q => st20.trans q) ?_
      refine own_pre (B := T20.setTop (mkF m 98 #[.val (.int p0), .val (.int p1), .val (.int p2), .val (.int p3), .val (.int p4), .val (.int (p0 &&& (63 : Int32))), .val (.int (p1 &&& (127 : Int32))), .val (.ref b1), .val (.ref b4), .val (.ref b5), .val (.ref b5), .val (.int ((0 : Int32) + (p1 &&& (127 : Int32))))] [])) (fun t k => XS.istore X20.here hx rfl (hb hby at_96) rfl (l' := #[.val (.int p0), .val (.int p1), .val (.int p2), .val (.int p3), .val (.int p4), .val (.int (p0 &&& (63 : Int32))), .val (.int (p1 &&& (127 : Int32))), .val (.ref b1), .val (.ref b4), .val (.ref b5), .val (.ref b5), .val (.int ((0 : Int32) + (p1 &&& (127 : Int32))))]) rfl k) ?_
      refine own_pre (B := T20.setTop (mkF m 100 #[.val (.int p0), .val (.int p1), .val (.int p2), .val (.int p3), .val (.int p4), .val (.int (p0 &&& (63 : Int32))), .val (.int (p1 &&& (127 : Int32))), .val (.ref b1), .val (.ref b4), .val (.ref b5), .val (.ref b5), .val (.int ((0 : Int32) + (p1 &&& (127 : Int32))))] [(.ref b5)])) (fun t k => XS.aload X20.here hx rfl (hb hby at_98) rfl rfl k) ?_
      refine own_pre (B := T20.setTop (mkF m 101 #[.val (.int p0), .val (.int p1), .val (.int p2), .val (.int p3), .val (.int p4), .val (.int (p0 &&& (63 : Int32))), .val (.int (p1 &&& (127 : Int32))), .val (.ref b1), .val (.ref b4), .val (.ref b5), .val (.ref b5), .val (.int ((0 : Int32) + (p1 &&& (127 : Int32))))] [(.int (p0 &&& (63 : Int32)))])) (own_len X20 hx hZ eh20 V6 (g := (mkF m 100 #[.val (.int p0), .val (.int p1), .val (.int p2), .val (.int p3), .val (.int p4), .val (.int (p0 &&& (63 : Int32))), .val (.int (p1 &&& (127 : Int32))), .val (.ref b1), .val (.ref b4), .val (.ref b5), .val (.ref b5), .val (.int ((0 : Int32) + (p1 &&& (127 : Int32))))] [(.ref b5)])) rfl rfl (hb hby at_100)) ?_
      refine own_pre (B := T20.setTop (mkF m 103 #[.val (.int p0), .val (.int p1), .val (.int p2), .val (.int p3), .val (.int p4), .val (.int (p0 &&& (63 : Int32))), .val (.int (p1 &&& (127 : Int32))), .val (.ref b1), .val (.ref b4), .val (.ref b5), .val (.ref b5), .val (.int ((0 : Int32) + (p1 &&& (127 : Int32))))] [(.int (p0 &&& (63 : Int32))), (.int (p0 &&& (63 : Int32)))])) (fun t k => XS.iload X20.here hx rfl (hb hby at_101) rfl k) ?_
      refine own_pre (B := T20.setTop (mkF m 108 #[.val (.int p0), .val (.int p1), .val (.int p2), .val (.int p3), .val (.int p4), .val (.int (p0 &&& (63 : Int32))), .val (.int (p1 &&& (127 : Int32))), .val (.ref b1), .val (.ref b4), .val (.ref b5), .val (.ref b5), .val (.int ((0 : Int32) + (p1 &&& (127 : Int32))))] [])) (fun t k => XS.icmpYes X20.here hx rfl (pc0 := 103) (pc' := 108) rfl (hb hby at_103) rfl (teq (rfl : (p0 &&& (63 : Int32)) = (p0 &&& (63 : Int32)))).1 (by decide) (by decide) k) ?_
      refine own_pre (B := T20.setTop (mkF m 110 #[.val (.int p0), .val (.int p1), .val (.int p2), .val (.int p3), .val (.int p4), .val (.int (p0 &&& (63 : Int32))), .val (.int (p1 &&& (127 : Int32))), .val (.ref b1), .val (.ref b4), .val (.ref b5), .val (.ref b5), .val (.int ((0 : Int32) + (p1 &&& (127 : Int32))))] [(.int (p1 &&& (127 : Int32)))])) (fun t k => XS.iload X20.here hx rfl (hb hby at_108) rfl k) ?_
      refine own_pre (B := T20.setTop (mkF m 112 #[.val (.int p0), .val (.int p1), .val (.int p2), .val (.int p3), .val (.int p4), .val (.int (p0 &&& (63 : Int32))), .val (.int (p1 &&& (127 : Int32))), .val (.ref b1), .val (.ref b4), .val (.ref b5), .val (.ref b5), .val (.int ((0 : Int32) + (p1 &&& (127 : Int32))))] [(.int (p0 &&& (63 : Int32))), (.int (p1 &&& (127 : Int32)))])) (fun t k => XS.iload X20.here hx rfl (hb hby at_110) rfl k) ?_
      refine own_pre (B := T20.setTop (mkF m 133 #[.val (.int p0), .val (.int p1), .val (.int p2), .val (.int p3), .val (.int p4), .val (.int (p0 &&& (63 : Int32))), .val (.int (p1 &&& (127 : Int32))), .val (.ref b1), .val (.ref b4), .val (.ref b5), .val (.ref b5), .val (.int ((0 : Int32) + (p1 &&& (127 : Int32))))] [])) (fun t k => XS.icmpYes X20.here hx rfl (pc0 := 112) (pc' := 133) rfl (hb hby at_112) rfl (flt (own_nlt hc : ¬ ((p0 &&& (63 : Int32)) < (p1 &&& (127 : Int32))))).2.2.2 (by decide) (by decide) k) ?_
      refine own_pre (B := T20.setTop (mkF m 135 #[.val (.int p0), .val (.int p1), .val (.int p2), .val (.int p3), .val (.int p4), .val (.int (p0 &&& (63 : Int32))), .val (.int (p1 &&& (127 : Int32))), .val (.ref b1), .val (.ref b4), .val (.ref b5), .val (.ref b5), .val (.int ((0 : Int32) + (p1 &&& (127 : Int32))))] [(.int ((0 : Int32) + (p1 &&& (127 : Int32))))])) (fun t k => XS.iload X20.here hx rfl (hb hby at_133) rfl k) ?_
      refine own_pre (B := T20.setTop (mkF m 137 #[.val (.int p0), .val (.int p1), .val (.int p2), .val (.int p3), .val (.int p4), .val (.int (p0 &&& (63 : Int32))), .val (.int (p1 &&& (127 : Int32))), .val (.ref b1), .val (.ref b4), .val (.ref b5), .val (.ref b5), .val (.int ((0 : Int32) + (p1 &&& (127 : Int32))))] [(.int (p1 &&& (127 : Int32))), (.int ((0 : Int32) + (p1 &&& (127 : Int32))))])) (fun t k => XS.iload X20.here hx rfl (hb hby at_135) rfl k) ?_
      refine own_pre (B := T20.setTop (mkF m 140 #[.val (.int p0), .val (.int p1), .val (.int p2), .val (.int p3), .val (.int p4), .val (.int (p0 &&& (63 : Int32))), .val (.int (p1 &&& (127 : Int32))), .val (.ref b1), .val (.ref b4), .val (.ref b5), .val (.ref b5), .val (.int ((0 : Int32) + (p1 &&& (127 : Int32))))] [])) (fun t k => XS.icmpNo X20.here hx rfl (hb hby at_137) rfl (teq (Int32.zero_add _ : ((0 : Int32) + (p1 &&& (127 : Int32))) = (p1 &&& (127 : Int32)))).2 k) ?_
      refine own_pre (B := T20.setTop (mkF m 142 #[.val (.int p0), .val (.int p1), .val (.int p2), .val (.int p3), .val (.int p4), .val (.int (p0 &&& (63 : Int32))), .val (.int (p1 &&& (127 : Int32))), .val (.ref b1), .val (.ref b4), .val (.ref b5), .val (.ref b5), .val (.int ((0 : Int32) + (p1 &&& (127 : Int32))))] [(.ref b5)])) (fun t k => XS.aload X20.here hx rfl (hb hby at_140) rfl rfl k) ?_
      refine own_pre (B := T20.setTop (mkF m 144 #[.val (.int p0), .val (.int p1), .val (.int p2), .val (.int p3), .val (.int p4), .val (.int (p0 &&& (63 : Int32))), .val (.int (p1 &&& (127 : Int32))), .val (.ref b1), .val (.ref b4), .val (.ref b5), .val (.ref b5), .val (.int ((0 : Int32) + (p1 &&& (127 : Int32))))] [(.ref b5), (.ref b5)])) (fun t k => XS.aload X20.here hx rfl (hb hby at_142) rfl rfl k) ?_
      refine own_pre (B := T20.setTop (mkF m 149 #[.val (.int p0), .val (.int p1), .val (.int p2), .val (.int p3), .val (.int p4), .val (.int (p0 &&& (63 : Int32))), .val (.int (p1 &&& (127 : Int32))), .val (.ref b1), .val (.ref b4), .val (.ref b5), .val (.ref b5), .val (.int ((0 : Int32) + (p1 &&& (127 : Int32))))] [])) (fun t k => Jvm.RoadKit.acmp (g := (mkF m 144 #[.val (.int p0), .val (.int p1), .val (.int p2), .val (.int p3), .val (.int p4), .val (.int (p0 &&& (63 : Int32))), .val (.int (p1 &&& (127 : Int32))), .val (.ref b1), .val (.ref b4), .val (.ref b5), .val (.ref b5), .val (.int ((0 : Int32) + (p1 &&& (127 : Int32))))] [(.ref b5), (.ref b5)])) X20 hx rfl rfl rfl (pc0 := 144) (pc' := 149) (same := true) rfl (hb hby at_144) rfl (decide_eq_true rfl) (by decide) (by decide) k) ?_
      refine own_pre (B := T20.setTop (mkF m 151 #[.val (.int p0), .val (.int p1), .val (.int p2), .val (.int p3), .val (.int p4), .val (.int (p0 &&& (63 : Int32))), .val (.int (p1 &&& (127 : Int32))), .val (.ref b1), .val (.ref b4), .val (.ref b5), .val (.ref b5), .val (.int ((0 : Int32) + (p1 &&& (127 : Int32))))] [(.int (p1 &&& (127 : Int32)))])) (fun t k => XS.iload X20.here hx rfl (hb hby at_149) rfl k) ?_
      refine own_pre (B := T20.setTop (mkF m 156 #[.val (.int p0), .val (.int p1), .val (.int p2), .val (.int p3), .val (.int p4), .val (.int (p0 &&& (63 : Int32))), .val (.int (p1 &&& (127 : Int32))), .val (.ref b1), .val (.ref b4), .val (.ref b5), .val (.ref b5), .val (.int ((0 : Int32) + (p1 &&& (127 : Int32))))] [])) (fun t k => XS.ifYes X20.here hx rfl (pc0 := 151) (pc' := 156) rfl (hb hby at_151) rfl ((if0 _ _).trans (feq ((fun q => by rw [q] at hp; exact absurd hp (by decide)) : ¬ ((p1 &&& (127 : Int32)) = (0 : Int32)))).2) (by decide) (by decide) k) ?_
      refine own_pre (B := T20.setTop (mkF m 158 #[.val (.int p0), .val (.int p1), .val (.int p2), .val (.int p3), .val (.int p4), .val (.int (p0 &&& (63 : Int32))), .val (.int (p1 &&& (127 : Int32))), .val (.ref b1), .val (.ref b4), .val (.ref b5), .val (.ref b5), .val (.int ((0 : Int32) + (p1 &&& (127 : Int32))))] [(.ref b5)])) (fun t k => XS.aload X20.here hx rfl (hb hby at_156) rfl rfl k) ?_
      refine own_pre (B := T20.setTop (mkF m 159 #[.val (.int p0), .val (.int p1), .val (.int p2), .val (.int p3), .val (.int p4), .val (.int (p0 &&& (63 : Int32))), .val (.int (p1 &&& (127 : Int32))), .val (.ref b1), .val (.ref b4), .val (.ref b5), .val (.ref b5), .val (.int ((0 : Int32) + (p1 &&& (127 : Int32))))] [(.int (0 : Int32)), (.ref b5)])) (fun t k => XS.iconst X20.here hx rfl (hb hby at_158) k) ?_
      obtain ⟨xf, hxf⟩ := own_int D6 (i := ((0 : Int32)).toNatClampNeg) (show _ < (128 : Int32).toNatClampNeg from (by decide))
      have hwxf := (hws6 _ (show (0 : Int32).toNatClampNeg < (p1 &&& (127 : Int32)).toNatClampNeg from Nat.lt_of_le_of_lt (Nat.zero_le _) (own_pos hp (own_nw p1).2).2.2)).trans hxf
      refine own_pre (B := T20.setTop (mkF m 160 #[.val (.int p0), .val (.int p1), .val (.int p2), .val (.int p3), .val (.int p4), .val (.int (p0 &&& (63 : Int32))), .val (.int (p1 &&& (127 : Int32))), .val (.ref b1), .val (.ref b4), .val (.ref b5), .val (.ref b5), .val (.int ((0 : Int32) + (p1 &&& (127 : Int32))))] [(.int xf)])) (own_ldB X20 hx hZ eh20 V6 (j := (0 : Int32)) (v := xf) ⟨by decide, own_lt (by have := Int32.lt_iff_toInt_lt.mp hp; omega)⟩ hwxf (g := (mkF m 159 #[.val (.int p0), .val (.int p1), .val (.int p2), .val (.int p3), .val (.int p4), .val (.int (p0 &&& (63 : Int32))), .val (.int (p1 &&& (127 : Int32))), .val (.ref b1), .val (.ref b4), .val (.ref b5), .val (.ref b5), .val (.int ((0 : Int32) + (p1 &&& (127 : Int32))))] [(.int (0 : Int32)), (.ref b5)])) rfl rfl (hb hby at_159)) ?_
      refine own_pre (B := T20.setTop (mkF m 162 #[.val (.int p0), .val (.int p1), .val (.int p2), .val (.int p3), .val (.int p4), .val (.int (p0 &&& (63 : Int32))), .val (.int (p1 &&& (127 : Int32))), .val (.ref b1), .val (.ref b4), .val (.ref b5), .val (.ref b5), .val (.int ((0 : Int32) + (p1 &&& (127 : Int32))))] [(.ref b1), (.int xf)])) (fun t k => XS.aload X20.here hx rfl (hb hby at_160) rfl rfl k) ?_
      refine own_pre (B := T20.setTop (mkF m 163 #[.val (.int p0), .val (.int p1), .val (.int p2), .val (.int p3), .val (.int p4), .val (.int (p0 &&& (63 : Int32))), .val (.int (p1 &&& (127 : Int32))), .val (.ref b1), .val (.ref b4), .val (.ref b5), .val (.ref b5), .val (.int ((0 : Int32) + (p1 &&& (127 : Int32))))] [(.int (0 : Int32)), (.ref b1), (.int xf)])) (fun t k => XS.iconst X20.here hx rfl (hb hby at_162) k) ?_
      refine own_pre (B := T20.setTop (mkF m 164 #[.val (.int p0), .val (.int p1), .val (.int p2), .val (.int p3), .val (.int p4), .val (.int (p0 &&& (63 : Int32))), .val (.int (p1 &&& (127 : Int32))), .val (.ref b1), .val (.ref b4), .val (.ref b5), .val (.ref b5), .val (.int ((0 : Int32) + (p1 &&& (127 : Int32))))] [(.int xf), (.int xf)])) (own_ldB X20 hx hZ eh20 D6 (j := (0 : Int32)) (v := xf) ⟨by decide, by decide⟩ hxf (g := (mkF m 163 #[.val (.int p0), .val (.int p1), .val (.int p2), .val (.int p3), .val (.int p4), .val (.int (p0 &&& (63 : Int32))), .val (.int (p1 &&& (127 : Int32))), .val (.ref b1), .val (.ref b4), .val (.ref b5), .val (.ref b5), .val (.int ((0 : Int32) + (p1 &&& (127 : Int32))))] [(.int (0 : Int32)), (.ref b1), (.int xf)])) rfl rfl (hb hby at_163)) ?_
      refine own_pre (B := T20.setTop (mkF m 167 #[.val (.int p0), .val (.int p1), .val (.int p2), .val (.int p3), .val (.int p4), .val (.int (p0 &&& (63 : Int32))), .val (.int (p1 &&& (127 : Int32))), .val (.ref b1), .val (.ref b4), .val (.ref b5), .val (.ref b5), .val (.int ((0 : Int32) + (p1 &&& (127 : Int32))))] [])) (fun t k => XS.icmpNo X20.here hx rfl (hb hby at_164) rfl (teq (rfl : xf = xf)).2 k) ?_
      refine own_pre (B := T20.setTop (mkF m 169 #[.val (.int p0), .val (.int p1), .val (.int p2), .val (.int p3), .val (.int p4), .val (.int (p0 &&& (63 : Int32))), .val (.int (p1 &&& (127 : Int32))), .val (.ref b1), .val (.ref b4), .val (.ref b5), .val (.ref b5), .val (.int ((0 : Int32) + (p1 &&& (127 : Int32))))] [(.ref b5)])) (fun t k => XS.aload X20.here hx rfl (hb hby at_167) rfl rfl k) ?_
      refine own_pre (B := T20.setTop (mkF m 171 #[.val (.int p0), .val (.int p1), .val (.int p2), .val (.int p3), .val (.int p4), .val (.int (p0 &&& (63 : Int32))), .val (.int (p1 &&& (127 : Int32))), .val (.ref b1), .val (.ref b4), .val (.ref b5), .val (.ref b5), .val (.int ((0 : Int32) + (p1 &&& (127 : Int32))))] [(.int (p1 &&& (127 : Int32))), (.ref b5)])) (fun t k => XS.iload X20.here hx rfl (hb hby at_169) rfl k) ?_
      refine own_pre (B := T20.setTop (mkF m 172 #[.val (.int p0), .val (.int p1), .val (.int p2), .val (.int p3), .val (.int p4), .val (.int (p0 &&& (63 : Int32))), .val (.int (p1 &&& (127 : Int32))), .val (.ref b1), .val (.ref b4), .val (.ref b5), .val (.ref b5), .val (.int ((0 : Int32) + (p1 &&& (127 : Int32))))] [(.int (1 : Int32)), (.int (p1 &&& (127 : Int32))), (.ref b5)])) (fun t k => XS.iconst X20.here hx rfl (hb hby at_171) k) ?_
      refine own_pre (B := T20.setTop (mkF m 173 #[.val (.int p0), .val (.int p1), .val (.int p2), .val (.int p3), .val (.int p4), .val (.int (p0 &&& (63 : Int32))), .val (.int (p1 &&& (127 : Int32))), .val (.ref b1), .val (.ref b4), .val (.ref b5), .val (.ref b5), .val (.int ((0 : Int32) + (p1 &&& (127 : Int32))))] [(.int ((p1 &&& (127 : Int32)) - (1 : Int32))), (.ref b5)])) (fun t k => XS.isub X20.here hx rfl (hb hby at_172) rfl k) ?_
      obtain ⟨xl, hxl⟩ := own_int D6 (i := (((p1 &&& (127 : Int32)) - (1 : Int32))).toNatClampNeg) (show _ < (128 : Int32).toNatClampNeg from (own_pos hp (own_nw p1).2).2.1)
      have hwxl := (hws6 _ (own_pos hp (own_nw p1).2).2.2).trans hxl
      refine own_pre (B := T20.setTop (mkF m 174 #[.val (.int p0), .val (.int p1), .val (.int p2), .val (.int p3), .val (.int p4), .val (.int (p0 &&& (63 : Int32))), .val (.int (p1 &&& (127 : Int32))), .val (.ref b1), .val (.ref b4), .val (.ref b5), .val (.ref b5), .val (.int ((0 : Int32) + (p1 &&& (127 : Int32))))] [(.int xl)])) (own_ldB X20 hx hZ eh20 V6 (j := ((p1 &&& (127 : Int32)) - (1 : Int32))) (v := xl) ⟨(own_pos hp (own_nw p1).2).1.1, own_lt (by have s1 := c_isub (p1 &&& (127 : Int32)) 1; have r1 := rng32 ((p1 &&& (127 : Int32)) - 1); have z1 : (1 : Int32).toInt = 1 := rfl; have z0 : (0 : Int32).toInt = 0 := rfl; have := Int32.lt_iff_toInt_lt.mp hp; omega)⟩ hwxl (g := (mkF m 173 #[.val (.int p0), .val (.int p1), .val (.int p2), .val (.int p3), .val (.int p4), .val (.int (p0 &&& (63 : Int32))), .val (.int (p1 &&& (127 : Int32))), .val (.ref b1), .val (.ref b4), .val (.ref b5), .val (.ref b5), .val (.int ((0 : Int32) + (p1 &&& (127 : Int32))))] [(.int ((p1 &&& (127 : Int32)) - (1 : Int32))), (.ref b5)])) rfl rfl (hb hby at_173)) ?_
      refine own_pre (B := T20.setTop (mkF m 176 #[.val (.int p0), .val (.int p1), .val (.int p2), .val (.int p3), .val (.int p4), .val (.int (p0 &&& (63 : Int32))), .val (.int (p1 &&& (127 : Int32))), .val (.ref b1), .val (.ref b4), .val (.ref b5), .val (.ref b5), .val (.int ((0 : Int32) + (p1 &&& (127 : Int32))))] [(.ref b1), (.int xl)])) (fun t k => XS.aload X20.here hx rfl (hb hby at_174) rfl rfl k) ?_
      refine own_pre (B := T20.setTop (mkF m 178 #[.val (.int p0), .val (.int p1), .val (.int p2), .val (.int p3), .val (.int p4), .val (.int (p0 &&& (63 : Int32))), .val (.int (p1 &&& (127 : Int32))), .val (.ref b1), .val (.ref b4), .val (.ref b5), .val (.ref b5), .val (.int ((0 : Int32) + (p1 &&& (127 : Int32))))] [(.int (p1 &&& (127 : Int32))), (.ref b1), (.int xl)])) (fun t k => XS.iload X20.here hx rfl (hb hby at_176) rfl k) ?_
      refine own_pre (B := T20.setTop (mkF m 179 #[.val (.int p0), .val (.int p1), .val (.int p2), .val (.int p3), .val (.int p4), .val (.int (p0 &&& (63 : Int32))), .val (.int (p1 &&& (127 : Int32))), .val (.ref b1), .val (.ref b4), .val (.ref b5), .val (.ref b5), .val (.int ((0 : Int32) + (p1 &&& (127 : Int32))))] [(.int (1 : Int32)), (.int (p1 &&& (127 : Int32))), (.ref b1), (.int xl)])) (fun t k => XS.iconst X20.here hx rfl (hb hby at_178) k) ?_
      refine own_pre (B := T20.setTop (mkF m 180 #[.val (.int p0), .val (.int p1), .val (.int p2), .val (.int p3), .val (.int p4), .val (.int (p0 &&& (63 : Int32))), .val (.int (p1 &&& (127 : Int32))), .val (.ref b1), .val (.ref b4), .val (.ref b5), .val (.ref b5), .val (.int ((0 : Int32) + (p1 &&& (127 : Int32))))] [(.int ((p1 &&& (127 : Int32)) - (1 : Int32))), (.ref b1), (.int xl)])) (fun t k => XS.isub X20.here hx rfl (hb hby at_179) rfl k) ?_
      refine own_pre (B := T20.setTop (mkF m 181 #[.val (.int p0), .val (.int p1), .val (.int p2), .val (.int p3), .val (.int p4), .val (.int (p0 &&& (63 : Int32))), .val (.int (p1 &&& (127 : Int32))), .val (.ref b1), .val (.ref b4), .val (.ref b5), .val (.ref b5), .val (.int ((0 : Int32) + (p1 &&& (127 : Int32))))] [(.int xl), (.int xl)])) (own_ldB X20 hx hZ eh20 D6 (j := ((p1 &&& (127 : Int32)) - (1 : Int32))) (v := xl) (own_pos hp (own_nw p1).2).1 hxl (g := (mkF m 180 #[.val (.int p0), .val (.int p1), .val (.int p2), .val (.int p3), .val (.int p4), .val (.int (p0 &&& (63 : Int32))), .val (.int (p1 &&& (127 : Int32))), .val (.ref b1), .val (.ref b4), .val (.ref b5), .val (.ref b5), .val (.int ((0 : Int32) + (p1 &&& (127 : Int32))))] [(.int ((p1 &&& (127 : Int32)) - (1 : Int32))), (.ref b1), (.int xl)])) rfl rfl (hb hby at_180)) ?_
      refine own_pre (B := T20.setTop (mkF m 184 #[.val (.int p0), .val (.int p1), .val (.int p2), .val (.int p3), .val (.int p4), .val (.int (p0 &&& (63 : Int32))), .val (.int (p1 &&& (127 : Int32))), .val (.ref b1), .val (.ref b4), .val (.ref b5), .val (.ref b5), .val (.int ((0 : Int32) + (p1 &&& (127 : Int32))))] [])) (fun t k => XS.icmpNo X20.here hx rfl (hb hby at_181) rfl (teq (rfl : xl = xl)).2 k) ?_
      refine own_pre (B := T20.setTop (mkF m 185 #[.val (.int p0), .val (.int p1), .val (.int p2), .val (.int p3), .val (.int p4), .val (.int (p0 &&& (63 : Int32))), .val (.int (p1 &&& (127 : Int32))), .val (.ref b1), .val (.ref b4), .val (.ref b5), .val (.ref b5), .val (.int ((0 : Int32) + (p1 &&& (127 : Int32))))] [(.int (1 : Int32))])) (fun t k => XS.iconst X20.here hx rfl (hb hby at_184) k) ?_
      refine own_pre (B := T20.setTop (mkF m 189 #[.val (.int p0), .val (.int p1), .val (.int p2), .val (.int p3), .val (.int p4), .val (.int (p0 &&& (63 : Int32))), .val (.int (p1 &&& (127 : Int32))), .val (.ref b1), .val (.ref b4), .val (.ref b5), .val (.ref b5), .val (.int ((0 : Int32) + (p1 &&& (127 : Int32))))] [(.int (1 : Int32))])) (fun t k => XS.goto X20.here hx rfl (pc0 := 185) (pc' := 189) rfl (hb hby at_185) (by decide) (by decide) k) ?_
      exact own_retZ X20 hx hlk Bd.returns (hb hby at_189) (⟨rfl, N20⟩) (by decide) (by decide)
  exact own_pre pre0 g_0
def Q0 (Z : State) (p0 p1 p2 p3 p4 : Int32) (h0 : Heap) (n0 : Nat) (v : Option Value) (h : Heap) (L : List Loc) : Prop := v = some (.int 1) ∧ Fr n0 L
theorem rm0 (l : Launch) (Z : State) (a0 : Array Value) (hw : ∀ d ∈ tables_1, d.before a0 Z = true) (ws : List Jvm.Cond) (p0 p1 p2 p3 p4 : Int32) (h0 : Heap) (n0 : Nat) (Z0 : n0 ≤ h0.size) :
    MetFree l x (head1 (Jvm.Cond.code x code maxLocals ret :: ws) room_1) (fun a U => a = #[(.int p0), (.int p1), (.int p2), (.int p3), (.int p4)] ∧ Z.Warmed39 U.vm ∧ U.heap = h0) (fun _ _ _ _ _ => True) (fun _ U o U' => ∃ v L, o = .returned v ∧ Q0 Z p0 p1 p2 p3 p4 h0 n0 v U'.heap L ∧ FrameEnd U o U' L room_1.cells room_1.slots) := by
  by_cases hc : (p0 &&& (63 : Int32)).toInt < (p1 &&& (127 : Int32)).toInt
  · exact rm0A l Z a0 hw ws p0 p1 p2 p3 p4 h0 n0 Z0 hc
  · by_cases hp : (0 : Int32) < (p1 &&& (127 : Int32))
    · exact rm0B1 l Z a0 hw ws p0 p1 p2 p3 p4 h0 n0 Z0 (Int.not_lt.mp hc) hp
    · exact rm0B0 l Z a0 hw ws p0 p1 p2 p3 p4 h0 n0 Z0 (Int.not_lt.mp hc) (by have := (own_nw p1).1; have z0 : (0 : Int32).toInt = 0 := rfl; rw [Int32.lt_iff_toInt_lt] at hp; omega)
set_option maxRecDepth 65536 in
set_option maxHeartbeats 40000000 in
theorem comes_1 {Post : Tables → Env → Array Value → State → Outcome → State → Prop} (hpost : ∀ tb e args s v u, (limb_1_1.after args s (.returned v) u = true ∧ limb_1_2.after args s (.returned v) u = true ∧ True) → FrameEnd s (.returned v) u (Jvm.fieldLocs frame_1_writes args s ++ Jvm.arrayLocs frame_1_arrays args s ++ Jvm.staticLocs frame_1_statics s) 24 832 → Post tb e args s (.returned v) u) :
    ArmFor flags0 classFile x code maxLocals ret World_1 tables_1 room_1 Calls_1 rest_1 Pre_1 Post := by
  intro l hfl _ _ p e ha hc hk s m args below hf hA hF happ hP
  obtain ⟨hcalls, hrest, hpre⟩ := hP
  obtain ⟨-, -, -, hnamed, -, -, -, hat⟩ := (Spec.applies_iff hf).mp happ
  obtain ⟨hg, hn⟩ := and_e (Cond.before_iff.mp (show (Jvm.Cond.and given_1 narrow_1).before args s = true from hpre))
  obtain ⟨gg1, gg2⟩ := and_e hg
  obtain ⟨gg3, gg4⟩ := and_e gg2
  obtain ⟨gg5, gg6⟩ := and_e gg4
  obtain ⟨gg7, gg8⟩ := and_e gg6
  obtain ⟨gg9, gg10⟩ := and_e gg8
  obtain ⟨w0, w1, w2, w3, w4, rfl⟩ : ∃ w0 w1 w2 w3 w4 : Value, args = #[w0, w1, w2, w3, w4] := by
    have hs : args.size = 5 := by simpa [Cond.value, given_1] using gg1
    obtain ⟨L⟩ := args
    match L, hs with
    | [w0, w1, w2, w3, w4], _ => exact ⟨w0, w1, w2, w3, w4, rfl⟩
  have hw := fun d (hd : d ∈ tables_1) => atoms_spec (ws := Jvm.Cond.code x code maxLocals ret :: tables_1) hat d (List.mem_cons_of_mem _ hd)
  obtain ⟨i0, ei0⟩ := is_v gg3
  obtain rfl : w0 = (.int i0) := Option.some.inj ei0
  obtain ⟨i1, ei1⟩ := is_v gg5
  obtain rfl : w1 = (.int i1) := Option.some.inj ei1
  obtain ⟨i2, ei2⟩ := is_v gg7
  obtain rfl : w2 = (.int i2) := Option.some.inj ei2
  obtain ⟨i3, ei3⟩ := is_v gg9
  obtain rfl : w3 = (.int i3) := Option.some.inj ei3
  obtain ⟨i4, ei4⟩ := is_v gg10
  obtain rfl : w4 = (.int i4) := Option.some.inj ei4
  obtain ⟨n, o, h1, h2, h3, _, L, rfl, ⟨rfl, N⟩, hq⟩ := rm0 l s _ hw tables_1 i0 i1 i2 i3 i4 s.heap s.heap.size (Nat.le_refl _) p e ha hc hk s m _ below hf ((Spec.applies_iff_loose hf).mp happ).1 ⟨rfl, State.Warmed39.refl s, rfl⟩ trivial
  refine ⟨n, _, h1, h2, h3, hpost _ _ _ _ _ _ ⟨Cond.after_iff.mpr rfl, Cond.after_iff.mpr (eq_i res_at (Term.int_eval (1)) rfl), trivial⟩ ⟨hq.1, hq.2.1, (hq.2.2.sift fun y hy => Or.inr (N y hy)).mono (by decide) (by decide)⟩⟩
theorem main_1_1 : Claimed_1_1 := comes_1 fun _ _ _ _ _ _ h hF => ⟨h.1, hF⟩
theorem main_1_2 : Claimed_1_2 := comes_1 fun _ _ _ _ _ _ h hF => ⟨h.2.1, hF⟩
end Jvm.Pilot.@@N@@
namespace Jvm.Pilot.@@N@@
open Jvm Jvm.ClassFile Sem Op Lib Jvm.Free Jvm.Stand Jvm.Pilot.@@N@@.Jvm.D
/-! MADE BY PROGRAM (witnessworld.py) out of the Statement's table words and the real class files: 20 classes; the members and pool entries that the words name. The judged class is class 1, her method 1. -/
namespace start1
open Jvm.ClassFile
def u (s : String) : CpInfo := .utf8 (stringToUtf16 s)
/-- a pool by its gaps: so many unusable entries, then the entry; so many at the end -/
def gap : Nat → List CpInfo → List CpInfo
  | 0, r => r
  | n + 1, r => .unusable :: gap n r
def poolList (es : List (Nat × CpInfo)) (last : Nat) : List CpInfo := es.foldr (fun e r => gap e.1 (e.2 :: r)) (gap last [])
def pool (es : List (Nat × CpInfo)) (last : Nat) : Array CpInfo := ⟨poolList es last⟩
def fileOf (pool : Array CpInfo) (this : Nat) (attrs : Array Attribute := #[]) (ms : Array MethodInfo := #[]) (fl : Nat := 33) (sup : Nat := 0) (ifs : Array Nat := #[]) (fds : Array FieldInfo := #[]) : ClassFile where
  minorVersion := 0
  majorVersion := 65
  constantPool := pool
  accessFlags := fl
  thisClass := this
  superClass := sup
  interfaces := ifs
  fields := fds
  methods := ms
  attributes := attrs
def plain (name : String) (sup : Option ClassId) : Class where
  name := name
  kind := .ordinary
  loader := none
  accessFlags := 33
  super := sup
  interfaces := #[]
  cf := none
  fields := #[]
  methods := #[]
  instanceTypes := #[]
  staticTypes := #[]
  resolved := #[]
  callSites := []
  init := .initialized
  statics := none
  mirror := none

def pool0 : Array CpInfo := pool [(5, u "<init>"), (0, u "()V"), (1, .class_ 10), (1, u "java/lang/Object")] 113

def k0c0 : Code := { maxStack := 0, maxLocals := 1, code := object_method_1_code, exceptionTable := #[], attributes := #[] }
def k0m0 : Method := { name := "<init>", desc := "()V", sig := { parameters := [], returnType := none }, accessFlags := 1, code := some k0c0 }
/-- java/lang/Object -/
def k0 : Class := { plain "java/lang/Object" none with
  accessFlags := 33
  interfaces := #[]
  cf := some (fileOf pool0 8 #[] #[{ accessFlags := 1, nameIndex := 5, descriptorIndex := 6, attributes := #[] }] 33 0 #[] #[])
  fields := #[]
  methods := #[k0m0]
  instanceTypes := #[]
  staticTypes := #[]
  resolved := Array.replicate 124 none
  statics := none }

def pool1 : Array CpInfo := pool [(2, .class_ 4), (1, u "java/lang/Object"), (0, u "<init>"), (0, u "()V"), (0, .class_ 8), (0, u "com/example/quillon/quillon/storage/LogFormat$RecordBuffer"), (0, .methodref 7 10), (0, .nameAndType 5 11), (0, u "(I)V"), (0, .methodref 7 13), (0, .nameAndType 14 15), (0, u "write"), (0, u "([BII)V"), (0, .methodref 7 17), (0, .nameAndType 18 19), (0, u "bytes"), (0, u "()[B"), (0, .methodref 7 21), (0, .nameAndType 22 6), (0, u "shrink"), (0, .methodref 7 24), (0, .nameAndType 25 26), (0, u "size"), (0, u "()I"), (0, .class_ 28), (0, u "com/example/quillon/quillon/storage/RecordBufferShrinkPinLaw"), (2, u "law"), (0, u "(IIIII)Z")] 9

def k1m0 : Method := { name := "<init>", desc := "()V", sig := { parameters := [], returnType := none }, accessFlags := 2, code := none }
def k1c1 : Code := { maxStack := 4, maxLocals := 12, code := code, exceptionTable := #[], attributes := #[] }
def k1m1 : Method := { name := "law", desc := "(IIIII)Z", sig := { parameters := [.int, .int, .int, .int, .int], returnType := some .boolean }, accessFlags := 9, code := some k1c1 }
/-- com/example/quillon/quillon/storage/RecordBufferShrinkPinLaw -/
def k1 : Class := { plain "com/example/quillon/quillon/storage/RecordBufferShrinkPinLaw" (some 0) with
  accessFlags := 49
  interfaces := #[]
  cf := some (fileOf pool1 27 #[] #[{ accessFlags := 2, nameIndex := 5, descriptorIndex := 6, attributes := #[] }, { accessFlags := 9, nameIndex := 31, descriptorIndex := 32, attributes := #[] }] 49 2 #[] #[])
  fields := #[]
  methods := #[k1m0, k1m1]
  instanceTypes := #[]
  staticTypes := #[]
  resolved := Array.replicate 42 none
  statics := none }

def pool2 : Array CpInfo := pool [(1, .class_ 2), (0, u "java/lang/AutoCloseable"), (0, .class_ 4), (0, u "java/lang/Object")] 7

/-- java/lang/AutoCloseable -/
def k2 : Class := { plain "java/lang/AutoCloseable" (some 0) with
  accessFlags := 1537
  interfaces := #[]
  cf := some (fileOf pool2 1 #[] #[] 1537 3 #[] #[])
  fields := #[]
  methods := #[]
  instanceTypes := #[]
  staticTypes := #[]
  resolved := Array.replicate 12 none
  statics := none }

def pool3 : Array CpInfo := pool [(1, .class_ 2), (0, u "java/io/Closeable"), (0, .class_ 4), (0, u "java/lang/Object"), (0, .class_ 6), (0, u "java/lang/AutoCloseable")] 7

/-- java/io/Closeable -/
def k3 : Class := { plain "java/io/Closeable" (some 0) with
  accessFlags := 1537
  interfaces := #[2]
  cf := some (fileOf pool3 1 #[] #[] 1537 3 #[5] #[])
  fields := #[]
  methods := #[]
  instanceTypes := #[]
  staticTypes := #[]
  resolved := Array.replicate 14 none
  statics := none }

def pool4 : Array CpInfo := pool [(1, .class_ 2), (0, u "java/io/Flushable"), (0, .class_ 4), (0, u "java/lang/Object")] 7

/-- java/io/Flushable -/
def k4 : Class := { plain "java/io/Flushable" (some 0) with
  accessFlags := 1537
  interfaces := #[]
  cf := some (fileOf pool4 1 #[] #[] 1537 3 #[] #[])
  fields := #[]
  methods := #[]
  instanceTypes := #[]
  staticTypes := #[]
  resolved := Array.replicate 12 none
  statics := none }

def pool5 : Array CpInfo := pool [(1, .methodref 2 3), (0, .class_ 4), (0, .nameAndType 5 6), (0, u "java/lang/Object"), (0, u "<init>"), (0, u "()V"), (0, .class_ 8), (0, u "java/io/OutputStream$1"), (2, .class_ 13), (1, u "java/io/OutputStream"), (11, .class_ 26), (0, u "java/io/Closeable"), (0, .class_ 28), (0, u "java/io/Flushable")] 24

def k5c0 : Code := { maxStack := 1, maxLocals := 1, code := jdk_2038_method_1_code, exceptionTable := #[], attributes := #[] }
def k5m0 : Method := { name := "<init>", desc := "()V", sig := { parameters := [], returnType := none }, accessFlags := 1, code := some k5c0 }
/-- java/io/OutputStream -/
def k5 : Class := { plain "java/io/OutputStream" (some 0) with
  accessFlags := 1057
  interfaces := #[3, 4]
  cf := some (fileOf pool5 11 #[.nestMembers #[7]] #[{ accessFlags := 1, nameIndex := 5, descriptorIndex := 6, attributes := #[] }] 1057 2 #[25, 27] #[])
  fields := #[]
  methods := #[k5m0]
  instanceTypes := #[]
  staticTypes := #[]
  resolved := Array.replicate 53 none
  statics := none }

def pool6 : Array CpInfo := pool [(2, .class_ 4), (1, u "java/io/ByteArrayOutputStream"), (0, u "<init>"), (0, u "(I)V"), (0, .methodref 8 9), (0, .class_ 10), (0, .nameAndType 5 11), (0, u "java/io/OutputStream"), (0, u "()V"), (21, .fieldref 2 34), (0, .nameAndType 35 36), (0, u "buf"), (0, u "[B"), (0, .methodref 38 39), (0, .class_ 40), (0, .nameAndType 41 42), (0, u "jdk/internal/util/ArraysSupport"), (0, u "newLength"), (0, u "(III)I"), (0, .methodref 44 45), (0, .class_ 46), (0, .nameAndType 47 48), (0, u "java/util/Arrays"), (0, u "copyOf"), (0, u "([BI)[B"), (0, .fieldref 2 50), (0, .nameAndType 51 52), (0, u "count"), (0, u "I"), (0, .methodref 2 54), (0, .nameAndType 55 6), (0, u "ensureCapacity"), (0, .methodref 57 58), (0, .class_ 59), (0, .nameAndType 60 42), (0, u "java/util/Objects"), (0, u "checkFromIndexSize"), (0, .methodref 62 63), (0, .class_ 64), (0, .nameAndType 65 66), (0, u "java/lang/System"), (0, u "arraycopy"), (0, u "(Ljava/lang/Object;ILjava/lang/Object;II)V"), (2, u "write"), (0, u "([BII)V"), (32, u "size"), (24, u "()I")] 16

def k6m0 : Method := { name := "<init>", desc := "()V", sig := { parameters := [], returnType := none }, accessFlags := 1, code := none }
def k6c1 : Code := { maxStack := 4, maxLocals := 2, code := jdk_2005_method_2_code, exceptionTable := #[], attributes := #[] }
def k6m1 : Method := { name := "<init>", desc := "(I)V", sig := { parameters := [.int], returnType := none }, accessFlags := 1, code := some k6c1 }
def k6c2 : Code := { maxStack := 5, maxLocals := 4, code := jdk_2005_method_3_code, exceptionTable := #[], attributes := #[] }
def k6m2 : Method := { name := "ensureCapacity", desc := "(I)V", sig := { parameters := [.int], returnType := none }, accessFlags := 2, code := some k6c2 }
def k6c3 : Code := { maxStack := 5, maxLocals := 4, code := jdk_2005_method_5_code, exceptionTable := #[], attributes := #[] }
def k6m3 : Method := { name := "write", desc := "([BII)V", sig := { parameters := [(.array .byte), .int, .int], returnType := none }, accessFlags := 33, code := some k6c3 }
def k6c4 : Code := { maxStack := 1, maxLocals := 1, code := jdk_2005_method_10_code, exceptionTable := #[], attributes := #[] }
def k6m4 : Method := { name := "size", desc := "()I", sig := { parameters := [], returnType := some .int }, accessFlags := 33, code := some k6c4 }
/-- java/io/ByteArrayOutputStream -/
def k6 : Class := { plain "java/io/ByteArrayOutputStream" (some 5) with
  accessFlags := 33
  interfaces := #[]
  cf := some (fileOf pool6 2 #[] #[{ accessFlags := 1, nameIndex := 5, descriptorIndex := 11, attributes := #[] }, { accessFlags := 1, nameIndex := 5, descriptorIndex := 6, attributes := #[] }, { accessFlags := 2, nameIndex := 55, descriptorIndex := 6, attributes := #[] }, { accessFlags := 33, nameIndex := 69, descriptorIndex := 70, attributes := #[] }, { accessFlags := 33, nameIndex := 103, descriptorIndex := 128, attributes := #[] }] 33 8 #[] #[{ accessFlags := 4, nameIndex := 35, descriptorIndex := 36, attributes := #[] }, { accessFlags := 4, nameIndex := 51, descriptorIndex := 52, attributes := #[] }])
  fields := #[{ name := "buf", type := (.array .byte), accessFlags := 4, slot := 0, constantValue := 0 }, { name := "count", type := .int, accessFlags := 4, slot := 1, constantValue := 0 }]
  methods := #[k6m0, k6m1, k6m2, k6m3, k6m4]
  instanceTypes := #[(.array .byte), .int]
  staticTypes := #[]
  resolved := Array.replicate 145 none
  statics := none }

def pool7 : Array CpInfo := pool [(1, .class_ 2), (0, u "com/example/quillon/quillon/storage/LogFormat"), (0, .methodref 4 5), (0, .class_ 6), (0, .nameAndType 7 8), (0, u "java/io/ByteArrayOutputStream"), (0, u "<init>"), (0, u "(I)V"), (0, .fieldref 10 11), (0, .class_ 12), (0, .nameAndType 13 14), (0, u "com/example/quillon/quillon/storage/LogFormat$RecordBuffer"), (0, u "usualBytes"), (0, u "I"), (0, .fieldref 10 16), (0, .nameAndType 17 18), (0, u "buf"), (0, u "[B"), (0, .fieldref 10 20), (0, .nameAndType 21 14), (0, u "count"), (3, u "()V"), (45, u "shrink"), (5, u "bytes"), (0, u "()[B")] 5

def k7c0 : Code := { maxStack := 2, maxLocals := 2, code := prog_272_method_1_code, exceptionTable := #[], attributes := #[] }
def k7m0 : Method := { name := "<init>", desc := "(I)V", sig := { parameters := [.int], returnType := none }, accessFlags := 0, code := some k7c0 }
def k7c1 : Code := { maxStack := 2, maxLocals := 1, code := prog_272_method_2_code, exceptionTable := #[], attributes := #[] }
def k7m1 : Method := { name := "shrink", desc := "()V", sig := { parameters := [], returnType := none }, accessFlags := 0, code := some k7c1 }
def k7c2 : Code := { maxStack := 1, maxLocals := 1, code := prog_272_method_4_code, exceptionTable := #[], attributes := #[] }
def k7m2 : Method := { name := "bytes", desc := "()[B", sig := { parameters := [], returnType := some (.array .byte) }, accessFlags := 0, code := some k7c2 }
/-- com/example/quillon/quillon/storage/LogFormat$RecordBuffer -/
def k7 : Class := { plain "com/example/quillon/quillon/storage/LogFormat$RecordBuffer" (some 6) with
  accessFlags := 32
  interfaces := #[]
  cf := some (fileOf pool7 10 #[.nestHost 1] #[{ accessFlags := 0, nameIndex := 7, descriptorIndex := 8, attributes := #[] }, { accessFlags := 0, nameIndex := 71, descriptorIndex := 25, attributes := #[] }, { accessFlags := 0, nameIndex := 77, descriptorIndex := 78, attributes := #[] }] 32 4 #[] #[{ accessFlags := 18, nameIndex := 13, descriptorIndex := 14, attributes := #[] }])
  fields := #[{ name := "usualBytes", type := .int, accessFlags := 18, slot := 2, constantValue := 0 }]
  methods := #[k7m0, k7m1, k7m2]
  instanceTypes := #[(.array .byte), .int, .int]
  staticTypes := #[]
  resolved := Array.replicate 84 none
  statics := none }

def pool8 : Array CpInfo := pool [(2, .class_ 4), (1, u "java/lang/Object"), (0, u "<init>"), (0, u "()V"), (35, .class_ 44), (1, u "java/util/Objects"), (61, .class_ 108), (1, u "jdk/internal/util/Preconditions"), (5, u "(IIILjava/util/function/BiFunction;)I"), (0, .methodref 106 116), (0, .nameAndType 117 114), (0, u "checkFromIndexSize"), (57, u "(III)I")] 8

def k8m0 : Method := { name := "<init>", desc := "()V", sig := { parameters := [], returnType := none }, accessFlags := 2, code := none }
def k8c1 : Code := { maxStack := 4, maxLocals := 3, code := jdk_31_method_19_code, exceptionTable := #[], attributes := #[] }
def k8m1 : Method := { name := "checkFromIndexSize", desc := "(III)I", sig := { parameters := [.int, .int, .int], returnType := some .int }, accessFlags := 9, code := some k8c1 }
/-- java/util/Objects -/
def k8 : Class := { plain "java/util/Objects" (some 0) with
  accessFlags := 49
  interfaces := #[]
  cf := some (fileOf pool8 42 #[] #[{ accessFlags := 2, nameIndex := 5, descriptorIndex := 6, attributes := #[] }, { accessFlags := 9, nameIndex := 117, descriptorIndex := 175, attributes := #[] }] 49 2 #[] #[])
  fields := #[]
  methods := #[k8m0, k8m1]
  instanceTypes := #[]
  staticTypes := #[]
  resolved := Array.replicate 184 none
  statics := none }

def pool9 : Array CpInfo := pool [(2, .class_ 4), (1, u "java/lang/Object"), (0, u "<init>"), (0, u "()V"), (17, .class_ 26), (1, u "jdk/internal/util/Preconditions"), (22, u "checkFromIndexSize"), (5, .class_ 56), (0, u "jdk/internal/util/Preconditions$4"), (57, .class_ 115), (0, u "jdk/internal/util/Preconditions$1"), (7, u "SIOOBE_FORMATTER"), (0, u "Ljava/util/function/BiFunction;"), (0, .class_ 126), (0, u "jdk/internal/util/Preconditions$2"), (3, u "AIOOBE_FORMATTER"), (0, .class_ 132), (0, u "jdk/internal/util/Preconditions$3"), (3, u "IOOBE_FORMATTER"), (46, u "(IIILjava/util/function/BiFunction;)I")] 10

def k9m0 : Method := { name := "<init>", desc := "()V", sig := { parameters := [], returnType := none }, accessFlags := 1, code := none }
def k9c1 : Code := { maxStack := 4, maxLocals := 4, code := jdk_41_method_13_code, exceptionTable := #[], attributes := #[] }
def k9m1 : Method := { name := "checkFromIndexSize", desc := "(IIILjava/util/function/BiFunction;)I", sig := { parameters := [.int, .int, .int, (.object "java/util/function/BiFunction")], returnType := some .int }, accessFlags := 9, code := some k9c1 }
/-- jdk/internal/util/Preconditions -/
def k9 : Class := { plain "jdk/internal/util/Preconditions" (some 0) with
  accessFlags := 33
  interfaces := #[]
  cf := some (fileOf pool9 24 #[.nestMembers #[55, 131, 125, 114]] #[{ accessFlags := 1, nameIndex := 5, descriptorIndex := 6, attributes := #[] }, { accessFlags := 9, nameIndex := 49, descriptorIndex := 183, attributes := #[] }] 33 2 #[] #[{ accessFlags := 25, nameIndex := 123, descriptorIndex := 124, attributes := #[] }, { accessFlags := 25, nameIndex := 130, descriptorIndex := 124, attributes := #[] }, { accessFlags := 25, nameIndex := 136, descriptorIndex := 124, attributes := #[] }])
  fields := #[{ name := "SIOOBE_FORMATTER", type := (.object "java/util/function/BiFunction"), accessFlags := 25, slot := 0, constantValue := 0 }, { name := "AIOOBE_FORMATTER", type := (.object "java/util/function/BiFunction"), accessFlags := 25, slot := 1, constantValue := 0 }, { name := "IOOBE_FORMATTER", type := (.object "java/util/function/BiFunction"), accessFlags := 25, slot := 2, constantValue := 0 }]
  methods := #[k9m0, k9m1]
  instanceTypes := #[]
  staticTypes := #[(.object "java/util/function/BiFunction"), (.object "java/util/function/BiFunction"), (.object "java/util/function/BiFunction")]
  resolved := Array.replicate 194 none
  statics := none }

def pool10 : Array CpInfo := pool [(9, u "<init>"), (6, .class_ 18), (1, u "java/lang/Object"), (0, u "()V"), (1, .class_ 23), (1, u "jdk/internal/util/ArraysSupport"), (0, u "LOG2_ARRAY_LONG_INDEX_SCALE"), (0, u "I"), (2, u "U"), (0, u "Ljdk/internal/misc/Unsafe;"), (8, u "BIG_ENDIAN"), (0, u "Z"), (8, u "LOG2_BYTE_BIT_SIZE"), (4, u "LOG2_ARRAY_INT_INDEX_SCALE"), (54, u "JLA"), (0, u "Ljdk/internal/access/JavaLangAccess;"), (11, u "LOG2_ARRAY_BOOLEAN_INDEX_SCALE"), (9, u "LOG2_ARRAY_BYTE_INDEX_SCALE"), (5, u "LOG2_ARRAY_CHAR_INDEX_SCALE"), (5, u "LOG2_ARRAY_SHORT_INDEX_SCALE"), (18, u "LOG2_ARRAY_FLOAT_INDEX_SCALE"), (24, u "LOG2_ARRAY_DOUBLE_INDEX_SCALE"), (6, .methodref 195 196), (0, .class_ 197), (0, .nameAndType 198 199), (0, u "java/lang/Math"), (0, u "max"), (0, u "(II)I"), (0, .integer 2147483639), (76, u "T_BOOLEAN"), (2, u "T_CHAR"), (1, u "T_FLOAT"), (1, u "T_DOUBLE"), (1, u "T_BYTE"), (1, u "T_SHORT"), (1, u "T_INT"), (1, u "T_LONG"), (1, u "SOFT_MAX_ARRAY_LENGTH"), (56, u "newLength"), (0, u "(III)I")] 25

def k10m0 : Method := { name := "<init>", desc := "()V", sig := { parameters := [], returnType := none }, accessFlags := 2, code := none }
def k10c1 : Code := { maxStack := 3, maxLocals := 4, code := jdk_48_method_27_code, exceptionTable := #[], attributes := #[] }
def k10m1 : Method := { name := "newLength", desc := "(III)I", sig := { parameters := [.int, .int, .int], returnType := some .int }, accessFlags := 9, code := some k10c1 }
/-- jdk/internal/util/ArraysSupport -/
def k10 : Class := { plain "jdk/internal/util/ArraysSupport" (some 0) with
  accessFlags := 33
  interfaces := #[]
  cf := some (fileOf pool10 21 #[] #[{ accessFlags := 2, nameIndex := 9, descriptorIndex := 19, attributes := #[] }, { accessFlags := 9, nameIndex := 351, descriptorIndex := 352, attributes := #[] }] 33 16 #[] #[{ accessFlags := 24, nameIndex := 28, descriptorIndex := 29, attributes := #[] }, { accessFlags := 26, nameIndex := 38, descriptorIndex := 39, attributes := #[] }, { accessFlags := 25, nameIndex := 121, descriptorIndex := 25, attributes := #[] }, { accessFlags := 25, nameIndex := 131, descriptorIndex := 25, attributes := #[] }, { accessFlags := 25, nameIndex := 137, descriptorIndex := 25, attributes := #[] }, { accessFlags := 25, nameIndex := 143, descriptorIndex := 25, attributes := #[] }, { accessFlags := 25, nameIndex := 53, descriptorIndex := 25, attributes := #[] }, { accessFlags := 25, nameIndex := 24, descriptorIndex := 25, attributes := #[] }, { accessFlags := 25, nameIndex := 162, descriptorIndex := 25, attributes := #[] }, { accessFlags := 25, nameIndex := 187, descriptorIndex := 25, attributes := #[] }, { accessFlags := 26, nameIndex := 48, descriptorIndex := 25, attributes := #[] }, { accessFlags := 25, nameIndex := 277, descriptorIndex := 25, attributes := #[] }, { accessFlags := 25, nameIndex := 280, descriptorIndex := 25, attributes := #[] }, { accessFlags := 25, nameIndex := 282, descriptorIndex := 25, attributes := #[] }, { accessFlags := 25, nameIndex := 284, descriptorIndex := 25, attributes := #[] }, { accessFlags := 25, nameIndex := 286, descriptorIndex := 25, attributes := #[] }, { accessFlags := 25, nameIndex := 288, descriptorIndex := 25, attributes := #[] }, { accessFlags := 25, nameIndex := 290, descriptorIndex := 25, attributes := #[] }, { accessFlags := 25, nameIndex := 292, descriptorIndex := 25, attributes := #[] }, { accessFlags := 26, nameIndex := 108, descriptorIndex := 109, attributes := #[] }, { accessFlags := 25, nameIndex := 294, descriptorIndex := 25, attributes := #[] }])
  fields := #[{ name := "U", type := (.object "jdk/internal/misc/Unsafe"), accessFlags := 24, slot := 0, constantValue := 0 }, { name := "BIG_ENDIAN", type := .boolean, accessFlags := 26, slot := 1, constantValue := 0 }, { name := "LOG2_ARRAY_BOOLEAN_INDEX_SCALE", type := .int, accessFlags := 25, slot := 2, constantValue := 0 }, { name := "LOG2_ARRAY_BYTE_INDEX_SCALE", type := .int, accessFlags := 25, slot := 3, constantValue := 0 }, { name := "LOG2_ARRAY_CHAR_INDEX_SCALE", type := .int, accessFlags := 25, slot := 4, constantValue := 0 }, { name := "LOG2_ARRAY_SHORT_INDEX_SCALE", type := .int, accessFlags := 25, slot := 5, constantValue := 0 }, { name := "LOG2_ARRAY_INT_INDEX_SCALE", type := .int, accessFlags := 25, slot := 6, constantValue := 0 }, { name := "LOG2_ARRAY_LONG_INDEX_SCALE", type := .int, accessFlags := 25, slot := 7, constantValue := 0 }, { name := "LOG2_ARRAY_FLOAT_INDEX_SCALE", type := .int, accessFlags := 25, slot := 8, constantValue := 0 }, { name := "LOG2_ARRAY_DOUBLE_INDEX_SCALE", type := .int, accessFlags := 25, slot := 9, constantValue := 0 }, { name := "LOG2_BYTE_BIT_SIZE", type := .int, accessFlags := 26, slot := 10, constantValue := 0 }, { name := "T_BOOLEAN", type := .int, accessFlags := 25, slot := 11, constantValue := 0 }, { name := "T_CHAR", type := .int, accessFlags := 25, slot := 12, constantValue := 0 }, { name := "T_FLOAT", type := .int, accessFlags := 25, slot := 13, constantValue := 0 }, { name := "T_DOUBLE", type := .int, accessFlags := 25, slot := 14, constantValue := 0 }, { name := "T_BYTE", type := .int, accessFlags := 25, slot := 15, constantValue := 0 }, { name := "T_SHORT", type := .int, accessFlags := 25, slot := 16, constantValue := 0 }, { name := "T_INT", type := .int, accessFlags := 25, slot := 17, constantValue := 0 }, { name := "T_LONG", type := .int, accessFlags := 25, slot := 18, constantValue := 0 }, { name := "JLA", type := (.object "jdk/internal/access/JavaLangAccess"), accessFlags := 26, slot := 19, constantValue := 0 }, { name := "SOFT_MAX_ARRAY_LENGTH", type := .int, accessFlags := 25, slot := 20, constantValue := 0 }]
  methods := #[k10m0, k10m1]
  instanceTypes := #[]
  staticTypes := #[(.object "jdk/internal/misc/Unsafe"), .boolean, .int, .int, .int, .int, .int, .int, .int, .int, .int, .int, .int, .int, .int, .int, .int, .int, .int, (.object "jdk/internal/access/JavaLangAccess"), .int]
  resolved := Array.replicate 378 none
  statics := none }

def pool11 : Array CpInfo := pool [(1, .class_ 2), (0, u "java/lang/Math"), (1, .class_ 6), (1, u "java/lang/Object"), (0, u "<init>"), (0, u "()V"), (89, .class_ 100), (1, u "java/lang/Math$RandomNumberGeneratorHolder"), (71, u "negativeZeroFloatBits"), (0, u "J"), (2, u "negativeZeroDoubleBits"), (21, u "max"), (2, u "min"), (43, u "$assertionsDisabled"), (0, u "Z"), (88, u "(II)I"), (2, u "twoToTheDoubleScaleDown"), (0, u "D"), (4, u "twoToTheDoubleScaleUp"), (9, u "E"), (3, u "PI"), (2, u "TAU"), (2, u "DEGREES_TO_RADIANS"), (0, u "RADIANS_TO_DEGREES")] 94

def k11m0 : Method := { name := "<init>", desc := "()V", sig := { parameters := [], returnType := none }, accessFlags := 2, code := none }
def k11c1 : Code := { maxStack := 2, maxLocals := 2, code := jdk_29_method_65_code, exceptionTable := #[], attributes := #[] }
def k11m1 : Method := { name := "max", desc := "(II)I", sig := { parameters := [.int, .int], returnType := some .int }, accessFlags := 9, code := some k11c1 }
def k11c2 : Code := { maxStack := 2, maxLocals := 2, code := jdk_29_method_69_code, exceptionTable := #[], attributes := #[] }
def k11m2 : Method := { name := "min", desc := "(II)I", sig := { parameters := [.int, .int], returnType := some .int }, accessFlags := 9, code := some k11c2 }
/-- java/lang/Math -/
def k11 : Class := { plain "java/lang/Math" (some 0) with
  accessFlags := 49
  interfaces := #[]
  cf := some (fileOf pool11 1 #[.nestMembers #[98]] #[{ accessFlags := 2, nameIndex := 7, descriptorIndex := 8, attributes := #[] }, { accessFlags := 9, nameIndex := 198, descriptorIndex := 335, attributes := #[] }, { accessFlags := 9, nameIndex := 201, descriptorIndex := 335, attributes := #[] }] 49 4 #[] #[{ accessFlags := 25, nameIndex := 354, descriptorIndex := 339, attributes := #[] }, { accessFlags := 25, nameIndex := 358, descriptorIndex := 339, attributes := #[] }, { accessFlags := 25, nameIndex := 361, descriptorIndex := 339, attributes := #[] }, { accessFlags := 26, nameIndex := 364, descriptorIndex := 339, attributes := #[] }, { accessFlags := 26, nameIndex := 365, descriptorIndex := 339, attributes := #[] }, { accessFlags := 26, nameIndex := 172, descriptorIndex := 173, attributes := #[] }, { accessFlags := 26, nameIndex := 176, descriptorIndex := 173, attributes := #[] }, { accessFlags := 8, nameIndex := 344, descriptorIndex := 339, attributes := #[] }, { accessFlags := 8, nameIndex := 338, descriptorIndex := 339, attributes := #[] }, { accessFlags := 4120, nameIndex := 245, descriptorIndex := 246, attributes := #[] }])
  fields := #[{ name := "E", type := .double, accessFlags := 25, slot := 0, constantValue := 0 }, { name := "PI", type := .double, accessFlags := 25, slot := 1, constantValue := 0 }, { name := "TAU", type := .double, accessFlags := 25, slot := 2, constantValue := 0 }, { name := "DEGREES_TO_RADIANS", type := .double, accessFlags := 26, slot := 3, constantValue := 0 }, { name := "RADIANS_TO_DEGREES", type := .double, accessFlags := 26, slot := 4, constantValue := 0 }, { name := "negativeZeroFloatBits", type := .long, accessFlags := 26, slot := 5, constantValue := 0 }, { name := "negativeZeroDoubleBits", type := .long, accessFlags := 26, slot := 6, constantValue := 0 }, { name := "twoToTheDoubleScaleUp", type := .double, accessFlags := 8, slot := 7, constantValue := 0 }, { name := "twoToTheDoubleScaleDown", type := .double, accessFlags := 8, slot := 8, constantValue := 0 }, { name := "$assertionsDisabled", type := .boolean, accessFlags := 4120, slot := 9, constantValue := 0 }]
  methods := #[k11m0, k11m1, k11m2]
  instanceTypes := #[]
  staticTypes := #[.double, .double, .double, .double, .double, .long, .long, .double, .double, .boolean]
  resolved := Array.replicate 460 none
  statics := none }

def pool12 : Array CpInfo := pool [(2, .class_ 4), (1, u "java/lang/Object"), (0, u "<init>"), (0, u "()V"), (7, .class_ 16), (1, u "java/util/Arrays"), (57, .class_ 76), (1, u "java/util/Arrays$NaturalOrder"), (36, .class_ 115), (1, u "java/util/Arrays$LegacyMergeSort"), (1, u "Z"), (32, .methodref 151 152), (0, .class_ 153), (0, .nameAndType 154 155), (0, u "java/lang/System"), (0, u "arraycopy"), (0, u "(Ljava/lang/Object;ILjava/lang/Object;II)V"), (146, u "copyOf"), (1, .methodref 305 306), (0, .class_ 307), (0, .nameAndType 308 309), (0, u "java/lang/Math"), (0, u "min"), (0, u "(II)I"), (65, .class_ 376), (0, u "java/util/Arrays$ArrayList"), (68, u "$assertionsDisabled"), (269, u "MIN_ARRAY_SORT_GRAN"), (0, u "I"), (2, u "INSERTIONSORT_THRESHOLD"), (149, u "([BI)[B"), (105, .class_ 976), (0, u "java/util/Arrays$ArrayItr")] 52

def k12m0 : Method := { name := "<init>", desc := "()V", sig := { parameters := [], returnType := none }, accessFlags := 2, code := none }
def k12c1 : Code := { maxStack := 6, maxLocals := 3, code := jdk_65_method_121_code, exceptionTable := #[], attributes := #[] }
def k12m1 : Method := { name := "copyOf", desc := "([BI)[B", sig := { parameters := [(.array .byte), .int], returnType := some (.array .byte) }, accessFlags := 9, code := some k12c1 }
/-- java/util/Arrays -/
def k12 : Class := { plain "java/util/Arrays" (some 0) with
  accessFlags := 49
  interfaces := #[]
  cf := some (fileOf pool12 14 #[.nestMembers #[975, 375, 113, 74]] #[{ accessFlags := 2, nameIndex := 5, descriptorIndex := 6, attributes := #[] }, { accessFlags := 9, nameIndex := 302, descriptorIndex := 869, attributes := #[] }] 49 2 #[] #[{ accessFlags := 26, nameIndex := 715, descriptorIndex := 716, attributes := #[] }, { accessFlags := 26, nameIndex := 719, descriptorIndex := 716, attributes := #[] }, { accessFlags := 4120, nameIndex := 445, descriptorIndex := 117, attributes := #[] }])
  fields := #[{ name := "MIN_ARRAY_SORT_GRAN", type := .int, accessFlags := 26, slot := 0, constantValue := 0 }, { name := "INSERTIONSORT_THRESHOLD", type := .int, accessFlags := 26, slot := 1, constantValue := 0 }, { name := "$assertionsDisabled", type := .boolean, accessFlags := 4120, slot := 2, constantValue := 0 }]
  methods := #[k12m0, k12m1]
  instanceTypes := #[]
  staticTypes := #[.int, .int, .boolean]
  resolved := Array.replicate 1029 none
  statics := none }

def pool13 : Array CpInfo := pool [(2, .class_ 4), (1, u "java/lang/Object"), (0, u "<init>"), (0, u "()V"), (1, .class_ 10), (1, u "java/lang/System"), (0, u "allowSecurityManager"), (0, u "I"), (16, u "cons"), (0, u "Ljava/io/Console;"), (77, .class_ 110), (1, u "java/lang/System$CallersHolder"), (43, u "initialErrStream"), (0, u "Ljava/io/PrintStream;"), (19, u "security"), (0, u "Ljava/lang/SecurityManager;"), (31, .class_ 209), (0, u "java/lang/System$1"), (7, u "props"), (0, u "Ljava/util/Properties;"), (2, u "lineSeparator"), (0, u "Ljava/lang/String;"), (96, .class_ 321), (1, u "java/lang/System$LoggerFinder"), (5, .class_ 328), (0, u "java/lang/System$Logger"), (67, u "err"), (2, u "out"), (91, u "notSupportedJnuEncoding"), (15, u "in"), (17, u "initialIn"), (0, u "Ljava/io/InputStream;"), (35, u "bootLayer"), (0, u "Ljava/lang/ModuleLayer;"), (99, .class_ 664), (0, u "java/lang/System$2"), (9, u "NEVER"), (2, u "MAYBE"), (49, u "arraycopy"), (0, u "(Ljava/lang/Object;ILjava/lang/Object;II)V"), (72, .class_ 802), (0, u "java/lang/System$Logger$Level")] 31

def k13m0 : Method := { name := "<init>", desc := "()V", sig := { parameters := [], returnType := none }, accessFlags := 2, code := none }
def k13m1 : Method := { name := "arraycopy", desc := "(Ljava/lang/Object;ILjava/lang/Object;II)V", sig := { parameters := [(.object "java/lang/Object"), .int, (.object "java/lang/Object"), .int, .int], returnType := none }, accessFlags := 265, code := none }
/-- java/lang/System -/
def k13 : Class := { plain "java/lang/System" (some 0) with
  accessFlags := 49
  interfaces := #[]
  cf := some (fileOf pool13 8 #[.nestMembers #[319, 327, 801, 108, 663, 208]] #[{ accessFlags := 2, nameIndex := 5, descriptorIndex := 6, attributes := #[] }, { accessFlags := 265, nameIndex := 727, descriptorIndex := 728, attributes := #[] }] 49 2 #[] #[{ accessFlags := 25, nameIndex := 507, descriptorIndex := 526, attributes := #[] }, { accessFlags := 25, nameIndex := 399, descriptorIndex := 155, attributes := #[] }, { accessFlags := 25, nameIndex := 396, descriptorIndex := 155, attributes := #[] }, { accessFlags := 10, nameIndex := 525, descriptorIndex := 526, attributes := #[] }, { accessFlags := 26, nameIndex := 674, descriptorIndex := 12, attributes := #[] }, { accessFlags := 26, nameIndex := 677, descriptorIndex := 12, attributes := #[] }, { accessFlags := 10, nameIndex := 11, descriptorIndex := 12, attributes := #[] }, { accessFlags := 74, nameIndex := 175, descriptorIndex := 176, attributes := #[] }, { accessFlags := 10, nameIndex := 491, descriptorIndex := 222, attributes := #[] }, { accessFlags := 74, nameIndex := 29, descriptorIndex := 30, attributes := #[] }, { accessFlags := 74, nameIndex := 154, descriptorIndex := 155, attributes := #[] }, { accessFlags := 10, nameIndex := 217, descriptorIndex := 218, attributes := #[] }, { accessFlags := 10, nameIndex := 221, descriptorIndex := 222, attributes := #[] }, { accessFlags := 8, nameIndex := 562, descriptorIndex := 563, attributes := #[] }])
  fields := #[{ name := "in", type := (.object "java/io/InputStream"), accessFlags := 25, slot := 0, constantValue := 0 }, { name := "out", type := (.object "java/io/PrintStream"), accessFlags := 25, slot := 1, constantValue := 0 }, { name := "err", type := (.object "java/io/PrintStream"), accessFlags := 25, slot := 2, constantValue := 0 }, { name := "initialIn", type := (.object "java/io/InputStream"), accessFlags := 10, slot := 3, constantValue := 0 }, { name := "NEVER", type := .int, accessFlags := 26, slot := 4, constantValue := 0 }, { name := "MAYBE", type := .int, accessFlags := 26, slot := 5, constantValue := 0 }, { name := "allowSecurityManager", type := .int, accessFlags := 10, slot := 6, constantValue := 0 }, { name := "security", type := (.object "java/lang/SecurityManager"), accessFlags := 74, slot := 7, constantValue := 0 }, { name := "notSupportedJnuEncoding", type := (.object "java/lang/String"), accessFlags := 10, slot := 8, constantValue := 0 }, { name := "cons", type := (.object "java/io/Console"), accessFlags := 74, slot := 9, constantValue := 0 }, { name := "initialErrStream", type := (.object "java/io/PrintStream"), accessFlags := 74, slot := 10, constantValue := 0 }, { name := "props", type := (.object "java/util/Properties"), accessFlags := 10, slot := 11, constantValue := 0 }, { name := "lineSeparator", type := (.object "java/lang/String"), accessFlags := 10, slot := 12, constantValue := 0 }, { name := "bootLayer", type := (.object "java/lang/ModuleLayer"), accessFlags := 8, slot := 13, constantValue := 0 }]
  methods := #[k13m0, k13m1]
  instanceTypes := #[]
  staticTypes := #[(.object "java/io/InputStream"), (.object "java/io/PrintStream"), (.object "java/io/PrintStream"), (.object "java/io/InputStream"), .int, .int, .int, (.object "java/lang/SecurityManager"), (.object "java/lang/String"), (.object "java/io/Console"), (.object "java/io/PrintStream"), (.object "java/util/Properties"), (.object "java/lang/String"), (.object "java/lang/ModuleLayer")]
  resolved := Array.replicate 834 none
  statics := none }

def pool14 : Array CpInfo := pool [(1, u "java/lang/Cloneable"), (0, .class_ 1), (0, u "java/lang/Object"), (0, .class_ 3)] 3

/-- java/lang/Cloneable -/
def k14 : Class := { plain "java/lang/Cloneable" (some 0) with
  accessFlags := 1537
  interfaces := #[]
  cf := some (fileOf pool14 2 #[] #[] 1537 4 #[] #[])
  fields := #[]
  methods := #[]
  instanceTypes := #[]
  staticTypes := #[]
  resolved := Array.replicate 8 none
  statics := none }

def pool15 : Array CpInfo := pool [(1, u "java/io/Serializable"), (0, .class_ 1), (0, u "java/lang/Object"), (0, .class_ 3)] 3

/-- java/io/Serializable -/
def k15 : Class := { plain "java/io/Serializable" (some 0) with
  accessFlags := 1537
  interfaces := #[]
  cf := some (fileOf pool15 2 #[] #[] 1537 4 #[] #[])
  fields := #[]
  methods := #[]
  instanceTypes := #[]
  staticTypes := #[]
  resolved := Array.replicate 8 none
  statics := none }

/-- the primitive byte -/
def k16 : Class := { plain "byte" none with kind := .primitive 'B', accessFlags := 0x411 }
/-- [B -/
def k17 : Class := { plain "[B" (some 0) with kind := .array 16 .byte, interfaces := #[14, 15], accessFlags := 1041 }

/-- the primitive int -/
def k18 : Class := { plain "int" none with kind := .primitive 'I', accessFlags := 0x411 }
/-- [I -/
def k19 : Class := { plain "[I" (some 0) with kind := .array 18 .int, interfaces := #[14, 15], accessFlags := 1041 }

def heap : Heap := #[]
def classes : Array Class := #[k0, k1, k2, k3, k4, k5, k6, k7, k8, k9, k10, k11, k12, k13, k14, k15, k16, k17, k18, k19]
def interned : List (Array UInt16 × Addr) := []
def slotsUsed : Nat := 0
def theMethod : MethodId := ⟨1, 1⟩
def args0 : Array Value := #[.int 5, .int 7, .int 3, .int 2, .int 1]
def aboutOver (below : List Frame) : State where
  vm := { classes := classes, interned := interned.toArray }
  heap := heap
  slotsUsed := slotsUsed
  threads := #[{ frames := .invoking theMethod args0 :: below }]
def below0 : List Frame := [.native { method := ⟨0, 0⟩, args := #[] }]
def about1 : State := aboutOver below0
def p0 : Program := .bare "" "" ""
def e0 : Env := launch0.env 0 0 0
theorem w_frames : about1.frames = Frame.invoking theMethod args0 :: below0 := rfl
set_option maxRecDepth 65536 in
theorem w_args : argsFit about1.vm theMethod args0 = true := by decide +kernel
set_option maxRecDepth 65536 in
theorem w_heap : heapFits about1 = true := by decide +kernel
set_option maxRecDepth 65536 in
theorem w_runnable : about1.curStatus? = some .runnable := by decide +kernel
set_option maxRecDepth 65536 in
theorem w_alone : about1.alone = true := by decide +kernel
set_option maxRecDepth 65536 in
theorem w_named : about1.methodNamed? x = some theMethod := by decide +kernel
set_option maxRecDepth 65536 in
theorem w_hears : about1.hears theMethod below0 = true := by decide +kernel
set_option maxRecDepth 65536 in
theorem w_ripe : about1.ripe theMethod args0 below0 = true := by decide +kernel
theorem w_running : about1.status = .running := rfl
set_option maxRecDepth 65536 in
theorem w_room : about1.hasRoom e0.platform room_1 = true :=
  launch0.hasRoom_least _ room_1 (by decide +kernel) (by decide +kernel) (by decide +kernel) (by decide +kernel) (by decide +kernel) (by decide +kernel)
theorem allAtoms_all (ts : List Jvm.Cond) (a : Array Jvm.Value) (st : Jvm.State) : (allAtoms ts).before a st = ts.all (fun c => c.before a st) := by
  induction ts with
  | nil => rfl
  | cons c t ih =>
    show (Jvm.Cond.and c (allAtoms t)).before a st = _
    rw [Jvm.Cond.before_and, ih, List.all_cons]
def words1 : List Jvm.Cond := Jvm.Cond.code x code maxLocals ret :: tables_1
/-- a 'code' word, met by the world's own term for the bytes: nothing is compared byte by byte -/
theorem code_word {y : MethodName} {bytes : ByteArray} {mx : Nat} {rt : Option FieldType} {a : Array Value} {s : State} {m : MethodId} {meth : Method} {c : Code} (h1 : s.methodNamed? y = some m) (h2 : s.vm.method? m = some meth) (h3 : meth.code = some c) (h4 : c.code = bytes)
    (h5 : (c.maxLocals == mx && c.exceptionTable.isEmpty && decide (c.maxStack ≤ mostOperands) && decide (meth.sig.returnType = rt) && !meth.locks && decide (parseMethodDescriptor y.desc = some meth.sig)) = true) : (Jvm.Cond.code y bytes mx rt).before a s = true := by
  simp only [Bool.and_eq_true, beq_iff_eq, Bool.not_eq_true', decide_eq_true_eq] at h5
  obtain ⟨⟨⟨⟨⟨g1, g2⟩, g3⟩, g4⟩, g5⟩, g6⟩ := h5
  simp [Cond.before, Cond.holds, Cond.value, h1, h2, h3, h4, g1, g2, g3, g4, g5, g6]
def isCode : Jvm.Cond → Bool
  | .code _ _ _ _ => true
  | _ => false
theorem all_split {L : List Jvm.Cond} {P : Jvm.Cond → Bool} (h1 : L.all (fun c => isCode c || P c) = true) (h2 : ∀ c ∈ L.filter isCode, P c = true) : L.all P = true := by
  refine List.all_eq_true.mpr fun c hc => ?_
  have h := List.all_eq_true.mp h1 c hc
  rcases Bool.eq_false_or_eq_true (isCode c) with hi | hi
  · exact h2 c (List.mem_filter.mpr ⟨hc, hi⟩)
  · simpa [hi] using h
set_option maxRecDepth 65536 in
theorem w_c0 : (Jvm.Cond.code x code maxLocals ret).before args0 about1 = true := code_word (m := ⟨1, 1⟩) (meth := k1m1) (c := k1c1) (by decide +kernel) rfl rfl rfl (by decide +kernel)
set_option maxRecDepth 65536 in
theorem w_c1 : (Jvm.Cond.code ({ cls := "com/example/quillon/quillon/storage/LogFormat$RecordBuffer", name := "<init>", desc := "(I)V" } : Jvm.MethodName) prog_272_method_1_code (2 : Nat) (Option.none : Option Jvm.ClassFile.FieldType)).before args0 about1 = true := code_word (m := ⟨7, 0⟩) (meth := k7m0) (c := k7c0) (by decide +kernel) rfl rfl rfl (by decide +kernel)
set_option maxRecDepth 65536 in
theorem w_c2 : (Jvm.Cond.code ({ cls := "java/io/ByteArrayOutputStream", name := "<init>", desc := "(I)V" } : Jvm.MethodName) jdk_2005_method_2_code (2 : Nat) (Option.none : Option Jvm.ClassFile.FieldType)).before args0 about1 = true := code_word (m := ⟨6, 1⟩) (meth := k6m1) (c := k6c1) (by decide +kernel) rfl rfl rfl (by decide +kernel)
set_option maxRecDepth 65536 in
theorem w_c3 : (Jvm.Cond.code ({ cls := "java/io/OutputStream", name := "<init>", desc := "()V" } : Jvm.MethodName) jdk_2038_method_1_code (1 : Nat) (Option.none : Option Jvm.ClassFile.FieldType)).before args0 about1 = true := code_word (m := ⟨5, 0⟩) (meth := k5m0) (c := k5c0) (by decide +kernel) rfl rfl rfl (by decide +kernel)
set_option maxRecDepth 65536 in
theorem w_c4 : (Jvm.Cond.code ({ cls := "java/lang/Object", name := "<init>", desc := "()V" } : Jvm.MethodName) object_method_1_code (1 : Nat) (Option.none : Option Jvm.ClassFile.FieldType)).before args0 about1 = true := code_word (m := ⟨0, 0⟩) (meth := k0m0) (c := k0c0) (by decide +kernel) rfl rfl rfl (by decide +kernel)
set_option maxRecDepth 65536 in
theorem w_c5 : (Jvm.Cond.code ({ cls := "java/util/Objects", name := "checkFromIndexSize", desc := "(III)I" } : Jvm.MethodName) jdk_31_method_19_code (3 : Nat) (Option.some Jvm.ClassFile.FieldType.int)).before args0 about1 = true := code_word (m := ⟨8, 1⟩) (meth := k8m1) (c := k8c1) (by decide +kernel) rfl rfl rfl (by decide +kernel)
set_option maxRecDepth 65536 in
theorem w_c6 : (Jvm.Cond.code ({ cls := "jdk/internal/util/Preconditions", name := "checkFromIndexSize", desc := "(IIILjava/util/function/BiFunction;)I" } : Jvm.MethodName) jdk_41_method_13_code (4 : Nat) (Option.some Jvm.ClassFile.FieldType.int)).before args0 about1 = true := code_word (m := ⟨9, 1⟩) (meth := k9m1) (c := k9c1) (by decide +kernel) rfl rfl rfl (by decide +kernel)
set_option maxRecDepth 65536 in
theorem w_c7 : (Jvm.Cond.code ({ cls := "java/io/ByteArrayOutputStream", name := "ensureCapacity", desc := "(I)V" } : Jvm.MethodName) jdk_2005_method_3_code (4 : Nat) (Option.none : Option Jvm.ClassFile.FieldType)).before args0 about1 = true := code_word (m := ⟨6, 2⟩) (meth := k6m2) (c := k6c2) (by decide +kernel) rfl rfl rfl (by decide +kernel)
set_option maxRecDepth 65536 in
theorem w_c8 : (Jvm.Cond.code ({ cls := "jdk/internal/util/ArraysSupport", name := "newLength", desc := "(III)I" } : Jvm.MethodName) jdk_48_method_27_code (4 : Nat) (Option.some Jvm.ClassFile.FieldType.int)).before args0 about1 = true := code_word (m := ⟨10, 1⟩) (meth := k10m1) (c := k10c1) (by decide +kernel) rfl rfl rfl (by decide +kernel)
set_option maxRecDepth 65536 in
theorem w_c9 : (Jvm.Cond.code ({ cls := "java/lang/Math", name := "max", desc := "(II)I" } : Jvm.MethodName) jdk_29_method_65_code (2 : Nat) (Option.some Jvm.ClassFile.FieldType.int)).before args0 about1 = true := code_word (m := ⟨11, 1⟩) (meth := k11m1) (c := k11c1) (by decide +kernel) rfl rfl rfl (by decide +kernel)
set_option maxRecDepth 65536 in
theorem w_c10 : (Jvm.Cond.code ({ cls := "java/util/Arrays", name := "copyOf", desc := "([BI)[B" } : Jvm.MethodName) jdk_65_method_121_code (3 : Nat) (Option.some (Jvm.ClassFile.FieldType.array Jvm.ClassFile.FieldType.byte))).before args0 about1 = true := code_word (m := ⟨12, 1⟩) (meth := k12m1) (c := k12c1) (by decide +kernel) rfl rfl rfl (by decide +kernel)
set_option maxRecDepth 65536 in
theorem w_c11 : (Jvm.Cond.code ({ cls := "java/lang/Math", name := "min", desc := "(II)I" } : Jvm.MethodName) jdk_29_method_69_code (2 : Nat) (Option.some Jvm.ClassFile.FieldType.int)).before args0 about1 = true := code_word (m := ⟨11, 2⟩) (meth := k11m2) (c := k11c2) (by decide +kernel) rfl rfl rfl (by decide +kernel)
set_option maxRecDepth 65536 in
theorem w_c12 : (Jvm.Cond.code ({ cls := "com/example/quillon/quillon/storage/LogFormat$RecordBuffer", name := "bytes", desc := "()[B" } : Jvm.MethodName) prog_272_method_4_code (1 : Nat) (Option.some (Jvm.ClassFile.FieldType.array Jvm.ClassFile.FieldType.byte))).before args0 about1 = true := code_word (m := ⟨7, 2⟩) (meth := k7m2) (c := k7c2) (by decide +kernel) rfl rfl rfl (by decide +kernel)
set_option maxRecDepth 65536 in
theorem w_c13 : (Jvm.Cond.code ({ cls := "com/example/quillon/quillon/storage/LogFormat$RecordBuffer", name := "shrink", desc := "()V" } : Jvm.MethodName) prog_272_method_2_code (1 : Nat) (Option.none : Option Jvm.ClassFile.FieldType)).before args0 about1 = true := code_word (m := ⟨7, 1⟩) (meth := k7m1) (c := k7c1) (by decide +kernel) rfl rfl rfl (by decide +kernel)
def codes1 : List Jvm.Cond := [Jvm.Cond.code x code maxLocals ret, Jvm.Cond.code ({ cls := "com/example/quillon/quillon/storage/LogFormat$RecordBuffer", name := "<init>", desc := "(I)V" } : Jvm.MethodName) prog_272_method_1_code (2 : Nat) (Option.none : Option Jvm.ClassFile.FieldType), Jvm.Cond.code ({ cls := "java/io/ByteArrayOutputStream", name := "<init>", desc := "(I)V" } : Jvm.MethodName) jdk_2005_method_2_code (2 : Nat) (Option.none : Option Jvm.ClassFile.FieldType), Jvm.Cond.code ({ cls := "java/io/OutputStream", name := "<init>", desc := "()V" } : Jvm.MethodName) jdk_2038_method_1_code (1 : Nat) (Option.none : Option Jvm.ClassFile.FieldType), Jvm.Cond.code ({ cls := "java/lang/Object", name := "<init>", desc := "()V" } : Jvm.MethodName) object_method_1_code (1 : Nat) (Option.none : Option Jvm.ClassFile.FieldType), Jvm.Cond.code ({ cls := "java/util/Objects", name := "checkFromIndexSize", desc := "(III)I" } : Jvm.MethodName) jdk_31_method_19_code (3 : Nat) (Option.some Jvm.ClassFile.FieldType.int), Jvm.Cond.code ({ cls := "jdk/internal/util/Preconditions", name := "checkFromIndexSize", desc := "(IIILjava/util/function/BiFunction;)I" } : Jvm.MethodName) jdk_41_method_13_code (4 : Nat) (Option.some Jvm.ClassFile.FieldType.int), Jvm.Cond.code ({ cls := "java/io/ByteArrayOutputStream", name := "ensureCapacity", desc := "(I)V" } : Jvm.MethodName) jdk_2005_method_3_code (4 : Nat) (Option.none : Option Jvm.ClassFile.FieldType), Jvm.Cond.code ({ cls := "jdk/internal/util/ArraysSupport", name := "newLength", desc := "(III)I" } : Jvm.MethodName) jdk_48_method_27_code (4 : Nat) (Option.some Jvm.ClassFile.FieldType.int), Jvm.Cond.code ({ cls := "java/lang/Math", name := "max", desc := "(II)I" } : Jvm.MethodName) jdk_29_method_65_code (2 : Nat) (Option.some Jvm.ClassFile.FieldType.int), Jvm.Cond.code ({ cls := "java/util/Arrays", name := "copyOf", desc := "([BI)[B" } : Jvm.MethodName) jdk_65_method_121_code (3 : Nat) (Option.some (Jvm.ClassFile.FieldType.array Jvm.ClassFile.FieldType.byte)), Jvm.Cond.code ({ cls := "java/lang/Math", name := "min", desc := "(II)I" } : Jvm.MethodName) jdk_29_method_69_code (2 : Nat) (Option.some Jvm.ClassFile.FieldType.int), Jvm.Cond.code ({ cls := "com/example/quillon/quillon/storage/LogFormat$RecordBuffer", name := "bytes", desc := "()[B" } : Jvm.MethodName) prog_272_method_4_code (1 : Nat) (Option.some (Jvm.ClassFile.FieldType.array Jvm.ClassFile.FieldType.byte)), Jvm.Cond.code ({ cls := "com/example/quillon/quillon/storage/LogFormat$RecordBuffer", name := "shrink", desc := "()V" } : Jvm.MethodName) prog_272_method_2_code (1 : Nat) (Option.none : Option Jvm.ClassFile.FieldType)]
set_option maxRecDepth 65536 in
theorem codes_eq : words1.filter isCode = codes1 := rfl
theorem w_codes : ∀ c ∈ words1.filter isCode, c.before args0 about1 = true := by
  rw [codes_eq]
  intro c hc
  simp only [codes1, List.mem_cons, List.not_mem_nil, or_false] at hc
  rcases hc with rfl | rfl | rfl | rfl | rfl | rfl | rfl | rfl | rfl | rfl | rfl | rfl | rfl | rfl
  · exact w_c0
  · exact w_c1
  · exact w_c2
  · exact w_c3
  · exact w_c4
  · exact w_c5
  · exact w_c6
  · exact w_c7
  · exact w_c8
  · exact w_c9
  · exact w_c10
  · exact w_c11
  · exact w_c12
  · exact w_c13
set_option maxRecDepth 65536 in
theorem w_t1 : (words1.take 24).all (fun c => isCode c || c.before args0 about1) = true := by decide +kernel
set_option maxRecDepth 65536 in
theorem w_t2 : ((words1.drop 24).take 24).all (fun c => isCode c || c.before args0 about1) = true := by decide +kernel
set_option maxRecDepth 65536 in
theorem w_t3 : (((words1.drop 24).drop 24).take 24).all (fun c => isCode c || c.before args0 about1) = true := by decide +kernel
set_option maxRecDepth 65536 in
theorem w_t4 : (((words1.drop 24).drop 24).drop 24).all (fun c => isCode c || c.before args0 about1) = true := by decide +kernel
theorem w_tables : (allAtoms (Jvm.Cond.code x code maxLocals ret :: tables_1)).before args0 about1 = true := by
  rw [allAtoms_all]
  show words1.all (fun c => c.before args0 about1) = true
  refine all_split ?_ w_codes
  rw [← List.take_append_drop 24 words1, List.all_append, w_t1, ← List.take_append_drop 24 (words1.drop 24), List.all_append, w_t2, ← List.take_append_drop 24 ((words1.drop 24).drop 24), List.all_append, w_t3, w_t4]
  rfl
set_option maxRecDepth 65536 in
theorem w_case : (Jvm.Cond.and given_1 narrow_1).before args0 about1 = true := by decide +kernel
theorem w_applies : (headSpec (Jvm.Cond.code x code maxLocals ret :: tables_1) room_1).applies x e0.platform about1 = true :=
  (Spec.applies_iff w_frames).mpr ⟨w_running, w_runnable, w_alone, w_named, w_hears, w_ripe, w_room, w_tables⟩
theorem atStart : AtStart classFile x code maxLocals ret World_1 tables_1 room_1 Calls_1 rest_1 Pre_1 launch0 p0 e0 about1 theMethod args0 below0 :=
  ⟨lists_1, trivial, launch0.admits_env _ _ _, launch0.least_env, fairChoices_fair.cas, fairChoices_fair.clock, w_frames, w_args, w_heap, w_applies, trivial, trivial, w_case⟩
end start1
theorem witness_1 : WitnessClaimed_1 := ⟨start1.p0, start1.e0, start1.about1, start1.theMethod, start1.args0, start1.below0, start1.atStart⟩
end Jvm.Pilot.@@N@@
