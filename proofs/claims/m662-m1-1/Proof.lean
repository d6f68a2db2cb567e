import JvmDerived
import JvmDerived.Pilot.@@N@@Statement
import JvmDerived.Pilot.@@N@@Code
set_option linter.unusedVariables false
set_option linter.unusedSimpArgs false
namespace Jvm.RoadKit
open Sem ClassFile Op Lib Jvm.Stand Jvm.Free Jvm.LawKit
section New
variable {p : Program} {l : Launch} {e : Env} {R : Room} {s : State} {m : MethodId} {args : Array Value} {below : List Frame} {meth : Method} {c : Code} {T : State} {locs : List Loc} {cells slots : Nat}
theorem retI (X : Stand p l e R s m args below meth c T locs cells slots) (hx : p.tables.exec = Jvm.exec) {pc : Nat} {Ls : Array Slot} {z : Int32} {rest : List Value} (hret : meth.sig.returnType = some .int) (hd : decode c.code pc = .ok (.ireturn, 1)) {fs : List Frame}
    (hl : ∀ (f : JFrame) (acts : List Action), f.method = m → f.locked = none → f.entered = [] → (doReturn e (T.setTop f) acts (some (.int z))).1 = T.setFrames fs) : Steps p.tables e below (T.setTop (mkF m pc Ls (.int z :: rest))) (T.setFrames fs) := by
  have hm' : T.vm.method? m = some meth := X.method'
  have hn : narrow .int (.int z) = .int z := rfl
  show Steps p.tables e below (T.setTop { method := m, pc := pc, locals := Ls, stack := _ :: rest, locked := none }) _
  jvm_step X.here [X.here.top, hx, hd, hm', hret, hn]
  first | (intro acts; rw [hl _ acts rfl rfl rfl]) | rw [hl _ _ rfl rfl rfl]
  exact Steps.refl _
end New
end Jvm.RoadKit
namespace Jvm.Pilot.@@N@@
open Jvm Jvm.ClassFile Sem Op Lib Jvm.Free Jvm.Stand Jvm.LawKit Jvm.RoadKit Bundle Jvm.Pilot.@@N@@.Jvm.D
/-! 0. what is still to be walked, as one predicate: from A the invocation comes to its end, and Q says how it ends -/
def own_Fin (p : Program) (e : Env) (below : List Frame) (s : State) (Q : Option Value → Heap → List Loc → Prop) (k n : Nat) (A : State) : Prop :=
  ∃ s₂ o, Steps p.tables e below A s₂ ∧ s₂.status = .running ∧ Ended s₂ below o ∧ ∃ v L, o = .returned v ∧ Q v s₂.heap L ∧ FrameEnd s o s₂ L k n
section Own
variable {p : Program} {l : Launch} {e : Env} {R : Room} {s : State} {m : MethodId} {args : Array Value} {below : List Frame} {meth : Method} {c : Code} {T : State} {locs : List Loc} {cells slots k n : Nat} {Q : Option Value → Heap → List Loc → Prop} {A B : State}
theorem own_pre (h : ∀ t, Steps p.tables e below B t → Steps p.tables e below A t) (q : own_Fin p e below s Q k n B) : own_Fin p e below s Q k n A := by
  obtain ⟨s₂, o, h1, h2⟩ := q; exact ⟨s₂, o, h _ h1, h2⟩
theorem own_retZ (X : Stand p l e R s m args below meth c T locs cells slots) (hx : p.tables.exec = Jvm.exec) (hlk : meth.locks = false) {pc : Nat} {Ls : Array Slot} {z : Int32} {rest : List Value} (hret : meth.sig.returnType = some .boolean) (hd : decode c.code pc = .ok (.ireturn, 1))
    (hQ : Q (some (.int (z &&& 1))) T.heap locs) (hk : cells ≤ k) (hn : slots ≤ n) : own_Fin p e below s Q k n (T.setTop (mkF m pc Ls (.int z :: rest))) := by
  obtain ⟨fs, hr, hrun, hended, hW, hsame⟩ := X.leave (v := some (.int (z &&& 1))) (fun h => by rw [hret] at h; cases h) hlk
  exact ⟨_, _, retN X hx (t := .boolean) hret (by simp) hd hr, hrun, hended, _, _, rfl, hQ, ⟨_, rfl⟩, hW, hsame.mono hk hn⟩
theorem own_retI (X : Stand p l e R s m args below meth c T locs cells slots) (hx : p.tables.exec = Jvm.exec) (hlk : meth.locks = false) {pc : Nat} {Ls : Array Slot} {z : Int32} {rest : List Value} (hret : meth.sig.returnType = some .int) (hd : decode c.code pc = .ok (.ireturn, 1))
    (hQ : Q (some (.int z)) T.heap locs) (hk : cells ≤ k) (hn : slots ≤ n) : own_Fin p e below s Q k n (T.setTop (mkF m pc Ls (.int z :: rest))) := by
  obtain ⟨fs, hr, hrun, hended, hW, hsame⟩ := X.leave (v := some (.int z)) (fun h => by rw [hret] at h; cases h) hlk
  exact ⟨_, _, retI X hx hret hd hr, hrun, hended, _, _, rfl, hQ, ⟨_, rfl⟩, hW, hsame.mono hk hn⟩
theorem own_retJ (X : Stand p l e R s m args below meth c T locs cells slots) (hx : p.tables.exec = Jvm.exec) (hlk : meth.locks = false) {pc : Nat} {Ls : Array Slot} {z : Int64} (hret : meth.sig.returnType = some .long) (hd : decode c.code pc = .ok (.lreturn, 1))
    (hQ : Q (some (.long z)) T.heap locs) (hk : cells ≤ k) (hn : slots ≤ n) : own_Fin p e below s Q k n (T.setTop (mkF m pc Ls [.long z])) := by
  obtain ⟨fs, hr, hrun, hended, hW, hsame⟩ := X.leave (v := some (.long z)) (fun h => by rw [hret] at h; cases h) hlk
  exact ⟨_, _, X.lreturnOut hx hret hd hr, hrun, hended, _, _, rfl, hQ, ⟨_, rfl⟩, hW, hsame.mono hk hn⟩
theorem own_retV (X : Stand p l e R s m args below meth c T locs cells slots) (hx : p.tables.exec = Jvm.exec) (hlk : meth.locks = false) {pc : Nat} {Ls : Array Slot} (hret : meth.sig.returnType = none) (hd : decode c.code pc = .ok (.return_, 1))
    (hQ : Q none T.heap locs) (hk : cells ≤ k) (hn : slots ≤ n) : own_Fin p e below s Q k n (T.setTop (mkF m pc Ls [])) := by
  obtain ⟨fs, hr, hrun, hended, hW, hsame⟩ := X.leave (v := none) (fun _ => rfl) hlk
  exact ⟨_, _, X.returnOut hx hret hd hr, hrun, hended, _, _, rfl, hQ, ⟨_, rfl⟩, hW, hsame.mono hk hn⟩
theorem own_at {v : Option Value} {h h' : Heap} {L : List Loc} (e : h' = h) (q : Q v h L) : Q v h' L := e ▸ q
theorem own_someI {r z : Int32} (h : r = z) : some (Value.int z) = some (Value.int r) := by rw [h]
theorem own_someJ {r z : Int64} (h : r = z) : some (Value.long z) = some (Value.long r) := by rw [h]
end Own
/-! body 1 -/
theorem d1_0 : decode prog_140_method_7_code 0 = .ok (.iload_n 0, 1) := by decide +kernel
theorem d1_1 : decode prog_140_method_7_code 1 = .ok (.sipush 128, 3) := by decide +kernel
theorem d1_4 : decode prog_140_method_7_code 4 = .ok (.if_icmp .ge 45, 3) := by decide +kernel
theorem d1_7 : decode prog_140_method_7_code 7 = .ok (.iload_n 0, 1) := by decide +kernel
theorem d1_8 : decode prog_140_method_7_code 8 = .ok (.bipush 65, 2) := by decide +kernel
theorem d1_10 : decode prog_140_method_7_code 10 = .ok (.if_icmp .lt 9, 3) := by decide +kernel
theorem d1_13 : decode prog_140_method_7_code 13 = .ok (.iload_n 0, 1) := by decide +kernel
theorem d1_14 : decode prog_140_method_7_code 14 = .ok (.bipush 90, 2) := by decide +kernel
theorem d1_16 : decode prog_140_method_7_code 16 = .ok (.if_icmp .le 27, 3) := by decide +kernel
theorem d1_19 : decode prog_140_method_7_code 19 = .ok (.iload_n 0, 1) := by decide +kernel
theorem d1_20 : decode prog_140_method_7_code 20 = .ok (.bipush 97, 2) := by decide +kernel
theorem d1_22 : decode prog_140_method_7_code 22 = .ok (.if_icmp .lt 9, 3) := by decide +kernel
theorem d1_25 : decode prog_140_method_7_code 25 = .ok (.iload_n 0, 1) := by decide +kernel
theorem d1_26 : decode prog_140_method_7_code 26 = .ok (.bipush 122, 2) := by decide +kernel
theorem d1_28 : decode prog_140_method_7_code 28 = .ok (.if_icmp .le 15, 3) := by decide +kernel
theorem d1_31 : decode prog_140_method_7_code 31 = .ok (.iload_n 0, 1) := by decide +kernel
theorem d1_32 : decode prog_140_method_7_code 32 = .ok (.bipush 95, 2) := by decide +kernel
theorem d1_34 : decode prog_140_method_7_code 34 = .ok (.if_icmp .eq 9, 3) := by decide +kernel
theorem d1_37 : decode prog_140_method_7_code 37 = .ok (.iload_n 0, 1) := by decide +kernel
theorem d1_38 : decode prog_140_method_7_code 38 = .ok (.bipush 58, 2) := by decide +kernel
theorem d1_40 : decode prog_140_method_7_code 40 = .ok (.if_icmp .ne 7, 3) := by decide +kernel
theorem d1_43 : decode prog_140_method_7_code 43 = .ok (.iconst 1, 1) := by decide +kernel
theorem d1_44 : decode prog_140_method_7_code 44 = .ok (.goto 4, 3) := by decide +kernel
theorem d1_47 : decode prog_140_method_7_code 47 = .ok (.iconst 0, 1) := by decide +kernel
theorem d1_48 : decode prog_140_method_7_code 48 = .ok (.ireturn, 1) := by decide +kernel
theorem d1_49 : decode prog_140_method_7_code 49 = .ok (.iload_n 0, 1) := by decide +kernel
theorem d1_50 : decode prog_140_method_7_code 50 = .ok (.sipush 192, 3) := by decide +kernel
theorem d1_53 : decode prog_140_method_7_code 53 = .ok (.if_icmp .lt 10, 3) := by decide +kernel
theorem d1_56 : decode prog_140_method_7_code 56 = .ok (.iload_n 0, 1) := by decide +kernel
theorem d1_57 : decode prog_140_method_7_code 57 = .ok (.sipush 214, 3) := by decide +kernel
theorem d1_60 : decode prog_140_method_7_code 60 = .ok (.if_icmp .le 150, 3) := by decide +kernel
theorem d1_63 : decode prog_140_method_7_code 63 = .ok (.iload_n 0, 1) := by decide +kernel
theorem d1_64 : decode prog_140_method_7_code 64 = .ok (.sipush 216, 3) := by decide +kernel
theorem d1_67 : decode prog_140_method_7_code 67 = .ok (.if_icmp .lt 10, 3) := by decide +kernel
theorem d1_70 : decode prog_140_method_7_code 70 = .ok (.iload_n 0, 1) := by decide +kernel
theorem d1_71 : decode prog_140_method_7_code 71 = .ok (.sipush 246, 3) := by decide +kernel
theorem d1_74 : decode prog_140_method_7_code 74 = .ok (.if_icmp .le 136, 3) := by decide +kernel
theorem d1_77 : decode prog_140_method_7_code 77 = .ok (.iload_n 0, 1) := by decide +kernel
theorem d1_78 : decode prog_140_method_7_code 78 = .ok (.sipush 248, 3) := by decide +kernel
theorem d1_81 : decode prog_140_method_7_code 81 = .ok (.if_icmp .lt 10, 3) := by decide +kernel
theorem d1_84 : decode prog_140_method_7_code 84 = .ok (.iload_n 0, 1) := by decide +kernel
theorem d1_85 : decode prog_140_method_7_code 85 = .ok (.sipush 767, 3) := by decide +kernel
theorem d1_88 : decode prog_140_method_7_code 88 = .ok (.if_icmp .le 122, 3) := by decide +kernel
theorem d1_91 : decode prog_140_method_7_code 91 = .ok (.iload_n 0, 1) := by decide +kernel
theorem d1_92 : decode prog_140_method_7_code 92 = .ok (.sipush 880, 3) := by decide +kernel
theorem d1_95 : decode prog_140_method_7_code 95 = .ok (.if_icmp .lt 10, 3) := by decide +kernel
theorem d1_98 : decode prog_140_method_7_code 98 = .ok (.iload_n 0, 1) := by decide +kernel
theorem d1_99 : decode prog_140_method_7_code 99 = .ok (.sipush 893, 3) := by decide +kernel
theorem d1_102 : decode prog_140_method_7_code 102 = .ok (.if_icmp .le 108, 3) := by decide +kernel
theorem d1_105 : decode prog_140_method_7_code 105 = .ok (.iload_n 0, 1) := by decide +kernel
theorem d1_106 : decode prog_140_method_7_code 106 = .ok (.sipush 895, 3) := by decide +kernel
theorem d1_109 : decode prog_140_method_7_code 109 = .ok (.if_icmp .lt 10, 3) := by decide +kernel
theorem d1_112 : decode prog_140_method_7_code 112 = .ok (.iload_n 0, 1) := by decide +kernel
theorem d1_113 : decode prog_140_method_7_code 113 = .ok (.sipush 8191, 3) := by decide +kernel
theorem d1_116 : decode prog_140_method_7_code 116 = .ok (.if_icmp .le 94, 3) := by decide +kernel
theorem d1_119 : decode prog_140_method_7_code 119 = .ok (.iload_n 0, 1) := by decide +kernel
theorem d1_120 : decode prog_140_method_7_code 120 = .ok (.sipush 8204, 3) := by decide +kernel
theorem d1_123 : decode prog_140_method_7_code 123 = .ok (.if_icmp .lt 10, 3) := by decide +kernel
theorem d1_126 : decode prog_140_method_7_code 126 = .ok (.iload_n 0, 1) := by decide +kernel
theorem d1_127 : decode prog_140_method_7_code 127 = .ok (.sipush 8205, 3) := by decide +kernel
theorem d1_130 : decode prog_140_method_7_code 130 = .ok (.if_icmp .le 80, 3) := by decide +kernel
theorem d1_133 : decode prog_140_method_7_code 133 = .ok (.iload_n 0, 1) := by decide +kernel
theorem d1_134 : decode prog_140_method_7_code 134 = .ok (.sipush 8304, 3) := by decide +kernel
theorem d1_137 : decode prog_140_method_7_code 137 = .ok (.if_icmp .lt 10, 3) := by decide +kernel
theorem d1_140 : decode prog_140_method_7_code 140 = .ok (.iload_n 0, 1) := by decide +kernel
theorem d1_141 : decode prog_140_method_7_code 141 = .ok (.sipush 8591, 3) := by decide +kernel
theorem d1_144 : decode prog_140_method_7_code 144 = .ok (.if_icmp .le 66, 3) := by decide +kernel
theorem d1_147 : decode prog_140_method_7_code 147 = .ok (.iload_n 0, 1) := by decide +kernel
theorem d1_148 : decode prog_140_method_7_code 148 = .ok (.sipush 11264, 3) := by decide +kernel
theorem d1_151 : decode prog_140_method_7_code 151 = .ok (.if_icmp .lt 10, 3) := by decide +kernel
theorem d1_154 : decode prog_140_method_7_code 154 = .ok (.iload_n 0, 1) := by decide +kernel
theorem d1_155 : decode prog_140_method_7_code 155 = .ok (.sipush 12271, 3) := by decide +kernel
theorem d1_158 : decode prog_140_method_7_code 158 = .ok (.if_icmp .le 52, 3) := by decide +kernel
theorem d1_161 : decode prog_140_method_7_code 161 = .ok (.iload_n 0, 1) := by decide +kernel
theorem d1_162 : decode prog_140_method_7_code 162 = .ok (.sipush 12289, 3) := by decide +kernel
theorem d1_165 : decode prog_140_method_7_code 165 = .ok (.if_icmp .lt 9, 3) := by decide +kernel
theorem d1_168 : decode prog_140_method_7_code 168 = .ok (.iload_n 0, 1) := by decide +kernel
theorem d1_169 : decode prog_140_method_7_code 169 = .ok (.ldc 7, 2) := by decide +kernel
theorem d1_171 : decode prog_140_method_7_code 171 = .ok (.if_icmp .le 39, 3) := by decide +kernel
theorem d1_174 : decode prog_140_method_7_code 174 = .ok (.iload_n 0, 1) := by decide +kernel
theorem d1_175 : decode prog_140_method_7_code 175 = .ok (.ldc 57, 2) := by decide +kernel
theorem d1_177 : decode prog_140_method_7_code 177 = .ok (.if_icmp .lt 9, 3) := by decide +kernel
theorem d1_180 : decode prog_140_method_7_code 180 = .ok (.iload_n 0, 1) := by decide +kernel
theorem d1_181 : decode prog_140_method_7_code 181 = .ok (.ldc 58, 2) := by decide +kernel
theorem d1_183 : decode prog_140_method_7_code 183 = .ok (.if_icmp .le 27, 3) := by decide +kernel
theorem d1_186 : decode prog_140_method_7_code 186 = .ok (.iload_n 0, 1) := by decide +kernel
theorem d1_187 : decode prog_140_method_7_code 187 = .ok (.ldc 59, 2) := by decide +kernel
theorem d1_189 : decode prog_140_method_7_code 189 = .ok (.if_icmp .lt 9, 3) := by decide +kernel
theorem d1_192 : decode prog_140_method_7_code 192 = .ok (.iload_n 0, 1) := by decide +kernel
theorem d1_193 : decode prog_140_method_7_code 193 = .ok (.ldc 9, 2) := by decide +kernel
theorem d1_195 : decode prog_140_method_7_code 195 = .ok (.if_icmp .le 15, 3) := by decide +kernel
theorem d1_198 : decode prog_140_method_7_code 198 = .ok (.iload_n 0, 1) := by decide +kernel
theorem d1_199 : decode prog_140_method_7_code 199 = .ok (.ldc 10, 2) := by decide +kernel
theorem d1_201 : decode prog_140_method_7_code 201 = .ok (.if_icmp .lt 13, 3) := by decide +kernel
theorem d1_204 : decode prog_140_method_7_code 204 = .ok (.iload_n 0, 1) := by decide +kernel
theorem d1_205 : decode prog_140_method_7_code 205 = .ok (.ldc 60, 2) := by decide +kernel
theorem d1_207 : decode prog_140_method_7_code 207 = .ok (.if_icmp .gt 7, 3) := by decide +kernel
theorem d1_210 : decode prog_140_method_7_code 210 = .ok (.iconst 1, 1) := by decide +kernel
theorem d1_211 : decode prog_140_method_7_code 211 = .ok (.goto 4, 3) := by decide +kernel
theorem d1_214 : decode prog_140_method_7_code 214 = .ok (.iconst 0, 1) := by decide +kernel
theorem d1_215 : decode prog_140_method_7_code 215 = .ok (.ireturn, 1) := by decide +kernel
theorem pn_1 : plainName "com/example/amberwire/amberwire/XmlCharacters" = true := by first | (simp [plainName, overriddenIn]; done) | decide +kernel
theorem ef_1 (m : MethodId) (p0 : Int32) : entryFrame m #[(.int p0)] 1 = mkF m 0 #[.val (.int p0)] [] := by first | (simp [entryFrame, mkF, argsToLocals, Value.category]; done) | rfl
def f1_215 (p0 : Int32) (t0 : Int32) : Int32 := (t0 &&& 1)
def f1_214 (p0 : Int32) : Int32 := (f1_215 p0 (0 : Int32))
def f1_210 (p0 : Int32) : Int32 := (f1_215 p0 (1 : Int32))
def f1_198 (p0 : Int32) : Int32 := (if p0 < (65536 : Int32) then (f1_214 p0) else (if (983039 : Int32) < p0 then (f1_214 p0) else (f1_210 p0)))
def f1_186 (p0 : Int32) : Int32 := (if p0 < (65008 : Int32) then (f1_198 p0) else (if (65533 : Int32) < p0 then (f1_198 p0) else (f1_210 p0)))
def f1_174 (p0 : Int32) : Int32 := (if p0 < (63744 : Int32) then (f1_186 p0) else (if (64975 : Int32) < p0 then (f1_186 p0) else (f1_210 p0)))
def f1_161 (p0 : Int32) : Int32 := (if p0 < (12289 : Int32) then (f1_174 p0) else (if (55295 : Int32) < p0 then (f1_174 p0) else (f1_210 p0)))
def f1_147 (p0 : Int32) : Int32 := (if p0 < (11264 : Int32) then (f1_161 p0) else (if (12271 : Int32) < p0 then (f1_161 p0) else (f1_210 p0)))
def f1_133 (p0 : Int32) : Int32 := (if p0 < (8304 : Int32) then (f1_147 p0) else (if (8591 : Int32) < p0 then (f1_147 p0) else (f1_210 p0)))
def f1_119 (p0 : Int32) : Int32 := (if p0 < (8204 : Int32) then (f1_133 p0) else (if (8205 : Int32) < p0 then (f1_133 p0) else (f1_210 p0)))
def f1_105 (p0 : Int32) : Int32 := (if p0 < (895 : Int32) then (f1_119 p0) else (if (8191 : Int32) < p0 then (f1_119 p0) else (f1_210 p0)))
def f1_91 (p0 : Int32) : Int32 := (if p0 < (880 : Int32) then (f1_105 p0) else (if (893 : Int32) < p0 then (f1_105 p0) else (f1_210 p0)))
def f1_77 (p0 : Int32) : Int32 := (if p0 < (248 : Int32) then (f1_91 p0) else (if (767 : Int32) < p0 then (f1_91 p0) else (f1_210 p0)))
def f1_63 (p0 : Int32) : Int32 := (if p0 < (216 : Int32) then (f1_77 p0) else (if (246 : Int32) < p0 then (f1_77 p0) else (f1_210 p0)))
def f1_48 (p0 : Int32) (t0 : Int32) : Int32 := (t0 &&& 1)
def f1_43 (p0 : Int32) : Int32 := (f1_48 p0 (1 : Int32))
def f1_31 (p0 : Int32) : Int32 := (if p0 = (95 : Int32) then (f1_43 p0) else (if p0 = (58 : Int32) then (f1_43 p0) else (f1_48 p0 (0 : Int32))))
def f1_19 (p0 : Int32) : Int32 := (if p0 < (97 : Int32) then (f1_31 p0) else (if (122 : Int32) < p0 then (f1_31 p0) else (f1_43 p0)))
def f1_0 (p0 : Int32) : Int32 := (if p0 < (128 : Int32) then (if p0 < (65 : Int32) then (f1_19 p0) else (if (90 : Int32) < p0 then (f1_19 p0) else (f1_43 p0))) else (if p0 < (192 : Int32) then (f1_63 p0) else (if (214 : Int32) < p0 then (f1_63 p0) else (f1_210 p0))))
def Q1 (p0 : Int32) (h0 : Heap) (n0 : Nat) (v : Option Value) (h : Heap) (L : List Loc) : Prop := v = some (.int (f1_0 p0)) ∧ Fr n0 L ∧ h = h0
set_option maxRecDepth 65536 in
set_option maxHeartbeats 40000000 in
theorem rm1 (l : Launch) (Z : State) (a0 : Array Value) (hw : ∀ d ∈ tables_1, d.before a0 Z = true) (ws : List Jvm.Cond) (p0 : Int32) (h0 : Heap) (n0 : Nat) (Z0 : n0 ≤ h0.size) :
    MetFree l (⟨"com/example/amberwire/amberwire/XmlCharacters", "isNameStart", "(I)Z"⟩ : MethodName) (head1 (Jvm.Cond.code (⟨"com/example/amberwire/amberwire/XmlCharacters", "isNameStart", "(I)Z"⟩ : MethodName) prog_140_method_7_code 1 (some .boolean) :: ws) ({ frames := 0, cells := 0, slots := 0, locals := 0 } : Room)) (fun a U => a = #[(.int p0)] ∧ Z.Warmed39 U.vm ∧ U.heap = h0) (fun _ _ _ _ _ => True) (fun _ U o U' => ∃ v L, o = .returned v ∧ Q1 p0 h0 n0 v U'.heap L ∧ FrameEnd U o U' L ({ frames := 0, cells := 0, slots := 0, locals := 0 } : Room).cells ({ frames := 0, cells := 0, slots := 0, locals := 0 } : Room).slots) := by
  refine MetFree.of_bodySF (plainFor_of_name pn_1) hisR ?_
  intro p e s m args below meth c s₁ Bd hml0 hP hK
  obtain ⟨rfl, hZ, hh⟩ := hP
  have hx := Bd.exec
  have hby := Bd.bytes
  have hml : c.maxLocals = 1 := hml0
  have hlk : meth.locks = false := BodyLoose.notSynchronized Bd
  have hown : s.vm.findClass "com/example/amberwire/amberwire/XmlCharacters" = some m.cls := findClass_of_methodNamed Bd.named
  have X0 : Stand p l e ({ frames := 0, cells := 0, slots := 0, locals := 0 } : Room) s m #[(.int p0)] below meth c s₁ [] 0 0 := Stand.of_body Bd
  have e0 : s₁.heap = h0 := by rw [← hh, Bd.state]; rfl
  have N0 := Fr.nil n0
  have Zs0 : n0 ≤ s₁.heap.size := by rw [e0]; exact Z0
  have pre0 : ∀ t, Steps p.tables e below (s₁.setTop (mkF m 0 #[.val (.int p0)] [])) t → Steps p.tables e below (s₁.setTop (entryFrame m #[(.int p0)] 1)) t := fun t k => castTop (ef_1 m p0) k
  have hnm := (name_of_methodNamed Bd.named Bd.method).1
  have g_215 : ∀ (T : State) (locs : List Loc) (X : Stand p l e ({ frames := 0, cells := 0, slots := 0, locals := 0 } : Room) s m #[(.int p0)] below meth c T locs 0 0) (eT : T.heap = h0) (N : Fr n0 locs) (t0 : Int32)  (r : Int32), r = f1_215 p0 t0 → own_Fin p e below s (fun v h L => v = some (.int r) ∧ Fr n0 L ∧ h = h0) ({ frames := 0, cells := 0, slots := 0, locals := 0 } : Room).cells ({ frames := 0, cells := 0, slots := 0, locals := 0 } : Room).slots (T.setTop (mkF m 215 #[.val (.int p0)] [(.int t0)])) := by
    intro T locs X eT N t0  r hr
    have hr : r = (t0 &&& 1) := hr
    exact own_retZ X hx hlk Bd.returns (hb hby d1_215) ⟨own_someI hr, N, eT⟩ (by decide) (by decide)
  have g_214 : ∀ (T : State) (locs : List Loc) (X : Stand p l e ({ frames := 0, cells := 0, slots := 0, locals := 0 } : Room) s m #[(.int p0)] below meth c T locs 0 0) (eT : T.heap = h0) (N : Fr n0 locs)   (r : Int32), r = f1_214 p0 → own_Fin p e below s (fun v h L => v = some (.int r) ∧ Fr n0 L ∧ h = h0) ({ frames := 0, cells := 0, slots := 0, locals := 0 } : Room).cells ({ frames := 0, cells := 0, slots := 0, locals := 0 } : Room).slots (T.setTop (mkF m 214 #[.val (.int p0)] [])) := by
    intro T locs X eT N   r hr
    have hr : r = (f1_215 p0 (0 : Int32)) := hr
    refine own_pre (B := T.setTop (mkF m 215 #[.val (.int p0)] [(.int (0 : Int32))])) (fun t k => XS.iconst X.here hx rfl (hb hby d1_214) k) ?_
    exact g_215 T _ X eT N (0 : Int32) _ hr
  have g_210 : ∀ (T : State) (locs : List Loc) (X : Stand p l e ({ frames := 0, cells := 0, slots := 0, locals := 0 } : Room) s m #[(.int p0)] below meth c T locs 0 0) (eT : T.heap = h0) (N : Fr n0 locs)   (r : Int32), r = f1_210 p0 → own_Fin p e below s (fun v h L => v = some (.int r) ∧ Fr n0 L ∧ h = h0) ({ frames := 0, cells := 0, slots := 0, locals := 0 } : Room).cells ({ frames := 0, cells := 0, slots := 0, locals := 0 } : Room).slots (T.setTop (mkF m 210 #[.val (.int p0)] [])) := by
    intro T locs X eT N   r hr
    have hr : r = (f1_215 p0 (1 : Int32)) := hr
    refine own_pre (B := T.setTop (mkF m 211 #[.val (.int p0)] [(.int (1 : Int32))])) (fun t k => XS.iconst X.here hx rfl (hb hby d1_210) k) ?_
    refine own_pre (B := T.setTop (mkF m 215 #[.val (.int p0)] [(.int (1 : Int32))])) (fun t k => XS.goto X.here hx rfl (pc0 := 211) (pc' := 215) rfl (hb hby d1_211) (by decide) (by decide) k) ?_
    exact g_215 T _ X eT N (1 : Int32) _ hr
  have g_198 : ∀ (T : State) (locs : List Loc) (X : Stand p l e ({ frames := 0, cells := 0, slots := 0, locals := 0 } : Room) s m #[(.int p0)] below meth c T locs 0 0) (eT : T.heap = h0) (N : Fr n0 locs)   (r : Int32), r = f1_198 p0 → own_Fin p e below s (fun v h L => v = some (.int r) ∧ Fr n0 L ∧ h = h0) ({ frames := 0, cells := 0, slots := 0, locals := 0 } : Room).cells ({ frames := 0, cells := 0, slots := 0, locals := 0 } : Room).slots (T.setTop (mkF m 198 #[.val (.int p0)] [])) := by
    intro T locs X eT N   r hr
    have hr : r = (if p0 < (65536 : Int32) then (f1_214 p0) else (if (983039 : Int32) < p0 then (f1_214 p0) else (f1_210 p0))) := hr
    refine own_pre (B := T.setTop (mkF m 199 #[.val (.int p0)] [(.int p0)])) (fun t k => XS.iloadN X.here hx rfl (hb hby d1_198) rfl k) ?_
    refine own_pre (B := T.setTop (mkF m 201 #[.val (.int p0)] [(.int (65536 : Int32)), (.int p0)])) (fun t k => X.ldcInt hx hown (mvT hZ (hw _ (List.mem_of_getElem? (i := 23) rfl))) (g := (mkF m 199 #[.val (.int p0)] [(.int p0)])) rfl (hb hby d1_199) _ k) ?_
    by_cases hc1 : p0 < (65536 : Int32)
    · have hr2 := hr.trans (if_pos hc1)
      refine own_pre (B := T.setTop (mkF m 214 #[.val (.int p0)] [])) (fun t k => XS.icmpYes X.here hx rfl (pc0 := 201) (pc' := 214) rfl (hb hby d1_201) rfl (tlt hc1).1 (by decide) (by decide) k) ?_
      exact g_214 T _ X eT N  _ hr2
    · have hr3 := hr.trans (if_neg hc1)
      refine own_pre (B := T.setTop (mkF m 204 #[.val (.int p0)] [])) (fun t k => XS.icmpNo X.here hx rfl (hb hby d1_201) rfl (flt hc1).1 k) ?_
      refine own_pre (B := T.setTop (mkF m 205 #[.val (.int p0)] [(.int p0)])) (fun t k => XS.iloadN X.here hx rfl (hb hby d1_204) rfl k) ?_
      refine own_pre (B := T.setTop (mkF m 207 #[.val (.int p0)] [(.int (983039 : Int32)), (.int p0)])) (fun t k => X.ldcInt hx hown (mvT hZ (hw _ (List.mem_of_getElem? (i := 24) rfl))) (g := (mkF m 205 #[.val (.int p0)] [(.int p0)])) rfl (hb hby d1_205) _ k) ?_
      by_cases hc4 : (983039 : Int32) < p0
      · have hr5 := hr3.trans (if_pos hc4)
        refine own_pre (B := T.setTop (mkF m 214 #[.val (.int p0)] [])) (fun t k => XS.icmpYes X.here hx rfl (pc0 := 207) (pc' := 214) rfl (hb hby d1_207) rfl (tlt hc4).2.2.1 (by decide) (by decide) k) ?_
        exact g_214 T _ X eT N  _ hr5
      · have hr6 := hr3.trans (if_neg hc4)
        refine own_pre (B := T.setTop (mkF m 210 #[.val (.int p0)] [])) (fun t k => XS.icmpNo X.here hx rfl (hb hby d1_207) rfl (flt hc4).2.2.1 k) ?_
        exact g_210 T _ X eT N  _ hr6
  have g_186 : ∀ (T : State) (locs : List Loc) (X : Stand p l e ({ frames := 0, cells := 0, slots := 0, locals := 0 } : Room) s m #[(.int p0)] below meth c T locs 0 0) (eT : T.heap = h0) (N : Fr n0 locs)   (r : Int32), r = f1_186 p0 → own_Fin p e below s (fun v h L => v = some (.int r) ∧ Fr n0 L ∧ h = h0) ({ frames := 0, cells := 0, slots := 0, locals := 0 } : Room).cells ({ frames := 0, cells := 0, slots := 0, locals := 0 } : Room).slots (T.setTop (mkF m 186 #[.val (.int p0)] [])) := by
    intro T locs X eT N   r hr
    have hr : r = (if p0 < (65008 : Int32) then (f1_198 p0) else (if (65533 : Int32) < p0 then (f1_198 p0) else (f1_210 p0))) := hr
    refine own_pre (B := T.setTop (mkF m 187 #[.val (.int p0)] [(.int p0)])) (fun t k => XS.iloadN X.here hx rfl (hb hby d1_186) rfl k) ?_
    refine own_pre (B := T.setTop (mkF m 189 #[.val (.int p0)] [(.int (65008 : Int32)), (.int p0)])) (fun t k => X.ldcInt hx hown (mvT hZ (hw _ (List.mem_of_getElem? (i := 21) rfl))) (g := (mkF m 187 #[.val (.int p0)] [(.int p0)])) rfl (hb hby d1_187) _ k) ?_
    by_cases hc1 : p0 < (65008 : Int32)
    · have hr2 := hr.trans (if_pos hc1)
      refine own_pre (B := T.setTop (mkF m 198 #[.val (.int p0)] [])) (fun t k => XS.icmpYes X.here hx rfl (pc0 := 189) (pc' := 198) rfl (hb hby d1_189) rfl (tlt hc1).1 (by decide) (by decide) k) ?_
      exact g_198 T _ X eT N  _ hr2
    · have hr3 := hr.trans (if_neg hc1)
      refine own_pre (B := T.setTop (mkF m 192 #[.val (.int p0)] [])) (fun t k => XS.icmpNo X.here hx rfl (hb hby d1_189) rfl (flt hc1).1 k) ?_
      refine own_pre (B := T.setTop (mkF m 193 #[.val (.int p0)] [(.int p0)])) (fun t k => XS.iloadN X.here hx rfl (hb hby d1_192) rfl k) ?_
      refine own_pre (B := T.setTop (mkF m 195 #[.val (.int p0)] [(.int (65533 : Int32)), (.int p0)])) (fun t k => X.ldcInt hx hown (mvT hZ (hw _ (List.mem_of_getElem? (i := 22) rfl))) (g := (mkF m 193 #[.val (.int p0)] [(.int p0)])) rfl (hb hby d1_193) _ k) ?_
      by_cases hc4 : (65533 : Int32) < p0
      · have hr5 := hr3.trans (if_pos hc4)
        refine own_pre (B := T.setTop (mkF m 198 #[.val (.int p0)] [])) (fun t k => XS.icmpNo X.here hx rfl (hb hby d1_195) rfl (tlt hc4).2.2.2 k) ?_
        exact g_198 T _ X eT N  _ hr5
      · have hr6 := hr3.trans (if_neg hc4)
        refine own_pre (B := T.setTop (mkF m 210 #[.val (.int p0)] [])) (fun t k => XS.icmpYes X.here hx rfl (pc0 := 195) (pc' := 210) rfl (hb hby d1_195) rfl (flt hc4).2.2.2 (by decide) (by decide) k) ?_
        exact g_210 T _ X eT N  _ hr6
  have g_174 : ∀ (T : State) (locs : List Loc) (X : Stand p l e ({ frames := 0, cells := 0, slots := 0, locals := 0 } : Room) s m #[(.int p0)] below meth c T locs 0 0) (eT : T.heap = h0) (N : Fr n0 locs)   (r : Int32), r = f1_174 p0 → own_Fin p e below s (fun v h L => v = some (.int r) ∧ Fr n0 L ∧ h = h0) ({ frames := 0, cells := 0, slots := 0, locals := 0 } : Room).cells ({ frames := 0, cells := 0, slots := 0, locals := 0 } : Room).slots (T.setTop (mkF m 174 #[.val (.int p0)] [])) := by
    intro T locs X eT N   r hr
    have hr : r = (if p0 < (63744 : Int32) then (f1_186 p0) else (if (64975 : Int32) < p0 then (f1_186 p0) else (f1_210 p0))) := hr
    refine own_pre (B := T.setTop (mkF m 175 #[.val (.int p0)] [(.int p0)])) (fun t k => XS.iloadN X.here hx rfl (hb hby d1_174) rfl k) ?_
    refine own_pre (B := T.setTop (mkF m 177 #[.val (.int p0)] [(.int (63744 : Int32)), (.int p0)])) (fun t k => X.ldcInt hx hown (mvT hZ (hw _ (List.mem_of_getElem? (i := 19) rfl))) (g := (mkF m 175 #[.val (.int p0)] [(.int p0)])) rfl (hb hby d1_175) _ k) ?_
    by_cases hc1 : p0 < (63744 : Int32)
    · have hr2 := hr.trans (if_pos hc1)
      refine own_pre (B := T.setTop (mkF m 186 #[.val (.int p0)] [])) (fun t k => XS.icmpYes X.here hx rfl (pc0 := 177) (pc' := 186) rfl (hb hby d1_177) rfl (tlt hc1).1 (by decide) (by decide) k) ?_
      exact g_186 T _ X eT N  _ hr2
    · have hr3 := hr.trans (if_neg hc1)
      refine own_pre (B := T.setTop (mkF m 180 #[.val (.int p0)] [])) (fun t k => XS.icmpNo X.here hx rfl (hb hby d1_177) rfl (flt hc1).1 k) ?_
      refine own_pre (B := T.setTop (mkF m 181 #[.val (.int p0)] [(.int p0)])) (fun t k => XS.iloadN X.here hx rfl (hb hby d1_180) rfl k) ?_
      refine own_pre (B := T.setTop (mkF m 183 #[.val (.int p0)] [(.int (64975 : Int32)), (.int p0)])) (fun t k => X.ldcInt hx hown (mvT hZ (hw _ (List.mem_of_getElem? (i := 20) rfl))) (g := (mkF m 181 #[.val (.int p0)] [(.int p0)])) rfl (hb hby d1_181) _ k) ?_
      by_cases hc4 : (64975 : Int32) < p0
      · have hr5 := hr3.trans (if_pos hc4)
        refine own_pre (B := T.setTop (mkF m 186 #[.val (.int p0)] [])) (fun t k => XS.icmpNo X.here hx rfl (hb hby d1_183) rfl (tlt hc4).2.2.2 k) ?_
        exact g_186 T _ X eT N  _ hr5
      · have hr6 := hr3.trans (if_neg hc4)
        refine own_pre (B := T.setTop (mkF m 210 #[.val (.int p0)] [])) (fun t k => XS.icmpYes X.here hx rfl (pc0 := 183) (pc' := 210) rfl (hb hby d1_183) rfl (flt hc4).2.2.2 (by decide) (by decide) k) ?_
        exact g_210 T _ X eT N  _ hr6
  have g_161 : ∀ (T : State) (locs : List Loc) (X : Stand p l e ({ frames := 0, cells := 0, slots := 0, locals := 0 } : Room) s m #[(.int p0)] below meth c T locs 0 0) (eT : T.heap = h0) (N : Fr n0 locs)   (r : Int32), r = f1_161 p0 → own_Fin p e below s (fun v h L => v = some (.int r) ∧ Fr n0 L ∧ h = h0) ({ frames := 0, cells := 0, slots := 0, locals := 0 } : Room).cells ({ frames := 0, cells := 0, slots := 0, locals := 0 } : Room).slots (T.setTop (mkF m 161 #[.val (.int p0)] [])) := by
    intro T locs X eT N   r hr
    have hr : r = (if p0 < (12289 : Int32) then (f1_174 p0) else (if (55295 : Int32) < p0 then (f1_174 p0) else (f1_210 p0))) := hr
    refine own_pre (B := T.setTop (mkF m 162 #[.val (.int p0)] [(.int p0)])) (fun t k => XS.iloadN X.here hx rfl (hb hby d1_161) rfl k) ?_
    refine own_pre (B := T.setTop (mkF m 165 #[.val (.int p0)] [(.int (12289 : Int32)), (.int p0)])) (fun t k => XS.sipush X.here hx rfl (hb hby d1_162) k) ?_
    by_cases hc1 : p0 < (12289 : Int32)
    · have hr2 := hr.trans (if_pos hc1)
      refine own_pre (B := T.setTop (mkF m 174 #[.val (.int p0)] [])) (fun t k => XS.icmpYes X.here hx rfl (pc0 := 165) (pc' := 174) rfl (hb hby d1_165) rfl (tlt hc1).1 (by decide) (by decide) k) ?_
      exact g_174 T _ X eT N  _ hr2
    · have hr3 := hr.trans (if_neg hc1)
      refine own_pre (B := T.setTop (mkF m 168 #[.val (.int p0)] [])) (fun t k => XS.icmpNo X.here hx rfl (hb hby d1_165) rfl (flt hc1).1 k) ?_
      refine own_pre (B := T.setTop (mkF m 169 #[.val (.int p0)] [(.int p0)])) (fun t k => XS.iloadN X.here hx rfl (hb hby d1_168) rfl k) ?_
      refine own_pre (B := T.setTop (mkF m 171 #[.val (.int p0)] [(.int (55295 : Int32)), (.int p0)])) (fun t k => X.ldcInt hx hown (mvT hZ (hw _ (List.mem_of_getElem? (i := 18) rfl))) (g := (mkF m 169 #[.val (.int p0)] [(.int p0)])) rfl (hb hby d1_169) _ k) ?_
      by_cases hc4 : (55295 : Int32) < p0
      · have hr5 := hr3.trans (if_pos hc4)
        refine own_pre (B := T.setTop (mkF m 174 #[.val (.int p0)] [])) (fun t k => XS.icmpNo X.here hx rfl (hb hby d1_171) rfl (tlt hc4).2.2.2 k) ?_
        exact g_174 T _ X eT N  _ hr5
      · have hr6 := hr3.trans (if_neg hc4)
        refine own_pre (B := T.setTop (mkF m 210 #[.val (.int p0)] [])) (fun t k => XS.icmpYes X.here hx rfl (pc0 := 171) (pc' := 210) rfl (hb hby d1_171) rfl (flt hc4).2.2.2 (by decide) (by decide) k) ?_
        exact g_210 T _ X eT N  _ hr6
  have g_147 : ∀ (T : State) (locs : List Loc) (X : Stand p l e ({ frames := 0, cells := 0, slots := 0, locals := 0 } : Room) s m #[(.int p0)] below meth c T locs 0 0) (eT : T.heap = h0) (N : Fr n0 locs)   (r : Int32), r = f1_147 p0 → own_Fin p e below s (fun v h L => v = some (.int r) ∧ Fr n0 L ∧ h = h0) ({ frames := 0, cells := 0, slots := 0, locals := 0 } : Room).cells ({ frames := 0, cells := 0, slots := 0, locals := 0 } : Room).slots (T.setTop (mkF m 147 #[.val (.int p0)] [])) := by
    intro T locs X eT N   r hr
    have hr : r = (if p0 < (11264 : Int32) then (f1_161 p0) else (if (12271 : Int32) < p0 then (f1_161 p0) else (f1_210 p0))) := hr
    refine own_pre (B := T.setTop (mkF m 148 #[.val (.int p0)] [(.int p0)])) (fun t k => XS.iloadN X.here hx rfl (hb hby d1_147) rfl k) ?_
    refine own_pre (B := T.setTop (mkF m 151 #[.val (.int p0)] [(.int (11264 : Int32)), (.int p0)])) (fun t k => XS.sipush X.here hx rfl (hb hby d1_148) k) ?_
    by_cases hc1 : p0 < (11264 : Int32)
    · have hr2 := hr.trans (if_pos hc1)
      refine own_pre (B := T.setTop (mkF m 161 #[.val (.int p0)] [])) (fun t k => XS.icmpYes X.here hx rfl (pc0 := 151) (pc' := 161) rfl (hb hby d1_151) rfl (tlt hc1).1 (by decide) (by decide) k) ?_
      exact g_161 T _ X eT N  _ hr2
    · have hr3 := hr.trans (if_neg hc1)
      refine own_pre (B := T.setTop (mkF m 154 #[.val (.int p0)] [])) (fun t k => XS.icmpNo X.here hx rfl (hb hby d1_151) rfl (flt hc1).1 k) ?_
      refine own_pre (B := T.setTop (mkF m 155 #[.val (.int p0)] [(.int p0)])) (fun t k => XS.iloadN X.here hx rfl (hb hby d1_154) rfl k) ?_
      refine own_pre (B := T.setTop (mkF m 158 #[.val (.int p0)] [(.int (12271 : Int32)), (.int p0)])) (fun t k => XS.sipush X.here hx rfl (hb hby d1_155) k) ?_
      by_cases hc4 : (12271 : Int32) < p0
      · have hr5 := hr3.trans (if_pos hc4)
        refine own_pre (B := T.setTop (mkF m 161 #[.val (.int p0)] [])) (fun t k => XS.icmpNo X.here hx rfl (hb hby d1_158) rfl (tlt hc4).2.2.2 k) ?_
        exact g_161 T _ X eT N  _ hr5
      · have hr6 := hr3.trans (if_neg hc4)
        refine own_pre (B := T.setTop (mkF m 210 #[.val (.int p0)] [])) (fun t k => XS.icmpYes X.here hx rfl (pc0 := 158) (pc' := 210) rfl (hb hby d1_158) rfl (flt hc4).2.2.2 (by decide) (by decide) k) ?_
        exact g_210 T _ X eT N  _ hr6
  have g_133 : ∀ (T : State) (locs : List Loc) (X : Stand p l e ({ frames := 0, cells := 0, slots := 0, locals := 0 } : Room) s m #[(.int p0)] below meth c T locs 0 0) (eT : T.heap = h0) (N : Fr n0 locs)   (r : Int32), r = f1_133 p0 → own_Fin p e below s (fun v h L => v = some (.int r) ∧ Fr n0 L ∧ h = h0) ({ frames := 0, cells := 0, slots := 0, locals := 0 } : Room).cells ({ frames := 0, cells := 0, slots := 0, locals := 0 } : Room).slots (T.setTop (mkF m 133 #[.val (.int p0)] [])) := by
    intro T locs X eT N   r hr
    have hr : r = (if p0 < (8304 : Int32) then (f1_147 p0) else (if (8591 : Int32) < p0 then (f1_147 p0) else (f1_210 p0))) := hr
    refine own_pre (B := T.setTop (mkF m 134 #[.val (.int p0)] [(.int p0)])) (fun t k => XS.iloadN X.here hx rfl (hb hby d1_133) rfl k) ?_
    refine own_pre (B := T.setTop (mkF m 137 #[.val (.int p0)] [(.int (8304 : Int32)), (.int p0)])) (fun t k => XS.sipush X.here hx rfl (hb hby d1_134) k) ?_
    by_cases hc1 : p0 < (8304 : Int32)
    · have hr2 := hr.trans (if_pos hc1)
      refine own_pre (B := T.setTop (mkF m 147 #[.val (.int p0)] [])) (fun t k => XS.icmpYes X.here hx rfl (pc0 := 137) (pc' := 147) rfl (hb hby d1_137) rfl (tlt hc1).1 (by decide) (by decide) k) ?_
      exact g_147 T _ X eT N  _ hr2
    · have hr3 := hr.trans (if_neg hc1)
      refine own_pre (B := T.setTop (mkF m 140 #[.val (.int p0)] [])) (fun t k => XS.icmpNo X.here hx rfl (hb hby d1_137) rfl (flt hc1).1 k) ?_
      refine own_pre (B := T.setTop (mkF m 141 #[.val (.int p0)] [(.int p0)])) (fun t k => XS.iloadN X.here hx rfl (hb hby d1_140) rfl k) ?_
      refine own_pre (B := T.setTop (mkF m 144 #[.val (.int p0)] [(.int (8591 : Int32)), (.int p0)])) (fun t k => XS.sipush X.here hx rfl (hb hby d1_141) k) ?_
      by_cases hc4 : (8591 : Int32) < p0
      · have hr5 := hr3.trans (if_pos hc4)
        refine own_pre (B := T.setTop (mkF m 147 #[.val (.int p0)] [])) (fun t k => XS.icmpNo X.here hx rfl (hb hby d1_144) rfl (tlt hc4).2.2.2 k) ?_
        exact g_147 T _ X eT N  _ hr5
      · have hr6 := hr3.trans (if_neg hc4)
        refine own_pre (B := T.setTop (mkF m 210 #[.val (.int p0)] [])) (fun t k => XS.icmpYes X.here hx rfl (pc0 := 144) (pc' := 210) rfl (hb hby d1_144) rfl (flt hc4).2.2.2 (by decide) (by decide) k) ?_
        exact g_210 T _ X eT N  _ hr6
  have g_119 : ∀ (T : State) (locs : List Loc) (X : Stand p l e ({ frames := 0, cells := 0, slots := 0, locals := 0 } : Room) s m #[(.int p0)] below meth c T locs 0 0) (eT : T.heap = h0) (N : Fr n0 locs)   (r : Int32), r = f1_119 p0 → own_Fin p e below s (fun v h L => v = some (.int r) ∧ Fr n0 L ∧ h = h0) ({ frames := 0, cells := 0, slots := 0, locals := 0 } : Room).cells ({ frames := 0, cells := 0, slots := 0, locals := 0 } : Room).slots (T.setTop (mkF m 119 #[.val (.int p0)] [])) := by
    intro T locs X eT N   r hr
    have hr : r = (if p0 < (8204 : Int32) then (f1_133 p0) else (if (8205 : Int32) < p0 then (f1_133 p0) else (f1_210 p0))) := hr
    refine own_pre (B := T.setTop (mkF m 120 #[.val (.int p0)] [(.int p0)])) (fun t k => XS.iloadN X.here hx rfl (hb hby d1_119) rfl k) ?_
    refine own_pre (B := T.setTop (mkF m 123 #[.val (.int p0)] [(.int (8204 : Int32)), (.int p0)])) (fun t k => XS.sipush X.here hx rfl (hb hby d1_120) k) ?_
    by_cases hc1 : p0 < (8204 : Int32)
    · have hr2 := hr.trans (if_pos hc1)
      refine own_pre (B := T.setTop (mkF m 133 #[.val (.int p0)] [])) (fun t k => XS.icmpYes X.here hx rfl (pc0 := 123) (pc' := 133) rfl (hb hby d1_123) rfl (tlt hc1).1 (by decide) (by decide) k) ?_
      exact g_133 T _ X eT N  _ hr2
    · have hr3 := hr.trans (if_neg hc1)
      refine own_pre (B := T.setTop (mkF m 126 #[.val (.int p0)] [])) (fun t k => XS.icmpNo X.here hx rfl (hb hby d1_123) rfl (flt hc1).1 k) ?_
      refine own_pre (B := T.setTop (mkF m 127 #[.val (.int p0)] [(.int p0)])) (fun t k => XS.iloadN X.here hx rfl (hb hby d1_126) rfl k) ?_
      refine own_pre (B := T.setTop (mkF m 130 #[.val (.int p0)] [(.int (8205 : Int32)), (.int p0)])) (fun t k => XS.sipush X.here hx rfl (hb hby d1_127) k) ?_
      by_cases hc4 : (8205 : Int32) < p0
      · have hr5 := hr3.trans (if_pos hc4)
        refine own_pre (B := T.setTop (mkF m 133 #[.val (.int p0)] [])) (fun t k => XS.icmpNo X.here hx rfl (hb hby d1_130) rfl (tlt hc4).2.2.2 k) ?_
        exact g_133 T _ X eT N  _ hr5
      · have hr6 := hr3.trans (if_neg hc4)
        refine own_pre (B := T.setTop (mkF m 210 #[.val (.int p0)] [])) (fun t k => XS.icmpYes X.here hx rfl (pc0 := 130) (pc' := 210) rfl (hb hby d1_130) rfl (flt hc4).2.2.2 (by decide) (by decide) k) ?_
        exact g_210 T _ X eT N  _ hr6
  have g_105 : ∀ (T : State) (locs : List Loc) (X : Stand p l e ({ frames := 0, cells := 0, slots := 0, locals := 0 } : Room) s m #[(.int p0)] below meth c T locs 0 0) (eT : T.heap = h0) (N : Fr n0 locs)   (r : Int32), r = f1_105 p0 → own_Fin p e below s (fun v h L => v = some (.int r) ∧ Fr n0 L ∧ h = h0) ({ frames := 0, cells := 0, slots := 0, locals := 0 } : Room).cells ({ frames := 0, cells := 0, slots := 0, locals := 0 } : Room).slots (T.setTop (mkF m 105 #[.val (.int p0)] [])) := by
    intro T locs X eT N   r hr
    have hr : r = (if p0 < (895 : Int32) then (f1_119 p0) else (if (8191 : Int32) < p0 then (f1_119 p0) else (f1_210 p0))) := hr
    refine own_pre (B := T.setTop (mkF m 106 #[.val (.int p0)] [(.int p0)])) (fun t k => XS.iloadN X.here hx rfl (hb hby d1_105) rfl k) ?_
    refine own_pre (B := T.setTop (mkF m 109 #[.val (.int p0)] [(.int (895 : Int32)), (.int p0)])) (fun t k => XS.sipush X.here hx rfl (hb hby d1_106) k) ?_
    by_cases hc1 : p0 < (895 : Int32)
    · have hr2 := hr.trans (if_pos hc1)
      refine own_pre (B := T.setTop (mkF m 119 #[.val (.int p0)] [])) (fun t k => XS.icmpYes X.here hx rfl (pc0 := 109) (pc' := 119) rfl (hb hby d1_109) rfl (tlt hc1).1 (by decide) (by decide) k) ?_
      exact g_119 T _ X eT N  _ hr2
    · have hr3 := hr.trans (if_neg hc1)
      refine own_pre (B := T.setTop (mkF m 112 #[.val (.int p0)] [])) (fun t k => XS.icmpNo X.here hx rfl (hb hby d1_109) rfl (flt hc1).1 k) ?_
      refine own_pre (B := T.setTop (mkF m 113 #[.val (.int p0)] [(.int p0)])) (fun t k => XS.iloadN X.here hx rfl (hb hby d1_112) rfl k) ?_
      refine own_pre (B := T.setTop (mkF m 116 #[.val (.int p0)] [(.int (8191 : Int32)), (.int p0)])) (fun t k => XS.sipush X.here hx rfl (hb hby d1_113) k) ?_
      by_cases hc4 : (8191 : Int32) < p0
      · have hr5 := hr3.trans (if_pos hc4)
        refine own_pre (B := T.setTop (mkF m 119 #[.val (.int p0)] [])) (fun t k => XS.icmpNo X.here hx rfl (hb hby d1_116) rfl (tlt hc4).2.2.2 k) ?_
        exact g_119 T _ X eT N  _ hr5
      · have hr6 := hr3.trans (if_neg hc4)
        refine own_pre (B := T.setTop (mkF m 210 #[.val (.int p0)] [])) (fun t k => XS.icmpYes X.here hx rfl (pc0 := 116) (pc' := 210) rfl (hb hby d1_116) rfl (flt hc4).2.2.2 (by decide) (by decide) k) ?_
        exact g_210 T _ X eT N  _ hr6
  have g_91 : ∀ (T : State) (locs : List Loc) (X : Stand p l e ({ frames := 0, cells := 0, slots := 0, locals := 0 } : Room) s m #[(.int p0)] below meth c T locs 0 0) (eT : T.heap = h0) (N : Fr n0 locs)   (r : Int32), r = f1_91 p0 → own_Fin p e below s (fun v h L => v = some (.int r) ∧ Fr n0 L ∧ h = h0) ({ frames := 0, cells := 0, slots := 0, locals := 0 } : Room).cells ({ frames := 0, cells := 0, slots := 0, locals := 0 } : Room).slots (T.setTop (mkF m 91 #[.val (.int p0)] [])) := by
    intro T locs X eT N   r hr
    have hr : r = (if p0 < (880 : Int32) then (f1_105 p0) else (if (893 : Int32) < p0 then (f1_105 p0) else (f1_210 p0))) := hr
    refine own_pre (B := T.setTop (mkF m 92 #[.val (.int p0)] [(.int p0)])) (fun t k => XS.iloadN X.here hx rfl (hb hby d1_91) rfl k) ?_
    refine own_pre (B := T.setTop (mkF m 95 #[.val (.int p0)] [(.int (880 : Int32)), (.int p0)])) (fun t k => XS.sipush X.here hx rfl (hb hby d1_92) k) ?_
    by_cases hc1 : p0 < (880 : Int32)
    · have hr2 := hr.trans (if_pos hc1)
      refine own_pre (B := T.setTop (mkF m 105 #[.val (.int p0)] [])) (fun t k => XS.icmpYes X.here hx rfl (pc0 := 95) (pc' := 105) rfl (hb hby d1_95) rfl (tlt hc1).1 (by decide) (by decide) k) ?_
      exact g_105 T _ X eT N  _ hr2
    · have hr3 := hr.trans (if_neg hc1)
      refine own_pre (B := T.setTop (mkF m 98 #[.val (.int p0)] [])) (fun t k => XS.icmpNo X.here hx rfl (hb hby d1_95) rfl (flt hc1).1 k) ?_
      refine own_pre (B := T.setTop (mkF m 99 #[.val (.int p0)] [(.int p0)])) (fun t k => XS.iloadN X.here hx rfl (hb hby d1_98) rfl k) ?_
      refine own_pre (B := T.setTop (mkF m 102 #[.val (.int p0)] [(.int (893 : Int32)), (.int p0)])) (fun t k => XS.sipush X.here hx rfl (hb hby d1_99) k) ?_
      by_cases hc4 : (893 : Int32) < p0
      · have hr5 := hr3.trans (if_pos hc4)
        refine own_pre (B := T.setTop (mkF m 105 #[.val (.int p0)] [])) (fun t k => XS.icmpNo X.here hx rfl (hb hby d1_102) rfl (tlt hc4).2.2.2 k) ?_
        exact g_105 T _ X eT N  _ hr5
      · have hr6 := hr3.trans (if_neg hc4)
        refine own_pre (B := T.setTop (mkF m 210 #[.val (.int p0)] [])) (fun t k => XS.icmpYes X.here hx rfl (pc0 := 102) (pc' := 210) rfl (hb hby d1_102) rfl (flt hc4).2.2.2 (by decide) (by decide) k) ?_
        exact g_210 T _ X eT N  _ hr6
  have g_77 : ∀ (T : State) (locs : List Loc) (X : Stand p l e ({ frames := 0, cells := 0, slots := 0, locals := 0 } : Room) s m #[(.int p0)] below meth c T locs 0 0) (eT : T.heap = h0) (N : Fr n0 locs)   (r : Int32), r = f1_77 p0 → own_Fin p e below s (fun v h L => v = some (.int r) ∧ Fr n0 L ∧ h = h0) ({ frames := 0, cells := 0, slots := 0, locals := 0 } : Room).cells ({ frames := 0, cells := 0, slots := 0, locals := 0 } : Room).slots (T.setTop (mkF m 77 #[.val (.int p0)] [])) := by
    intro T locs X eT N   r hr
    have hr : r = (if p0 < (248 : Int32) then (f1_91 p0) else (if (767 : Int32) < p0 then (f1_91 p0) else (f1_210 p0))) := hr
    refine own_pre (B := T.setTop (mkF m 78 #[.val (.int p0)] [(.int p0)])) (fun t k => XS.iloadN X.here hx rfl (hb hby d1_77) rfl k) ?_
    refine own_pre (B := T.setTop (mkF m 81 #[.val (.int p0)] [(.int (248 : Int32)), (.int p0)])) (fun t k => XS.sipush X.here hx rfl (hb hby d1_78) k) ?_
    by_cases hc1 : p0 < (248 : Int32)
    · have hr2 := hr.trans (if_pos hc1)
      refine own_pre (B := T.setTop (mkF m 91 #[.val (.int p0)] [])) (fun t k => XS.icmpYes X.here hx rfl (pc0 := 81) (pc' := 91) rfl (hb hby d1_81) rfl (tlt hc1).1 (by decide) (by decide) k) ?_
      exact g_91 T _ X eT N  _ hr2
    · have hr3 := hr.trans (if_neg hc1)
      refine own_pre (B := T.setTop (mkF m 84 #[.val (.int p0)] [])) (fun t k => XS.icmpNo X.here hx rfl (hb hby d1_81) rfl (flt hc1).1 k) ?_
      refine own_pre (B := T.setTop (mkF m 85 #[.val (.int p0)] [(.int p0)])) (fun t k => XS.iloadN X.here hx rfl (hb hby d1_84) rfl k) ?_
      refine own_pre (B := T.setTop (mkF m 88 #[.val (.int p0)] [(.int (767 : Int32)), (.int p0)])) (fun t k => XS.sipush X.here hx rfl (hb hby d1_85) k) ?_
      by_cases hc4 : (767 : Int32) < p0
      · have hr5 := hr3.trans (if_pos hc4)
        refine own_pre (B := T.setTop (mkF m 91 #[.val (.int p0)] [])) (fun t k => XS.icmpNo X.here hx rfl (hb hby d1_88) rfl (tlt hc4).2.2.2 k) ?_
        exact g_91 T _ X eT N  _ hr5
      · have hr6 := hr3.trans (if_neg hc4)
        refine own_pre (B := T.setTop (mkF m 210 #[.val (.int p0)] [])) (fun t k => XS.icmpYes X.here hx rfl (pc0 := 88) (pc' := 210) rfl (hb hby d1_88) rfl (flt hc4).2.2.2 (by decide) (by decide) k) ?_
        exact g_210 T _ X eT N  _ hr6
  have g_63 : ∀ (T : State) (locs : List Loc) (X : Stand p l e ({ frames := 0, cells := 0, slots := 0, locals := 0 } : Room) s m #[(.int p0)] below meth c T locs 0 0) (eT : T.heap = h0) (N : Fr n0 locs)   (r : Int32), r = f1_63 p0 → own_Fin p e below s (fun v h L => v = some (.int r) ∧ Fr n0 L ∧ h = h0) ({ frames := 0, cells := 0, slots := 0, locals := 0 } : Room).cells ({ frames := 0, cells := 0, slots := 0, locals := 0 } : Room).slots (T.setTop (mkF m 63 #[.val (.int p0)] [])) := by
    intro T locs X eT N   r hr
    have hr : r = (if p0 < (216 : Int32) then (f1_77 p0) else (if (246 : Int32) < p0 then (f1_77 p0) else (f1_210 p0))) := hr
    refine own_pre (B := T.setTop (mkF m 64 #[.val (.int p0)] [(.int p0)])) (fun t k => XS.iloadN X.here hx rfl (hb hby d1_63) rfl k) ?_
    refine own_pre (B := T.setTop (mkF m 67 #[.val (.int p0)] [(.int (216 : Int32)), (.int p0)])) (fun t k => XS.sipush X.here hx rfl (hb hby d1_64) k) ?_
    by_cases hc1 : p0 < (216 : Int32)
    · have hr2 := hr.trans (if_pos hc1)
      refine own_pre (B := T.setTop (mkF m 77 #[.val (.int p0)] [])) (fun t k => XS.icmpYes X.here hx rfl (pc0 := 67) (pc' := 77) rfl (hb hby d1_67) rfl (tlt hc1).1 (by decide) (by decide) k) ?_
      exact g_77 T _ X eT N  _ hr2
    · have hr3 := hr.trans (if_neg hc1)
      refine own_pre (B := T.setTop (mkF m 70 #[.val (.int p0)] [])) (fun t k => XS.icmpNo X.here hx rfl (hb hby d1_67) rfl (flt hc1).1 k) ?_
      refine own_pre (B := T.setTop (mkF m 71 #[.val (.int p0)] [(.int p0)])) (fun t k => XS.iloadN X.here hx rfl (hb hby d1_70) rfl k) ?_
      refine own_pre (B := T.setTop (mkF m 74 #[.val (.int p0)] [(.int (246 : Int32)), (.int p0)])) (fun t k => XS.sipush X.here hx rfl (hb hby d1_71) k) ?_
      by_cases hc4 : (246 : Int32) < p0
      · have hr5 := hr3.trans (if_pos hc4)
        refine own_pre (B := T.setTop (mkF m 77 #[.val (.int p0)] [])) (fun t k => XS.icmpNo X.here hx rfl (hb hby d1_74) rfl (tlt hc4).2.2.2 k) ?_
        exact g_77 T _ X eT N  _ hr5
      · have hr6 := hr3.trans (if_neg hc4)
        refine own_pre (B := T.setTop (mkF m 210 #[.val (.int p0)] [])) (fun t k => XS.icmpYes X.here hx rfl (pc0 := 74) (pc' := 210) rfl (hb hby d1_74) rfl (flt hc4).2.2.2 (by decide) (by decide) k) ?_
        exact g_210 T _ X eT N  _ hr6
  have g_48 : ∀ (T : State) (locs : List Loc) (X : Stand p l e ({ frames := 0, cells := 0, slots := 0, locals := 0 } : Room) s m #[(.int p0)] below meth c T locs 0 0) (eT : T.heap = h0) (N : Fr n0 locs) (t0 : Int32)  (r : Int32), r = f1_48 p0 t0 → own_Fin p e below s (fun v h L => v = some (.int r) ∧ Fr n0 L ∧ h = h0) ({ frames := 0, cells := 0, slots := 0, locals := 0 } : Room).cells ({ frames := 0, cells := 0, slots := 0, locals := 0 } : Room).slots (T.setTop (mkF m 48 #[.val (.int p0)] [(.int t0)])) := by
    intro T locs X eT N t0  r hr
    have hr : r = (t0 &&& 1) := hr
    exact own_retZ X hx hlk Bd.returns (hb hby d1_48) ⟨own_someI hr, N, eT⟩ (by decide) (by decide)
  have g_43 : ∀ (T : State) (locs : List Loc) (X : Stand p l e ({ frames := 0, cells := 0, slots := 0, locals := 0 } : Room) s m #[(.int p0)] below meth c T locs 0 0) (eT : T.heap = h0) (N : Fr n0 locs)   (r : Int32), r = f1_43 p0 → own_Fin p e below s (fun v h L => v = some (.int r) ∧ Fr n0 L ∧ h = h0) ({ frames := 0, cells := 0, slots := 0, locals := 0 } : Room).cells ({ frames := 0, cells := 0, slots := 0, locals := 0 } : Room).slots (T.setTop (mkF m 43 #[.val (.int p0)] [])) := by
    intro T locs X eT N   r hr
    have hr : r = (f1_48 p0 (1 : Int32)) := hr
    refine own_pre (B := T.setTop (mkF m 44 #[.val (.int p0)] [(.int (1 : Int32))])) (fun t k => XS.iconst X.here hx rfl (hb hby d1_43) k) ?_
    refine own_pre (B := T.setTop (mkF m 48 #[.val (.int p0)] [(.int (1 : Int32))])) (fun t k => XS.goto X.here hx rfl (pc0 := 44) (pc' := 48) rfl (hb hby d1_44) (by decide) (by decide) k) ?_
    exact g_48 T _ X eT N (1 : Int32) _ hr
  have g_31 : ∀ (T : State) (locs : List Loc) (X : Stand p l e ({ frames := 0, cells := 0, slots := 0, locals := 0 } : Room) s m #[(.int p0)] below meth c T locs 0 0) (eT : T.heap = h0) (N : Fr n0 locs)   (r : Int32), r = f1_31 p0 → own_Fin p e below s (fun v h L => v = some (.int r) ∧ Fr n0 L ∧ h = h0) ({ frames := 0, cells := 0, slots := 0, locals := 0 } : Room).cells ({ frames := 0, cells := 0, slots := 0, locals := 0 } : Room).slots (T.setTop (mkF m 31 #[.val (.int p0)] [])) := by
    intro T locs X eT N   r hr
    have hr : r = (if p0 = (95 : Int32) then (f1_43 p0) else (if p0 = (58 : Int32) then (f1_43 p0) else (f1_48 p0 (0 : Int32)))) := hr
    refine own_pre (B := T.setTop (mkF m 32 #[.val (.int p0)] [(.int p0)])) (fun t k => XS.iloadN X.here hx rfl (hb hby d1_31) rfl k) ?_
    refine own_pre (B := T.setTop (mkF m 34 #[.val (.int p0)] [(.int (95 : Int32)), (.int p0)])) (fun t k => XS.bipush X.here hx rfl (hb hby d1_32) k) ?_
    by_cases hc1 : p0 = (95 : Int32)
    · have hr2 := hr.trans (if_pos hc1)
      refine own_pre (B := T.setTop (mkF m 43 #[.val (.int p0)] [])) (fun t k => XS.icmpYes X.here hx rfl (pc0 := 34) (pc' := 43) rfl (hb hby d1_34) rfl (teq hc1).1 (by decide) (by decide) k) ?_
      exact g_43 T _ X eT N  _ hr2
    · have hr3 := hr.trans (if_neg hc1)
      refine own_pre (B := T.setTop (mkF m 37 #[.val (.int p0)] [])) (fun t k => XS.icmpNo X.here hx rfl (hb hby d1_34) rfl (feq hc1).1 k) ?_
      refine own_pre (B := T.setTop (mkF m 38 #[.val (.int p0)] [(.int p0)])) (fun t k => XS.iloadN X.here hx rfl (hb hby d1_37) rfl k) ?_
      refine own_pre (B := T.setTop (mkF m 40 #[.val (.int p0)] [(.int (58 : Int32)), (.int p0)])) (fun t k => XS.bipush X.here hx rfl (hb hby d1_38) k) ?_
      by_cases hc4 : p0 = (58 : Int32)
      · have hr5 := hr3.trans (if_pos hc4)
        refine own_pre (B := T.setTop (mkF m 43 #[.val (.int p0)] [])) (fun t k => XS.icmpNo X.here hx rfl (hb hby d1_40) rfl (teq hc4).2 k) ?_
        exact g_43 T _ X eT N  _ hr5
      · have hr6 := hr3.trans (if_neg hc4)
        refine own_pre (B := T.setTop (mkF m 47 #[.val (.int p0)] [])) (fun t k => XS.icmpYes X.here hx rfl (pc0 := 40) (pc' := 47) rfl (hb hby d1_40) rfl (feq hc4).2 (by decide) (by decide) k) ?_
        refine own_pre (B := T.setTop (mkF m 48 #[.val (.int p0)] [(.int (0 : Int32))])) (fun t k => XS.iconst X.here hx rfl (hb hby d1_47) k) ?_
        exact g_48 T _ X eT N (0 : Int32) _ hr6
  have g_19 : ∀ (T : State) (locs : List Loc) (X : Stand p l e ({ frames := 0, cells := 0, slots := 0, locals := 0 } : Room) s m #[(.int p0)] below meth c T locs 0 0) (eT : T.heap = h0) (N : Fr n0 locs)   (r : Int32), r = f1_19 p0 → own_Fin p e below s (fun v h L => v = some (.int r) ∧ Fr n0 L ∧ h = h0) ({ frames := 0, cells := 0, slots := 0, locals := 0 } : Room).cells ({ frames := 0, cells := 0, slots := 0, locals := 0 } : Room).slots (T.setTop (mkF m 19 #[.val (.int p0)] [])) := by
    intro T locs X eT N   r hr
    have hr : r = (if p0 < (97 : Int32) then (f1_31 p0) else (if (122 : Int32) < p0 then (f1_31 p0) else (f1_43 p0))) := hr
    refine own_pre (B := T.setTop (mkF m 20 #[.val (.int p0)] [(.int p0)])) (fun t k => XS.iloadN X.here hx rfl (hb hby d1_19) rfl k) ?_
    refine own_pre (B := T.setTop (mkF m 22 #[.val (.int p0)] [(.int (97 : Int32)), (.int p0)])) (fun t k => XS.bipush X.here hx rfl (hb hby d1_20) k) ?_
    by_cases hc1 : p0 < (97 : Int32)
    · have hr2 := hr.trans (if_pos hc1)
      refine own_pre (B := T.setTop (mkF m 31 #[.val (.int p0)] [])) (fun t k => XS.icmpYes X.here hx rfl (pc0 := 22) (pc' := 31) rfl (hb hby d1_22) rfl (tlt hc1).1 (by decide) (by decide) k) ?_
      exact g_31 T _ X eT N  _ hr2
    · have hr3 := hr.trans (if_neg hc1)
      refine own_pre (B := T.setTop (mkF m 25 #[.val (.int p0)] [])) (fun t k => XS.icmpNo X.here hx rfl (hb hby d1_22) rfl (flt hc1).1 k) ?_
      refine own_pre (B := T.setTop (mkF m 26 #[.val (.int p0)] [(.int p0)])) (fun t k => XS.iloadN X.here hx rfl (hb hby d1_25) rfl k) ?_
      refine own_pre (B := T.setTop (mkF m 28 #[.val (.int p0)] [(.int (122 : Int32)), (.int p0)])) (fun t k => XS.bipush X.here hx rfl (hb hby d1_26) k) ?_
      by_cases hc4 : (122 : Int32) < p0
      · have hr5 := hr3.trans (if_pos hc4)
        refine own_pre (B := T.setTop (mkF m 31 #[.val (.int p0)] [])) (fun t k => XS.icmpNo X.here hx rfl (hb hby d1_28) rfl (tlt hc4).2.2.2 k) ?_
        exact g_31 T _ X eT N  _ hr5
      · have hr6 := hr3.trans (if_neg hc4)
        refine own_pre (B := T.setTop (mkF m 43 #[.val (.int p0)] [])) (fun t k => XS.icmpYes X.here hx rfl (pc0 := 28) (pc' := 43) rfl (hb hby d1_28) rfl (flt hc4).2.2.2 (by decide) (by decide) k) ?_
        exact g_43 T _ X eT N  _ hr6
  have g_0 : ∀ r, r = f1_0 p0 → own_Fin p e below s (fun v h L => v = some (.int r) ∧ Fr n0 L ∧ h = h0) ({ frames := 0, cells := 0, slots := 0, locals := 0 } : Room).cells ({ frames := 0, cells := 0, slots := 0, locals := 0 } : Room).slots (s₁.setTop (mkF m 0 #[.val (.int p0)] [])) := by
    intro r hr
    have hr : r = (if p0 < (128 : Int32) then (if p0 < (65 : Int32) then (f1_19 p0) else (if (90 : Int32) < p0 then (f1_19 p0) else (f1_43 p0))) else (if p0 < (192 : Int32) then (f1_63 p0) else (if (214 : Int32) < p0 then (f1_63 p0) else (f1_210 p0)))) := hr
    refine own_pre (B := s₁.setTop (mkF m 1 #[.val (.int p0)] [(.int p0)])) (fun t k => XS.iloadN X0.here hx rfl (hb hby d1_0) rfl k) ?_
    refine own_pre (B := s₁.setTop (mkF m 4 #[.val (.int p0)] [(.int (128 : Int32)), (.int p0)])) (fun t k => XS.sipush X0.here hx rfl (hb hby d1_1) k) ?_
    by_cases hc1 : p0 < (128 : Int32)
    · have hr2 := hr.trans (if_pos hc1)
      refine own_pre (B := s₁.setTop (mkF m 7 #[.val (.int p0)] [])) (fun t k => XS.icmpNo X0.here hx rfl (hb hby d1_4) rfl (tlt hc1).2.1 k) ?_
      refine own_pre (B := s₁.setTop (mkF m 8 #[.val (.int p0)] [(.int p0)])) (fun t k => XS.iloadN X0.here hx rfl (hb hby d1_7) rfl k) ?_
      refine own_pre (B := s₁.setTop (mkF m 10 #[.val (.int p0)] [(.int (65 : Int32)), (.int p0)])) (fun t k => XS.bipush X0.here hx rfl (hb hby d1_8) k) ?_
      by_cases hc3 : p0 < (65 : Int32)
      · have hr4 := hr2.trans (if_pos hc3)
        refine own_pre (B := s₁.setTop (mkF m 19 #[.val (.int p0)] [])) (fun t k => XS.icmpYes X0.here hx rfl (pc0 := 10) (pc' := 19) rfl (hb hby d1_10) rfl (tlt hc3).1 (by decide) (by decide) k) ?_
        exact g_19 s₁ _ X0 e0 N0  _ hr4
      · have hr5 := hr2.trans (if_neg hc3)
        refine own_pre (B := s₁.setTop (mkF m 13 #[.val (.int p0)] [])) (fun t k => XS.icmpNo X0.here hx rfl (hb hby d1_10) rfl (flt hc3).1 k) ?_
        refine own_pre (B := s₁.setTop (mkF m 14 #[.val (.int p0)] [(.int p0)])) (fun t k => XS.iloadN X0.here hx rfl (hb hby d1_13) rfl k) ?_
        refine own_pre (B := s₁.setTop (mkF m 16 #[.val (.int p0)] [(.int (90 : Int32)), (.int p0)])) (fun t k => XS.bipush X0.here hx rfl (hb hby d1_14) k) ?_
        by_cases hc6 : (90 : Int32) < p0
        · have hr7 := hr5.trans (if_pos hc6)
          refine own_pre (B := s₁.setTop (mkF m 19 #[.val (.int p0)] [])) (fun t k => XS.icmpNo X0.here hx rfl (hb hby d1_16) rfl (tlt hc6).2.2.2 k) ?_
          exact g_19 s₁ _ X0 e0 N0  _ hr7
        · have hr8 := hr5.trans (if_neg hc6)
          refine own_pre (B := s₁.setTop (mkF m 43 #[.val (.int p0)] [])) (fun t k => XS.icmpYes X0.here hx rfl (pc0 := 16) (pc' := 43) rfl (hb hby d1_16) rfl (flt hc6).2.2.2 (by decide) (by decide) k) ?_
          exact g_43 s₁ _ X0 e0 N0  _ hr8
    · have hr9 := hr.trans (if_neg hc1)
      refine own_pre (B := s₁.setTop (mkF m 49 #[.val (.int p0)] [])) (fun t k => XS.icmpYes X0.here hx rfl (pc0 := 4) (pc' := 49) rfl (hb hby d1_4) rfl (flt hc1).2.1 (by decide) (by decide) k) ?_
      refine own_pre (B := s₁.setTop (mkF m 50 #[.val (.int p0)] [(.int p0)])) (fun t k => XS.iloadN X0.here hx rfl (hb hby d1_49) rfl k) ?_
      refine own_pre (B := s₁.setTop (mkF m 53 #[.val (.int p0)] [(.int (192 : Int32)), (.int p0)])) (fun t k => XS.sipush X0.here hx rfl (hb hby d1_50) k) ?_
      by_cases hc10 : p0 < (192 : Int32)
      · have hr11 := hr9.trans (if_pos hc10)
        refine own_pre (B := s₁.setTop (mkF m 63 #[.val (.int p0)] [])) (fun t k => XS.icmpYes X0.here hx rfl (pc0 := 53) (pc' := 63) rfl (hb hby d1_53) rfl (tlt hc10).1 (by decide) (by decide) k) ?_
        exact g_63 s₁ _ X0 e0 N0  _ hr11
      · have hr12 := hr9.trans (if_neg hc10)
        refine own_pre (B := s₁.setTop (mkF m 56 #[.val (.int p0)] [])) (fun t k => XS.icmpNo X0.here hx rfl (hb hby d1_53) rfl (flt hc10).1 k) ?_
        refine own_pre (B := s₁.setTop (mkF m 57 #[.val (.int p0)] [(.int p0)])) (fun t k => XS.iloadN X0.here hx rfl (hb hby d1_56) rfl k) ?_
        refine own_pre (B := s₁.setTop (mkF m 60 #[.val (.int p0)] [(.int (214 : Int32)), (.int p0)])) (fun t k => XS.sipush X0.here hx rfl (hb hby d1_57) k) ?_
        by_cases hc13 : (214 : Int32) < p0
        · have hr14 := hr12.trans (if_pos hc13)
          refine own_pre (B := s₁.setTop (mkF m 63 #[.val (.int p0)] [])) (fun t k => XS.icmpNo X0.here hx rfl (hb hby d1_60) rfl (tlt hc13).2.2.2 k) ?_
          exact g_63 s₁ _ X0 e0 N0  _ hr14
        · have hr15 := hr12.trans (if_neg hc13)
          refine own_pre (B := s₁.setTop (mkF m 210 #[.val (.int p0)] [])) (fun t k => XS.icmpYes X0.here hx rfl (pc0 := 60) (pc' := 210) rfl (hb hby d1_60) rfl (flt hc13).2.2.2 (by decide) (by decide) k) ?_
          exact g_210 s₁ _ X0 e0 N0  _ hr15
  exact own_pre pre0 (g_0 _ rfl)
/-! body 3 -/
theorem d3_0 : decode method_2_code 0 = .ok (.iload_n 0, 1) := by decide +kernel
theorem d3_1 : decode method_2_code 1 = .ok (.iload_n 1, 1) := by decide +kernel
theorem d3_2 : decode method_2_code 2 = .ok (.if_icmp .lt 12, 3) := by decide +kernel
theorem d3_5 : decode method_2_code 5 = .ok (.iload_n 0, 1) := by decide +kernel
theorem d3_6 : decode method_2_code 6 = .ok (.iload_n 2, 1) := by decide +kernel
theorem d3_7 : decode method_2_code 7 = .ok (.if_icmp .gt 7, 3) := by decide +kernel
theorem d3_10 : decode method_2_code 10 = .ok (.iconst 1, 1) := by decide +kernel
theorem d3_11 : decode method_2_code 11 = .ok (.goto 4, 3) := by decide +kernel
theorem d3_14 : decode method_2_code 14 = .ok (.iconst 0, 1) := by decide +kernel
theorem d3_15 : decode method_2_code 15 = .ok (.ireturn, 1) := by decide +kernel
theorem pn_3 : plainName "com/example/amberwire/amberwire/XmlCharactersIsNameStartPinLaw" = true := by first | (simp [plainName, overriddenIn]; done) | decide +kernel
theorem ef_3 (m : MethodId) (p0 : Int32) (p1 : Int32) (p2 : Int32) : entryFrame m #[(.int p0), (.int p1), (.int p2)] 3 = mkF m 0 #[.val (.int p0), .val (.int p1), .val (.int p2)] [] := by first | (simp [entryFrame, mkF, argsToLocals, Value.category]; done) | rfl
def f3_15 (p0 : Int32) (p1 : Int32) (p2 : Int32) (t0 : Int32) : Int32 := (t0 &&& 1)
def f3_14 (p0 : Int32) (p1 : Int32) (p2 : Int32) : Int32 := (f3_15 p0 p1 p2 (0 : Int32))
def f3_0 (p0 : Int32) (p1 : Int32) (p2 : Int32) : Int32 := (if p0 < p1 then (f3_14 p0 p1 p2) else (if p2 < p0 then (f3_14 p0 p1 p2) else (f3_15 p0 p1 p2 (1 : Int32))))
def Q3 (p0 : Int32) (p1 : Int32) (p2 : Int32) (h0 : Heap) (n0 : Nat) (v : Option Value) (h : Heap) (L : List Loc) : Prop := v = some (.int (f3_0 p0 p1 p2)) ∧ Fr n0 L ∧ h = h0
set_option maxRecDepth 65536 in
set_option maxHeartbeats 40000000 in
theorem rm3 (l : Launch) (Z : State) (a0 : Array Value) (hw : ∀ d ∈ tables_1, d.before a0 Z = true) (ws : List Jvm.Cond) (p0 : Int32) (p1 : Int32) (p2 : Int32) (h0 : Heap) (n0 : Nat) (Z0 : n0 ≤ h0.size) :
    MetFree l (⟨"com/example/amberwire/amberwire/XmlCharactersIsNameStartPinLaw", "in", "(III)Z"⟩ : MethodName) (head1 (Jvm.Cond.code (⟨"com/example/amberwire/amberwire/XmlCharactersIsNameStartPinLaw", "in", "(III)Z"⟩ : MethodName) method_2_code 3 (some .boolean) :: ws) ({ frames := 0, cells := 0, slots := 0, locals := 0 } : Room)) (fun a U => a = #[(.int p0), (.int p1), (.int p2)] ∧ Z.Warmed39 U.vm ∧ U.heap = h0) (fun _ _ _ _ _ => True) (fun _ U o U' => ∃ v L, o = .returned v ∧ Q3 p0 p1 p2 h0 n0 v U'.heap L ∧ FrameEnd U o U' L ({ frames := 0, cells := 0, slots := 0, locals := 0 } : Room).cells ({ frames := 0, cells := 0, slots := 0, locals := 0 } : Room).slots) := by
  refine MetFree.of_bodySF (plainFor_of_name pn_3) hisR ?_
  intro p e s m args below meth c s₁ Bd hml0 hP hK
  obtain ⟨rfl, hZ, hh⟩ := hP
  have hx := Bd.exec
  have hby := Bd.bytes
  have hml : c.maxLocals = 3 := hml0
  have hlk : meth.locks = false := BodyLoose.notSynchronized Bd
  have hown : s.vm.findClass "com/example/amberwire/amberwire/XmlCharactersIsNameStartPinLaw" = some m.cls := findClass_of_methodNamed Bd.named
  have X0 : Stand p l e ({ frames := 0, cells := 0, slots := 0, locals := 0 } : Room) s m #[(.int p0), (.int p1), (.int p2)] below meth c s₁ [] 0 0 := Stand.of_body Bd
  have e0 : s₁.heap = h0 := by rw [← hh, Bd.state]; rfl
  have N0 := Fr.nil n0
  have Zs0 : n0 ≤ s₁.heap.size := by rw [e0]; exact Z0
  have pre0 : ∀ t, Steps p.tables e below (s₁.setTop (mkF m 0 #[.val (.int p0), .val (.int p1), .val (.int p2)] [])) t → Steps p.tables e below (s₁.setTop (entryFrame m #[(.int p0), (.int p1), (.int p2)] 3)) t := fun t k => castTop (ef_3 m p0 p1 p2) k
  have hnm := (name_of_methodNamed Bd.named Bd.method).1
  have g_15 : ∀ (T : State) (locs : List Loc) (X : Stand p l e ({ frames := 0, cells := 0, slots := 0, locals := 0 } : Room) s m #[(.int p0), (.int p1), (.int p2)] below meth c T locs 0 0) (eT : T.heap = h0) (N : Fr n0 locs) (t0 : Int32)  (r : Int32), r = f3_15 p0 p1 p2 t0 → own_Fin p e below s (fun v h L => v = some (.int r) ∧ Fr n0 L ∧ h = h0) ({ frames := 0, cells := 0, slots := 0, locals := 0 } : Room).cells ({ frames := 0, cells := 0, slots := 0, locals := 0 } : Room).slots (T.setTop (mkF m 15 #[.val (.int p0), .val (.int p1), .val (.int p2)] [(.int t0)])) := by
    intro T locs X eT N t0  r hr
    have hr : r = (t0 &&& 1) := hr
    exact own_retZ X hx hlk Bd.returns (hb hby d3_15) ⟨own_someI hr, N, eT⟩ (by decide) (by decide)
  have g_14 : ∀ (T : State) (locs : List Loc) (X : Stand p l e ({ frames := 0, cells := 0, slots := 0, locals := 0 } : Room) s m #[(.int p0), (.int p1), (.int p2)] below meth c T locs 0 0) (eT : T.heap = h0) (N : Fr n0 locs)   (r : Int32), r = f3_14 p0 p1 p2 → own_Fin p e below s (fun v h L => v = some (.int r) ∧ Fr n0 L ∧ h = h0) ({ frames := 0, cells := 0, slots := 0, locals := 0 } : Room).cells ({ frames := 0, cells := 0, slots := 0, locals := 0 } : Room).slots (T.setTop (mkF m 14 #[.val (.int p0), .val (.int p1), .val (.int p2)] [])) := by
    intro T locs X eT N   r hr
    have hr : r = (f3_15 p0 p1 p2 (0 : Int32)) := hr
    refine own_pre (B := T.setTop (mkF m 15 #[.val (.int p0), .val (.int p1), .val (.int p2)] [(.int (0 : Int32))])) (fun t k => XS.iconst X.here hx rfl (hb hby d3_14) k) ?_
    exact g_15 T _ X eT N (0 : Int32) _ hr
  have g_0 : ∀ r, r = f3_0 p0 p1 p2 → own_Fin p e below s (fun v h L => v = some (.int r) ∧ Fr n0 L ∧ h = h0) ({ frames := 0, cells := 0, slots := 0, locals := 0 } : Room).cells ({ frames := 0, cells := 0, slots := 0, locals := 0 } : Room).slots (s₁.setTop (mkF m 0 #[.val (.int p0), .val (.int p1), .val (.int p2)] [])) := by
    intro r hr
    have hr : r = (if p0 < p1 then (f3_14 p0 p1 p2) else (if p2 < p0 then (f3_14 p0 p1 p2) else (f3_15 p0 p1 p2 (1 : Int32)))) := hr
    refine own_pre (B := s₁.setTop (mkF m 1 #[.val (.int p0), .val (.int p1), .val (.int p2)] [(.int p0)])) (fun t k => XS.iloadN X0.here hx rfl (hb hby d3_0) rfl k) ?_
    refine own_pre (B := s₁.setTop (mkF m 2 #[.val (.int p0), .val (.int p1), .val (.int p2)] [(.int p1), (.int p0)])) (fun t k => XS.iloadN X0.here hx rfl (hb hby d3_1) rfl k) ?_
    by_cases hc1 : p0 < p1
    · have hr2 := hr.trans (if_pos hc1)
      refine own_pre (B := s₁.setTop (mkF m 14 #[.val (.int p0), .val (.int p1), .val (.int p2)] [])) (fun t k => XS.icmpYes X0.here hx rfl (pc0 := 2) (pc' := 14) rfl (hb hby d3_2) rfl (tlt hc1).1 (by decide) (by decide) k) ?_
      exact g_14 s₁ _ X0 e0 N0  _ hr2
    · have hr3 := hr.trans (if_neg hc1)
      refine own_pre (B := s₁.setTop (mkF m 5 #[.val (.int p0), .val (.int p1), .val (.int p2)] [])) (fun t k => XS.icmpNo X0.here hx rfl (hb hby d3_2) rfl (flt hc1).1 k) ?_
      refine own_pre (B := s₁.setTop (mkF m 6 #[.val (.int p0), .val (.int p1), .val (.int p2)] [(.int p0)])) (fun t k => XS.iloadN X0.here hx rfl (hb hby d3_5) rfl k) ?_
      refine own_pre (B := s₁.setTop (mkF m 7 #[.val (.int p0), .val (.int p1), .val (.int p2)] [(.int p2), (.int p0)])) (fun t k => XS.iloadN X0.here hx rfl (hb hby d3_6) rfl k) ?_
      by_cases hc4 : p2 < p0
      · have hr5 := hr3.trans (if_pos hc4)
        refine own_pre (B := s₁.setTop (mkF m 14 #[.val (.int p0), .val (.int p1), .val (.int p2)] [])) (fun t k => XS.icmpYes X0.here hx rfl (pc0 := 7) (pc' := 14) rfl (hb hby d3_7) rfl (tlt hc4).2.2.1 (by decide) (by decide) k) ?_
        exact g_14 s₁ _ X0 e0 N0  _ hr5
      · have hr6 := hr3.trans (if_neg hc4)
        refine own_pre (B := s₁.setTop (mkF m 10 #[.val (.int p0), .val (.int p1), .val (.int p2)] [])) (fun t k => XS.icmpNo X0.here hx rfl (hb hby d3_7) rfl (flt hc4).2.2.1 k) ?_
        refine own_pre (B := s₁.setTop (mkF m 11 #[.val (.int p0), .val (.int p1), .val (.int p2)] [(.int (1 : Int32))])) (fun t k => XS.iconst X0.here hx rfl (hb hby d3_10) k) ?_
        refine own_pre (B := s₁.setTop (mkF m 15 #[.val (.int p0), .val (.int p1), .val (.int p2)] [(.int (1 : Int32))])) (fun t k => XS.goto X0.here hx rfl (pc0 := 11) (pc' := 15) rfl (hb hby d3_11) (by decide) (by decide) k) ?_
        exact g_15 s₁ _ X0 e0 N0 (1 : Int32) _ hr6
  exact own_pre pre0 (g_0 _ rfl)
/-! body 2 -/
theorem d2_0 : decode method_3_code 0 = .ok (.iload_n 0, 1) := by decide +kernel
theorem d2_1 : decode method_3_code 1 = .ok (.bipush 58, 2) := by decide +kernel
theorem d2_3 : decode method_3_code 3 = .ok (.if_icmp .lt 9, 3) := by decide +kernel
theorem d2_6 : decode method_3_code 6 = .ok (.iload_n 0, 1) := by decide +kernel
theorem d2_7 : decode method_3_code 7 = .ok (.ldc 7, 2) := by decide +kernel
theorem d2_9 : decode method_3_code 9 = .ok (.if_icmp .le 5, 3) := by decide +kernel
theorem d2_12 : decode method_3_code 12 = .ok (.iconst 0, 1) := by decide +kernel
theorem d2_13 : decode method_3_code 13 = .ok (.ireturn, 1) := by decide +kernel
theorem d2_14 : decode method_3_code 14 = .ok (.iload_n 0, 1) := by decide +kernel
theorem d2_15 : decode method_3_code 15 = .ok (.bipush 59, 2) := by decide +kernel
theorem d2_17 : decode method_3_code 17 = .ok (.bipush 64, 2) := by decide +kernel
theorem d2_19 : decode method_3_code 19 = .ok (.invokestatic 8, 3) := by decide +kernel
theorem d2_22 : decode method_3_code 22 = .ok (.ifCond .eq 5, 3) := by decide +kernel
theorem d2_25 : decode method_3_code 25 = .ok (.iconst 0, 1) := by decide +kernel
theorem d2_26 : decode method_3_code 26 = .ok (.ireturn, 1) := by decide +kernel
theorem d2_27 : decode method_3_code 27 = .ok (.iload_n 0, 1) := by decide +kernel
theorem d2_28 : decode method_3_code 28 = .ok (.bipush 91, 2) := by decide +kernel
theorem d2_30 : decode method_3_code 30 = .ok (.bipush 94, 2) := by decide +kernel
theorem d2_32 : decode method_3_code 32 = .ok (.invokestatic 8, 3) := by decide +kernel
theorem d2_35 : decode method_3_code 35 = .ok (.ifCond .eq 5, 3) := by decide +kernel
theorem d2_38 : decode method_3_code 38 = .ok (.iconst 0, 1) := by decide +kernel
theorem d2_39 : decode method_3_code 39 = .ok (.ireturn, 1) := by decide +kernel
theorem d2_40 : decode method_3_code 40 = .ok (.iload_n 0, 1) := by decide +kernel
theorem d2_41 : decode method_3_code 41 = .ok (.bipush 96, 2) := by decide +kernel
theorem d2_43 : decode method_3_code 43 = .ok (.if_icmp .ne 5, 3) := by decide +kernel
theorem d2_46 : decode method_3_code 46 = .ok (.iconst 0, 1) := by decide +kernel
theorem d2_47 : decode method_3_code 47 = .ok (.ireturn, 1) := by decide +kernel
theorem d2_48 : decode method_3_code 48 = .ok (.iload_n 0, 1) := by decide +kernel
theorem d2_49 : decode method_3_code 49 = .ok (.bipush 123, 2) := by decide +kernel
theorem d2_51 : decode method_3_code 51 = .ok (.sipush 191, 3) := by decide +kernel
theorem d2_54 : decode method_3_code 54 = .ok (.invokestatic 8, 3) := by decide +kernel
theorem d2_57 : decode method_3_code 57 = .ok (.ifCond .eq 5, 3) := by decide +kernel
theorem d2_60 : decode method_3_code 60 = .ok (.iconst 0, 1) := by decide +kernel
theorem d2_61 : decode method_3_code 61 = .ok (.ireturn, 1) := by decide +kernel
theorem d2_62 : decode method_3_code 62 = .ok (.iload_n 0, 1) := by decide +kernel
theorem d2_63 : decode method_3_code 63 = .ok (.sipush 215, 3) := by decide +kernel
theorem d2_66 : decode method_3_code 66 = .ok (.if_icmp .ne 5, 3) := by decide +kernel
theorem d2_69 : decode method_3_code 69 = .ok (.iconst 0, 1) := by decide +kernel
theorem d2_70 : decode method_3_code 70 = .ok (.ireturn, 1) := by decide +kernel
theorem d2_71 : decode method_3_code 71 = .ok (.iload_n 0, 1) := by decide +kernel
theorem d2_72 : decode method_3_code 72 = .ok (.sipush 247, 3) := by decide +kernel
theorem d2_75 : decode method_3_code 75 = .ok (.if_icmp .ne 5, 3) := by decide +kernel
theorem d2_78 : decode method_3_code 78 = .ok (.iconst 0, 1) := by decide +kernel
theorem d2_79 : decode method_3_code 79 = .ok (.ireturn, 1) := by decide +kernel
theorem d2_80 : decode method_3_code 80 = .ok (.iload_n 0, 1) := by decide +kernel
theorem d2_81 : decode method_3_code 81 = .ok (.sipush 768, 3) := by decide +kernel
theorem d2_84 : decode method_3_code 84 = .ok (.sipush 879, 3) := by decide +kernel
theorem d2_87 : decode method_3_code 87 = .ok (.invokestatic 8, 3) := by decide +kernel
theorem d2_90 : decode method_3_code 90 = .ok (.ifCond .eq 5, 3) := by decide +kernel
theorem d2_93 : decode method_3_code 93 = .ok (.iconst 0, 1) := by decide +kernel
theorem d2_94 : decode method_3_code 94 = .ok (.ireturn, 1) := by decide +kernel
theorem d2_95 : decode method_3_code 95 = .ok (.iload_n 0, 1) := by decide +kernel
theorem d2_96 : decode method_3_code 96 = .ok (.sipush 894, 3) := by decide +kernel
theorem d2_99 : decode method_3_code 99 = .ok (.if_icmp .ne 5, 3) := by decide +kernel
theorem d2_102 : decode method_3_code 102 = .ok (.iconst 0, 1) := by decide +kernel
theorem d2_103 : decode method_3_code 103 = .ok (.ireturn, 1) := by decide +kernel
theorem d2_104 : decode method_3_code 104 = .ok (.iload_n 0, 1) := by decide +kernel
theorem d2_105 : decode method_3_code 105 = .ok (.sipush 8192, 3) := by decide +kernel
theorem d2_108 : decode method_3_code 108 = .ok (.sipush 8203, 3) := by decide +kernel
theorem d2_111 : decode method_3_code 111 = .ok (.invokestatic 8, 3) := by decide +kernel
theorem d2_114 : decode method_3_code 114 = .ok (.ifCond .eq 5, 3) := by decide +kernel
theorem d2_117 : decode method_3_code 117 = .ok (.iconst 0, 1) := by decide +kernel
theorem d2_118 : decode method_3_code 118 = .ok (.ireturn, 1) := by decide +kernel
theorem d2_119 : decode method_3_code 119 = .ok (.iload_n 0, 1) := by decide +kernel
theorem d2_120 : decode method_3_code 120 = .ok (.sipush 8206, 3) := by decide +kernel
theorem d2_123 : decode method_3_code 123 = .ok (.sipush 8303, 3) := by decide +kernel
theorem d2_126 : decode method_3_code 126 = .ok (.invokestatic 8, 3) := by decide +kernel
theorem d2_129 : decode method_3_code 129 = .ok (.ifCond .eq 5, 3) := by decide +kernel
theorem d2_132 : decode method_3_code 132 = .ok (.iconst 0, 1) := by decide +kernel
theorem d2_133 : decode method_3_code 133 = .ok (.ireturn, 1) := by decide +kernel
theorem d2_134 : decode method_3_code 134 = .ok (.iload_n 0, 1) := by decide +kernel
theorem d2_135 : decode method_3_code 135 = .ok (.sipush 8592, 3) := by decide +kernel
theorem d2_138 : decode method_3_code 138 = .ok (.sipush 11263, 3) := by decide +kernel
theorem d2_141 : decode method_3_code 141 = .ok (.invokestatic 8, 3) := by decide +kernel
theorem d2_144 : decode method_3_code 144 = .ok (.ifCond .eq 5, 3) := by decide +kernel
theorem d2_147 : decode method_3_code 147 = .ok (.iconst 0, 1) := by decide +kernel
theorem d2_148 : decode method_3_code 148 = .ok (.ireturn, 1) := by decide +kernel
theorem d2_149 : decode method_3_code 149 = .ok (.iload_n 0, 1) := by decide +kernel
theorem d2_150 : decode method_3_code 150 = .ok (.sipush 12272, 3) := by decide +kernel
theorem d2_153 : decode method_3_code 153 = .ok (.sipush 12288, 3) := by decide +kernel
theorem d2_156 : decode method_3_code 156 = .ok (.invokestatic 8, 3) := by decide +kernel
theorem d2_159 : decode method_3_code 159 = .ok (.ifCond .eq 5, 3) := by decide +kernel
theorem d2_162 : decode method_3_code 162 = .ok (.iconst 0, 1) := by decide +kernel
theorem d2_163 : decode method_3_code 163 = .ok (.ireturn, 1) := by decide +kernel
theorem d2_164 : decode method_3_code 164 = .ok (.iload_n 0, 1) := by decide +kernel
theorem d2_165 : decode method_3_code 165 = .ok (.ldc 14, 2) := by decide +kernel
theorem d2_167 : decode method_3_code 167 = .ok (.ldc 15, 2) := by decide +kernel
theorem d2_169 : decode method_3_code 169 = .ok (.invokestatic 8, 3) := by decide +kernel
theorem d2_172 : decode method_3_code 172 = .ok (.ifCond .eq 5, 3) := by decide +kernel
theorem d2_175 : decode method_3_code 175 = .ok (.iconst 0, 1) := by decide +kernel
theorem d2_176 : decode method_3_code 176 = .ok (.ireturn, 1) := by decide +kernel
theorem d2_177 : decode method_3_code 177 = .ok (.iload_n 0, 1) := by decide +kernel
theorem d2_178 : decode method_3_code 178 = .ok (.ldc 16, 2) := by decide +kernel
theorem d2_180 : decode method_3_code 180 = .ok (.ldc 17, 2) := by decide +kernel
theorem d2_182 : decode method_3_code 182 = .ok (.invokestatic 8, 3) := by decide +kernel
theorem d2_185 : decode method_3_code 185 = .ok (.ifCond .eq 5, 3) := by decide +kernel
theorem d2_188 : decode method_3_code 188 = .ok (.iconst 0, 1) := by decide +kernel
theorem d2_189 : decode method_3_code 189 = .ok (.ireturn, 1) := by decide +kernel
theorem d2_190 : decode method_3_code 190 = .ok (.iload_n 0, 1) := by decide +kernel
theorem d2_191 : decode method_3_code 191 = .ok (.ldc 18, 2) := by decide +kernel
theorem d2_193 : decode method_3_code 193 = .ok (.ldc 19, 2) := by decide +kernel
theorem d2_195 : decode method_3_code 195 = .ok (.invokestatic 8, 3) := by decide +kernel
theorem d2_198 : decode method_3_code 198 = .ok (.ifCond .eq 5, 3) := by decide +kernel
theorem d2_201 : decode method_3_code 201 = .ok (.iconst 0, 1) := by decide +kernel
theorem d2_202 : decode method_3_code 202 = .ok (.ireturn, 1) := by decide +kernel
theorem d2_203 : decode method_3_code 203 = .ok (.iconst 1, 1) := by decide +kernel
theorem d2_204 : decode method_3_code 204 = .ok (.ireturn, 1) := by decide +kernel
theorem pn_2 : plainName "com/example/amberwire/amberwire/XmlCharactersIsNameStartPinLaw" = true := by first | (simp [plainName, overriddenIn]; done) | decide +kernel
theorem pd2_0 : parseMethodDescriptor "(III)Z" = some ⟨[.int, .int, .int], some .boolean⟩ := by decide +kernel
theorem ef_2 (m : MethodId) (p0 : Int32) : entryFrame m #[(.int p0)] 1 = mkF m 0 #[.val (.int p0)] [] := by first | (simp [entryFrame, mkF, argsToLocals, Value.category]; done) | rfl
def f2_12 (p0 : Int32) : Int32 := ((0 : Int32) &&& 1)
def f2_0 (p0 : Int32) : Int32 := (if p0 < (58 : Int32) then (f2_12 p0) else (if (983039 : Int32) < p0 then (f2_12 p0) else (if (f3_0 p0 (59 : Int32) (64 : Int32)) = (0 : Int32) then (if (f3_0 p0 (91 : Int32) (94 : Int32)) = (0 : Int32) then (if p0 = (96 : Int32) then ((0 : Int32) &&& 1) else (if (f3_0 p0 (123 : Int32) (191 : Int32)) = (0 : Int32) then (if p0 = (215 : Int32) then ((0 : Int32) &&& 1) else (if p0 = (247 : Int32) then ((0 : Int32) &&& 1) else (if (f3_0 p0 (768 : Int32) (879 : Int32)) = (0 : Int32) then (if p0 = (894 : Int32) then ((0 : Int32) &&& 1) else (if (f3_0 p0 (8192 : Int32) (8203 : Int32)) = (0 : Int32) then (if (f3_0 p0 (8206 : Int32) (8303 : Int32)) = (0 : Int32) then (if (f3_0 p0 (8592 : Int32) (11263 : Int32)) = (0 : Int32) then (if (f3_0 p0 (12272 : Int32) (12288 : Int32)) = (0 : Int32) then (if (f3_0 p0 (55296 : Int32) (63743 : Int32)) = (0 : Int32) then (if (f3_0 p0 (64976 : Int32) (65007 : Int32)) = (0 : Int32) then (if (f3_0 p0 (65534 : Int32) (65535 : Int32)) = (0 : Int32) then ((1 : Int32) &&& 1) else ((0 : Int32) &&& 1)) else ((0 : Int32) &&& 1)) else ((0 : Int32) &&& 1)) else ((0 : Int32) &&& 1)) else ((0 : Int32) &&& 1)) else ((0 : Int32) &&& 1)) else ((0 : Int32) &&& 1))) else ((0 : Int32) &&& 1)))) else ((0 : Int32) &&& 1))) else ((0 : Int32) &&& 1)) else ((0 : Int32) &&& 1))))
def Q2 (p0 : Int32) (h0 : Heap) (n0 : Nat) (v : Option Value) (h : Heap) (L : List Loc) : Prop := v = some (.int (f2_0 p0)) ∧ Fr n0 L ∧ h = h0
set_option maxRecDepth 65536 in
set_option maxHeartbeats 40000000 in
theorem rm2 (l : Launch) (Z : State) (a0 : Array Value) (hw : ∀ d ∈ tables_1, d.before a0 Z = true) (ws : List Jvm.Cond) (p0 : Int32) (h0 : Heap) (n0 : Nat) (Z0 : n0 ≤ h0.size) :
    MetFree l (⟨"com/example/amberwire/amberwire/XmlCharactersIsNameStartPinLaw", "reference", "(I)Z"⟩ : MethodName) (head1 (Jvm.Cond.code (⟨"com/example/amberwire/amberwire/XmlCharactersIsNameStartPinLaw", "reference", "(I)Z"⟩ : MethodName) method_3_code 1 (some .boolean) :: ws) ({ frames := 1, cells := 0, slots := 0, locals := 14 } : Room)) (fun a U => a = #[(.int p0)] ∧ Z.Warmed39 U.vm ∧ U.heap = h0) (fun _ _ _ _ _ => True) (fun _ U o U' => ∃ v L, o = .returned v ∧ Q2 p0 h0 n0 v U'.heap L ∧ FrameEnd U o U' L ({ frames := 1, cells := 0, slots := 0, locals := 14 } : Room).cells ({ frames := 1, cells := 0, slots := 0, locals := 14 } : Room).slots) := by
  refine MetFree.of_bodySF (plainFor_of_name pn_2) hisR ?_
  intro p e s m args below meth c s₁ Bd hml0 hP hK
  obtain ⟨rfl, hZ, hh⟩ := hP
  have hx := Bd.exec
  have hby := Bd.bytes
  have hml : c.maxLocals = 1 := hml0
  have hlk : meth.locks = false := BodyLoose.notSynchronized Bd
  have hown : s.vm.findClass "com/example/amberwire/amberwire/XmlCharactersIsNameStartPinLaw" = some m.cls := findClass_of_methodNamed Bd.named
  have X0 : Stand p l e ({ frames := 1, cells := 0, slots := 0, locals := 14 } : Room) s m #[(.int p0)] below meth c s₁ [] 0 0 := Stand.of_body Bd
  have e0 : s₁.heap = h0 := by rw [← hh, Bd.state]; rfl
  have N0 := Fr.nil n0
  have Zs0 : n0 ≤ s₁.heap.size := by rw [e0]; exact Z0
  have pre0 : ∀ t, Steps p.tables e below (s₁.setTop (mkF m 0 #[.val (.int p0)] [])) t → Steps p.tables e below (s₁.setTop (entryFrame m #[(.int p0)] 1)) t := fun t k => castTop (ef_2 m p0) k
  have hnm := (name_of_methodNamed Bd.named Bd.method).1
  have g_12 : ∀ (T : State) (locs : List Loc) (X : Stand p l e ({ frames := 1, cells := 0, slots := 0, locals := 14 } : Room) s m #[(.int p0)] below meth c T locs 0 0) (eT : T.heap = h0) (N : Fr n0 locs)   (r : Int32), r = f2_12 p0 → own_Fin p e below s (fun v h L => v = some (.int r) ∧ Fr n0 L ∧ h = h0) ({ frames := 1, cells := 0, slots := 0, locals := 14 } : Room).cells ({ frames := 1, cells := 0, slots := 0, locals := 14 } : Room).slots (T.setTop (mkF m 12 #[.val (.int p0)] [])) := by
    intro T locs X eT N   r hr
    have hr : r = ((0 : Int32) &&& 1) := hr
    refine own_pre (B := T.setTop (mkF m 13 #[.val (.int p0)] [(.int (0 : Int32))])) (fun t k => XS.iconst X.here hx rfl (hb hby d2_12) k) ?_
    exact own_retZ X hx hlk Bd.returns (hb hby d2_13) ⟨own_someI hr, N, eT⟩ (by decide) (by decide)
  have g_0 : ∀ r, r = f2_0 p0 → own_Fin p e below s (fun v h L => v = some (.int r) ∧ Fr n0 L ∧ h = h0) ({ frames := 1, cells := 0, slots := 0, locals := 14 } : Room).cells ({ frames := 1, cells := 0, slots := 0, locals := 14 } : Room).slots (s₁.setTop (mkF m 0 #[.val (.int p0)] [])) := by
    intro r hr
    have hr : r = (if p0 < (58 : Int32) then (f2_12 p0) else (if (983039 : Int32) < p0 then (f2_12 p0) else (if (f3_0 p0 (59 : Int32) (64 : Int32)) = (0 : Int32) then (if (f3_0 p0 (91 : Int32) (94 : Int32)) = (0 : Int32) then (if p0 = (96 : Int32) then ((0 : Int32) &&& 1) else (if (f3_0 p0 (123 : Int32) (191 : Int32)) = (0 : Int32) then (if p0 = (215 : Int32) then ((0 : Int32) &&& 1) else (if p0 = (247 : Int32) then ((0 : Int32) &&& 1) else (if (f3_0 p0 (768 : Int32) (879 : Int32)) = (0 : Int32) then (if p0 = (894 : Int32) then ((0 : Int32) &&& 1) else (if (f3_0 p0 (8192 : Int32) (8203 : Int32)) = (0 : Int32) then (if (f3_0 p0 (8206 : Int32) (8303 : Int32)) = (0 : Int32) then (if (f3_0 p0 (8592 : Int32) (11263 : Int32)) = (0 : Int32) then (if (f3_0 p0 (12272 : Int32) (12288 : Int32)) = (0 : Int32) then (if (f3_0 p0 (55296 : Int32) (63743 : Int32)) = (0 : Int32) then (if (f3_0 p0 (64976 : Int32) (65007 : Int32)) = (0 : Int32) then (if (f3_0 p0 (65534 : Int32) (65535 : Int32)) = (0 : Int32) then ((1 : Int32) &&& 1) else ((0 : Int32) &&& 1)) else ((0 : Int32) &&& 1)) else ((0 : Int32) &&& 1)) else ((0 : Int32) &&& 1)) else ((0 : Int32) &&& 1)) else ((0 : Int32) &&& 1)) else ((0 : Int32) &&& 1))) else ((0 : Int32) &&& 1)))) else ((0 : Int32) &&& 1))) else ((0 : Int32) &&& 1)) else ((0 : Int32) &&& 1)))) := hr
    refine own_pre (B := s₁.setTop (mkF m 1 #[.val (.int p0)] [(.int p0)])) (fun t k => XS.iloadN X0.here hx rfl (hb hby d2_0) rfl k) ?_
    refine own_pre (B := s₁.setTop (mkF m 3 #[.val (.int p0)] [(.int (58 : Int32)), (.int p0)])) (fun t k => XS.bipush X0.here hx rfl (hb hby d2_1) k) ?_
    by_cases hc1 : p0 < (58 : Int32)
    · have hr2 := hr.trans (if_pos hc1)
      refine own_pre (B := s₁.setTop (mkF m 12 #[.val (.int p0)] [])) (fun t k => XS.icmpYes X0.here hx rfl (pc0 := 3) (pc' := 12) rfl (hb hby d2_3) rfl (tlt hc1).1 (by decide) (by decide) k) ?_
      exact g_12 s₁ _ X0 e0 N0  _ hr2
    · have hr3 := hr.trans (if_neg hc1)
      refine own_pre (B := s₁.setTop (mkF m 6 #[.val (.int p0)] [])) (fun t k => XS.icmpNo X0.here hx rfl (hb hby d2_3) rfl (flt hc1).1 k) ?_
      refine own_pre (B := s₁.setTop (mkF m 7 #[.val (.int p0)] [(.int p0)])) (fun t k => XS.iloadN X0.here hx rfl (hb hby d2_6) rfl k) ?_
      refine own_pre (B := s₁.setTop (mkF m 9 #[.val (.int p0)] [(.int (983039 : Int32)), (.int p0)])) (fun t k => X0.ldcInt hx hown (mvT hZ (hw _ (List.mem_of_getElem? (i := 8) rfl))) (g := (mkF m 7 #[.val (.int p0)] [(.int p0)])) rfl (hb hby d2_7) _ k) ?_
      by_cases hc4 : (983039 : Int32) < p0
      · have hr5 := hr3.trans (if_pos hc4)
        refine own_pre (B := s₁.setTop (mkF m 12 #[.val (.int p0)] [])) (fun t k => XS.icmpNo X0.here hx rfl (hb hby d2_9) rfl (tlt hc4).2.2.2 k) ?_
        exact g_12 s₁ _ X0 e0 N0  _ hr5
      · have hr6 := hr3.trans (if_neg hc4)
        refine own_pre (B := s₁.setTop (mkF m 14 #[.val (.int p0)] [])) (fun t k => XS.icmpYes X0.here hx rfl (pc0 := 9) (pc' := 14) rfl (hb hby d2_9) rfl (flt hc4).2.2.2 (by decide) (by decide) k) ?_
        refine own_pre (B := s₁.setTop (mkF m 15 #[.val (.int p0)] [(.int p0)])) (fun t k => XS.iloadN X0.here hx rfl (hb hby d2_14) rfl k) ?_
        refine own_pre (B := s₁.setTop (mkF m 17 #[.val (.int p0)] [(.int (59 : Int32)), (.int p0)])) (fun t k => XS.bipush X0.here hx rfl (hb hby d2_15) k) ?_
        refine own_pre (B := s₁.setTop (mkF m 19 #[.val (.int p0)] [(.int (64 : Int32)), (.int (59 : Int32)), (.int p0)])) (fun t k => XS.bipush X0.here hx rfl (hb hby d2_17) k) ?_
        obtain ⟨_, _, ⟨T7, L7, k7, n7⟩, -, X7, ⟨Lc7, hQ7, l7, y7, z7⟩, st7⟩ := Jvm.LawKit.callS X0 hx (y := (⟨"com/example/amberwire/amberwire/XmlCharactersIsNameStartPinLaw", "in", "(III)Z"⟩ : MethodName)) hown (mvT hZ (hw _ (List.mem_of_getElem? (i := 9) rfl))) (mvT hZ (hw _ (List.mem_of_getElem? (i := 10) rfl))) (mvT hZ (hw _ (List.mem_of_getElem? (i := 6) rfl))) (mvT hZ (hw _ (List.mem_of_getElem? (i := 11) rfl))) (by decide) (backOf (W := 0) (rm3 l Z a0 hw [] p0 (59 : Int32) (64 : Int32) h0 n0 Z0) hZ (hw _ (List.mem_of_getElem? (i := 11) rfl)) (hw _ (List.mem_of_getElem? (i := 6) rfl)) (by decide) (by decide)) (g := (mkF m 19 #[.val (.int p0)] [(.int (64 : Int32)), (.int (59 : Int32)), (.int p0)])) rfl (by rw [hml]; rfl) (argsL := [(.int p0), (.int (59 : Int32)), (.int (64 : Int32))]) (rest := []) (lenOf pd2_0 rfl) rfl (by show 2 * 0 + _ ≤ _; exact Nat.le_of_eq rfl) (hb hby d2_19) (fun _ _ => ⟨rfl, e0, (by decide : 0 + 0 ≤ _), (by decide : 0 + 0 ≤ _)⟩)
        dsimp only [Pt.U, Pt.locs, Pt.cells, Pt.slots] at X7 l7 y7 z7 st7 hQ7
        subst l7 y7 z7
        obtain ⟨rfl, Nq7, e7⟩ := hQ7
        have N7 := Fr.app N0 Nq7
        refine own_pre (B := T7.setTop (mkF m 22 #[.val (.int p0)] [(.int (f3_0 p0 (59 : Int32) (64 : Int32)))])) st7 ?_
        by_cases hc8 : (f3_0 p0 (59 : Int32) (64 : Int32)) = (0 : Int32)
        · have hr9 := hr6.trans (if_pos hc8)
          refine own_pre (B := T7.setTop (mkF m 27 #[.val (.int p0)] [])) (fun t k => XS.ifYes X7.here hx rfl (pc0 := 22) (pc' := 27) rfl (hb hby d2_22) rfl ((if0 _ _).trans (teq hc8).1) (by decide) (by decide) k) ?_
          refine own_pre (B := T7.setTop (mkF m 28 #[.val (.int p0)] [(.int p0)])) (fun t k => XS.iloadN X7.here hx rfl (hb hby d2_27) rfl k) ?_
          refine own_pre (B := T7.setTop (mkF m 30 #[.val (.int p0)] [(.int (91 : Int32)), (.int p0)])) (fun t k => XS.bipush X7.here hx rfl (hb hby d2_28) k) ?_
          refine own_pre (B := T7.setTop (mkF m 32 #[.val (.int p0)] [(.int (94 : Int32)), (.int (91 : Int32)), (.int p0)])) (fun t k => XS.bipush X7.here hx rfl (hb hby d2_30) k) ?_
          obtain ⟨_, _, ⟨T10, L10, k10, n10⟩, -, X10, ⟨Lc10, hQ10, l10, y10, z10⟩, st10⟩ := Jvm.LawKit.callS X7 hx (y := (⟨"com/example/amberwire/amberwire/XmlCharactersIsNameStartPinLaw", "in", "(III)Z"⟩ : MethodName)) hown (mvT hZ (hw _ (List.mem_of_getElem? (i := 9) rfl))) (mvT hZ (hw _ (List.mem_of_getElem? (i := 10) rfl))) (mvT hZ (hw _ (List.mem_of_getElem? (i := 6) rfl))) (mvT hZ (hw _ (List.mem_of_getElem? (i := 11) rfl))) (by decide) (backOf (W := 0) (rm3 l Z a0 hw [] p0 (91 : Int32) (94 : Int32) h0 n0 Z0) hZ (hw _ (List.mem_of_getElem? (i := 11) rfl)) (hw _ (List.mem_of_getElem? (i := 6) rfl)) (by decide) (by decide)) (g := (mkF m 32 #[.val (.int p0)] [(.int (94 : Int32)), (.int (91 : Int32)), (.int p0)])) rfl (by rw [hml]; rfl) (argsL := [(.int p0), (.int (91 : Int32)), (.int (94 : Int32))]) (rest := []) (lenOf pd2_0 rfl) rfl (by show 2 * 0 + _ ≤ _; exact Nat.le_of_eq rfl) (hb hby d2_32) (fun _ _ => ⟨rfl, e7, (by decide : 0 + 0 ≤ _), (by decide : 0 + 0 ≤ _)⟩)
          dsimp only [Pt.U, Pt.locs, Pt.cells, Pt.slots] at X10 l10 y10 z10 st10 hQ10
          subst l10 y10 z10
          obtain ⟨rfl, Nq10, e10⟩ := hQ10
          have N10 := Fr.app N7 Nq10
          refine own_pre (B := T10.setTop (mkF m 35 #[.val (.int p0)] [(.int (f3_0 p0 (91 : Int32) (94 : Int32)))])) st10 ?_
          by_cases hc11 : (f3_0 p0 (91 : Int32) (94 : Int32)) = (0 : Int32)
          · have hr12 := hr9.trans (if_pos hc11)
            refine own_pre (B := T10.setTop (mkF m 40 #[.val (.int p0)] [])) (fun t k => XS.ifYes X10.here hx rfl (pc0 := 35) (pc' := 40) rfl (hb hby d2_35) rfl ((if0 _ _).trans (teq hc11).1) (by decide) (by decide) k) ?_
            refine own_pre (B := T10.setTop (mkF m 41 #[.val (.int p0)] [(.int p0)])) (fun t k => XS.iloadN X10.here hx rfl (hb hby d2_40) rfl k) ?_
            refine own_pre (B := T10.setTop (mkF m 43 #[.val (.int p0)] [(.int (96 : Int32)), (.int p0)])) (fun t k => XS.bipush X10.here hx rfl (hb hby d2_41) k) ?_
            by_cases hc13 : p0 = (96 : Int32)
            · have hr14 := hr12.trans (if_pos hc13)
              refine own_pre (B := T10.setTop (mkF m 46 #[.val (.int p0)] [])) (fun t k => XS.icmpNo X10.here hx rfl (hb hby d2_43) rfl (teq hc13).2 k) ?_
              refine own_pre (B := T10.setTop (mkF m 47 #[.val (.int p0)] [(.int (0 : Int32))])) (fun t k => XS.iconst X10.here hx rfl (hb hby d2_46) k) ?_
              exact own_retZ X10 hx hlk Bd.returns (hb hby d2_47) ⟨own_someI hr14, N10, e10⟩ (by decide) (by decide)
            · have hr15 := hr12.trans (if_neg hc13)
              refine own_pre (B := T10.setTop (mkF m 48 #[.val (.int p0)] [])) (fun t k => XS.icmpYes X10.here hx rfl (pc0 := 43) (pc' := 48) rfl (hb hby d2_43) rfl (feq hc13).2 (by decide) (by decide) k) ?_
              refine own_pre (B := T10.setTop (mkF m 49 #[.val (.int p0)] [(.int p0)])) (fun t k => XS.iloadN X10.here hx rfl (hb hby d2_48) rfl k) ?_
              refine own_pre (B := T10.setTop (mkF m 51 #[.val (.int p0)] [(.int (123 : Int32)), (.int p0)])) (fun t k => XS.bipush X10.here hx rfl (hb hby d2_49) k) ?_
              refine own_pre (B := T10.setTop (mkF m 54 #[.val (.int p0)] [(.int (191 : Int32)), (.int (123 : Int32)), (.int p0)])) (fun t k => XS.sipush X10.here hx rfl (hb hby d2_51) k) ?_
              obtain ⟨_, _, ⟨T16, L16, k16, n16⟩, -, X16, ⟨Lc16, hQ16, l16, y16, z16⟩, st16⟩ := Jvm.LawKit.callS X10 hx (y := (⟨"com/example/amberwire/amberwire/XmlCharactersIsNameStartPinLaw", "in", "(III)Z"⟩ : MethodName)) hown (mvT hZ (hw _ (List.mem_of_getElem? (i := 9) rfl))) (mvT hZ (hw _ (List.mem_of_getElem? (i := 10) rfl))) (mvT hZ (hw _ (List.mem_of_getElem? (i := 6) rfl))) (mvT hZ (hw _ (List.mem_of_getElem? (i := 11) rfl))) (by decide) (backOf (W := 0) (rm3 l Z a0 hw [] p0 (123 : Int32) (191 : Int32) h0 n0 Z0) hZ (hw _ (List.mem_of_getElem? (i := 11) rfl)) (hw _ (List.mem_of_getElem? (i := 6) rfl)) (by decide) (by decide)) (g := (mkF m 54 #[.val (.int p0)] [(.int (191 : Int32)), (.int (123 : Int32)), (.int p0)])) rfl (by rw [hml]; rfl) (argsL := [(.int p0), (.int (123 : Int32)), (.int (191 : Int32))]) (rest := []) (lenOf pd2_0 rfl) rfl (by show 2 * 0 + _ ≤ _; exact Nat.le_of_eq rfl) (hb hby d2_54) (fun _ _ => ⟨rfl, e10, (by decide : 0 + 0 ≤ _), (by decide : 0 + 0 ≤ _)⟩)
              dsimp only [Pt.U, Pt.locs, Pt.cells, Pt.slots] at X16 l16 y16 z16 st16 hQ16
              subst l16 y16 z16
              obtain ⟨rfl, Nq16, e16⟩ := hQ16
              have N16 := Fr.app N10 Nq16
              refine own_pre (B := T16.setTop (mkF m 57 #[.val (.int p0)] [(.int (f3_0 p0 (123 : Int32) (191 : Int32)))])) st16 ?_
              by_cases hc17 : (f3_0 p0 (123 : Int32) (191 : Int32)) = (0 : Int32)
              · have hr18 := hr15.trans (if_pos hc17)
                refine own_pre (B := T16.setTop (mkF m 62 #[.val (.int p0)] [])) (fun t k => XS.ifYes X16.here hx rfl (pc0 := 57) (pc' := 62) rfl (hb hby d2_57) rfl ((if0 _ _).trans (teq hc17).1) (by decide) (by decide) k) ?_
                refine own_pre (B := T16.setTop (mkF m 63 #[.val (.int p0)] [(.int p0)])) (fun t k => XS.iloadN X16.here hx rfl (hb hby d2_62) rfl k) ?_
                refine own_pre (B := T16.setTop (mkF m 66 #[.val (.int p0)] [(.int (215 : Int32)), (.int p0)])) (fun t k => XS.sipush X16.here hx rfl (hb hby d2_63) k) ?_
                by_cases hc19 : p0 = (215 : Int32)
                · have hr20 := hr18.trans (if_pos hc19)
                  refine own_pre (B := T16.setTop (mkF m 69 #[.val (.int p0)] [])) (fun t k => XS.icmpNo X16.here hx rfl (hb hby d2_66) rfl (teq hc19).2 k) ?_
                  refine own_pre (B := T16.setTop (mkF m 70 #[.val (.int p0)] [(.int (0 : Int32))])) (fun t k => XS.iconst X16.here hx rfl (hb hby d2_69) k) ?_
                  exact own_retZ X16 hx hlk Bd.returns (hb hby d2_70) ⟨own_someI hr20, N16, e16⟩ (by decide) (by decide)
                · have hr21 := hr18.trans (if_neg hc19)
                  refine own_pre (B := T16.setTop (mkF m 71 #[.val (.int p0)] [])) (fun t k => XS.icmpYes X16.here hx rfl (pc0 := 66) (pc' := 71) rfl (hb hby d2_66) rfl (feq hc19).2 (by decide) (by decide) k) ?_
                  refine own_pre (B := T16.setTop (mkF m 72 #[.val (.int p0)] [(.int p0)])) (fun t k => XS.iloadN X16.here hx rfl (hb hby d2_71) rfl k) ?_
                  refine own_pre (B := T16.setTop (mkF m 75 #[.val (.int p0)] [(.int (247 : Int32)), (.int p0)])) (fun t k => XS.sipush X16.here hx rfl (hb hby d2_72) k) ?_
                  by_cases hc22 : p0 = (247 : Int32)
                  · have hr23 := hr21.trans (if_pos hc22)
                    refine own_pre (B := T16.setTop (mkF m 78 #[.val (.int p0)] [])) (fun t k => XS.icmpNo X16.here hx rfl (hb hby d2_75) rfl (teq hc22).2 k) ?_
                    refine own_pre (B := T16.setTop (mkF m 79 #[.val (.int p0)] [(.int (0 : Int32))])) (fun t k => XS.iconst X16.here hx rfl (hb hby d2_78) k) ?_
                    exact own_retZ X16 hx hlk Bd.returns (hb hby d2_79) ⟨own_someI hr23, N16, e16⟩ (by decide) (by decide)
                  · have hr24 := hr21.trans (if_neg hc22)
                    refine own_pre (B := T16.setTop (mkF m 80 #[.val (.int p0)] [])) (fun t k => XS.icmpYes X16.here hx rfl (pc0 := 75) (pc' := 80) rfl (hb hby d2_75) rfl (feq hc22).2 (by decide) (by decide) k) ?_
                    refine own_pre (B := T16.setTop (mkF m 81 #[.val (.int p0)] [(.int p0)])) (fun t k => XS.iloadN X16.here hx rfl (hb hby d2_80) rfl k) ?_
                    refine own_pre (B := T16.setTop (mkF m 84 #[.val (.int p0)] [(.int (768 : Int32)), (.int p0)])) (fun t k => XS.sipush X16.here hx rfl (hb hby d2_81) k) ?_
                    refine own_pre (B := T16.setTop (mkF m 87 #[.val (.int p0)] [(.int (879 : Int32)), (.int (768 : Int32)), (.int p0)])) (fun t k => XS.sipush X16.here hx rfl (hb hby d2_84) k) ?_
                    obtain ⟨_, _, ⟨T25, L25, k25, n25⟩, -, X25, ⟨Lc25, hQ25, l25, y25, z25⟩, st25⟩ := Jvm.LawKit.callS X16 hx (y := (⟨"com/example/amberwire/amberwire/XmlCharactersIsNameStartPinLaw", "in", "(III)Z"⟩ : MethodName)) hown (mvT hZ (hw _ (List.mem_of_getElem? (i := 9) rfl))) (mvT hZ (hw _ (List.mem_of_getElem? (i := 10) rfl))) (mvT hZ (hw _ (List.mem_of_getElem? (i := 6) rfl))) (mvT hZ (hw _ (List.mem_of_getElem? (i := 11) rfl))) (by decide) (backOf (W := 0) (rm3 l Z a0 hw [] p0 (768 : Int32) (879 : Int32) h0 n0 Z0) hZ (hw _ (List.mem_of_getElem? (i := 11) rfl)) (hw _ (List.mem_of_getElem? (i := 6) rfl)) (by decide) (by decide)) (g := (mkF m 87 #[.val (.int p0)] [(.int (879 : Int32)), (.int (768 : Int32)), (.int p0)])) rfl (by rw [hml]; rfl) (argsL := [(.int p0), (.int (768 : Int32)), (.int (879 : Int32))]) (rest := []) (lenOf pd2_0 rfl) rfl (by show 2 * 0 + _ ≤ _; exact Nat.le_of_eq rfl) (hb hby d2_87) (fun _ _ => ⟨rfl, e16, (by decide : 0 + 0 ≤ _), (by decide : 0 + 0 ≤ _)⟩)
                    dsimp only [Pt.U, Pt.locs, Pt.cells, Pt.slots] at X25 l25 y25 z25 st25 hQ25
                    subst l25 y25 z25
                    obtain ⟨rfl, Nq25, e25⟩ := hQ25
                    have N25 := Fr.app N16 Nq25
                    refine own_pre (B := T25.setTop (mkF m 90 #[.val (.int p0)] [(.int (f3_0 p0 (768 : Int32) (879 : Int32)))])) st25 ?_
                    by_cases hc26 : (f3_0 p0 (768 : Int32) (879 : Int32)) = (0 : Int32)
                    · have hr27 := hr24.trans (if_pos hc26)
                      refine own_pre (B := T25.setTop (mkF m 95 #[.val (.int p0)] [])) (fun t k => XS.ifYes X25.here hx rfl (pc0 := 90) (pc' := 95) rfl (hb hby d2_90) rfl ((if0 _ _).trans (teq hc26).1) (by decide) (by decide) k) ?_
                      refine own_pre (B := T25.setTop (mkF m 96 #[.val (.int p0)] [(.int p0)])) (fun t k => XS.iloadN X25.here hx rfl (hb hby d2_95) rfl k) ?_
                      refine own_pre (B := T25.setTop (mkF m 99 #[.val (.int p0)] [(.int (894 : Int32)), (.int p0)])) (fun t k => XS.sipush X25.here hx rfl (hb hby d2_96) k) ?_
                      by_cases hc28 : p0 = (894 : Int32)
                      · have hr29 := hr27.trans (if_pos hc28)
                        refine own_pre (B := T25.setTop (mkF m 102 #[.val (.int p0)] [])) (fun t k => XS.icmpNo X25.here hx rfl (hb hby d2_99) rfl (teq hc28).2 k) ?_
                        refine own_pre (B := T25.setTop (mkF m 103 #[.val (.int p0)] [(.int (0 : Int32))])) (fun t k => XS.iconst X25.here hx rfl (hb hby d2_102) k) ?_
                        exact own_retZ X25 hx hlk Bd.returns (hb hby d2_103) ⟨own_someI hr29, N25, e25⟩ (by decide) (by decide)
                      · have hr30 := hr27.trans (if_neg hc28)
                        refine own_pre (B := T25.setTop (mkF m 104 #[.val (.int p0)] [])) (fun t k => XS.icmpYes X25.here hx rfl (pc0 := 99) (pc' := 104) rfl (hb hby d2_99) rfl (feq hc28).2 (by decide) (by decide) k) ?_
                        refine own_pre (B := T25.setTop (mkF m 105 #[.val (.int p0)] [(.int p0)])) (fun t k => XS.iloadN X25.here hx rfl (hb hby d2_104) rfl k) ?_
                        refine own_pre (B := T25.setTop (mkF m 108 #[.val (.int p0)] [(.int (8192 : Int32)), (.int p0)])) (fun t k => XS.sipush X25.here hx rfl (hb hby d2_105) k) ?_
                        refine own_pre (B := T25.setTop (mkF m 111 #[.val (.int p0)] [(.int (8203 : Int32)), (.int (8192 : Int32)), (.int p0)])) (fun t k => XS.sipush X25.here hx rfl (hb hby d2_108) k) ?_
                        obtain ⟨_, _, ⟨T31, L31, k31, n31⟩, -, X31, ⟨Lc31, hQ31, l31, y31, z31⟩, st31⟩ := Jvm.LawKit.callS X25 hx (y := (⟨"com/example/amberwire/amberwire/XmlCharactersIsNameStartPinLaw", "in", "(III)Z"⟩ : MethodName)) hown (mvT hZ (hw _ (List.mem_of_getElem? (i := 9) rfl))) (mvT hZ (hw _ (List.mem_of_getElem? (i := 10) rfl))) (mvT hZ (hw _ (List.mem_of_getElem? (i := 6) rfl))) (mvT hZ (hw _ (List.mem_of_getElem? (i := 11) rfl))) (by decide) (backOf (W := 0) (rm3 l Z a0 hw [] p0 (8192 : Int32) (8203 : Int32) h0 n0 Z0) hZ (hw _ (List.mem_of_getElem? (i := 11) rfl)) (hw _ (List.mem_of_getElem? (i := 6) rfl)) (by decide) (by decide)) (g := (mkF m 111 #[.val (.int p0)] [(.int (8203 : Int32)), (.int (8192 : Int32)), (.int p0)])) rfl (by rw [hml]; rfl) (argsL := [(.int p0), (.int (8192 : Int32)), (.int (8203 : Int32))]) (rest := []) (lenOf pd2_0 rfl) rfl (by show 2 * 0 + _ ≤ _; exact Nat.le_of_eq rfl) (hb hby d2_111) (fun _ _ => ⟨rfl, e25, (by decide : 0 + 0 ≤ _), (by decide : 0 + 0 ≤ _)⟩)
                        dsimp only [Pt.U, Pt.locs, Pt.cells, Pt.slots] at X31 l31 y31 z31 st31 hQ31
                        subst l31 y31 z31
                        obtain ⟨rfl, Nq31, e31⟩ := hQ31
                        have N31 := Fr.app N25 Nq31
                        refine own_pre (B := T31.setTop (mkF m 114 #[.val (.int p0)] [(.int (f3_0 p0 (8192 : Int32) (8203 : Int32)))])) st31 ?_
                        by_cases hc32 : (f3_0 p0 (8192 : Int32) (8203 : Int32)) = (0 : Int32)
                        · have hr33 := hr30.trans (if_pos hc32)
                          refine own_pre (B := T31.setTop (mkF m 119 #[.val (.int p0)] [])) (fun t k => XS.ifYes X31.here hx rfl (pc0 := 114) (pc' := 119) rfl (hb hby d2_114) rfl ((if0 _ _).trans (teq hc32).1) (by decide) (by decide) k) ?_
                          refine own_pre (B := T31.setTop (mkF m 120 #[.val (.int p0)] [(.int p0)])) (fun t k => XS.iloadN X31.here hx rfl (hb hby d2_119) rfl k) ?_
                          refine own_pre (B := T31.setTop (mkF m 123 #[.val (.int p0)] [(.int (8206 : Int32)), (.int p0)])) (fun t k => XS.sipush X31.here hx rfl (hb hby d2_120) k) ?_
                          refine own_pre (B := T31.setTop (mkF m 126 #[.val (.int p0)] [(.int (8303 : Int32)), (.int (8206 : Int32)), (.int p0)])) (fun t k => XS.sipush X31.here hx rfl (hb hby d2_123) k) ?_
                          obtain ⟨_, _, ⟨T34, L34, k34, n34⟩, -, X34, ⟨Lc34, hQ34, l34, y34, z34⟩, st34⟩ := Jvm.LawKit.callS X31 hx (y := (⟨"com/example/amberwire/amberwire/XmlCharactersIsNameStartPinLaw", "in", "(III)Z"⟩ : MethodName)) hown (mvT hZ (hw _ (List.mem_of_getElem? (i := 9) rfl))) (mvT hZ (hw _ (List.mem_of_getElem? (i := 10) rfl))) (mvT hZ (hw _ (List.mem_of_getElem? (i := 6) rfl))) (mvT hZ (hw _ (List.mem_of_getElem? (i := 11) rfl))) (by decide) (backOf (W := 0) (rm3 l Z a0 hw [] p0 (8206 : Int32) (8303 : Int32) h0 n0 Z0) hZ (hw _ (List.mem_of_getElem? (i := 11) rfl)) (hw _ (List.mem_of_getElem? (i := 6) rfl)) (by decide) (by decide)) (g := (mkF m 126 #[.val (.int p0)] [(.int (8303 : Int32)), (.int (8206 : Int32)), (.int p0)])) rfl (by rw [hml]; rfl) (argsL := [(.int p0), (.int (8206 : Int32)), (.int (8303 : Int32))]) (rest := []) (lenOf pd2_0 rfl) rfl (by show 2 * 0 + _ ≤ _; exact Nat.le_of_eq rfl) (hb hby d2_126) (fun _ _ => ⟨rfl, e31, (by decide : 0 + 0 ≤ _), (by decide : 0 + 0 ≤ _)⟩)
                          dsimp only [Pt.U, Pt.locs, Pt.cells, Pt.slots] at X34 l34 y34 z34 st34 hQ34
                          subst l34 y34 z34
                          obtain ⟨rfl, Nq34, e34⟩ := hQ34
                          have N34 := Fr.app N31 Nq34
                          refine own_pre (B := T34.setTop (mkF m 129 #[.val (.int p0)] [(.int (f3_0 p0 (8206 : Int32) (8303 : Int32)))])) st34 ?_
                          by_cases hc35 : (f3_0 p0 (8206 : Int32) (8303 : Int32)) = (0 : Int32)
                          · have hr36 := hr33.trans (if_pos hc35)
                            refine own_pre (B := T34.setTop (mkF m 134 #[.val (.int p0)] [])) (fun t k => XS.ifYes X34.here hx rfl (pc0 := 129) (pc' := 134) rfl (hb hby d2_129) rfl ((if0 _ _).trans (teq hc35).1) (by decide) (by decide) k) ?_
                            refine own_pre (B := T34.setTop (mkF m 135 #[.val (.int p0)] [(.int p0)])) (fun t k => XS.iloadN X34.here hx rfl (hb hby d2_134) rfl k) ?_
                            refine own_pre (B := T34.setTop (mkF m 138 #[.val (.int p0)] [(.int (8592 : Int32)), (.int p0)])) (fun t k => XS.sipush X34.here hx rfl (hb hby d2_135) k) ?_
                            refine own_pre (B := T34.setTop (mkF m 141 #[.val (.int p0)] [(.int (11263 : Int32)), (.int (8592 : Int32)), (.int p0)])) (fun t k => XS.sipush X34.here hx rfl (hb hby d2_138) k) ?_
                            obtain ⟨_, _, ⟨T37, L37, k37, n37⟩, -, X37, ⟨Lc37, hQ37, l37, y37, z37⟩, st37⟩ := Jvm.LawKit.callS X34 hx (y := (⟨"com/example/amberwire/amberwire/XmlCharactersIsNameStartPinLaw", "in", "(III)Z"⟩ : MethodName)) hown (mvT hZ (hw _ (List.mem_of_getElem? (i := 9) rfl))) (mvT hZ (hw _ (List.mem_of_getElem? (i := 10) rfl))) (mvT hZ (hw _ (List.mem_of_getElem? (i := 6) rfl))) (mvT hZ (hw _ (List.mem_of_getElem? (i := 11) rfl))) (by decide) (backOf (W := 0) (rm3 l Z a0 hw [] p0 (8592 : Int32) (11263 : Int32) h0 n0 Z0) hZ (hw _ (List.mem_of_getElem? (i := 11) rfl)) (hw _ (List.mem_of_getElem? (i := 6) rfl)) (by decide) (by decide)) (g := (mkF m 141 #[.val (.int p0)] [(.int (11263 : Int32)), (.int (8592 : Int32)), (.int p0)])) rfl (by rw [hml]; rfl) (argsL := [(.int p0), (.int (8592 : Int32)), (.int (11263 : Int32))]) (rest := []) (lenOf pd2_0 rfl) rfl (by show 2 * 0 + _ ≤ _; exact Nat.le_of_eq rfl) (hb hby d2_141) (fun _ _ => ⟨rfl, e34, (by decide : 0 + 0 ≤ _), (by decide : 0 + 0 ≤ _)⟩)
                            dsimp only [Pt.U, Pt.locs, Pt.cells, Pt.slots] at X37 l37 y37 z37 st37 hQ37
                            subst l37 y37 z37
                            obtain ⟨rfl, Nq37, e37⟩ := hQ37
                            have N37 := Fr.app N34 Nq37
                            refine own_pre (B := T37.setTop (mkF m 144 #[.val (.int p0)] [(.int (f3_0 p0 (8592 : Int32) (11263 : Int32)))])) st37 ?_
                            by_cases hc38 : (f3_0 p0 (8592 : Int32) (11263 : Int32)) = (0 : Int32)
                            · have hr39 := hr36.trans (if_pos hc38)
                              refine own_pre (B := T37.setTop (mkF m 149 #[.val (.int p0)] [])) (fun t k => XS.ifYes X37.here hx rfl (pc0 := 144) (pc' := 149) rfl (hb hby d2_144) rfl ((if0 _ _).trans (teq hc38).1) (by decide) (by decide) k) ?_
                              refine own_pre (B := T37.setTop (mkF m 150 #[.val (.int p0)] [(.int p0)])) (fun t k => XS.iloadN X37.here hx rfl (hb hby d2_149) rfl k) ?_
                              refine own_pre (B := T37.setTop (mkF m 153 #[.val (.int p0)] [(.int (12272 : Int32)), (.int p0)])) (fun t k => XS.sipush X37.here hx rfl (hb hby d2_150) k) ?_
                              refine own_pre (B := T37.setTop (mkF m 156 #[.val (.int p0)] [(.int (12288 : Int32)), (.int (12272 : Int32)), (.int p0)])) (fun t k => XS.sipush X37.here hx rfl (hb hby d2_153) k) ?_
                              obtain ⟨_, _, ⟨T40, L40, k40, n40⟩, -, X40, ⟨Lc40, hQ40, l40, y40, z40⟩, st40⟩ := Jvm.LawKit.callS X37 hx (y := (⟨"com/example/amberwire/amberwire/XmlCharactersIsNameStartPinLaw", "in", "(III)Z"⟩ : MethodName)) hown (mvT hZ (hw _ (List.mem_of_getElem? (i := 9) rfl))) (mvT hZ (hw _ (List.mem_of_getElem? (i := 10) rfl))) (mvT hZ (hw _ (List.mem_of_getElem? (i := 6) rfl))) (mvT hZ (hw _ (List.mem_of_getElem? (i := 11) rfl))) (by decide) (backOf (W := 0) (rm3 l Z a0 hw [] p0 (12272 : Int32) (12288 : Int32) h0 n0 Z0) hZ (hw _ (List.mem_of_getElem? (i := 11) rfl)) (hw _ (List.mem_of_getElem? (i := 6) rfl)) (by decide) (by decide)) (g := (mkF m 156 #[.val (.int p0)] [(.int (12288 : Int32)), (.int (12272 : Int32)), (.int p0)])) rfl (by rw [hml]; rfl) (argsL := [(.int p0), (.int (12272 : Int32)), (.int (12288 : Int32))]) (rest := []) (lenOf pd2_0 rfl) rfl (by show 2 * 0 + _ ≤ _; exact Nat.le_of_eq rfl) (hb hby d2_156) (fun _ _ => ⟨rfl, e37, (by decide : 0 + 0 ≤ _), (by decide : 0 + 0 ≤ _)⟩)
                              dsimp only [Pt.U, Pt.locs, Pt.cells, Pt.slots] at X40 l40 y40 z40 st40 hQ40
                              subst l40 y40 z40
                              obtain ⟨rfl, Nq40, e40⟩ := hQ40
                              have N40 := Fr.app N37 Nq40
                              refine own_pre (B := T40.setTop (mkF m 159 #[.val (.int p0)] [(.int (f3_0 p0 (12272 : Int32) (12288 : Int32)))])) st40 ?_
                              by_cases hc41 : (f3_0 p0 (12272 : Int32) (12288 : Int32)) = (0 : Int32)
                              · have hr42 := hr39.trans (if_pos hc41)
                                refine own_pre (B := T40.setTop (mkF m 164 #[.val (.int p0)] [])) (fun t k => XS.ifYes X40.here hx rfl (pc0 := 159) (pc' := 164) rfl (hb hby d2_159) rfl ((if0 _ _).trans (teq hc41).1) (by decide) (by decide) k) ?_
                                refine own_pre (B := T40.setTop (mkF m 165 #[.val (.int p0)] [(.int p0)])) (fun t k => XS.iloadN X40.here hx rfl (hb hby d2_164) rfl k) ?_
                                refine own_pre (B := T40.setTop (mkF m 167 #[.val (.int p0)] [(.int (55296 : Int32)), (.int p0)])) (fun t k => X40.ldcInt hx hown (mvT hZ (hw _ (List.mem_of_getElem? (i := 12) rfl))) (g := (mkF m 165 #[.val (.int p0)] [(.int p0)])) rfl (hb hby d2_165) _ k) ?_
                                refine own_pre (B := T40.setTop (mkF m 169 #[.val (.int p0)] [(.int (63743 : Int32)), (.int (55296 : Int32)), (.int p0)])) (fun t k => X40.ldcInt hx hown (mvT hZ (hw _ (List.mem_of_getElem? (i := 13) rfl))) (g := (mkF m 167 #[.val (.int p0)] [(.int (55296 : Int32)), (.int p0)])) rfl (hb hby d2_167) _ k) ?_
                                obtain ⟨_, _, ⟨T43, L43, k43, n43⟩, -, X43, ⟨Lc43, hQ43, l43, y43, z43⟩, st43⟩ := Jvm.LawKit.callS X40 hx (y := (⟨"com/example/amberwire/amberwire/XmlCharactersIsNameStartPinLaw", "in", "(III)Z"⟩ : MethodName)) hown (mvT hZ (hw _ (List.mem_of_getElem? (i := 9) rfl))) (mvT hZ (hw _ (List.mem_of_getElem? (i := 10) rfl))) (mvT hZ (hw _ (List.mem_of_getElem? (i := 6) rfl))) (mvT hZ (hw _ (List.mem_of_getElem? (i := 11) rfl))) (by decide) (backOf (W := 0) (rm3 l Z a0 hw [] p0 (55296 : Int32) (63743 : Int32) h0 n0 Z0) hZ (hw _ (List.mem_of_getElem? (i := 11) rfl)) (hw _ (List.mem_of_getElem? (i := 6) rfl)) (by decide) (by decide)) (g := (mkF m 169 #[.val (.int p0)] [(.int (63743 : Int32)), (.int (55296 : Int32)), (.int p0)])) rfl (by rw [hml]; rfl) (argsL := [(.int p0), (.int (55296 : Int32)), (.int (63743 : Int32))]) (rest := []) (lenOf pd2_0 rfl) rfl (by show 2 * 0 + _ ≤ _; exact Nat.le_of_eq rfl) (hb hby d2_169) (fun _ _ => ⟨rfl, e40, (by decide : 0 + 0 ≤ _), (by decide : 0 + 0 ≤ _)⟩)
                                dsimp only [Pt.U, Pt.locs, Pt.cells, Pt.slots] at X43 l43 y43 z43 st43 hQ43
                                subst l43 y43 z43
                                obtain ⟨rfl, Nq43, e43⟩ := hQ43
                                have N43 := Fr.app N40 Nq43
                                refine own_pre (B := T43.setTop (mkF m 172 #[.val (.int p0)] [(.int (f3_0 p0 (55296 : Int32) (63743 : Int32)))])) st43 ?_
                                by_cases hc44 : (f3_0 p0 (55296 : Int32) (63743 : Int32)) = (0 : Int32)
                                · have hr45 := hr42.trans (if_pos hc44)
                                  refine own_pre (B := T43.setTop (mkF m 177 #[.val (.int p0)] [])) (fun t k => XS.ifYes X43.here hx rfl (pc0 := 172) (pc' := 177) rfl (hb hby d2_172) rfl ((if0 _ _).trans (teq hc44).1) (by decide) (by decide) k) ?_
                                  refine own_pre (B := T43.setTop (mkF m 178 #[.val (.int p0)] [(.int p0)])) (fun t k => XS.iloadN X43.here hx rfl (hb hby d2_177) rfl k) ?_
                                  refine own_pre (B := T43.setTop (mkF m 180 #[.val (.int p0)] [(.int (64976 : Int32)), (.int p0)])) (fun t k => X43.ldcInt hx hown (mvT hZ (hw _ (List.mem_of_getElem? (i := 14) rfl))) (g := (mkF m 178 #[.val (.int p0)] [(.int p0)])) rfl (hb hby d2_178) _ k) ?_
                                  refine own_pre (B := T43.setTop (mkF m 182 #[.val (.int p0)] [(.int (65007 : Int32)), (.int (64976 : Int32)), (.int p0)])) (fun t k => X43.ldcInt hx hown (mvT hZ (hw _ (List.mem_of_getElem? (i := 15) rfl))) (g := (mkF m 180 #[.val (.int p0)] [(.int (64976 : Int32)), (.int p0)])) rfl (hb hby d2_180) _ k) ?_
                                  obtain ⟨_, _, ⟨T46, L46, k46, n46⟩, -, X46, ⟨Lc46, hQ46, l46, y46, z46⟩, st46⟩ := Jvm.LawKit.callS X43 hx (y := (⟨"com/example/amberwire/amberwire/XmlCharactersIsNameStartPinLaw", "in", "(III)Z"⟩ : MethodName)) hown (mvT hZ (hw _ (List.mem_of_getElem? (i := 9) rfl))) (mvT hZ (hw _ (List.mem_of_getElem? (i := 10) rfl))) (mvT hZ (hw _ (List.mem_of_getElem? (i := 6) rfl))) (mvT hZ (hw _ (List.mem_of_getElem? (i := 11) rfl))) (by decide) (backOf (W := 0) (rm3 l Z a0 hw [] p0 (64976 : Int32) (65007 : Int32) h0 n0 Z0) hZ (hw _ (List.mem_of_getElem? (i := 11) rfl)) (hw _ (List.mem_of_getElem? (i := 6) rfl)) (by decide) (by decide)) (g := (mkF m 182 #[.val (.int p0)] [(.int (65007 : Int32)), (.int (64976 : Int32)), (.int p0)])) rfl (by rw [hml]; rfl) (argsL := [(.int p0), (.int (64976 : Int32)), (.int (65007 : Int32))]) (rest := []) (lenOf pd2_0 rfl) rfl (by show 2 * 0 + _ ≤ _; exact Nat.le_of_eq rfl) (hb hby d2_182) (fun _ _ => ⟨rfl, e43, (by decide : 0 + 0 ≤ _), (by decide : 0 + 0 ≤ _)⟩)
                                  dsimp only [Pt.U, Pt.locs, Pt.cells, Pt.slots] at X46 l46 y46 z46 st46 hQ46
                                  subst l46 y46 z46
                                  obtain ⟨rfl, Nq46, e46⟩ := hQ46
                                  have N46 := Fr.app N43 Nq46
                                  refine own_pre (B := T46.setTop (mkF m 185 #[.val (.int p0)] [(.int (f3_0 p0 (64976 : Int32) (65007 : Int32)))])) st46 ?_
                                  by_cases hc47 : (f3_0 p0 (64976 : Int32) (65007 : Int32)) = (0 : Int32)
                                  · have hr48 := hr45.trans (if_pos hc47)
                                    refine own_pre (B := T46.setTop (mkF m 190 #[.val (.int p0)] [])) (fun t k => XS.ifYes X46.here hx rfl (pc0 := 185) (pc' := 190) rfl (hb hby d2_185) rfl ((if0 _ _).trans (teq hc47).1) (by decide) (by decide) k) ?_
                                    refine own_pre (B := T46.setTop (mkF m 191 #[.val (.int p0)] [(.int p0)])) (fun t k => XS.iloadN X46.here hx rfl (hb hby d2_190) rfl k) ?_
                                    refine own_pre (B := T46.setTop (mkF m 193 #[.val (.int p0)] [(.int (65534 : Int32)), (.int p0)])) (fun t k => X46.ldcInt hx hown (mvT hZ (hw _ (List.mem_of_getElem? (i := 16) rfl))) (g := (mkF m 191 #[.val (.int p0)] [(.int p0)])) rfl (hb hby d2_191) _ k) ?_
                                    refine own_pre (B := T46.setTop (mkF m 195 #[.val (.int p0)] [(.int (65535 : Int32)), (.int (65534 : Int32)), (.int p0)])) (fun t k => X46.ldcInt hx hown (mvT hZ (hw _ (List.mem_of_getElem? (i := 17) rfl))) (g := (mkF m 193 #[.val (.int p0)] [(.int (65534 : Int32)), (.int p0)])) rfl (hb hby d2_193) _ k) ?_
                                    obtain ⟨_, _, ⟨T49, L49, k49, n49⟩, -, X49, ⟨Lc49, hQ49, l49, y49, z49⟩, st49⟩ := Jvm.LawKit.callS X46 hx (y := (⟨"com/example/amberwire/amberwire/XmlCharactersIsNameStartPinLaw", "in", "(III)Z"⟩ : MethodName)) hown (mvT hZ (hw _ (List.mem_of_getElem? (i := 9) rfl))) (mvT hZ (hw _ (List.mem_of_getElem? (i := 10) rfl))) (mvT hZ (hw _ (List.mem_of_getElem? (i := 6) rfl))) (mvT hZ (hw _ (List.mem_of_getElem? (i := 11) rfl))) (by decide) (backOf (W := 0) (rm3 l Z a0 hw [] p0 (65534 : Int32) (65535 : Int32) h0 n0 Z0) hZ (hw _ (List.mem_of_getElem? (i := 11) rfl)) (hw _ (List.mem_of_getElem? (i := 6) rfl)) (by decide) (by decide)) (g := (mkF m 195 #[.val (.int p0)] [(.int (65535 : Int32)), (.int (65534 : Int32)), (.int p0)])) rfl (by rw [hml]; rfl) (argsL := [(.int p0), (.int (65534 : Int32)), (.int (65535 : Int32))]) (rest := []) (lenOf pd2_0 rfl) rfl (by show 2 * 0 + _ ≤ _; exact Nat.le_of_eq rfl) (hb hby d2_195) (fun _ _ => ⟨rfl, e46, (by decide : 0 + 0 ≤ _), (by decide : 0 + 0 ≤ _)⟩)
                                    dsimp only [Pt.U, Pt.locs, Pt.cells, Pt.slots] at X49 l49 y49 z49 st49 hQ49
                                    subst l49 y49 z49
                                    obtain ⟨rfl, Nq49, e49⟩ := hQ49
                                    have N49 := Fr.app N46 Nq49
                                    refine own_pre (B := T49.setTop (mkF m 198 #[.val (.int p0)] [(.int (f3_0 p0 (65534 : Int32) (65535 : Int32)))])) st49 ?_
                                    by_cases hc50 : (f3_0 p0 (65534 : Int32) (65535 : Int32)) = (0 : Int32)
                                    · have hr51 := hr48.trans (if_pos hc50)
                                      refine own_pre (B := T49.setTop (mkF m 203 #[.val (.int p0)] [])) (fun t k => XS.ifYes X49.here hx rfl (pc0 := 198) (pc' := 203) rfl (hb hby d2_198) rfl ((if0 _ _).trans (teq hc50).1) (by decide) (by decide) k) ?_
                                      refine own_pre (B := T49.setTop (mkF m 204 #[.val (.int p0)] [(.int (1 : Int32))])) (fun t k => XS.iconst X49.here hx rfl (hb hby d2_203) k) ?_
                                      exact own_retZ X49 hx hlk Bd.returns (hb hby d2_204) ⟨own_someI hr51, N49, e49⟩ (by decide) (by decide)
                                    · have hr52 := hr48.trans (if_neg hc50)
                                      refine own_pre (B := T49.setTop (mkF m 201 #[.val (.int p0)] [])) (fun t k => XS.ifNo X49.here hx rfl (hb hby d2_198) rfl ((if0 _ _).trans (feq hc50).1) k) ?_
                                      refine own_pre (B := T49.setTop (mkF m 202 #[.val (.int p0)] [(.int (0 : Int32))])) (fun t k => XS.iconst X49.here hx rfl (hb hby d2_201) k) ?_
                                      exact own_retZ X49 hx hlk Bd.returns (hb hby d2_202) ⟨own_someI hr52, N49, e49⟩ (by decide) (by decide)
                                  · have hr53 := hr45.trans (if_neg hc47)
                                    refine own_pre (B := T46.setTop (mkF m 188 #[.val (.int p0)] [])) (fun t k => XS.ifNo X46.here hx rfl (hb hby d2_185) rfl ((if0 _ _).trans (feq hc47).1) k) ?_
                                    refine own_pre (B := T46.setTop (mkF m 189 #[.val (.int p0)] [(.int (0 : Int32))])) (fun t k => XS.iconst X46.here hx rfl (hb hby d2_188) k) ?_
                                    exact own_retZ X46 hx hlk Bd.returns (hb hby d2_189) ⟨own_someI hr53, N46, e46⟩ (by decide) (by decide)
                                · have hr54 := hr42.trans (if_neg hc44)
                                  refine own_pre (B := T43.setTop (mkF m 175 #[.val (.int p0)] [])) (fun t k => XS.ifNo X43.here hx rfl (hb hby d2_172) rfl ((if0 _ _).trans (feq hc44).1) k) ?_
                                  refine own_pre (B := T43.setTop (mkF m 176 #[.val (.int p0)] [(.int (0 : Int32))])) (fun t k => XS.iconst X43.here hx rfl (hb hby d2_175) k) ?_
                                  exact own_retZ X43 hx hlk Bd.returns (hb hby d2_176) ⟨own_someI hr54, N43, e43⟩ (by decide) (by decide)
                              · have hr55 := hr39.trans (if_neg hc41)
                                refine own_pre (B := T40.setTop (mkF m 162 #[.val (.int p0)] [])) (fun t k => XS.ifNo X40.here hx rfl (hb hby d2_159) rfl ((if0 _ _).trans (feq hc41).1) k) ?_
                                refine own_pre (B := T40.setTop (mkF m 163 #[.val (.int p0)] [(.int (0 : Int32))])) (fun t k => XS.iconst X40.here hx rfl (hb hby d2_162) k) ?_
                                exact own_retZ X40 hx hlk Bd.returns (hb hby d2_163) ⟨own_someI hr55, N40, e40⟩ (by decide) (by decide)
                            · have hr56 := hr36.trans (if_neg hc38)
                              refine own_pre (B := T37.setTop (mkF m 147 #[.val (.int p0)] [])) (fun t k => XS.ifNo X37.here hx rfl (hb hby d2_144) rfl ((if0 _ _).trans (feq hc38).1) k) ?_
                              refine own_pre (B := T37.setTop (mkF m 148 #[.val (.int p0)] [(.int (0 : Int32))])) (fun t k => XS.iconst X37.here hx rfl (hb hby d2_147) k) ?_
                              exact own_retZ X37 hx hlk Bd.returns (hb hby d2_148) ⟨own_someI hr56, N37, e37⟩ (by decide) (by decide)
                          · have hr57 := hr33.trans (if_neg hc35)
                            refine own_pre (B := T34.setTop (mkF m 132 #[.val (.int p0)] [])) (fun t k => XS.ifNo X34.here hx rfl (hb hby d2_129) rfl ((if0 _ _).trans (feq hc35).1) k) ?_
                            refine own_pre (B := T34.setTop (mkF m 133 #[.val (.int p0)] [(.int (0 : Int32))])) (fun t k => XS.iconst X34.here hx rfl (hb hby d2_132) k) ?_
                            exact own_retZ X34 hx hlk Bd.returns (hb hby d2_133) ⟨own_someI hr57, N34, e34⟩ (by decide) (by decide)
                        · have hr58 := hr30.trans (if_neg hc32)
                          refine own_pre (B := T31.setTop (mkF m 117 #[.val (.int p0)] [])) (fun t k => XS.ifNo X31.here hx rfl (hb hby d2_114) rfl ((if0 _ _).trans (feq hc32).1) k) ?_
                          refine own_pre (B := T31.setTop (mkF m 118 #[.val (.int p0)] [(.int (0 : Int32))])) (fun t k => XS.iconst X31.here hx rfl (hb hby d2_117) k) ?_
                          exact own_retZ X31 hx hlk Bd.returns (hb hby d2_118) ⟨own_someI hr58, N31, e31⟩ (by decide) (by decide)
                    · have hr59 := hr24.trans (if_neg hc26)
                      refine own_pre (B := T25.setTop (mkF m 93 #[.val (.int p0)] [])) (fun t k => XS.ifNo X25.here hx rfl (hb hby d2_90) rfl ((if0 _ _).trans (feq hc26).1) k) ?_
                      refine own_pre (B := T25.setTop (mkF m 94 #[.val (.int p0)] [(.int (0 : Int32))])) (fun t k => XS.iconst X25.here hx rfl (hb hby d2_93) k) ?_
                      exact own_retZ X25 hx hlk Bd.returns (hb hby d2_94) ⟨own_someI hr59, N25, e25⟩ (by decide) (by decide)
              · have hr60 := hr15.trans (if_neg hc17)
                refine own_pre (B := T16.setTop (mkF m 60 #[.val (.int p0)] [])) (fun t k => XS.ifNo X16.here hx rfl (hb hby d2_57) rfl ((if0 _ _).trans (feq hc17).1) k) ?_
                refine own_pre (B := T16.setTop (mkF m 61 #[.val (.int p0)] [(.int (0 : Int32))])) (fun t k => XS.iconst X16.here hx rfl (hb hby d2_60) k) ?_
                exact own_retZ X16 hx hlk Bd.returns (hb hby d2_61) ⟨own_someI hr60, N16, e16⟩ (by decide) (by decide)
          · have hr61 := hr9.trans (if_neg hc11)
            refine own_pre (B := T10.setTop (mkF m 38 #[.val (.int p0)] [])) (fun t k => XS.ifNo X10.here hx rfl (hb hby d2_35) rfl ((if0 _ _).trans (feq hc11).1) k) ?_
            refine own_pre (B := T10.setTop (mkF m 39 #[.val (.int p0)] [(.int (0 : Int32))])) (fun t k => XS.iconst X10.here hx rfl (hb hby d2_38) k) ?_
            exact own_retZ X10 hx hlk Bd.returns (hb hby d2_39) ⟨own_someI hr61, N10, e10⟩ (by decide) (by decide)
        · have hr62 := hr6.trans (if_neg hc8)
          refine own_pre (B := T7.setTop (mkF m 25 #[.val (.int p0)] [])) (fun t k => XS.ifNo X7.here hx rfl (hb hby d2_22) rfl ((if0 _ _).trans (feq hc8).1) k) ?_
          refine own_pre (B := T7.setTop (mkF m 26 #[.val (.int p0)] [(.int (0 : Int32))])) (fun t k => XS.iconst X7.here hx rfl (hb hby d2_25) k) ?_
          exact own_retZ X7 hx hlk Bd.returns (hb hby d2_26) ⟨own_someI hr62, N7, e7⟩ (by decide) (by decide)
  exact own_pre pre0 (g_0 _ rfl)
/-! body 0 -/
theorem pn_0 : plainName "com/example/amberwire/amberwire/XmlCharactersIsNameStartPinLaw" = true := by first | (simp [plainName, overriddenIn]; done) | decide +kernel
theorem pd0_0 : parseMethodDescriptor "(I)Z" = some ⟨[.int], some .boolean⟩ := by decide +kernel
theorem ef_0 (m : MethodId) (p0 : Int32) : entryFrame m #[(.int p0)] maxLocals = mkF m 0 #[.val (.int p0)] [] := by first | (simp [entryFrame, mkF, argsToLocals, Value.category, maxLocals]; done) | rfl
def f0_16 (p0 : Int32) (t0 : Int32) : Int32 := (t0 &&& 1)
def f0_0 (p0 : Int32) : Int32 := (if (f1_0 p0) = (f2_0 p0) then (f0_16 p0 (1 : Int32)) else (f0_16 p0 (0 : Int32)))
def Q0 (p0 : Int32) (h0 : Heap) (n0 : Nat) (v : Option Value) (h : Heap) (L : List Loc) : Prop := v = some (.int (f0_0 p0)) ∧ Fr n0 L
set_option maxRecDepth 65536 in
set_option maxHeartbeats 40000000 in
theorem rm0 (l : Launch) (Z : State) (a0 : Array Value) (hw : ∀ d ∈ tables_1, d.before a0 Z = true) (ws : List Jvm.Cond) (p0 : Int32) (h0 : Heap) (n0 : Nat) (Z0 : n0 ≤ h0.size) :
    MetFree l x (head1 (Jvm.Cond.code x code maxLocals ret :: ws) room_1) (fun a U => a = #[(.int p0)] ∧ Z.Warmed39 U.vm ∧ U.heap = h0) (fun _ _ _ _ _ => True) (fun _ U o U' => ∃ v L, o = .returned v ∧ Q0 p0 h0 n0 v U'.heap L ∧ FrameEnd U o U' L room_1.cells room_1.slots) := by
  refine MetFree.of_bodySF (plainFor_of_name pn_0) hisR ?_
  intro p e s m args below meth c s₁ Bd hml0 hP hK
  obtain ⟨rfl, hZ, hh⟩ := hP
  have hx := Bd.exec
  have hby := Bd.bytes
  have hml : c.maxLocals = 1 := hml0
  have hlk : meth.locks = false := BodyLoose.notSynchronized Bd
  have hown : s.vm.findClass "com/example/amberwire/amberwire/XmlCharactersIsNameStartPinLaw" = some m.cls := findClass_of_methodNamed Bd.named
  have X0 : Stand p l e room_1 s m #[(.int p0)] below meth c s₁ [] 0 0 := Stand.of_body Bd
  have e0 : s₁.heap = h0 := by rw [← hh, Bd.state]; rfl
  have N0 := Fr.nil n0
  have Zs0 : n0 ≤ s₁.heap.size := by rw [e0]; exact Z0
  have pre0 : ∀ t, Steps p.tables e below (s₁.setTop (mkF m 0 #[.val (.int p0)] [])) t → Steps p.tables e below (s₁.setTop (entryFrame m #[(.int p0)] maxLocals)) t := fun t k => castTop (ef_0 m p0) k
  have hnm := (name_of_methodNamed Bd.named Bd.method).1
  have g_16 : ∀ (T : State) (locs : List Loc) (X : Stand p l e room_1 s m #[(.int p0)] below meth c T locs 0 0) (N : Fr n0 locs) (Zs : n0 ≤ T.heap.size) (t0 : Int32)  (r : Int32), r = f0_16 p0 t0 → own_Fin p e below s (fun v h L => v = some (.int r) ∧ Fr n0 L) room_1.cells room_1.slots (T.setTop (mkF m 16 #[.val (.int p0)] [(.int t0)])) := by
    intro T locs X N Zs t0  r hr
    have hr : r = (t0 &&& 1) := hr
    exact own_retZ X hx hlk Bd.returns (hb hby at_16) ⟨own_someI hr, N⟩ (by decide) (by decide)
  have g_0 : ∀ r, r = f0_0 p0 → own_Fin p e below s (fun v h L => v = some (.int r) ∧ Fr n0 L) room_1.cells room_1.slots (s₁.setTop (mkF m 0 #[.val (.int p0)] [])) := by
    intro r hr
    have hr : r = (if (f1_0 p0) = (f2_0 p0) then (f0_16 p0 (1 : Int32)) else (f0_16 p0 (0 : Int32))) := hr
    refine own_pre (B := s₁.setTop (mkF m 1 #[.val (.int p0)] [(.int p0)])) (fun t k => XS.iloadN X0.here hx rfl (hb hby at_0) rfl k) ?_
    obtain ⟨_, _, ⟨T1, L1, k1, n1⟩, -, X1, ⟨Lc1, hQ1, l1, y1, z1⟩, st1⟩ := Jvm.LawKit.callS X0 hx (y := (⟨"com/example/amberwire/amberwire/XmlCharacters", "isNameStart", "(I)Z"⟩ : MethodName)) hown (mvT hZ (hw _ (List.mem_of_getElem? (i := 0) rfl))) (mvT hZ (hw _ (List.mem_of_getElem? (i := 1) rfl))) (mvT hZ (hw _ (List.mem_of_getElem? (i := 2) rfl))) (mvT hZ (hw _ (List.mem_of_getElem? (i := 3) rfl))) (by decide) (backOf (W := 0) (rm1 l Z a0 hw [] p0 h0 n0 Z0) hZ (hw _ (List.mem_of_getElem? (i := 3) rfl)) (hw _ (List.mem_of_getElem? (i := 2) rfl)) (by decide) (by decide)) (g := (mkF m 1 #[.val (.int p0)] [(.int p0)])) rfl (by rw [hml]; rfl) (argsL := [(.int p0)]) (rest := []) (lenOf pd0_0 rfl) rfl (by show 2 * 0 + _ ≤ _; exact Nat.le_of_eq rfl) (hb hby at_1) (fun _ _ => ⟨rfl, e0, (by decide : 0 + 0 ≤ _), (by decide : 0 + 0 ≤ _)⟩)
    dsimp only [Pt.U, Pt.locs, Pt.cells, Pt.slots] at X1 l1 y1 z1 st1 hQ1
    subst l1 y1 z1
    obtain ⟨rfl, Nq1, e1⟩ := hQ1
    have N1 := Fr.app N0 Nq1
    have Zs1 : n0 ≤ T1.heap.size := by rw [e1]; exact Z0
    refine own_pre (B := T1.setTop (mkF m 4 #[.val (.int p0)] [(.int (f1_0 p0))])) st1 ?_
    refine own_pre (B := T1.setTop (mkF m 5 #[.val (.int p0)] [(.int p0), (.int (f1_0 p0))])) (fun t k => XS.iloadN X1.here hx rfl (hb hby at_4) rfl k) ?_
    obtain ⟨_, _, ⟨T2, L2, k2, n2⟩, -, X2, ⟨Lc2, hQ2, l2, y2, z2⟩, st2⟩ := Jvm.LawKit.callS X1 hx (y := (⟨"com/example/amberwire/amberwire/XmlCharactersIsNameStartPinLaw", "reference", "(I)Z"⟩ : MethodName)) hown (mvT hZ (hw _ (List.mem_of_getElem? (i := 4) rfl))) (mvT hZ (hw _ (List.mem_of_getElem? (i := 5) rfl))) (mvT hZ (hw _ (List.mem_of_getElem? (i := 6) rfl))) (mvT hZ (hw _ (List.mem_of_getElem? (i := 7) rfl))) (by decide) (backOf (W := 1) (rm2 l Z a0 hw [] p0 h0 n0 Z0) hZ (hw _ (List.mem_of_getElem? (i := 7) rfl)) (hw _ (List.mem_of_getElem? (i := 6) rfl)) (by decide) (by decide)) (g := (mkF m 5 #[.val (.int p0)] [(.int p0), (.int (f1_0 p0))])) rfl (by rw [hml]; rfl) (argsL := [(.int p0)]) (rest := [(.int (f1_0 p0))]) (lenOf pd0_0 rfl) rfl (by show 2 * 0 + _ ≤ _; exact Nat.le_of_eq rfl) (hb hby at_5) (fun _ _ => ⟨rfl, e1, (by decide : 0 + 0 ≤ _), (by decide : 0 + 0 ≤ _)⟩)
    dsimp only [Pt.U, Pt.locs, Pt.cells, Pt.slots] at X2 l2 y2 z2 st2 hQ2
    subst l2 y2 z2
    obtain ⟨rfl, Nq2, e2⟩ := hQ2
    have N2 := Fr.app N1 Nq2
    have Zs2 : n0 ≤ T2.heap.size := by rw [e2]; exact Z0
    refine own_pre (B := T2.setTop (mkF m 8 #[.val (.int p0)] [(.int (f2_0 p0)), (.int (f1_0 p0))])) st2 ?_
    by_cases hc3 : (f1_0 p0) = (f2_0 p0)
    · have hr4 := hr.trans (if_pos hc3)
      refine own_pre (B := T2.setTop (mkF m 11 #[.val (.int p0)] [])) (fun t k => XS.icmpNo X2.here hx rfl (hb hby at_8) rfl (teq hc3).2 k) ?_
      refine own_pre (B := T2.setTop (mkF m 12 #[.val (.int p0)] [(.int (1 : Int32))])) (fun t k => XS.iconst X2.here hx rfl (hb hby at_11) k) ?_
      refine own_pre (B := T2.setTop (mkF m 16 #[.val (.int p0)] [(.int (1 : Int32))])) (fun t k => XS.goto X2.here hx rfl (pc0 := 12) (pc' := 16) rfl (hb hby at_12) (by decide) (by decide) k) ?_
      exact g_16 T2 _ X2 N2 Zs2 (1 : Int32) _ hr4
    · have hr5 := hr.trans (if_neg hc3)
      refine own_pre (B := T2.setTop (mkF m 15 #[.val (.int p0)] [])) (fun t k => XS.icmpYes X2.here hx rfl (pc0 := 8) (pc' := 15) rfl (hb hby at_8) rfl (feq hc3).2 (by decide) (by decide) k) ?_
      refine own_pre (B := T2.setTop (mkF m 16 #[.val (.int p0)] [(.int (0 : Int32))])) (fun t k => XS.iconst X2.here hx rfl (hb hby at_15) k) ?_
      exact g_16 T2 _ X2 N2 Zs2 (0 : Int32) _ hr5
  exact own_pre pre0 (g_0 _ rfl)
/-! the plain law -/
theorem own_seg {c lo hi x : Int32} {a b : Int} {P : Prop} [Decidable P] (hlo : lo.toInt = a) (hhi : hi.toInt = b) (hx : x = if P then 1 else 0) : (if c < lo then x else if hi < c then x else (1 : Int32)) = if (a ≤ c.toInt ∧ c.toInt ≤ b) ∨ P then 1 else 0 := by
  have l1 : c < lo ↔ c.toInt < a := by rw [Int32.lt_iff_toInt_lt, hlo]
  have l2 : hi < c ↔ b < c.toInt := by rw [Int32.lt_iff_toInt_lt, hhi]
  by_cases h1 : c < lo
  · have := l1.mp h1
    rw [if_pos h1, hx]
    by_cases p : P
    · rw [if_pos p, if_pos (Or.inr p)]
    · rw [if_neg p, if_neg (fun q => q.elim (fun q => by omega) p)]
  · have : ¬ c.toInt < a := fun q => h1 (l1.mpr q)
    rw [if_neg h1]
    by_cases h2 : hi < c
    · have := l2.mp h2
      rw [if_pos h2, hx]
      by_cases p : P
      · rw [if_pos p, if_pos (Or.inr p)]
      · rw [if_neg p, if_neg (fun q => q.elim (fun q => by omega) p)]
    · have : ¬ b < c.toInt := fun q => h2 (l2.mpr q)
      rw [if_neg h2, if_pos (Or.inl ⟨by omega, by omega⟩)]
theorem own_seg0 {c lo hi : Int32} {a b : Int} (hlo : lo.toInt = a) (hhi : hi.toInt = b) : (if c < lo then (0 : Int32) else if hi < c then 0 else (1 : Int32)) = if a ≤ c.toInt ∧ c.toInt ≤ b then 1 else 0 := by
  have l1 : c < lo ↔ c.toInt < a := by rw [Int32.lt_iff_toInt_lt, hlo]
  have l2 : hi < c ↔ b < c.toInt := by rw [Int32.lt_iff_toInt_lt, hhi]
  simp only [l1, l2]
  split
  · rw [if_neg (by omega)]
  · split
    · rw [if_neg (by omega)]
    · rw [if_pos (by omega)]
theorem own_int {c : Int32} (k : Int32) {a : Int} (h : k.toInt = a) : c = k ↔ c.toInt = a := ⟨fun q => by rw [q, h], fun q => Int32.toInt_inj.mp (q.trans h.symm)⟩
theorem own_s198 (c : Int32) : f1_198 c = if 65536 ≤ c.toInt ∧ c.toInt ≤ 983039 then 1 else 0 := own_seg0 (c := c) (lo := 65536) (hi := 983039) rfl rfl
theorem own_s186 (c : Int32) : f1_186 c = if (65008 ≤ c.toInt ∧ c.toInt ≤ 65533) ∨ (65536 ≤ c.toInt ∧ c.toInt ≤ 983039) then 1 else 0 := own_seg (c := c) (lo := 65008) (hi := 65533) rfl rfl (own_s198 c)
theorem own_s174 (c : Int32) : f1_174 c = if (63744 ≤ c.toInt ∧ c.toInt ≤ 64975) ∨ ((65008 ≤ c.toInt ∧ c.toInt ≤ 65533) ∨ (65536 ≤ c.toInt ∧ c.toInt ≤ 983039)) then 1 else 0 := own_seg (c := c) (lo := 63744) (hi := 64975) rfl rfl (own_s186 c)
theorem own_s161 (c : Int32) : f1_161 c = if (12289 ≤ c.toInt ∧ c.toInt ≤ 55295) ∨ ((63744 ≤ c.toInt ∧ c.toInt ≤ 64975) ∨ ((65008 ≤ c.toInt ∧ c.toInt ≤ 65533) ∨ (65536 ≤ c.toInt ∧ c.toInt ≤ 983039))) then 1 else 0 := own_seg (c := c) (lo := 12289) (hi := 55295) rfl rfl (own_s174 c)
theorem own_s147 (c : Int32) : f1_147 c = if (11264 ≤ c.toInt ∧ c.toInt ≤ 12271) ∨ ((12289 ≤ c.toInt ∧ c.toInt ≤ 55295) ∨ ((63744 ≤ c.toInt ∧ c.toInt ≤ 64975) ∨ ((65008 ≤ c.toInt ∧ c.toInt ≤ 65533) ∨ (65536 ≤ c.toInt ∧ c.toInt ≤ 983039)))) then 1 else 0 := own_seg (c := c) (lo := 11264) (hi := 12271) rfl rfl (own_s161 c)
theorem own_s133 (c : Int32) : f1_133 c = if (8304 ≤ c.toInt ∧ c.toInt ≤ 8591) ∨ ((11264 ≤ c.toInt ∧ c.toInt ≤ 12271) ∨ ((12289 ≤ c.toInt ∧ c.toInt ≤ 55295) ∨ ((63744 ≤ c.toInt ∧ c.toInt ≤ 64975) ∨ ((65008 ≤ c.toInt ∧ c.toInt ≤ 65533) ∨ (65536 ≤ c.toInt ∧ c.toInt ≤ 983039))))) then 1 else 0 := own_seg (c := c) (lo := 8304) (hi := 8591) rfl rfl (own_s147 c)
theorem own_s119 (c : Int32) : f1_119 c = if (8204 ≤ c.toInt ∧ c.toInt ≤ 8205) ∨ ((8304 ≤ c.toInt ∧ c.toInt ≤ 8591) ∨ ((11264 ≤ c.toInt ∧ c.toInt ≤ 12271) ∨ ((12289 ≤ c.toInt ∧ c.toInt ≤ 55295) ∨ ((63744 ≤ c.toInt ∧ c.toInt ≤ 64975) ∨ ((65008 ≤ c.toInt ∧ c.toInt ≤ 65533) ∨ (65536 ≤ c.toInt ∧ c.toInt ≤ 983039)))))) then 1 else 0 := own_seg (c := c) (lo := 8204) (hi := 8205) rfl rfl (own_s133 c)
theorem own_s105 (c : Int32) : f1_105 c = if (895 ≤ c.toInt ∧ c.toInt ≤ 8191) ∨ ((8204 ≤ c.toInt ∧ c.toInt ≤ 8205) ∨ ((8304 ≤ c.toInt ∧ c.toInt ≤ 8591) ∨ ((11264 ≤ c.toInt ∧ c.toInt ≤ 12271) ∨ ((12289 ≤ c.toInt ∧ c.toInt ≤ 55295) ∨ ((63744 ≤ c.toInt ∧ c.toInt ≤ 64975) ∨ ((65008 ≤ c.toInt ∧ c.toInt ≤ 65533) ∨ (65536 ≤ c.toInt ∧ c.toInt ≤ 983039))))))) then 1 else 0 := own_seg (c := c) (lo := 895) (hi := 8191) rfl rfl (own_s119 c)
theorem own_s91 (c : Int32) : f1_91 c = if (880 ≤ c.toInt ∧ c.toInt ≤ 893) ∨ ((895 ≤ c.toInt ∧ c.toInt ≤ 8191) ∨ ((8204 ≤ c.toInt ∧ c.toInt ≤ 8205) ∨ ((8304 ≤ c.toInt ∧ c.toInt ≤ 8591) ∨ ((11264 ≤ c.toInt ∧ c.toInt ≤ 12271) ∨ ((12289 ≤ c.toInt ∧ c.toInt ≤ 55295) ∨ ((63744 ≤ c.toInt ∧ c.toInt ≤ 64975) ∨ ((65008 ≤ c.toInt ∧ c.toInt ≤ 65533) ∨ (65536 ≤ c.toInt ∧ c.toInt ≤ 983039)))))))) then 1 else 0 := own_seg (c := c) (lo := 880) (hi := 893) rfl rfl (own_s105 c)
theorem own_s77 (c : Int32) : f1_77 c = if (248 ≤ c.toInt ∧ c.toInt ≤ 767) ∨ ((880 ≤ c.toInt ∧ c.toInt ≤ 893) ∨ ((895 ≤ c.toInt ∧ c.toInt ≤ 8191) ∨ ((8204 ≤ c.toInt ∧ c.toInt ≤ 8205) ∨ ((8304 ≤ c.toInt ∧ c.toInt ≤ 8591) ∨ ((11264 ≤ c.toInt ∧ c.toInt ≤ 12271) ∨ ((12289 ≤ c.toInt ∧ c.toInt ≤ 55295) ∨ ((63744 ≤ c.toInt ∧ c.toInt ≤ 64975) ∨ ((65008 ≤ c.toInt ∧ c.toInt ≤ 65533) ∨ (65536 ≤ c.toInt ∧ c.toInt ≤ 983039))))))))) then 1 else 0 := own_seg (c := c) (lo := 248) (hi := 767) rfl rfl (own_s91 c)
theorem own_s63 (c : Int32) : f1_63 c = if (216 ≤ c.toInt ∧ c.toInt ≤ 246) ∨ ((248 ≤ c.toInt ∧ c.toInt ≤ 767) ∨ ((880 ≤ c.toInt ∧ c.toInt ≤ 893) ∨ ((895 ≤ c.toInt ∧ c.toInt ≤ 8191) ∨ ((8204 ≤ c.toInt ∧ c.toInt ≤ 8205) ∨ ((8304 ≤ c.toInt ∧ c.toInt ≤ 8591) ∨ ((11264 ≤ c.toInt ∧ c.toInt ≤ 12271) ∨ ((12289 ≤ c.toInt ∧ c.toInt ≤ 55295) ∨ ((63744 ≤ c.toInt ∧ c.toInt ≤ 64975) ∨ ((65008 ≤ c.toInt ∧ c.toInt ≤ 65533) ∨ (65536 ≤ c.toInt ∧ c.toInt ≤ 983039)))))))))) then 1 else 0 := own_seg (c := c) (lo := 216) (hi := 246) rfl rfl (own_s77 c)
theorem own_s31 (c : Int32) : f1_31 c = if c.toInt = 95 ∨ c.toInt = 58 then 1 else 0 := by
  unfold f1_31 f1_43 f1_48
  simp only [own_int (c := c) 95 (a := 95) rfl, own_int (c := c) 58 (a := 58) rfl]
  split
  · rw [if_pos (by omega)]; rfl
  · split
    · rw [if_pos (by omega)]; rfl
    · rw [if_neg (by omega)]; rfl
theorem own_s19 (c : Int32) : f1_19 c = if (97 ≤ c.toInt ∧ c.toInt ≤ 122) ∨ (c.toInt = 95 ∨ c.toInt = 58) then 1 else 0 := own_seg (c := c) (lo := 97) (hi := 122) rfl rfl (own_s31 c)
theorem own_sLo (c : Int32) : (if c < 65 then f1_19 c else if 90 < c then f1_19 c else f1_43 c) = if (65 ≤ c.toInt ∧ c.toInt ≤ 90) ∨ ((97 ≤ c.toInt ∧ c.toInt ≤ 122) ∨ (c.toInt = 95 ∨ c.toInt = 58)) then 1 else 0 := own_seg (c := c) (lo := 65) (hi := 90) rfl rfl (own_s19 c)
theorem own_sHi (c : Int32) : (if c < 192 then f1_63 c else if 214 < c then f1_63 c else f1_210 c) = if (192 ≤ c.toInt ∧ c.toInt ≤ 214) ∨ ((216 ≤ c.toInt ∧ c.toInt ≤ 246) ∨ ((248 ≤ c.toInt ∧ c.toInt ≤ 767) ∨ ((880 ≤ c.toInt ∧ c.toInt ≤ 893) ∨ ((895 ≤ c.toInt ∧ c.toInt ≤ 8191) ∨ ((8204 ≤ c.toInt ∧ c.toInt ≤ 8205) ∨ ((8304 ≤ c.toInt ∧ c.toInt ≤ 8591) ∨ ((11264 ≤ c.toInt ∧ c.toInt ≤ 12271) ∨ ((12289 ≤ c.toInt ∧ c.toInt ≤ 55295) ∨ ((63744 ≤ c.toInt ∧ c.toInt ≤ 64975) ∨ ((65008 ≤ c.toInt ∧ c.toInt ≤ 65533) ∨ (65536 ≤ c.toInt ∧ c.toInt ≤ 983039))))))))))) then 1 else 0 := own_seg (c := c) (lo := 192) (hi := 214) rfl rfl (own_s63 c)
theorem own_start (c : Int32) : f1_0 c = if c < 128 then (if (65 ≤ c.toInt ∧ c.toInt ≤ 90) ∨ ((97 ≤ c.toInt ∧ c.toInt ≤ 122) ∨ (c.toInt = 95 ∨ c.toInt = 58)) then 1 else 0) else (if (192 ≤ c.toInt ∧ c.toInt ≤ 214) ∨ ((216 ≤ c.toInt ∧ c.toInt ≤ 246) ∨ ((248 ≤ c.toInt ∧ c.toInt ≤ 767) ∨ ((880 ≤ c.toInt ∧ c.toInt ≤ 893) ∨ ((895 ≤ c.toInt ∧ c.toInt ≤ 8191) ∨ ((8204 ≤ c.toInt ∧ c.toInt ≤ 8205) ∨ ((8304 ≤ c.toInt ∧ c.toInt ≤ 8591) ∨ ((11264 ≤ c.toInt ∧ c.toInt ≤ 12271) ∨ ((12289 ≤ c.toInt ∧ c.toInt ≤ 55295) ∨ ((63744 ≤ c.toInt ∧ c.toInt ≤ 64975) ∨ ((65008 ≤ c.toInt ∧ c.toInt ≤ 65533) ∨ (65536 ≤ c.toInt ∧ c.toInt ≤ 983039))))))))))) then 1 else 0) := by
  unfold f1_0
  rw [own_sLo, own_sHi]
theorem own_f3 (c : Int32) (lo hi : Int32) {a b : Int} (hlo : lo.toInt = a) (hhi : hi.toInt = b) : f3_0 c lo hi = if a ≤ c.toInt ∧ c.toInt ≤ b then 1 else 0 := by
  unfold f3_0 f3_14 f3_15
  simp only [Int32.lt_iff_toInt_lt, hlo, hhi]
  split
  · rw [if_neg (by omega)]; rfl
  · split
    · rw [if_neg (by omega)]; rfl
    · rw [if_pos (by omega)]; rfl
theorem own_f3z (c : Int32) (lo hi : Int32) {a b : Int} (hlo : lo.toInt = a) (hhi : hi.toInt = b) : f3_0 c lo hi = 0 ↔ ¬ (a ≤ c.toInt ∧ c.toInt ≤ b) := by
  rw [own_f3 c lo hi hlo hhi]
  by_cases q : a ≤ c.toInt ∧ c.toInt ≤ b
  · rw [if_pos q]; exact ⟨fun h => absurd h (by decide), fun h => absurd q h⟩
  · rw [if_neg q]; exact ⟨fun _ => q, fun _ => rfl⟩
theorem own_f2 (c : Int32) : f2_0 c = if c.toInt < 58 ∨ 983039 < c.toInt ∨ (59 ≤ c.toInt ∧ c.toInt ≤ 64) ∨ (91 ≤ c.toInt ∧ c.toInt ≤ 94) ∨ c.toInt = 96 ∨ (123 ≤ c.toInt ∧ c.toInt ≤ 191) ∨ c.toInt = 215 ∨ c.toInt = 247 ∨ (768 ≤ c.toInt ∧ c.toInt ≤ 879) ∨ c.toInt = 894 ∨ (8192 ≤ c.toInt ∧ c.toInt ≤ 8203) ∨ (8206 ≤ c.toInt ∧ c.toInt ≤ 8303) ∨ (8592 ≤ c.toInt ∧ c.toInt ≤ 11263) ∨ (12272 ≤ c.toInt ∧ c.toInt ≤ 12288) ∨ (55296 ≤ c.toInt ∧ c.toInt ≤ 63743) ∨ (64976 ≤ c.toInt ∧ c.toInt ≤ 65007) ∨ (65534 ≤ c.toInt ∧ c.toInt ≤ 65535) then 0 else 1 := by
  unfold f2_0 f2_12
  simp only [Int32.lt_iff_toInt_lt, Int32.reduceToInt, own_f3z c 59 64 (a := 59) (b := 64) rfl rfl, own_f3z c 91 94 (a := 91) (b := 94) rfl rfl, own_int (c := c) 96 (a := 96) rfl, own_f3z c 123 191 (a := 123) (b := 191) rfl rfl, own_int (c := c) 215 (a := 215) rfl, own_int (c := c) 247 (a := 247) rfl, own_f3z c 768 879 (a := 768) (b := 879) rfl rfl, own_int (c := c) 894 (a := 894) rfl, own_f3z c 8192 8203 (a := 8192) (b := 8203) rfl rfl, own_f3z c 8206 8303 (a := 8206) (b := 8303) rfl rfl, own_f3z c 8592 11263 (a := 8592) (b := 11263) rfl rfl, own_f3z c 12272 12288 (a := 12272) (b := 12288) rfl rfl, own_f3z c 55296 63743 (a := 55296) (b := 63743) rfl rfl, own_f3z c 64976 65007 (a := 64976) (b := 65007) rfl rfl, own_f3z c 65534 65535 (a := 65534) (b := 65535) rfl rfl]
  by_cases h0 : c.toInt < 58
  · rw [if_pos h0, if_pos (Or.inl h0)]; rfl
  rw [if_neg h0]
  by_cases h1 : 983039 < c.toInt
  · rw [if_pos h1, if_pos (Or.inr (Or.inl h1))]; rfl
  rw [if_neg h1]
  by_cases h2 : (59 ≤ c.toInt ∧ c.toInt ≤ 64)
  · rw [if_neg (not_not_intro h2), if_pos (Or.inr (Or.inr (Or.inl h2)))]; rfl
  rw [if_pos h2]
  by_cases h3 : (91 ≤ c.toInt ∧ c.toInt ≤ 94)
  · rw [if_neg (not_not_intro h3), if_pos (Or.inr (Or.inr (Or.inr (Or.inl h3))))]; rfl
  rw [if_pos h3]
  by_cases h4 : c.toInt = 96
  · rw [if_pos h4, if_pos (Or.inr (Or.inr (Or.inr (Or.inr (Or.inl h4)))))]; rfl
  rw [if_neg h4]
  by_cases h5 : (123 ≤ c.toInt ∧ c.toInt ≤ 191)
  · rw [if_neg (not_not_intro h5), if_pos (Or.inr (Or.inr (Or.inr (Or.inr (Or.inr (Or.inl h5))))))]; rfl
  rw [if_pos h5]
  by_cases h6 : c.toInt = 215
  · rw [if_pos h6, if_pos (Or.inr (Or.inr (Or.inr (Or.inr (Or.inr (Or.inr (Or.inl h6)))))))]; rfl
  rw [if_neg h6]
  by_cases h7 : c.toInt = 247
  · rw [if_pos h7, if_pos (Or.inr (Or.inr (Or.inr (Or.inr (Or.inr (Or.inr (Or.inr (Or.inl h7))))))))]; rfl
  rw [if_neg h7]
  by_cases h8 : (768 ≤ c.toInt ∧ c.toInt ≤ 879)
  · rw [if_neg (not_not_intro h8), if_pos (Or.inr (Or.inr (Or.inr (Or.inr (Or.inr (Or.inr (Or.inr (Or.inr (Or.inl h8)))))))))]; rfl
  rw [if_pos h8]
  by_cases h9 : c.toInt = 894
  · rw [if_pos h9, if_pos (Or.inr (Or.inr (Or.inr (Or.inr (Or.inr (Or.inr (Or.inr (Or.inr (Or.inr (Or.inl h9))))))))))]; rfl
  rw [if_neg h9]
  by_cases h10 : (8192 ≤ c.toInt ∧ c.toInt ≤ 8203)
  · rw [if_neg (not_not_intro h10), if_pos (Or.inr (Or.inr (Or.inr (Or.inr (Or.inr (Or.inr (Or.inr (Or.inr (Or.inr (Or.inr (Or.inl h10)))))))))))]; rfl
  rw [if_pos h10]
  by_cases h11 : (8206 ≤ c.toInt ∧ c.toInt ≤ 8303)
  · rw [if_neg (not_not_intro h11), if_pos (Or.inr (Or.inr (Or.inr (Or.inr (Or.inr (Or.inr (Or.inr (Or.inr (Or.inr (Or.inr (Or.inr (Or.inl h11))))))))))))]; rfl
  rw [if_pos h11]
  by_cases h12 : (8592 ≤ c.toInt ∧ c.toInt ≤ 11263)
  · rw [if_neg (not_not_intro h12), if_pos (Or.inr (Or.inr (Or.inr (Or.inr (Or.inr (Or.inr (Or.inr (Or.inr (Or.inr (Or.inr (Or.inr (Or.inr (Or.inl h12)))))))))))))]; rfl
  rw [if_pos h12]
  by_cases h13 : (12272 ≤ c.toInt ∧ c.toInt ≤ 12288)
  · rw [if_neg (not_not_intro h13), if_pos (Or.inr (Or.inr (Or.inr (Or.inr (Or.inr (Or.inr (Or.inr (Or.inr (Or.inr (Or.inr (Or.inr (Or.inr (Or.inr (Or.inl h13))))))))))))))]; rfl
  rw [if_pos h13]
  by_cases h14 : (55296 ≤ c.toInt ∧ c.toInt ≤ 63743)
  · rw [if_neg (not_not_intro h14), if_pos (Or.inr (Or.inr (Or.inr (Or.inr (Or.inr (Or.inr (Or.inr (Or.inr (Or.inr (Or.inr (Or.inr (Or.inr (Or.inr (Or.inr (Or.inl h14)))))))))))))))]; rfl
  rw [if_pos h14]
  by_cases h15 : (64976 ≤ c.toInt ∧ c.toInt ≤ 65007)
  · rw [if_neg (not_not_intro h15), if_pos (Or.inr (Or.inr (Or.inr (Or.inr (Or.inr (Or.inr (Or.inr (Or.inr (Or.inr (Or.inr (Or.inr (Or.inr (Or.inr (Or.inr (Or.inr (Or.inl h15))))))))))))))))]; rfl
  rw [if_pos h15]
  by_cases h16 : (65534 ≤ c.toInt ∧ c.toInt ≤ 65535)
  · rw [if_neg (not_not_intro h16), if_pos (Or.inr (Or.inr (Or.inr (Or.inr (Or.inr (Or.inr (Or.inr (Or.inr (Or.inr (Or.inr (Or.inr (Or.inr (Or.inr (Or.inr (Or.inr (Or.inr (h16)))))))))))))))))]; rfl
  rw [if_pos h16]
  rw [if_neg (by rintro (h | h | h | h | h | h | h | h | h | h | h | h | h | h | h | h | h) <;> contradiction)]; rfl
theorem own_law (a : Int32) : f0_0 a = 1 := by
  have key : f1_0 a = f2_0 a := by
    have l1 : a < 128 ↔ a.toInt < 128 := by rw [Int32.lt_iff_toInt_lt]; rfl
    rw [own_start, own_f2]
    simp only [l1]
    generalize a.toInt = c
    by_cases h : c < 128
    · rw [if_pos h]
      by_cases q : (65 ≤ c ∧ c ≤ 90) ∨ ((97 ≤ c ∧ c ≤ 122) ∨ (c = 95 ∨ c = 58))
      · rw [if_pos q, if_neg (by omega)]
      · rw [if_neg q, if_pos (by omega)]
    · rw [if_neg h]
      by_cases q : (192 ≤ c ∧ c ≤ 214) ∨ ((216 ≤ c ∧ c ≤ 246) ∨ ((248 ≤ c ∧ c ≤ 767) ∨ ((880 ≤ c ∧ c ≤ 893) ∨ ((895 ≤ c ∧ c ≤ 8191) ∨ ((8204 ≤ c ∧ c ≤ 8205) ∨ ((8304 ≤ c ∧ c ≤ 8591) ∨ ((11264 ≤ c ∧ c ≤ 12271) ∨ ((12289 ≤ c ∧ c ≤ 55295) ∨ ((63744 ≤ c ∧ c ≤ 64975) ∨ ((65008 ≤ c ∧ c ≤ 65533) ∨ (65536 ≤ c ∧ c ≤ 983039)))))))))))
      · rw [if_pos q, if_neg (by omega)]
      · rw [if_neg q, if_pos (by omega)]
  unfold f0_0
  rw [if_pos key]; rfl
set_option maxRecDepth 65536 in
set_option maxHeartbeats 40000000 in
theorem comes_1 {Post : Tables → Env → Array Value → State → Outcome → State → Prop} (hpost : ∀ tb e args s v u, (limb_1_1.after args s (.returned v) u = true ∧ limb_1_2.after args s (.returned v) u = true ∧ True) → FrameEnd s (.returned v) u (Jvm.fieldLocs frame_1_writes args s ++ Jvm.arrayLocs frame_1_arrays args s ++ Jvm.staticLocs frame_1_statics s) 0 0 → Post tb e args s (.returned v) u) :
    ArmFor flags0 classFile x code maxLocals ret World_1 tables_1 room_1 Calls_1 rest_1 Pre_1 Post := by
  intro l hfl _ _ p e ha hc hk s m args below hf hA hF happ hP
  obtain ⟨hcalls, hrest, hpre⟩ := hP
  obtain ⟨-, -, -, hnamed, -, -, -, hat⟩ := (Spec.applies_iff hf).mp happ
  obtain ⟨hg, hn⟩ := and_e (Cond.before_iff.mp (show (Jvm.Cond.and given_1 narrow_1).before args s = true from hpre))
  obtain ⟨gg1, gg2⟩ := and_e hg
  obtain ⟨w0, rfl⟩ : ∃ w0 : Value, args = #[w0] := by
    have hs : args.size = 1 := by simpa [Cond.value, given_1] using gg1
    obtain ⟨L⟩ := args
    match L, hs with
    | [w0], _ => exact ⟨w0, rfl⟩
  have hw := fun d (hd : d ∈ tables_1) => atoms_spec (ws := Jvm.Cond.code x code maxLocals ret :: tables_1) hat d (List.mem_cons_of_mem _ hd)
  obtain ⟨i0, ei0⟩ := is_v gg2
  obtain rfl : w0 = (.int i0) := Option.some.inj ei0
  obtain ⟨n, o, h1, h2, h3, _, L, rfl, ⟨rfl, N⟩, hq⟩ := rm0 l s _ hw tables_1 i0 s.heap s.heap.size (Nat.le_refl _) p e ha hc hk s m _ below hf ((Spec.applies_iff_loose hf).mp happ).1 ⟨rfl, State.Warmed39.refl s, rfl⟩ trivial
  refine ⟨n, _, h1, h2, h3, hpost _ _ _ _ _ _ ⟨Cond.after_iff.mpr rfl, Cond.after_iff.mpr (eq_i res_at (Term.int_eval (1)) (congrArg Value.int (own_law i0))), trivial⟩ ⟨hq.1, hq.2.1, (hq.2.2.sift fun y hy => Or.inr (N y hy)).mono (by decide) (by decide)⟩⟩
theorem main_1_1 : Claimed_1_1 := comes_1 fun _ _ _ _ _ _ h hF => ⟨h.1, hF⟩
theorem main_1_2 : Claimed_1_2 := comes_1 fun _ _ _ _ _ _ h hF => ⟨h.2.1, hF⟩
end Jvm.Pilot.@@N@@
namespace Jvm.Pilot.@@N@@
open Jvm Jvm.ClassFile Sem Op Lib Jvm.Free Jvm.Stand Jvm.Pilot.@@N@@.Jvm.D
/-! MADE BY PROGRAM (witnessworld.py) out of the Statement's table words and the real class files: 7 classes; the members and pool entries that the words name. The judged class is class 1, her method 3. -/
namespace start1
open Jvm.ClassFile
def u (s : String) : CpInfo := .utf8 (stringToUtf16 s)
/-- a pool by its gaps: so many unusable entries, then the entry; so many at the end -/
def gap : Nat → List CpInfo → List CpInfo
  | 0, r => r
  | n + 1, r => .unusable :: gap n r
def poolList (es : List (Nat × CpInfo)) (last : Nat) : List CpInfo := es.foldr (fun e r => gap e.1 (e.2 :: r)) (gap last [])
def pool (es : List (Nat × CpInfo)) (last : Nat) : Array CpInfo := ⟨poolList es last⟩
def fileOf (pool : Array CpInfo) (this : Nat) (attrs : Array Attribute := #[]) (ms : Array MethodInfo := #[]) (fl : Nat := 33) (sup : Nat := 0) (ifs : Array Nat := #[]) (fds : Array FieldInfo := #[]) : ClassFile where
  minorVersion := 0
  majorVersion := 65
  constantPool := pool
  accessFlags := fl
  thisClass := this
  superClass := sup
  interfaces := ifs
  fields := fds
  methods := ms
  attributes := attrs
def plain (name : String) (sup : Option ClassId) : Class where
  name := name
  kind := .ordinary
  loader := none
  accessFlags := 33
  super := sup
  interfaces := #[]
  cf := none
  fields := #[]
  methods := #[]
  instanceTypes := #[]
  staticTypes := #[]
  resolved := #[]
  callSites := []
  init := .initialized
  statics := none
  mirror := none

def pool0 : Array CpInfo := pool [(5, u "<init>"), (0, u "()V"), (1, .class_ 10), (1, u "java/lang/Object")] 113

def k0m0 : Method := { name := "<init>", desc := "()V", sig := { parameters := [], returnType := none }, accessFlags := 1, code := none }
/-- java/lang/Object -/
def k0 : Class := { plain "java/lang/Object" none with
  accessFlags := 33
  interfaces := #[]
  cf := some (fileOf pool0 8 #[] #[{ accessFlags := 1, nameIndex := 5, descriptorIndex := 6, attributes := #[] }] 33 0 #[] #[])
  fields := #[]
  methods := #[k0m0]
  instanceTypes := #[]
  staticTypes := #[]
  resolved := Array.replicate 124 none
  statics := none }

def pool1 : Array CpInfo := pool [(2, .class_ 4), (1, u "java/lang/Object"), (0, u "<init>"), (0, u "()V"), (0, .integer 983039), (0, .methodref 9 10), (0, .class_ 11), (0, .nameAndType 12 13), (0, u "com/example/amberwire/amberwire/XmlCharactersIsNameStartPinLaw"), (0, u "in"), (0, u "(III)Z"), (0, .integer 55296), (0, .integer 63743), (0, .integer 64976), (0, .integer 65007), (0, .integer 65534), (0, .integer 65535), (0, .methodref 21 22), (0, .class_ 23), (0, .nameAndType 24 25), (0, u "com/example/amberwire/amberwire/XmlCharacters"), (0, u "isNameStart"), (0, u "(I)Z"), (0, .methodref 9 27), (0, .nameAndType 28 25), (0, u "reference"), (3, u "law")] 2

def k1m0 : Method := { name := "<init>", desc := "()V", sig := { parameters := [], returnType := none }, accessFlags := 2, code := none }
def k1c1 : Code := { maxStack := 2, maxLocals := 3, code := method_2_code, exceptionTable := #[], attributes := #[] }
def k1m1 : Method := { name := "in", desc := "(III)Z", sig := { parameters := [.int, .int, .int], returnType := some .boolean }, accessFlags := 10, code := some k1c1 }
def k1c2 : Code := { maxStack := 3, maxLocals := 1, code := method_3_code, exceptionTable := #[], attributes := #[] }
def k1m2 : Method := { name := "reference", desc := "(I)Z", sig := { parameters := [.int], returnType := some .boolean }, accessFlags := 10, code := some k1c2 }
def k1c3 : Code := { maxStack := 2, maxLocals := 1, code := code, exceptionTable := #[], attributes := #[] }
def k1m3 : Method := { name := "law", desc := "(I)Z", sig := { parameters := [.int], returnType := some .boolean }, accessFlags := 9, code := some k1c3 }
/-- com/example/amberwire/amberwire/XmlCharactersIsNameStartPinLaw -/
def k1 : Class := { plain "com/example/amberwire/amberwire/XmlCharactersIsNameStartPinLaw" (some 0) with
  accessFlags := 49
  interfaces := #[]
  cf := some (fileOf pool1 9 #[] #[{ accessFlags := 2, nameIndex := 5, descriptorIndex := 6, attributes := #[] }, { accessFlags := 10, nameIndex := 12, descriptorIndex := 13, attributes := #[] }, { accessFlags := 10, nameIndex := 28, descriptorIndex := 25, attributes := #[] }, { accessFlags := 9, nameIndex := 32, descriptorIndex := 25, attributes := #[] }] 49 2 #[] #[])
  fields := #[]
  methods := #[k1m0, k1m1, k1m2, k1m3]
  instanceTypes := #[]
  staticTypes := #[]
  resolved := Array.replicate 35 none
  statics := none }

def pool2 : Array CpInfo := pool [(2, .class_ 4), (1, u "java/lang/Object"), (0, u "<init>"), (0, u "()V"), (0, .integer 55295), (1, .integer 65533), (0, .integer 65536), (14, .class_ 27), (1, u "com/example/amberwire/amberwire/XmlCharacters"), (1, u "(I)Z"), (27, .integer 63744), (0, .integer 64975), (0, .integer 65008), (0, .integer 983039), (0, u "REPLACEMENT"), (0, u "I"), (9, u "isNameStart")] 3

def k2m0 : Method := { name := "<init>", desc := "()V", sig := { parameters := [], returnType := none }, accessFlags := 2, code := none }
def k2c1 : Code := { maxStack := 2, maxLocals := 1, code := prog_140_method_7_code, exceptionTable := #[], attributes := #[] }
def k2m1 : Method := { name := "isNameStart", desc := "(I)Z", sig := { parameters := [.int], returnType := some .boolean }, accessFlags := 8, code := some k2c1 }
/-- com/example/amberwire/amberwire/XmlCharacters -/
def k2 : Class := { plain "com/example/amberwire/amberwire/XmlCharacters" (some 0) with
  accessFlags := 48
  interfaces := #[]
  cf := some (fileOf pool2 25 #[] #[{ accessFlags := 2, nameIndex := 5, descriptorIndex := 6, attributes := #[] }, { accessFlags := 8, nameIndex := 72, descriptorIndex := 29, attributes := #[] }] 48 2 #[] #[{ accessFlags := 26, nameIndex := 61, descriptorIndex := 62, attributes := #[] }])
  fields := #[{ name := "REPLACEMENT", type := .int, accessFlags := 26, slot := 0, constantValue := 0 }]
  methods := #[k2m0, k2m1]
  instanceTypes := #[]
  staticTypes := #[.int]
  resolved := Array.replicate 76 none
  statics := none }

def pool3 : Array CpInfo := pool [(1, u "java/lang/Cloneable"), (0, .class_ 1), (0, u "java/lang/Object"), (0, .class_ 3)] 3

/-- java/lang/Cloneable -/
def k3 : Class := { plain "java/lang/Cloneable" (some 0) with
  accessFlags := 1537
  interfaces := #[]
  cf := some (fileOf pool3 2 #[] #[] 1537 4 #[] #[])
  fields := #[]
  methods := #[]
  instanceTypes := #[]
  staticTypes := #[]
  resolved := Array.replicate 8 none
  statics := none }

def pool4 : Array CpInfo := pool [(1, u "java/io/Serializable"), (0, .class_ 1), (0, u "java/lang/Object"), (0, .class_ 3)] 3

/-- java/io/Serializable -/
def k4 : Class := { plain "java/io/Serializable" (some 0) with
  accessFlags := 1537
  interfaces := #[]
  cf := some (fileOf pool4 2 #[] #[] 1537 4 #[] #[])
  fields := #[]
  methods := #[]
  instanceTypes := #[]
  staticTypes := #[]
  resolved := Array.replicate 8 none
  statics := none }

/-- the primitive byte -/
def k5 : Class := { plain "byte" none with kind := .primitive 'B', accessFlags := 0x411 }
/-- [B -/
def k6 : Class := { plain "[B" (some 0) with kind := .array 5 .byte, interfaces := #[3, 4], accessFlags := 1041 }

def heap : Heap := #[]
def classes : Array Class := #[k0, k1, k2, k3, k4, k5, k6]
def interned : List (Array UInt16 × Addr) := []
def slotsUsed : Nat := 0
def theMethod : MethodId := ⟨1, 3⟩
def args0 : Array Value := #[.int 5]
def aboutOver (below : List Frame) : State where
  vm := { classes := classes, interned := interned.toArray }
  heap := heap
  slotsUsed := slotsUsed
  threads := #[{ frames := .invoking theMethod args0 :: below }]
def below0 : List Frame := [.native { method := ⟨0, 0⟩, args := #[] }]
def about1 : State := aboutOver below0
def p0 : Program := .bare "" "" ""
def e0 : Env := launch0.env 0 0 0
theorem w_frames : about1.frames = Frame.invoking theMethod args0 :: below0 := rfl
set_option maxRecDepth 65536 in
theorem w_args : argsFit about1.vm theMethod args0 = true := by decide +kernel
set_option maxRecDepth 65536 in
theorem w_heap : heapFits about1 = true := by decide +kernel
set_option maxRecDepth 65536 in
theorem w_runnable : about1.curStatus? = some .runnable := by decide +kernel
set_option maxRecDepth 65536 in
theorem w_alone : about1.alone = true := by decide +kernel
set_option maxRecDepth 65536 in
theorem w_named : about1.methodNamed? x = some theMethod := by decide +kernel
set_option maxRecDepth 65536 in
theorem w_hears : about1.hears theMethod below0 = true := by decide +kernel
set_option maxRecDepth 65536 in
theorem w_ripe : about1.ripe theMethod args0 below0 = true := by decide +kernel
theorem w_running : about1.status = .running := rfl
set_option maxRecDepth 65536 in
theorem w_room : about1.hasRoom e0.platform room_1 = true :=
  launch0.hasRoom_least _ room_1 (by decide +kernel) (by decide +kernel) (by decide +kernel) (by decide +kernel) (by decide +kernel) (by decide +kernel)
theorem allAtoms_all (ts : List Jvm.Cond) (a : Array Jvm.Value) (st : Jvm.State) : (allAtoms ts).before a st = ts.all (fun c => c.before a st) := by
  induction ts with
  | nil => rfl
  | cons c t ih =>
    show (Jvm.Cond.and c (allAtoms t)).before a st = _
    rw [Jvm.Cond.before_and, ih, List.all_cons]
def words1 : List Jvm.Cond := Jvm.Cond.code x code maxLocals ret :: tables_1
/-- a 'code' word, met by the world's own term for the bytes: nothing is compared byte by byte -/
theorem code_word {y : MethodName} {bytes : ByteArray} {mx : Nat} {rt : Option FieldType} {a : Array Value} {s : State} {m : MethodId} {meth : Method} {c : Code} (h1 : s.methodNamed? y = some m) (h2 : s.vm.method? m = some meth) (h3 : meth.code = some c) (h4 : c.code = bytes)
    (h5 : (c.maxLocals == mx && c.exceptionTable.isEmpty && decide (c.maxStack ≤ mostOperands) && decide (meth.sig.returnType = rt) && !meth.locks && decide (parseMethodDescriptor y.desc = some meth.sig)) = true) : (Jvm.Cond.code y bytes mx rt).before a s = true := by
  simp only [Bool.and_eq_true, beq_iff_eq, Bool.not_eq_true', decide_eq_true_eq] at h5
  obtain ⟨⟨⟨⟨⟨g1, g2⟩, g3⟩, g4⟩, g5⟩, g6⟩ := h5
  simp [Cond.before, Cond.holds, Cond.value, h1, h2, h3, h4, g1, g2, g3, g4, g5, g6]
def isCode : Jvm.Cond → Bool
  | .code _ _ _ _ => true
  | _ => false
theorem all_split {L : List Jvm.Cond} {P : Jvm.Cond → Bool} (h1 : L.all (fun c => isCode c || P c) = true) (h2 : ∀ c ∈ L.filter isCode, P c = true) : L.all P = true := by
  refine List.all_eq_true.mpr fun c hc => ?_
  have h := List.all_eq_true.mp h1 c hc
  rcases Bool.eq_false_or_eq_true (isCode c) with hi | hi
  · exact h2 c (List.mem_filter.mpr ⟨hc, hi⟩)
  · simpa [hi] using h
set_option maxRecDepth 65536 in
theorem w_c0 : (Jvm.Cond.code x code maxLocals ret).before args0 about1 = true := code_word (m := ⟨1, 3⟩) (meth := k1m3) (c := k1c3) (by decide +kernel) rfl rfl rfl (by decide +kernel)
set_option maxRecDepth 65536 in
theorem w_c1 : (Jvm.Cond.code ({ cls := "com/example/amberwire/amberwire/XmlCharacters", name := "isNameStart", desc := "(I)Z" } : Jvm.MethodName) prog_140_method_7_code (1 : Nat) (Option.some Jvm.ClassFile.FieldType.boolean)).before args0 about1 = true := code_word (m := ⟨2, 1⟩) (meth := k2m1) (c := k2c1) (by decide +kernel) rfl rfl rfl (by decide +kernel)
set_option maxRecDepth 65536 in
theorem w_c2 : (Jvm.Cond.code ({ cls := "com/example/amberwire/amberwire/XmlCharactersIsNameStartPinLaw", name := "reference", desc := "(I)Z" } : Jvm.MethodName) method_3_code (1 : Nat) (Option.some Jvm.ClassFile.FieldType.boolean)).before args0 about1 = true := code_word (m := ⟨1, 2⟩) (meth := k1m2) (c := k1c2) (by decide +kernel) rfl rfl rfl (by decide +kernel)
set_option maxRecDepth 65536 in
theorem w_c3 : (Jvm.Cond.code ({ cls := "com/example/amberwire/amberwire/XmlCharactersIsNameStartPinLaw", name := "in", desc := "(III)Z" } : Jvm.MethodName) method_2_code (3 : Nat) (Option.some Jvm.ClassFile.FieldType.boolean)).before args0 about1 = true := code_word (m := ⟨1, 1⟩) (meth := k1m1) (c := k1c1) (by decide +kernel) rfl rfl rfl (by decide +kernel)
def codes1 : List Jvm.Cond := [Jvm.Cond.code x code maxLocals ret, Jvm.Cond.code ({ cls := "com/example/amberwire/amberwire/XmlCharacters", name := "isNameStart", desc := "(I)Z" } : Jvm.MethodName) prog_140_method_7_code (1 : Nat) (Option.some Jvm.ClassFile.FieldType.boolean), Jvm.Cond.code ({ cls := "com/example/amberwire/amberwire/XmlCharactersIsNameStartPinLaw", name := "reference", desc := "(I)Z" } : Jvm.MethodName) method_3_code (1 : Nat) (Option.some Jvm.ClassFile.FieldType.boolean), Jvm.Cond.code ({ cls := "com/example/amberwire/amberwire/XmlCharactersIsNameStartPinLaw", name := "in", desc := "(III)Z" } : Jvm.MethodName) method_2_code (3 : Nat) (Option.some Jvm.ClassFile.FieldType.boolean)]
set_option maxRecDepth 65536 in
theorem codes_eq : words1.filter isCode = codes1 := rfl
theorem w_codes : ∀ c ∈ words1.filter isCode, c.before args0 about1 = true := by
  rw [codes_eq]
  intro c hc
  simp only [codes1, List.mem_cons, List.not_mem_nil, or_false] at hc
  rcases hc with rfl | rfl | rfl | rfl
  · exact w_c0
  · exact w_c1
  · exact w_c2
  · exact w_c3
set_option maxRecDepth 65536 in
theorem w_t1 : (words1.take 24).all (fun c => isCode c || c.before args0 about1) = true := by decide +kernel
set_option maxRecDepth 65536 in
theorem w_t2 : (words1.drop 24).all (fun c => isCode c || c.before args0 about1) = true := by decide +kernel
theorem w_tables : (allAtoms (Jvm.Cond.code x code maxLocals ret :: tables_1)).before args0 about1 = true := by
  rw [allAtoms_all]
  show words1.all (fun c => c.before args0 about1) = true
  refine all_split ?_ w_codes
  rw [← List.take_append_drop 24 words1, List.all_append, w_t1, w_t2]
  rfl
set_option maxRecDepth 65536 in
theorem w_case : (Jvm.Cond.and given_1 narrow_1).before args0 about1 = true := by decide +kernel
theorem w_applies : (headSpec (Jvm.Cond.code x code maxLocals ret :: tables_1) room_1).applies x e0.platform about1 = true :=
  (Spec.applies_iff w_frames).mpr ⟨w_running, w_runnable, w_alone, w_named, w_hears, w_ripe, w_room, w_tables⟩
theorem atStart : AtStart classFile x code maxLocals ret World_1 tables_1 room_1 Calls_1 rest_1 Pre_1 launch0 p0 e0 about1 theMethod args0 below0 :=
  ⟨lists_1, trivial, launch0.admits_env _ _ _, launch0.least_env, fairChoices_fair.cas, fairChoices_fair.clock, w_frames, w_args, w_heap, w_applies, trivial, trivial, w_case⟩
end start1
theorem witness_1 : WitnessClaimed_1 := ⟨start1.p0, start1.e0, start1.about1, start1.theMethod, start1.args0, start1.below0, start1.atStart⟩
end Jvm.Pilot.@@N@@
