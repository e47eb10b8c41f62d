import JvmDerived
import JvmDerived.Pilot.@@N@@Statement
import JvmDerived.Pilot.@@N@@Code
set_option linter.unusedVariables false
set_option linter.unusedSimpArgs false
namespace Jvm.Pilot.@@N@@
open Jvm Jvm.ClassFile Sem Op Lib Jvm.Free Jvm.Stand Jvm.LawKit Jvm.RoadKit Bundle Jvm.Pilot.@@N@@.Jvm.D
section Own
variable {p : Program} {l : Launch} {e : Env} {R : Room} {s : State} {m : MethodId} {args : Array Value} {below : List Frame} {meth : Method} {c : Code} {T : State} {locs : List Loc} {cells slots : Nat} {n0 kc ks : Nat} {P : Option Value → Heap → Prop}
/-- what a body leaves: P of its value and heap; nothing that stood at the start was written -/
def own_Q (P : Option Value → Heap → Prop) (n0 : Nat) (v : Option Value) (h : Heap) (L : List Loc) : Prop := P v h ∧ Fr n0 L
/-- the run comes from S to the end of this invocation -/
def own_Goes (p : Program) (e : Env) (below : List Frame) (s : State) (n0 kc ks : Nat) (P : Option Value → Heap → Prop) (S : State) : Prop :=
  ∃ s₂ o, Steps p.tables e below S s₂ ∧ s₂.status = .running ∧ Ended s₂ below o ∧ ∃ v L, o = .returned v ∧ own_Q P n0 v s₂.heap L ∧ FrameEnd s o s₂ L kc ks
theorem own_Goes.pre {S S' : State} (h : ∀ t, Steps p.tables e below S' t → Steps p.tables e below S t) (g : own_Goes p e below s n0 kc ks P S') : own_Goes p e below s n0 kc ks P S := by
  obtain ⟨t, o, st, r⟩ := g
  exact ⟨t, o, h t st, r⟩
theorem own_retW (X : Stand p l e R s m args below meth c T locs cells slots) (hx : p.tables.exec = Jvm.exec) (hlk : meth.locks = false) {pc : Nat} {Ls : Array Slot} {w : Value} {t : FieldType} {i : Instr} {rest : List Value} (hret : meth.sig.returnType = some t) (hn : narrow t w = w)
    (hi : (i = .ireturn ∧ (t = .int ∨ t = .boolean ∨ t = .byte ∨ t = .char ∨ t = .short) ∧ ∃ z, w = .int z) ∨ (i = .lreturn ∧ t = .long ∧ ∃ z, w = .long z) ∨ (i = .dreturn ∧ t = .double ∧ ∃ z, w = .double z) ∨ (i = .freturn ∧ t = .float ∧ ∃ z, w = .float z) ∨ (i = .areturn ∧ t.isReference = true ∧ w.isRef = true))
    (hd : decode c.code pc = .ok (i, 1)) (N : Fr n0 locs) (hP : P (some w) T.heap) (hc : cells ≤ kc) (hs : slots ≤ ks) : own_Goes p e below s n0 kc ks P (T.setTop (mkF m pc Ls (w :: rest))) := by
  obtain ⟨fs, hr, hrun, hended, hW, hsame⟩ := X.leave (v := some w) (fun h => by rw [hret] at h; cases h)
  exact ⟨_, _, retOut X hx hret hn hi hd hr, hrun, hended, _, _, rfl, ⟨hP, N⟩, ⟨_, rfl⟩, hW, hsame.mono hc hs⟩
theorem own_retI (X : Stand p l e R s m args below meth c T locs cells slots) (hx : p.tables.exec = Jvm.exec) (hlk : meth.locks = false) {pc : Nat} {Ls : Array Slot} {z : Int32} {rest : List Value} (hret : meth.sig.returnType = some .int)
    (hd : decode c.code pc = .ok (.ireturn, 1)) (N : Fr n0 locs) (hP : P (some (.int z)) T.heap) (hc : cells ≤ kc) (hs : slots ≤ ks) : own_Goes p e below s n0 kc ks P (T.setTop (mkF m pc Ls (.int z :: rest))) :=
  own_retW X hx hlk hret rfl (Or.inl ⟨rfl, Or.inl rfl, _, rfl⟩) hd N hP hc hs
theorem own_retJ (X : Stand p l e R s m args below meth c T locs cells slots) (hx : p.tables.exec = Jvm.exec) (hlk : meth.locks = false) {pc : Nat} {Ls : Array Slot} {z : Int64} {rest : List Value} (hret : meth.sig.returnType = some .long)
    (hd : decode c.code pc = .ok (.lreturn, 1)) (N : Fr n0 locs) (hP : P (some (.long z)) T.heap) (hc : cells ≤ kc) (hs : slots ≤ ks) : own_Goes p e below s n0 kc ks P (T.setTop (mkF m pc Ls (.long z :: rest))) :=
  own_retW X hx hlk hret rfl (Or.inr (Or.inl ⟨rfl, rfl, _, rfl⟩)) hd N hP hc hs
theorem own_retN (X : Stand p l e R s m args below meth c T locs cells slots) (hx : p.tables.exec = Jvm.exec) (hlk : meth.locks = false) {pc : Nat} {Ls : Array Slot} {z : Int32} {t : FieldType} {rest : List Value} (hret : meth.sig.returnType = some t) (ht : t = .boolean ∨ t = .byte ∨ t = .char ∨ t = .short)
    (hd : decode c.code pc = .ok (.ireturn, 1)) (N : Fr n0 locs) (hP : P (some (.int (nar t z))) T.heap) (hc : cells ≤ kc) (hs : slots ≤ ks) : own_Goes p e below s n0 kc ks P (T.setTop (mkF m pc Ls (.int z :: rest))) := by
  obtain ⟨fs, hr, hrun, hended, hW, hsame⟩ := X.leave (v := some (.int (nar t z))) (fun h => by rw [hret] at h; cases h)
  exact ⟨_, _, retN X hx hret ht hd hr, hrun, hended, _, _, rfl, ⟨hP, N⟩, ⟨_, rfl⟩, hW, hsame.mono hc hs⟩
theorem own_retV (X : Stand p l e R s m args below meth c T locs cells slots) (hx : p.tables.exec = Jvm.exec) (hlk : meth.locks = false) {pc : Nat} {Ls : Array Slot} (hret : meth.sig.returnType = none)
    (hd : decode c.code pc = .ok (.return_, 1)) (N : Fr n0 locs) (hP : P none T.heap) (hc : cells ≤ kc) (hs : slots ≤ ks) : own_Goes p e below s n0 kc ks P (T.setTop (mkF m pc Ls [])) := by
  obtain ⟨fs, hr, hrun, hended, hW, hsame⟩ := X.leave (v := none) (fun _ => rfl)
  exact ⟨_, _, X.returnOut hx hret hd hr, hrun, hended, _, _, rfl, ⟨hP, N⟩, ⟨_, rfl⟩, hW, hsame.mono hc hs⟩
/-- the value w comes back, the heap as it was -/
def own_val (w : Value) (h0 : Heap) (v : Option Value) (h : Heap) : Prop := v = some w ∧ h = h0
def own_one (v : Option Value) (_ : Heap) : Prop := v = some (.int (1 : Int32))
end Own
theorem d1_0 : decode prog_173_method_2_code 0 = .ok (.iload_n 0, 1) := by decide +kernel
theorem d1_1 : decode prog_173_method_2_code 1 = .ok (.sipush 128, 3) := by decide +kernel
theorem d1_4 : decode prog_173_method_2_code 4 = .ok (.if_icmp .ge 39, 3) := by decide +kernel
theorem d1_7 : decode prog_173_method_2_code 7 = .ok (.iload_n 0, 1) := by decide +kernel
theorem d1_8 : decode prog_173_method_2_code 8 = .ok (.bipush 97, 2) := by decide +kernel
theorem d1_10 : decode prog_173_method_2_code 10 = .ok (.if_icmp .lt 9, 3) := by decide +kernel
theorem d1_13 : decode prog_173_method_2_code 13 = .ok (.iload_n 0, 1) := by decide +kernel
theorem d1_14 : decode prog_173_method_2_code 14 = .ok (.bipush 122, 2) := by decide +kernel
theorem d1_16 : decode prog_173_method_2_code 16 = .ok (.if_icmp .le 21, 3) := by decide +kernel
theorem d1_19 : decode prog_173_method_2_code 19 = .ok (.iload_n 0, 1) := by decide +kernel
theorem d1_20 : decode prog_173_method_2_code 20 = .ok (.bipush 65, 2) := by decide +kernel
theorem d1_22 : decode prog_173_method_2_code 22 = .ok (.if_icmp .lt 9, 3) := by decide +kernel
theorem d1_25 : decode prog_173_method_2_code 25 = .ok (.iload_n 0, 1) := by decide +kernel
theorem d1_26 : decode prog_173_method_2_code 26 = .ok (.bipush 90, 2) := by decide +kernel
theorem d1_28 : decode prog_173_method_2_code 28 = .ok (.if_icmp .le 9, 3) := by decide +kernel
theorem d1_31 : decode prog_173_method_2_code 31 = .ok (.iload_n 0, 1) := by decide +kernel
theorem d1_32 : decode prog_173_method_2_code 32 = .ok (.bipush 95, 2) := by decide +kernel
theorem d1_34 : decode prog_173_method_2_code 34 = .ok (.if_icmp .ne 7, 3) := by decide +kernel
theorem d1_37 : decode prog_173_method_2_code 37 = .ok (.iconst 1, 1) := by decide +kernel
theorem d1_38 : decode prog_173_method_2_code 38 = .ok (.goto 4, 3) := by decide +kernel
theorem d1_41 : decode prog_173_method_2_code 41 = .ok (.iconst 0, 1) := by decide +kernel
theorem d1_42 : decode prog_173_method_2_code 42 = .ok (.ireturn, 1) := by decide +kernel
theorem d1_43 : decode prog_173_method_2_code 43 = .ok (.iload_n 0, 1) := by decide +kernel
theorem d1_44 : decode prog_173_method_2_code 44 = .ok (.sipush 192, 3) := by decide +kernel
theorem d1_47 : decode prog_173_method_2_code 47 = .ok (.if_icmp .lt 10, 3) := by decide +kernel
theorem d1_50 : decode prog_173_method_2_code 50 = .ok (.iload_n 0, 1) := by decide +kernel
theorem d1_51 : decode prog_173_method_2_code 51 = .ok (.sipush 214, 3) := by decide +kernel
theorem d1_54 : decode prog_173_method_2_code 54 = .ok (.if_icmp .le 150, 3) := by decide +kernel
theorem d1_57 : decode prog_173_method_2_code 57 = .ok (.iload_n 0, 1) := by decide +kernel
theorem d1_58 : decode prog_173_method_2_code 58 = .ok (.sipush 216, 3) := by decide +kernel
theorem d1_61 : decode prog_173_method_2_code 61 = .ok (.if_icmp .lt 10, 3) := by decide +kernel
theorem d1_64 : decode prog_173_method_2_code 64 = .ok (.iload_n 0, 1) := by decide +kernel
theorem d1_65 : decode prog_173_method_2_code 65 = .ok (.sipush 246, 3) := by decide +kernel
theorem d1_68 : decode prog_173_method_2_code 68 = .ok (.if_icmp .le 136, 3) := by decide +kernel
theorem d1_71 : decode prog_173_method_2_code 71 = .ok (.iload_n 0, 1) := by decide +kernel
theorem d1_72 : decode prog_173_method_2_code 72 = .ok (.sipush 248, 3) := by decide +kernel
theorem d1_75 : decode prog_173_method_2_code 75 = .ok (.if_icmp .lt 10, 3) := by decide +kernel
theorem d1_78 : decode prog_173_method_2_code 78 = .ok (.iload_n 0, 1) := by decide +kernel
theorem d1_79 : decode prog_173_method_2_code 79 = .ok (.sipush 767, 3) := by decide +kernel
theorem d1_82 : decode prog_173_method_2_code 82 = .ok (.if_icmp .le 122, 3) := by decide +kernel
theorem d1_85 : decode prog_173_method_2_code 85 = .ok (.iload_n 0, 1) := by decide +kernel
theorem d1_86 : decode prog_173_method_2_code 86 = .ok (.sipush 880, 3) := by decide +kernel
theorem d1_89 : decode prog_173_method_2_code 89 = .ok (.if_icmp .lt 10, 3) := by decide +kernel
theorem d1_92 : decode prog_173_method_2_code 92 = .ok (.iload_n 0, 1) := by decide +kernel
theorem d1_93 : decode prog_173_method_2_code 93 = .ok (.sipush 893, 3) := by decide +kernel
theorem d1_96 : decode prog_173_method_2_code 96 = .ok (.if_icmp .le 108, 3) := by decide +kernel
theorem d1_99 : decode prog_173_method_2_code 99 = .ok (.iload_n 0, 1) := by decide +kernel
theorem d1_100 : decode prog_173_method_2_code 100 = .ok (.sipush 895, 3) := by decide +kernel
theorem d1_103 : decode prog_173_method_2_code 103 = .ok (.if_icmp .lt 10, 3) := by decide +kernel
theorem d1_106 : decode prog_173_method_2_code 106 = .ok (.iload_n 0, 1) := by decide +kernel
theorem d1_107 : decode prog_173_method_2_code 107 = .ok (.sipush 8191, 3) := by decide +kernel
theorem d1_110 : decode prog_173_method_2_code 110 = .ok (.if_icmp .le 94, 3) := by decide +kernel
theorem d1_113 : decode prog_173_method_2_code 113 = .ok (.iload_n 0, 1) := by decide +kernel
theorem d1_114 : decode prog_173_method_2_code 114 = .ok (.sipush 8204, 3) := by decide +kernel
theorem d1_117 : decode prog_173_method_2_code 117 = .ok (.if_icmp .lt 10, 3) := by decide +kernel
theorem d1_120 : decode prog_173_method_2_code 120 = .ok (.iload_n 0, 1) := by decide +kernel
theorem d1_121 : decode prog_173_method_2_code 121 = .ok (.sipush 8205, 3) := by decide +kernel
theorem d1_124 : decode prog_173_method_2_code 124 = .ok (.if_icmp .le 80, 3) := by decide +kernel
theorem d1_127 : decode prog_173_method_2_code 127 = .ok (.iload_n 0, 1) := by decide +kernel
theorem d1_128 : decode prog_173_method_2_code 128 = .ok (.sipush 8304, 3) := by decide +kernel
theorem d1_131 : decode prog_173_method_2_code 131 = .ok (.if_icmp .lt 10, 3) := by decide +kernel
theorem d1_134 : decode prog_173_method_2_code 134 = .ok (.iload_n 0, 1) := by decide +kernel
theorem d1_135 : decode prog_173_method_2_code 135 = .ok (.sipush 8591, 3) := by decide +kernel
theorem d1_138 : decode prog_173_method_2_code 138 = .ok (.if_icmp .le 66, 3) := by decide +kernel
theorem d1_141 : decode prog_173_method_2_code 141 = .ok (.iload_n 0, 1) := by decide +kernel
theorem d1_142 : decode prog_173_method_2_code 142 = .ok (.sipush 11264, 3) := by decide +kernel
theorem d1_145 : decode prog_173_method_2_code 145 = .ok (.if_icmp .lt 10, 3) := by decide +kernel
theorem d1_148 : decode prog_173_method_2_code 148 = .ok (.iload_n 0, 1) := by decide +kernel
theorem d1_149 : decode prog_173_method_2_code 149 = .ok (.sipush 12271, 3) := by decide +kernel
theorem d1_152 : decode prog_173_method_2_code 152 = .ok (.if_icmp .le 52, 3) := by decide +kernel
theorem d1_155 : decode prog_173_method_2_code 155 = .ok (.iload_n 0, 1) := by decide +kernel
theorem d1_156 : decode prog_173_method_2_code 156 = .ok (.sipush 12289, 3) := by decide +kernel
theorem d1_159 : decode prog_173_method_2_code 159 = .ok (.if_icmp .lt 9, 3) := by decide +kernel
theorem d1_162 : decode prog_173_method_2_code 162 = .ok (.iload_n 0, 1) := by decide +kernel
theorem d1_163 : decode prog_173_method_2_code 163 = .ok (.ldc 7, 2) := by decide +kernel
theorem d1_165 : decode prog_173_method_2_code 165 = .ok (.if_icmp .le 39, 3) := by decide +kernel
theorem d1_168 : decode prog_173_method_2_code 168 = .ok (.iload_n 0, 1) := by decide +kernel
theorem d1_169 : decode prog_173_method_2_code 169 = .ok (.ldc 8, 2) := by decide +kernel
theorem d1_171 : decode prog_173_method_2_code 171 = .ok (.if_icmp .lt 9, 3) := by decide +kernel
theorem d1_174 : decode prog_173_method_2_code 174 = .ok (.iload_n 0, 1) := by decide +kernel
theorem d1_175 : decode prog_173_method_2_code 175 = .ok (.ldc 9, 2) := by decide +kernel
theorem d1_177 : decode prog_173_method_2_code 177 = .ok (.if_icmp .le 27, 3) := by decide +kernel
theorem d1_180 : decode prog_173_method_2_code 180 = .ok (.iload_n 0, 1) := by decide +kernel
theorem d1_181 : decode prog_173_method_2_code 181 = .ok (.ldc 10, 2) := by decide +kernel
theorem d1_183 : decode prog_173_method_2_code 183 = .ok (.if_icmp .lt 9, 3) := by decide +kernel
theorem d1_186 : decode prog_173_method_2_code 186 = .ok (.iload_n 0, 1) := by decide +kernel
theorem d1_187 : decode prog_173_method_2_code 187 = .ok (.ldc 11, 2) := by decide +kernel
theorem d1_189 : decode prog_173_method_2_code 189 = .ok (.if_icmp .le 15, 3) := by decide +kernel
theorem d1_192 : decode prog_173_method_2_code 192 = .ok (.iload_n 0, 1) := by decide +kernel
theorem d1_193 : decode prog_173_method_2_code 193 = .ok (.ldc 12, 2) := by decide +kernel
theorem d1_195 : decode prog_173_method_2_code 195 = .ok (.if_icmp .lt 13, 3) := by decide +kernel
theorem d1_198 : decode prog_173_method_2_code 198 = .ok (.iload_n 0, 1) := by decide +kernel
theorem d1_199 : decode prog_173_method_2_code 199 = .ok (.ldc 13, 2) := by decide +kernel
theorem d1_201 : decode prog_173_method_2_code 201 = .ok (.if_icmp .gt 7, 3) := by decide +kernel
theorem d1_204 : decode prog_173_method_2_code 204 = .ok (.iconst 1, 1) := by decide +kernel
theorem d1_205 : decode prog_173_method_2_code 205 = .ok (.goto 4, 3) := by decide +kernel
theorem d1_208 : decode prog_173_method_2_code 208 = .ok (.iconst 0, 1) := by decide +kernel
theorem d1_209 : decode prog_173_method_2_code 209 = .ok (.ireturn, 1) := by decide +kernel
def f1_208 (x0 : Int32) : Int32 := (0 : Int32)
set_option maxRecDepth 65536 in
set_option maxHeartbeats 40000000 in
theorem b1_208 {p : Program} {l : Launch} {e : Env} {s : State} {m : MethodId} {args : Array Value} {below : List Frame} {meth : Method} {c : Code} {T0 : State} {locs : List Loc} {Z : State} {a0 : Array Value} {h0 : Heap} {n0 : Nat} {P : Option Value → Heap → Prop} (x0 : Int32) (X0 : Stand p l e ({ frames := 0, cells := 0, slots := 0, locals := 0 } : Room) s m args below meth c T0 locs 0 0) (hx : p.tables.exec = Jvm.exec) (hZ : Z.Warmed39 s.vm) (hw : ∀ d ∈ tables_1, d.before a0 Z = true) (hby : c.code = prog_173_method_2_code) (hml : c.maxLocals = 1) (hown : s.vm.findClass "com/example/shape_trees/shapetrees/xpath/tree/XmlNames" = some m.cls) (hret : meth.sig.returnType = some .boolean) (hlk : meth.locks = false) (e0 : T0.heap = h0) (Z0 : n0 ≤ h0.size) (N0 : Fr n0 locs) (hP : P (some (.int (f1_208 x0))) h0) :
    own_Goes p e below s n0 0 0 P (T0.setTop (mkF m 208 #[.val (.int x0)] [])) := by
  rw [f1_208] at hP
  refine own_Goes.pre (fun t kt => ?_) (own_retN X0 hx hlk hret (by simp) (hb hby d1_209) N0 (by rw [e0]; exact hP) (by decide) (by decide) (Ls := #[.val (.int x0)]) (rest := []) (z := (0 : Int32)))
  show Steps p.tables e below (T0.setTop (mkF m 208 #[.val (.int x0)] [])) _
  refine XS.iconst X0.here hx rfl (hb hby d1_208) ?_
  exact kt
def f1_204 (x0 : Int32) : Int32 := (1 : Int32)
set_option maxRecDepth 65536 in
set_option maxHeartbeats 40000000 in
theorem b1_204 {p : Program} {l : Launch} {e : Env} {s : State} {m : MethodId} {args : Array Value} {below : List Frame} {meth : Method} {c : Code} {T0 : State} {locs : List Loc} {Z : State} {a0 : Array Value} {h0 : Heap} {n0 : Nat} {P : Option Value → Heap → Prop} (x0 : Int32) (X0 : Stand p l e ({ frames := 0, cells := 0, slots := 0, locals := 0 } : Room) s m args below meth c T0 locs 0 0) (hx : p.tables.exec = Jvm.exec) (hZ : Z.Warmed39 s.vm) (hw : ∀ d ∈ tables_1, d.before a0 Z = true) (hby : c.code = prog_173_method_2_code) (hml : c.maxLocals = 1) (hown : s.vm.findClass "com/example/shape_trees/shapetrees/xpath/tree/XmlNames" = some m.cls) (hret : meth.sig.returnType = some .boolean) (hlk : meth.locks = false) (e0 : T0.heap = h0) (Z0 : n0 ≤ h0.size) (N0 : Fr n0 locs) (hP : P (some (.int (f1_204 x0))) h0) :
    own_Goes p e below s n0 0 0 P (T0.setTop (mkF m 204 #[.val (.int x0)] [])) := by
  rw [f1_204] at hP
  refine own_Goes.pre (fun t kt => ?_) (own_retN X0 hx hlk hret (by simp) (hb hby d1_209) N0 (by rw [e0]; exact hP) (by decide) (by decide) (Ls := #[.val (.int x0)]) (rest := []) (z := (1 : Int32)))
  show Steps p.tables e below (T0.setTop (mkF m 204 #[.val (.int x0)] [])) _
  refine XS.iconst X0.here hx rfl (hb hby d1_204) ?_
  show Steps p.tables e below (T0.setTop (mkF m 205 #[.val (.int x0)] [(.int (1 : Int32))])) _
  refine XS.goto X0.here hx rfl (pc0 := 205) (pc' := 209) rfl (hb hby d1_205) (by decide) (by decide) ?_
  exact kt
def f1_198 (x0 : Int32) : Int32 := if (983039 : Int32) < x0 then (f1_208 x0) else (f1_204 x0)
set_option maxRecDepth 65536 in
set_option maxHeartbeats 40000000 in
theorem b1_198 {p : Program} {l : Launch} {e : Env} {s : State} {m : MethodId} {args : Array Value} {below : List Frame} {meth : Method} {c : Code} {T0 : State} {locs : List Loc} {Z : State} {a0 : Array Value} {h0 : Heap} {n0 : Nat} {P : Option Value → Heap → Prop} (x0 : Int32) (X0 : Stand p l e ({ frames := 0, cells := 0, slots := 0, locals := 0 } : Room) s m args below meth c T0 locs 0 0) (hx : p.tables.exec = Jvm.exec) (hZ : Z.Warmed39 s.vm) (hw : ∀ d ∈ tables_1, d.before a0 Z = true) (hby : c.code = prog_173_method_2_code) (hml : c.maxLocals = 1) (hown : s.vm.findClass "com/example/shape_trees/shapetrees/xpath/tree/XmlNames" = some m.cls) (hret : meth.sig.returnType = some .boolean) (hlk : meth.locks = false) (e0 : T0.heap = h0) (Z0 : n0 ≤ h0.size) (N0 : Fr n0 locs) (hP : P (some (.int (f1_198 x0))) h0) :
    own_Goes p e below s n0 0 0 P (T0.setTop (mkF m 198 #[.val (.int x0)] [])) := by
  have pre1 : ∀ t, Steps p.tables e below (T0.setTop (mkF m 201 #[.val (.int x0)] [(.int (983039 : Int32)), (.int x0)])) t → Steps p.tables e below (T0.setTop (mkF m 198 #[.val (.int x0)] [])) t := fun t kt => by
    show Steps p.tables e below (T0.setTop (mkF m 198 #[.val (.int x0)] [])) _
    refine XS.iloadN X0.here hx rfl (hb hby d1_198) rfl ?_
    show Steps p.tables e below (T0.setTop (mkF m 199 #[.val (.int x0)] [(.int x0)])) _
    refine X0.ldcInt hx hown (mvT hZ (hw _ (List.mem_of_getElem? (i := 34) rfl))) (g := (mkF m 199 #[.val (.int x0)] [(.int x0)])) rfl (hb hby d1_199) _ ?_
    exact kt
  refine own_Goes.pre pre1 ?_
  by_cases hc : (983039 : Int32) < x0
  · rw [f1_198, if_pos hc] at hP
    refine own_Goes.pre (fun t kt => ?_) (b1_208 x0 X0 hx hZ hw hby hml hown hret hlk e0 Z0 N0 hP)
    show Steps p.tables e below (T0.setTop (mkF m 201 #[.val (.int x0)] [(.int (983039 : Int32)), (.int x0)])) _
    refine XS.icmpYes X0.here hx rfl (pc0 := 201) (pc' := 208) rfl (hb hby d1_201) rfl (tlt hc).2.2.1 (by decide) (by decide) ?_
    exact kt
  · rw [f1_198, if_neg hc] at hP
    refine own_Goes.pre (fun t kt => ?_) (b1_204 x0 X0 hx hZ hw hby hml hown hret hlk e0 Z0 N0 hP)
    show Steps p.tables e below (T0.setTop (mkF m 201 #[.val (.int x0)] [(.int (983039 : Int32)), (.int x0)])) _
    refine XS.icmpNo X0.here hx rfl (hb hby d1_201) rfl (flt hc).2.2.1 ?_
    exact kt
def f1_192 (x0 : Int32) : Int32 := if x0 < (65536 : Int32) then (f1_208 x0) else (f1_198 x0)
set_option maxRecDepth 65536 in
set_option maxHeartbeats 40000000 in
theorem b1_192 {p : Program} {l : Launch} {e : Env} {s : State} {m : MethodId} {args : Array Value} {below : List Frame} {meth : Method} {c : Code} {T0 : State} {locs : List Loc} {Z : State} {a0 : Array Value} {h0 : Heap} {n0 : Nat} {P : Option Value → Heap → Prop} (x0 : Int32) (X0 : Stand p l e ({ frames := 0, cells := 0, slots := 0, locals := 0 } : Room) s m args below meth c T0 locs 0 0) (hx : p.tables.exec = Jvm.exec) (hZ : Z.Warmed39 s.vm) (hw : ∀ d ∈ tables_1, d.before a0 Z = true) (hby : c.code = prog_173_method_2_code) (hml : c.maxLocals = 1) (hown : s.vm.findClass "com/example/shape_trees/shapetrees/xpath/tree/XmlNames" = some m.cls) (hret : meth.sig.returnType = some .boolean) (hlk : meth.locks = false) (e0 : T0.heap = h0) (Z0 : n0 ≤ h0.size) (N0 : Fr n0 locs) (hP : P (some (.int (f1_192 x0))) h0) :
    own_Goes p e below s n0 0 0 P (T0.setTop (mkF m 192 #[.val (.int x0)] [])) := by
  have pre1 : ∀ t, Steps p.tables e below (T0.setTop (mkF m 195 #[.val (.int x0)] [(.int (65536 : Int32)), (.int x0)])) t → Steps p.tables e below (T0.setTop (mkF m 192 #[.val (.int x0)] [])) t := fun t kt => by
    show Steps p.tables e below (T0.setTop (mkF m 192 #[.val (.int x0)] [])) _
    refine XS.iloadN X0.here hx rfl (hb hby d1_192) rfl ?_
    show Steps p.tables e below (T0.setTop (mkF m 193 #[.val (.int x0)] [(.int x0)])) _
    refine X0.ldcInt hx hown (mvT hZ (hw _ (List.mem_of_getElem? (i := 30) rfl))) (g := (mkF m 193 #[.val (.int x0)] [(.int x0)])) rfl (hb hby d1_193) _ ?_
    exact kt
  refine own_Goes.pre pre1 ?_
  by_cases hc : x0 < (65536 : Int32)
  · rw [f1_192, if_pos hc] at hP
    refine own_Goes.pre (fun t kt => ?_) (b1_208 x0 X0 hx hZ hw hby hml hown hret hlk e0 Z0 N0 hP)
    show Steps p.tables e below (T0.setTop (mkF m 195 #[.val (.int x0)] [(.int (65536 : Int32)), (.int x0)])) _
    refine XS.icmpYes X0.here hx rfl (pc0 := 195) (pc' := 208) rfl (hb hby d1_195) rfl (tlt hc).1 (by decide) (by decide) ?_
    exact kt
  · rw [f1_192, if_neg hc] at hP
    refine own_Goes.pre (fun t kt => ?_) (b1_198 x0 X0 hx hZ hw hby hml hown hret hlk e0 Z0 N0 hP)
    show Steps p.tables e below (T0.setTop (mkF m 195 #[.val (.int x0)] [(.int (65536 : Int32)), (.int x0)])) _
    refine XS.icmpNo X0.here hx rfl (hb hby d1_195) rfl (flt hc).1 ?_
    exact kt
def f1_186 (x0 : Int32) : Int32 := if (65533 : Int32) < x0 then (f1_192 x0) else (f1_204 x0)
set_option maxRecDepth 65536 in
set_option maxHeartbeats 40000000 in
theorem b1_186 {p : Program} {l : Launch} {e : Env} {s : State} {m : MethodId} {args : Array Value} {below : List Frame} {meth : Method} {c : Code} {T0 : State} {locs : List Loc} {Z : State} {a0 : Array Value} {h0 : Heap} {n0 : Nat} {P : Option Value → Heap → Prop} (x0 : Int32) (X0 : Stand p l e ({ frames := 0, cells := 0, slots := 0, locals := 0 } : Room) s m args below meth c T0 locs 0 0) (hx : p.tables.exec = Jvm.exec) (hZ : Z.Warmed39 s.vm) (hw : ∀ d ∈ tables_1, d.before a0 Z = true) (hby : c.code = prog_173_method_2_code) (hml : c.maxLocals = 1) (hown : s.vm.findClass "com/example/shape_trees/shapetrees/xpath/tree/XmlNames" = some m.cls) (hret : meth.sig.returnType = some .boolean) (hlk : meth.locks = false) (e0 : T0.heap = h0) (Z0 : n0 ≤ h0.size) (N0 : Fr n0 locs) (hP : P (some (.int (f1_186 x0))) h0) :
    own_Goes p e below s n0 0 0 P (T0.setTop (mkF m 186 #[.val (.int x0)] [])) := by
  have pre1 : ∀ t, Steps p.tables e below (T0.setTop (mkF m 189 #[.val (.int x0)] [(.int (65533 : Int32)), (.int x0)])) t → Steps p.tables e below (T0.setTop (mkF m 186 #[.val (.int x0)] [])) t := fun t kt => by
    show Steps p.tables e below (T0.setTop (mkF m 186 #[.val (.int x0)] [])) _
    refine XS.iloadN X0.here hx rfl (hb hby d1_186) rfl ?_
    show Steps p.tables e below (T0.setTop (mkF m 187 #[.val (.int x0)] [(.int x0)])) _
    refine X0.ldcInt hx hown (mvT hZ (hw _ (List.mem_of_getElem? (i := 33) rfl))) (g := (mkF m 187 #[.val (.int x0)] [(.int x0)])) rfl (hb hby d1_187) _ ?_
    exact kt
  refine own_Goes.pre pre1 ?_
  by_cases hc : (65533 : Int32) < x0
  · rw [f1_186, if_pos hc] at hP
    refine own_Goes.pre (fun t kt => ?_) (b1_192 x0 X0 hx hZ hw hby hml hown hret hlk e0 Z0 N0 hP)
    show Steps p.tables e below (T0.setTop (mkF m 189 #[.val (.int x0)] [(.int (65533 : Int32)), (.int x0)])) _
    refine XS.icmpNo X0.here hx rfl (hb hby d1_189) rfl (tlt hc).2.2.2 ?_
    exact kt
  · rw [f1_186, if_neg hc] at hP
    refine own_Goes.pre (fun t kt => ?_) (b1_204 x0 X0 hx hZ hw hby hml hown hret hlk e0 Z0 N0 hP)
    show Steps p.tables e below (T0.setTop (mkF m 189 #[.val (.int x0)] [(.int (65533 : Int32)), (.int x0)])) _
    refine XS.icmpYes X0.here hx rfl (pc0 := 189) (pc' := 204) rfl (hb hby d1_189) rfl (flt hc).2.2.2 (by decide) (by decide) ?_
    exact kt
def f1_180 (x0 : Int32) : Int32 := if x0 < (65008 : Int32) then (f1_192 x0) else (f1_186 x0)
set_option maxRecDepth 65536 in
set_option maxHeartbeats 40000000 in
theorem b1_180 {p : Program} {l : Launch} {e : Env} {s : State} {m : MethodId} {args : Array Value} {below : List Frame} {meth : Method} {c : Code} {T0 : State} {locs : List Loc} {Z : State} {a0 : Array Value} {h0 : Heap} {n0 : Nat} {P : Option Value → Heap → Prop} (x0 : Int32) (X0 : Stand p l e ({ frames := 0, cells := 0, slots := 0, locals := 0 } : Room) s m args below meth c T0 locs 0 0) (hx : p.tables.exec = Jvm.exec) (hZ : Z.Warmed39 s.vm) (hw : ∀ d ∈ tables_1, d.before a0 Z = true) (hby : c.code = prog_173_method_2_code) (hml : c.maxLocals = 1) (hown : s.vm.findClass "com/example/shape_trees/shapetrees/xpath/tree/XmlNames" = some m.cls) (hret : meth.sig.returnType = some .boolean) (hlk : meth.locks = false) (e0 : T0.heap = h0) (Z0 : n0 ≤ h0.size) (N0 : Fr n0 locs) (hP : P (some (.int (f1_180 x0))) h0) :
    own_Goes p e below s n0 0 0 P (T0.setTop (mkF m 180 #[.val (.int x0)] [])) := by
  have pre1 : ∀ t, Steps p.tables e below (T0.setTop (mkF m 183 #[.val (.int x0)] [(.int (65008 : Int32)), (.int x0)])) t → Steps p.tables e below (T0.setTop (mkF m 180 #[.val (.int x0)] [])) t := fun t kt => by
    show Steps p.tables e below (T0.setTop (mkF m 180 #[.val (.int x0)] [])) _
    refine XS.iloadN X0.here hx rfl (hb hby d1_180) rfl ?_
    show Steps p.tables e below (T0.setTop (mkF m 181 #[.val (.int x0)] [(.int x0)])) _
    refine X0.ldcInt hx hown (mvT hZ (hw _ (List.mem_of_getElem? (i := 29) rfl))) (g := (mkF m 181 #[.val (.int x0)] [(.int x0)])) rfl (hb hby d1_181) _ ?_
    exact kt
  refine own_Goes.pre pre1 ?_
  by_cases hc : x0 < (65008 : Int32)
  · rw [f1_180, if_pos hc] at hP
    refine own_Goes.pre (fun t kt => ?_) (b1_192 x0 X0 hx hZ hw hby hml hown hret hlk e0 Z0 N0 hP)
    show Steps p.tables e below (T0.setTop (mkF m 183 #[.val (.int x0)] [(.int (65008 : Int32)), (.int x0)])) _
    refine XS.icmpYes X0.here hx rfl (pc0 := 183) (pc' := 192) rfl (hb hby d1_183) rfl (tlt hc).1 (by decide) (by decide) ?_
    exact kt
  · rw [f1_180, if_neg hc] at hP
    refine own_Goes.pre (fun t kt => ?_) (b1_186 x0 X0 hx hZ hw hby hml hown hret hlk e0 Z0 N0 hP)
    show Steps p.tables e below (T0.setTop (mkF m 183 #[.val (.int x0)] [(.int (65008 : Int32)), (.int x0)])) _
    refine XS.icmpNo X0.here hx rfl (hb hby d1_183) rfl (flt hc).1 ?_
    exact kt
def f1_174 (x0 : Int32) : Int32 := if (64975 : Int32) < x0 then (f1_180 x0) else (f1_204 x0)
set_option maxRecDepth 65536 in
set_option maxHeartbeats 40000000 in
theorem b1_174 {p : Program} {l : Launch} {e : Env} {s : State} {m : MethodId} {args : Array Value} {below : List Frame} {meth : Method} {c : Code} {T0 : State} {locs : List Loc} {Z : State} {a0 : Array Value} {h0 : Heap} {n0 : Nat} {P : Option Value → Heap → Prop} (x0 : Int32) (X0 : Stand p l e ({ frames := 0, cells := 0, slots := 0, locals := 0 } : Room) s m args below meth c T0 locs 0 0) (hx : p.tables.exec = Jvm.exec) (hZ : Z.Warmed39 s.vm) (hw : ∀ d ∈ tables_1, d.before a0 Z = true) (hby : c.code = prog_173_method_2_code) (hml : c.maxLocals = 1) (hown : s.vm.findClass "com/example/shape_trees/shapetrees/xpath/tree/XmlNames" = some m.cls) (hret : meth.sig.returnType = some .boolean) (hlk : meth.locks = false) (e0 : T0.heap = h0) (Z0 : n0 ≤ h0.size) (N0 : Fr n0 locs) (hP : P (some (.int (f1_174 x0))) h0) :
    own_Goes p e below s n0 0 0 P (T0.setTop (mkF m 174 #[.val (.int x0)] [])) := by
  have pre1 : ∀ t, Steps p.tables e below (T0.setTop (mkF m 177 #[.val (.int x0)] [(.int (64975 : Int32)), (.int x0)])) t → Steps p.tables e below (T0.setTop (mkF m 174 #[.val (.int x0)] [])) t := fun t kt => by
    show Steps p.tables e below (T0.setTop (mkF m 174 #[.val (.int x0)] [])) _
    refine XS.iloadN X0.here hx rfl (hb hby d1_174) rfl ?_
    show Steps p.tables e below (T0.setTop (mkF m 175 #[.val (.int x0)] [(.int x0)])) _
    refine X0.ldcInt hx hown (mvT hZ (hw _ (List.mem_of_getElem? (i := 32) rfl))) (g := (mkF m 175 #[.val (.int x0)] [(.int x0)])) rfl (hb hby d1_175) _ ?_
    exact kt
  refine own_Goes.pre pre1 ?_
  by_cases hc : (64975 : Int32) < x0
  · rw [f1_174, if_pos hc] at hP
    refine own_Goes.pre (fun t kt => ?_) (b1_180 x0 X0 hx hZ hw hby hml hown hret hlk e0 Z0 N0 hP)
    show Steps p.tables e below (T0.setTop (mkF m 177 #[.val (.int x0)] [(.int (64975 : Int32)), (.int x0)])) _
    refine XS.icmpNo X0.here hx rfl (hb hby d1_177) rfl (tlt hc).2.2.2 ?_
    exact kt
  · rw [f1_174, if_neg hc] at hP
    refine own_Goes.pre (fun t kt => ?_) (b1_204 x0 X0 hx hZ hw hby hml hown hret hlk e0 Z0 N0 hP)
    show Steps p.tables e below (T0.setTop (mkF m 177 #[.val (.int x0)] [(.int (64975 : Int32)), (.int x0)])) _
    refine XS.icmpYes X0.here hx rfl (pc0 := 177) (pc' := 204) rfl (hb hby d1_177) rfl (flt hc).2.2.2 (by decide) (by decide) ?_
    exact kt
def f1_168 (x0 : Int32) : Int32 := if x0 < (63744 : Int32) then (f1_180 x0) else (f1_174 x0)
set_option maxRecDepth 65536 in
set_option maxHeartbeats 40000000 in
theorem b1_168 {p : Program} {l : Launch} {e : Env} {s : State} {m : MethodId} {args : Array Value} {below : List Frame} {meth : Method} {c : Code} {T0 : State} {locs : List Loc} {Z : State} {a0 : Array Value} {h0 : Heap} {n0 : Nat} {P : Option Value → Heap → Prop} (x0 : Int32) (X0 : Stand p l e ({ frames := 0, cells := 0, slots := 0, locals := 0 } : Room) s m args below meth c T0 locs 0 0) (hx : p.tables.exec = Jvm.exec) (hZ : Z.Warmed39 s.vm) (hw : ∀ d ∈ tables_1, d.before a0 Z = true) (hby : c.code = prog_173_method_2_code) (hml : c.maxLocals = 1) (hown : s.vm.findClass "com/example/shape_trees/shapetrees/xpath/tree/XmlNames" = some m.cls) (hret : meth.sig.returnType = some .boolean) (hlk : meth.locks = false) (e0 : T0.heap = h0) (Z0 : n0 ≤ h0.size) (N0 : Fr n0 locs) (hP : P (some (.int (f1_168 x0))) h0) :
    own_Goes p e below s n0 0 0 P (T0.setTop (mkF m 168 #[.val (.int x0)] [])) := by
  have pre1 : ∀ t, Steps p.tables e below (T0.setTop (mkF m 171 #[.val (.int x0)] [(.int (63744 : Int32)), (.int x0)])) t → Steps p.tables e below (T0.setTop (mkF m 168 #[.val (.int x0)] [])) t := fun t kt => by
    show Steps p.tables e below (T0.setTop (mkF m 168 #[.val (.int x0)] [])) _
    refine XS.iloadN X0.here hx rfl (hb hby d1_168) rfl ?_
    show Steps p.tables e below (T0.setTop (mkF m 169 #[.val (.int x0)] [(.int x0)])) _
    refine X0.ldcInt hx hown (mvT hZ (hw _ (List.mem_of_getElem? (i := 28) rfl))) (g := (mkF m 169 #[.val (.int x0)] [(.int x0)])) rfl (hb hby d1_169) _ ?_
    exact kt
  refine own_Goes.pre pre1 ?_
  by_cases hc : x0 < (63744 : Int32)
  · rw [f1_168, if_pos hc] at hP
    refine own_Goes.pre (fun t kt => ?_) (b1_180 x0 X0 hx hZ hw hby hml hown hret hlk e0 Z0 N0 hP)
    show Steps p.tables e below (T0.setTop (mkF m 171 #[.val (.int x0)] [(.int (63744 : Int32)), (.int x0)])) _
    refine XS.icmpYes X0.here hx rfl (pc0 := 171) (pc' := 180) rfl (hb hby d1_171) rfl (tlt hc).1 (by decide) (by decide) ?_
    exact kt
  · rw [f1_168, if_neg hc] at hP
    refine own_Goes.pre (fun t kt => ?_) (b1_174 x0 X0 hx hZ hw hby hml hown hret hlk e0 Z0 N0 hP)
    show Steps p.tables e below (T0.setTop (mkF m 171 #[.val (.int x0)] [(.int (63744 : Int32)), (.int x0)])) _
    refine XS.icmpNo X0.here hx rfl (hb hby d1_171) rfl (flt hc).1 ?_
    exact kt
def f1_162 (x0 : Int32) : Int32 := if (55295 : Int32) < x0 then (f1_168 x0) else (f1_204 x0)
set_option maxRecDepth 65536 in
set_option maxHeartbeats 40000000 in
theorem b1_162 {p : Program} {l : Launch} {e : Env} {s : State} {m : MethodId} {args : Array Value} {below : List Frame} {meth : Method} {c : Code} {T0 : State} {locs : List Loc} {Z : State} {a0 : Array Value} {h0 : Heap} {n0 : Nat} {P : Option Value → Heap → Prop} (x0 : Int32) (X0 : Stand p l e ({ frames := 0, cells := 0, slots := 0, locals := 0 } : Room) s m args below meth c T0 locs 0 0) (hx : p.tables.exec = Jvm.exec) (hZ : Z.Warmed39 s.vm) (hw : ∀ d ∈ tables_1, d.before a0 Z = true) (hby : c.code = prog_173_method_2_code) (hml : c.maxLocals = 1) (hown : s.vm.findClass "com/example/shape_trees/shapetrees/xpath/tree/XmlNames" = some m.cls) (hret : meth.sig.returnType = some .boolean) (hlk : meth.locks = false) (e0 : T0.heap = h0) (Z0 : n0 ≤ h0.size) (N0 : Fr n0 locs) (hP : P (some (.int (f1_162 x0))) h0) :
    own_Goes p e below s n0 0 0 P (T0.setTop (mkF m 162 #[.val (.int x0)] [])) := by
  have pre1 : ∀ t, Steps p.tables e below (T0.setTop (mkF m 165 #[.val (.int x0)] [(.int (55295 : Int32)), (.int x0)])) t → Steps p.tables e below (T0.setTop (mkF m 162 #[.val (.int x0)] [])) t := fun t kt => by
    show Steps p.tables e below (T0.setTop (mkF m 162 #[.val (.int x0)] [])) _
    refine XS.iloadN X0.here hx rfl (hb hby d1_162) rfl ?_
    show Steps p.tables e below (T0.setTop (mkF m 163 #[.val (.int x0)] [(.int x0)])) _
    refine X0.ldcInt hx hown (mvT hZ (hw _ (List.mem_of_getElem? (i := 31) rfl))) (g := (mkF m 163 #[.val (.int x0)] [(.int x0)])) rfl (hb hby d1_163) _ ?_
    exact kt
  refine own_Goes.pre pre1 ?_
  by_cases hc : (55295 : Int32) < x0
  · rw [f1_162, if_pos hc] at hP
    refine own_Goes.pre (fun t kt => ?_) (b1_168 x0 X0 hx hZ hw hby hml hown hret hlk e0 Z0 N0 hP)
    show Steps p.tables e below (T0.setTop (mkF m 165 #[.val (.int x0)] [(.int (55295 : Int32)), (.int x0)])) _
    refine XS.icmpNo X0.here hx rfl (hb hby d1_165) rfl (tlt hc).2.2.2 ?_
    exact kt
  · rw [f1_162, if_neg hc] at hP
    refine own_Goes.pre (fun t kt => ?_) (b1_204 x0 X0 hx hZ hw hby hml hown hret hlk e0 Z0 N0 hP)
    show Steps p.tables e below (T0.setTop (mkF m 165 #[.val (.int x0)] [(.int (55295 : Int32)), (.int x0)])) _
    refine XS.icmpYes X0.here hx rfl (pc0 := 165) (pc' := 204) rfl (hb hby d1_165) rfl (flt hc).2.2.2 (by decide) (by decide) ?_
    exact kt
def f1_155 (x0 : Int32) : Int32 := if x0 < (12289 : Int32) then (f1_168 x0) else (f1_162 x0)
set_option maxRecDepth 65536 in
set_option maxHeartbeats 40000000 in
theorem b1_155 {p : Program} {l : Launch} {e : Env} {s : State} {m : MethodId} {args : Array Value} {below : List Frame} {meth : Method} {c : Code} {T0 : State} {locs : List Loc} {Z : State} {a0 : Array Value} {h0 : Heap} {n0 : Nat} {P : Option Value → Heap → Prop} (x0 : Int32) (X0 : Stand p l e ({ frames := 0, cells := 0, slots := 0, locals := 0 } : Room) s m args below meth c T0 locs 0 0) (hx : p.tables.exec = Jvm.exec) (hZ : Z.Warmed39 s.vm) (hw : ∀ d ∈ tables_1, d.before a0 Z = true) (hby : c.code = prog_173_method_2_code) (hml : c.maxLocals = 1) (hown : s.vm.findClass "com/example/shape_trees/shapetrees/xpath/tree/XmlNames" = some m.cls) (hret : meth.sig.returnType = some .boolean) (hlk : meth.locks = false) (e0 : T0.heap = h0) (Z0 : n0 ≤ h0.size) (N0 : Fr n0 locs) (hP : P (some (.int (f1_155 x0))) h0) :
    own_Goes p e below s n0 0 0 P (T0.setTop (mkF m 155 #[.val (.int x0)] [])) := by
  have pre1 : ∀ t, Steps p.tables e below (T0.setTop (mkF m 159 #[.val (.int x0)] [(.int (12289 : Int32)), (.int x0)])) t → Steps p.tables e below (T0.setTop (mkF m 155 #[.val (.int x0)] [])) t := fun t kt => by
    show Steps p.tables e below (T0.setTop (mkF m 155 #[.val (.int x0)] [])) _
    refine XS.iloadN X0.here hx rfl (hb hby d1_155) rfl ?_
    show Steps p.tables e below (T0.setTop (mkF m 156 #[.val (.int x0)] [(.int x0)])) _
    refine XS.sipush X0.here hx rfl (hb hby d1_156) ?_
    exact kt
  refine own_Goes.pre pre1 ?_
  by_cases hc : x0 < (12289 : Int32)
  · rw [f1_155, if_pos hc] at hP
    refine own_Goes.pre (fun t kt => ?_) (b1_168 x0 X0 hx hZ hw hby hml hown hret hlk e0 Z0 N0 hP)
    show Steps p.tables e below (T0.setTop (mkF m 159 #[.val (.int x0)] [(.int (12289 : Int32)), (.int x0)])) _
    refine XS.icmpYes X0.here hx rfl (pc0 := 159) (pc' := 168) rfl (hb hby d1_159) rfl (tlt hc).1 (by decide) (by decide) ?_
    exact kt
  · rw [f1_155, if_neg hc] at hP
    refine own_Goes.pre (fun t kt => ?_) (b1_162 x0 X0 hx hZ hw hby hml hown hret hlk e0 Z0 N0 hP)
    show Steps p.tables e below (T0.setTop (mkF m 159 #[.val (.int x0)] [(.int (12289 : Int32)), (.int x0)])) _
    refine XS.icmpNo X0.here hx rfl (hb hby d1_159) rfl (flt hc).1 ?_
    exact kt
def f1_148 (x0 : Int32) : Int32 := if (12271 : Int32) < x0 then (f1_155 x0) else (f1_204 x0)
set_option maxRecDepth 65536 in
set_option maxHeartbeats 40000000 in
theorem b1_148 {p : Program} {l : Launch} {e : Env} {s : State} {m : MethodId} {args : Array Value} {below : List Frame} {meth : Method} {c : Code} {T0 : State} {locs : List Loc} {Z : State} {a0 : Array Value} {h0 : Heap} {n0 : Nat} {P : Option Value → Heap → Prop} (x0 : Int32) (X0 : Stand p l e ({ frames := 0, cells := 0, slots := 0, locals := 0 } : Room) s m args below meth c T0 locs 0 0) (hx : p.tables.exec = Jvm.exec) (hZ : Z.Warmed39 s.vm) (hw : ∀ d ∈ tables_1, d.before a0 Z = true) (hby : c.code = prog_173_method_2_code) (hml : c.maxLocals = 1) (hown : s.vm.findClass "com/example/shape_trees/shapetrees/xpath/tree/XmlNames" = some m.cls) (hret : meth.sig.returnType = some .boolean) (hlk : meth.locks = false) (e0 : T0.heap = h0) (Z0 : n0 ≤ h0.size) (N0 : Fr n0 locs) (hP : P (some (.int (f1_148 x0))) h0) :
    own_Goes p e below s n0 0 0 P (T0.setTop (mkF m 148 #[.val (.int x0)] [])) := by
  have pre1 : ∀ t, Steps p.tables e below (T0.setTop (mkF m 152 #[.val (.int x0)] [(.int (12271 : Int32)), (.int x0)])) t → Steps p.tables e below (T0.setTop (mkF m 148 #[.val (.int x0)] [])) t := fun t kt => by
    show Steps p.tables e below (T0.setTop (mkF m 148 #[.val (.int x0)] [])) _
    refine XS.iloadN X0.here hx rfl (hb hby d1_148) rfl ?_
    show Steps p.tables e below (T0.setTop (mkF m 149 #[.val (.int x0)] [(.int x0)])) _
    refine XS.sipush X0.here hx rfl (hb hby d1_149) ?_
    exact kt
  refine own_Goes.pre pre1 ?_
  by_cases hc : (12271 : Int32) < x0
  · rw [f1_148, if_pos hc] at hP
    refine own_Goes.pre (fun t kt => ?_) (b1_155 x0 X0 hx hZ hw hby hml hown hret hlk e0 Z0 N0 hP)
    show Steps p.tables e below (T0.setTop (mkF m 152 #[.val (.int x0)] [(.int (12271 : Int32)), (.int x0)])) _
    refine XS.icmpNo X0.here hx rfl (hb hby d1_152) rfl (tlt hc).2.2.2 ?_
    exact kt
  · rw [f1_148, if_neg hc] at hP
    refine own_Goes.pre (fun t kt => ?_) (b1_204 x0 X0 hx hZ hw hby hml hown hret hlk e0 Z0 N0 hP)
    show Steps p.tables e below (T0.setTop (mkF m 152 #[.val (.int x0)] [(.int (12271 : Int32)), (.int x0)])) _
    refine XS.icmpYes X0.here hx rfl (pc0 := 152) (pc' := 204) rfl (hb hby d1_152) rfl (flt hc).2.2.2 (by decide) (by decide) ?_
    exact kt
def f1_141 (x0 : Int32) : Int32 := if x0 < (11264 : Int32) then (f1_155 x0) else (f1_148 x0)
set_option maxRecDepth 65536 in
set_option maxHeartbeats 40000000 in
theorem b1_141 {p : Program} {l : Launch} {e : Env} {s : State} {m : MethodId} {args : Array Value} {below : List Frame} {meth : Method} {c : Code} {T0 : State} {locs : List Loc} {Z : State} {a0 : Array Value} {h0 : Heap} {n0 : Nat} {P : Option Value → Heap → Prop} (x0 : Int32) (X0 : Stand p l e ({ frames := 0, cells := 0, slots := 0, locals := 0 } : Room) s m args below meth c T0 locs 0 0) (hx : p.tables.exec = Jvm.exec) (hZ : Z.Warmed39 s.vm) (hw : ∀ d ∈ tables_1, d.before a0 Z = true) (hby : c.code = prog_173_method_2_code) (hml : c.maxLocals = 1) (hown : s.vm.findClass "com/example/shape_trees/shapetrees/xpath/tree/XmlNames" = some m.cls) (hret : meth.sig.returnType = some .boolean) (hlk : meth.locks = false) (e0 : T0.heap = h0) (Z0 : n0 ≤ h0.size) (N0 : Fr n0 locs) (hP : P (some (.int (f1_141 x0))) h0) :
    own_Goes p e below s n0 0 0 P (T0.setTop (mkF m 141 #[.val (.int x0)] [])) := by
  have pre1 : ∀ t, Steps p.tables e below (T0.setTop (mkF m 145 #[.val (.int x0)] [(.int (11264 : Int32)), (.int x0)])) t → Steps p.tables e below (T0.setTop (mkF m 141 #[.val (.int x0)] [])) t := fun t kt => by
    show Steps p.tables e below (T0.setTop (mkF m 141 #[.val (.int x0)] [])) _
    refine XS.iloadN X0.here hx rfl (hb hby d1_141) rfl ?_
    show Steps p.tables e below (T0.setTop (mkF m 142 #[.val (.int x0)] [(.int x0)])) _
    refine XS.sipush X0.here hx rfl (hb hby d1_142) ?_
    exact kt
  refine own_Goes.pre pre1 ?_
  by_cases hc : x0 < (11264 : Int32)
  · rw [f1_141, if_pos hc] at hP
    refine own_Goes.pre (fun t kt => ?_) (b1_155 x0 X0 hx hZ hw hby hml hown hret hlk e0 Z0 N0 hP)
    show Steps p.tables e below (T0.setTop (mkF m 145 #[.val (.int x0)] [(.int (11264 : Int32)), (.int x0)])) _
    refine XS.icmpYes X0.here hx rfl (pc0 := 145) (pc' := 155) rfl (hb hby d1_145) rfl (tlt hc).1 (by decide) (by decide) ?_
    exact kt
  · rw [f1_141, if_neg hc] at hP
    refine own_Goes.pre (fun t kt => ?_) (b1_148 x0 X0 hx hZ hw hby hml hown hret hlk e0 Z0 N0 hP)
    show Steps p.tables e below (T0.setTop (mkF m 145 #[.val (.int x0)] [(.int (11264 : Int32)), (.int x0)])) _
    refine XS.icmpNo X0.here hx rfl (hb hby d1_145) rfl (flt hc).1 ?_
    exact kt
def f1_134 (x0 : Int32) : Int32 := if (8591 : Int32) < x0 then (f1_141 x0) else (f1_204 x0)
set_option maxRecDepth 65536 in
set_option maxHeartbeats 40000000 in
theorem b1_134 {p : Program} {l : Launch} {e : Env} {s : State} {m : MethodId} {args : Array Value} {below : List Frame} {meth : Method} {c : Code} {T0 : State} {locs : List Loc} {Z : State} {a0 : Array Value} {h0 : Heap} {n0 : Nat} {P : Option Value → Heap → Prop} (x0 : Int32) (X0 : Stand p l e ({ frames := 0, cells := 0, slots := 0, locals := 0 } : Room) s m args below meth c T0 locs 0 0) (hx : p.tables.exec = Jvm.exec) (hZ : Z.Warmed39 s.vm) (hw : ∀ d ∈ tables_1, d.before a0 Z = true) (hby : c.code = prog_173_method_2_code) (hml : c.maxLocals = 1) (hown : s.vm.findClass "com/example/shape_trees/shapetrees/xpath/tree/XmlNames" = some m.cls) (hret : meth.sig.returnType = some .boolean) (hlk : meth.locks = false) (e0 : T0.heap = h0) (Z0 : n0 ≤ h0.size) (N0 : Fr n0 locs) (hP : P (some (.int (f1_134 x0))) h0) :
    own_Goes p e below s n0 0 0 P (T0.setTop (mkF m 134 #[.val (.int x0)] [])) := by
  have pre1 : ∀ t, Steps p.tables e below (T0.setTop (mkF m 138 #[.val (.int x0)] [(.int (8591 : Int32)), (.int x0)])) t → Steps p.tables e below (T0.setTop (mkF m 134 #[.val (.int x0)] [])) t := fun t kt => by
    show Steps p.tables e below (T0.setTop (mkF m 134 #[.val (.int x0)] [])) _
    refine XS.iloadN X0.here hx rfl (hb hby d1_134) rfl ?_
    show Steps p.tables e below (T0.setTop (mkF m 135 #[.val (.int x0)] [(.int x0)])) _
    refine XS.sipush X0.here hx rfl (hb hby d1_135) ?_
    exact kt
  refine own_Goes.pre pre1 ?_
  by_cases hc : (8591 : Int32) < x0
  · rw [f1_134, if_pos hc] at hP
    refine own_Goes.pre (fun t kt => ?_) (b1_141 x0 X0 hx hZ hw hby hml hown hret hlk e0 Z0 N0 hP)
    show Steps p.tables e below (T0.setTop (mkF m 138 #[.val (.int x0)] [(.int (8591 : Int32)), (.int x0)])) _
    refine XS.icmpNo X0.here hx rfl (hb hby d1_138) rfl (tlt hc).2.2.2 ?_
    exact kt
  · rw [f1_134, if_neg hc] at hP
    refine own_Goes.pre (fun t kt => ?_) (b1_204 x0 X0 hx hZ hw hby hml hown hret hlk e0 Z0 N0 hP)
    show Steps p.tables e below (T0.setTop (mkF m 138 #[.val (.int x0)] [(.int (8591 : Int32)), (.int x0)])) _
    refine XS.icmpYes X0.here hx rfl (pc0 := 138) (pc' := 204) rfl (hb hby d1_138) rfl (flt hc).2.2.2 (by decide) (by decide) ?_
    exact kt
def f1_127 (x0 : Int32) : Int32 := if x0 < (8304 : Int32) then (f1_141 x0) else (f1_134 x0)
set_option maxRecDepth 65536 in
set_option maxHeartbeats 40000000 in
theorem b1_127 {p : Program} {l : Launch} {e : Env} {s : State} {m : MethodId} {args : Array Value} {below : List Frame} {meth : Method} {c : Code} {T0 : State} {locs : List Loc} {Z : State} {a0 : Array Value} {h0 : Heap} {n0 : Nat} {P : Option Value → Heap → Prop} (x0 : Int32) (X0 : Stand p l e ({ frames := 0, cells := 0, slots := 0, locals := 0 } : Room) s m args below meth c T0 locs 0 0) (hx : p.tables.exec = Jvm.exec) (hZ : Z.Warmed39 s.vm) (hw : ∀ d ∈ tables_1, d.before a0 Z = true) (hby : c.code = prog_173_method_2_code) (hml : c.maxLocals = 1) (hown : s.vm.findClass "com/example/shape_trees/shapetrees/xpath/tree/XmlNames" = some m.cls) (hret : meth.sig.returnType = some .boolean) (hlk : meth.locks = false) (e0 : T0.heap = h0) (Z0 : n0 ≤ h0.size) (N0 : Fr n0 locs) (hP : P (some (.int (f1_127 x0))) h0) :
    own_Goes p e below s n0 0 0 P (T0.setTop (mkF m 127 #[.val (.int x0)] [])) := by
  have pre1 : ∀ t, Steps p.tables e below (T0.setTop (mkF m 131 #[.val (.int x0)] [(.int (8304 : Int32)), (.int x0)])) t → Steps p.tables e below (T0.setTop (mkF m 127 #[.val (.int x0)] [])) t := fun t kt => by
    show Steps p.tables e below (T0.setTop (mkF m 127 #[.val (.int x0)] [])) _
    refine XS.iloadN X0.here hx rfl (hb hby d1_127) rfl ?_
    show Steps p.tables e below (T0.setTop (mkF m 128 #[.val (.int x0)] [(.int x0)])) _
    refine XS.sipush X0.here hx rfl (hb hby d1_128) ?_
    exact kt
  refine own_Goes.pre pre1 ?_
  by_cases hc : x0 < (8304 : Int32)
  · rw [f1_127, if_pos hc] at hP
    refine own_Goes.pre (fun t kt => ?_) (b1_141 x0 X0 hx hZ hw hby hml hown hret hlk e0 Z0 N0 hP)
    show Steps p.tables e below (T0.setTop (mkF m 131 #[.val (.int x0)] [(.int (8304 : Int32)), (.int x0)])) _
    refine XS.icmpYes X0.here hx rfl (pc0 := 131) (pc' := 141) rfl (hb hby d1_131) rfl (tlt hc).1 (by decide) (by decide) ?_
    exact kt
  · rw [f1_127, if_neg hc] at hP
    refine own_Goes.pre (fun t kt => ?_) (b1_134 x0 X0 hx hZ hw hby hml hown hret hlk e0 Z0 N0 hP)
    show Steps p.tables e below (T0.setTop (mkF m 131 #[.val (.int x0)] [(.int (8304 : Int32)), (.int x0)])) _
    refine XS.icmpNo X0.here hx rfl (hb hby d1_131) rfl (flt hc).1 ?_
    exact kt
def f1_120 (x0 : Int32) : Int32 := if (8205 : Int32) < x0 then (f1_127 x0) else (f1_204 x0)
set_option maxRecDepth 65536 in
set_option maxHeartbeats 40000000 in
theorem b1_120 {p : Program} {l : Launch} {e : Env} {s : State} {m : MethodId} {args : Array Value} {below : List Frame} {meth : Method} {c : Code} {T0 : State} {locs : List Loc} {Z : State} {a0 : Array Value} {h0 : Heap} {n0 : Nat} {P : Option Value → Heap → Prop} (x0 : Int32) (X0 : Stand p l e ({ frames := 0, cells := 0, slots := 0, locals := 0 } : Room) s m args below meth c T0 locs 0 0) (hx : p.tables.exec = Jvm.exec) (hZ : Z.Warmed39 s.vm) (hw : ∀ d ∈ tables_1, d.before a0 Z = true) (hby : c.code = prog_173_method_2_code) (hml : c.maxLocals = 1) (hown : s.vm.findClass "com/example/shape_trees/shapetrees/xpath/tree/XmlNames" = some m.cls) (hret : meth.sig.returnType = some .boolean) (hlk : meth.locks = false) (e0 : T0.heap = h0) (Z0 : n0 ≤ h0.size) (N0 : Fr n0 locs) (hP : P (some (.int (f1_120 x0))) h0) :
    own_Goes p e below s n0 0 0 P (T0.setTop (mkF m 120 #[.val (.int x0)] [])) := by
  have pre1 : ∀ t, Steps p.tables e below (T0.setTop (mkF m 124 #[.val (.int x0)] [(.int (8205 : Int32)), (.int x0)])) t → Steps p.tables e below (T0.setTop (mkF m 120 #[.val (.int x0)] [])) t := fun t kt => by
    show Steps p.tables e below (T0.setTop (mkF m 120 #[.val (.int x0)] [])) _
    refine XS.iloadN X0.here hx rfl (hb hby d1_120) rfl ?_
    show Steps p.tables e below (T0.setTop (mkF m 121 #[.val (.int x0)] [(.int x0)])) _
    refine XS.sipush X0.here hx rfl (hb hby d1_121) ?_
    exact kt
  refine own_Goes.pre pre1 ?_
  by_cases hc : (8205 : Int32) < x0
  · rw [f1_120, if_pos hc] at hP
    refine own_Goes.pre (fun t kt => ?_) (b1_127 x0 X0 hx hZ hw hby hml hown hret hlk e0 Z0 N0 hP)
    show Steps p.tables e below (T0.setTop (mkF m 124 #[.val (.int x0)] [(.int (8205 : Int32)), (.int x0)])) _
    refine XS.icmpNo X0.here hx rfl (hb hby d1_124) rfl (tlt hc).2.2.2 ?_
    exact kt
  · rw [f1_120, if_neg hc] at hP
    refine own_Goes.pre (fun t kt => ?_) (b1_204 x0 X0 hx hZ hw hby hml hown hret hlk e0 Z0 N0 hP)
    show Steps p.tables e below (T0.setTop (mkF m 124 #[.val (.int x0)] [(.int (8205 : Int32)), (.int x0)])) _
    refine XS.icmpYes X0.here hx rfl (pc0 := 124) (pc' := 204) rfl (hb hby d1_124) rfl (flt hc).2.2.2 (by decide) (by decide) ?_
    exact kt
def f1_113 (x0 : Int32) : Int32 := if x0 < (8204 : Int32) then (f1_127 x0) else (f1_120 x0)
set_option maxRecDepth 65536 in
set_option maxHeartbeats 40000000 in
theorem b1_113 {p : Program} {l : Launch} {e : Env} {s : State} {m : MethodId} {args : Array Value} {below : List Frame} {meth : Method} {c : Code} {T0 : State} {locs : List Loc} {Z : State} {a0 : Array Value} {h0 : Heap} {n0 : Nat} {P : Option Value → Heap → Prop} (x0 : Int32) (X0 : Stand p l e ({ frames := 0, cells := 0, slots := 0, locals := 0 } : Room) s m args below meth c T0 locs 0 0) (hx : p.tables.exec = Jvm.exec) (hZ : Z.Warmed39 s.vm) (hw : ∀ d ∈ tables_1, d.before a0 Z = true) (hby : c.code = prog_173_method_2_code) (hml : c.maxLocals = 1) (hown : s.vm.findClass "com/example/shape_trees/shapetrees/xpath/tree/XmlNames" = some m.cls) (hret : meth.sig.returnType = some .boolean) (hlk : meth.locks = false) (e0 : T0.heap = h0) (Z0 : n0 ≤ h0.size) (N0 : Fr n0 locs) (hP : P (some (.int (f1_113 x0))) h0) :
    own_Goes p e below s n0 0 0 P (T0.setTop (mkF m 113 #[.val (.int x0)] [])) := by
  have pre1 : ∀ t, Steps p.tables e below (T0.setTop (mkF m 117 #[.val (.int x0)] [(.int (8204 : Int32)), (.int x0)])) t → Steps p.tables e below (T0.setTop (mkF m 113 #[.val (.int x0)] [])) t := fun t kt => by
    show Steps p.tables e below (T0.setTop (mkF m 113 #[.val (.int x0)] [])) _
    refine XS.iloadN X0.here hx rfl (hb hby d1_113) rfl ?_
    show Steps p.tables e below (T0.setTop (mkF m 114 #[.val (.int x0)] [(.int x0)])) _
    refine XS.sipush X0.here hx rfl (hb hby d1_114) ?_
    exact kt
  refine own_Goes.pre pre1 ?_
  by_cases hc : x0 < (8204 : Int32)
  · rw [f1_113, if_pos hc] at hP
    refine own_Goes.pre (fun t kt => ?_) (b1_127 x0 X0 hx hZ hw hby hml hown hret hlk e0 Z0 N0 hP)
    show Steps p.tables e below (T0.setTop (mkF m 117 #[.val (.int x0)] [(.int (8204 : Int32)), (.int x0)])) _
    refine XS.icmpYes X0.here hx rfl (pc0 := 117) (pc' := 127) rfl (hb hby d1_117) rfl (tlt hc).1 (by decide) (by decide) ?_
    exact kt
  · rw [f1_113, if_neg hc] at hP
    refine own_Goes.pre (fun t kt => ?_) (b1_120 x0 X0 hx hZ hw hby hml hown hret hlk e0 Z0 N0 hP)
    show Steps p.tables e below (T0.setTop (mkF m 117 #[.val (.int x0)] [(.int (8204 : Int32)), (.int x0)])) _
    refine XS.icmpNo X0.here hx rfl (hb hby d1_117) rfl (flt hc).1 ?_
    exact kt
def f1_106 (x0 : Int32) : Int32 := if (8191 : Int32) < x0 then (f1_113 x0) else (f1_204 x0)
set_option maxRecDepth 65536 in
set_option maxHeartbeats 40000000 in
theorem b1_106 {p : Program} {l : Launch} {e : Env} {s : State} {m : MethodId} {args : Array Value} {below : List Frame} {meth : Method} {c : Code} {T0 : State} {locs : List Loc} {Z : State} {a0 : Array Value} {h0 : Heap} {n0 : Nat} {P : Option Value → Heap → Prop} (x0 : Int32) (X0 : Stand p l e ({ frames := 0, cells := 0, slots := 0, locals := 0 } : Room) s m args below meth c T0 locs 0 0) (hx : p.tables.exec = Jvm.exec) (hZ : Z.Warmed39 s.vm) (hw : ∀ d ∈ tables_1, d.before a0 Z = true) (hby : c.code = prog_173_method_2_code) (hml : c.maxLocals = 1) (hown : s.vm.findClass "com/example/shape_trees/shapetrees/xpath/tree/XmlNames" = some m.cls) (hret : meth.sig.returnType = some .boolean) (hlk : meth.locks = false) (e0 : T0.heap = h0) (Z0 : n0 ≤ h0.size) (N0 : Fr n0 locs) (hP : P (some (.int (f1_106 x0))) h0) :
    own_Goes p e below s n0 0 0 P (T0.setTop (mkF m 106 #[.val (.int x0)] [])) := by
  have pre1 : ∀ t, Steps p.tables e below (T0.setTop (mkF m 110 #[.val (.int x0)] [(.int (8191 : Int32)), (.int x0)])) t → Steps p.tables e below (T0.setTop (mkF m 106 #[.val (.int x0)] [])) t := fun t kt => by
    show Steps p.tables e below (T0.setTop (mkF m 106 #[.val (.int x0)] [])) _
    refine XS.iloadN X0.here hx rfl (hb hby d1_106) rfl ?_
    show Steps p.tables e below (T0.setTop (mkF m 107 #[.val (.int x0)] [(.int x0)])) _
    refine XS.sipush X0.here hx rfl (hb hby d1_107) ?_
    exact kt
  refine own_Goes.pre pre1 ?_
  by_cases hc : (8191 : Int32) < x0
  · rw [f1_106, if_pos hc] at hP
    refine own_Goes.pre (fun t kt => ?_) (b1_113 x0 X0 hx hZ hw hby hml hown hret hlk e0 Z0 N0 hP)
    show Steps p.tables e below (T0.setTop (mkF m 110 #[.val (.int x0)] [(.int (8191 : Int32)), (.int x0)])) _
    refine XS.icmpNo X0.here hx rfl (hb hby d1_110) rfl (tlt hc).2.2.2 ?_
    exact kt
  · rw [f1_106, if_neg hc] at hP
    refine own_Goes.pre (fun t kt => ?_) (b1_204 x0 X0 hx hZ hw hby hml hown hret hlk e0 Z0 N0 hP)
    show Steps p.tables e below (T0.setTop (mkF m 110 #[.val (.int x0)] [(.int (8191 : Int32)), (.int x0)])) _
    refine XS.icmpYes X0.here hx rfl (pc0 := 110) (pc' := 204) rfl (hb hby d1_110) rfl (flt hc).2.2.2 (by decide) (by decide) ?_
    exact kt
def f1_99 (x0 : Int32) : Int32 := if x0 < (895 : Int32) then (f1_113 x0) else (f1_106 x0)
set_option maxRecDepth 65536 in
set_option maxHeartbeats 40000000 in
theorem b1_99 {p : Program} {l : Launch} {e : Env} {s : State} {m : MethodId} {args : Array Value} {below : List Frame} {meth : Method} {c : Code} {T0 : State} {locs : List Loc} {Z : State} {a0 : Array Value} {h0 : Heap} {n0 : Nat} {P : Option Value → Heap → Prop} (x0 : Int32) (X0 : Stand p l e ({ frames := 0, cells := 0, slots := 0, locals := 0 } : Room) s m args below meth c T0 locs 0 0) (hx : p.tables.exec = Jvm.exec) (hZ : Z.Warmed39 s.vm) (hw : ∀ d ∈ tables_1, d.before a0 Z = true) (hby : c.code = prog_173_method_2_code) (hml : c.maxLocals = 1) (hown : s.vm.findClass "com/example/shape_trees/shapetrees/xpath/tree/XmlNames" = some m.cls) (hret : meth.sig.returnType = some .boolean) (hlk : meth.locks = false) (e0 : T0.heap = h0) (Z0 : n0 ≤ h0.size) (N0 : Fr n0 locs) (hP : P (some (.int (f1_99 x0))) h0) :
    own_Goes p e below s n0 0 0 P (T0.setTop (mkF m 99 #[.val (.int x0)] [])) := by
  have pre1 : ∀ t, Steps p.tables e below (T0.setTop (mkF m 103 #[.val (.int x0)] [(.int (895 : Int32)), (.int x0)])) t → Steps p.tables e below (T0.setTop (mkF m 99 #[.val (.int x0)] [])) t := fun t kt => by
    show Steps p.tables e below (T0.setTop (mkF m 99 #[.val (.int x0)] [])) _
    refine XS.iloadN X0.here hx rfl (hb hby d1_99) rfl ?_
    show Steps p.tables e below (T0.setTop (mkF m 100 #[.val (.int x0)] [(.int x0)])) _
    refine XS.sipush X0.here hx rfl (hb hby d1_100) ?_
    exact kt
  refine own_Goes.pre pre1 ?_
  by_cases hc : x0 < (895 : Int32)
  · rw [f1_99, if_pos hc] at hP
    refine own_Goes.pre (fun t kt => ?_) (b1_113 x0 X0 hx hZ hw hby hml hown hret hlk e0 Z0 N0 hP)
    show Steps p.tables e below (T0.setTop (mkF m 103 #[.val (.int x0)] [(.int (895 : Int32)), (.int x0)])) _
    refine XS.icmpYes X0.here hx rfl (pc0 := 103) (pc' := 113) rfl (hb hby d1_103) rfl (tlt hc).1 (by decide) (by decide) ?_
    exact kt
  · rw [f1_99, if_neg hc] at hP
    refine own_Goes.pre (fun t kt => ?_) (b1_106 x0 X0 hx hZ hw hby hml hown hret hlk e0 Z0 N0 hP)
    show Steps p.tables e below (T0.setTop (mkF m 103 #[.val (.int x0)] [(.int (895 : Int32)), (.int x0)])) _
    refine XS.icmpNo X0.here hx rfl (hb hby d1_103) rfl (flt hc).1 ?_
    exact kt
def f1_92 (x0 : Int32) : Int32 := if (893 : Int32) < x0 then (f1_99 x0) else (f1_204 x0)
set_option maxRecDepth 65536 in
set_option maxHeartbeats 40000000 in
theorem b1_92 {p : Program} {l : Launch} {e : Env} {s : State} {m : MethodId} {args : Array Value} {below : List Frame} {meth : Method} {c : Code} {T0 : State} {locs : List Loc} {Z : State} {a0 : Array Value} {h0 : Heap} {n0 : Nat} {P : Option Value → Heap → Prop} (x0 : Int32) (X0 : Stand p l e ({ frames := 0, cells := 0, slots := 0, locals := 0 } : Room) s m args below meth c T0 locs 0 0) (hx : p.tables.exec = Jvm.exec) (hZ : Z.Warmed39 s.vm) (hw : ∀ d ∈ tables_1, d.before a0 Z = true) (hby : c.code = prog_173_method_2_code) (hml : c.maxLocals = 1) (hown : s.vm.findClass "com/example/shape_trees/shapetrees/xpath/tree/XmlNames" = some m.cls) (hret : meth.sig.returnType = some .boolean) (hlk : meth.locks = false) (e0 : T0.heap = h0) (Z0 : n0 ≤ h0.size) (N0 : Fr n0 locs) (hP : P (some (.int (f1_92 x0))) h0) :
    own_Goes p e below s n0 0 0 P (T0.setTop (mkF m 92 #[.val (.int x0)] [])) := by
  have pre1 : ∀ t, Steps p.tables e below (T0.setTop (mkF m 96 #[.val (.int x0)] [(.int (893 : Int32)), (.int x0)])) t → Steps p.tables e below (T0.setTop (mkF m 92 #[.val (.int x0)] [])) t := fun t kt => by
    show Steps p.tables e below (T0.setTop (mkF m 92 #[.val (.int x0)] [])) _
    refine XS.iloadN X0.here hx rfl (hb hby d1_92) rfl ?_
    show Steps p.tables e below (T0.setTop (mkF m 93 #[.val (.int x0)] [(.int x0)])) _
    refine XS.sipush X0.here hx rfl (hb hby d1_93) ?_
    exact kt
  refine own_Goes.pre pre1 ?_
  by_cases hc : (893 : Int32) < x0
  · rw [f1_92, if_pos hc] at hP
    refine own_Goes.pre (fun t kt => ?_) (b1_99 x0 X0 hx hZ hw hby hml hown hret hlk e0 Z0 N0 hP)
    show Steps p.tables e below (T0.setTop (mkF m 96 #[.val (.int x0)] [(.int (893 : Int32)), (.int x0)])) _
    refine XS.icmpNo X0.here hx rfl (hb hby d1_96) rfl (tlt hc).2.2.2 ?_
    exact kt
  · rw [f1_92, if_neg hc] at hP
    refine own_Goes.pre (fun t kt => ?_) (b1_204 x0 X0 hx hZ hw hby hml hown hret hlk e0 Z0 N0 hP)
    show Steps p.tables e below (T0.setTop (mkF m 96 #[.val (.int x0)] [(.int (893 : Int32)), (.int x0)])) _
    refine XS.icmpYes X0.here hx rfl (pc0 := 96) (pc' := 204) rfl (hb hby d1_96) rfl (flt hc).2.2.2 (by decide) (by decide) ?_
    exact kt
def f1_85 (x0 : Int32) : Int32 := if x0 < (880 : Int32) then (f1_99 x0) else (f1_92 x0)
set_option maxRecDepth 65536 in
set_option maxHeartbeats 40000000 in
theorem b1_85 {p : Program} {l : Launch} {e : Env} {s : State} {m : MethodId} {args : Array Value} {below : List Frame} {meth : Method} {c : Code} {T0 : State} {locs : List Loc} {Z : State} {a0 : Array Value} {h0 : Heap} {n0 : Nat} {P : Option Value → Heap → Prop} (x0 : Int32) (X0 : Stand p l e ({ frames := 0, cells := 0, slots := 0, locals := 0 } : Room) s m args below meth c T0 locs 0 0) (hx : p.tables.exec = Jvm.exec) (hZ : Z.Warmed39 s.vm) (hw : ∀ d ∈ tables_1, d.before a0 Z = true) (hby : c.code = prog_173_method_2_code) (hml : c.maxLocals = 1) (hown : s.vm.findClass "com/example/shape_trees/shapetrees/xpath/tree/XmlNames" = some m.cls) (hret : meth.sig.returnType = some .boolean) (hlk : meth.locks = false) (e0 : T0.heap = h0) (Z0 : n0 ≤ h0.size) (N0 : Fr n0 locs) (hP : P (some (.int (f1_85 x0))) h0) :
    own_Goes p e below s n0 0 0 P (T0.setTop (mkF m 85 #[.val (.int x0)] [])) := by
  have pre1 : ∀ t, Steps p.tables e below (T0.setTop (mkF m 89 #[.val (.int x0)] [(.int (880 : Int32)), (.int x0)])) t → Steps p.tables e below (T0.setTop (mkF m 85 #[.val (.int x0)] [])) t := fun t kt => by
    show Steps p.tables e below (T0.setTop (mkF m 85 #[.val (.int x0)] [])) _
    refine XS.iloadN X0.here hx rfl (hb hby d1_85) rfl ?_
    show Steps p.tables e below (T0.setTop (mkF m 86 #[.val (.int x0)] [(.int x0)])) _
    refine XS.sipush X0.here hx rfl (hb hby d1_86) ?_
    exact kt
  refine own_Goes.pre pre1 ?_
  by_cases hc : x0 < (880 : Int32)
  · rw [f1_85, if_pos hc] at hP
    refine own_Goes.pre (fun t kt => ?_) (b1_99 x0 X0 hx hZ hw hby hml hown hret hlk e0 Z0 N0 hP)
    show Steps p.tables e below (T0.setTop (mkF m 89 #[.val (.int x0)] [(.int (880 : Int32)), (.int x0)])) _
    refine XS.icmpYes X0.here hx rfl (pc0 := 89) (pc' := 99) rfl (hb hby d1_89) rfl (tlt hc).1 (by decide) (by decide) ?_
    exact kt
  · rw [f1_85, if_neg hc] at hP
    refine own_Goes.pre (fun t kt => ?_) (b1_92 x0 X0 hx hZ hw hby hml hown hret hlk e0 Z0 N0 hP)
    show Steps p.tables e below (T0.setTop (mkF m 89 #[.val (.int x0)] [(.int (880 : Int32)), (.int x0)])) _
    refine XS.icmpNo X0.here hx rfl (hb hby d1_89) rfl (flt hc).1 ?_
    exact kt
def f1_78 (x0 : Int32) : Int32 := if (767 : Int32) < x0 then (f1_85 x0) else (f1_204 x0)
set_option maxRecDepth 65536 in
set_option maxHeartbeats 40000000 in
theorem b1_78 {p : Program} {l : Launch} {e : Env} {s : State} {m : MethodId} {args : Array Value} {below : List Frame} {meth : Method} {c : Code} {T0 : State} {locs : List Loc} {Z : State} {a0 : Array Value} {h0 : Heap} {n0 : Nat} {P : Option Value → Heap → Prop} (x0 : Int32) (X0 : Stand p l e ({ frames := 0, cells := 0, slots := 0, locals := 0 } : Room) s m args below meth c T0 locs 0 0) (hx : p.tables.exec = Jvm.exec) (hZ : Z.Warmed39 s.vm) (hw : ∀ d ∈ tables_1, d.before a0 Z = true) (hby : c.code = prog_173_method_2_code) (hml : c.maxLocals = 1) (hown : s.vm.findClass "com/example/shape_trees/shapetrees/xpath/tree/XmlNames" = some m.cls) (hret : meth.sig.returnType = some .boolean) (hlk : meth.locks = false) (e0 : T0.heap = h0) (Z0 : n0 ≤ h0.size) (N0 : Fr n0 locs) (hP : P (some (.int (f1_78 x0))) h0) :
    own_Goes p e below s n0 0 0 P (T0.setTop (mkF m 78 #[.val (.int x0)] [])) := by
  have pre1 : ∀ t, Steps p.tables e below (T0.setTop (mkF m 82 #[.val (.int x0)] [(.int (767 : Int32)), (.int x0)])) t → Steps p.tables e below (T0.setTop (mkF m 78 #[.val (.int x0)] [])) t := fun t kt => by
    show Steps p.tables e below (T0.setTop (mkF m 78 #[.val (.int x0)] [])) _
    refine XS.iloadN X0.here hx rfl (hb hby d1_78) rfl ?_
    show Steps p.tables e below (T0.setTop (mkF m 79 #[.val (.int x0)] [(.int x0)])) _
    refine XS.sipush X0.here hx rfl (hb hby d1_79) ?_
    exact kt
  refine own_Goes.pre pre1 ?_
  by_cases hc : (767 : Int32) < x0
  · rw [f1_78, if_pos hc] at hP
    refine own_Goes.pre (fun t kt => ?_) (b1_85 x0 X0 hx hZ hw hby hml hown hret hlk e0 Z0 N0 hP)
    show Steps p.tables e below (T0.setTop (mkF m 82 #[.val (.int x0)] [(.int (767 : Int32)), (.int x0)])) _
    refine XS.icmpNo X0.here hx rfl (hb hby d1_82) rfl (tlt hc).2.2.2 ?_
    exact kt
  · rw [f1_78, if_neg hc] at hP
    refine own_Goes.pre (fun t kt => ?_) (b1_204 x0 X0 hx hZ hw hby hml hown hret hlk e0 Z0 N0 hP)
    show Steps p.tables e below (T0.setTop (mkF m 82 #[.val (.int x0)] [(.int (767 : Int32)), (.int x0)])) _
    refine XS.icmpYes X0.here hx rfl (pc0 := 82) (pc' := 204) rfl (hb hby d1_82) rfl (flt hc).2.2.2 (by decide) (by decide) ?_
    exact kt
def f1_71 (x0 : Int32) : Int32 := if x0 < (248 : Int32) then (f1_85 x0) else (f1_78 x0)
set_option maxRecDepth 65536 in
set_option maxHeartbeats 40000000 in
theorem b1_71 {p : Program} {l : Launch} {e : Env} {s : State} {m : MethodId} {args : Array Value} {below : List Frame} {meth : Method} {c : Code} {T0 : State} {locs : List Loc} {Z : State} {a0 : Array Value} {h0 : Heap} {n0 : Nat} {P : Option Value → Heap → Prop} (x0 : Int32) (X0 : Stand p l e ({ frames := 0, cells := 0, slots := 0, locals := 0 } : Room) s m args below meth c T0 locs 0 0) (hx : p.tables.exec = Jvm.exec) (hZ : Z.Warmed39 s.vm) (hw : ∀ d ∈ tables_1, d.before a0 Z = true) (hby : c.code = prog_173_method_2_code) (hml : c.maxLocals = 1) (hown : s.vm.findClass "com/example/shape_trees/shapetrees/xpath/tree/XmlNames" = some m.cls) (hret : meth.sig.returnType = some .boolean) (hlk : meth.locks = false) (e0 : T0.heap = h0) (Z0 : n0 ≤ h0.size) (N0 : Fr n0 locs) (hP : P (some (.int (f1_71 x0))) h0) :
    own_Goes p e below s n0 0 0 P (T0.setTop (mkF m 71 #[.val (.int x0)] [])) := by
  have pre1 : ∀ t, Steps p.tables e below (T0.setTop (mkF m 75 #[.val (.int x0)] [(.int (248 : Int32)), (.int x0)])) t → Steps p.tables e below (T0.setTop (mkF m 71 #[.val (.int x0)] [])) t := fun t kt => by
    show Steps p.tables e below (T0.setTop (mkF m 71 #[.val (.int x0)] [])) _
    refine XS.iloadN X0.here hx rfl (hb hby d1_71) rfl ?_
    show Steps p.tables e below (T0.setTop (mkF m 72 #[.val (.int x0)] [(.int x0)])) _
    refine XS.sipush X0.here hx rfl (hb hby d1_72) ?_
    exact kt
  refine own_Goes.pre pre1 ?_
  by_cases hc : x0 < (248 : Int32)
  · rw [f1_71, if_pos hc] at hP
    refine own_Goes.pre (fun t kt => ?_) (b1_85 x0 X0 hx hZ hw hby hml hown hret hlk e0 Z0 N0 hP)
    show Steps p.tables e below (T0.setTop (mkF m 75 #[.val (.int x0)] [(.int (248 : Int32)), (.int x0)])) _
    refine XS.icmpYes X0.here hx rfl (pc0 := 75) (pc' := 85) rfl (hb hby d1_75) rfl (tlt hc).1 (by decide) (by decide) ?_
    exact kt
  · rw [f1_71, if_neg hc] at hP
    refine own_Goes.pre (fun t kt => ?_) (b1_78 x0 X0 hx hZ hw hby hml hown hret hlk e0 Z0 N0 hP)
    show Steps p.tables e below (T0.setTop (mkF m 75 #[.val (.int x0)] [(.int (248 : Int32)), (.int x0)])) _
    refine XS.icmpNo X0.here hx rfl (hb hby d1_75) rfl (flt hc).1 ?_
    exact kt
def f1_64 (x0 : Int32) : Int32 := if (246 : Int32) < x0 then (f1_71 x0) else (f1_204 x0)
set_option maxRecDepth 65536 in
set_option maxHeartbeats 40000000 in
theorem b1_64 {p : Program} {l : Launch} {e : Env} {s : State} {m : MethodId} {args : Array Value} {below : List Frame} {meth : Method} {c : Code} {T0 : State} {locs : List Loc} {Z : State} {a0 : Array Value} {h0 : Heap} {n0 : Nat} {P : Option Value → Heap → Prop} (x0 : Int32) (X0 : Stand p l e ({ frames := 0, cells := 0, slots := 0, locals := 0 } : Room) s m args below meth c T0 locs 0 0) (hx : p.tables.exec = Jvm.exec) (hZ : Z.Warmed39 s.vm) (hw : ∀ d ∈ tables_1, d.before a0 Z = true) (hby : c.code = prog_173_method_2_code) (hml : c.maxLocals = 1) (hown : s.vm.findClass "com/example/shape_trees/shapetrees/xpath/tree/XmlNames" = some m.cls) (hret : meth.sig.returnType = some .boolean) (hlk : meth.locks = false) (e0 : T0.heap = h0) (Z0 : n0 ≤ h0.size) (N0 : Fr n0 locs) (hP : P (some (.int (f1_64 x0))) h0) :
    own_Goes p e below s n0 0 0 P (T0.setTop (mkF m 64 #[.val (.int x0)] [])) := by
  have pre1 : ∀ t, Steps p.tables e below (T0.setTop (mkF m 68 #[.val (.int x0)] [(.int (246 : Int32)), (.int x0)])) t → Steps p.tables e below (T0.setTop (mkF m 64 #[.val (.int x0)] [])) t := fun t kt => by
    show Steps p.tables e below (T0.setTop (mkF m 64 #[.val (.int x0)] [])) _
    refine XS.iloadN X0.here hx rfl (hb hby d1_64) rfl ?_
    show Steps p.tables e below (T0.setTop (mkF m 65 #[.val (.int x0)] [(.int x0)])) _
    refine XS.sipush X0.here hx rfl (hb hby d1_65) ?_
    exact kt
  refine own_Goes.pre pre1 ?_
  by_cases hc : (246 : Int32) < x0
  · rw [f1_64, if_pos hc] at hP
    refine own_Goes.pre (fun t kt => ?_) (b1_71 x0 X0 hx hZ hw hby hml hown hret hlk e0 Z0 N0 hP)
    show Steps p.tables e below (T0.setTop (mkF m 68 #[.val (.int x0)] [(.int (246 : Int32)), (.int x0)])) _
    refine XS.icmpNo X0.here hx rfl (hb hby d1_68) rfl (tlt hc).2.2.2 ?_
    exact kt
  · rw [f1_64, if_neg hc] at hP
    refine own_Goes.pre (fun t kt => ?_) (b1_204 x0 X0 hx hZ hw hby hml hown hret hlk e0 Z0 N0 hP)
    show Steps p.tables e below (T0.setTop (mkF m 68 #[.val (.int x0)] [(.int (246 : Int32)), (.int x0)])) _
    refine XS.icmpYes X0.here hx rfl (pc0 := 68) (pc' := 204) rfl (hb hby d1_68) rfl (flt hc).2.2.2 (by decide) (by decide) ?_
    exact kt
def f1_57 (x0 : Int32) : Int32 := if x0 < (216 : Int32) then (f1_71 x0) else (f1_64 x0)
set_option maxRecDepth 65536 in
set_option maxHeartbeats 40000000 in
theorem b1_57 {p : Program} {l : Launch} {e : Env} {s : State} {m : MethodId} {args : Array Value} {below : List Frame} {meth : Method} {c : Code} {T0 : State} {locs : List Loc} {Z : State} {a0 : Array Value} {h0 : Heap} {n0 : Nat} {P : Option Value → Heap → Prop} (x0 : Int32) (X0 : Stand p l e ({ frames := 0, cells := 0, slots := 0, locals := 0 } : Room) s m args below meth c T0 locs 0 0) (hx : p.tables.exec = Jvm.exec) (hZ : Z.Warmed39 s.vm) (hw : ∀ d ∈ tables_1, d.before a0 Z = true) (hby : c.code = prog_173_method_2_code) (hml : c.maxLocals = 1) (hown : s.vm.findClass "com/example/shape_trees/shapetrees/xpath/tree/XmlNames" = some m.cls) (hret : meth.sig.returnType = some .boolean) (hlk : meth.locks = false) (e0 : T0.heap = h0) (Z0 : n0 ≤ h0.size) (N0 : Fr n0 locs) (hP : P (some (.int (f1_57 x0))) h0) :
    own_Goes p e below s n0 0 0 P (T0.setTop (mkF m 57 #[.val (.int x0)] [])) := by
  have pre1 : ∀ t, Steps p.tables e below (T0.setTop (mkF m 61 #[.val (.int x0)] [(.int (216 : Int32)), (.int x0)])) t → Steps p.tables e below (T0.setTop (mkF m 57 #[.val (.int x0)] [])) t := fun t kt => by
    show Steps p.tables e below (T0.setTop (mkF m 57 #[.val (.int x0)] [])) _
    refine XS.iloadN X0.here hx rfl (hb hby d1_57) rfl ?_
    show Steps p.tables e below (T0.setTop (mkF m 58 #[.val (.int x0)] [(.int x0)])) _
    refine XS.sipush X0.here hx rfl (hb hby d1_58) ?_
    exact kt
  refine own_Goes.pre pre1 ?_
  by_cases hc : x0 < (216 : Int32)
  · rw [f1_57, if_pos hc] at hP
    refine own_Goes.pre (fun t kt => ?_) (b1_71 x0 X0 hx hZ hw hby hml hown hret hlk e0 Z0 N0 hP)
    show Steps p.tables e below (T0.setTop (mkF m 61 #[.val (.int x0)] [(.int (216 : Int32)), (.int x0)])) _
    refine XS.icmpYes X0.here hx rfl (pc0 := 61) (pc' := 71) rfl (hb hby d1_61) rfl (tlt hc).1 (by decide) (by decide) ?_
    exact kt
  · rw [f1_57, if_neg hc] at hP
    refine own_Goes.pre (fun t kt => ?_) (b1_64 x0 X0 hx hZ hw hby hml hown hret hlk e0 Z0 N0 hP)
    show Steps p.tables e below (T0.setTop (mkF m 61 #[.val (.int x0)] [(.int (216 : Int32)), (.int x0)])) _
    refine XS.icmpNo X0.here hx rfl (hb hby d1_61) rfl (flt hc).1 ?_
    exact kt
def f1_50 (x0 : Int32) : Int32 := if (214 : Int32) < x0 then (f1_57 x0) else (f1_204 x0)
set_option maxRecDepth 65536 in
set_option maxHeartbeats 40000000 in
theorem b1_50 {p : Program} {l : Launch} {e : Env} {s : State} {m : MethodId} {args : Array Value} {below : List Frame} {meth : Method} {c : Code} {T0 : State} {locs : List Loc} {Z : State} {a0 : Array Value} {h0 : Heap} {n0 : Nat} {P : Option Value → Heap → Prop} (x0 : Int32) (X0 : Stand p l e ({ frames := 0, cells := 0, slots := 0, locals := 0 } : Room) s m args below meth c T0 locs 0 0) (hx : p.tables.exec = Jvm.exec) (hZ : Z.Warmed39 s.vm) (hw : ∀ d ∈ tables_1, d.before a0 Z = true) (hby : c.code = prog_173_method_2_code) (hml : c.maxLocals = 1) (hown : s.vm.findClass "com/example/shape_trees/shapetrees/xpath/tree/XmlNames" = some m.cls) (hret : meth.sig.returnType = some .boolean) (hlk : meth.locks = false) (e0 : T0.heap = h0) (Z0 : n0 ≤ h0.size) (N0 : Fr n0 locs) (hP : P (some (.int (f1_50 x0))) h0) :
    own_Goes p e below s n0 0 0 P (T0.setTop (mkF m 50 #[.val (.int x0)] [])) := by
  have pre1 : ∀ t, Steps p.tables e below (T0.setTop (mkF m 54 #[.val (.int x0)] [(.int (214 : Int32)), (.int x0)])) t → Steps p.tables e below (T0.setTop (mkF m 50 #[.val (.int x0)] [])) t := fun t kt => by
    show Steps p.tables e below (T0.setTop (mkF m 50 #[.val (.int x0)] [])) _
    refine XS.iloadN X0.here hx rfl (hb hby d1_50) rfl ?_
    show Steps p.tables e below (T0.setTop (mkF m 51 #[.val (.int x0)] [(.int x0)])) _
    refine XS.sipush X0.here hx rfl (hb hby d1_51) ?_
    exact kt
  refine own_Goes.pre pre1 ?_
  by_cases hc : (214 : Int32) < x0
  · rw [f1_50, if_pos hc] at hP
    refine own_Goes.pre (fun t kt => ?_) (b1_57 x0 X0 hx hZ hw hby hml hown hret hlk e0 Z0 N0 hP)
    show Steps p.tables e below (T0.setTop (mkF m 54 #[.val (.int x0)] [(.int (214 : Int32)), (.int x0)])) _
    refine XS.icmpNo X0.here hx rfl (hb hby d1_54) rfl (tlt hc).2.2.2 ?_
    exact kt
  · rw [f1_50, if_neg hc] at hP
    refine own_Goes.pre (fun t kt => ?_) (b1_204 x0 X0 hx hZ hw hby hml hown hret hlk e0 Z0 N0 hP)
    show Steps p.tables e below (T0.setTop (mkF m 54 #[.val (.int x0)] [(.int (214 : Int32)), (.int x0)])) _
    refine XS.icmpYes X0.here hx rfl (pc0 := 54) (pc' := 204) rfl (hb hby d1_54) rfl (flt hc).2.2.2 (by decide) (by decide) ?_
    exact kt
def f1_43 (x0 : Int32) : Int32 := if x0 < (192 : Int32) then (f1_57 x0) else (f1_50 x0)
set_option maxRecDepth 65536 in
set_option maxHeartbeats 40000000 in
theorem b1_43 {p : Program} {l : Launch} {e : Env} {s : State} {m : MethodId} {args : Array Value} {below : List Frame} {meth : Method} {c : Code} {T0 : State} {locs : List Loc} {Z : State} {a0 : Array Value} {h0 : Heap} {n0 : Nat} {P : Option Value → Heap → Prop} (x0 : Int32) (X0 : Stand p l e ({ frames := 0, cells := 0, slots := 0, locals := 0 } : Room) s m args below meth c T0 locs 0 0) (hx : p.tables.exec = Jvm.exec) (hZ : Z.Warmed39 s.vm) (hw : ∀ d ∈ tables_1, d.before a0 Z = true) (hby : c.code = prog_173_method_2_code) (hml : c.maxLocals = 1) (hown : s.vm.findClass "com/example/shape_trees/shapetrees/xpath/tree/XmlNames" = some m.cls) (hret : meth.sig.returnType = some .boolean) (hlk : meth.locks = false) (e0 : T0.heap = h0) (Z0 : n0 ≤ h0.size) (N0 : Fr n0 locs) (hP : P (some (.int (f1_43 x0))) h0) :
    own_Goes p e below s n0 0 0 P (T0.setTop (mkF m 43 #[.val (.int x0)] [])) := by
  have pre1 : ∀ t, Steps p.tables e below (T0.setTop (mkF m 47 #[.val (.int x0)] [(.int (192 : Int32)), (.int x0)])) t → Steps p.tables e below (T0.setTop (mkF m 43 #[.val (.int x0)] [])) t := fun t kt => by
    show Steps p.tables e below (T0.setTop (mkF m 43 #[.val (.int x0)] [])) _
    refine XS.iloadN X0.here hx rfl (hb hby d1_43) rfl ?_
    show Steps p.tables e below (T0.setTop (mkF m 44 #[.val (.int x0)] [(.int x0)])) _
    refine XS.sipush X0.here hx rfl (hb hby d1_44) ?_
    exact kt
  refine own_Goes.pre pre1 ?_
  by_cases hc : x0 < (192 : Int32)
  · rw [f1_43, if_pos hc] at hP
    refine own_Goes.pre (fun t kt => ?_) (b1_57 x0 X0 hx hZ hw hby hml hown hret hlk e0 Z0 N0 hP)
    show Steps p.tables e below (T0.setTop (mkF m 47 #[.val (.int x0)] [(.int (192 : Int32)), (.int x0)])) _
    refine XS.icmpYes X0.here hx rfl (pc0 := 47) (pc' := 57) rfl (hb hby d1_47) rfl (tlt hc).1 (by decide) (by decide) ?_
    exact kt
  · rw [f1_43, if_neg hc] at hP
    refine own_Goes.pre (fun t kt => ?_) (b1_50 x0 X0 hx hZ hw hby hml hown hret hlk e0 Z0 N0 hP)
    show Steps p.tables e below (T0.setTop (mkF m 47 #[.val (.int x0)] [(.int (192 : Int32)), (.int x0)])) _
    refine XS.icmpNo X0.here hx rfl (hb hby d1_47) rfl (flt hc).1 ?_
    exact kt
def f1_41 (x0 : Int32) : Int32 := (0 : Int32)
set_option maxRecDepth 65536 in
set_option maxHeartbeats 40000000 in
theorem b1_41 {p : Program} {l : Launch} {e : Env} {s : State} {m : MethodId} {args : Array Value} {below : List Frame} {meth : Method} {c : Code} {T0 : State} {locs : List Loc} {Z : State} {a0 : Array Value} {h0 : Heap} {n0 : Nat} {P : Option Value → Heap → Prop} (x0 : Int32) (X0 : Stand p l e ({ frames := 0, cells := 0, slots := 0, locals := 0 } : Room) s m args below meth c T0 locs 0 0) (hx : p.tables.exec = Jvm.exec) (hZ : Z.Warmed39 s.vm) (hw : ∀ d ∈ tables_1, d.before a0 Z = true) (hby : c.code = prog_173_method_2_code) (hml : c.maxLocals = 1) (hown : s.vm.findClass "com/example/shape_trees/shapetrees/xpath/tree/XmlNames" = some m.cls) (hret : meth.sig.returnType = some .boolean) (hlk : meth.locks = false) (e0 : T0.heap = h0) (Z0 : n0 ≤ h0.size) (N0 : Fr n0 locs) (hP : P (some (.int (f1_41 x0))) h0) :
    own_Goes p e below s n0 0 0 P (T0.setTop (mkF m 41 #[.val (.int x0)] [])) := by
  rw [f1_41] at hP
  refine own_Goes.pre (fun t kt => ?_) (own_retN X0 hx hlk hret (by simp) (hb hby d1_42) N0 (by rw [e0]; exact hP) (by decide) (by decide) (Ls := #[.val (.int x0)]) (rest := []) (z := (0 : Int32)))
  show Steps p.tables e below (T0.setTop (mkF m 41 #[.val (.int x0)] [])) _
  refine XS.iconst X0.here hx rfl (hb hby d1_41) ?_
  exact kt
def f1_37 (x0 : Int32) : Int32 := (1 : Int32)
set_option maxRecDepth 65536 in
set_option maxHeartbeats 40000000 in
theorem b1_37 {p : Program} {l : Launch} {e : Env} {s : State} {m : MethodId} {args : Array Value} {below : List Frame} {meth : Method} {c : Code} {T0 : State} {locs : List Loc} {Z : State} {a0 : Array Value} {h0 : Heap} {n0 : Nat} {P : Option Value → Heap → Prop} (x0 : Int32) (X0 : Stand p l e ({ frames := 0, cells := 0, slots := 0, locals := 0 } : Room) s m args below meth c T0 locs 0 0) (hx : p.tables.exec = Jvm.exec) (hZ : Z.Warmed39 s.vm) (hw : ∀ d ∈ tables_1, d.before a0 Z = true) (hby : c.code = prog_173_method_2_code) (hml : c.maxLocals = 1) (hown : s.vm.findClass "com/example/shape_trees/shapetrees/xpath/tree/XmlNames" = some m.cls) (hret : meth.sig.returnType = some .boolean) (hlk : meth.locks = false) (e0 : T0.heap = h0) (Z0 : n0 ≤ h0.size) (N0 : Fr n0 locs) (hP : P (some (.int (f1_37 x0))) h0) :
    own_Goes p e below s n0 0 0 P (T0.setTop (mkF m 37 #[.val (.int x0)] [])) := by
  rw [f1_37] at hP
  refine own_Goes.pre (fun t kt => ?_) (own_retN X0 hx hlk hret (by simp) (hb hby d1_42) N0 (by rw [e0]; exact hP) (by decide) (by decide) (Ls := #[.val (.int x0)]) (rest := []) (z := (1 : Int32)))
  show Steps p.tables e below (T0.setTop (mkF m 37 #[.val (.int x0)] [])) _
  refine XS.iconst X0.here hx rfl (hb hby d1_37) ?_
  show Steps p.tables e below (T0.setTop (mkF m 38 #[.val (.int x0)] [(.int (1 : Int32))])) _
  refine XS.goto X0.here hx rfl (pc0 := 38) (pc' := 42) rfl (hb hby d1_38) (by decide) (by decide) ?_
  exact kt
def f1_31 (x0 : Int32) : Int32 := if x0 = (95 : Int32) then (f1_37 x0) else (f1_41 x0)
set_option maxRecDepth 65536 in
set_option maxHeartbeats 40000000 in
theorem b1_31 {p : Program} {l : Launch} {e : Env} {s : State} {m : MethodId} {args : Array Value} {below : List Frame} {meth : Method} {c : Code} {T0 : State} {locs : List Loc} {Z : State} {a0 : Array Value} {h0 : Heap} {n0 : Nat} {P : Option Value → Heap → Prop} (x0 : Int32) (X0 : Stand p l e ({ frames := 0, cells := 0, slots := 0, locals := 0 } : Room) s m args below meth c T0 locs 0 0) (hx : p.tables.exec = Jvm.exec) (hZ : Z.Warmed39 s.vm) (hw : ∀ d ∈ tables_1, d.before a0 Z = true) (hby : c.code = prog_173_method_2_code) (hml : c.maxLocals = 1) (hown : s.vm.findClass "com/example/shape_trees/shapetrees/xpath/tree/XmlNames" = some m.cls) (hret : meth.sig.returnType = some .boolean) (hlk : meth.locks = false) (e0 : T0.heap = h0) (Z0 : n0 ≤ h0.size) (N0 : Fr n0 locs) (hP : P (some (.int (f1_31 x0))) h0) :
    own_Goes p e below s n0 0 0 P (T0.setTop (mkF m 31 #[.val (.int x0)] [])) := by
  have pre1 : ∀ t, Steps p.tables e below (T0.setTop (mkF m 34 #[.val (.int x0)] [(.int (95 : Int32)), (.int x0)])) t → Steps p.tables e below (T0.setTop (mkF m 31 #[.val (.int x0)] [])) t := fun t kt => by
    show Steps p.tables e below (T0.setTop (mkF m 31 #[.val (.int x0)] [])) _
    refine XS.iloadN X0.here hx rfl (hb hby d1_31) rfl ?_
    show Steps p.tables e below (T0.setTop (mkF m 32 #[.val (.int x0)] [(.int x0)])) _
    refine XS.bipush X0.here hx rfl (hb hby d1_32) ?_
    exact kt
  refine own_Goes.pre pre1 ?_
  by_cases hc : x0 = (95 : Int32)
  · rw [f1_31, if_pos hc] at hP
    refine own_Goes.pre (fun t kt => ?_) (b1_37 x0 X0 hx hZ hw hby hml hown hret hlk e0 Z0 N0 hP)
    show Steps p.tables e below (T0.setTop (mkF m 34 #[.val (.int x0)] [(.int (95 : Int32)), (.int x0)])) _
    refine XS.icmpNo X0.here hx rfl (hb hby d1_34) rfl (teq hc).2 ?_
    exact kt
  · rw [f1_31, if_neg hc] at hP
    refine own_Goes.pre (fun t kt => ?_) (b1_41 x0 X0 hx hZ hw hby hml hown hret hlk e0 Z0 N0 hP)
    show Steps p.tables e below (T0.setTop (mkF m 34 #[.val (.int x0)] [(.int (95 : Int32)), (.int x0)])) _
    refine XS.icmpYes X0.here hx rfl (pc0 := 34) (pc' := 41) rfl (hb hby d1_34) rfl (feq hc).2 (by decide) (by decide) ?_
    exact kt
def f1_25 (x0 : Int32) : Int32 := if (90 : Int32) < x0 then (f1_31 x0) else (f1_37 x0)
set_option maxRecDepth 65536 in
set_option maxHeartbeats 40000000 in
theorem b1_25 {p : Program} {l : Launch} {e : Env} {s : State} {m : MethodId} {args : Array Value} {below : List Frame} {meth : Method} {c : Code} {T0 : State} {locs : List Loc} {Z : State} {a0 : Array Value} {h0 : Heap} {n0 : Nat} {P : Option Value → Heap → Prop} (x0 : Int32) (X0 : Stand p l e ({ frames := 0, cells := 0, slots := 0, locals := 0 } : Room) s m args below meth c T0 locs 0 0) (hx : p.tables.exec = Jvm.exec) (hZ : Z.Warmed39 s.vm) (hw : ∀ d ∈ tables_1, d.before a0 Z = true) (hby : c.code = prog_173_method_2_code) (hml : c.maxLocals = 1) (hown : s.vm.findClass "com/example/shape_trees/shapetrees/xpath/tree/XmlNames" = some m.cls) (hret : meth.sig.returnType = some .boolean) (hlk : meth.locks = false) (e0 : T0.heap = h0) (Z0 : n0 ≤ h0.size) (N0 : Fr n0 locs) (hP : P (some (.int (f1_25 x0))) h0) :
    own_Goes p e below s n0 0 0 P (T0.setTop (mkF m 25 #[.val (.int x0)] [])) := by
  have pre1 : ∀ t, Steps p.tables e below (T0.setTop (mkF m 28 #[.val (.int x0)] [(.int (90 : Int32)), (.int x0)])) t → Steps p.tables e below (T0.setTop (mkF m 25 #[.val (.int x0)] [])) t := fun t kt => by
    show Steps p.tables e below (T0.setTop (mkF m 25 #[.val (.int x0)] [])) _
    refine XS.iloadN X0.here hx rfl (hb hby d1_25) rfl ?_
    show Steps p.tables e below (T0.setTop (mkF m 26 #[.val (.int x0)] [(.int x0)])) _
    refine XS.bipush X0.here hx rfl (hb hby d1_26) ?_
    exact kt
  refine own_Goes.pre pre1 ?_
  by_cases hc : (90 : Int32) < x0
  · rw [f1_25, if_pos hc] at hP
    refine own_Goes.pre (fun t kt => ?_) (b1_31 x0 X0 hx hZ hw hby hml hown hret hlk e0 Z0 N0 hP)
    show Steps p.tables e below (T0.setTop (mkF m 28 #[.val (.int x0)] [(.int (90 : Int32)), (.int x0)])) _
    refine XS.icmpNo X0.here hx rfl (hb hby d1_28) rfl (tlt hc).2.2.2 ?_
    exact kt
  · rw [f1_25, if_neg hc] at hP
    refine own_Goes.pre (fun t kt => ?_) (b1_37 x0 X0 hx hZ hw hby hml hown hret hlk e0 Z0 N0 hP)
    show Steps p.tables e below (T0.setTop (mkF m 28 #[.val (.int x0)] [(.int (90 : Int32)), (.int x0)])) _
    refine XS.icmpYes X0.here hx rfl (pc0 := 28) (pc' := 37) rfl (hb hby d1_28) rfl (flt hc).2.2.2 (by decide) (by decide) ?_
    exact kt
def f1_19 (x0 : Int32) : Int32 := if x0 < (65 : Int32) then (f1_31 x0) else (f1_25 x0)
set_option maxRecDepth 65536 in
set_option maxHeartbeats 40000000 in
theorem b1_19 {p : Program} {l : Launch} {e : Env} {s : State} {m : MethodId} {args : Array Value} {below : List Frame} {meth : Method} {c : Code} {T0 : State} {locs : List Loc} {Z : State} {a0 : Array Value} {h0 : Heap} {n0 : Nat} {P : Option Value → Heap → Prop} (x0 : Int32) (X0 : Stand p l e ({ frames := 0, cells := 0, slots := 0, locals := 0 } : Room) s m args below meth c T0 locs 0 0) (hx : p.tables.exec = Jvm.exec) (hZ : Z.Warmed39 s.vm) (hw : ∀ d ∈ tables_1, d.before a0 Z = true) (hby : c.code = prog_173_method_2_code) (hml : c.maxLocals = 1) (hown : s.vm.findClass "com/example/shape_trees/shapetrees/xpath/tree/XmlNames" = some m.cls) (hret : meth.sig.returnType = some .boolean) (hlk : meth.locks = false) (e0 : T0.heap = h0) (Z0 : n0 ≤ h0.size) (N0 : Fr n0 locs) (hP : P (some (.int (f1_19 x0))) h0) :
    own_Goes p e below s n0 0 0 P (T0.setTop (mkF m 19 #[.val (.int x0)] [])) := by
  have pre1 : ∀ t, Steps p.tables e below (T0.setTop (mkF m 22 #[.val (.int x0)] [(.int (65 : Int32)), (.int x0)])) t → Steps p.tables e below (T0.setTop (mkF m 19 #[.val (.int x0)] [])) t := fun t kt => by
    show Steps p.tables e below (T0.setTop (mkF m 19 #[.val (.int x0)] [])) _
    refine XS.iloadN X0.here hx rfl (hb hby d1_19) rfl ?_
    show Steps p.tables e below (T0.setTop (mkF m 20 #[.val (.int x0)] [(.int x0)])) _
    refine XS.bipush X0.here hx rfl (hb hby d1_20) ?_
    exact kt
  refine own_Goes.pre pre1 ?_
  by_cases hc : x0 < (65 : Int32)
  · rw [f1_19, if_pos hc] at hP
    refine own_Goes.pre (fun t kt => ?_) (b1_31 x0 X0 hx hZ hw hby hml hown hret hlk e0 Z0 N0 hP)
    show Steps p.tables e below (T0.setTop (mkF m 22 #[.val (.int x0)] [(.int (65 : Int32)), (.int x0)])) _
    refine XS.icmpYes X0.here hx rfl (pc0 := 22) (pc' := 31) rfl (hb hby d1_22) rfl (tlt hc).1 (by decide) (by decide) ?_
    exact kt
  · rw [f1_19, if_neg hc] at hP
    refine own_Goes.pre (fun t kt => ?_) (b1_25 x0 X0 hx hZ hw hby hml hown hret hlk e0 Z0 N0 hP)
    show Steps p.tables e below (T0.setTop (mkF m 22 #[.val (.int x0)] [(.int (65 : Int32)), (.int x0)])) _
    refine XS.icmpNo X0.here hx rfl (hb hby d1_22) rfl (flt hc).1 ?_
    exact kt
def f1_13 (x0 : Int32) : Int32 := if (122 : Int32) < x0 then (f1_19 x0) else (f1_37 x0)
set_option maxRecDepth 65536 in
set_option maxHeartbeats 40000000 in
theorem b1_13 {p : Program} {l : Launch} {e : Env} {s : State} {m : MethodId} {args : Array Value} {below : List Frame} {meth : Method} {c : Code} {T0 : State} {locs : List Loc} {Z : State} {a0 : Array Value} {h0 : Heap} {n0 : Nat} {P : Option Value → Heap → Prop} (x0 : Int32) (X0 : Stand p l e ({ frames := 0, cells := 0, slots := 0, locals := 0 } : Room) s m args below meth c T0 locs 0 0) (hx : p.tables.exec = Jvm.exec) (hZ : Z.Warmed39 s.vm) (hw : ∀ d ∈ tables_1, d.before a0 Z = true) (hby : c.code = prog_173_method_2_code) (hml : c.maxLocals = 1) (hown : s.vm.findClass "com/example/shape_trees/shapetrees/xpath/tree/XmlNames" = some m.cls) (hret : meth.sig.returnType = some .boolean) (hlk : meth.locks = false) (e0 : T0.heap = h0) (Z0 : n0 ≤ h0.size) (N0 : Fr n0 locs) (hP : P (some (.int (f1_13 x0))) h0) :
    own_Goes p e below s n0 0 0 P (T0.setTop (mkF m 13 #[.val (.int x0)] [])) := by
  have pre1 : ∀ t, Steps p.tables e below (T0.setTop (mkF m 16 #[.val (.int x0)] [(.int (122 : Int32)), (.int x0)])) t → Steps p.tables e below (T0.setTop (mkF m 13 #[.val (.int x0)] [])) t := fun t kt => by
    show Steps p.tables e below (T0.setTop (mkF m 13 #[.val (.int x0)] [])) _
    refine XS.iloadN X0.here hx rfl (hb hby d1_13) rfl ?_
    show Steps p.tables e below (T0.setTop (mkF m 14 #[.val (.int x0)] [(.int x0)])) _
    refine XS.bipush X0.here hx rfl (hb hby d1_14) ?_
    exact kt
  refine own_Goes.pre pre1 ?_
  by_cases hc : (122 : Int32) < x0
  · rw [f1_13, if_pos hc] at hP
    refine own_Goes.pre (fun t kt => ?_) (b1_19 x0 X0 hx hZ hw hby hml hown hret hlk e0 Z0 N0 hP)
    show Steps p.tables e below (T0.setTop (mkF m 16 #[.val (.int x0)] [(.int (122 : Int32)), (.int x0)])) _
    refine XS.icmpNo X0.here hx rfl (hb hby d1_16) rfl (tlt hc).2.2.2 ?_
    exact kt
  · rw [f1_13, if_neg hc] at hP
    refine own_Goes.pre (fun t kt => ?_) (b1_37 x0 X0 hx hZ hw hby hml hown hret hlk e0 Z0 N0 hP)
    show Steps p.tables e below (T0.setTop (mkF m 16 #[.val (.int x0)] [(.int (122 : Int32)), (.int x0)])) _
    refine XS.icmpYes X0.here hx rfl (pc0 := 16) (pc' := 37) rfl (hb hby d1_16) rfl (flt hc).2.2.2 (by decide) (by decide) ?_
    exact kt
def f1_7 (x0 : Int32) : Int32 := if x0 < (97 : Int32) then (f1_19 x0) else (f1_13 x0)
set_option maxRecDepth 65536 in
set_option maxHeartbeats 40000000 in
theorem b1_7 {p : Program} {l : Launch} {e : Env} {s : State} {m : MethodId} {args : Array Value} {below : List Frame} {meth : Method} {c : Code} {T0 : State} {locs : List Loc} {Z : State} {a0 : Array Value} {h0 : Heap} {n0 : Nat} {P : Option Value → Heap → Prop} (x0 : Int32) (X0 : Stand p l e ({ frames := 0, cells := 0, slots := 0, locals := 0 } : Room) s m args below meth c T0 locs 0 0) (hx : p.tables.exec = Jvm.exec) (hZ : Z.Warmed39 s.vm) (hw : ∀ d ∈ tables_1, d.before a0 Z = true) (hby : c.code = prog_173_method_2_code) (hml : c.maxLocals = 1) (hown : s.vm.findClass "com/example/shape_trees/shapetrees/xpath/tree/XmlNames" = some m.cls) (hret : meth.sig.returnType = some .boolean) (hlk : meth.locks = false) (e0 : T0.heap = h0) (Z0 : n0 ≤ h0.size) (N0 : Fr n0 locs) (hP : P (some (.int (f1_7 x0))) h0) :
    own_Goes p e below s n0 0 0 P (T0.setTop (mkF m 7 #[.val (.int x0)] [])) := by
  have pre1 : ∀ t, Steps p.tables e below (T0.setTop (mkF m 10 #[.val (.int x0)] [(.int (97 : Int32)), (.int x0)])) t → Steps p.tables e below (T0.setTop (mkF m 7 #[.val (.int x0)] [])) t := fun t kt => by
    show Steps p.tables e below (T0.setTop (mkF m 7 #[.val (.int x0)] [])) _
    refine XS.iloadN X0.here hx rfl (hb hby d1_7) rfl ?_
    show Steps p.tables e below (T0.setTop (mkF m 8 #[.val (.int x0)] [(.int x0)])) _
    refine XS.bipush X0.here hx rfl (hb hby d1_8) ?_
    exact kt
  refine own_Goes.pre pre1 ?_
  by_cases hc : x0 < (97 : Int32)
  · rw [f1_7, if_pos hc] at hP
    refine own_Goes.pre (fun t kt => ?_) (b1_19 x0 X0 hx hZ hw hby hml hown hret hlk e0 Z0 N0 hP)
    show Steps p.tables e below (T0.setTop (mkF m 10 #[.val (.int x0)] [(.int (97 : Int32)), (.int x0)])) _
    refine XS.icmpYes X0.here hx rfl (pc0 := 10) (pc' := 19) rfl (hb hby d1_10) rfl (tlt hc).1 (by decide) (by decide) ?_
    exact kt
  · rw [f1_7, if_neg hc] at hP
    refine own_Goes.pre (fun t kt => ?_) (b1_13 x0 X0 hx hZ hw hby hml hown hret hlk e0 Z0 N0 hP)
    show Steps p.tables e below (T0.setTop (mkF m 10 #[.val (.int x0)] [(.int (97 : Int32)), (.int x0)])) _
    refine XS.icmpNo X0.here hx rfl (hb hby d1_10) rfl (flt hc).1 ?_
    exact kt
def f1_0 (x0 : Int32) : Int32 := if x0 < (128 : Int32) then (f1_7 x0) else (f1_43 x0)
set_option maxRecDepth 65536 in
set_option maxHeartbeats 40000000 in
theorem b1_0 {p : Program} {l : Launch} {e : Env} {s : State} {m : MethodId} {args : Array Value} {below : List Frame} {meth : Method} {c : Code} {T0 : State} {locs : List Loc} {Z : State} {a0 : Array Value} {h0 : Heap} {n0 : Nat} {P : Option Value → Heap → Prop} (x0 : Int32) (X0 : Stand p l e ({ frames := 0, cells := 0, slots := 0, locals := 0 } : Room) s m args below meth c T0 locs 0 0) (hx : p.tables.exec = Jvm.exec) (hZ : Z.Warmed39 s.vm) (hw : ∀ d ∈ tables_1, d.before a0 Z = true) (hby : c.code = prog_173_method_2_code) (hml : c.maxLocals = 1) (hown : s.vm.findClass "com/example/shape_trees/shapetrees/xpath/tree/XmlNames" = some m.cls) (hret : meth.sig.returnType = some .boolean) (hlk : meth.locks = false) (e0 : T0.heap = h0) (Z0 : n0 ≤ h0.size) (N0 : Fr n0 locs) (hP : P (some (.int (f1_0 x0))) h0) :
    own_Goes p e below s n0 0 0 P (T0.setTop (mkF m 0 #[.val (.int x0)] [])) := by
  have pre1 : ∀ t, Steps p.tables e below (T0.setTop (mkF m 4 #[.val (.int x0)] [(.int (128 : Int32)), (.int x0)])) t → Steps p.tables e below (T0.setTop (mkF m 0 #[.val (.int x0)] [])) t := fun t kt => by
    show Steps p.tables e below (T0.setTop (mkF m 0 #[.val (.int x0)] [])) _
    refine XS.iloadN X0.here hx rfl (hb hby d1_0) rfl ?_
    show Steps p.tables e below (T0.setTop (mkF m 1 #[.val (.int x0)] [(.int x0)])) _
    refine XS.sipush X0.here hx rfl (hb hby d1_1) ?_
    exact kt
  refine own_Goes.pre pre1 ?_
  by_cases hc : x0 < (128 : Int32)
  · rw [f1_0, if_pos hc] at hP
    refine own_Goes.pre (fun t kt => ?_) (b1_7 x0 X0 hx hZ hw hby hml hown hret hlk e0 Z0 N0 hP)
    show Steps p.tables e below (T0.setTop (mkF m 4 #[.val (.int x0)] [(.int (128 : Int32)), (.int x0)])) _
    refine XS.icmpNo X0.here hx rfl (hb hby d1_4) rfl (tlt hc).2.1 ?_
    exact kt
  · rw [f1_0, if_neg hc] at hP
    refine own_Goes.pre (fun t kt => ?_) (b1_43 x0 X0 hx hZ hw hby hml hown hret hlk e0 Z0 N0 hP)
    show Steps p.tables e below (T0.setTop (mkF m 4 #[.val (.int x0)] [(.int (128 : Int32)), (.int x0)])) _
    refine XS.icmpYes X0.here hx rfl (pc0 := 4) (pc' := 43) rfl (hb hby d1_4) rfl (flt hc).2.1 (by decide) (by decide) ?_
    exact kt
theorem pn0 : plainName "com/example/shape_trees/shapetrees/xpath/tree/XmlNames" = true := by first | (simp [plainName, overriddenIn]; done) | decide +kernel
theorem ef1 (m : MethodId) (x0 : Int32) : entryFrame m #[(.int x0)] 1 = (mkF m 0 #[.val (.int x0)] []) := by first | (simp [entryFrame, mkF, argsToLocals, Value.category]; done) | rfl
set_option maxRecDepth 65536 in
set_option maxHeartbeats 40000000 in
theorem rm1 (l : Launch) (Z : State) (a0 : Array Value) (hw : ∀ d ∈ tables_1, d.before a0 Z = true) (ws : List Jvm.Cond) (x0 : Int32) (h0 : Heap) (n0 : Nat) (Z0 : n0 ≤ h0.size) :
    MetFree l (⟨"com/example/shape_trees/shapetrees/xpath/tree/XmlNames", "isNameStartChar", "(I)Z"⟩ : MethodName) (head1 (Jvm.Cond.code (⟨"com/example/shape_trees/shapetrees/xpath/tree/XmlNames", "isNameStartChar", "(I)Z"⟩ : MethodName) prog_173_method_2_code 1 (some .boolean) :: ws) ({ frames := 0, cells := 0, slots := 0, locals := 0 } : Room)) (fun a U => a = #[(.int x0)] ∧ Z.Warmed39 U.vm ∧ U.heap = h0) (fun _ _ _ _ _ => True) (fun _ U o U' => ∃ v L, o = .returned v ∧ own_Q (own_val (.int (f1_0 x0)) h0) n0 v U'.heap L ∧ FrameEnd U o U' L ({ frames := 0, cells := 0, slots := 0, locals := 0 } : Room).cells ({ frames := 0, cells := 0, slots := 0, locals := 0 } : Room).slots) := by
  refine MetFree.of_bodySF (plainFor_of_name pn0) hisR ?_
  intro p e s m args below meth c s₁ Bd hml0 hP hK
  obtain ⟨rfl, hZ, hh⟩ := hP
  have hx := Bd.exec
  have hby := Bd.bytes
  have hml : c.maxLocals = 1 := hml0
  have hown : s.vm.findClass "com/example/shape_trees/shapetrees/xpath/tree/XmlNames" = some m.cls := findClass_of_methodNamed Bd.named
  have X0 : Stand p l e ({ frames := 0, cells := 0, slots := 0, locals := 0 } : Room) s m #[(.int x0)] below meth c s₁ [] 0 0 := Stand.of_body Bd
  have e0 : s₁.heap = h0 := by rw [← hh, Bd.state]; rfl
  refine own_Goes.pre (S' := s₁.setTop (mkF m 0 #[.val (.int x0)] [])) (P := (own_val (.int (f1_0 x0)) h0)) (n0 := n0) (kc := 0) (ks := 0) (fun t k => castTop (ef1 m x0) k) ?_
  exact b1_0 x0 X0 hx hZ hw hby hml hown Bd.returns Bd.notSynchronized e0 Z0 (Fr.nil n0) ⟨rfl, rfl⟩
theorem d3_0 : decode method_2_code 0 = .ok (.iload_n 0, 1) := by decide +kernel
theorem d3_1 : decode method_2_code 1 = .ok (.iload_n 1, 1) := by decide +kernel
theorem d3_2 : decode method_2_code 2 = .ok (.if_icmp .lt 12, 3) := by decide +kernel
theorem d3_5 : decode method_2_code 5 = .ok (.iload_n 0, 1) := by decide +kernel
theorem d3_6 : decode method_2_code 6 = .ok (.iload_n 2, 1) := by decide +kernel
theorem d3_7 : decode method_2_code 7 = .ok (.if_icmp .gt 7, 3) := by decide +kernel
theorem d3_10 : decode method_2_code 10 = .ok (.iconst 1, 1) := by decide +kernel
theorem d3_11 : decode method_2_code 11 = .ok (.goto 4, 3) := by decide +kernel
theorem d3_14 : decode method_2_code 14 = .ok (.iconst 0, 1) := by decide +kernel
theorem d3_15 : decode method_2_code 15 = .ok (.ireturn, 1) := by decide +kernel
def f3_14 (x0 : Int32) (x1 : Int32) (x2 : Int32) : Int32 := (0 : Int32)
set_option maxRecDepth 65536 in
set_option maxHeartbeats 40000000 in
theorem b3_14 {p : Program} {l : Launch} {e : Env} {s : State} {m : MethodId} {args : Array Value} {below : List Frame} {meth : Method} {c : Code} {T0 : State} {locs : List Loc} {Z : State} {a0 : Array Value} {h0 : Heap} {n0 : Nat} {P : Option Value → Heap → Prop} (x0 : Int32) (x1 : Int32) (x2 : Int32) (X0 : Stand p l e ({ frames := 0, cells := 0, slots := 0, locals := 0 } : Room) s m args below meth c T0 locs 0 0) (hx : p.tables.exec = Jvm.exec) (hZ : Z.Warmed39 s.vm) (hw : ∀ d ∈ tables_1, d.before a0 Z = true) (hby : c.code = method_2_code) (hml : c.maxLocals = 3) (hown : s.vm.findClass "com/example/shape_trees/shapetrees/xpath/tree/XmlNamesIsNameStartCharPinLaw" = some m.cls) (hret : meth.sig.returnType = some .boolean) (hlk : meth.locks = false) (e0 : T0.heap = h0) (Z0 : n0 ≤ h0.size) (N0 : Fr n0 locs) (hP : P (some (.int (f3_14 x0 x1 x2))) h0) :
    own_Goes p e below s n0 0 0 P (T0.setTop (mkF m 14 #[.val (.int x0), .val (.int x1), .val (.int x2)] [])) := by
  rw [f3_14] at hP
  refine own_Goes.pre (fun t kt => ?_) (own_retN X0 hx hlk hret (by simp) (hb hby d3_15) N0 (by rw [e0]; exact hP) (by decide) (by decide) (Ls := #[.val (.int x0), .val (.int x1), .val (.int x2)]) (rest := []) (z := (0 : Int32)))
  show Steps p.tables e below (T0.setTop (mkF m 14 #[.val (.int x0), .val (.int x1), .val (.int x2)] [])) _
  refine XS.iconst X0.here hx rfl (hb hby d3_14) ?_
  exact kt
def f3_10 (x0 : Int32) (x1 : Int32) (x2 : Int32) : Int32 := (1 : Int32)
set_option maxRecDepth 65536 in
set_option maxHeartbeats 40000000 in
theorem b3_10 {p : Program} {l : Launch} {e : Env} {s : State} {m : MethodId} {args : Array Value} {below : List Frame} {meth : Method} {c : Code} {T0 : State} {locs : List Loc} {Z : State} {a0 : Array Value} {h0 : Heap} {n0 : Nat} {P : Option Value → Heap → Prop} (x0 : Int32) (x1 : Int32) (x2 : Int32) (X0 : Stand p l e ({ frames := 0, cells := 0, slots := 0, locals := 0 } : Room) s m args below meth c T0 locs 0 0) (hx : p.tables.exec = Jvm.exec) (hZ : Z.Warmed39 s.vm) (hw : ∀ d ∈ tables_1, d.before a0 Z = true) (hby : c.code = method_2_code) (hml : c.maxLocals = 3) (hown : s.vm.findClass "com/example/shape_trees/shapetrees/xpath/tree/XmlNamesIsNameStartCharPinLaw" = some m.cls) (hret : meth.sig.returnType = some .boolean) (hlk : meth.locks = false) (e0 : T0.heap = h0) (Z0 : n0 ≤ h0.size) (N0 : Fr n0 locs) (hP : P (some (.int (f3_10 x0 x1 x2))) h0) :
    own_Goes p e below s n0 0 0 P (T0.setTop (mkF m 10 #[.val (.int x0), .val (.int x1), .val (.int x2)] [])) := by
  rw [f3_10] at hP
  refine own_Goes.pre (fun t kt => ?_) (own_retN X0 hx hlk hret (by simp) (hb hby d3_15) N0 (by rw [e0]; exact hP) (by decide) (by decide) (Ls := #[.val (.int x0), .val (.int x1), .val (.int x2)]) (rest := []) (z := (1 : Int32)))
  show Steps p.tables e below (T0.setTop (mkF m 10 #[.val (.int x0), .val (.int x1), .val (.int x2)] [])) _
  refine XS.iconst X0.here hx rfl (hb hby d3_10) ?_
  show Steps p.tables e below (T0.setTop (mkF m 11 #[.val (.int x0), .val (.int x1), .val (.int x2)] [(.int (1 : Int32))])) _
  refine XS.goto X0.here hx rfl (pc0 := 11) (pc' := 15) rfl (hb hby d3_11) (by decide) (by decide) ?_
  exact kt
def f3_5 (x0 : Int32) (x1 : Int32) (x2 : Int32) : Int32 := if x2 < x0 then (f3_14 x0 x1 x2) else (f3_10 x0 x1 x2)
set_option maxRecDepth 65536 in
set_option maxHeartbeats 40000000 in
theorem b3_5 {p : Program} {l : Launch} {e : Env} {s : State} {m : MethodId} {args : Array Value} {below : List Frame} {meth : Method} {c : Code} {T0 : State} {locs : List Loc} {Z : State} {a0 : Array Value} {h0 : Heap} {n0 : Nat} {P : Option Value → Heap → Prop} (x0 : Int32) (x1 : Int32) (x2 : Int32) (X0 : Stand p l e ({ frames := 0, cells := 0, slots := 0, locals := 0 } : Room) s m args below meth c T0 locs 0 0) (hx : p.tables.exec = Jvm.exec) (hZ : Z.Warmed39 s.vm) (hw : ∀ d ∈ tables_1, d.before a0 Z = true) (hby : c.code = method_2_code) (hml : c.maxLocals = 3) (hown : s.vm.findClass "com/example/shape_trees/shapetrees/xpath/tree/XmlNamesIsNameStartCharPinLaw" = some m.cls) (hret : meth.sig.returnType = some .boolean) (hlk : meth.locks = false) (e0 : T0.heap = h0) (Z0 : n0 ≤ h0.size) (N0 : Fr n0 locs) (hP : P (some (.int (f3_5 x0 x1 x2))) h0) :
    own_Goes p e below s n0 0 0 P (T0.setTop (mkF m 5 #[.val (.int x0), .val (.int x1), .val (.int x2)] [])) := by
  have pre1 : ∀ t, Steps p.tables e below (T0.setTop (mkF m 7 #[.val (.int x0), .val (.int x1), .val (.int x2)] [(.int x2), (.int x0)])) t → Steps p.tables e below (T0.setTop (mkF m 5 #[.val (.int x0), .val (.int x1), .val (.int x2)] [])) t := fun t kt => by
    show Steps p.tables e below (T0.setTop (mkF m 5 #[.val (.int x0), .val (.int x1), .val (.int x2)] [])) _
    refine XS.iloadN X0.here hx rfl (hb hby d3_5) rfl ?_
    show Steps p.tables e below (T0.setTop (mkF m 6 #[.val (.int x0), .val (.int x1), .val (.int x2)] [(.int x0)])) _
    refine XS.iloadN X0.here hx rfl (hb hby d3_6) rfl ?_
    exact kt
  refine own_Goes.pre pre1 ?_
  by_cases hc : x2 < x0
  · rw [f3_5, if_pos hc] at hP
    refine own_Goes.pre (fun t kt => ?_) (b3_14 x0 x1 x2 X0 hx hZ hw hby hml hown hret hlk e0 Z0 N0 hP)
    show Steps p.tables e below (T0.setTop (mkF m 7 #[.val (.int x0), .val (.int x1), .val (.int x2)] [(.int x2), (.int x0)])) _
    refine XS.icmpYes X0.here hx rfl (pc0 := 7) (pc' := 14) rfl (hb hby d3_7) rfl (tlt hc).2.2.1 (by decide) (by decide) ?_
    exact kt
  · rw [f3_5, if_neg hc] at hP
    refine own_Goes.pre (fun t kt => ?_) (b3_10 x0 x1 x2 X0 hx hZ hw hby hml hown hret hlk e0 Z0 N0 hP)
    show Steps p.tables e below (T0.setTop (mkF m 7 #[.val (.int x0), .val (.int x1), .val (.int x2)] [(.int x2), (.int x0)])) _
    refine XS.icmpNo X0.here hx rfl (hb hby d3_7) rfl (flt hc).2.2.1 ?_
    exact kt
def f3_0 (x0 : Int32) (x1 : Int32) (x2 : Int32) : Int32 := if x0 < x1 then (f3_14 x0 x1 x2) else (f3_5 x0 x1 x2)
set_option maxRecDepth 65536 in
set_option maxHeartbeats 40000000 in
theorem b3_0 {p : Program} {l : Launch} {e : Env} {s : State} {m : MethodId} {args : Array Value} {below : List Frame} {meth : Method} {c : Code} {T0 : State} {locs : List Loc} {Z : State} {a0 : Array Value} {h0 : Heap} {n0 : Nat} {P : Option Value → Heap → Prop} (x0 : Int32) (x1 : Int32) (x2 : Int32) (X0 : Stand p l e ({ frames := 0, cells := 0, slots := 0, locals := 0 } : Room) s m args below meth c T0 locs 0 0) (hx : p.tables.exec = Jvm.exec) (hZ : Z.Warmed39 s.vm) (hw : ∀ d ∈ tables_1, d.before a0 Z = true) (hby : c.code = method_2_code) (hml : c.maxLocals = 3) (hown : s.vm.findClass "com/example/shape_trees/shapetrees/xpath/tree/XmlNamesIsNameStartCharPinLaw" = some m.cls) (hret : meth.sig.returnType = some .boolean) (hlk : meth.locks = false) (e0 : T0.heap = h0) (Z0 : n0 ≤ h0.size) (N0 : Fr n0 locs) (hP : P (some (.int (f3_0 x0 x1 x2))) h0) :
    own_Goes p e below s n0 0 0 P (T0.setTop (mkF m 0 #[.val (.int x0), .val (.int x1), .val (.int x2)] [])) := by
  have pre1 : ∀ t, Steps p.tables e below (T0.setTop (mkF m 2 #[.val (.int x0), .val (.int x1), .val (.int x2)] [(.int x1), (.int x0)])) t → Steps p.tables e below (T0.setTop (mkF m 0 #[.val (.int x0), .val (.int x1), .val (.int x2)] [])) t := fun t kt => by
    show Steps p.tables e below (T0.setTop (mkF m 0 #[.val (.int x0), .val (.int x1), .val (.int x2)] [])) _
    refine XS.iloadN X0.here hx rfl (hb hby d3_0) rfl ?_
    show Steps p.tables e below (T0.setTop (mkF m 1 #[.val (.int x0), .val (.int x1), .val (.int x2)] [(.int x0)])) _
    refine XS.iloadN X0.here hx rfl (hb hby d3_1) rfl ?_
    exact kt
  refine own_Goes.pre pre1 ?_
  by_cases hc : x0 < x1
  · rw [f3_0, if_pos hc] at hP
    refine own_Goes.pre (fun t kt => ?_) (b3_14 x0 x1 x2 X0 hx hZ hw hby hml hown hret hlk e0 Z0 N0 hP)
    show Steps p.tables e below (T0.setTop (mkF m 2 #[.val (.int x0), .val (.int x1), .val (.int x2)] [(.int x1), (.int x0)])) _
    refine XS.icmpYes X0.here hx rfl (pc0 := 2) (pc' := 14) rfl (hb hby d3_2) rfl (tlt hc).1 (by decide) (by decide) ?_
    exact kt
  · rw [f3_0, if_neg hc] at hP
    refine own_Goes.pre (fun t kt => ?_) (b3_5 x0 x1 x2 X0 hx hZ hw hby hml hown hret hlk e0 Z0 N0 hP)
    show Steps p.tables e below (T0.setTop (mkF m 2 #[.val (.int x0), .val (.int x1), .val (.int x2)] [(.int x1), (.int x0)])) _
    refine XS.icmpNo X0.here hx rfl (hb hby d3_2) rfl (flt hc).1 ?_
    exact kt
theorem pn1 : plainName "com/example/shape_trees/shapetrees/xpath/tree/XmlNamesIsNameStartCharPinLaw" = true := by first | (simp [plainName, overriddenIn]; done) | decide +kernel
theorem ef3 (m : MethodId) (x0 : Int32) (x1 : Int32) (x2 : Int32) : entryFrame m #[(.int x0), (.int x1), (.int x2)] 3 = (mkF m 0 #[.val (.int x0), .val (.int x1), .val (.int x2)] []) := by first | (simp [entryFrame, mkF, argsToLocals, Value.category]; done) | rfl
set_option maxRecDepth 65536 in
set_option maxHeartbeats 40000000 in
theorem rm3 (l : Launch) (Z : State) (a0 : Array Value) (hw : ∀ d ∈ tables_1, d.before a0 Z = true) (ws : List Jvm.Cond) (x0 : Int32) (x1 : Int32) (x2 : Int32) (h0 : Heap) (n0 : Nat) (Z0 : n0 ≤ h0.size) :
    MetFree l (⟨"com/example/shape_trees/shapetrees/xpath/tree/XmlNamesIsNameStartCharPinLaw", "in", "(III)Z"⟩ : MethodName) (head1 (Jvm.Cond.code (⟨"com/example/shape_trees/shapetrees/xpath/tree/XmlNamesIsNameStartCharPinLaw", "in", "(III)Z"⟩ : MethodName) method_2_code 3 (some .boolean) :: ws) ({ frames := 0, cells := 0, slots := 0, locals := 0 } : Room)) (fun a U => a = #[(.int x0), (.int x1), (.int x2)] ∧ Z.Warmed39 U.vm ∧ U.heap = h0) (fun _ _ _ _ _ => True) (fun _ U o U' => ∃ v L, o = .returned v ∧ own_Q (own_val (.int (f3_0 x0 x1 x2)) h0) n0 v U'.heap L ∧ FrameEnd U o U' L ({ frames := 0, cells := 0, slots := 0, locals := 0 } : Room).cells ({ frames := 0, cells := 0, slots := 0, locals := 0 } : Room).slots) := by
  refine MetFree.of_bodySF (plainFor_of_name pn1) hisR ?_
  intro p e s m args below meth c s₁ Bd hml0 hP hK
  obtain ⟨rfl, hZ, hh⟩ := hP
  have hx := Bd.exec
  have hby := Bd.bytes
  have hml : c.maxLocals = 3 := hml0
  have hown : s.vm.findClass "com/example/shape_trees/shapetrees/xpath/tree/XmlNamesIsNameStartCharPinLaw" = some m.cls := findClass_of_methodNamed Bd.named
  have X0 : Stand p l e ({ frames := 0, cells := 0, slots := 0, locals := 0 } : Room) s m #[(.int x0), (.int x1), (.int x2)] below meth c s₁ [] 0 0 := Stand.of_body Bd
  have e0 : s₁.heap = h0 := by rw [← hh, Bd.state]; rfl
  refine own_Goes.pre (S' := s₁.setTop (mkF m 0 #[.val (.int x0), .val (.int x1), .val (.int x2)] [])) (P := (own_val (.int (f3_0 x0 x1 x2)) h0)) (n0 := n0) (kc := 0) (ks := 0) (fun t k => castTop (ef3 m x0 x1 x2) k) ?_
  exact b3_0 x0 x1 x2 X0 hx hZ hw hby hml hown Bd.returns Bd.notSynchronized e0 Z0 (Fr.nil n0) ⟨rfl, rfl⟩
theorem d2_0 : decode method_3_code 0 = .ok (.iload_n 0, 1) := by decide +kernel
theorem d2_1 : decode method_3_code 1 = .ok (.ifCond .lt 9, 3) := by decide +kernel
theorem d2_4 : decode method_3_code 4 = .ok (.iload_n 0, 1) := by decide +kernel
theorem d2_5 : decode method_3_code 5 = .ok (.ldc 7, 2) := by decide +kernel
theorem d2_7 : decode method_3_code 7 = .ok (.if_icmp .le 5, 3) := by decide +kernel
theorem d2_10 : decode method_3_code 10 = .ok (.iconst 0, 1) := by decide +kernel
theorem d2_11 : decode method_3_code 11 = .ok (.ireturn, 1) := by decide +kernel
theorem d2_12 : decode method_3_code 12 = .ok (.iload_n 0, 1) := by decide +kernel
theorem d2_13 : decode method_3_code 13 = .ok (.iconst 0, 1) := by decide +kernel
theorem d2_14 : decode method_3_code 14 = .ok (.bipush 64, 2) := by decide +kernel
theorem d2_16 : decode method_3_code 16 = .ok (.invokestatic 8, 3) := by decide +kernel
theorem d2_19 : decode method_3_code 19 = .ok (.ifCond .ne 151, 3) := by decide +kernel
theorem d2_22 : decode method_3_code 22 = .ok (.iload_n 0, 1) := by decide +kernel
theorem d2_23 : decode method_3_code 23 = .ok (.bipush 91, 2) := by decide +kernel
theorem d2_25 : decode method_3_code 25 = .ok (.bipush 94, 2) := by decide +kernel
theorem d2_27 : decode method_3_code 27 = .ok (.invokestatic 8, 3) := by decide +kernel
theorem d2_30 : decode method_3_code 30 = .ok (.ifCond .ne 140, 3) := by decide +kernel
theorem d2_33 : decode method_3_code 33 = .ok (.iload_n 0, 1) := by decide +kernel
theorem d2_34 : decode method_3_code 34 = .ok (.bipush 96, 2) := by decide +kernel
theorem d2_36 : decode method_3_code 36 = .ok (.if_icmp .eq 134, 3) := by decide +kernel
theorem d2_39 : decode method_3_code 39 = .ok (.iload_n 0, 1) := by decide +kernel
theorem d2_40 : decode method_3_code 40 = .ok (.bipush 123, 2) := by decide +kernel
theorem d2_42 : decode method_3_code 42 = .ok (.sipush 191, 3) := by decide +kernel
theorem d2_45 : decode method_3_code 45 = .ok (.invokestatic 8, 3) := by decide +kernel
theorem d2_48 : decode method_3_code 48 = .ok (.ifCond .ne 122, 3) := by decide +kernel
theorem d2_51 : decode method_3_code 51 = .ok (.iload_n 0, 1) := by decide +kernel
theorem d2_52 : decode method_3_code 52 = .ok (.sipush 215, 3) := by decide +kernel
theorem d2_55 : decode method_3_code 55 = .ok (.if_icmp .eq 115, 3) := by decide +kernel
theorem d2_58 : decode method_3_code 58 = .ok (.iload_n 0, 1) := by decide +kernel
theorem d2_59 : decode method_3_code 59 = .ok (.sipush 247, 3) := by decide +kernel
theorem d2_62 : decode method_3_code 62 = .ok (.if_icmp .eq 108, 3) := by decide +kernel
theorem d2_65 : decode method_3_code 65 = .ok (.iload_n 0, 1) := by decide +kernel
theorem d2_66 : decode method_3_code 66 = .ok (.sipush 768, 3) := by decide +kernel
theorem d2_69 : decode method_3_code 69 = .ok (.sipush 879, 3) := by decide +kernel
theorem d2_72 : decode method_3_code 72 = .ok (.invokestatic 8, 3) := by decide +kernel
theorem d2_75 : decode method_3_code 75 = .ok (.ifCond .ne 95, 3) := by decide +kernel
theorem d2_78 : decode method_3_code 78 = .ok (.iload_n 0, 1) := by decide +kernel
theorem d2_79 : decode method_3_code 79 = .ok (.sipush 894, 3) := by decide +kernel
theorem d2_82 : decode method_3_code 82 = .ok (.if_icmp .eq 88, 3) := by decide +kernel
theorem d2_85 : decode method_3_code 85 = .ok (.iload_n 0, 1) := by decide +kernel
theorem d2_86 : decode method_3_code 86 = .ok (.sipush 8192, 3) := by decide +kernel
theorem d2_89 : decode method_3_code 89 = .ok (.sipush 8203, 3) := by decide +kernel
theorem d2_92 : decode method_3_code 92 = .ok (.invokestatic 8, 3) := by decide +kernel
theorem d2_95 : decode method_3_code 95 = .ok (.ifCond .ne 75, 3) := by decide +kernel
theorem d2_98 : decode method_3_code 98 = .ok (.iload_n 0, 1) := by decide +kernel
theorem d2_99 : decode method_3_code 99 = .ok (.sipush 8206, 3) := by decide +kernel
theorem d2_102 : decode method_3_code 102 = .ok (.sipush 8303, 3) := by decide +kernel
theorem d2_105 : decode method_3_code 105 = .ok (.invokestatic 8, 3) := by decide +kernel
theorem d2_108 : decode method_3_code 108 = .ok (.ifCond .ne 62, 3) := by decide +kernel
theorem d2_111 : decode method_3_code 111 = .ok (.iload_n 0, 1) := by decide +kernel
theorem d2_112 : decode method_3_code 112 = .ok (.sipush 8592, 3) := by decide +kernel
theorem d2_115 : decode method_3_code 115 = .ok (.sipush 11263, 3) := by decide +kernel
theorem d2_118 : decode method_3_code 118 = .ok (.invokestatic 8, 3) := by decide +kernel
theorem d2_121 : decode method_3_code 121 = .ok (.ifCond .ne 49, 3) := by decide +kernel
theorem d2_124 : decode method_3_code 124 = .ok (.iload_n 0, 1) := by decide +kernel
theorem d2_125 : decode method_3_code 125 = .ok (.sipush 12272, 3) := by decide +kernel
theorem d2_128 : decode method_3_code 128 = .ok (.sipush 12288, 3) := by decide +kernel
theorem d2_131 : decode method_3_code 131 = .ok (.invokestatic 8, 3) := by decide +kernel
theorem d2_134 : decode method_3_code 134 = .ok (.ifCond .ne 36, 3) := by decide +kernel
theorem d2_137 : decode method_3_code 137 = .ok (.iload_n 0, 1) := by decide +kernel
theorem d2_138 : decode method_3_code 138 = .ok (.ldc 14, 2) := by decide +kernel
theorem d2_140 : decode method_3_code 140 = .ok (.ldc 15, 2) := by decide +kernel
theorem d2_142 : decode method_3_code 142 = .ok (.invokestatic 8, 3) := by decide +kernel
theorem d2_145 : decode method_3_code 145 = .ok (.ifCond .ne 25, 3) := by decide +kernel
theorem d2_148 : decode method_3_code 148 = .ok (.iload_n 0, 1) := by decide +kernel
theorem d2_149 : decode method_3_code 149 = .ok (.ldc 16, 2) := by decide +kernel
theorem d2_151 : decode method_3_code 151 = .ok (.ldc 17, 2) := by decide +kernel
theorem d2_153 : decode method_3_code 153 = .ok (.invokestatic 8, 3) := by decide +kernel
theorem d2_156 : decode method_3_code 156 = .ok (.ifCond .ne 14, 3) := by decide +kernel
theorem d2_159 : decode method_3_code 159 = .ok (.iload_n 0, 1) := by decide +kernel
theorem d2_160 : decode method_3_code 160 = .ok (.ldc 18, 2) := by decide +kernel
theorem d2_162 : decode method_3_code 162 = .ok (.ldc 19, 2) := by decide +kernel
theorem d2_164 : decode method_3_code 164 = .ok (.invokestatic 8, 3) := by decide +kernel
theorem d2_167 : decode method_3_code 167 = .ok (.ifCond .eq 7, 3) := by decide +kernel
theorem d2_170 : decode method_3_code 170 = .ok (.iconst 1, 1) := by decide +kernel
theorem d2_171 : decode method_3_code 171 = .ok (.goto 4, 3) := by decide +kernel
theorem d2_174 : decode method_3_code 174 = .ok (.iconst 0, 1) := by decide +kernel
theorem d2_175 : decode method_3_code 175 = .ok (.istore_n 1, 1) := by decide +kernel
theorem d2_176 : decode method_3_code 176 = .ok (.iload_n 1, 1) := by decide +kernel
theorem d2_177 : decode method_3_code 177 = .ok (.ifCond .ne 7, 3) := by decide +kernel
theorem d2_180 : decode method_3_code 180 = .ok (.iconst 1, 1) := by decide +kernel
theorem d2_181 : decode method_3_code 181 = .ok (.goto 4, 3) := by decide +kernel
theorem d2_184 : decode method_3_code 184 = .ok (.iconst 0, 1) := by decide +kernel
theorem d2_185 : decode method_3_code 185 = .ok (.ireturn, 1) := by decide +kernel
theorem pd0 : parseMethodDescriptor "(III)Z" = some ⟨[.int, .int, .int], some .boolean⟩ := by decide +kernel
def f2_10 (x0 : Int32) : Int32 := (0 : Int32)
set_option maxRecDepth 65536 in
set_option maxHeartbeats 40000000 in
theorem b2_10 {p : Program} {l : Launch} {e : Env} {s : State} {m : MethodId} {args : Array Value} {below : List Frame} {meth : Method} {c : Code} {T0 : State} {locs : List Loc} {Z : State} {a0 : Array Value} {h0 : Heap} {n0 : Nat} {P : Option Value → Heap → Prop} (x0 : Int32) (X0 : Stand p l e ({ frames := 1, cells := 0, slots := 0, locals := 14 } : Room) s m args below meth c T0 locs 0 0) (hx : p.tables.exec = Jvm.exec) (hZ : Z.Warmed39 s.vm) (hw : ∀ d ∈ tables_1, d.before a0 Z = true) (hby : c.code = method_3_code) (hml : c.maxLocals = 2) (hown : s.vm.findClass "com/example/shape_trees/shapetrees/xpath/tree/XmlNamesIsNameStartCharPinLaw" = some m.cls) (hret : meth.sig.returnType = some .boolean) (hlk : meth.locks = false) (e0 : T0.heap = h0) (Z0 : n0 ≤ h0.size) (N0 : Fr n0 locs) (hP : P (some (.int (f2_10 x0))) h0) :
    own_Goes p e below s n0 0 0 P (T0.setTop (mkF m 10 #[.val (.int x0), .unset] [])) := by
  rw [f2_10] at hP
  refine own_Goes.pre (fun t kt => ?_) (own_retN X0 hx hlk hret (by simp) (hb hby d2_11) N0 (by rw [e0]; exact hP) (by decide) (by decide) (Ls := #[.val (.int x0), .unset]) (rest := []) (z := (0 : Int32)))
  show Steps p.tables e below (T0.setTop (mkF m 10 #[.val (.int x0), .unset] [])) _
  refine XS.iconst X0.here hx rfl (hb hby d2_10) ?_
  exact kt
def f2_184 (x0 : Int32) (x1 : Int32) : Int32 := (0 : Int32)
set_option maxRecDepth 65536 in
set_option maxHeartbeats 40000000 in
theorem b2_184 {p : Program} {l : Launch} {e : Env} {s : State} {m : MethodId} {args : Array Value} {below : List Frame} {meth : Method} {c : Code} {T0 : State} {locs : List Loc} {Z : State} {a0 : Array Value} {h0 : Heap} {n0 : Nat} {P : Option Value → Heap → Prop} (x0 : Int32) (x1 : Int32) (X0 : Stand p l e ({ frames := 1, cells := 0, slots := 0, locals := 14 } : Room) s m args below meth c T0 locs 0 0) (hx : p.tables.exec = Jvm.exec) (hZ : Z.Warmed39 s.vm) (hw : ∀ d ∈ tables_1, d.before a0 Z = true) (hby : c.code = method_3_code) (hml : c.maxLocals = 2) (hown : s.vm.findClass "com/example/shape_trees/shapetrees/xpath/tree/XmlNamesIsNameStartCharPinLaw" = some m.cls) (hret : meth.sig.returnType = some .boolean) (hlk : meth.locks = false) (e0 : T0.heap = h0) (Z0 : n0 ≤ h0.size) (N0 : Fr n0 locs) (hP : P (some (.int (f2_184 x0 x1))) h0) :
    own_Goes p e below s n0 0 0 P (T0.setTop (mkF m 184 #[.val (.int x0), .val (.int x1)] [])) := by
  rw [f2_184] at hP
  refine own_Goes.pre (fun t kt => ?_) (own_retN X0 hx hlk hret (by simp) (hb hby d2_185) N0 (by rw [e0]; exact hP) (by decide) (by decide) (Ls := #[.val (.int x0), .val (.int x1)]) (rest := []) (z := (0 : Int32)))
  show Steps p.tables e below (T0.setTop (mkF m 184 #[.val (.int x0), .val (.int x1)] [])) _
  refine XS.iconst X0.here hx rfl (hb hby d2_184) ?_
  exact kt
def f2_180 (x0 : Int32) (x1 : Int32) : Int32 := (1 : Int32)
set_option maxRecDepth 65536 in
set_option maxHeartbeats 40000000 in
theorem b2_180 {p : Program} {l : Launch} {e : Env} {s : State} {m : MethodId} {args : Array Value} {below : List Frame} {meth : Method} {c : Code} {T0 : State} {locs : List Loc} {Z : State} {a0 : Array Value} {h0 : Heap} {n0 : Nat} {P : Option Value → Heap → Prop} (x0 : Int32) (x1 : Int32) (X0 : Stand p l e ({ frames := 1, cells := 0, slots := 0, locals := 14 } : Room) s m args below meth c T0 locs 0 0) (hx : p.tables.exec = Jvm.exec) (hZ : Z.Warmed39 s.vm) (hw : ∀ d ∈ tables_1, d.before a0 Z = true) (hby : c.code = method_3_code) (hml : c.maxLocals = 2) (hown : s.vm.findClass "com/example/shape_trees/shapetrees/xpath/tree/XmlNamesIsNameStartCharPinLaw" = some m.cls) (hret : meth.sig.returnType = some .boolean) (hlk : meth.locks = false) (e0 : T0.heap = h0) (Z0 : n0 ≤ h0.size) (N0 : Fr n0 locs) (hP : P (some (.int (f2_180 x0 x1))) h0) :
    own_Goes p e below s n0 0 0 P (T0.setTop (mkF m 180 #[.val (.int x0), .val (.int x1)] [])) := by
  rw [f2_180] at hP
  refine own_Goes.pre (fun t kt => ?_) (own_retN X0 hx hlk hret (by simp) (hb hby d2_185) N0 (by rw [e0]; exact hP) (by decide) (by decide) (Ls := #[.val (.int x0), .val (.int x1)]) (rest := []) (z := (1 : Int32)))
  show Steps p.tables e below (T0.setTop (mkF m 180 #[.val (.int x0), .val (.int x1)] [])) _
  refine XS.iconst X0.here hx rfl (hb hby d2_180) ?_
  show Steps p.tables e below (T0.setTop (mkF m 181 #[.val (.int x0), .val (.int x1)] [(.int (1 : Int32))])) _
  refine XS.goto X0.here hx rfl (pc0 := 181) (pc' := 185) rfl (hb hby d2_181) (by decide) (by decide) ?_
  exact kt
def f2_175 (x0 : Int32) (y0 : Int32) : Int32 := if y0 = (0 : Int32) then (f2_180 x0 y0) else (f2_184 x0 y0)
set_option maxRecDepth 65536 in
set_option maxHeartbeats 40000000 in
theorem b2_175 {p : Program} {l : Launch} {e : Env} {s : State} {m : MethodId} {args : Array Value} {below : List Frame} {meth : Method} {c : Code} {T0 : State} {locs : List Loc} {Z : State} {a0 : Array Value} {h0 : Heap} {n0 : Nat} {P : Option Value → Heap → Prop} (x0 : Int32) (y0 : Int32) (X0 : Stand p l e ({ frames := 1, cells := 0, slots := 0, locals := 14 } : Room) s m args below meth c T0 locs 0 0) (hx : p.tables.exec = Jvm.exec) (hZ : Z.Warmed39 s.vm) (hw : ∀ d ∈ tables_1, d.before a0 Z = true) (hby : c.code = method_3_code) (hml : c.maxLocals = 2) (hown : s.vm.findClass "com/example/shape_trees/shapetrees/xpath/tree/XmlNamesIsNameStartCharPinLaw" = some m.cls) (hret : meth.sig.returnType = some .boolean) (hlk : meth.locks = false) (e0 : T0.heap = h0) (Z0 : n0 ≤ h0.size) (N0 : Fr n0 locs) (hP : P (some (.int (f2_175 x0 y0))) h0) :
    own_Goes p e below s n0 0 0 P (T0.setTop (mkF m 175 #[.val (.int x0), .unset] [(.int y0)])) := by
  have pre1 : ∀ t, Steps p.tables e below (T0.setTop (mkF m 177 #[.val (.int x0), .val (.int y0)] [(.int y0)])) t → Steps p.tables e below (T0.setTop (mkF m 175 #[.val (.int x0), .unset] [(.int y0)])) t := fun t kt => by
    show Steps p.tables e below (T0.setTop (mkF m 175 #[.val (.int x0), .unset] [(.int y0)])) _
    refine XS.istoreN X0.here hx rfl (hb hby d2_175) rfl (l' := #[.val (.int x0), .val (.int y0)]) rfl ?_
    show Steps p.tables e below (T0.setTop (mkF m 176 #[.val (.int x0), .val (.int y0)] [])) _
    refine XS.iloadN X0.here hx rfl (hb hby d2_176) rfl ?_
    exact kt
  refine own_Goes.pre pre1 ?_
  by_cases hc : y0 = (0 : Int32)
  · rw [f2_175, if_pos hc] at hP
    refine own_Goes.pre (fun t kt => ?_) (b2_180 x0 y0 X0 hx hZ hw hby hml hown hret hlk e0 Z0 N0 hP)
    show Steps p.tables e below (T0.setTop (mkF m 177 #[.val (.int x0), .val (.int y0)] [(.int y0)])) _
    refine XS.ifNo X0.here hx rfl (hb hby d2_177) rfl ((if0 _ _).trans (teq hc).2) ?_
    exact kt
  · rw [f2_175, if_neg hc] at hP
    refine own_Goes.pre (fun t kt => ?_) (b2_184 x0 y0 X0 hx hZ hw hby hml hown hret hlk e0 Z0 N0 hP)
    show Steps p.tables e below (T0.setTop (mkF m 177 #[.val (.int x0), .val (.int y0)] [(.int y0)])) _
    refine XS.ifYes X0.here hx rfl (pc0 := 177) (pc' := 184) rfl (hb hby d2_177) rfl ((if0 _ _).trans (feq hc).2) (by decide) (by decide) ?_
    exact kt
def f2_170 (x0 : Int32) : Int32 := (f2_175 x0 (1 : Int32))
set_option maxRecDepth 65536 in
set_option maxHeartbeats 40000000 in
theorem b2_170 {p : Program} {l : Launch} {e : Env} {s : State} {m : MethodId} {args : Array Value} {below : List Frame} {meth : Method} {c : Code} {T0 : State} {locs : List Loc} {Z : State} {a0 : Array Value} {h0 : Heap} {n0 : Nat} {P : Option Value → Heap → Prop} (x0 : Int32) (X0 : Stand p l e ({ frames := 1, cells := 0, slots := 0, locals := 14 } : Room) s m args below meth c T0 locs 0 0) (hx : p.tables.exec = Jvm.exec) (hZ : Z.Warmed39 s.vm) (hw : ∀ d ∈ tables_1, d.before a0 Z = true) (hby : c.code = method_3_code) (hml : c.maxLocals = 2) (hown : s.vm.findClass "com/example/shape_trees/shapetrees/xpath/tree/XmlNamesIsNameStartCharPinLaw" = some m.cls) (hret : meth.sig.returnType = some .boolean) (hlk : meth.locks = false) (e0 : T0.heap = h0) (Z0 : n0 ≤ h0.size) (N0 : Fr n0 locs) (hP : P (some (.int (f2_170 x0))) h0) :
    own_Goes p e below s n0 0 0 P (T0.setTop (mkF m 170 #[.val (.int x0), .unset] [])) := by
  rw [f2_170] at hP
  refine own_Goes.pre (fun t kt => ?_) (b2_175 x0 (1 : Int32) X0 hx hZ hw hby hml hown hret hlk e0 Z0 N0 hP)
  show Steps p.tables e below (T0.setTop (mkF m 170 #[.val (.int x0), .unset] [])) _
  refine XS.iconst X0.here hx rfl (hb hby d2_170) ?_
  show Steps p.tables e below (T0.setTop (mkF m 171 #[.val (.int x0), .unset] [(.int (1 : Int32))])) _
  refine XS.goto X0.here hx rfl (pc0 := 171) (pc' := 175) rfl (hb hby d2_171) (by decide) (by decide) ?_
  exact kt
def f2_174 (x0 : Int32) : Int32 := (f2_175 x0 (0 : Int32))
set_option maxRecDepth 65536 in
set_option maxHeartbeats 40000000 in
theorem b2_174 {p : Program} {l : Launch} {e : Env} {s : State} {m : MethodId} {args : Array Value} {below : List Frame} {meth : Method} {c : Code} {T0 : State} {locs : List Loc} {Z : State} {a0 : Array Value} {h0 : Heap} {n0 : Nat} {P : Option Value → Heap → Prop} (x0 : Int32) (X0 : Stand p l e ({ frames := 1, cells := 0, slots := 0, locals := 14 } : Room) s m args below meth c T0 locs 0 0) (hx : p.tables.exec = Jvm.exec) (hZ : Z.Warmed39 s.vm) (hw : ∀ d ∈ tables_1, d.before a0 Z = true) (hby : c.code = method_3_code) (hml : c.maxLocals = 2) (hown : s.vm.findClass "com/example/shape_trees/shapetrees/xpath/tree/XmlNamesIsNameStartCharPinLaw" = some m.cls) (hret : meth.sig.returnType = some .boolean) (hlk : meth.locks = false) (e0 : T0.heap = h0) (Z0 : n0 ≤ h0.size) (N0 : Fr n0 locs) (hP : P (some (.int (f2_174 x0))) h0) :
    own_Goes p e below s n0 0 0 P (T0.setTop (mkF m 174 #[.val (.int x0), .unset] [])) := by
  rw [f2_174] at hP
  refine own_Goes.pre (fun t kt => ?_) (b2_175 x0 (0 : Int32) X0 hx hZ hw hby hml hown hret hlk e0 Z0 N0 hP)
  show Steps p.tables e below (T0.setTop (mkF m 174 #[.val (.int x0), .unset] [])) _
  refine XS.iconst X0.here hx rfl (hb hby d2_174) ?_
  exact kt
def f2_159 (x0 : Int32) : Int32 := if (f3_0 x0 (65534 : Int32) (65535 : Int32)) = (0 : Int32) then (f2_174 x0) else (f2_170 x0)
set_option maxRecDepth 65536 in
set_option maxHeartbeats 40000000 in
theorem b2_159 {p : Program} {l : Launch} {e : Env} {s : State} {m : MethodId} {args : Array Value} {below : List Frame} {meth : Method} {c : Code} {T0 : State} {locs : List Loc} {Z : State} {a0 : Array Value} {h0 : Heap} {n0 : Nat} {P : Option Value → Heap → Prop} (x0 : Int32) (X0 : Stand p l e ({ frames := 1, cells := 0, slots := 0, locals := 14 } : Room) s m args below meth c T0 locs 0 0) (hx : p.tables.exec = Jvm.exec) (hZ : Z.Warmed39 s.vm) (hw : ∀ d ∈ tables_1, d.before a0 Z = true) (hby : c.code = method_3_code) (hml : c.maxLocals = 2) (hown : s.vm.findClass "com/example/shape_trees/shapetrees/xpath/tree/XmlNamesIsNameStartCharPinLaw" = some m.cls) (hret : meth.sig.returnType = some .boolean) (hlk : meth.locks = false) (e0 : T0.heap = h0) (Z0 : n0 ≤ h0.size) (N0 : Fr n0 locs) (hP : P (some (.int (f2_159 x0))) h0) :
    own_Goes p e below s n0 0 0 P (T0.setTop (mkF m 159 #[.val (.int x0), .unset] [])) := by
  obtain ⟨_, _, ⟨T164, L164, k164, n164⟩, -, X164, ⟨Lc164, hQ164, l164, y164, z164⟩, st164⟩ := Jvm.LawKit.callS X0 hx (y := (⟨"com/example/shape_trees/shapetrees/xpath/tree/XmlNamesIsNameStartCharPinLaw", "in", "(III)Z"⟩ : MethodName)) hown (mvT hZ (hw _ (List.mem_of_getElem? (i := 25) rfl))) (mvT hZ (hw _ (List.mem_of_getElem? (i := 26) rfl))) (mvT hZ (hw _ (List.mem_of_getElem? (i := 23) rfl))) (mvT hZ (hw _ (List.mem_of_getElem? (i := 27) rfl))) (by decide) (backOf (W := 0) (rm3 l Z a0 hw [] x0 (65534 : Int32) (65535 : Int32) h0 n0 Z0) hZ (hw _ (List.mem_of_getElem? (i := 27) rfl)) (hw _ (List.mem_of_getElem? (i := 23) rfl)) (by decide) (by decide)) (g := (mkF m 164 #[.val (.int x0), .unset] [(.int (65535 : Int32)), (.int (65534 : Int32)), (.int x0)])) rfl (by rw [hml]; rfl) (argsL := [(.int x0), (.int (65534 : Int32)), (.int (65535 : Int32))]) (rest := []) (lenOf pd0 rfl) rfl (by show 2 * 0 + _ ≤ _; exact Nat.le_of_eq rfl) (hb hby d2_164) (fun _ _ => ⟨rfl, e0, (by decide : 0 + 0 ≤ _), (by decide : 0 + 0 ≤ _)⟩)
  dsimp only [Pt.U, Pt.locs, Pt.cells, Pt.slots] at X164 l164 y164 z164 st164 hQ164
  subst l164 y164 z164
  obtain ⟨⟨rfl, e164⟩, N164q⟩ := hQ164
  have N164 := Fr.app N0 N164q
  have pre1 : ∀ t, Steps p.tables e below (T164.setTop (mkF m 167 #[.val (.int x0), .unset] [(.int (f3_0 x0 (65534 : Int32) (65535 : Int32)))])) t → Steps p.tables e below (T0.setTop (mkF m 159 #[.val (.int x0), .unset] [])) t := fun t kt => by
    show Steps p.tables e below (T0.setTop (mkF m 159 #[.val (.int x0), .unset] [])) _
    refine XS.iloadN X0.here hx rfl (hb hby d2_159) rfl ?_
    show Steps p.tables e below (T0.setTop (mkF m 160 #[.val (.int x0), .unset] [(.int x0)])) _
    refine X0.ldcInt hx hown (mvT hZ (hw _ (List.mem_of_getElem? (i := 11) rfl))) (g := (mkF m 160 #[.val (.int x0), .unset] [(.int x0)])) rfl (hb hby d2_160) _ ?_
    show Steps p.tables e below (T0.setTop (mkF m 162 #[.val (.int x0), .unset] [(.int (65534 : Int32)), (.int x0)])) _
    refine X0.ldcInt hx hown (mvT hZ (hw _ (List.mem_of_getElem? (i := 12) rfl))) (g := (mkF m 162 #[.val (.int x0), .unset] [(.int (65534 : Int32)), (.int x0)])) rfl (hb hby d2_162) _ ?_
    show Steps p.tables e below (T0.setTop (mkF m 164 #[.val (.int x0), .unset] [(.int (65535 : Int32)), (.int (65534 : Int32)), (.int x0)])) _
    refine st164 _ ?_
    exact kt
  refine own_Goes.pre pre1 ?_
  by_cases hc : (f3_0 x0 (65534 : Int32) (65535 : Int32)) = (0 : Int32)
  · rw [f2_159, if_pos hc] at hP
    refine own_Goes.pre (fun t kt => ?_) (b2_174 x0 X164 hx hZ hw hby hml hown hret hlk e164 Z0 N164 hP)
    show Steps p.tables e below (T164.setTop (mkF m 167 #[.val (.int x0), .unset] [(.int (f3_0 x0 (65534 : Int32) (65535 : Int32)))])) _
    refine XS.ifYes X164.here hx rfl (pc0 := 167) (pc' := 174) rfl (hb hby d2_167) rfl ((if0 _ _).trans (teq hc).1) (by decide) (by decide) ?_
    exact kt
  · rw [f2_159, if_neg hc] at hP
    refine own_Goes.pre (fun t kt => ?_) (b2_170 x0 X164 hx hZ hw hby hml hown hret hlk e164 Z0 N164 hP)
    show Steps p.tables e below (T164.setTop (mkF m 167 #[.val (.int x0), .unset] [(.int (f3_0 x0 (65534 : Int32) (65535 : Int32)))])) _
    refine XS.ifNo X164.here hx rfl (hb hby d2_167) rfl ((if0 _ _).trans (feq hc).1) ?_
    exact kt
def f2_148 (x0 : Int32) : Int32 := if (f3_0 x0 (64976 : Int32) (65007 : Int32)) = (0 : Int32) then (f2_159 x0) else (f2_170 x0)
set_option maxRecDepth 65536 in
set_option maxHeartbeats 40000000 in
theorem b2_148 {p : Program} {l : Launch} {e : Env} {s : State} {m : MethodId} {args : Array Value} {below : List Frame} {meth : Method} {c : Code} {T0 : State} {locs : List Loc} {Z : State} {a0 : Array Value} {h0 : Heap} {n0 : Nat} {P : Option Value → Heap → Prop} (x0 : Int32) (X0 : Stand p l e ({ frames := 1, cells := 0, slots := 0, locals := 14 } : Room) s m args below meth c T0 locs 0 0) (hx : p.tables.exec = Jvm.exec) (hZ : Z.Warmed39 s.vm) (hw : ∀ d ∈ tables_1, d.before a0 Z = true) (hby : c.code = method_3_code) (hml : c.maxLocals = 2) (hown : s.vm.findClass "com/example/shape_trees/shapetrees/xpath/tree/XmlNamesIsNameStartCharPinLaw" = some m.cls) (hret : meth.sig.returnType = some .boolean) (hlk : meth.locks = false) (e0 : T0.heap = h0) (Z0 : n0 ≤ h0.size) (N0 : Fr n0 locs) (hP : P (some (.int (f2_148 x0))) h0) :
    own_Goes p e below s n0 0 0 P (T0.setTop (mkF m 148 #[.val (.int x0), .unset] [])) := by
  obtain ⟨_, _, ⟨T153, L153, k153, n153⟩, -, X153, ⟨Lc153, hQ153, l153, y153, z153⟩, st153⟩ := Jvm.LawKit.callS X0 hx (y := (⟨"com/example/shape_trees/shapetrees/xpath/tree/XmlNamesIsNameStartCharPinLaw", "in", "(III)Z"⟩ : MethodName)) hown (mvT hZ (hw _ (List.mem_of_getElem? (i := 25) rfl))) (mvT hZ (hw _ (List.mem_of_getElem? (i := 26) rfl))) (mvT hZ (hw _ (List.mem_of_getElem? (i := 23) rfl))) (mvT hZ (hw _ (List.mem_of_getElem? (i := 27) rfl))) (by decide) (backOf (W := 0) (rm3 l Z a0 hw [] x0 (64976 : Int32) (65007 : Int32) h0 n0 Z0) hZ (hw _ (List.mem_of_getElem? (i := 27) rfl)) (hw _ (List.mem_of_getElem? (i := 23) rfl)) (by decide) (by decide)) (g := (mkF m 153 #[.val (.int x0), .unset] [(.int (65007 : Int32)), (.int (64976 : Int32)), (.int x0)])) rfl (by rw [hml]; rfl) (argsL := [(.int x0), (.int (64976 : Int32)), (.int (65007 : Int32))]) (rest := []) (lenOf pd0 rfl) rfl (by show 2 * 0 + _ ≤ _; exact Nat.le_of_eq rfl) (hb hby d2_153) (fun _ _ => ⟨rfl, e0, (by decide : 0 + 0 ≤ _), (by decide : 0 + 0 ≤ _)⟩)
  dsimp only [Pt.U, Pt.locs, Pt.cells, Pt.slots] at X153 l153 y153 z153 st153 hQ153
  subst l153 y153 z153
  obtain ⟨⟨rfl, e153⟩, N153q⟩ := hQ153
  have N153 := Fr.app N0 N153q
  have pre1 : ∀ t, Steps p.tables e below (T153.setTop (mkF m 156 #[.val (.int x0), .unset] [(.int (f3_0 x0 (64976 : Int32) (65007 : Int32)))])) t → Steps p.tables e below (T0.setTop (mkF m 148 #[.val (.int x0), .unset] [])) t := fun t kt => by
    show Steps p.tables e below (T0.setTop (mkF m 148 #[.val (.int x0), .unset] [])) _
    refine XS.iloadN X0.here hx rfl (hb hby d2_148) rfl ?_
    show Steps p.tables e below (T0.setTop (mkF m 149 #[.val (.int x0), .unset] [(.int x0)])) _
    refine X0.ldcInt hx hown (mvT hZ (hw _ (List.mem_of_getElem? (i := 7) rfl))) (g := (mkF m 149 #[.val (.int x0), .unset] [(.int x0)])) rfl (hb hby d2_149) _ ?_
    show Steps p.tables e below (T0.setTop (mkF m 151 #[.val (.int x0), .unset] [(.int (64976 : Int32)), (.int x0)])) _
    refine X0.ldcInt hx hown (mvT hZ (hw _ (List.mem_of_getElem? (i := 8) rfl))) (g := (mkF m 151 #[.val (.int x0), .unset] [(.int (64976 : Int32)), (.int x0)])) rfl (hb hby d2_151) _ ?_
    show Steps p.tables e below (T0.setTop (mkF m 153 #[.val (.int x0), .unset] [(.int (65007 : Int32)), (.int (64976 : Int32)), (.int x0)])) _
    refine st153 _ ?_
    exact kt
  refine own_Goes.pre pre1 ?_
  by_cases hc : (f3_0 x0 (64976 : Int32) (65007 : Int32)) = (0 : Int32)
  · rw [f2_148, if_pos hc] at hP
    refine own_Goes.pre (fun t kt => ?_) (b2_159 x0 X153 hx hZ hw hby hml hown hret hlk e153 Z0 N153 hP)
    show Steps p.tables e below (T153.setTop (mkF m 156 #[.val (.int x0), .unset] [(.int (f3_0 x0 (64976 : Int32) (65007 : Int32)))])) _
    refine XS.ifNo X153.here hx rfl (hb hby d2_156) rfl ((if0 _ _).trans (teq hc).2) ?_
    exact kt
  · rw [f2_148, if_neg hc] at hP
    refine own_Goes.pre (fun t kt => ?_) (b2_170 x0 X153 hx hZ hw hby hml hown hret hlk e153 Z0 N153 hP)
    show Steps p.tables e below (T153.setTop (mkF m 156 #[.val (.int x0), .unset] [(.int (f3_0 x0 (64976 : Int32) (65007 : Int32)))])) _
    refine XS.ifYes X153.here hx rfl (pc0 := 156) (pc' := 170) rfl (hb hby d2_156) rfl ((if0 _ _).trans (feq hc).2) (by decide) (by decide) ?_
    exact kt
def f2_137 (x0 : Int32) : Int32 := if (f3_0 x0 (55296 : Int32) (63743 : Int32)) = (0 : Int32) then (f2_148 x0) else (f2_170 x0)
set_option maxRecDepth 65536 in
set_option maxHeartbeats 40000000 in
theorem b2_137 {p : Program} {l : Launch} {e : Env} {s : State} {m : MethodId} {args : Array Value} {below : List Frame} {meth : Method} {c : Code} {T0 : State} {locs : List Loc} {Z : State} {a0 : Array Value} {h0 : Heap} {n0 : Nat} {P : Option Value → Heap → Prop} (x0 : Int32) (X0 : Stand p l e ({ frames := 1, cells := 0, slots := 0, locals := 14 } : Room) s m args below meth c T0 locs 0 0) (hx : p.tables.exec = Jvm.exec) (hZ : Z.Warmed39 s.vm) (hw : ∀ d ∈ tables_1, d.before a0 Z = true) (hby : c.code = method_3_code) (hml : c.maxLocals = 2) (hown : s.vm.findClass "com/example/shape_trees/shapetrees/xpath/tree/XmlNamesIsNameStartCharPinLaw" = some m.cls) (hret : meth.sig.returnType = some .boolean) (hlk : meth.locks = false) (e0 : T0.heap = h0) (Z0 : n0 ≤ h0.size) (N0 : Fr n0 locs) (hP : P (some (.int (f2_137 x0))) h0) :
    own_Goes p e below s n0 0 0 P (T0.setTop (mkF m 137 #[.val (.int x0), .unset] [])) := by
  obtain ⟨_, _, ⟨T142, L142, k142, n142⟩, -, X142, ⟨Lc142, hQ142, l142, y142, z142⟩, st142⟩ := Jvm.LawKit.callS X0 hx (y := (⟨"com/example/shape_trees/shapetrees/xpath/tree/XmlNamesIsNameStartCharPinLaw", "in", "(III)Z"⟩ : MethodName)) hown (mvT hZ (hw _ (List.mem_of_getElem? (i := 25) rfl))) (mvT hZ (hw _ (List.mem_of_getElem? (i := 26) rfl))) (mvT hZ (hw _ (List.mem_of_getElem? (i := 23) rfl))) (mvT hZ (hw _ (List.mem_of_getElem? (i := 27) rfl))) (by decide) (backOf (W := 0) (rm3 l Z a0 hw [] x0 (55296 : Int32) (63743 : Int32) h0 n0 Z0) hZ (hw _ (List.mem_of_getElem? (i := 27) rfl)) (hw _ (List.mem_of_getElem? (i := 23) rfl)) (by decide) (by decide)) (g := (mkF m 142 #[.val (.int x0), .unset] [(.int (63743 : Int32)), (.int (55296 : Int32)), (.int x0)])) rfl (by rw [hml]; rfl) (argsL := [(.int x0), (.int (55296 : Int32)), (.int (63743 : Int32))]) (rest := []) (lenOf pd0 rfl) rfl (by show 2 * 0 + _ ≤ _; exact Nat.le_of_eq rfl) (hb hby d2_142) (fun _ _ => ⟨rfl, e0, (by decide : 0 + 0 ≤ _), (by decide : 0 + 0 ≤ _)⟩)
  dsimp only [Pt.U, Pt.locs, Pt.cells, Pt.slots] at X142 l142 y142 z142 st142 hQ142
  subst l142 y142 z142
  obtain ⟨⟨rfl, e142⟩, N142q⟩ := hQ142
  have N142 := Fr.app N0 N142q
  have pre1 : ∀ t, Steps p.tables e below (T142.setTop (mkF m 145 #[.val (.int x0), .unset] [(.int (f3_0 x0 (55296 : Int32) (63743 : Int32)))])) t → Steps p.tables e below (T0.setTop (mkF m 137 #[.val (.int x0), .unset] [])) t := fun t kt => by
    show Steps p.tables e below (T0.setTop (mkF m 137 #[.val (.int x0), .unset] [])) _
    refine XS.iloadN X0.here hx rfl (hb hby d2_137) rfl ?_
    show Steps p.tables e below (T0.setTop (mkF m 138 #[.val (.int x0), .unset] [(.int x0)])) _
    refine X0.ldcInt hx hown (mvT hZ (hw _ (List.mem_of_getElem? (i := 3) rfl))) (g := (mkF m 138 #[.val (.int x0), .unset] [(.int x0)])) rfl (hb hby d2_138) _ ?_
    show Steps p.tables e below (T0.setTop (mkF m 140 #[.val (.int x0), .unset] [(.int (55296 : Int32)), (.int x0)])) _
    refine X0.ldcInt hx hown (mvT hZ (hw _ (List.mem_of_getElem? (i := 4) rfl))) (g := (mkF m 140 #[.val (.int x0), .unset] [(.int (55296 : Int32)), (.int x0)])) rfl (hb hby d2_140) _ ?_
    show Steps p.tables e below (T0.setTop (mkF m 142 #[.val (.int x0), .unset] [(.int (63743 : Int32)), (.int (55296 : Int32)), (.int x0)])) _
    refine st142 _ ?_
    exact kt
  refine own_Goes.pre pre1 ?_
  by_cases hc : (f3_0 x0 (55296 : Int32) (63743 : Int32)) = (0 : Int32)
  · rw [f2_137, if_pos hc] at hP
    refine own_Goes.pre (fun t kt => ?_) (b2_148 x0 X142 hx hZ hw hby hml hown hret hlk e142 Z0 N142 hP)
    show Steps p.tables e below (T142.setTop (mkF m 145 #[.val (.int x0), .unset] [(.int (f3_0 x0 (55296 : Int32) (63743 : Int32)))])) _
    refine XS.ifNo X142.here hx rfl (hb hby d2_145) rfl ((if0 _ _).trans (teq hc).2) ?_
    exact kt
  · rw [f2_137, if_neg hc] at hP
    refine own_Goes.pre (fun t kt => ?_) (b2_170 x0 X142 hx hZ hw hby hml hown hret hlk e142 Z0 N142 hP)
    show Steps p.tables e below (T142.setTop (mkF m 145 #[.val (.int x0), .unset] [(.int (f3_0 x0 (55296 : Int32) (63743 : Int32)))])) _
    refine XS.ifYes X142.here hx rfl (pc0 := 145) (pc' := 170) rfl (hb hby d2_145) rfl ((if0 _ _).trans (feq hc).2) (by decide) (by decide) ?_
    exact kt
def f2_124 (x0 : Int32) : Int32 := if (f3_0 x0 (12272 : Int32) (12288 : Int32)) = (0 : Int32) then (f2_137 x0) else (f2_170 x0)
set_option maxRecDepth 65536 in
set_option maxHeartbeats 40000000 in
theorem b2_124 {p : Program} {l : Launch} {e : Env} {s : State} {m : MethodId} {args : Array Value} {below : List Frame} {meth : Method} {c : Code} {T0 : State} {locs : List Loc} {Z : State} {a0 : Array Value} {h0 : Heap} {n0 : Nat} {P : Option Value → Heap → Prop} (x0 : Int32) (X0 : Stand p l e ({ frames := 1, cells := 0, slots := 0, locals := 14 } : Room) s m args below meth c T0 locs 0 0) (hx : p.tables.exec = Jvm.exec) (hZ : Z.Warmed39 s.vm) (hw : ∀ d ∈ tables_1, d.before a0 Z = true) (hby : c.code = method_3_code) (hml : c.maxLocals = 2) (hown : s.vm.findClass "com/example/shape_trees/shapetrees/xpath/tree/XmlNamesIsNameStartCharPinLaw" = some m.cls) (hret : meth.sig.returnType = some .boolean) (hlk : meth.locks = false) (e0 : T0.heap = h0) (Z0 : n0 ≤ h0.size) (N0 : Fr n0 locs) (hP : P (some (.int (f2_124 x0))) h0) :
    own_Goes p e below s n0 0 0 P (T0.setTop (mkF m 124 #[.val (.int x0), .unset] [])) := by
  obtain ⟨_, _, ⟨T131, L131, k131, n131⟩, -, X131, ⟨Lc131, hQ131, l131, y131, z131⟩, st131⟩ := Jvm.LawKit.callS X0 hx (y := (⟨"com/example/shape_trees/shapetrees/xpath/tree/XmlNamesIsNameStartCharPinLaw", "in", "(III)Z"⟩ : MethodName)) hown (mvT hZ (hw _ (List.mem_of_getElem? (i := 25) rfl))) (mvT hZ (hw _ (List.mem_of_getElem? (i := 26) rfl))) (mvT hZ (hw _ (List.mem_of_getElem? (i := 23) rfl))) (mvT hZ (hw _ (List.mem_of_getElem? (i := 27) rfl))) (by decide) (backOf (W := 0) (rm3 l Z a0 hw [] x0 (12272 : Int32) (12288 : Int32) h0 n0 Z0) hZ (hw _ (List.mem_of_getElem? (i := 27) rfl)) (hw _ (List.mem_of_getElem? (i := 23) rfl)) (by decide) (by decide)) (g := (mkF m 131 #[.val (.int x0), .unset] [(.int (12288 : Int32)), (.int (12272 : Int32)), (.int x0)])) rfl (by rw [hml]; rfl) (argsL := [(.int x0), (.int (12272 : Int32)), (.int (12288 : Int32))]) (rest := []) (lenOf pd0 rfl) rfl (by show 2 * 0 + _ ≤ _; exact Nat.le_of_eq rfl) (hb hby d2_131) (fun _ _ => ⟨rfl, e0, (by decide : 0 + 0 ≤ _), (by decide : 0 + 0 ≤ _)⟩)
  dsimp only [Pt.U, Pt.locs, Pt.cells, Pt.slots] at X131 l131 y131 z131 st131 hQ131
  subst l131 y131 z131
  obtain ⟨⟨rfl, e131⟩, N131q⟩ := hQ131
  have N131 := Fr.app N0 N131q
  have pre1 : ∀ t, Steps p.tables e below (T131.setTop (mkF m 134 #[.val (.int x0), .unset] [(.int (f3_0 x0 (12272 : Int32) (12288 : Int32)))])) t → Steps p.tables e below (T0.setTop (mkF m 124 #[.val (.int x0), .unset] [])) t := fun t kt => by
    show Steps p.tables e below (T0.setTop (mkF m 124 #[.val (.int x0), .unset] [])) _
    refine XS.iloadN X0.here hx rfl (hb hby d2_124) rfl ?_
    show Steps p.tables e below (T0.setTop (mkF m 125 #[.val (.int x0), .unset] [(.int x0)])) _
    refine XS.sipush X0.here hx rfl (hb hby d2_125) ?_
    show Steps p.tables e below (T0.setTop (mkF m 128 #[.val (.int x0), .unset] [(.int (12272 : Int32)), (.int x0)])) _
    refine XS.sipush X0.here hx rfl (hb hby d2_128) ?_
    show Steps p.tables e below (T0.setTop (mkF m 131 #[.val (.int x0), .unset] [(.int (12288 : Int32)), (.int (12272 : Int32)), (.int x0)])) _
    refine st131 _ ?_
    exact kt
  refine own_Goes.pre pre1 ?_
  by_cases hc : (f3_0 x0 (12272 : Int32) (12288 : Int32)) = (0 : Int32)
  · rw [f2_124, if_pos hc] at hP
    refine own_Goes.pre (fun t kt => ?_) (b2_137 x0 X131 hx hZ hw hby hml hown hret hlk e131 Z0 N131 hP)
    show Steps p.tables e below (T131.setTop (mkF m 134 #[.val (.int x0), .unset] [(.int (f3_0 x0 (12272 : Int32) (12288 : Int32)))])) _
    refine XS.ifNo X131.here hx rfl (hb hby d2_134) rfl ((if0 _ _).trans (teq hc).2) ?_
    exact kt
  · rw [f2_124, if_neg hc] at hP
    refine own_Goes.pre (fun t kt => ?_) (b2_170 x0 X131 hx hZ hw hby hml hown hret hlk e131 Z0 N131 hP)
    show Steps p.tables e below (T131.setTop (mkF m 134 #[.val (.int x0), .unset] [(.int (f3_0 x0 (12272 : Int32) (12288 : Int32)))])) _
    refine XS.ifYes X131.here hx rfl (pc0 := 134) (pc' := 170) rfl (hb hby d2_134) rfl ((if0 _ _).trans (feq hc).2) (by decide) (by decide) ?_
    exact kt
def f2_111 (x0 : Int32) : Int32 := if (f3_0 x0 (8592 : Int32) (11263 : Int32)) = (0 : Int32) then (f2_124 x0) else (f2_170 x0)
set_option maxRecDepth 65536 in
set_option maxHeartbeats 40000000 in
theorem b2_111 {p : Program} {l : Launch} {e : Env} {s : State} {m : MethodId} {args : Array Value} {below : List Frame} {meth : Method} {c : Code} {T0 : State} {locs : List Loc} {Z : State} {a0 : Array Value} {h0 : Heap} {n0 : Nat} {P : Option Value → Heap → Prop} (x0 : Int32) (X0 : Stand p l e ({ frames := 1, cells := 0, slots := 0, locals := 14 } : Room) s m args below meth c T0 locs 0 0) (hx : p.tables.exec = Jvm.exec) (hZ : Z.Warmed39 s.vm) (hw : ∀ d ∈ tables_1, d.before a0 Z = true) (hby : c.code = method_3_code) (hml : c.maxLocals = 2) (hown : s.vm.findClass "com/example/shape_trees/shapetrees/xpath/tree/XmlNamesIsNameStartCharPinLaw" = some m.cls) (hret : meth.sig.returnType = some .boolean) (hlk : meth.locks = false) (e0 : T0.heap = h0) (Z0 : n0 ≤ h0.size) (N0 : Fr n0 locs) (hP : P (some (.int (f2_111 x0))) h0) :
    own_Goes p e below s n0 0 0 P (T0.setTop (mkF m 111 #[.val (.int x0), .unset] [])) := by
  obtain ⟨_, _, ⟨T118, L118, k118, n118⟩, -, X118, ⟨Lc118, hQ118, l118, y118, z118⟩, st118⟩ := Jvm.LawKit.callS X0 hx (y := (⟨"com/example/shape_trees/shapetrees/xpath/tree/XmlNamesIsNameStartCharPinLaw", "in", "(III)Z"⟩ : MethodName)) hown (mvT hZ (hw _ (List.mem_of_getElem? (i := 25) rfl))) (mvT hZ (hw _ (List.mem_of_getElem? (i := 26) rfl))) (mvT hZ (hw _ (List.mem_of_getElem? (i := 23) rfl))) (mvT hZ (hw _ (List.mem_of_getElem? (i := 27) rfl))) (by decide) (backOf (W := 0) (rm3 l Z a0 hw [] x0 (8592 : Int32) (11263 : Int32) h0 n0 Z0) hZ (hw _ (List.mem_of_getElem? (i := 27) rfl)) (hw _ (List.mem_of_getElem? (i := 23) rfl)) (by decide) (by decide)) (g := (mkF m 118 #[.val (.int x0), .unset] [(.int (11263 : Int32)), (.int (8592 : Int32)), (.int x0)])) rfl (by rw [hml]; rfl) (argsL := [(.int x0), (.int (8592 : Int32)), (.int (11263 : Int32))]) (rest := []) (lenOf pd0 rfl) rfl (by show 2 * 0 + _ ≤ _; exact Nat.le_of_eq rfl) (hb hby d2_118) (fun _ _ => ⟨rfl, e0, (by decide : 0 + 0 ≤ _), (by decide : 0 + 0 ≤ _)⟩)
  dsimp only [Pt.U, Pt.locs, Pt.cells, Pt.slots] at X118 l118 y118 z118 st118 hQ118
  subst l118 y118 z118
  obtain ⟨⟨rfl, e118⟩, N118q⟩ := hQ118
  have N118 := Fr.app N0 N118q
  have pre1 : ∀ t, Steps p.tables e below (T118.setTop (mkF m 121 #[.val (.int x0), .unset] [(.int (f3_0 x0 (8592 : Int32) (11263 : Int32)))])) t → Steps p.tables e below (T0.setTop (mkF m 111 #[.val (.int x0), .unset] [])) t := fun t kt => by
    show Steps p.tables e below (T0.setTop (mkF m 111 #[.val (.int x0), .unset] [])) _
    refine XS.iloadN X0.here hx rfl (hb hby d2_111) rfl ?_
    show Steps p.tables e below (T0.setTop (mkF m 112 #[.val (.int x0), .unset] [(.int x0)])) _
    refine XS.sipush X0.here hx rfl (hb hby d2_112) ?_
    show Steps p.tables e below (T0.setTop (mkF m 115 #[.val (.int x0), .unset] [(.int (8592 : Int32)), (.int x0)])) _
    refine XS.sipush X0.here hx rfl (hb hby d2_115) ?_
    show Steps p.tables e below (T0.setTop (mkF m 118 #[.val (.int x0), .unset] [(.int (11263 : Int32)), (.int (8592 : Int32)), (.int x0)])) _
    refine st118 _ ?_
    exact kt
  refine own_Goes.pre pre1 ?_
  by_cases hc : (f3_0 x0 (8592 : Int32) (11263 : Int32)) = (0 : Int32)
  · rw [f2_111, if_pos hc] at hP
    refine own_Goes.pre (fun t kt => ?_) (b2_124 x0 X118 hx hZ hw hby hml hown hret hlk e118 Z0 N118 hP)
    show Steps p.tables e below (T118.setTop (mkF m 121 #[.val (.int x0), .unset] [(.int (f3_0 x0 (8592 : Int32) (11263 : Int32)))])) _
    refine XS.ifNo X118.here hx rfl (hb hby d2_121) rfl ((if0 _ _).trans (teq hc).2) ?_
    exact kt
  · rw [f2_111, if_neg hc] at hP
    refine own_Goes.pre (fun t kt => ?_) (b2_170 x0 X118 hx hZ hw hby hml hown hret hlk e118 Z0 N118 hP)
    show Steps p.tables e below (T118.setTop (mkF m 121 #[.val (.int x0), .unset] [(.int (f3_0 x0 (8592 : Int32) (11263 : Int32)))])) _
    refine XS.ifYes X118.here hx rfl (pc0 := 121) (pc' := 170) rfl (hb hby d2_121) rfl ((if0 _ _).trans (feq hc).2) (by decide) (by decide) ?_
    exact kt
def f2_98 (x0 : Int32) : Int32 := if (f3_0 x0 (8206 : Int32) (8303 : Int32)) = (0 : Int32) then (f2_111 x0) else (f2_170 x0)
set_option maxRecDepth 65536 in
set_option maxHeartbeats 40000000 in
theorem b2_98 {p : Program} {l : Launch} {e : Env} {s : State} {m : MethodId} {args : Array Value} {below : List Frame} {meth : Method} {c : Code} {T0 : State} {locs : List Loc} {Z : State} {a0 : Array Value} {h0 : Heap} {n0 : Nat} {P : Option Value → Heap → Prop} (x0 : Int32) (X0 : Stand p l e ({ frames := 1, cells := 0, slots := 0, locals := 14 } : Room) s m args below meth c T0 locs 0 0) (hx : p.tables.exec = Jvm.exec) (hZ : Z.Warmed39 s.vm) (hw : ∀ d ∈ tables_1, d.before a0 Z = true) (hby : c.code = method_3_code) (hml : c.maxLocals = 2) (hown : s.vm.findClass "com/example/shape_trees/shapetrees/xpath/tree/XmlNamesIsNameStartCharPinLaw" = some m.cls) (hret : meth.sig.returnType = some .boolean) (hlk : meth.locks = false) (e0 : T0.heap = h0) (Z0 : n0 ≤ h0.size) (N0 : Fr n0 locs) (hP : P (some (.int (f2_98 x0))) h0) :
    own_Goes p e below s n0 0 0 P (T0.setTop (mkF m 98 #[.val (.int x0), .unset] [])) := by
  obtain ⟨_, _, ⟨T105, L105, k105, n105⟩, -, X105, ⟨Lc105, hQ105, l105, y105, z105⟩, st105⟩ := Jvm.LawKit.callS X0 hx (y := (⟨"com/example/shape_trees/shapetrees/xpath/tree/XmlNamesIsNameStartCharPinLaw", "in", "(III)Z"⟩ : MethodName)) hown (mvT hZ (hw _ (List.mem_of_getElem? (i := 25) rfl))) (mvT hZ (hw _ (List.mem_of_getElem? (i := 26) rfl))) (mvT hZ (hw _ (List.mem_of_getElem? (i := 23) rfl))) (mvT hZ (hw _ (List.mem_of_getElem? (i := 27) rfl))) (by decide) (backOf (W := 0) (rm3 l Z a0 hw [] x0 (8206 : Int32) (8303 : Int32) h0 n0 Z0) hZ (hw _ (List.mem_of_getElem? (i := 27) rfl)) (hw _ (List.mem_of_getElem? (i := 23) rfl)) (by decide) (by decide)) (g := (mkF m 105 #[.val (.int x0), .unset] [(.int (8303 : Int32)), (.int (8206 : Int32)), (.int x0)])) rfl (by rw [hml]; rfl) (argsL := [(.int x0), (.int (8206 : Int32)), (.int (8303 : Int32))]) (rest := []) (lenOf pd0 rfl) rfl (by show 2 * 0 + _ ≤ _; exact Nat.le_of_eq rfl) (hb hby d2_105) (fun _ _ => ⟨rfl, e0, (by decide : 0 + 0 ≤ _), (by decide : 0 + 0 ≤ _)⟩)
  dsimp only [Pt.U, Pt.locs, Pt.cells, Pt.slots] at X105 l105 y105 z105 st105 hQ105
  subst l105 y105 z105
  obtain ⟨⟨rfl, e105⟩, N105q⟩ := hQ105
  have N105 := Fr.app N0 N105q
  have pre1 : ∀ t, Steps p.tables e below (T105.setTop (mkF m 108 #[.val (.int x0), .unset] [(.int (f3_0 x0 (8206 : Int32) (8303 : Int32)))])) t → Steps p.tables e below (T0.setTop (mkF m 98 #[.val (.int x0), .unset] [])) t := fun t kt => by
    show Steps p.tables e below (T0.setTop (mkF m 98 #[.val (.int x0), .unset] [])) _
    refine XS.iloadN X0.here hx rfl (hb hby d2_98) rfl ?_
    show Steps p.tables e below (T0.setTop (mkF m 99 #[.val (.int x0), .unset] [(.int x0)])) _
    refine XS.sipush X0.here hx rfl (hb hby d2_99) ?_
    show Steps p.tables e below (T0.setTop (mkF m 102 #[.val (.int x0), .unset] [(.int (8206 : Int32)), (.int x0)])) _
    refine XS.sipush X0.here hx rfl (hb hby d2_102) ?_
    show Steps p.tables e below (T0.setTop (mkF m 105 #[.val (.int x0), .unset] [(.int (8303 : Int32)), (.int (8206 : Int32)), (.int x0)])) _
    refine st105 _ ?_
    exact kt
  refine own_Goes.pre pre1 ?_
  by_cases hc : (f3_0 x0 (8206 : Int32) (8303 : Int32)) = (0 : Int32)
  · rw [f2_98, if_pos hc] at hP
    refine own_Goes.pre (fun t kt => ?_) (b2_111 x0 X105 hx hZ hw hby hml hown hret hlk e105 Z0 N105 hP)
    show Steps p.tables e below (T105.setTop (mkF m 108 #[.val (.int x0), .unset] [(.int (f3_0 x0 (8206 : Int32) (8303 : Int32)))])) _
    refine XS.ifNo X105.here hx rfl (hb hby d2_108) rfl ((if0 _ _).trans (teq hc).2) ?_
    exact kt
  · rw [f2_98, if_neg hc] at hP
    refine own_Goes.pre (fun t kt => ?_) (b2_170 x0 X105 hx hZ hw hby hml hown hret hlk e105 Z0 N105 hP)
    show Steps p.tables e below (T105.setTop (mkF m 108 #[.val (.int x0), .unset] [(.int (f3_0 x0 (8206 : Int32) (8303 : Int32)))])) _
    refine XS.ifYes X105.here hx rfl (pc0 := 108) (pc' := 170) rfl (hb hby d2_108) rfl ((if0 _ _).trans (feq hc).2) (by decide) (by decide) ?_
    exact kt
def f2_85 (x0 : Int32) : Int32 := if (f3_0 x0 (8192 : Int32) (8203 : Int32)) = (0 : Int32) then (f2_98 x0) else (f2_170 x0)
set_option maxRecDepth 65536 in
set_option maxHeartbeats 40000000 in
theorem b2_85 {p : Program} {l : Launch} {e : Env} {s : State} {m : MethodId} {args : Array Value} {below : List Frame} {meth : Method} {c : Code} {T0 : State} {locs : List Loc} {Z : State} {a0 : Array Value} {h0 : Heap} {n0 : Nat} {P : Option Value → Heap → Prop} (x0 : Int32) (X0 : Stand p l e ({ frames := 1, cells := 0, slots := 0, locals := 14 } : Room) s m args below meth c T0 locs 0 0) (hx : p.tables.exec = Jvm.exec) (hZ : Z.Warmed39 s.vm) (hw : ∀ d ∈ tables_1, d.before a0 Z = true) (hby : c.code = method_3_code) (hml : c.maxLocals = 2) (hown : s.vm.findClass "com/example/shape_trees/shapetrees/xpath/tree/XmlNamesIsNameStartCharPinLaw" = some m.cls) (hret : meth.sig.returnType = some .boolean) (hlk : meth.locks = false) (e0 : T0.heap = h0) (Z0 : n0 ≤ h0.size) (N0 : Fr n0 locs) (hP : P (some (.int (f2_85 x0))) h0) :
    own_Goes p e below s n0 0 0 P (T0.setTop (mkF m 85 #[.val (.int x0), .unset] [])) := by
  obtain ⟨_, _, ⟨T92, L92, k92, n92⟩, -, X92, ⟨Lc92, hQ92, l92, y92, z92⟩, st92⟩ := Jvm.LawKit.callS X0 hx (y := (⟨"com/example/shape_trees/shapetrees/xpath/tree/XmlNamesIsNameStartCharPinLaw", "in", "(III)Z"⟩ : MethodName)) hown (mvT hZ (hw _ (List.mem_of_getElem? (i := 25) rfl))) (mvT hZ (hw _ (List.mem_of_getElem? (i := 26) rfl))) (mvT hZ (hw _ (List.mem_of_getElem? (i := 23) rfl))) (mvT hZ (hw _ (List.mem_of_getElem? (i := 27) rfl))) (by decide) (backOf (W := 0) (rm3 l Z a0 hw [] x0 (8192 : Int32) (8203 : Int32) h0 n0 Z0) hZ (hw _ (List.mem_of_getElem? (i := 27) rfl)) (hw _ (List.mem_of_getElem? (i := 23) rfl)) (by decide) (by decide)) (g := (mkF m 92 #[.val (.int x0), .unset] [(.int (8203 : Int32)), (.int (8192 : Int32)), (.int x0)])) rfl (by rw [hml]; rfl) (argsL := [(.int x0), (.int (8192 : Int32)), (.int (8203 : Int32))]) (rest := []) (lenOf pd0 rfl) rfl (by show 2 * 0 + _ ≤ _; exact Nat.le_of_eq rfl) (hb hby d2_92) (fun _ _ => ⟨rfl, e0, (by decide : 0 + 0 ≤ _), (by decide : 0 + 0 ≤ _)⟩)
  dsimp only [Pt.U, Pt.locs, Pt.cells, Pt.slots] at X92 l92 y92 z92 st92 hQ92
  subst l92 y92 z92
  obtain ⟨⟨rfl, e92⟩, N92q⟩ := hQ92
  have N92 := Fr.app N0 N92q
  have pre1 : ∀ t, Steps p.tables e below (T92.setTop (mkF m 95 #[.val (.int x0), .unset] [(.int (f3_0 x0 (8192 : Int32) (8203 : Int32)))])) t → Steps p.tables e below (T0.setTop (mkF m 85 #[.val (.int x0), .unset] [])) t := fun t kt => by
    show Steps p.tables e below (T0.setTop (mkF m 85 #[.val (.int x0), .unset] [])) _
    refine XS.iloadN X0.here hx rfl (hb hby d2_85) rfl ?_
    show Steps p.tables e below (T0.setTop (mkF m 86 #[.val (.int x0), .unset] [(.int x0)])) _
    refine XS.sipush X0.here hx rfl (hb hby d2_86) ?_
    show Steps p.tables e below (T0.setTop (mkF m 89 #[.val (.int x0), .unset] [(.int (8192 : Int32)), (.int x0)])) _
    refine XS.sipush X0.here hx rfl (hb hby d2_89) ?_
    show Steps p.tables e below (T0.setTop (mkF m 92 #[.val (.int x0), .unset] [(.int (8203 : Int32)), (.int (8192 : Int32)), (.int x0)])) _
    refine st92 _ ?_
    exact kt
  refine own_Goes.pre pre1 ?_
  by_cases hc : (f3_0 x0 (8192 : Int32) (8203 : Int32)) = (0 : Int32)
  · rw [f2_85, if_pos hc] at hP
    refine own_Goes.pre (fun t kt => ?_) (b2_98 x0 X92 hx hZ hw hby hml hown hret hlk e92 Z0 N92 hP)
    show Steps p.tables e below (T92.setTop (mkF m 95 #[.val (.int x0), .unset] [(.int (f3_0 x0 (8192 : Int32) (8203 : Int32)))])) _
    refine XS.ifNo X92.here hx rfl (hb hby d2_95) rfl ((if0 _ _).trans (teq hc).2) ?_
    exact kt
  · rw [f2_85, if_neg hc] at hP
    refine own_Goes.pre (fun t kt => ?_) (b2_170 x0 X92 hx hZ hw hby hml hown hret hlk e92 Z0 N92 hP)
    show Steps p.tables e below (T92.setTop (mkF m 95 #[.val (.int x0), .unset] [(.int (f3_0 x0 (8192 : Int32) (8203 : Int32)))])) _
    refine XS.ifYes X92.here hx rfl (pc0 := 95) (pc' := 170) rfl (hb hby d2_95) rfl ((if0 _ _).trans (feq hc).2) (by decide) (by decide) ?_
    exact kt
def f2_78 (x0 : Int32) : Int32 := if x0 = (894 : Int32) then (f2_170 x0) else (f2_85 x0)
set_option maxRecDepth 65536 in
set_option maxHeartbeats 40000000 in
theorem b2_78 {p : Program} {l : Launch} {e : Env} {s : State} {m : MethodId} {args : Array Value} {below : List Frame} {meth : Method} {c : Code} {T0 : State} {locs : List Loc} {Z : State} {a0 : Array Value} {h0 : Heap} {n0 : Nat} {P : Option Value → Heap → Prop} (x0 : Int32) (X0 : Stand p l e ({ frames := 1, cells := 0, slots := 0, locals := 14 } : Room) s m args below meth c T0 locs 0 0) (hx : p.tables.exec = Jvm.exec) (hZ : Z.Warmed39 s.vm) (hw : ∀ d ∈ tables_1, d.before a0 Z = true) (hby : c.code = method_3_code) (hml : c.maxLocals = 2) (hown : s.vm.findClass "com/example/shape_trees/shapetrees/xpath/tree/XmlNamesIsNameStartCharPinLaw" = some m.cls) (hret : meth.sig.returnType = some .boolean) (hlk : meth.locks = false) (e0 : T0.heap = h0) (Z0 : n0 ≤ h0.size) (N0 : Fr n0 locs) (hP : P (some (.int (f2_78 x0))) h0) :
    own_Goes p e below s n0 0 0 P (T0.setTop (mkF m 78 #[.val (.int x0), .unset] [])) := by
  have pre1 : ∀ t, Steps p.tables e below (T0.setTop (mkF m 82 #[.val (.int x0), .unset] [(.int (894 : Int32)), (.int x0)])) t → Steps p.tables e below (T0.setTop (mkF m 78 #[.val (.int x0), .unset] [])) t := fun t kt => by
    show Steps p.tables e below (T0.setTop (mkF m 78 #[.val (.int x0), .unset] [])) _
    refine XS.iloadN X0.here hx rfl (hb hby d2_78) rfl ?_
    show Steps p.tables e below (T0.setTop (mkF m 79 #[.val (.int x0), .unset] [(.int x0)])) _
    refine XS.sipush X0.here hx rfl (hb hby d2_79) ?_
    exact kt
  refine own_Goes.pre pre1 ?_
  by_cases hc : x0 = (894 : Int32)
  · rw [f2_78, if_pos hc] at hP
    refine own_Goes.pre (fun t kt => ?_) (b2_170 x0 X0 hx hZ hw hby hml hown hret hlk e0 Z0 N0 hP)
    show Steps p.tables e below (T0.setTop (mkF m 82 #[.val (.int x0), .unset] [(.int (894 : Int32)), (.int x0)])) _
    refine XS.icmpYes X0.here hx rfl (pc0 := 82) (pc' := 170) rfl (hb hby d2_82) rfl (teq hc).1 (by decide) (by decide) ?_
    exact kt
  · rw [f2_78, if_neg hc] at hP
    refine own_Goes.pre (fun t kt => ?_) (b2_85 x0 X0 hx hZ hw hby hml hown hret hlk e0 Z0 N0 hP)
    show Steps p.tables e below (T0.setTop (mkF m 82 #[.val (.int x0), .unset] [(.int (894 : Int32)), (.int x0)])) _
    refine XS.icmpNo X0.here hx rfl (hb hby d2_82) rfl (feq hc).1 ?_
    exact kt
def f2_65 (x0 : Int32) : Int32 := if (f3_0 x0 (768 : Int32) (879 : Int32)) = (0 : Int32) then (f2_78 x0) else (f2_170 x0)
set_option maxRecDepth 65536 in
set_option maxHeartbeats 40000000 in
theorem b2_65 {p : Program} {l : Launch} {e : Env} {s : State} {m : MethodId} {args : Array Value} {below : List Frame} {meth : Method} {c : Code} {T0 : State} {locs : List Loc} {Z : State} {a0 : Array Value} {h0 : Heap} {n0 : Nat} {P : Option Value → Heap → Prop} (x0 : Int32) (X0 : Stand p l e ({ frames := 1, cells := 0, slots := 0, locals := 14 } : Room) s m args below meth c T0 locs 0 0) (hx : p.tables.exec = Jvm.exec) (hZ : Z.Warmed39 s.vm) (hw : ∀ d ∈ tables_1, d.before a0 Z = true) (hby : c.code = method_3_code) (hml : c.maxLocals = 2) (hown : s.vm.findClass "com/example/shape_trees/shapetrees/xpath/tree/XmlNamesIsNameStartCharPinLaw" = some m.cls) (hret : meth.sig.returnType = some .boolean) (hlk : meth.locks = false) (e0 : T0.heap = h0) (Z0 : n0 ≤ h0.size) (N0 : Fr n0 locs) (hP : P (some (.int (f2_65 x0))) h0) :
    own_Goes p e below s n0 0 0 P (T0.setTop (mkF m 65 #[.val (.int x0), .unset] [])) := by
  obtain ⟨_, _, ⟨T72, L72, k72, n72⟩, -, X72, ⟨Lc72, hQ72, l72, y72, z72⟩, st72⟩ := Jvm.LawKit.callS X0 hx (y := (⟨"com/example/shape_trees/shapetrees/xpath/tree/XmlNamesIsNameStartCharPinLaw", "in", "(III)Z"⟩ : MethodName)) hown (mvT hZ (hw _ (List.mem_of_getElem? (i := 25) rfl))) (mvT hZ (hw _ (List.mem_of_getElem? (i := 26) rfl))) (mvT hZ (hw _ (List.mem_of_getElem? (i := 23) rfl))) (mvT hZ (hw _ (List.mem_of_getElem? (i := 27) rfl))) (by decide) (backOf (W := 0) (rm3 l Z a0 hw [] x0 (768 : Int32) (879 : Int32) h0 n0 Z0) hZ (hw _ (List.mem_of_getElem? (i := 27) rfl)) (hw _ (List.mem_of_getElem? (i := 23) rfl)) (by decide) (by decide)) (g := (mkF m 72 #[.val (.int x0), .unset] [(.int (879 : Int32)), (.int (768 : Int32)), (.int x0)])) rfl (by rw [hml]; rfl) (argsL := [(.int x0), (.int (768 : Int32)), (.int (879 : Int32))]) (rest := []) (lenOf pd0 rfl) rfl (by show 2 * 0 + _ ≤ _; exact Nat.le_of_eq rfl) (hb hby d2_72) (fun _ _ => ⟨rfl, e0, (by decide : 0 + 0 ≤ _), (by decide : 0 + 0 ≤ _)⟩)
  dsimp only [Pt.U, Pt.locs, Pt.cells, Pt.slots] at X72 l72 y72 z72 st72 hQ72
  subst l72 y72 z72
  obtain ⟨⟨rfl, e72⟩, N72q⟩ := hQ72
  have N72 := Fr.app N0 N72q
  have pre1 : ∀ t, Steps p.tables e below (T72.setTop (mkF m 75 #[.val (.int x0), .unset] [(.int (f3_0 x0 (768 : Int32) (879 : Int32)))])) t → Steps p.tables e below (T0.setTop (mkF m 65 #[.val (.int x0), .unset] [])) t := fun t kt => by
    show Steps p.tables e below (T0.setTop (mkF m 65 #[.val (.int x0), .unset] [])) _
    refine XS.iloadN X0.here hx rfl (hb hby d2_65) rfl ?_
    show Steps p.tables e below (T0.setTop (mkF m 66 #[.val (.int x0), .unset] [(.int x0)])) _
    refine XS.sipush X0.here hx rfl (hb hby d2_66) ?_
    show Steps p.tables e below (T0.setTop (mkF m 69 #[.val (.int x0), .unset] [(.int (768 : Int32)), (.int x0)])) _
    refine XS.sipush X0.here hx rfl (hb hby d2_69) ?_
    show Steps p.tables e below (T0.setTop (mkF m 72 #[.val (.int x0), .unset] [(.int (879 : Int32)), (.int (768 : Int32)), (.int x0)])) _
    refine st72 _ ?_
    exact kt
  refine own_Goes.pre pre1 ?_
  by_cases hc : (f3_0 x0 (768 : Int32) (879 : Int32)) = (0 : Int32)
  · rw [f2_65, if_pos hc] at hP
    refine own_Goes.pre (fun t kt => ?_) (b2_78 x0 X72 hx hZ hw hby hml hown hret hlk e72 Z0 N72 hP)
    show Steps p.tables e below (T72.setTop (mkF m 75 #[.val (.int x0), .unset] [(.int (f3_0 x0 (768 : Int32) (879 : Int32)))])) _
    refine XS.ifNo X72.here hx rfl (hb hby d2_75) rfl ((if0 _ _).trans (teq hc).2) ?_
    exact kt
  · rw [f2_65, if_neg hc] at hP
    refine own_Goes.pre (fun t kt => ?_) (b2_170 x0 X72 hx hZ hw hby hml hown hret hlk e72 Z0 N72 hP)
    show Steps p.tables e below (T72.setTop (mkF m 75 #[.val (.int x0), .unset] [(.int (f3_0 x0 (768 : Int32) (879 : Int32)))])) _
    refine XS.ifYes X72.here hx rfl (pc0 := 75) (pc' := 170) rfl (hb hby d2_75) rfl ((if0 _ _).trans (feq hc).2) (by decide) (by decide) ?_
    exact kt
def f2_58 (x0 : Int32) : Int32 := if x0 = (247 : Int32) then (f2_170 x0) else (f2_65 x0)
set_option maxRecDepth 65536 in
set_option maxHeartbeats 40000000 in
theorem b2_58 {p : Program} {l : Launch} {e : Env} {s : State} {m : MethodId} {args : Array Value} {below : List Frame} {meth : Method} {c : Code} {T0 : State} {locs : List Loc} {Z : State} {a0 : Array Value} {h0 : Heap} {n0 : Nat} {P : Option Value → Heap → Prop} (x0 : Int32) (X0 : Stand p l e ({ frames := 1, cells := 0, slots := 0, locals := 14 } : Room) s m args below meth c T0 locs 0 0) (hx : p.tables.exec = Jvm.exec) (hZ : Z.Warmed39 s.vm) (hw : ∀ d ∈ tables_1, d.before a0 Z = true) (hby : c.code = method_3_code) (hml : c.maxLocals = 2) (hown : s.vm.findClass "com/example/shape_trees/shapetrees/xpath/tree/XmlNamesIsNameStartCharPinLaw" = some m.cls) (hret : meth.sig.returnType = some .boolean) (hlk : meth.locks = false) (e0 : T0.heap = h0) (Z0 : n0 ≤ h0.size) (N0 : Fr n0 locs) (hP : P (some (.int (f2_58 x0))) h0) :
    own_Goes p e below s n0 0 0 P (T0.setTop (mkF m 58 #[.val (.int x0), .unset] [])) := by
  have pre1 : ∀ t, Steps p.tables e below (T0.setTop (mkF m 62 #[.val (.int x0), .unset] [(.int (247 : Int32)), (.int x0)])) t → Steps p.tables e below (T0.setTop (mkF m 58 #[.val (.int x0), .unset] [])) t := fun t kt => by
    show Steps p.tables e below (T0.setTop (mkF m 58 #[.val (.int x0), .unset] [])) _
    refine XS.iloadN X0.here hx rfl (hb hby d2_58) rfl ?_
    show Steps p.tables e below (T0.setTop (mkF m 59 #[.val (.int x0), .unset] [(.int x0)])) _
    refine XS.sipush X0.here hx rfl (hb hby d2_59) ?_
    exact kt
  refine own_Goes.pre pre1 ?_
  by_cases hc : x0 = (247 : Int32)
  · rw [f2_58, if_pos hc] at hP
    refine own_Goes.pre (fun t kt => ?_) (b2_170 x0 X0 hx hZ hw hby hml hown hret hlk e0 Z0 N0 hP)
    show Steps p.tables e below (T0.setTop (mkF m 62 #[.val (.int x0), .unset] [(.int (247 : Int32)), (.int x0)])) _
    refine XS.icmpYes X0.here hx rfl (pc0 := 62) (pc' := 170) rfl (hb hby d2_62) rfl (teq hc).1 (by decide) (by decide) ?_
    exact kt
  · rw [f2_58, if_neg hc] at hP
    refine own_Goes.pre (fun t kt => ?_) (b2_65 x0 X0 hx hZ hw hby hml hown hret hlk e0 Z0 N0 hP)
    show Steps p.tables e below (T0.setTop (mkF m 62 #[.val (.int x0), .unset] [(.int (247 : Int32)), (.int x0)])) _
    refine XS.icmpNo X0.here hx rfl (hb hby d2_62) rfl (feq hc).1 ?_
    exact kt
def f2_51 (x0 : Int32) : Int32 := if x0 = (215 : Int32) then (f2_170 x0) else (f2_58 x0)
set_option maxRecDepth 65536 in
set_option maxHeartbeats 40000000 in
theorem b2_51 {p : Program} {l : Launch} {e : Env} {s : State} {m : MethodId} {args : Array Value} {below : List Frame} {meth : Method} {c : Code} {T0 : State} {locs : List Loc} {Z : State} {a0 : Array Value} {h0 : Heap} {n0 : Nat} {P : Option Value → Heap → Prop} (x0 : Int32) (X0 : Stand p l e ({ frames := 1, cells := 0, slots := 0, locals := 14 } : Room) s m args below meth c T0 locs 0 0) (hx : p.tables.exec = Jvm.exec) (hZ : Z.Warmed39 s.vm) (hw : ∀ d ∈ tables_1, d.before a0 Z = true) (hby : c.code = method_3_code) (hml : c.maxLocals = 2) (hown : s.vm.findClass "com/example/shape_trees/shapetrees/xpath/tree/XmlNamesIsNameStartCharPinLaw" = some m.cls) (hret : meth.sig.returnType = some .boolean) (hlk : meth.locks = false) (e0 : T0.heap = h0) (Z0 : n0 ≤ h0.size) (N0 : Fr n0 locs) (hP : P (some (.int (f2_51 x0))) h0) :
    own_Goes p e below s n0 0 0 P (T0.setTop (mkF m 51 #[.val (.int x0), .unset] [])) := by
  have pre1 : ∀ t, Steps p.tables e below (T0.setTop (mkF m 55 #[.val (.int x0), .unset] [(.int (215 : Int32)), (.int x0)])) t → Steps p.tables e below (T0.setTop (mkF m 51 #[.val (.int x0), .unset] [])) t := fun t kt => by
    show Steps p.tables e below (T0.setTop (mkF m 51 #[.val (.int x0), .unset] [])) _
    refine XS.iloadN X0.here hx rfl (hb hby d2_51) rfl ?_
    show Steps p.tables e below (T0.setTop (mkF m 52 #[.val (.int x0), .unset] [(.int x0)])) _
    refine XS.sipush X0.here hx rfl (hb hby d2_52) ?_
    exact kt
  refine own_Goes.pre pre1 ?_
  by_cases hc : x0 = (215 : Int32)
  · rw [f2_51, if_pos hc] at hP
    refine own_Goes.pre (fun t kt => ?_) (b2_170 x0 X0 hx hZ hw hby hml hown hret hlk e0 Z0 N0 hP)
    show Steps p.tables e below (T0.setTop (mkF m 55 #[.val (.int x0), .unset] [(.int (215 : Int32)), (.int x0)])) _
    refine XS.icmpYes X0.here hx rfl (pc0 := 55) (pc' := 170) rfl (hb hby d2_55) rfl (teq hc).1 (by decide) (by decide) ?_
    exact kt
  · rw [f2_51, if_neg hc] at hP
    refine own_Goes.pre (fun t kt => ?_) (b2_58 x0 X0 hx hZ hw hby hml hown hret hlk e0 Z0 N0 hP)
    show Steps p.tables e below (T0.setTop (mkF m 55 #[.val (.int x0), .unset] [(.int (215 : Int32)), (.int x0)])) _
    refine XS.icmpNo X0.here hx rfl (hb hby d2_55) rfl (feq hc).1 ?_
    exact kt
def f2_39 (x0 : Int32) : Int32 := if (f3_0 x0 (123 : Int32) (191 : Int32)) = (0 : Int32) then (f2_51 x0) else (f2_170 x0)
set_option maxRecDepth 65536 in
set_option maxHeartbeats 40000000 in
theorem b2_39 {p : Program} {l : Launch} {e : Env} {s : State} {m : MethodId} {args : Array Value} {below : List Frame} {meth : Method} {c : Code} {T0 : State} {locs : List Loc} {Z : State} {a0 : Array Value} {h0 : Heap} {n0 : Nat} {P : Option Value → Heap → Prop} (x0 : Int32) (X0 : Stand p l e ({ frames := 1, cells := 0, slots := 0, locals := 14 } : Room) s m args below meth c T0 locs 0 0) (hx : p.tables.exec = Jvm.exec) (hZ : Z.Warmed39 s.vm) (hw : ∀ d ∈ tables_1, d.before a0 Z = true) (hby : c.code = method_3_code) (hml : c.maxLocals = 2) (hown : s.vm.findClass "com/example/shape_trees/shapetrees/xpath/tree/XmlNamesIsNameStartCharPinLaw" = some m.cls) (hret : meth.sig.returnType = some .boolean) (hlk : meth.locks = false) (e0 : T0.heap = h0) (Z0 : n0 ≤ h0.size) (N0 : Fr n0 locs) (hP : P (some (.int (f2_39 x0))) h0) :
    own_Goes p e below s n0 0 0 P (T0.setTop (mkF m 39 #[.val (.int x0), .unset] [])) := by
  obtain ⟨_, _, ⟨T45, L45, k45, n45⟩, -, X45, ⟨Lc45, hQ45, l45, y45, z45⟩, st45⟩ := Jvm.LawKit.callS X0 hx (y := (⟨"com/example/shape_trees/shapetrees/xpath/tree/XmlNamesIsNameStartCharPinLaw", "in", "(III)Z"⟩ : MethodName)) hown (mvT hZ (hw _ (List.mem_of_getElem? (i := 25) rfl))) (mvT hZ (hw _ (List.mem_of_getElem? (i := 26) rfl))) (mvT hZ (hw _ (List.mem_of_getElem? (i := 23) rfl))) (mvT hZ (hw _ (List.mem_of_getElem? (i := 27) rfl))) (by decide) (backOf (W := 0) (rm3 l Z a0 hw [] x0 (123 : Int32) (191 : Int32) h0 n0 Z0) hZ (hw _ (List.mem_of_getElem? (i := 27) rfl)) (hw _ (List.mem_of_getElem? (i := 23) rfl)) (by decide) (by decide)) (g := (mkF m 45 #[.val (.int x0), .unset] [(.int (191 : Int32)), (.int (123 : Int32)), (.int x0)])) rfl (by rw [hml]; rfl) (argsL := [(.int x0), (.int (123 : Int32)), (.int (191 : Int32))]) (rest := []) (lenOf pd0 rfl) rfl (by show 2 * 0 + _ ≤ _; exact Nat.le_of_eq rfl) (hb hby d2_45) (fun _ _ => ⟨rfl, e0, (by decide : 0 + 0 ≤ _), (by decide : 0 + 0 ≤ _)⟩)
  dsimp only [Pt.U, Pt.locs, Pt.cells, Pt.slots] at X45 l45 y45 z45 st45 hQ45
  subst l45 y45 z45
  obtain ⟨⟨rfl, e45⟩, N45q⟩ := hQ45
  have N45 := Fr.app N0 N45q
  have pre1 : ∀ t, Steps p.tables e below (T45.setTop (mkF m 48 #[.val (.int x0), .unset] [(.int (f3_0 x0 (123 : Int32) (191 : Int32)))])) t → Steps p.tables e below (T0.setTop (mkF m 39 #[.val (.int x0), .unset] [])) t := fun t kt => by
    show Steps p.tables e below (T0.setTop (mkF m 39 #[.val (.int x0), .unset] [])) _
    refine XS.iloadN X0.here hx rfl (hb hby d2_39) rfl ?_
    show Steps p.tables e below (T0.setTop (mkF m 40 #[.val (.int x0), .unset] [(.int x0)])) _
    refine XS.bipush X0.here hx rfl (hb hby d2_40) ?_
    show Steps p.tables e below (T0.setTop (mkF m 42 #[.val (.int x0), .unset] [(.int (123 : Int32)), (.int x0)])) _
    refine XS.sipush X0.here hx rfl (hb hby d2_42) ?_
    show Steps p.tables e below (T0.setTop (mkF m 45 #[.val (.int x0), .unset] [(.int (191 : Int32)), (.int (123 : Int32)), (.int x0)])) _
    refine st45 _ ?_
    exact kt
  refine own_Goes.pre pre1 ?_
  by_cases hc : (f3_0 x0 (123 : Int32) (191 : Int32)) = (0 : Int32)
  · rw [f2_39, if_pos hc] at hP
    refine own_Goes.pre (fun t kt => ?_) (b2_51 x0 X45 hx hZ hw hby hml hown hret hlk e45 Z0 N45 hP)
    show Steps p.tables e below (T45.setTop (mkF m 48 #[.val (.int x0), .unset] [(.int (f3_0 x0 (123 : Int32) (191 : Int32)))])) _
    refine XS.ifNo X45.here hx rfl (hb hby d2_48) rfl ((if0 _ _).trans (teq hc).2) ?_
    exact kt
  · rw [f2_39, if_neg hc] at hP
    refine own_Goes.pre (fun t kt => ?_) (b2_170 x0 X45 hx hZ hw hby hml hown hret hlk e45 Z0 N45 hP)
    show Steps p.tables e below (T45.setTop (mkF m 48 #[.val (.int x0), .unset] [(.int (f3_0 x0 (123 : Int32) (191 : Int32)))])) _
    refine XS.ifYes X45.here hx rfl (pc0 := 48) (pc' := 170) rfl (hb hby d2_48) rfl ((if0 _ _).trans (feq hc).2) (by decide) (by decide) ?_
    exact kt
def f2_33 (x0 : Int32) : Int32 := if x0 = (96 : Int32) then (f2_170 x0) else (f2_39 x0)
set_option maxRecDepth 65536 in
set_option maxHeartbeats 40000000 in
theorem b2_33 {p : Program} {l : Launch} {e : Env} {s : State} {m : MethodId} {args : Array Value} {below : List Frame} {meth : Method} {c : Code} {T0 : State} {locs : List Loc} {Z : State} {a0 : Array Value} {h0 : Heap} {n0 : Nat} {P : Option Value → Heap → Prop} (x0 : Int32) (X0 : Stand p l e ({ frames := 1, cells := 0, slots := 0, locals := 14 } : Room) s m args below meth c T0 locs 0 0) (hx : p.tables.exec = Jvm.exec) (hZ : Z.Warmed39 s.vm) (hw : ∀ d ∈ tables_1, d.before a0 Z = true) (hby : c.code = method_3_code) (hml : c.maxLocals = 2) (hown : s.vm.findClass "com/example/shape_trees/shapetrees/xpath/tree/XmlNamesIsNameStartCharPinLaw" = some m.cls) (hret : meth.sig.returnType = some .boolean) (hlk : meth.locks = false) (e0 : T0.heap = h0) (Z0 : n0 ≤ h0.size) (N0 : Fr n0 locs) (hP : P (some (.int (f2_33 x0))) h0) :
    own_Goes p e below s n0 0 0 P (T0.setTop (mkF m 33 #[.val (.int x0), .unset] [])) := by
  have pre1 : ∀ t, Steps p.tables e below (T0.setTop (mkF m 36 #[.val (.int x0), .unset] [(.int (96 : Int32)), (.int x0)])) t → Steps p.tables e below (T0.setTop (mkF m 33 #[.val (.int x0), .unset] [])) t := fun t kt => by
    show Steps p.tables e below (T0.setTop (mkF m 33 #[.val (.int x0), .unset] [])) _
    refine XS.iloadN X0.here hx rfl (hb hby d2_33) rfl ?_
    show Steps p.tables e below (T0.setTop (mkF m 34 #[.val (.int x0), .unset] [(.int x0)])) _
    refine XS.bipush X0.here hx rfl (hb hby d2_34) ?_
    exact kt
  refine own_Goes.pre pre1 ?_
  by_cases hc : x0 = (96 : Int32)
  · rw [f2_33, if_pos hc] at hP
    refine own_Goes.pre (fun t kt => ?_) (b2_170 x0 X0 hx hZ hw hby hml hown hret hlk e0 Z0 N0 hP)
    show Steps p.tables e below (T0.setTop (mkF m 36 #[.val (.int x0), .unset] [(.int (96 : Int32)), (.int x0)])) _
    refine XS.icmpYes X0.here hx rfl (pc0 := 36) (pc' := 170) rfl (hb hby d2_36) rfl (teq hc).1 (by decide) (by decide) ?_
    exact kt
  · rw [f2_33, if_neg hc] at hP
    refine own_Goes.pre (fun t kt => ?_) (b2_39 x0 X0 hx hZ hw hby hml hown hret hlk e0 Z0 N0 hP)
    show Steps p.tables e below (T0.setTop (mkF m 36 #[.val (.int x0), .unset] [(.int (96 : Int32)), (.int x0)])) _
    refine XS.icmpNo X0.here hx rfl (hb hby d2_36) rfl (feq hc).1 ?_
    exact kt
def f2_22 (x0 : Int32) : Int32 := if (f3_0 x0 (91 : Int32) (94 : Int32)) = (0 : Int32) then (f2_33 x0) else (f2_170 x0)
set_option maxRecDepth 65536 in
set_option maxHeartbeats 40000000 in
theorem b2_22 {p : Program} {l : Launch} {e : Env} {s : State} {m : MethodId} {args : Array Value} {below : List Frame} {meth : Method} {c : Code} {T0 : State} {locs : List Loc} {Z : State} {a0 : Array Value} {h0 : Heap} {n0 : Nat} {P : Option Value → Heap → Prop} (x0 : Int32) (X0 : Stand p l e ({ frames := 1, cells := 0, slots := 0, locals := 14 } : Room) s m args below meth c T0 locs 0 0) (hx : p.tables.exec = Jvm.exec) (hZ : Z.Warmed39 s.vm) (hw : ∀ d ∈ tables_1, d.before a0 Z = true) (hby : c.code = method_3_code) (hml : c.maxLocals = 2) (hown : s.vm.findClass "com/example/shape_trees/shapetrees/xpath/tree/XmlNamesIsNameStartCharPinLaw" = some m.cls) (hret : meth.sig.returnType = some .boolean) (hlk : meth.locks = false) (e0 : T0.heap = h0) (Z0 : n0 ≤ h0.size) (N0 : Fr n0 locs) (hP : P (some (.int (f2_22 x0))) h0) :
    own_Goes p e below s n0 0 0 P (T0.setTop (mkF m 22 #[.val (.int x0), .unset] [])) := by
  obtain ⟨_, _, ⟨T27, L27, k27, n27⟩, -, X27, ⟨Lc27, hQ27, l27, y27, z27⟩, st27⟩ := Jvm.LawKit.callS X0 hx (y := (⟨"com/example/shape_trees/shapetrees/xpath/tree/XmlNamesIsNameStartCharPinLaw", "in", "(III)Z"⟩ : MethodName)) hown (mvT hZ (hw _ (List.mem_of_getElem? (i := 25) rfl))) (mvT hZ (hw _ (List.mem_of_getElem? (i := 26) rfl))) (mvT hZ (hw _ (List.mem_of_getElem? (i := 23) rfl))) (mvT hZ (hw _ (List.mem_of_getElem? (i := 27) rfl))) (by decide) (backOf (W := 0) (rm3 l Z a0 hw [] x0 (91 : Int32) (94 : Int32) h0 n0 Z0) hZ (hw _ (List.mem_of_getElem? (i := 27) rfl)) (hw _ (List.mem_of_getElem? (i := 23) rfl)) (by decide) (by decide)) (g := (mkF m 27 #[.val (.int x0), .unset] [(.int (94 : Int32)), (.int (91 : Int32)), (.int x0)])) rfl (by rw [hml]; rfl) (argsL := [(.int x0), (.int (91 : Int32)), (.int (94 : Int32))]) (rest := []) (lenOf pd0 rfl) rfl (by show 2 * 0 + _ ≤ _; exact Nat.le_of_eq rfl) (hb hby d2_27) (fun _ _ => ⟨rfl, e0, (by decide : 0 + 0 ≤ _), (by decide : 0 + 0 ≤ _)⟩)
  dsimp only [Pt.U, Pt.locs, Pt.cells, Pt.slots] at X27 l27 y27 z27 st27 hQ27
  subst l27 y27 z27
  obtain ⟨⟨rfl, e27⟩, N27q⟩ := hQ27
  have N27 := Fr.app N0 N27q
  have pre1 : ∀ t, Steps p.tables e below (T27.setTop (mkF m 30 #[.val (.int x0), .unset] [(.int (f3_0 x0 (91 : Int32) (94 : Int32)))])) t → Steps p.tables e below (T0.setTop (mkF m 22 #[.val (.int x0), .unset] [])) t := fun t kt => by
    show Steps p.tables e below (T0.setTop (mkF m 22 #[.val (.int x0), .unset] [])) _
    refine XS.iloadN X0.here hx rfl (hb hby d2_22) rfl ?_
    show Steps p.tables e below (T0.setTop (mkF m 23 #[.val (.int x0), .unset] [(.int x0)])) _
    refine XS.bipush X0.here hx rfl (hb hby d2_23) ?_
    show Steps p.tables e below (T0.setTop (mkF m 25 #[.val (.int x0), .unset] [(.int (91 : Int32)), (.int x0)])) _
    refine XS.bipush X0.here hx rfl (hb hby d2_25) ?_
    show Steps p.tables e below (T0.setTop (mkF m 27 #[.val (.int x0), .unset] [(.int (94 : Int32)), (.int (91 : Int32)), (.int x0)])) _
    refine st27 _ ?_
    exact kt
  refine own_Goes.pre pre1 ?_
  by_cases hc : (f3_0 x0 (91 : Int32) (94 : Int32)) = (0 : Int32)
  · rw [f2_22, if_pos hc] at hP
    refine own_Goes.pre (fun t kt => ?_) (b2_33 x0 X27 hx hZ hw hby hml hown hret hlk e27 Z0 N27 hP)
    show Steps p.tables e below (T27.setTop (mkF m 30 #[.val (.int x0), .unset] [(.int (f3_0 x0 (91 : Int32) (94 : Int32)))])) _
    refine XS.ifNo X27.here hx rfl (hb hby d2_30) rfl ((if0 _ _).trans (teq hc).2) ?_
    exact kt
  · rw [f2_22, if_neg hc] at hP
    refine own_Goes.pre (fun t kt => ?_) (b2_170 x0 X27 hx hZ hw hby hml hown hret hlk e27 Z0 N27 hP)
    show Steps p.tables e below (T27.setTop (mkF m 30 #[.val (.int x0), .unset] [(.int (f3_0 x0 (91 : Int32) (94 : Int32)))])) _
    refine XS.ifYes X27.here hx rfl (pc0 := 30) (pc' := 170) rfl (hb hby d2_30) rfl ((if0 _ _).trans (feq hc).2) (by decide) (by decide) ?_
    exact kt
def f2_12 (x0 : Int32) : Int32 := if (f3_0 x0 (0 : Int32) (64 : Int32)) = (0 : Int32) then (f2_22 x0) else (f2_170 x0)
set_option maxRecDepth 65536 in
set_option maxHeartbeats 40000000 in
theorem b2_12 {p : Program} {l : Launch} {e : Env} {s : State} {m : MethodId} {args : Array Value} {below : List Frame} {meth : Method} {c : Code} {T0 : State} {locs : List Loc} {Z : State} {a0 : Array Value} {h0 : Heap} {n0 : Nat} {P : Option Value → Heap → Prop} (x0 : Int32) (X0 : Stand p l e ({ frames := 1, cells := 0, slots := 0, locals := 14 } : Room) s m args below meth c T0 locs 0 0) (hx : p.tables.exec = Jvm.exec) (hZ : Z.Warmed39 s.vm) (hw : ∀ d ∈ tables_1, d.before a0 Z = true) (hby : c.code = method_3_code) (hml : c.maxLocals = 2) (hown : s.vm.findClass "com/example/shape_trees/shapetrees/xpath/tree/XmlNamesIsNameStartCharPinLaw" = some m.cls) (hret : meth.sig.returnType = some .boolean) (hlk : meth.locks = false) (e0 : T0.heap = h0) (Z0 : n0 ≤ h0.size) (N0 : Fr n0 locs) (hP : P (some (.int (f2_12 x0))) h0) :
    own_Goes p e below s n0 0 0 P (T0.setTop (mkF m 12 #[.val (.int x0), .unset] [])) := by
  obtain ⟨_, _, ⟨T16, L16, k16, n16⟩, -, X16, ⟨Lc16, hQ16, l16, y16, z16⟩, st16⟩ := Jvm.LawKit.callS X0 hx (y := (⟨"com/example/shape_trees/shapetrees/xpath/tree/XmlNamesIsNameStartCharPinLaw", "in", "(III)Z"⟩ : MethodName)) hown (mvT hZ (hw _ (List.mem_of_getElem? (i := 25) rfl))) (mvT hZ (hw _ (List.mem_of_getElem? (i := 26) rfl))) (mvT hZ (hw _ (List.mem_of_getElem? (i := 23) rfl))) (mvT hZ (hw _ (List.mem_of_getElem? (i := 27) rfl))) (by decide) (backOf (W := 0) (rm3 l Z a0 hw [] x0 (0 : Int32) (64 : Int32) h0 n0 Z0) hZ (hw _ (List.mem_of_getElem? (i := 27) rfl)) (hw _ (List.mem_of_getElem? (i := 23) rfl)) (by decide) (by decide)) (g := (mkF m 16 #[.val (.int x0), .unset] [(.int (64 : Int32)), (.int (0 : Int32)), (.int x0)])) rfl (by rw [hml]; rfl) (argsL := [(.int x0), (.int (0 : Int32)), (.int (64 : Int32))]) (rest := []) (lenOf pd0 rfl) rfl (by show 2 * 0 + _ ≤ _; exact Nat.le_of_eq rfl) (hb hby d2_16) (fun _ _ => ⟨rfl, e0, (by decide : 0 + 0 ≤ _), (by decide : 0 + 0 ≤ _)⟩)
  dsimp only [Pt.U, Pt.locs, Pt.cells, Pt.slots] at X16 l16 y16 z16 st16 hQ16
  subst l16 y16 z16
  obtain ⟨⟨rfl, e16⟩, N16q⟩ := hQ16
  have N16 := Fr.app N0 N16q
  have pre1 : ∀ t, Steps p.tables e below (T16.setTop (mkF m 19 #[.val (.int x0), .unset] [(.int (f3_0 x0 (0 : Int32) (64 : Int32)))])) t → Steps p.tables e below (T0.setTop (mkF m 12 #[.val (.int x0), .unset] [])) t := fun t kt => by
    show Steps p.tables e below (T0.setTop (mkF m 12 #[.val (.int x0), .unset] [])) _
    refine XS.iloadN X0.here hx rfl (hb hby d2_12) rfl ?_
    show Steps p.tables e below (T0.setTop (mkF m 13 #[.val (.int x0), .unset] [(.int x0)])) _
    refine XS.iconst X0.here hx rfl (hb hby d2_13) ?_
    show Steps p.tables e below (T0.setTop (mkF m 14 #[.val (.int x0), .unset] [(.int (0 : Int32)), (.int x0)])) _
    refine XS.bipush X0.here hx rfl (hb hby d2_14) ?_
    show Steps p.tables e below (T0.setTop (mkF m 16 #[.val (.int x0), .unset] [(.int (64 : Int32)), (.int (0 : Int32)), (.int x0)])) _
    refine st16 _ ?_
    exact kt
  refine own_Goes.pre pre1 ?_
  by_cases hc : (f3_0 x0 (0 : Int32) (64 : Int32)) = (0 : Int32)
  · rw [f2_12, if_pos hc] at hP
    refine own_Goes.pre (fun t kt => ?_) (b2_22 x0 X16 hx hZ hw hby hml hown hret hlk e16 Z0 N16 hP)
    show Steps p.tables e below (T16.setTop (mkF m 19 #[.val (.int x0), .unset] [(.int (f3_0 x0 (0 : Int32) (64 : Int32)))])) _
    refine XS.ifNo X16.here hx rfl (hb hby d2_19) rfl ((if0 _ _).trans (teq hc).2) ?_
    exact kt
  · rw [f2_12, if_neg hc] at hP
    refine own_Goes.pre (fun t kt => ?_) (b2_170 x0 X16 hx hZ hw hby hml hown hret hlk e16 Z0 N16 hP)
    show Steps p.tables e below (T16.setTop (mkF m 19 #[.val (.int x0), .unset] [(.int (f3_0 x0 (0 : Int32) (64 : Int32)))])) _
    refine XS.ifYes X16.here hx rfl (pc0 := 19) (pc' := 170) rfl (hb hby d2_19) rfl ((if0 _ _).trans (feq hc).2) (by decide) (by decide) ?_
    exact kt
def f2_4 (x0 : Int32) : Int32 := if (983039 : Int32) < x0 then (f2_10 x0) else (f2_12 x0)
set_option maxRecDepth 65536 in
set_option maxHeartbeats 40000000 in
theorem b2_4 {p : Program} {l : Launch} {e : Env} {s : State} {m : MethodId} {args : Array Value} {below : List Frame} {meth : Method} {c : Code} {T0 : State} {locs : List Loc} {Z : State} {a0 : Array Value} {h0 : Heap} {n0 : Nat} {P : Option Value → Heap → Prop} (x0 : Int32) (X0 : Stand p l e ({ frames := 1, cells := 0, slots := 0, locals := 14 } : Room) s m args below meth c T0 locs 0 0) (hx : p.tables.exec = Jvm.exec) (hZ : Z.Warmed39 s.vm) (hw : ∀ d ∈ tables_1, d.before a0 Z = true) (hby : c.code = method_3_code) (hml : c.maxLocals = 2) (hown : s.vm.findClass "com/example/shape_trees/shapetrees/xpath/tree/XmlNamesIsNameStartCharPinLaw" = some m.cls) (hret : meth.sig.returnType = some .boolean) (hlk : meth.locks = false) (e0 : T0.heap = h0) (Z0 : n0 ≤ h0.size) (N0 : Fr n0 locs) (hP : P (some (.int (f2_4 x0))) h0) :
    own_Goes p e below s n0 0 0 P (T0.setTop (mkF m 4 #[.val (.int x0), .unset] [])) := by
  have pre1 : ∀ t, Steps p.tables e below (T0.setTop (mkF m 7 #[.val (.int x0), .unset] [(.int (983039 : Int32)), (.int x0)])) t → Steps p.tables e below (T0.setTop (mkF m 4 #[.val (.int x0), .unset] [])) t := fun t kt => by
    show Steps p.tables e below (T0.setTop (mkF m 4 #[.val (.int x0), .unset] [])) _
    refine XS.iloadN X0.here hx rfl (hb hby d2_4) rfl ?_
    show Steps p.tables e below (T0.setTop (mkF m 5 #[.val (.int x0), .unset] [(.int x0)])) _
    refine X0.ldcInt hx hown (mvT hZ (hw _ (List.mem_of_getElem? (i := 14) rfl))) (g := (mkF m 5 #[.val (.int x0), .unset] [(.int x0)])) rfl (hb hby d2_5) _ ?_
    exact kt
  refine own_Goes.pre pre1 ?_
  by_cases hc : (983039 : Int32) < x0
  · rw [f2_4, if_pos hc] at hP
    refine own_Goes.pre (fun t kt => ?_) (b2_10 x0 X0 hx hZ hw hby hml hown hret hlk e0 Z0 N0 hP)
    show Steps p.tables e below (T0.setTop (mkF m 7 #[.val (.int x0), .unset] [(.int (983039 : Int32)), (.int x0)])) _
    refine XS.icmpNo X0.here hx rfl (hb hby d2_7) rfl (tlt hc).2.2.2 ?_
    exact kt
  · rw [f2_4, if_neg hc] at hP
    refine own_Goes.pre (fun t kt => ?_) (b2_12 x0 X0 hx hZ hw hby hml hown hret hlk e0 Z0 N0 hP)
    show Steps p.tables e below (T0.setTop (mkF m 7 #[.val (.int x0), .unset] [(.int (983039 : Int32)), (.int x0)])) _
    refine XS.icmpYes X0.here hx rfl (pc0 := 7) (pc' := 12) rfl (hb hby d2_7) rfl (flt hc).2.2.2 (by decide) (by decide) ?_
    exact kt
def f2_0 (x0 : Int32) : Int32 := if x0 < (0 : Int32) then (f2_10 x0) else (f2_4 x0)
set_option maxRecDepth 65536 in
set_option maxHeartbeats 40000000 in
theorem b2_0 {p : Program} {l : Launch} {e : Env} {s : State} {m : MethodId} {args : Array Value} {below : List Frame} {meth : Method} {c : Code} {T0 : State} {locs : List Loc} {Z : State} {a0 : Array Value} {h0 : Heap} {n0 : Nat} {P : Option Value → Heap → Prop} (x0 : Int32) (X0 : Stand p l e ({ frames := 1, cells := 0, slots := 0, locals := 14 } : Room) s m args below meth c T0 locs 0 0) (hx : p.tables.exec = Jvm.exec) (hZ : Z.Warmed39 s.vm) (hw : ∀ d ∈ tables_1, d.before a0 Z = true) (hby : c.code = method_3_code) (hml : c.maxLocals = 2) (hown : s.vm.findClass "com/example/shape_trees/shapetrees/xpath/tree/XmlNamesIsNameStartCharPinLaw" = some m.cls) (hret : meth.sig.returnType = some .boolean) (hlk : meth.locks = false) (e0 : T0.heap = h0) (Z0 : n0 ≤ h0.size) (N0 : Fr n0 locs) (hP : P (some (.int (f2_0 x0))) h0) :
    own_Goes p e below s n0 0 0 P (T0.setTop (mkF m 0 #[.val (.int x0), .unset] [])) := by
  have pre1 : ∀ t, Steps p.tables e below (T0.setTop (mkF m 1 #[.val (.int x0), .unset] [(.int x0)])) t → Steps p.tables e below (T0.setTop (mkF m 0 #[.val (.int x0), .unset] [])) t := fun t kt => by
    show Steps p.tables e below (T0.setTop (mkF m 0 #[.val (.int x0), .unset] [])) _
    refine XS.iloadN X0.here hx rfl (hb hby d2_0) rfl ?_
    exact kt
  refine own_Goes.pre pre1 ?_
  by_cases hc : x0 < (0 : Int32)
  · rw [f2_0, if_pos hc] at hP
    refine own_Goes.pre (fun t kt => ?_) (b2_10 x0 X0 hx hZ hw hby hml hown hret hlk e0 Z0 N0 hP)
    show Steps p.tables e below (T0.setTop (mkF m 1 #[.val (.int x0), .unset] [(.int x0)])) _
    refine XS.ifYes X0.here hx rfl (pc0 := 1) (pc' := 10) rfl (hb hby d2_1) rfl ((if0 _ _).trans (tlt hc).1) (by decide) (by decide) ?_
    exact kt
  · rw [f2_0, if_neg hc] at hP
    refine own_Goes.pre (fun t kt => ?_) (b2_4 x0 X0 hx hZ hw hby hml hown hret hlk e0 Z0 N0 hP)
    show Steps p.tables e below (T0.setTop (mkF m 1 #[.val (.int x0), .unset] [(.int x0)])) _
    refine XS.ifNo X0.here hx rfl (hb hby d2_1) rfl ((if0 _ _).trans (flt hc).1) ?_
    exact kt
theorem ef2 (m : MethodId) (x0 : Int32) : entryFrame m #[(.int x0)] 2 = (mkF m 0 #[.val (.int x0), .unset] []) := by first | (simp [entryFrame, mkF, argsToLocals, Value.category]; done) | rfl
set_option maxRecDepth 65536 in
set_option maxHeartbeats 40000000 in
theorem rm2 (l : Launch) (Z : State) (a0 : Array Value) (hw : ∀ d ∈ tables_1, d.before a0 Z = true) (ws : List Jvm.Cond) (x0 : Int32) (h0 : Heap) (n0 : Nat) (Z0 : n0 ≤ h0.size) :
    MetFree l (⟨"com/example/shape_trees/shapetrees/xpath/tree/XmlNamesIsNameStartCharPinLaw", "ref", "(I)Z"⟩ : MethodName) (head1 (Jvm.Cond.code (⟨"com/example/shape_trees/shapetrees/xpath/tree/XmlNamesIsNameStartCharPinLaw", "ref", "(I)Z"⟩ : MethodName) method_3_code 2 (some .boolean) :: ws) ({ frames := 1, cells := 0, slots := 0, locals := 14 } : Room)) (fun a U => a = #[(.int x0)] ∧ Z.Warmed39 U.vm ∧ U.heap = h0) (fun _ _ _ _ _ => True) (fun _ U o U' => ∃ v L, o = .returned v ∧ own_Q (own_val (.int (f2_0 x0)) h0) n0 v U'.heap L ∧ FrameEnd U o U' L ({ frames := 1, cells := 0, slots := 0, locals := 14 } : Room).cells ({ frames := 1, cells := 0, slots := 0, locals := 14 } : Room).slots) := by
  refine MetFree.of_bodySF (plainFor_of_name pn1) hisR ?_
  intro p e s m args below meth c s₁ Bd hml0 hP hK
  obtain ⟨rfl, hZ, hh⟩ := hP
  have hx := Bd.exec
  have hby := Bd.bytes
  have hml : c.maxLocals = 2 := hml0
  have hown : s.vm.findClass "com/example/shape_trees/shapetrees/xpath/tree/XmlNamesIsNameStartCharPinLaw" = some m.cls := findClass_of_methodNamed Bd.named
  have X0 : Stand p l e ({ frames := 1, cells := 0, slots := 0, locals := 14 } : Room) s m #[(.int x0)] below meth c s₁ [] 0 0 := Stand.of_body Bd
  have e0 : s₁.heap = h0 := by rw [← hh, Bd.state]; rfl
  refine own_Goes.pre (S' := s₁.setTop (mkF m 0 #[.val (.int x0), .unset] [])) (P := (own_val (.int (f2_0 x0)) h0)) (n0 := n0) (kc := 0) (ks := 0) (fun t k => castTop (ef2 m x0) k) ?_
  exact b2_0 x0 X0 hx hZ hw hby hml hown Bd.returns Bd.notSynchronized e0 Z0 (Fr.nil n0) ⟨rfl, rfl⟩
section OwnArr
variable {p : Program} {l : Launch} {e : Env} {R : Room} {s : State} {m : MethodId} {args : Array Value} {below : List Frame} {meth : Method} {c : Code} {T : State} {locs : List Loc} {cells slots : Nat} {n0 : Nat} {Z : State} {h : Heap}
/-- an int[] of n places, place i holding f i -/
def own_Arr (Z : State) (h : Heap) (a : Addr) (n : Nat) (f : Nat → Int32) : Prop := ∃ c : Cell, Arr Z h a c .int ∧ c.slots.size = n ∧ ∀ i, i < n → c.slots[i]? = some (.int (f i))
theorem own_Arr.new {a : Addr} {k : ClassId} {z : Int32} (A : Arr Z h a (newA k .int z) .int) {n : Nat} (hn : z.toNatClampNeg = n) : own_Arr Z h a n (fun _ => 0) :=
  ⟨_, A, by rw [sz_new]; exact hn, fun i hi => by simp [newA, hn, hi, defaultValue]⟩
theorem own_put (X : Stand p l e R s m args below meth c T locs cells slots) (hx : p.tables.exec = Jvm.exec) (hZ : Z.Warmed39 s.vm) (eT : T.heap = h) {a : Addr} {n : Nat} {f : Nat → Int32} (V : own_Arr Z h a n f) (g : n0 ≤ a) (N : Fr n0 locs) (Z0 : n0 ≤ h.size) {pc : Nat} {Ls : Array Slot} {rest : List Value} (j x : Int32) (k : Nat) (hk : j.toNatClampNeg = k) (hj : ¬ j < 0) (hkn : k < n) (hd : decode c.code pc = .ok (.iastore, 1)) :
    ∃ (T' : State) (h' : Heap) (locs' : List Loc), Stand p l e R s m args below meth c T' locs' cells slots ∧ T'.heap = h' ∧ n0 ≤ h'.size ∧ Fr n0 locs' ∧ own_Arr Z h' a n (fun i => if i = k then x else f i) ∧ ∀ t, Steps p.tables e below (T'.setTop (mkF m (pc + 1) Ls rest)) t → Steps p.tables e below (T.setTop (mkF m pc Ls (.int x :: .int j :: .ref a :: rest))) t := by
  obtain ⟨cl, A, S, H⟩ := V
  obtain ⟨T', h', X', e', W, st⟩ := stI X hx hZ eT A (j := j) (x := x) (by rw [S, hk]; exact fun q => q.elim hj (fun q => by omega)) (g := mkF m pc Ls (.int x :: .int j :: .ref a :: rest)) rfl rfl hd
  refine ⟨T', h', _, X', e', by rw [W.size]; exact Z0, Fr.snoc X' N g, ⟨_, A.same W, by rw [sz_set]; exact S, fun i hi => ?_⟩, st⟩
  rw [hk]
  simp only [Cell.setSlot]
  by_cases q : i = k
  · subst q; simp [S, hi]
  · rw [if_neg q, Array.getElem?_setIfInBounds_ne (Ne.symm q)]; exact H i hi
theorem own_get (X : Stand p l e R s m args below meth c T locs cells slots) (hx : p.tables.exec = Jvm.exec) (hZ : Z.Warmed39 s.vm) (eT : T.heap = h) {a : Addr} {n : Nat} {f : Nat → Int32} (V : own_Arr Z h a n f) {pc : Nat} {Ls : Array Slot} {rest : List Value} (j : Int32) (k : Nat) (hk : j.toNatClampNeg = k) (hj : ¬ j < 0) (hkn : k < n) (hd : decode c.code pc = .ok (.iaload, 1)) :
    ∀ t, Steps p.tables e below (T.setTop (mkF m (pc + 1) Ls (.int (f k) :: rest))) t → Steps p.tables e below (T.setTop (mkF m pc Ls (.int j :: .ref a :: rest))) t := by
  obtain ⟨cl, A, S, H⟩ := V
  intro t kt
  exact X.iaload hx (j := j) (v := .int (f k)) (by rw [eT]; exact A.1) (State.isArrayOf_alike hZ.alike A.2.1) A.2.2 (by rw [S, hk]; exact fun q => q.elim hj (fun q => by omega)) (by rw [hk]; exact H k hkn) (g := mkF m pc Ls (.int j :: .ref a :: rest)) rfl rfl hd _ kt
theorem own_alen (X : Stand p l e R s m args below meth c T locs cells slots) (hx : p.tables.exec = Jvm.exec) (hZ : Z.Warmed39 s.vm) (eT : T.heap = h) {a : Addr} {n : Nat} {f : Nat → Int32} (V : own_Arr Z h a n f) {pc : Nat} {Ls : Array Slot} {rest : List Value} (z : Int32) (hz : n.toInt32 = z) (hd : decode c.code pc = .ok (.arraylength, 1)) :
    ∀ t, Steps p.tables e below (T.setTop (mkF m (pc + 1) Ls (.int z :: rest))) t → Steps p.tables e below (T.setTop (mkF m pc Ls (.ref a :: rest))) t := by
  obtain ⟨cl, A, S, H⟩ := V
  intro t kt
  refine X.arraylength hx (cell := cl) (by rw [eT]; exact A.1) (State.isArrayOf_alike hZ.alike A.2.1) (g := mkF m pc Ls (.ref a :: rest)) rfl (rest := rest) rfl hd _ ?_
  rw [S, hz]
  exact kt
end OwnArr
theorem own_clamp {z : Int32} (h : ¬ z < 0) : (z.toNatClampNeg : Int) = z.toInt := by
  rw [Int32.lt_iff_toInt_lt, show (0 : Int32).toInt = 0 from rfl] at h
  rw [Int32.toNatClampNeg]; omega
theorem pd1 : parseMethodDescriptor "(I)Z" = some ⟨[.int], some .boolean⟩ := by decide +kernel
def f0_456 (x0 : Int32) (x1 : Int32) (x3 : Int32) (x4 : Int32) (x5 : Int32) : Int32 := (0 : Int32)
set_option maxRecDepth 65536 in
set_option maxHeartbeats 40000000 in
theorem b0_456 {p : Program} {l : Launch} {e : Env} {s : State} {m : MethodId} {args : Array Value} {below : List Frame} {meth : Method} {c : Code} {T0 : State} {locs : List Loc} {Z : State} {a0 : Array Value} {h0 : Heap} {n0 : Nat} {P : Option Value → Heap → Prop} (x0 : Int32) (x1 : Int32) (o2 : Addr) (x3 : Int32) (x4 : Int32) (x5 : Int32) (X0 : Stand p l e room_1 s m args below meth c T0 locs 1 62) (hx : p.tables.exec = Jvm.exec) (hZ : Z.Warmed39 s.vm) (hw : ∀ d ∈ tables_1, d.before a0 Z = true) (hby : c.code = code) (hml : c.maxLocals = 6) (hown : s.vm.findClass "com/example/shape_trees/shapetrees/xpath/tree/XmlNamesIsNameStartCharPinLaw" = some m.cls) (hret : meth.sig.returnType = some .boolean) (hlk : meth.locks = false) (e0 : T0.heap = h0) (Z0 : n0 ≤ h0.size) (N0 : Fr n0 locs) (hP : P (some (.int (f0_456 x0 x1 x3 x4 x5))) h0) :
    own_Goes p e below s n0 room_1.cells room_1.slots P (T0.setTop (mkF m 456 #[.val (.int x0), .val (.int x1), .val (.ref o2), .val (.int x3), .val (.int x4), .val (.int x5)] [])) := by
  rw [f0_456] at hP
  refine own_Goes.pre (fun t kt => ?_) (own_retN X0 hx hlk hret (by simp) (hb hby at_457) N0 (by rw [e0]; exact hP) (by decide) (by decide) (Ls := #[.val (.int x0), .val (.int x1), .val (.ref o2), .val (.int x3), .val (.int x4), .val (.int x5)]) (rest := []) (z := (0 : Int32)))
  show Steps p.tables e below (T0.setTop (mkF m 456 #[.val (.int x0), .val (.int x1), .val (.ref o2), .val (.int x3), .val (.int x4), .val (.int x5)] [])) _
  refine XS.iconst X0.here hx rfl (hb hby at_456) ?_
  exact kt
def f0_452 (x0 : Int32) (x1 : Int32) (x3 : Int32) (x4 : Int32) (x5 : Int32) : Int32 := (1 : Int32)
set_option maxRecDepth 65536 in
set_option maxHeartbeats 40000000 in
theorem b0_452 {p : Program} {l : Launch} {e : Env} {s : State} {m : MethodId} {args : Array Value} {below : List Frame} {meth : Method} {c : Code} {T0 : State} {locs : List Loc} {Z : State} {a0 : Array Value} {h0 : Heap} {n0 : Nat} {P : Option Value → Heap → Prop} (x0 : Int32) (x1 : Int32) (o2 : Addr) (x3 : Int32) (x4 : Int32) (x5 : Int32) (X0 : Stand p l e room_1 s m args below meth c T0 locs 1 62) (hx : p.tables.exec = Jvm.exec) (hZ : Z.Warmed39 s.vm) (hw : ∀ d ∈ tables_1, d.before a0 Z = true) (hby : c.code = code) (hml : c.maxLocals = 6) (hown : s.vm.findClass "com/example/shape_trees/shapetrees/xpath/tree/XmlNamesIsNameStartCharPinLaw" = some m.cls) (hret : meth.sig.returnType = some .boolean) (hlk : meth.locks = false) (e0 : T0.heap = h0) (Z0 : n0 ≤ h0.size) (N0 : Fr n0 locs) (hP : P (some (.int (f0_452 x0 x1 x3 x4 x5))) h0) :
    own_Goes p e below s n0 room_1.cells room_1.slots P (T0.setTop (mkF m 452 #[.val (.int x0), .val (.int x1), .val (.ref o2), .val (.int x3), .val (.int x4), .val (.int x5)] [])) := by
  rw [f0_452] at hP
  refine own_Goes.pre (fun t kt => ?_) (own_retN X0 hx hlk hret (by simp) (hb hby at_457) N0 (by rw [e0]; exact hP) (by decide) (by decide) (Ls := #[.val (.int x0), .val (.int x1), .val (.ref o2), .val (.int x3), .val (.int x4), .val (.int x5)]) (rest := []) (z := (1 : Int32)))
  show Steps p.tables e below (T0.setTop (mkF m 452 #[.val (.int x0), .val (.int x1), .val (.ref o2), .val (.int x3), .val (.int x4), .val (.int x5)] [])) _
  refine XS.iconst X0.here hx rfl (hb hby at_452) ?_
  show Steps p.tables e below (T0.setTop (mkF m 453 #[.val (.int x0), .val (.int x1), .val (.ref o2), .val (.int x3), .val (.int x4), .val (.int x5)] [(.int (1 : Int32))])) _
  refine XS.goto X0.here hx rfl (pc0 := 453) (pc' := 457) rfl (hb hby at_453) (by decide) (by decide) ?_
  exact kt
def f0_439 (x0 : Int32) (x1 : Int32) (x3 : Int32) (x4 : Int32) (x5 : Int32) : Int32 := if (f1_0 x5) = (f2_0 x5) then (f0_452 x0 x1 x3 x4 x5) else (f0_456 x0 x1 x3 x4 x5)
set_option maxRecDepth 65536 in
set_option maxHeartbeats 40000000 in
theorem b0_439 {p : Program} {l : Launch} {e : Env} {s : State} {m : MethodId} {args : Array Value} {below : List Frame} {meth : Method} {c : Code} {T0 : State} {locs : List Loc} {Z : State} {a0 : Array Value} {h0 : Heap} {n0 : Nat} {P : Option Value → Heap → Prop} (x0 : Int32) (x1 : Int32) (o2 : Addr) (x3 : Int32) (x4 : Int32) (x5 : Int32) (X0 : Stand p l e room_1 s m args below meth c T0 locs 1 62) (hx : p.tables.exec = Jvm.exec) (hZ : Z.Warmed39 s.vm) (hw : ∀ d ∈ tables_1, d.before a0 Z = true) (hby : c.code = code) (hml : c.maxLocals = 6) (hown : s.vm.findClass "com/example/shape_trees/shapetrees/xpath/tree/XmlNamesIsNameStartCharPinLaw" = some m.cls) (hret : meth.sig.returnType = some .boolean) (hlk : meth.locks = false) (e0 : T0.heap = h0) (Z0 : n0 ≤ h0.size) (N0 : Fr n0 locs) (hP : P (some (.int (f0_439 x0 x1 x3 x4 x5))) h0) :
    own_Goes p e below s n0 room_1.cells room_1.slots P (T0.setTop (mkF m 439 #[.val (.int x0), .val (.int x1), .val (.ref o2), .val (.int x3), .val (.int x4), .val (.int x5)] [])) := by
  obtain ⟨_, _, ⟨T441, L441, k441, n441⟩, -, X441, ⟨Lc441, hQ441, l441, y441, z441⟩, st441⟩ := Jvm.LawKit.callS X0 hx (y := (⟨"com/example/shape_trees/shapetrees/xpath/tree/XmlNames", "isNameStartChar", "(I)Z"⟩ : MethodName)) hown (mvT hZ (hw _ (List.mem_of_getElem? (i := 17) rfl))) (mvT hZ (hw _ (List.mem_of_getElem? (i := 18) rfl))) (mvT hZ (hw _ (List.mem_of_getElem? (i := 19) rfl))) (mvT hZ (hw _ (List.mem_of_getElem? (i := 20) rfl))) (by decide) (backOf (W := 0) (rm1 l Z a0 hw [] x5 h0 n0 Z0) hZ (hw _ (List.mem_of_getElem? (i := 20) rfl)) (hw _ (List.mem_of_getElem? (i := 19) rfl)) (by decide) (by decide)) (g := (mkF m 441 #[.val (.int x0), .val (.int x1), .val (.ref o2), .val (.int x3), .val (.int x4), .val (.int x5)] [(.int x5)])) rfl (by rw [hml]; rfl) (argsL := [(.int x5)]) (rest := []) (lenOf pd1 rfl) rfl (by show 2 * 0 + _ ≤ _; exact Nat.le_of_eq rfl) (hb hby at_441) (fun _ _ => ⟨rfl, e0, (by decide : 1 + 0 ≤ _), (by decide : 62 + 0 ≤ _)⟩)
  dsimp only [Pt.U, Pt.locs, Pt.cells, Pt.slots] at X441 l441 y441 z441 st441 hQ441
  subst l441 y441 z441
  obtain ⟨⟨rfl, e441⟩, N441q⟩ := hQ441
  have N441 := Fr.app N0 N441q
  obtain ⟨_, _, ⟨T446, L446, k446, n446⟩, -, X446, ⟨Lc446, hQ446, l446, y446, z446⟩, st446⟩ := Jvm.LawKit.callS X441 hx (y := (⟨"com/example/shape_trees/shapetrees/xpath/tree/XmlNamesIsNameStartCharPinLaw", "ref", "(I)Z"⟩ : MethodName)) hown (mvT hZ (hw _ (List.mem_of_getElem? (i := 21) rfl))) (mvT hZ (hw _ (List.mem_of_getElem? (i := 22) rfl))) (mvT hZ (hw _ (List.mem_of_getElem? (i := 23) rfl))) (mvT hZ (hw _ (List.mem_of_getElem? (i := 24) rfl))) (by decide) (backOf (W := 1) (rm2 l Z a0 hw [] x5 h0 n0 Z0) hZ (hw _ (List.mem_of_getElem? (i := 24) rfl)) (hw _ (List.mem_of_getElem? (i := 23) rfl)) (by decide) (by decide)) (g := (mkF m 446 #[.val (.int x0), .val (.int x1), .val (.ref o2), .val (.int x3), .val (.int x4), .val (.int x5)] [(.int x5), (.int (f1_0 x5))])) rfl (by rw [hml]; rfl) (argsL := [(.int x5)]) (rest := [(.int (f1_0 x5))]) (lenOf pd1 rfl) rfl (by show 2 * 0 + _ ≤ _; exact Nat.le_of_eq rfl) (hb hby at_446) (fun _ _ => ⟨rfl, e441, (by decide : 1 + 0 ≤ _), (by decide : 62 + 0 ≤ _)⟩)
  dsimp only [Pt.U, Pt.locs, Pt.cells, Pt.slots] at X446 l446 y446 z446 st446 hQ446
  subst l446 y446 z446
  obtain ⟨⟨rfl, e446⟩, N446q⟩ := hQ446
  have N446 := Fr.app N441 N446q
  have pre1 : ∀ t, Steps p.tables e below (T446.setTop (mkF m 449 #[.val (.int x0), .val (.int x1), .val (.ref o2), .val (.int x3), .val (.int x4), .val (.int x5)] [(.int (f2_0 x5)), (.int (f1_0 x5))])) t → Steps p.tables e below (T0.setTop (mkF m 439 #[.val (.int x0), .val (.int x1), .val (.ref o2), .val (.int x3), .val (.int x4), .val (.int x5)] [])) t := fun t kt => by
    show Steps p.tables e below (T0.setTop (mkF m 439 #[.val (.int x0), .val (.int x1), .val (.ref o2), .val (.int x3), .val (.int x4), .val (.int x5)] [])) _
    refine XS.iload X0.here hx rfl (hb hby at_439) rfl ?_
    show Steps p.tables e below (T0.setTop (mkF m 441 #[.val (.int x0), .val (.int x1), .val (.ref o2), .val (.int x3), .val (.int x4), .val (.int x5)] [(.int x5)])) _
    refine st441 _ ?_
    show Steps p.tables e below (T441.setTop (mkF m 444 #[.val (.int x0), .val (.int x1), .val (.ref o2), .val (.int x3), .val (.int x4), .val (.int x5)] [(.int (f1_0 x5))])) _
    refine XS.iload X441.here hx rfl (hb hby at_444) rfl ?_
    show Steps p.tables e below (T441.setTop (mkF m 446 #[.val (.int x0), .val (.int x1), .val (.ref o2), .val (.int x3), .val (.int x4), .val (.int x5)] [(.int x5), (.int (f1_0 x5))])) _
    refine st446 _ ?_
    exact kt
  refine own_Goes.pre pre1 ?_
  by_cases hc : (f1_0 x5) = (f2_0 x5)
  · rw [f0_439, if_pos hc] at hP
    refine own_Goes.pre (fun t kt => ?_) (b0_452 x0 x1 o2 x3 x4 x5 X446 hx hZ hw hby hml hown hret hlk e446 Z0 N446 hP)
    show Steps p.tables e below (T446.setTop (mkF m 449 #[.val (.int x0), .val (.int x1), .val (.ref o2), .val (.int x3), .val (.int x4), .val (.int x5)] [(.int (f2_0 x5)), (.int (f1_0 x5))])) _
    refine XS.icmpNo X446.here hx rfl (hb hby at_449) rfl (teq hc).2 ?_
    exact kt
  · rw [f0_439, if_neg hc] at hP
    refine own_Goes.pre (fun t kt => ?_) (b0_456 x0 x1 o2 x3 x4 x5 X446 hx hZ hw hby hml hown hret hlk e446 Z0 N446 hP)
    show Steps p.tables e below (T446.setTop (mkF m 449 #[.val (.int x0), .val (.int x1), .val (.ref o2), .val (.int x3), .val (.int x4), .val (.int x5)] [(.int (f2_0 x5)), (.int (f1_0 x5))])) _
    refine XS.icmpYes X446.here hx rfl (pc0 := 449) (pc' := 456) rfl (hb hby at_449) rfl (feq hc).2 (by decide) (by decide) ?_
    exact kt
def f0_423 (x0 : Int32) (x1 : Int32) (x3 : Int32) (x4 : Int32) (y0 : Int32) : Int32 := if (f1_0 x0) = (f2_0 x0) then (f0_439 x0 x1 x3 x4 (y0 + x4)) else (f0_456 x0 x1 x3 x4 (y0 + x4))
set_option maxRecDepth 65536 in
set_option maxHeartbeats 40000000 in
theorem b0_423 {p : Program} {l : Launch} {e : Env} {s : State} {m : MethodId} {args : Array Value} {below : List Frame} {meth : Method} {c : Code} {T0 : State} {locs : List Loc} {Z : State} {a0 : Array Value} {h0 : Heap} {n0 : Nat} {P : Option Value → Heap → Prop} (x0 : Int32) (x1 : Int32) (o2 : Addr) (x3 : Int32) (x4 : Int32) (y0 : Int32) (X0 : Stand p l e room_1 s m args below meth c T0 locs 1 62) (hx : p.tables.exec = Jvm.exec) (hZ : Z.Warmed39 s.vm) (hw : ∀ d ∈ tables_1, d.before a0 Z = true) (hby : c.code = code) (hml : c.maxLocals = 6) (hown : s.vm.findClass "com/example/shape_trees/shapetrees/xpath/tree/XmlNamesIsNameStartCharPinLaw" = some m.cls) (hret : meth.sig.returnType = some .boolean) (hlk : meth.locks = false) (e0 : T0.heap = h0) (Z0 : n0 ≤ h0.size) (N0 : Fr n0 locs) (hP : P (some (.int (f0_423 x0 x1 x3 x4 y0))) h0) :
    own_Goes p e below s n0 room_1.cells room_1.slots P (T0.setTop (mkF m 423 #[.val (.int x0), .val (.int x1), .val (.ref o2), .val (.int x3), .val (.int x4), .unset] [(.int y0)])) := by
  obtain ⟨_, _, ⟨T429, L429, k429, n429⟩, -, X429, ⟨Lc429, hQ429, l429, y429, z429⟩, st429⟩ := Jvm.LawKit.callS X0 hx (y := (⟨"com/example/shape_trees/shapetrees/xpath/tree/XmlNames", "isNameStartChar", "(I)Z"⟩ : MethodName)) hown (mvT hZ (hw _ (List.mem_of_getElem? (i := 17) rfl))) (mvT hZ (hw _ (List.mem_of_getElem? (i := 18) rfl))) (mvT hZ (hw _ (List.mem_of_getElem? (i := 19) rfl))) (mvT hZ (hw _ (List.mem_of_getElem? (i := 20) rfl))) (by decide) (backOf (W := 0) (rm1 l Z a0 hw [] x0 h0 n0 Z0) hZ (hw _ (List.mem_of_getElem? (i := 20) rfl)) (hw _ (List.mem_of_getElem? (i := 19) rfl)) (by decide) (by decide)) (g := (mkF m 429 #[.val (.int x0), .val (.int x1), .val (.ref o2), .val (.int x3), .val (.int x4), .val (.int (y0 + x4))] [(.int x0)])) rfl (by rw [hml]; rfl) (argsL := [(.int x0)]) (rest := []) (lenOf pd1 rfl) rfl (by show 2 * 0 + _ ≤ _; exact Nat.le_of_eq rfl) (hb hby at_429) (fun _ _ => ⟨rfl, e0, (by decide : 1 + 0 ≤ _), (by decide : 62 + 0 ≤ _)⟩)
  dsimp only [Pt.U, Pt.locs, Pt.cells, Pt.slots] at X429 l429 y429 z429 st429 hQ429
  subst l429 y429 z429
  obtain ⟨⟨rfl, e429⟩, N429q⟩ := hQ429
  have N429 := Fr.app N0 N429q
  obtain ⟨_, _, ⟨T433, L433, k433, n433⟩, -, X433, ⟨Lc433, hQ433, l433, y433, z433⟩, st433⟩ := Jvm.LawKit.callS X429 hx (y := (⟨"com/example/shape_trees/shapetrees/xpath/tree/XmlNamesIsNameStartCharPinLaw", "ref", "(I)Z"⟩ : MethodName)) hown (mvT hZ (hw _ (List.mem_of_getElem? (i := 21) rfl))) (mvT hZ (hw _ (List.mem_of_getElem? (i := 22) rfl))) (mvT hZ (hw _ (List.mem_of_getElem? (i := 23) rfl))) (mvT hZ (hw _ (List.mem_of_getElem? (i := 24) rfl))) (by decide) (backOf (W := 1) (rm2 l Z a0 hw [] x0 h0 n0 Z0) hZ (hw _ (List.mem_of_getElem? (i := 24) rfl)) (hw _ (List.mem_of_getElem? (i := 23) rfl)) (by decide) (by decide)) (g := (mkF m 433 #[.val (.int x0), .val (.int x1), .val (.ref o2), .val (.int x3), .val (.int x4), .val (.int (y0 + x4))] [(.int x0), (.int (f1_0 x0))])) rfl (by rw [hml]; rfl) (argsL := [(.int x0)]) (rest := [(.int (f1_0 x0))]) (lenOf pd1 rfl) rfl (by show 2 * 0 + _ ≤ _; exact Nat.le_of_eq rfl) (hb hby at_433) (fun _ _ => ⟨rfl, e429, (by decide : 1 + 0 ≤ _), (by decide : 62 + 0 ≤ _)⟩)
  dsimp only [Pt.U, Pt.locs, Pt.cells, Pt.slots] at X433 l433 y433 z433 st433 hQ433
  subst l433 y433 z433
  obtain ⟨⟨rfl, e433⟩, N433q⟩ := hQ433
  have N433 := Fr.app N429 N433q
  have pre1 : ∀ t, Steps p.tables e below (T433.setTop (mkF m 436 #[.val (.int x0), .val (.int x1), .val (.ref o2), .val (.int x3), .val (.int x4), .val (.int (y0 + x4))] [(.int (f2_0 x0)), (.int (f1_0 x0))])) t → Steps p.tables e below (T0.setTop (mkF m 423 #[.val (.int x0), .val (.int x1), .val (.ref o2), .val (.int x3), .val (.int x4), .unset] [(.int y0)])) t := fun t kt => by
    show Steps p.tables e below (T0.setTop (mkF m 423 #[.val (.int x0), .val (.int x1), .val (.ref o2), .val (.int x3), .val (.int x4), .unset] [(.int y0)])) _
    refine XS.iload X0.here hx rfl (hb hby at_423) rfl ?_
    show Steps p.tables e below (T0.setTop (mkF m 425 #[.val (.int x0), .val (.int x1), .val (.ref o2), .val (.int x3), .val (.int x4), .unset] [(.int x4), (.int y0)])) _
    refine XS.iadd X0.here hx rfl (hb hby at_425) rfl ?_
    show Steps p.tables e below (T0.setTop (mkF m 426 #[.val (.int x0), .val (.int x1), .val (.ref o2), .val (.int x3), .val (.int x4), .unset] [(.int (y0 + x4))])) _
    refine XS.istore X0.here hx rfl (hb hby at_426) rfl (l' := #[.val (.int x0), .val (.int x1), .val (.ref o2), .val (.int x3), .val (.int x4), .val (.int (y0 + x4))]) rfl ?_
    show Steps p.tables e below (T0.setTop (mkF m 428 #[.val (.int x0), .val (.int x1), .val (.ref o2), .val (.int x3), .val (.int x4), .val (.int (y0 + x4))] [])) _
    refine XS.iloadN X0.here hx rfl (hb hby at_428) rfl ?_
    show Steps p.tables e below (T0.setTop (mkF m 429 #[.val (.int x0), .val (.int x1), .val (.ref o2), .val (.int x3), .val (.int x4), .val (.int (y0 + x4))] [(.int x0)])) _
    refine st429 _ ?_
    show Steps p.tables e below (T429.setTop (mkF m 432 #[.val (.int x0), .val (.int x1), .val (.ref o2), .val (.int x3), .val (.int x4), .val (.int (y0 + x4))] [(.int (f1_0 x0))])) _
    refine XS.iloadN X429.here hx rfl (hb hby at_432) rfl ?_
    show Steps p.tables e below (T429.setTop (mkF m 433 #[.val (.int x0), .val (.int x1), .val (.ref o2), .val (.int x3), .val (.int x4), .val (.int (y0 + x4))] [(.int x0), (.int (f1_0 x0))])) _
    refine st433 _ ?_
    exact kt
  refine own_Goes.pre pre1 ?_
  by_cases hc : (f1_0 x0) = (f2_0 x0)
  · rw [f0_423, if_pos hc] at hP
    refine own_Goes.pre (fun t kt => ?_) (b0_439 x0 x1 o2 x3 x4 (y0 + x4) X433 hx hZ hw hby hml hown hret hlk e433 Z0 N433 hP)
    show Steps p.tables e below (T433.setTop (mkF m 436 #[.val (.int x0), .val (.int x1), .val (.ref o2), .val (.int x3), .val (.int x4), .val (.int (y0 + x4))] [(.int (f2_0 x0)), (.int (f1_0 x0))])) _
    refine XS.icmpNo X433.here hx rfl (hb hby at_436) rfl (teq hc).2 ?_
    exact kt
  · rw [f0_423, if_neg hc] at hP
    refine own_Goes.pre (fun t kt => ?_) (b0_456 x0 x1 o2 x3 x4 (y0 + x4) X433 hx hZ hw hby hml hown hret hlk e433 Z0 N433 hP)
    show Steps p.tables e below (T433.setTop (mkF m 436 #[.val (.int x0), .val (.int x1), .val (.ref o2), .val (.int x3), .val (.int x4), .val (.int (y0 + x4))] [(.int (f2_0 x0)), (.int (f1_0 x0))])) _
    refine XS.icmpYes X433.here hx rfl (pc0 := 436) (pc' := 456) rfl (hb hby at_436) rfl (feq hc).2 (by decide) (by decide) ?_
    exact kt
theorem own_A {c K U : Int32} (h : c < U) (k : U ≤ K) : c < K := Int32.lt_of_lt_of_le h k
theorem own_B {c K L : Int32} (h : ¬ c < L) (k : K ≤ L) : ¬ c < K := fun q => h (Int32.lt_of_lt_of_le q k)
theorem own_C {c K L : Int32} (h : ¬ c < L) (k : K < L) : K < c := Int32.lt_of_lt_of_le k (Int32.not_lt.mp h)
theorem own_D {c K U : Int32} (h : c < U) (k : U.toInt ≤ K.toInt + 1) : ¬ K < c := by rw [Int32.lt_iff_toInt_lt] at *; omega
theorem own_E {c K U : Int32} (h1 : ¬ c < K) (h2 : c < U) (k : U.toInt = K.toInt + 1) : c = K := by rw [Int32.lt_iff_toInt_lt] at *; apply Int32.toInt_inj.mp; omega
theorem own_F {c K U : Int32} (h : c < U) (k : U ≤ K) : ¬ c = K := fun q => by subst q; exact absurd h (Int32.not_lt.mpr k)
theorem own_G {c K L : Int32} (h : ¬ c < L) (k : K < L) : ¬ c = K := fun q => by subst q; exact h k
theorem own_10 : ¬ (1 : Int32) = 0 := by decide
theorem own_i0 (c : Int32) (hu : c < (0 : Int32)) : f1_0 c = f2_0 c := by
  have a0 : ¬ c = (95 : Int32) := own_F hu (by decide)
  have a1 : ¬ c = (96 : Int32) := own_F hu (by decide)
  have a2 : ¬ c = (215 : Int32) := own_F hu (by decide)
  have a3 : ¬ c = (247 : Int32) := own_F hu (by decide)
  have a4 : ¬ c = (894 : Int32) := own_F hu (by decide)
  have a5 : ¬ (64 : Int32) < c := own_D hu (by decide)
  have a6 : ¬ (90 : Int32) < c := own_D hu (by decide)
  have a7 : ¬ (94 : Int32) < c := own_D hu (by decide)
  have a8 : ¬ (122 : Int32) < c := own_D hu (by decide)
  have a9 : ¬ (191 : Int32) < c := own_D hu (by decide)
  have a10 : ¬ (214 : Int32) < c := own_D hu (by decide)
  have a11 : ¬ (246 : Int32) < c := own_D hu (by decide)
  have a12 : ¬ (767 : Int32) < c := own_D hu (by decide)
  have a13 : ¬ (879 : Int32) < c := own_D hu (by decide)
  have a14 : ¬ (893 : Int32) < c := own_D hu (by decide)
  have a15 : ¬ (8191 : Int32) < c := own_D hu (by decide)
  have a16 : ¬ (8203 : Int32) < c := own_D hu (by decide)
  have a17 : ¬ (8205 : Int32) < c := own_D hu (by decide)
  have a18 : ¬ (8303 : Int32) < c := own_D hu (by decide)
  have a19 : ¬ (8591 : Int32) < c := own_D hu (by decide)
  have a20 : ¬ (11263 : Int32) < c := own_D hu (by decide)
  have a21 : ¬ (12271 : Int32) < c := own_D hu (by decide)
  have a22 : ¬ (12288 : Int32) < c := own_D hu (by decide)
  have a23 : ¬ (55295 : Int32) < c := own_D hu (by decide)
  have a24 : ¬ (63743 : Int32) < c := own_D hu (by decide)
  have a25 : ¬ (64975 : Int32) < c := own_D hu (by decide)
  have a26 : ¬ (65007 : Int32) < c := own_D hu (by decide)
  have a27 : ¬ (65533 : Int32) < c := own_D hu (by decide)
  have a28 : ¬ (65535 : Int32) < c := own_D hu (by decide)
  have a29 : ¬ (983039 : Int32) < c := own_D hu (by decide)
  have a30 : c < (0 : Int32) := own_A hu (by decide)
  have a31 : c < (65 : Int32) := own_A hu (by decide)
  have a32 : c < (91 : Int32) := own_A hu (by decide)
  have a33 : c < (97 : Int32) := own_A hu (by decide)
  have a34 : c < (123 : Int32) := own_A hu (by decide)
  have a35 : c < (128 : Int32) := own_A hu (by decide)
  have a36 : c < (192 : Int32) := own_A hu (by decide)
  have a37 : c < (216 : Int32) := own_A hu (by decide)
  have a38 : c < (248 : Int32) := own_A hu (by decide)
  have a39 : c < (768 : Int32) := own_A hu (by decide)
  have a40 : c < (880 : Int32) := own_A hu (by decide)
  have a41 : c < (895 : Int32) := own_A hu (by decide)
  have a42 : c < (8192 : Int32) := own_A hu (by decide)
  have a43 : c < (8204 : Int32) := own_A hu (by decide)
  have a44 : c < (8206 : Int32) := own_A hu (by decide)
  have a45 : c < (8304 : Int32) := own_A hu (by decide)
  have a46 : c < (8592 : Int32) := own_A hu (by decide)
  have a47 : c < (11264 : Int32) := own_A hu (by decide)
  have a48 : c < (12272 : Int32) := own_A hu (by decide)
  have a49 : c < (12289 : Int32) := own_A hu (by decide)
  have a50 : c < (55296 : Int32) := own_A hu (by decide)
  have a51 : c < (63744 : Int32) := own_A hu (by decide)
  have a52 : c < (64976 : Int32) := own_A hu (by decide)
  have a53 : c < (65008 : Int32) := own_A hu (by decide)
  have a54 : c < (65534 : Int32) := own_A hu (by decide)
  have a55 : c < (65536 : Int32) := own_A hu (by decide)
  simp only [f1_208, f1_204, f1_198, f1_192, f1_186, f1_180, f1_174, f1_168, f1_162, f1_155, f1_148, f1_141, f1_134, f1_127, f1_120, f1_113, f1_106, f1_99, f1_92, f1_85, f1_78, f1_71, f1_64, f1_57, f1_50, f1_43, f1_41, f1_37, f1_31, f1_25, f1_19, f1_13, f1_7, f1_0, f3_14, f3_10, f3_5, f3_0, f2_10, f2_184, f2_180, f2_175, f2_170, f2_174, f2_159, f2_148, f2_137, f2_124, f2_111, f2_98, f2_85, f2_78, f2_65, f2_58, f2_51, f2_39, f2_33, f2_22, f2_12, f2_4, f2_0, a0, a1, a2, a3, a4, a5, a6, a7, a8, a9, a10, a11, a12, a13, a14, a15, a16, a17, a18, a19, a20, a21, a22, a23, a24, a25, a26, a27, a28, a29, a30, a31, a32, a33, a34, a35, a36, a37, a38, a39, a40, a41, a42, a43, a44, a45, a46, a47, a48, a49, a50, a51, a52, a53, a54, a55, own_10, ↓reduceIte]
theorem own_i1 (c : Int32) (hl : ¬ c < (0 : Int32)) (hu : c < (65 : Int32)) : f1_0 c = f2_0 c := by
  have a0 : ¬ c = (95 : Int32) := own_F hu (by decide)
  have a1 : ¬ c = (96 : Int32) := own_F hu (by decide)
  have a2 : ¬ c = (215 : Int32) := own_F hu (by decide)
  have a3 : ¬ c = (247 : Int32) := own_F hu (by decide)
  have a4 : ¬ c = (894 : Int32) := own_F hu (by decide)
  have a5 : ¬ (64 : Int32) < c := own_D hu (by decide)
  have a6 : ¬ (90 : Int32) < c := own_D hu (by decide)
  have a7 : ¬ (94 : Int32) < c := own_D hu (by decide)
  have a8 : ¬ (122 : Int32) < c := own_D hu (by decide)
  have a9 : ¬ (191 : Int32) < c := own_D hu (by decide)
  have a10 : ¬ (214 : Int32) < c := own_D hu (by decide)
  have a11 : ¬ (246 : Int32) < c := own_D hu (by decide)
  have a12 : ¬ (767 : Int32) < c := own_D hu (by decide)
  have a13 : ¬ (879 : Int32) < c := own_D hu (by decide)
  have a14 : ¬ (893 : Int32) < c := own_D hu (by decide)
  have a15 : ¬ (8191 : Int32) < c := own_D hu (by decide)
  have a16 : ¬ (8203 : Int32) < c := own_D hu (by decide)
  have a17 : ¬ (8205 : Int32) < c := own_D hu (by decide)
  have a18 : ¬ (8303 : Int32) < c := own_D hu (by decide)
  have a19 : ¬ (8591 : Int32) < c := own_D hu (by decide)
  have a20 : ¬ (11263 : Int32) < c := own_D hu (by decide)
  have a21 : ¬ (12271 : Int32) < c := own_D hu (by decide)
  have a22 : ¬ (12288 : Int32) < c := own_D hu (by decide)
  have a23 : ¬ (55295 : Int32) < c := own_D hu (by decide)
  have a24 : ¬ (63743 : Int32) < c := own_D hu (by decide)
  have a25 : ¬ (64975 : Int32) < c := own_D hu (by decide)
  have a26 : ¬ (65007 : Int32) < c := own_D hu (by decide)
  have a27 : ¬ (65533 : Int32) < c := own_D hu (by decide)
  have a28 : ¬ (65535 : Int32) < c := own_D hu (by decide)
  have a29 : ¬ (983039 : Int32) < c := own_D hu (by decide)
  have a30 : ¬ c < (0 : Int32) := own_B hl (by decide)
  have a31 : c < (65 : Int32) := own_A hu (by decide)
  have a32 : c < (91 : Int32) := own_A hu (by decide)
  have a33 : c < (97 : Int32) := own_A hu (by decide)
  have a34 : c < (123 : Int32) := own_A hu (by decide)
  have a35 : c < (128 : Int32) := own_A hu (by decide)
  have a36 : c < (192 : Int32) := own_A hu (by decide)
  have a37 : c < (216 : Int32) := own_A hu (by decide)
  have a38 : c < (248 : Int32) := own_A hu (by decide)
  have a39 : c < (768 : Int32) := own_A hu (by decide)
  have a40 : c < (880 : Int32) := own_A hu (by decide)
  have a41 : c < (895 : Int32) := own_A hu (by decide)
  have a42 : c < (8192 : Int32) := own_A hu (by decide)
  have a43 : c < (8204 : Int32) := own_A hu (by decide)
  have a44 : c < (8206 : Int32) := own_A hu (by decide)
  have a45 : c < (8304 : Int32) := own_A hu (by decide)
  have a46 : c < (8592 : Int32) := own_A hu (by decide)
  have a47 : c < (11264 : Int32) := own_A hu (by decide)
  have a48 : c < (12272 : Int32) := own_A hu (by decide)
  have a49 : c < (12289 : Int32) := own_A hu (by decide)
  have a50 : c < (55296 : Int32) := own_A hu (by decide)
  have a51 : c < (63744 : Int32) := own_A hu (by decide)
  have a52 : c < (64976 : Int32) := own_A hu (by decide)
  have a53 : c < (65008 : Int32) := own_A hu (by decide)
  have a54 : c < (65534 : Int32) := own_A hu (by decide)
  have a55 : c < (65536 : Int32) := own_A hu (by decide)
  simp only [f1_208, f1_204, f1_198, f1_192, f1_186, f1_180, f1_174, f1_168, f1_162, f1_155, f1_148, f1_141, f1_134, f1_127, f1_120, f1_113, f1_106, f1_99, f1_92, f1_85, f1_78, f1_71, f1_64, f1_57, f1_50, f1_43, f1_41, f1_37, f1_31, f1_25, f1_19, f1_13, f1_7, f1_0, f3_14, f3_10, f3_5, f3_0, f2_10, f2_184, f2_180, f2_175, f2_170, f2_174, f2_159, f2_148, f2_137, f2_124, f2_111, f2_98, f2_85, f2_78, f2_65, f2_58, f2_51, f2_39, f2_33, f2_22, f2_12, f2_4, f2_0, a0, a1, a2, a3, a4, a5, a6, a7, a8, a9, a10, a11, a12, a13, a14, a15, a16, a17, a18, a19, a20, a21, a22, a23, a24, a25, a26, a27, a28, a29, a30, a31, a32, a33, a34, a35, a36, a37, a38, a39, a40, a41, a42, a43, a44, a45, a46, a47, a48, a49, a50, a51, a52, a53, a54, a55, own_10, ↓reduceIte]
theorem own_i2 (c : Int32) (hl : ¬ c < (65 : Int32)) (hu : c < (91 : Int32)) : f1_0 c = f2_0 c := by
  have a0 : ¬ c = (95 : Int32) := own_F hu (by decide)
  have a1 : ¬ c = (96 : Int32) := own_F hu (by decide)
  have a2 : ¬ c = (215 : Int32) := own_F hu (by decide)
  have a3 : ¬ c = (247 : Int32) := own_F hu (by decide)
  have a4 : ¬ c = (894 : Int32) := own_F hu (by decide)
  have a5 : (64 : Int32) < c := own_C hl (by decide)
  have a6 : ¬ (90 : Int32) < c := own_D hu (by decide)
  have a7 : ¬ (94 : Int32) < c := own_D hu (by decide)
  have a8 : ¬ (122 : Int32) < c := own_D hu (by decide)
  have a9 : ¬ (191 : Int32) < c := own_D hu (by decide)
  have a10 : ¬ (214 : Int32) < c := own_D hu (by decide)
  have a11 : ¬ (246 : Int32) < c := own_D hu (by decide)
  have a12 : ¬ (767 : Int32) < c := own_D hu (by decide)
  have a13 : ¬ (879 : Int32) < c := own_D hu (by decide)
  have a14 : ¬ (893 : Int32) < c := own_D hu (by decide)
  have a15 : ¬ (8191 : Int32) < c := own_D hu (by decide)
  have a16 : ¬ (8203 : Int32) < c := own_D hu (by decide)
  have a17 : ¬ (8205 : Int32) < c := own_D hu (by decide)
  have a18 : ¬ (8303 : Int32) < c := own_D hu (by decide)
  have a19 : ¬ (8591 : Int32) < c := own_D hu (by decide)
  have a20 : ¬ (11263 : Int32) < c := own_D hu (by decide)
  have a21 : ¬ (12271 : Int32) < c := own_D hu (by decide)
  have a22 : ¬ (12288 : Int32) < c := own_D hu (by decide)
  have a23 : ¬ (55295 : Int32) < c := own_D hu (by decide)
  have a24 : ¬ (63743 : Int32) < c := own_D hu (by decide)
  have a25 : ¬ (64975 : Int32) < c := own_D hu (by decide)
  have a26 : ¬ (65007 : Int32) < c := own_D hu (by decide)
  have a27 : ¬ (65533 : Int32) < c := own_D hu (by decide)
  have a28 : ¬ (65535 : Int32) < c := own_D hu (by decide)
  have a29 : ¬ (983039 : Int32) < c := own_D hu (by decide)
  have a30 : ¬ c < (0 : Int32) := own_B hl (by decide)
  have a31 : ¬ c < (65 : Int32) := own_B hl (by decide)
  have a32 : c < (91 : Int32) := own_A hu (by decide)
  have a33 : c < (97 : Int32) := own_A hu (by decide)
  have a34 : c < (123 : Int32) := own_A hu (by decide)
  have a35 : c < (128 : Int32) := own_A hu (by decide)
  have a36 : c < (192 : Int32) := own_A hu (by decide)
  have a37 : c < (216 : Int32) := own_A hu (by decide)
  have a38 : c < (248 : Int32) := own_A hu (by decide)
  have a39 : c < (768 : Int32) := own_A hu (by decide)
  have a40 : c < (880 : Int32) := own_A hu (by decide)
  have a41 : c < (895 : Int32) := own_A hu (by decide)
  have a42 : c < (8192 : Int32) := own_A hu (by decide)
  have a43 : c < (8204 : Int32) := own_A hu (by decide)
  have a44 : c < (8206 : Int32) := own_A hu (by decide)
  have a45 : c < (8304 : Int32) := own_A hu (by decide)
  have a46 : c < (8592 : Int32) := own_A hu (by decide)
  have a47 : c < (11264 : Int32) := own_A hu (by decide)
  have a48 : c < (12272 : Int32) := own_A hu (by decide)
  have a49 : c < (12289 : Int32) := own_A hu (by decide)
  have a50 : c < (55296 : Int32) := own_A hu (by decide)
  have a51 : c < (63744 : Int32) := own_A hu (by decide)
  have a52 : c < (64976 : Int32) := own_A hu (by decide)
  have a53 : c < (65008 : Int32) := own_A hu (by decide)
  have a54 : c < (65534 : Int32) := own_A hu (by decide)
  have a55 : c < (65536 : Int32) := own_A hu (by decide)
  simp only [f1_208, f1_204, f1_198, f1_192, f1_186, f1_180, f1_174, f1_168, f1_162, f1_155, f1_148, f1_141, f1_134, f1_127, f1_120, f1_113, f1_106, f1_99, f1_92, f1_85, f1_78, f1_71, f1_64, f1_57, f1_50, f1_43, f1_41, f1_37, f1_31, f1_25, f1_19, f1_13, f1_7, f1_0, f3_14, f3_10, f3_5, f3_0, f2_10, f2_184, f2_180, f2_175, f2_170, f2_174, f2_159, f2_148, f2_137, f2_124, f2_111, f2_98, f2_85, f2_78, f2_65, f2_58, f2_51, f2_39, f2_33, f2_22, f2_12, f2_4, f2_0, a0, a1, a2, a3, a4, a5, a6, a7, a8, a9, a10, a11, a12, a13, a14, a15, a16, a17, a18, a19, a20, a21, a22, a23, a24, a25, a26, a27, a28, a29, a30, a31, a32, a33, a34, a35, a36, a37, a38, a39, a40, a41, a42, a43, a44, a45, a46, a47, a48, a49, a50, a51, a52, a53, a54, a55, own_10, ↓reduceIte]
theorem own_i3 (c : Int32) (hl : ¬ c < (91 : Int32)) (hu : c < (95 : Int32)) : f1_0 c = f2_0 c := by
  have a0 : ¬ c = (95 : Int32) := own_F hu (by decide)
  have a1 : ¬ c = (96 : Int32) := own_F hu (by decide)
  have a2 : ¬ c = (215 : Int32) := own_F hu (by decide)
  have a3 : ¬ c = (247 : Int32) := own_F hu (by decide)
  have a4 : ¬ c = (894 : Int32) := own_F hu (by decide)
  have a5 : (64 : Int32) < c := own_C hl (by decide)
  have a6 : (90 : Int32) < c := own_C hl (by decide)
  have a7 : ¬ (94 : Int32) < c := own_D hu (by decide)
  have a8 : ¬ (122 : Int32) < c := own_D hu (by decide)
  have a9 : ¬ (191 : Int32) < c := own_D hu (by decide)
  have a10 : ¬ (214 : Int32) < c := own_D hu (by decide)
  have a11 : ¬ (246 : Int32) < c := own_D hu (by decide)
  have a12 : ¬ (767 : Int32) < c := own_D hu (by decide)
  have a13 : ¬ (879 : Int32) < c := own_D hu (by decide)
  have a14 : ¬ (893 : Int32) < c := own_D hu (by decide)
  have a15 : ¬ (8191 : Int32) < c := own_D hu (by decide)
  have a16 : ¬ (8203 : Int32) < c := own_D hu (by decide)
  have a17 : ¬ (8205 : Int32) < c := own_D hu (by decide)
  have a18 : ¬ (8303 : Int32) < c := own_D hu (by decide)
  have a19 : ¬ (8591 : Int32) < c := own_D hu (by decide)
  have a20 : ¬ (11263 : Int32) < c := own_D hu (by decide)
  have a21 : ¬ (12271 : Int32) < c := own_D hu (by decide)
  have a22 : ¬ (12288 : Int32) < c := own_D hu (by decide)
  have a23 : ¬ (55295 : Int32) < c := own_D hu (by decide)
  have a24 : ¬ (63743 : Int32) < c := own_D hu (by decide)
  have a25 : ¬ (64975 : Int32) < c := own_D hu (by decide)
  have a26 : ¬ (65007 : Int32) < c := own_D hu (by decide)
  have a27 : ¬ (65533 : Int32) < c := own_D hu (by decide)
  have a28 : ¬ (65535 : Int32) < c := own_D hu (by decide)
  have a29 : ¬ (983039 : Int32) < c := own_D hu (by decide)
  have a30 : ¬ c < (0 : Int32) := own_B hl (by decide)
  have a31 : ¬ c < (65 : Int32) := own_B hl (by decide)
  have a32 : ¬ c < (91 : Int32) := own_B hl (by decide)
  have a33 : c < (97 : Int32) := own_A hu (by decide)
  have a34 : c < (123 : Int32) := own_A hu (by decide)
  have a35 : c < (128 : Int32) := own_A hu (by decide)
  have a36 : c < (192 : Int32) := own_A hu (by decide)
  have a37 : c < (216 : Int32) := own_A hu (by decide)
  have a38 : c < (248 : Int32) := own_A hu (by decide)
  have a39 : c < (768 : Int32) := own_A hu (by decide)
  have a40 : c < (880 : Int32) := own_A hu (by decide)
  have a41 : c < (895 : Int32) := own_A hu (by decide)
  have a42 : c < (8192 : Int32) := own_A hu (by decide)
  have a43 : c < (8204 : Int32) := own_A hu (by decide)
  have a44 : c < (8206 : Int32) := own_A hu (by decide)
  have a45 : c < (8304 : Int32) := own_A hu (by decide)
  have a46 : c < (8592 : Int32) := own_A hu (by decide)
  have a47 : c < (11264 : Int32) := own_A hu (by decide)
  have a48 : c < (12272 : Int32) := own_A hu (by decide)
  have a49 : c < (12289 : Int32) := own_A hu (by decide)
  have a50 : c < (55296 : Int32) := own_A hu (by decide)
  have a51 : c < (63744 : Int32) := own_A hu (by decide)
  have a52 : c < (64976 : Int32) := own_A hu (by decide)
  have a53 : c < (65008 : Int32) := own_A hu (by decide)
  have a54 : c < (65534 : Int32) := own_A hu (by decide)
  have a55 : c < (65536 : Int32) := own_A hu (by decide)
  simp only [f1_208, f1_204, f1_198, f1_192, f1_186, f1_180, f1_174, f1_168, f1_162, f1_155, f1_148, f1_141, f1_134, f1_127, f1_120, f1_113, f1_106, f1_99, f1_92, f1_85, f1_78, f1_71, f1_64, f1_57, f1_50, f1_43, f1_41, f1_37, f1_31, f1_25, f1_19, f1_13, f1_7, f1_0, f3_14, f3_10, f3_5, f3_0, f2_10, f2_184, f2_180, f2_175, f2_170, f2_174, f2_159, f2_148, f2_137, f2_124, f2_111, f2_98, f2_85, f2_78, f2_65, f2_58, f2_51, f2_39, f2_33, f2_22, f2_12, f2_4, f2_0, a0, a1, a2, a3, a4, a5, a6, a7, a8, a9, a10, a11, a12, a13, a14, a15, a16, a17, a18, a19, a20, a21, a22, a23, a24, a25, a26, a27, a28, a29, a30, a31, a32, a33, a34, a35, a36, a37, a38, a39, a40, a41, a42, a43, a44, a45, a46, a47, a48, a49, a50, a51, a52, a53, a54, a55, own_10, ↓reduceIte]
theorem own_i4 (c : Int32) (hl : ¬ c < (95 : Int32)) (hu : c < (96 : Int32)) : f1_0 c = f2_0 c := by
  obtain rfl : c = (95 : Int32) := own_E hl hu (by decide)
  decide +kernel
theorem own_i5 (c : Int32) (hl : ¬ c < (96 : Int32)) (hu : c < (97 : Int32)) : f1_0 c = f2_0 c := by
  obtain rfl : c = (96 : Int32) := own_E hl hu (by decide)
  decide +kernel
theorem own_i6 (c : Int32) (hl : ¬ c < (97 : Int32)) (hu : c < (123 : Int32)) : f1_0 c = f2_0 c := by
  have a0 : ¬ c = (95 : Int32) := own_G hl (by decide)
  have a1 : ¬ c = (96 : Int32) := own_G hl (by decide)
  have a2 : ¬ c = (215 : Int32) := own_F hu (by decide)
  have a3 : ¬ c = (247 : Int32) := own_F hu (by decide)
  have a4 : ¬ c = (894 : Int32) := own_F hu (by decide)
  have a5 : (64 : Int32) < c := own_C hl (by decide)
  have a6 : (90 : Int32) < c := own_C hl (by decide)
  have a7 : (94 : Int32) < c := own_C hl (by decide)
  have a8 : ¬ (122 : Int32) < c := own_D hu (by decide)
  have a9 : ¬ (191 : Int32) < c := own_D hu (by decide)
  have a10 : ¬ (214 : Int32) < c := own_D hu (by decide)
  have a11 : ¬ (246 : Int32) < c := own_D hu (by decide)
  have a12 : ¬ (767 : Int32) < c := own_D hu (by decide)
  have a13 : ¬ (879 : Int32) < c := own_D hu (by decide)
  have a14 : ¬ (893 : Int32) < c := own_D hu (by decide)
  have a15 : ¬ (8191 : Int32) < c := own_D hu (by decide)
  have a16 : ¬ (8203 : Int32) < c := own_D hu (by decide)
  have a17 : ¬ (8205 : Int32) < c := own_D hu (by decide)
  have a18 : ¬ (8303 : Int32) < c := own_D hu (by decide)
  have a19 : ¬ (8591 : Int32) < c := own_D hu (by decide)
  have a20 : ¬ (11263 : Int32) < c := own_D hu (by decide)
  have a21 : ¬ (12271 : Int32) < c := own_D hu (by decide)
  have a22 : ¬ (12288 : Int32) < c := own_D hu (by decide)
  have a23 : ¬ (55295 : Int32) < c := own_D hu (by decide)
  have a24 : ¬ (63743 : Int32) < c := own_D hu (by decide)
  have a25 : ¬ (64975 : Int32) < c := own_D hu (by decide)
  have a26 : ¬ (65007 : Int32) < c := own_D hu (by decide)
  have a27 : ¬ (65533 : Int32) < c := own_D hu (by decide)
  have a28 : ¬ (65535 : Int32) < c := own_D hu (by decide)
  have a29 : ¬ (983039 : Int32) < c := own_D hu (by decide)
  have a30 : ¬ c < (0 : Int32) := own_B hl (by decide)
  have a31 : ¬ c < (65 : Int32) := own_B hl (by decide)
  have a32 : ¬ c < (91 : Int32) := own_B hl (by decide)
  have a33 : ¬ c < (97 : Int32) := own_B hl (by decide)
  have a34 : c < (123 : Int32) := own_A hu (by decide)
  have a35 : c < (128 : Int32) := own_A hu (by decide)
  have a36 : c < (192 : Int32) := own_A hu (by decide)
  have a37 : c < (216 : Int32) := own_A hu (by decide)
  have a38 : c < (248 : Int32) := own_A hu (by decide)
  have a39 : c < (768 : Int32) := own_A hu (by decide)
  have a40 : c < (880 : Int32) := own_A hu (by decide)
  have a41 : c < (895 : Int32) := own_A hu (by decide)
  have a42 : c < (8192 : Int32) := own_A hu (by decide)
  have a43 : c < (8204 : Int32) := own_A hu (by decide)
  have a44 : c < (8206 : Int32) := own_A hu (by decide)
  have a45 : c < (8304 : Int32) := own_A hu (by decide)
  have a46 : c < (8592 : Int32) := own_A hu (by decide)
  have a47 : c < (11264 : Int32) := own_A hu (by decide)
  have a48 : c < (12272 : Int32) := own_A hu (by decide)
  have a49 : c < (12289 : Int32) := own_A hu (by decide)
  have a50 : c < (55296 : Int32) := own_A hu (by decide)
  have a51 : c < (63744 : Int32) := own_A hu (by decide)
  have a52 : c < (64976 : Int32) := own_A hu (by decide)
  have a53 : c < (65008 : Int32) := own_A hu (by decide)
  have a54 : c < (65534 : Int32) := own_A hu (by decide)
  have a55 : c < (65536 : Int32) := own_A hu (by decide)
  simp only [f1_208, f1_204, f1_198, f1_192, f1_186, f1_180, f1_174, f1_168, f1_162, f1_155, f1_148, f1_141, f1_134, f1_127, f1_120, f1_113, f1_106, f1_99, f1_92, f1_85, f1_78, f1_71, f1_64, f1_57, f1_50, f1_43, f1_41, f1_37, f1_31, f1_25, f1_19, f1_13, f1_7, f1_0, f3_14, f3_10, f3_5, f3_0, f2_10, f2_184, f2_180, f2_175, f2_170, f2_174, f2_159, f2_148, f2_137, f2_124, f2_111, f2_98, f2_85, f2_78, f2_65, f2_58, f2_51, f2_39, f2_33, f2_22, f2_12, f2_4, f2_0, a0, a1, a2, a3, a4, a5, a6, a7, a8, a9, a10, a11, a12, a13, a14, a15, a16, a17, a18, a19, a20, a21, a22, a23, a24, a25, a26, a27, a28, a29, a30, a31, a32, a33, a34, a35, a36, a37, a38, a39, a40, a41, a42, a43, a44, a45, a46, a47, a48, a49, a50, a51, a52, a53, a54, a55, own_10, ↓reduceIte]
theorem own_i7 (c : Int32) (hl : ¬ c < (123 : Int32)) (hu : c < (128 : Int32)) : f1_0 c = f2_0 c := by
  have a0 : ¬ c = (95 : Int32) := own_G hl (by decide)
  have a1 : ¬ c = (96 : Int32) := own_G hl (by decide)
  have a2 : ¬ c = (215 : Int32) := own_F hu (by decide)
  have a3 : ¬ c = (247 : Int32) := own_F hu (by decide)
  have a4 : ¬ c = (894 : Int32) := own_F hu (by decide)
  have a5 : (64 : Int32) < c := own_C hl (by decide)
  have a6 : (90 : Int32) < c := own_C hl (by decide)
  have a7 : (94 : Int32) < c := own_C hl (by decide)
  have a8 : (122 : Int32) < c := own_C hl (by decide)
  have a9 : ¬ (191 : Int32) < c := own_D hu (by decide)
  have a10 : ¬ (214 : Int32) < c := own_D hu (by decide)
  have a11 : ¬ (246 : Int32) < c := own_D hu (by decide)
  have a12 : ¬ (767 : Int32) < c := own_D hu (by decide)
  have a13 : ¬ (879 : Int32) < c := own_D hu (by decide)
  have a14 : ¬ (893 : Int32) < c := own_D hu (by decide)
  have a15 : ¬ (8191 : Int32) < c := own_D hu (by decide)
  have a16 : ¬ (8203 : Int32) < c := own_D hu (by decide)
  have a17 : ¬ (8205 : Int32) < c := own_D hu (by decide)
  have a18 : ¬ (8303 : Int32) < c := own_D hu (by decide)
  have a19 : ¬ (8591 : Int32) < c := own_D hu (by decide)
  have a20 : ¬ (11263 : Int32) < c := own_D hu (by decide)
  have a21 : ¬ (12271 : Int32) < c := own_D hu (by decide)
  have a22 : ¬ (12288 : Int32) < c := own_D hu (by decide)
  have a23 : ¬ (55295 : Int32) < c := own_D hu (by decide)
  have a24 : ¬ (63743 : Int32) < c := own_D hu (by decide)
  have a25 : ¬ (64975 : Int32) < c := own_D hu (by decide)
  have a26 : ¬ (65007 : Int32) < c := own_D hu (by decide)
  have a27 : ¬ (65533 : Int32) < c := own_D hu (by decide)
  have a28 : ¬ (65535 : Int32) < c := own_D hu (by decide)
  have a29 : ¬ (983039 : Int32) < c := own_D hu (by decide)
  have a30 : ¬ c < (0 : Int32) := own_B hl (by decide)
  have a31 : ¬ c < (65 : Int32) := own_B hl (by decide)
  have a32 : ¬ c < (91 : Int32) := own_B hl (by decide)
  have a33 : ¬ c < (97 : Int32) := own_B hl (by decide)
  have a34 : ¬ c < (123 : Int32) := own_B hl (by decide)
  have a35 : c < (128 : Int32) := own_A hu (by decide)
  have a36 : c < (192 : Int32) := own_A hu (by decide)
  have a37 : c < (216 : Int32) := own_A hu (by decide)
  have a38 : c < (248 : Int32) := own_A hu (by decide)
  have a39 : c < (768 : Int32) := own_A hu (by decide)
  have a40 : c < (880 : Int32) := own_A hu (by decide)
  have a41 : c < (895 : Int32) := own_A hu (by decide)
  have a42 : c < (8192 : Int32) := own_A hu (by decide)
  have a43 : c < (8204 : Int32) := own_A hu (by decide)
  have a44 : c < (8206 : Int32) := own_A hu (by decide)
  have a45 : c < (8304 : Int32) := own_A hu (by decide)
  have a46 : c < (8592 : Int32) := own_A hu (by decide)
  have a47 : c < (11264 : Int32) := own_A hu (by decide)
  have a48 : c < (12272 : Int32) := own_A hu (by decide)
  have a49 : c < (12289 : Int32) := own_A hu (by decide)
  have a50 : c < (55296 : Int32) := own_A hu (by decide)
  have a51 : c < (63744 : Int32) := own_A hu (by decide)
  have a52 : c < (64976 : Int32) := own_A hu (by decide)
  have a53 : c < (65008 : Int32) := own_A hu (by decide)
  have a54 : c < (65534 : Int32) := own_A hu (by decide)
  have a55 : c < (65536 : Int32) := own_A hu (by decide)
  simp only [f1_208, f1_204, f1_198, f1_192, f1_186, f1_180, f1_174, f1_168, f1_162, f1_155, f1_148, f1_141, f1_134, f1_127, f1_120, f1_113, f1_106, f1_99, f1_92, f1_85, f1_78, f1_71, f1_64, f1_57, f1_50, f1_43, f1_41, f1_37, f1_31, f1_25, f1_19, f1_13, f1_7, f1_0, f3_14, f3_10, f3_5, f3_0, f2_10, f2_184, f2_180, f2_175, f2_170, f2_174, f2_159, f2_148, f2_137, f2_124, f2_111, f2_98, f2_85, f2_78, f2_65, f2_58, f2_51, f2_39, f2_33, f2_22, f2_12, f2_4, f2_0, a0, a1, a2, a3, a4, a5, a6, a7, a8, a9, a10, a11, a12, a13, a14, a15, a16, a17, a18, a19, a20, a21, a22, a23, a24, a25, a26, a27, a28, a29, a30, a31, a32, a33, a34, a35, a36, a37, a38, a39, a40, a41, a42, a43, a44, a45, a46, a47, a48, a49, a50, a51, a52, a53, a54, a55, own_10, ↓reduceIte]
theorem own_i8 (c : Int32) (hl : ¬ c < (128 : Int32)) (hu : c < (192 : Int32)) : f1_0 c = f2_0 c := by
  have a0 : ¬ c = (95 : Int32) := own_G hl (by decide)
  have a1 : ¬ c = (96 : Int32) := own_G hl (by decide)
  have a2 : ¬ c = (215 : Int32) := own_F hu (by decide)
  have a3 : ¬ c = (247 : Int32) := own_F hu (by decide)
  have a4 : ¬ c = (894 : Int32) := own_F hu (by decide)
  have a5 : (64 : Int32) < c := own_C hl (by decide)
  have a6 : (90 : Int32) < c := own_C hl (by decide)
  have a7 : (94 : Int32) < c := own_C hl (by decide)
  have a8 : (122 : Int32) < c := own_C hl (by decide)
  have a9 : ¬ (191 : Int32) < c := own_D hu (by decide)
  have a10 : ¬ (214 : Int32) < c := own_D hu (by decide)
  have a11 : ¬ (246 : Int32) < c := own_D hu (by decide)
  have a12 : ¬ (767 : Int32) < c := own_D hu (by decide)
  have a13 : ¬ (879 : Int32) < c := own_D hu (by decide)
  have a14 : ¬ (893 : Int32) < c := own_D hu (by decide)
  have a15 : ¬ (8191 : Int32) < c := own_D hu (by decide)
  have a16 : ¬ (8203 : Int32) < c := own_D hu (by decide)
  have a17 : ¬ (8205 : Int32) < c := own_D hu (by decide)
  have a18 : ¬ (8303 : Int32) < c := own_D hu (by decide)
  have a19 : ¬ (8591 : Int32) < c := own_D hu (by decide)
  have a20 : ¬ (11263 : Int32) < c := own_D hu (by decide)
  have a21 : ¬ (12271 : Int32) < c := own_D hu (by decide)
  have a22 : ¬ (12288 : Int32) < c := own_D hu (by decide)
  have a23 : ¬ (55295 : Int32) < c := own_D hu (by decide)
  have a24 : ¬ (63743 : Int32) < c := own_D hu (by decide)
  have a25 : ¬ (64975 : Int32) < c := own_D hu (by decide)
  have a26 : ¬ (65007 : Int32) < c := own_D hu (by decide)
  have a27 : ¬ (65533 : Int32) < c := own_D hu (by decide)
  have a28 : ¬ (65535 : Int32) < c := own_D hu (by decide)
  have a29 : ¬ (983039 : Int32) < c := own_D hu (by decide)
  have a30 : ¬ c < (0 : Int32) := own_B hl (by decide)
  have a31 : ¬ c < (65 : Int32) := own_B hl (by decide)
  have a32 : ¬ c < (91 : Int32) := own_B hl (by decide)
  have a33 : ¬ c < (97 : Int32) := own_B hl (by decide)
  have a34 : ¬ c < (123 : Int32) := own_B hl (by decide)
  have a35 : ¬ c < (128 : Int32) := own_B hl (by decide)
  have a36 : c < (192 : Int32) := own_A hu (by decide)
  have a37 : c < (216 : Int32) := own_A hu (by decide)
  have a38 : c < (248 : Int32) := own_A hu (by decide)
  have a39 : c < (768 : Int32) := own_A hu (by decide)
  have a40 : c < (880 : Int32) := own_A hu (by decide)
  have a41 : c < (895 : Int32) := own_A hu (by decide)
  have a42 : c < (8192 : Int32) := own_A hu (by decide)
  have a43 : c < (8204 : Int32) := own_A hu (by decide)
  have a44 : c < (8206 : Int32) := own_A hu (by decide)
  have a45 : c < (8304 : Int32) := own_A hu (by decide)
  have a46 : c < (8592 : Int32) := own_A hu (by decide)
  have a47 : c < (11264 : Int32) := own_A hu (by decide)
  have a48 : c < (12272 : Int32) := own_A hu (by decide)
  have a49 : c < (12289 : Int32) := own_A hu (by decide)
  have a50 : c < (55296 : Int32) := own_A hu (by decide)
  have a51 : c < (63744 : Int32) := own_A hu (by decide)
  have a52 : c < (64976 : Int32) := own_A hu (by decide)
  have a53 : c < (65008 : Int32) := own_A hu (by decide)
  have a54 : c < (65534 : Int32) := own_A hu (by decide)
  have a55 : c < (65536 : Int32) := own_A hu (by decide)
  simp only [f1_208, f1_204, f1_198, f1_192, f1_186, f1_180, f1_174, f1_168, f1_162, f1_155, f1_148, f1_141, f1_134, f1_127, f1_120, f1_113, f1_106, f1_99, f1_92, f1_85, f1_78, f1_71, f1_64, f1_57, f1_50, f1_43, f1_41, f1_37, f1_31, f1_25, f1_19, f1_13, f1_7, f1_0, f3_14, f3_10, f3_5, f3_0, f2_10, f2_184, f2_180, f2_175, f2_170, f2_174, f2_159, f2_148, f2_137, f2_124, f2_111, f2_98, f2_85, f2_78, f2_65, f2_58, f2_51, f2_39, f2_33, f2_22, f2_12, f2_4, f2_0, a0, a1, a2, a3, a4, a5, a6, a7, a8, a9, a10, a11, a12, a13, a14, a15, a16, a17, a18, a19, a20, a21, a22, a23, a24, a25, a26, a27, a28, a29, a30, a31, a32, a33, a34, a35, a36, a37, a38, a39, a40, a41, a42, a43, a44, a45, a46, a47, a48, a49, a50, a51, a52, a53, a54, a55, own_10, ↓reduceIte]
theorem own_i9 (c : Int32) (hl : ¬ c < (192 : Int32)) (hu : c < (215 : Int32)) : f1_0 c = f2_0 c := by
  have a0 : ¬ c = (95 : Int32) := own_G hl (by decide)
  have a1 : ¬ c = (96 : Int32) := own_G hl (by decide)
  have a2 : ¬ c = (215 : Int32) := own_F hu (by decide)
  have a3 : ¬ c = (247 : Int32) := own_F hu (by decide)
  have a4 : ¬ c = (894 : Int32) := own_F hu (by decide)
  have a5 : (64 : Int32) < c := own_C hl (by decide)
  have a6 : (90 : Int32) < c := own_C hl (by decide)
  have a7 : (94 : Int32) < c := own_C hl (by decide)
  have a8 : (122 : Int32) < c := own_C hl (by decide)
  have a9 : (191 : Int32) < c := own_C hl (by decide)
  have a10 : ¬ (214 : Int32) < c := own_D hu (by decide)
  have a11 : ¬ (246 : Int32) < c := own_D hu (by decide)
  have a12 : ¬ (767 : Int32) < c := own_D hu (by decide)
  have a13 : ¬ (879 : Int32) < c := own_D hu (by decide)
  have a14 : ¬ (893 : Int32) < c := own_D hu (by decide)
  have a15 : ¬ (8191 : Int32) < c := own_D hu (by decide)
  have a16 : ¬ (8203 : Int32) < c := own_D hu (by decide)
  have a17 : ¬ (8205 : Int32) < c := own_D hu (by decide)
  have a18 : ¬ (8303 : Int32) < c := own_D hu (by decide)
  have a19 : ¬ (8591 : Int32) < c := own_D hu (by decide)
  have a20 : ¬ (11263 : Int32) < c := own_D hu (by decide)
  have a21 : ¬ (12271 : Int32) < c := own_D hu (by decide)
  have a22 : ¬ (12288 : Int32) < c := own_D hu (by decide)
  have a23 : ¬ (55295 : Int32) < c := own_D hu (by decide)
  have a24 : ¬ (63743 : Int32) < c := own_D hu (by decide)
  have a25 : ¬ (64975 : Int32) < c := own_D hu (by decide)
  have a26 : ¬ (65007 : Int32) < c := own_D hu (by decide)
  have a27 : ¬ (65533 : Int32) < c := own_D hu (by decide)
  have a28 : ¬ (65535 : Int32) < c := own_D hu (by decide)
  have a29 : ¬ (983039 : Int32) < c := own_D hu (by decide)
  have a30 : ¬ c < (0 : Int32) := own_B hl (by decide)
  have a31 : ¬ c < (65 : Int32) := own_B hl (by decide)
  have a32 : ¬ c < (91 : Int32) := own_B hl (by decide)
  have a33 : ¬ c < (97 : Int32) := own_B hl (by decide)
  have a34 : ¬ c < (123 : Int32) := own_B hl (by decide)
  have a35 : ¬ c < (128 : Int32) := own_B hl (by decide)
  have a36 : ¬ c < (192 : Int32) := own_B hl (by decide)
  have a37 : c < (216 : Int32) := own_A hu (by decide)
  have a38 : c < (248 : Int32) := own_A hu (by decide)
  have a39 : c < (768 : Int32) := own_A hu (by decide)
  have a40 : c < (880 : Int32) := own_A hu (by decide)
  have a41 : c < (895 : Int32) := own_A hu (by decide)
  have a42 : c < (8192 : Int32) := own_A hu (by decide)
  have a43 : c < (8204 : Int32) := own_A hu (by decide)
  have a44 : c < (8206 : Int32) := own_A hu (by decide)
  have a45 : c < (8304 : Int32) := own_A hu (by decide)
  have a46 : c < (8592 : Int32) := own_A hu (by decide)
  have a47 : c < (11264 : Int32) := own_A hu (by decide)
  have a48 : c < (12272 : Int32) := own_A hu (by decide)
  have a49 : c < (12289 : Int32) := own_A hu (by decide)
  have a50 : c < (55296 : Int32) := own_A hu (by decide)
  have a51 : c < (63744 : Int32) := own_A hu (by decide)
  have a52 : c < (64976 : Int32) := own_A hu (by decide)
  have a53 : c < (65008 : Int32) := own_A hu (by decide)
  have a54 : c < (65534 : Int32) := own_A hu (by decide)
  have a55 : c < (65536 : Int32) := own_A hu (by decide)
  simp only [f1_208, f1_204, f1_198, f1_192, f1_186, f1_180, f1_174, f1_168, f1_162, f1_155, f1_148, f1_141, f1_134, f1_127, f1_120, f1_113, f1_106, f1_99, f1_92, f1_85, f1_78, f1_71, f1_64, f1_57, f1_50, f1_43, f1_41, f1_37, f1_31, f1_25, f1_19, f1_13, f1_7, f1_0, f3_14, f3_10, f3_5, f3_0, f2_10, f2_184, f2_180, f2_175, f2_170, f2_174, f2_159, f2_148, f2_137, f2_124, f2_111, f2_98, f2_85, f2_78, f2_65, f2_58, f2_51, f2_39, f2_33, f2_22, f2_12, f2_4, f2_0, a0, a1, a2, a3, a4, a5, a6, a7, a8, a9, a10, a11, a12, a13, a14, a15, a16, a17, a18, a19, a20, a21, a22, a23, a24, a25, a26, a27, a28, a29, a30, a31, a32, a33, a34, a35, a36, a37, a38, a39, a40, a41, a42, a43, a44, a45, a46, a47, a48, a49, a50, a51, a52, a53, a54, a55, own_10, ↓reduceIte]
theorem own_i10 (c : Int32) (hl : ¬ c < (215 : Int32)) (hu : c < (216 : Int32)) : f1_0 c = f2_0 c := by
  obtain rfl : c = (215 : Int32) := own_E hl hu (by decide)
  decide +kernel
theorem own_i11 (c : Int32) (hl : ¬ c < (216 : Int32)) (hu : c < (247 : Int32)) : f1_0 c = f2_0 c := by
  have a0 : ¬ c = (95 : Int32) := own_G hl (by decide)
  have a1 : ¬ c = (96 : Int32) := own_G hl (by decide)
  have a2 : ¬ c = (215 : Int32) := own_G hl (by decide)
  have a3 : ¬ c = (247 : Int32) := own_F hu (by decide)
  have a4 : ¬ c = (894 : Int32) := own_F hu (by decide)
  have a5 : (64 : Int32) < c := own_C hl (by decide)
  have a6 : (90 : Int32) < c := own_C hl (by decide)
  have a7 : (94 : Int32) < c := own_C hl (by decide)
  have a8 : (122 : Int32) < c := own_C hl (by decide)
  have a9 : (191 : Int32) < c := own_C hl (by decide)
  have a10 : (214 : Int32) < c := own_C hl (by decide)
  have a11 : ¬ (246 : Int32) < c := own_D hu (by decide)
  have a12 : ¬ (767 : Int32) < c := own_D hu (by decide)
  have a13 : ¬ (879 : Int32) < c := own_D hu (by decide)
  have a14 : ¬ (893 : Int32) < c := own_D hu (by decide)
  have a15 : ¬ (8191 : Int32) < c := own_D hu (by decide)
  have a16 : ¬ (8203 : Int32) < c := own_D hu (by decide)
  have a17 : ¬ (8205 : Int32) < c := own_D hu (by decide)
  have a18 : ¬ (8303 : Int32) < c := own_D hu (by decide)
  have a19 : ¬ (8591 : Int32) < c := own_D hu (by decide)
  have a20 : ¬ (11263 : Int32) < c := own_D hu (by decide)
  have a21 : ¬ (12271 : Int32) < c := own_D hu (by decide)
  have a22 : ¬ (12288 : Int32) < c := own_D hu (by decide)
  have a23 : ¬ (55295 : Int32) < c := own_D hu (by decide)
  have a24 : ¬ (63743 : Int32) < c := own_D hu (by decide)
  have a25 : ¬ (64975 : Int32) < c := own_D hu (by decide)
  have a26 : ¬ (65007 : Int32) < c := own_D hu (by decide)
  have a27 : ¬ (65533 : Int32) < c := own_D hu (by decide)
  have a28 : ¬ (65535 : Int32) < c := own_D hu (by decide)
  have a29 : ¬ (983039 : Int32) < c := own_D hu (by decide)
  have a30 : ¬ c < (0 : Int32) := own_B hl (by decide)
  have a31 : ¬ c < (65 : Int32) := own_B hl (by decide)
  have a32 : ¬ c < (91 : Int32) := own_B hl (by decide)
  have a33 : ¬ c < (97 : Int32) := own_B hl (by decide)
  have a34 : ¬ c < (123 : Int32) := own_B hl (by decide)
  have a35 : ¬ c < (128 : Int32) := own_B hl (by decide)
  have a36 : ¬ c < (192 : Int32) := own_B hl (by decide)
  have a37 : ¬ c < (216 : Int32) := own_B hl (by decide)
  have a38 : c < (248 : Int32) := own_A hu (by decide)
  have a39 : c < (768 : Int32) := own_A hu (by decide)
  have a40 : c < (880 : Int32) := own_A hu (by decide)
  have a41 : c < (895 : Int32) := own_A hu (by decide)
  have a42 : c < (8192 : Int32) := own_A hu (by decide)
  have a43 : c < (8204 : Int32) := own_A hu (by decide)
  have a44 : c < (8206 : Int32) := own_A hu (by decide)
  have a45 : c < (8304 : Int32) := own_A hu (by decide)
  have a46 : c < (8592 : Int32) := own_A hu (by decide)
  have a47 : c < (11264 : Int32) := own_A hu (by decide)
  have a48 : c < (12272 : Int32) := own_A hu (by decide)
  have a49 : c < (12289 : Int32) := own_A hu (by decide)
  have a50 : c < (55296 : Int32) := own_A hu (by decide)
  have a51 : c < (63744 : Int32) := own_A hu (by decide)
  have a52 : c < (64976 : Int32) := own_A hu (by decide)
  have a53 : c < (65008 : Int32) := own_A hu (by decide)
  have a54 : c < (65534 : Int32) := own_A hu (by decide)
  have a55 : c < (65536 : Int32) := own_A hu (by decide)
  simp only [f1_208, f1_204, f1_198, f1_192, f1_186, f1_180, f1_174, f1_168, f1_162, f1_155, f1_148, f1_141, f1_134, f1_127, f1_120, f1_113, f1_106, f1_99, f1_92, f1_85, f1_78, f1_71, f1_64, f1_57, f1_50, f1_43, f1_41, f1_37, f1_31, f1_25, f1_19, f1_13, f1_7, f1_0, f3_14, f3_10, f3_5, f3_0, f2_10, f2_184, f2_180, f2_175, f2_170, f2_174, f2_159, f2_148, f2_137, f2_124, f2_111, f2_98, f2_85, f2_78, f2_65, f2_58, f2_51, f2_39, f2_33, f2_22, f2_12, f2_4, f2_0, a0, a1, a2, a3, a4, a5, a6, a7, a8, a9, a10, a11, a12, a13, a14, a15, a16, a17, a18, a19, a20, a21, a22, a23, a24, a25, a26, a27, a28, a29, a30, a31, a32, a33, a34, a35, a36, a37, a38, a39, a40, a41, a42, a43, a44, a45, a46, a47, a48, a49, a50, a51, a52, a53, a54, a55, own_10, ↓reduceIte]
theorem own_i12 (c : Int32) (hl : ¬ c < (247 : Int32)) (hu : c < (248 : Int32)) : f1_0 c = f2_0 c := by
  obtain rfl : c = (247 : Int32) := own_E hl hu (by decide)
  decide +kernel
theorem own_i13 (c : Int32) (hl : ¬ c < (248 : Int32)) (hu : c < (768 : Int32)) : f1_0 c = f2_0 c := by
  have a0 : ¬ c = (95 : Int32) := own_G hl (by decide)
  have a1 : ¬ c = (96 : Int32) := own_G hl (by decide)
  have a2 : ¬ c = (215 : Int32) := own_G hl (by decide)
  have a3 : ¬ c = (247 : Int32) := own_G hl (by decide)
  have a4 : ¬ c = (894 : Int32) := own_F hu (by decide)
  have a5 : (64 : Int32) < c := own_C hl (by decide)
  have a6 : (90 : Int32) < c := own_C hl (by decide)
  have a7 : (94 : Int32) < c := own_C hl (by decide)
  have a8 : (122 : Int32) < c := own_C hl (by decide)
  have a9 : (191 : Int32) < c := own_C hl (by decide)
  have a10 : (214 : Int32) < c := own_C hl (by decide)
  have a11 : (246 : Int32) < c := own_C hl (by decide)
  have a12 : ¬ (767 : Int32) < c := own_D hu (by decide)
  have a13 : ¬ (879 : Int32) < c := own_D hu (by decide)
  have a14 : ¬ (893 : Int32) < c := own_D hu (by decide)
  have a15 : ¬ (8191 : Int32) < c := own_D hu (by decide)
  have a16 : ¬ (8203 : Int32) < c := own_D hu (by decide)
  have a17 : ¬ (8205 : Int32) < c := own_D hu (by decide)
  have a18 : ¬ (8303 : Int32) < c := own_D hu (by decide)
  have a19 : ¬ (8591 : Int32) < c := own_D hu (by decide)
  have a20 : ¬ (11263 : Int32) < c := own_D hu (by decide)
  have a21 : ¬ (12271 : Int32) < c := own_D hu (by decide)
  have a22 : ¬ (12288 : Int32) < c := own_D hu (by decide)
  have a23 : ¬ (55295 : Int32) < c := own_D hu (by decide)
  have a24 : ¬ (63743 : Int32) < c := own_D hu (by decide)
  have a25 : ¬ (64975 : Int32) < c := own_D hu (by decide)
  have a26 : ¬ (65007 : Int32) < c := own_D hu (by decide)
  have a27 : ¬ (65533 : Int32) < c := own_D hu (by decide)
  have a28 : ¬ (65535 : Int32) < c := own_D hu (by decide)
  have a29 : ¬ (983039 : Int32) < c := own_D hu (by decide)
  have a30 : ¬ c < (0 : Int32) := own_B hl (by decide)
  have a31 : ¬ c < (65 : Int32) := own_B hl (by decide)
  have a32 : ¬ c < (91 : Int32) := own_B hl (by decide)
  have a33 : ¬ c < (97 : Int32) := own_B hl (by decide)
  have a34 : ¬ c < (123 : Int32) := own_B hl (by decide)
  have a35 : ¬ c < (128 : Int32) := own_B hl (by decide)
  have a36 : ¬ c < (192 : Int32) := own_B hl (by decide)
  have a37 : ¬ c < (216 : Int32) := own_B hl (by decide)
  have a38 : ¬ c < (248 : Int32) := own_B hl (by decide)
  have a39 : c < (768 : Int32) := own_A hu (by decide)
  have a40 : c < (880 : Int32) := own_A hu (by decide)
  have a41 : c < (895 : Int32) := own_A hu (by decide)
  have a42 : c < (8192 : Int32) := own_A hu (by decide)
  have a43 : c < (8204 : Int32) := own_A hu (by decide)
  have a44 : c < (8206 : Int32) := own_A hu (by decide)
  have a45 : c < (8304 : Int32) := own_A hu (by decide)
  have a46 : c < (8592 : Int32) := own_A hu (by decide)
  have a47 : c < (11264 : Int32) := own_A hu (by decide)
  have a48 : c < (12272 : Int32) := own_A hu (by decide)
  have a49 : c < (12289 : Int32) := own_A hu (by decide)
  have a50 : c < (55296 : Int32) := own_A hu (by decide)
  have a51 : c < (63744 : Int32) := own_A hu (by decide)
  have a52 : c < (64976 : Int32) := own_A hu (by decide)
  have a53 : c < (65008 : Int32) := own_A hu (by decide)
  have a54 : c < (65534 : Int32) := own_A hu (by decide)
  have a55 : c < (65536 : Int32) := own_A hu (by decide)
  simp only [f1_208, f1_204, f1_198, f1_192, f1_186, f1_180, f1_174, f1_168, f1_162, f1_155, f1_148, f1_141, f1_134, f1_127, f1_120, f1_113, f1_106, f1_99, f1_92, f1_85, f1_78, f1_71, f1_64, f1_57, f1_50, f1_43, f1_41, f1_37, f1_31, f1_25, f1_19, f1_13, f1_7, f1_0, f3_14, f3_10, f3_5, f3_0, f2_10, f2_184, f2_180, f2_175, f2_170, f2_174, f2_159, f2_148, f2_137, f2_124, f2_111, f2_98, f2_85, f2_78, f2_65, f2_58, f2_51, f2_39, f2_33, f2_22, f2_12, f2_4, f2_0, a0, a1, a2, a3, a4, a5, a6, a7, a8, a9, a10, a11, a12, a13, a14, a15, a16, a17, a18, a19, a20, a21, a22, a23, a24, a25, a26, a27, a28, a29, a30, a31, a32, a33, a34, a35, a36, a37, a38, a39, a40, a41, a42, a43, a44, a45, a46, a47, a48, a49, a50, a51, a52, a53, a54, a55, own_10, ↓reduceIte]
theorem own_i14 (c : Int32) (hl : ¬ c < (768 : Int32)) (hu : c < (880 : Int32)) : f1_0 c = f2_0 c := by
  have a0 : ¬ c = (95 : Int32) := own_G hl (by decide)
  have a1 : ¬ c = (96 : Int32) := own_G hl (by decide)
  have a2 : ¬ c = (215 : Int32) := own_G hl (by decide)
  have a3 : ¬ c = (247 : Int32) := own_G hl (by decide)
  have a4 : ¬ c = (894 : Int32) := own_F hu (by decide)
  have a5 : (64 : Int32) < c := own_C hl (by decide)
  have a6 : (90 : Int32) < c := own_C hl (by decide)
  have a7 : (94 : Int32) < c := own_C hl (by decide)
  have a8 : (122 : Int32) < c := own_C hl (by decide)
  have a9 : (191 : Int32) < c := own_C hl (by decide)
  have a10 : (214 : Int32) < c := own_C hl (by decide)
  have a11 : (246 : Int32) < c := own_C hl (by decide)
  have a12 : (767 : Int32) < c := own_C hl (by decide)
  have a13 : ¬ (879 : Int32) < c := own_D hu (by decide)
  have a14 : ¬ (893 : Int32) < c := own_D hu (by decide)
  have a15 : ¬ (8191 : Int32) < c := own_D hu (by decide)
  have a16 : ¬ (8203 : Int32) < c := own_D hu (by decide)
  have a17 : ¬ (8205 : Int32) < c := own_D hu (by decide)
  have a18 : ¬ (8303 : Int32) < c := own_D hu (by decide)
  have a19 : ¬ (8591 : Int32) < c := own_D hu (by decide)
  have a20 : ¬ (11263 : Int32) < c := own_D hu (by decide)
  have a21 : ¬ (12271 : Int32) < c := own_D hu (by decide)
  have a22 : ¬ (12288 : Int32) < c := own_D hu (by decide)
  have a23 : ¬ (55295 : Int32) < c := own_D hu (by decide)
  have a24 : ¬ (63743 : Int32) < c := own_D hu (by decide)
  have a25 : ¬ (64975 : Int32) < c := own_D hu (by decide)
  have a26 : ¬ (65007 : Int32) < c := own_D hu (by decide)
  have a27 : ¬ (65533 : Int32) < c := own_D hu (by decide)
  have a28 : ¬ (65535 : Int32) < c := own_D hu (by decide)
  have a29 : ¬ (983039 : Int32) < c := own_D hu (by decide)
  have a30 : ¬ c < (0 : Int32) := own_B hl (by decide)
  have a31 : ¬ c < (65 : Int32) := own_B hl (by decide)
  have a32 : ¬ c < (91 : Int32) := own_B hl (by decide)
  have a33 : ¬ c < (97 : Int32) := own_B hl (by decide)
  have a34 : ¬ c < (123 : Int32) := own_B hl (by decide)
  have a35 : ¬ c < (128 : Int32) := own_B hl (by decide)
  have a36 : ¬ c < (192 : Int32) := own_B hl (by decide)
  have a37 : ¬ c < (216 : Int32) := own_B hl (by decide)
  have a38 : ¬ c < (248 : Int32) := own_B hl (by decide)
  have a39 : ¬ c < (768 : Int32) := own_B hl (by decide)
  have a40 : c < (880 : Int32) := own_A hu (by decide)
  have a41 : c < (895 : Int32) := own_A hu (by decide)
  have a42 : c < (8192 : Int32) := own_A hu (by decide)
  have a43 : c < (8204 : Int32) := own_A hu (by decide)
  have a44 : c < (8206 : Int32) := own_A hu (by decide)
  have a45 : c < (8304 : Int32) := own_A hu (by decide)
  have a46 : c < (8592 : Int32) := own_A hu (by decide)
  have a47 : c < (11264 : Int32) := own_A hu (by decide)
  have a48 : c < (12272 : Int32) := own_A hu (by decide)
  have a49 : c < (12289 : Int32) := own_A hu (by decide)
  have a50 : c < (55296 : Int32) := own_A hu (by decide)
  have a51 : c < (63744 : Int32) := own_A hu (by decide)
  have a52 : c < (64976 : Int32) := own_A hu (by decide)
  have a53 : c < (65008 : Int32) := own_A hu (by decide)
  have a54 : c < (65534 : Int32) := own_A hu (by decide)
  have a55 : c < (65536 : Int32) := own_A hu (by decide)
  simp only [f1_208, f1_204, f1_198, f1_192, f1_186, f1_180, f1_174, f1_168, f1_162, f1_155, f1_148, f1_141, f1_134, f1_127, f1_120, f1_113, f1_106, f1_99, f1_92, f1_85, f1_78, f1_71, f1_64, f1_57, f1_50, f1_43, f1_41, f1_37, f1_31, f1_25, f1_19, f1_13, f1_7, f1_0, f3_14, f3_10, f3_5, f3_0, f2_10, f2_184, f2_180, f2_175, f2_170, f2_174, f2_159, f2_148, f2_137, f2_124, f2_111, f2_98, f2_85, f2_78, f2_65, f2_58, f2_51, f2_39, f2_33, f2_22, f2_12, f2_4, f2_0, a0, a1, a2, a3, a4, a5, a6, a7, a8, a9, a10, a11, a12, a13, a14, a15, a16, a17, a18, a19, a20, a21, a22, a23, a24, a25, a26, a27, a28, a29, a30, a31, a32, a33, a34, a35, a36, a37, a38, a39, a40, a41, a42, a43, a44, a45, a46, a47, a48, a49, a50, a51, a52, a53, a54, a55, own_10, ↓reduceIte]
theorem own_i15 (c : Int32) (hl : ¬ c < (880 : Int32)) (hu : c < (894 : Int32)) : f1_0 c = f2_0 c := by
  have a0 : ¬ c = (95 : Int32) := own_G hl (by decide)
  have a1 : ¬ c = (96 : Int32) := own_G hl (by decide)
  have a2 : ¬ c = (215 : Int32) := own_G hl (by decide)
  have a3 : ¬ c = (247 : Int32) := own_G hl (by decide)
  have a4 : ¬ c = (894 : Int32) := own_F hu (by decide)
  have a5 : (64 : Int32) < c := own_C hl (by decide)
  have a6 : (90 : Int32) < c := own_C hl (by decide)
  have a7 : (94 : Int32) < c := own_C hl (by decide)
  have a8 : (122 : Int32) < c := own_C hl (by decide)
  have a9 : (191 : Int32) < c := own_C hl (by decide)
  have a10 : (214 : Int32) < c := own_C hl (by decide)
  have a11 : (246 : Int32) < c := own_C hl (by decide)
  have a12 : (767 : Int32) < c := own_C hl (by decide)
  have a13 : (879 : Int32) < c := own_C hl (by decide)
  have a14 : ¬ (893 : Int32) < c := own_D hu (by decide)
  have a15 : ¬ (8191 : Int32) < c := own_D hu (by decide)
  have a16 : ¬ (8203 : Int32) < c := own_D hu (by decide)
  have a17 : ¬ (8205 : Int32) < c := own_D hu (by decide)
  have a18 : ¬ (8303 : Int32) < c := own_D hu (by decide)
  have a19 : ¬ (8591 : Int32) < c := own_D hu (by decide)
  have a20 : ¬ (11263 : Int32) < c := own_D hu (by decide)
  have a21 : ¬ (12271 : Int32) < c := own_D hu (by decide)
  have a22 : ¬ (12288 : Int32) < c := own_D hu (by decide)
  have a23 : ¬ (55295 : Int32) < c := own_D hu (by decide)
  have a24 : ¬ (63743 : Int32) < c := own_D hu (by decide)
  have a25 : ¬ (64975 : Int32) < c := own_D hu (by decide)
  have a26 : ¬ (65007 : Int32) < c := own_D hu (by decide)
  have a27 : ¬ (65533 : Int32) < c := own_D hu (by decide)
  have a28 : ¬ (65535 : Int32) < c := own_D hu (by decide)
  have a29 : ¬ (983039 : Int32) < c := own_D hu (by decide)
  have a30 : ¬ c < (0 : Int32) := own_B hl (by decide)
  have a31 : ¬ c < (65 : Int32) := own_B hl (by decide)
  have a32 : ¬ c < (91 : Int32) := own_B hl (by decide)
  have a33 : ¬ c < (97 : Int32) := own_B hl (by decide)
  have a34 : ¬ c < (123 : Int32) := own_B hl (by decide)
  have a35 : ¬ c < (128 : Int32) := own_B hl (by decide)
  have a36 : ¬ c < (192 : Int32) := own_B hl (by decide)
  have a37 : ¬ c < (216 : Int32) := own_B hl (by decide)
  have a38 : ¬ c < (248 : Int32) := own_B hl (by decide)
  have a39 : ¬ c < (768 : Int32) := own_B hl (by decide)
  have a40 : ¬ c < (880 : Int32) := own_B hl (by decide)
  have a41 : c < (895 : Int32) := own_A hu (by decide)
  have a42 : c < (8192 : Int32) := own_A hu (by decide)
  have a43 : c < (8204 : Int32) := own_A hu (by decide)
  have a44 : c < (8206 : Int32) := own_A hu (by decide)
  have a45 : c < (8304 : Int32) := own_A hu (by decide)
  have a46 : c < (8592 : Int32) := own_A hu (by decide)
  have a47 : c < (11264 : Int32) := own_A hu (by decide)
  have a48 : c < (12272 : Int32) := own_A hu (by decide)
  have a49 : c < (12289 : Int32) := own_A hu (by decide)
  have a50 : c < (55296 : Int32) := own_A hu (by decide)
  have a51 : c < (63744 : Int32) := own_A hu (by decide)
  have a52 : c < (64976 : Int32) := own_A hu (by decide)
  have a53 : c < (65008 : Int32) := own_A hu (by decide)
  have a54 : c < (65534 : Int32) := own_A hu (by decide)
  have a55 : c < (65536 : Int32) := own_A hu (by decide)
  simp only [f1_208, f1_204, f1_198, f1_192, f1_186, f1_180, f1_174, f1_168, f1_162, f1_155, f1_148, f1_141, f1_134, f1_127, f1_120, f1_113, f1_106, f1_99, f1_92, f1_85, f1_78, f1_71, f1_64, f1_57, f1_50, f1_43, f1_41, f1_37, f1_31, f1_25, f1_19, f1_13, f1_7, f1_0, f3_14, f3_10, f3_5, f3_0, f2_10, f2_184, f2_180, f2_175, f2_170, f2_174, f2_159, f2_148, f2_137, f2_124, f2_111, f2_98, f2_85, f2_78, f2_65, f2_58, f2_51, f2_39, f2_33, f2_22, f2_12, f2_4, f2_0, a0, a1, a2, a3, a4, a5, a6, a7, a8, a9, a10, a11, a12, a13, a14, a15, a16, a17, a18, a19, a20, a21, a22, a23, a24, a25, a26, a27, a28, a29, a30, a31, a32, a33, a34, a35, a36, a37, a38, a39, a40, a41, a42, a43, a44, a45, a46, a47, a48, a49, a50, a51, a52, a53, a54, a55, own_10, ↓reduceIte]
theorem own_i16 (c : Int32) (hl : ¬ c < (894 : Int32)) (hu : c < (895 : Int32)) : f1_0 c = f2_0 c := by
  obtain rfl : c = (894 : Int32) := own_E hl hu (by decide)
  decide +kernel
theorem own_i17 (c : Int32) (hl : ¬ c < (895 : Int32)) (hu : c < (8192 : Int32)) : f1_0 c = f2_0 c := by
  have a0 : ¬ c = (95 : Int32) := own_G hl (by decide)
  have a1 : ¬ c = (96 : Int32) := own_G hl (by decide)
  have a2 : ¬ c = (215 : Int32) := own_G hl (by decide)
  have a3 : ¬ c = (247 : Int32) := own_G hl (by decide)
  have a4 : ¬ c = (894 : Int32) := own_G hl (by decide)
  have a5 : (64 : Int32) < c := own_C hl (by decide)
  have a6 : (90 : Int32) < c := own_C hl (by decide)
  have a7 : (94 : Int32) < c := own_C hl (by decide)
  have a8 : (122 : Int32) < c := own_C hl (by decide)
  have a9 : (191 : Int32) < c := own_C hl (by decide)
  have a10 : (214 : Int32) < c := own_C hl (by decide)
  have a11 : (246 : Int32) < c := own_C hl (by decide)
  have a12 : (767 : Int32) < c := own_C hl (by decide)
  have a13 : (879 : Int32) < c := own_C hl (by decide)
  have a14 : (893 : Int32) < c := own_C hl (by decide)
  have a15 : ¬ (8191 : Int32) < c := own_D hu (by decide)
  have a16 : ¬ (8203 : Int32) < c := own_D hu (by decide)
  have a17 : ¬ (8205 : Int32) < c := own_D hu (by decide)
  have a18 : ¬ (8303 : Int32) < c := own_D hu (by decide)
  have a19 : ¬ (8591 : Int32) < c := own_D hu (by decide)
  have a20 : ¬ (11263 : Int32) < c := own_D hu (by decide)
  have a21 : ¬ (12271 : Int32) < c := own_D hu (by decide)
  have a22 : ¬ (12288 : Int32) < c := own_D hu (by decide)
  have a23 : ¬ (55295 : Int32) < c := own_D hu (by decide)
  have a24 : ¬ (63743 : Int32) < c := own_D hu (by decide)
  have a25 : ¬ (64975 : Int32) < c := own_D hu (by decide)
  have a26 : ¬ (65007 : Int32) < c := own_D hu (by decide)
  have a27 : ¬ (65533 : Int32) < c := own_D hu (by decide)
  have a28 : ¬ (65535 : Int32) < c := own_D hu (by decide)
  have a29 : ¬ (983039 : Int32) < c := own_D hu (by decide)
  have a30 : ¬ c < (0 : Int32) := own_B hl (by decide)
  have a31 : ¬ c < (65 : Int32) := own_B hl (by decide)
  have a32 : ¬ c < (91 : Int32) := own_B hl (by decide)
  have a33 : ¬ c < (97 : Int32) := own_B hl (by decide)
  have a34 : ¬ c < (123 : Int32) := own_B hl (by decide)
  have a35 : ¬ c < (128 : Int32) := own_B hl (by decide)
  have a36 : ¬ c < (192 : Int32) := own_B hl (by decide)
  have a37 : ¬ c < (216 : Int32) := own_B hl (by decide)
  have a38 : ¬ c < (248 : Int32) := own_B hl (by decide)
  have a39 : ¬ c < (768 : Int32) := own_B hl (by decide)
  have a40 : ¬ c < (880 : Int32) := own_B hl (by decide)
  have a41 : ¬ c < (895 : Int32) := own_B hl (by decide)
  have a42 : c < (8192 : Int32) := own_A hu (by decide)
  have a43 : c < (8204 : Int32) := own_A hu (by decide)
  have a44 : c < (8206 : Int32) := own_A hu (by decide)
  have a45 : c < (8304 : Int32) := own_A hu (by decide)
  have a46 : c < (8592 : Int32) := own_A hu (by decide)
  have a47 : c < (11264 : Int32) := own_A hu (by decide)
  have a48 : c < (12272 : Int32) := own_A hu (by decide)
  have a49 : c < (12289 : Int32) := own_A hu (by decide)
  have a50 : c < (55296 : Int32) := own_A hu (by decide)
  have a51 : c < (63744 : Int32) := own_A hu (by decide)
  have a52 : c < (64976 : Int32) := own_A hu (by decide)
  have a53 : c < (65008 : Int32) := own_A hu (by decide)
  have a54 : c < (65534 : Int32) := own_A hu (by decide)
  have a55 : c < (65536 : Int32) := own_A hu (by decide)
  simp only [f1_208, f1_204, f1_198, f1_192, f1_186, f1_180, f1_174, f1_168, f1_162, f1_155, f1_148, f1_141, f1_134, f1_127, f1_120, f1_113, f1_106, f1_99, f1_92, f1_85, f1_78, f1_71, f1_64, f1_57, f1_50, f1_43, f1_41, f1_37, f1_31, f1_25, f1_19, f1_13, f1_7, f1_0, f3_14, f3_10, f3_5, f3_0, f2_10, f2_184, f2_180, f2_175, f2_170, f2_174, f2_159, f2_148, f2_137, f2_124, f2_111, f2_98, f2_85, f2_78, f2_65, f2_58, f2_51, f2_39, f2_33, f2_22, f2_12, f2_4, f2_0, a0, a1, a2, a3, a4, a5, a6, a7, a8, a9, a10, a11, a12, a13, a14, a15, a16, a17, a18, a19, a20, a21, a22, a23, a24, a25, a26, a27, a28, a29, a30, a31, a32, a33, a34, a35, a36, a37, a38, a39, a40, a41, a42, a43, a44, a45, a46, a47, a48, a49, a50, a51, a52, a53, a54, a55, own_10, ↓reduceIte]
theorem own_i18 (c : Int32) (hl : ¬ c < (8192 : Int32)) (hu : c < (8204 : Int32)) : f1_0 c = f2_0 c := by
  have a0 : ¬ c = (95 : Int32) := own_G hl (by decide)
  have a1 : ¬ c = (96 : Int32) := own_G hl (by decide)
  have a2 : ¬ c = (215 : Int32) := own_G hl (by decide)
  have a3 : ¬ c = (247 : Int32) := own_G hl (by decide)
  have a4 : ¬ c = (894 : Int32) := own_G hl (by decide)
  have a5 : (64 : Int32) < c := own_C hl (by decide)
  have a6 : (90 : Int32) < c := own_C hl (by decide)
  have a7 : (94 : Int32) < c := own_C hl (by decide)
  have a8 : (122 : Int32) < c := own_C hl (by decide)
  have a9 : (191 : Int32) < c := own_C hl (by decide)
  have a10 : (214 : Int32) < c := own_C hl (by decide)
  have a11 : (246 : Int32) < c := own_C hl (by decide)
  have a12 : (767 : Int32) < c := own_C hl (by decide)
  have a13 : (879 : Int32) < c := own_C hl (by decide)
  have a14 : (893 : Int32) < c := own_C hl (by decide)
  have a15 : (8191 : Int32) < c := own_C hl (by decide)
  have a16 : ¬ (8203 : Int32) < c := own_D hu (by decide)
  have a17 : ¬ (8205 : Int32) < c := own_D hu (by decide)
  have a18 : ¬ (8303 : Int32) < c := own_D hu (by decide)
  have a19 : ¬ (8591 : Int32) < c := own_D hu (by decide)
  have a20 : ¬ (11263 : Int32) < c := own_D hu (by decide)
  have a21 : ¬ (12271 : Int32) < c := own_D hu (by decide)
  have a22 : ¬ (12288 : Int32) < c := own_D hu (by decide)
  have a23 : ¬ (55295 : Int32) < c := own_D hu (by decide)
  have a24 : ¬ (63743 : Int32) < c := own_D hu (by decide)
  have a25 : ¬ (64975 : Int32) < c := own_D hu (by decide)
  have a26 : ¬ (65007 : Int32) < c := own_D hu (by decide)
  have a27 : ¬ (65533 : Int32) < c := own_D hu (by decide)
  have a28 : ¬ (65535 : Int32) < c := own_D hu (by decide)
  have a29 : ¬ (983039 : Int32) < c := own_D hu (by decide)
  have a30 : ¬ c < (0 : Int32) := own_B hl (by decide)
  have a31 : ¬ c < (65 : Int32) := own_B hl (by decide)
  have a32 : ¬ c < (91 : Int32) := own_B hl (by decide)
  have a33 : ¬ c < (97 : Int32) := own_B hl (by decide)
  have a34 : ¬ c < (123 : Int32) := own_B hl (by decide)
  have a35 : ¬ c < (128 : Int32) := own_B hl (by decide)
  have a36 : ¬ c < (192 : Int32) := own_B hl (by decide)
  have a37 : ¬ c < (216 : Int32) := own_B hl (by decide)
  have a38 : ¬ c < (248 : Int32) := own_B hl (by decide)
  have a39 : ¬ c < (768 : Int32) := own_B hl (by decide)
  have a40 : ¬ c < (880 : Int32) := own_B hl (by decide)
  have a41 : ¬ c < (895 : Int32) := own_B hl (by decide)
  have a42 : ¬ c < (8192 : Int32) := own_B hl (by decide)
  have a43 : c < (8204 : Int32) := own_A hu (by decide)
  have a44 : c < (8206 : Int32) := own_A hu (by decide)
  have a45 : c < (8304 : Int32) := own_A hu (by decide)
  have a46 : c < (8592 : Int32) := own_A hu (by decide)
  have a47 : c < (11264 : Int32) := own_A hu (by decide)
  have a48 : c < (12272 : Int32) := own_A hu (by decide)
  have a49 : c < (12289 : Int32) := own_A hu (by decide)
  have a50 : c < (55296 : Int32) := own_A hu (by decide)
  have a51 : c < (63744 : Int32) := own_A hu (by decide)
  have a52 : c < (64976 : Int32) := own_A hu (by decide)
  have a53 : c < (65008 : Int32) := own_A hu (by decide)
  have a54 : c < (65534 : Int32) := own_A hu (by decide)
  have a55 : c < (65536 : Int32) := own_A hu (by decide)
  simp only [f1_208, f1_204, f1_198, f1_192, f1_186, f1_180, f1_174, f1_168, f1_162, f1_155, f1_148, f1_141, f1_134, f1_127, f1_120, f1_113, f1_106, f1_99, f1_92, f1_85, f1_78, f1_71, f1_64, f1_57, f1_50, f1_43, f1_41, f1_37, f1_31, f1_25, f1_19, f1_13, f1_7, f1_0, f3_14, f3_10, f3_5, f3_0, f2_10, f2_184, f2_180, f2_175, f2_170, f2_174, f2_159, f2_148, f2_137, f2_124, f2_111, f2_98, f2_85, f2_78, f2_65, f2_58, f2_51, f2_39, f2_33, f2_22, f2_12, f2_4, f2_0, a0, a1, a2, a3, a4, a5, a6, a7, a8, a9, a10, a11, a12, a13, a14, a15, a16, a17, a18, a19, a20, a21, a22, a23, a24, a25, a26, a27, a28, a29, a30, a31, a32, a33, a34, a35, a36, a37, a38, a39, a40, a41, a42, a43, a44, a45, a46, a47, a48, a49, a50, a51, a52, a53, a54, a55, own_10, ↓reduceIte]
theorem own_i19 (c : Int32) (hl : ¬ c < (8204 : Int32)) (hu : c < (8206 : Int32)) : f1_0 c = f2_0 c := by
  have a0 : ¬ c = (95 : Int32) := own_G hl (by decide)
  have a1 : ¬ c = (96 : Int32) := own_G hl (by decide)
  have a2 : ¬ c = (215 : Int32) := own_G hl (by decide)
  have a3 : ¬ c = (247 : Int32) := own_G hl (by decide)
  have a4 : ¬ c = (894 : Int32) := own_G hl (by decide)
  have a5 : (64 : Int32) < c := own_C hl (by decide)
  have a6 : (90 : Int32) < c := own_C hl (by decide)
  have a7 : (94 : Int32) < c := own_C hl (by decide)
  have a8 : (122 : Int32) < c := own_C hl (by decide)
  have a9 : (191 : Int32) < c := own_C hl (by decide)
  have a10 : (214 : Int32) < c := own_C hl (by decide)
  have a11 : (246 : Int32) < c := own_C hl (by decide)
  have a12 : (767 : Int32) < c := own_C hl (by decide)
  have a13 : (879 : Int32) < c := own_C hl (by decide)
  have a14 : (893 : Int32) < c := own_C hl (by decide)
  have a15 : (8191 : Int32) < c := own_C hl (by decide)
  have a16 : (8203 : Int32) < c := own_C hl (by decide)
  have a17 : ¬ (8205 : Int32) < c := own_D hu (by decide)
  have a18 : ¬ (8303 : Int32) < c := own_D hu (by decide)
  have a19 : ¬ (8591 : Int32) < c := own_D hu (by decide)
  have a20 : ¬ (11263 : Int32) < c := own_D hu (by decide)
  have a21 : ¬ (12271 : Int32) < c := own_D hu (by decide)
  have a22 : ¬ (12288 : Int32) < c := own_D hu (by decide)
  have a23 : ¬ (55295 : Int32) < c := own_D hu (by decide)
  have a24 : ¬ (63743 : Int32) < c := own_D hu (by decide)
  have a25 : ¬ (64975 : Int32) < c := own_D hu (by decide)
  have a26 : ¬ (65007 : Int32) < c := own_D hu (by decide)
  have a27 : ¬ (65533 : Int32) < c := own_D hu (by decide)
  have a28 : ¬ (65535 : Int32) < c := own_D hu (by decide)
  have a29 : ¬ (983039 : Int32) < c := own_D hu (by decide)
  have a30 : ¬ c < (0 : Int32) := own_B hl (by decide)
  have a31 : ¬ c < (65 : Int32) := own_B hl (by decide)
  have a32 : ¬ c < (91 : Int32) := own_B hl (by decide)
  have a33 : ¬ c < (97 : Int32) := own_B hl (by decide)
  have a34 : ¬ c < (123 : Int32) := own_B hl (by decide)
  have a35 : ¬ c < (128 : Int32) := own_B hl (by decide)
  have a36 : ¬ c < (192 : Int32) := own_B hl (by decide)
  have a37 : ¬ c < (216 : Int32) := own_B hl (by decide)
  have a38 : ¬ c < (248 : Int32) := own_B hl (by decide)
  have a39 : ¬ c < (768 : Int32) := own_B hl (by decide)
  have a40 : ¬ c < (880 : Int32) := own_B hl (by decide)
  have a41 : ¬ c < (895 : Int32) := own_B hl (by decide)
  have a42 : ¬ c < (8192 : Int32) := own_B hl (by decide)
  have a43 : ¬ c < (8204 : Int32) := own_B hl (by decide)
  have a44 : c < (8206 : Int32) := own_A hu (by decide)
  have a45 : c < (8304 : Int32) := own_A hu (by decide)
  have a46 : c < (8592 : Int32) := own_A hu (by decide)
  have a47 : c < (11264 : Int32) := own_A hu (by decide)
  have a48 : c < (12272 : Int32) := own_A hu (by decide)
  have a49 : c < (12289 : Int32) := own_A hu (by decide)
  have a50 : c < (55296 : Int32) := own_A hu (by decide)
  have a51 : c < (63744 : Int32) := own_A hu (by decide)
  have a52 : c < (64976 : Int32) := own_A hu (by decide)
  have a53 : c < (65008 : Int32) := own_A hu (by decide)
  have a54 : c < (65534 : Int32) := own_A hu (by decide)
  have a55 : c < (65536 : Int32) := own_A hu (by decide)
  simp only [f1_208, f1_204, f1_198, f1_192, f1_186, f1_180, f1_174, f1_168, f1_162, f1_155, f1_148, f1_141, f1_134, f1_127, f1_120, f1_113, f1_106, f1_99, f1_92, f1_85, f1_78, f1_71, f1_64, f1_57, f1_50, f1_43, f1_41, f1_37, f1_31, f1_25, f1_19, f1_13, f1_7, f1_0, f3_14, f3_10, f3_5, f3_0, f2_10, f2_184, f2_180, f2_175, f2_170, f2_174, f2_159, f2_148, f2_137, f2_124, f2_111, f2_98, f2_85, f2_78, f2_65, f2_58, f2_51, f2_39, f2_33, f2_22, f2_12, f2_4, f2_0, a0, a1, a2, a3, a4, a5, a6, a7, a8, a9, a10, a11, a12, a13, a14, a15, a16, a17, a18, a19, a20, a21, a22, a23, a24, a25, a26, a27, a28, a29, a30, a31, a32, a33, a34, a35, a36, a37, a38, a39, a40, a41, a42, a43, a44, a45, a46, a47, a48, a49, a50, a51, a52, a53, a54, a55, own_10, ↓reduceIte]
theorem own_i20 (c : Int32) (hl : ¬ c < (8206 : Int32)) (hu : c < (8304 : Int32)) : f1_0 c = f2_0 c := by
  have a0 : ¬ c = (95 : Int32) := own_G hl (by decide)
  have a1 : ¬ c = (96 : Int32) := own_G hl (by decide)
  have a2 : ¬ c = (215 : Int32) := own_G hl (by decide)
  have a3 : ¬ c = (247 : Int32) := own_G hl (by decide)
  have a4 : ¬ c = (894 : Int32) := own_G hl (by decide)
  have a5 : (64 : Int32) < c := own_C hl (by decide)
  have a6 : (90 : Int32) < c := own_C hl (by decide)
  have a7 : (94 : Int32) < c := own_C hl (by decide)
  have a8 : (122 : Int32) < c := own_C hl (by decide)
  have a9 : (191 : Int32) < c := own_C hl (by decide)
  have a10 : (214 : Int32) < c := own_C hl (by decide)
  have a11 : (246 : Int32) < c := own_C hl (by decide)
  have a12 : (767 : Int32) < c := own_C hl (by decide)
  have a13 : (879 : Int32) < c := own_C hl (by decide)
  have a14 : (893 : Int32) < c := own_C hl (by decide)
  have a15 : (8191 : Int32) < c := own_C hl (by decide)
  have a16 : (8203 : Int32) < c := own_C hl (by decide)
  have a17 : (8205 : Int32) < c := own_C hl (by decide)
  have a18 : ¬ (8303 : Int32) < c := own_D hu (by decide)
  have a19 : ¬ (8591 : Int32) < c := own_D hu (by decide)
  have a20 : ¬ (11263 : Int32) < c := own_D hu (by decide)
  have a21 : ¬ (12271 : Int32) < c := own_D hu (by decide)
  have a22 : ¬ (12288 : Int32) < c := own_D hu (by decide)
  have a23 : ¬ (55295 : Int32) < c := own_D hu (by decide)
  have a24 : ¬ (63743 : Int32) < c := own_D hu (by decide)
  have a25 : ¬ (64975 : Int32) < c := own_D hu (by decide)
  have a26 : ¬ (65007 : Int32) < c := own_D hu (by decide)
  have a27 : ¬ (65533 : Int32) < c := own_D hu (by decide)
  have a28 : ¬ (65535 : Int32) < c := own_D hu (by decide)
  have a29 : ¬ (983039 : Int32) < c := own_D hu (by decide)
  have a30 : ¬ c < (0 : Int32) := own_B hl (by decide)
  have a31 : ¬ c < (65 : Int32) := own_B hl (by decide)
  have a32 : ¬ c < (91 : Int32) := own_B hl (by decide)
  have a33 : ¬ c < (97 : Int32) := own_B hl (by decide)
  have a34 : ¬ c < (123 : Int32) := own_B hl (by decide)
  have a35 : ¬ c < (128 : Int32) := own_B hl (by decide)
  have a36 : ¬ c < (192 : Int32) := own_B hl (by decide)
  have a37 : ¬ c < (216 : Int32) := own_B hl (by decide)
  have a38 : ¬ c < (248 : Int32) := own_B hl (by decide)
  have a39 : ¬ c < (768 : Int32) := own_B hl (by decide)
  have a40 : ¬ c < (880 : Int32) := own_B hl (by decide)
  have a41 : ¬ c < (895 : Int32) := own_B hl (by decide)
  have a42 : ¬ c < (8192 : Int32) := own_B hl (by decide)
  have a43 : ¬ c < (8204 : Int32) := own_B hl (by decide)
  have a44 : ¬ c < (8206 : Int32) := own_B hl (by decide)
  have a45 : c < (8304 : Int32) := own_A hu (by decide)
  have a46 : c < (8592 : Int32) := own_A hu (by decide)
  have a47 : c < (11264 : Int32) := own_A hu (by decide)
  have a48 : c < (12272 : Int32) := own_A hu (by decide)
  have a49 : c < (12289 : Int32) := own_A hu (by decide)
  have a50 : c < (55296 : Int32) := own_A hu (by decide)
  have a51 : c < (63744 : Int32) := own_A hu (by decide)
  have a52 : c < (64976 : Int32) := own_A hu (by decide)
  have a53 : c < (65008 : Int32) := own_A hu (by decide)
  have a54 : c < (65534 : Int32) := own_A hu (by decide)
  have a55 : c < (65536 : Int32) := own_A hu (by decide)
  simp only [f1_208, f1_204, f1_198, f1_192, f1_186, f1_180, f1_174, f1_168, f1_162, f1_155, f1_148, f1_141, f1_134, f1_127, f1_120, f1_113, f1_106, f1_99, f1_92, f1_85, f1_78, f1_71, f1_64, f1_57, f1_50, f1_43, f1_41, f1_37, f1_31, f1_25, f1_19, f1_13, f1_7, f1_0, f3_14, f3_10, f3_5, f3_0, f2_10, f2_184, f2_180, f2_175, f2_170, f2_174, f2_159, f2_148, f2_137, f2_124, f2_111, f2_98, f2_85, f2_78, f2_65, f2_58, f2_51, f2_39, f2_33, f2_22, f2_12, f2_4, f2_0, a0, a1, a2, a3, a4, a5, a6, a7, a8, a9, a10, a11, a12, a13, a14, a15, a16, a17, a18, a19, a20, a21, a22, a23, a24, a25, a26, a27, a28, a29, a30, a31, a32, a33, a34, a35, a36, a37, a38, a39, a40, a41, a42, a43, a44, a45, a46, a47, a48, a49, a50, a51, a52, a53, a54, a55, own_10, ↓reduceIte]
theorem own_i21 (c : Int32) (hl : ¬ c < (8304 : Int32)) (hu : c < (8592 : Int32)) : f1_0 c = f2_0 c := by
  have a0 : ¬ c = (95 : Int32) := own_G hl (by decide)
  have a1 : ¬ c = (96 : Int32) := own_G hl (by decide)
  have a2 : ¬ c = (215 : Int32) := own_G hl (by decide)
  have a3 : ¬ c = (247 : Int32) := own_G hl (by decide)
  have a4 : ¬ c = (894 : Int32) := own_G hl (by decide)
  have a5 : (64 : Int32) < c := own_C hl (by decide)
  have a6 : (90 : Int32) < c := own_C hl (by decide)
  have a7 : (94 : Int32) < c := own_C hl (by decide)
  have a8 : (122 : Int32) < c := own_C hl (by decide)
  have a9 : (191 : Int32) < c := own_C hl (by decide)
  have a10 : (214 : Int32) < c := own_C hl (by decide)
  have a11 : (246 : Int32) < c := own_C hl (by decide)
  have a12 : (767 : Int32) < c := own_C hl (by decide)
  have a13 : (879 : Int32) < c := own_C hl (by decide)
  have a14 : (893 : Int32) < c := own_C hl (by decide)
  have a15 : (8191 : Int32) < c := own_C hl (by decide)
  have a16 : (8203 : Int32) < c := own_C hl (by decide)
  have a17 : (8205 : Int32) < c := own_C hl (by decide)
  have a18 : (8303 : Int32) < c := own_C hl (by decide)
  have a19 : ¬ (8591 : Int32) < c := own_D hu (by decide)
  have a20 : ¬ (11263 : Int32) < c := own_D hu (by decide)
  have a21 : ¬ (12271 : Int32) < c := own_D hu (by decide)
  have a22 : ¬ (12288 : Int32) < c := own_D hu (by decide)
  have a23 : ¬ (55295 : Int32) < c := own_D hu (by decide)
  have a24 : ¬ (63743 : Int32) < c := own_D hu (by decide)
  have a25 : ¬ (64975 : Int32) < c := own_D hu (by decide)
  have a26 : ¬ (65007 : Int32) < c := own_D hu (by decide)
  have a27 : ¬ (65533 : Int32) < c := own_D hu (by decide)
  have a28 : ¬ (65535 : Int32) < c := own_D hu (by decide)
  have a29 : ¬ (983039 : Int32) < c := own_D hu (by decide)
  have a30 : ¬ c < (0 : Int32) := own_B hl (by decide)
  have a31 : ¬ c < (65 : Int32) := own_B hl (by decide)
  have a32 : ¬ c < (91 : Int32) := own_B hl (by decide)
  have a33 : ¬ c < (97 : Int32) := own_B hl (by decide)
  have a34 : ¬ c < (123 : Int32) := own_B hl (by decide)
  have a35 : ¬ c < (128 : Int32) := own_B hl (by decide)
  have a36 : ¬ c < (192 : Int32) := own_B hl (by decide)
  have a37 : ¬ c < (216 : Int32) := own_B hl (by decide)
  have a38 : ¬ c < (248 : Int32) := own_B hl (by decide)
  have a39 : ¬ c < (768 : Int32) := own_B hl (by decide)
  have a40 : ¬ c < (880 : Int32) := own_B hl (by decide)
  have a41 : ¬ c < (895 : Int32) := own_B hl (by decide)
  have a42 : ¬ c < (8192 : Int32) := own_B hl (by decide)
  have a43 : ¬ c < (8204 : Int32) := own_B hl (by decide)
  have a44 : ¬ c < (8206 : Int32) := own_B hl (by decide)
  have a45 : ¬ c < (8304 : Int32) := own_B hl (by decide)
  have a46 : c < (8592 : Int32) := own_A hu (by decide)
  have a47 : c < (11264 : Int32) := own_A hu (by decide)
  have a48 : c < (12272 : Int32) := own_A hu (by decide)
  have a49 : c < (12289 : Int32) := own_A hu (by decide)
  have a50 : c < (55296 : Int32) := own_A hu (by decide)
  have a51 : c < (63744 : Int32) := own_A hu (by decide)
  have a52 : c < (64976 : Int32) := own_A hu (by decide)
  have a53 : c < (65008 : Int32) := own_A hu (by decide)
  have a54 : c < (65534 : Int32) := own_A hu (by decide)
  have a55 : c < (65536 : Int32) := own_A hu (by decide)
  simp only [f1_208, f1_204, f1_198, f1_192, f1_186, f1_180, f1_174, f1_168, f1_162, f1_155, f1_148, f1_141, f1_134, f1_127, f1_120, f1_113, f1_106, f1_99, f1_92, f1_85, f1_78, f1_71, f1_64, f1_57, f1_50, f1_43, f1_41, f1_37, f1_31, f1_25, f1_19, f1_13, f1_7, f1_0, f3_14, f3_10, f3_5, f3_0, f2_10, f2_184, f2_180, f2_175, f2_170, f2_174, f2_159, f2_148, f2_137, f2_124, f2_111, f2_98, f2_85, f2_78, f2_65, f2_58, f2_51, f2_39, f2_33, f2_22, f2_12, f2_4, f2_0, a0, a1, a2, a3, a4, a5, a6, a7, a8, a9, a10, a11, a12, a13, a14, a15, a16, a17, a18, a19, a20, a21, a22, a23, a24, a25, a26, a27, a28, a29, a30, a31, a32, a33, a34, a35, a36, a37, a38, a39, a40, a41, a42, a43, a44, a45, a46, a47, a48, a49, a50, a51, a52, a53, a54, a55, own_10, ↓reduceIte]
theorem own_i22 (c : Int32) (hl : ¬ c < (8592 : Int32)) (hu : c < (11264 : Int32)) : f1_0 c = f2_0 c := by
  have a0 : ¬ c = (95 : Int32) := own_G hl (by decide)
  have a1 : ¬ c = (96 : Int32) := own_G hl (by decide)
  have a2 : ¬ c = (215 : Int32) := own_G hl (by decide)
  have a3 : ¬ c = (247 : Int32) := own_G hl (by decide)
  have a4 : ¬ c = (894 : Int32) := own_G hl (by decide)
  have a5 : (64 : Int32) < c := own_C hl (by decide)
  have a6 : (90 : Int32) < c := own_C hl (by decide)
  have a7 : (94 : Int32) < c := own_C hl (by decide)
  have a8 : (122 : Int32) < c := own_C hl (by decide)
  have a9 : (191 : Int32) < c := own_C hl (by decide)
  have a10 : (214 : Int32) < c := own_C hl (by decide)
  have a11 : (246 : Int32) < c := own_C hl (by decide)
  have a12 : (767 : Int32) < c := own_C hl (by decide)
  have a13 : (879 : Int32) < c := own_C hl (by decide)
  have a14 : (893 : Int32) < c := own_C hl (by decide)
  have a15 : (8191 : Int32) < c := own_C hl (by decide)
  have a16 : (8203 : Int32) < c := own_C hl (by decide)
  have a17 : (8205 : Int32) < c := own_C hl (by decide)
  have a18 : (8303 : Int32) < c := own_C hl (by decide)
  have a19 : (8591 : Int32) < c := own_C hl (by decide)
  have a20 : ¬ (11263 : Int32) < c := own_D hu (by decide)
  have a21 : ¬ (12271 : Int32) < c := own_D hu (by decide)
  have a22 : ¬ (12288 : Int32) < c := own_D hu (by decide)
  have a23 : ¬ (55295 : Int32) < c := own_D hu (by decide)
  have a24 : ¬ (63743 : Int32) < c := own_D hu (by decide)
  have a25 : ¬ (64975 : Int32) < c := own_D hu (by decide)
  have a26 : ¬ (65007 : Int32) < c := own_D hu (by decide)
  have a27 : ¬ (65533 : Int32) < c := own_D hu (by decide)
  have a28 : ¬ (65535 : Int32) < c := own_D hu (by decide)
  have a29 : ¬ (983039 : Int32) < c := own_D hu (by decide)
  have a30 : ¬ c < (0 : Int32) := own_B hl (by decide)
  have a31 : ¬ c < (65 : Int32) := own_B hl (by decide)
  have a32 : ¬ c < (91 : Int32) := own_B hl (by decide)
  have a33 : ¬ c < (97 : Int32) := own_B hl (by decide)
  have a34 : ¬ c < (123 : Int32) := own_B hl (by decide)
  have a35 : ¬ c < (128 : Int32) := own_B hl (by decide)
  have a36 : ¬ c < (192 : Int32) := own_B hl (by decide)
  have a37 : ¬ c < (216 : Int32) := own_B hl (by decide)
  have a38 : ¬ c < (248 : Int32) := own_B hl (by decide)
  have a39 : ¬ c < (768 : Int32) := own_B hl (by decide)
  have a40 : ¬ c < (880 : Int32) := own_B hl (by decide)
  have a41 : ¬ c < (895 : Int32) := own_B hl (by decide)
  have a42 : ¬ c < (8192 : Int32) := own_B hl (by decide)
  have a43 : ¬ c < (8204 : Int32) := own_B hl (by decide)
  have a44 : ¬ c < (8206 : Int32) := own_B hl (by decide)
  have a45 : ¬ c < (8304 : Int32) := own_B hl (by decide)
  have a46 : ¬ c < (8592 : Int32) := own_B hl (by decide)
  have a47 : c < (11264 : Int32) := own_A hu (by decide)
  have a48 : c < (12272 : Int32) := own_A hu (by decide)
  have a49 : c < (12289 : Int32) := own_A hu (by decide)
  have a50 : c < (55296 : Int32) := own_A hu (by decide)
  have a51 : c < (63744 : Int32) := own_A hu (by decide)
  have a52 : c < (64976 : Int32) := own_A hu (by decide)
  have a53 : c < (65008 : Int32) := own_A hu (by decide)
  have a54 : c < (65534 : Int32) := own_A hu (by decide)
  have a55 : c < (65536 : Int32) := own_A hu (by decide)
  simp only [f1_208, f1_204, f1_198, f1_192, f1_186, f1_180, f1_174, f1_168, f1_162, f1_155, f1_148, f1_141, f1_134, f1_127, f1_120, f1_113, f1_106, f1_99, f1_92, f1_85, f1_78, f1_71, f1_64, f1_57, f1_50, f1_43, f1_41, f1_37, f1_31, f1_25, f1_19, f1_13, f1_7, f1_0, f3_14, f3_10, f3_5, f3_0, f2_10, f2_184, f2_180, f2_175, f2_170, f2_174, f2_159, f2_148, f2_137, f2_124, f2_111, f2_98, f2_85, f2_78, f2_65, f2_58, f2_51, f2_39, f2_33, f2_22, f2_12, f2_4, f2_0, a0, a1, a2, a3, a4, a5, a6, a7, a8, a9, a10, a11, a12, a13, a14, a15, a16, a17, a18, a19, a20, a21, a22, a23, a24, a25, a26, a27, a28, a29, a30, a31, a32, a33, a34, a35, a36, a37, a38, a39, a40, a41, a42, a43, a44, a45, a46, a47, a48, a49, a50, a51, a52, a53, a54, a55, own_10, ↓reduceIte]
theorem own_i23 (c : Int32) (hl : ¬ c < (11264 : Int32)) (hu : c < (12272 : Int32)) : f1_0 c = f2_0 c := by
  have a0 : ¬ c = (95 : Int32) := own_G hl (by decide)
  have a1 : ¬ c = (96 : Int32) := own_G hl (by decide)
  have a2 : ¬ c = (215 : Int32) := own_G hl (by decide)
  have a3 : ¬ c = (247 : Int32) := own_G hl (by decide)
  have a4 : ¬ c = (894 : Int32) := own_G hl (by decide)
  have a5 : (64 : Int32) < c := own_C hl (by decide)
  have a6 : (90 : Int32) < c := own_C hl (by decide)
  have a7 : (94 : Int32) < c := own_C hl (by decide)
  have a8 : (122 : Int32) < c := own_C hl (by decide)
  have a9 : (191 : Int32) < c := own_C hl (by decide)
  have a10 : (214 : Int32) < c := own_C hl (by decide)
  have a11 : (246 : Int32) < c := own_C hl (by decide)
  have a12 : (767 : Int32) < c := own_C hl (by decide)
  have a13 : (879 : Int32) < c := own_C hl (by decide)
  have a14 : (893 : Int32) < c := own_C hl (by decide)
  have a15 : (8191 : Int32) < c := own_C hl (by decide)
  have a16 : (8203 : Int32) < c := own_C hl (by decide)
  have a17 : (8205 : Int32) < c := own_C hl (by decide)
  have a18 : (8303 : Int32) < c := own_C hl (by decide)
  have a19 : (8591 : Int32) < c := own_C hl (by decide)
  have a20 : (11263 : Int32) < c := own_C hl (by decide)
  have a21 : ¬ (12271 : Int32) < c := own_D hu (by decide)
  have a22 : ¬ (12288 : Int32) < c := own_D hu (by decide)
  have a23 : ¬ (55295 : Int32) < c := own_D hu (by decide)
  have a24 : ¬ (63743 : Int32) < c := own_D hu (by decide)
  have a25 : ¬ (64975 : Int32) < c := own_D hu (by decide)
  have a26 : ¬ (65007 : Int32) < c := own_D hu (by decide)
  have a27 : ¬ (65533 : Int32) < c := own_D hu (by decide)
  have a28 : ¬ (65535 : Int32) < c := own_D hu (by decide)
  have a29 : ¬ (983039 : Int32) < c := own_D hu (by decide)
  have a30 : ¬ c < (0 : Int32) := own_B hl (by decide)
  have a31 : ¬ c < (65 : Int32) := own_B hl (by decide)
  have a32 : ¬ c < (91 : Int32) := own_B hl (by decide)
  have a33 : ¬ c < (97 : Int32) := own_B hl (by decide)
  have a34 : ¬ c < (123 : Int32) := own_B hl (by decide)
  have a35 : ¬ c < (128 : Int32) := own_B hl (by decide)
  have a36 : ¬ c < (192 : Int32) := own_B hl (by decide)
  have a37 : ¬ c < (216 : Int32) := own_B hl (by decide)
  have a38 : ¬ c < (248 : Int32) := own_B hl (by decide)
  have a39 : ¬ c < (768 : Int32) := own_B hl (by decide)
  have a40 : ¬ c < (880 : Int32) := own_B hl (by decide)
  have a41 : ¬ c < (895 : Int32) := own_B hl (by decide)
  have a42 : ¬ c < (8192 : Int32) := own_B hl (by decide)
  have a43 : ¬ c < (8204 : Int32) := own_B hl (by decide)
  have a44 : ¬ c < (8206 : Int32) := own_B hl (by decide)
  have a45 : ¬ c < (8304 : Int32) := own_B hl (by decide)
  have a46 : ¬ c < (8592 : Int32) := own_B hl (by decide)
  have a47 : ¬ c < (11264 : Int32) := own_B hl (by decide)
  have a48 : c < (12272 : Int32) := own_A hu (by decide)
  have a49 : c < (12289 : Int32) := own_A hu (by decide)
  have a50 : c < (55296 : Int32) := own_A hu (by decide)
  have a51 : c < (63744 : Int32) := own_A hu (by decide)
  have a52 : c < (64976 : Int32) := own_A hu (by decide)
  have a53 : c < (65008 : Int32) := own_A hu (by decide)
  have a54 : c < (65534 : Int32) := own_A hu (by decide)
  have a55 : c < (65536 : Int32) := own_A hu (by decide)
  simp only [f1_208, f1_204, f1_198, f1_192, f1_186, f1_180, f1_174, f1_168, f1_162, f1_155, f1_148, f1_141, f1_134, f1_127, f1_120, f1_113, f1_106, f1_99, f1_92, f1_85, f1_78, f1_71, f1_64, f1_57, f1_50, f1_43, f1_41, f1_37, f1_31, f1_25, f1_19, f1_13, f1_7, f1_0, f3_14, f3_10, f3_5, f3_0, f2_10, f2_184, f2_180, f2_175, f2_170, f2_174, f2_159, f2_148, f2_137, f2_124, f2_111, f2_98, f2_85, f2_78, f2_65, f2_58, f2_51, f2_39, f2_33, f2_22, f2_12, f2_4, f2_0, a0, a1, a2, a3, a4, a5, a6, a7, a8, a9, a10, a11, a12, a13, a14, a15, a16, a17, a18, a19, a20, a21, a22, a23, a24, a25, a26, a27, a28, a29, a30, a31, a32, a33, a34, a35, a36, a37, a38, a39, a40, a41, a42, a43, a44, a45, a46, a47, a48, a49, a50, a51, a52, a53, a54, a55, own_10, ↓reduceIte]
theorem own_i24 (c : Int32) (hl : ¬ c < (12272 : Int32)) (hu : c < (12289 : Int32)) : f1_0 c = f2_0 c := by
  have a0 : ¬ c = (95 : Int32) := own_G hl (by decide)
  have a1 : ¬ c = (96 : Int32) := own_G hl (by decide)
  have a2 : ¬ c = (215 : Int32) := own_G hl (by decide)
  have a3 : ¬ c = (247 : Int32) := own_G hl (by decide)
  have a4 : ¬ c = (894 : Int32) := own_G hl (by decide)
  have a5 : (64 : Int32) < c := own_C hl (by decide)
  have a6 : (90 : Int32) < c := own_C hl (by decide)
  have a7 : (94 : Int32) < c := own_C hl (by decide)
  have a8 : (122 : Int32) < c := own_C hl (by decide)
  have a9 : (191 : Int32) < c := own_C hl (by decide)
  have a10 : (214 : Int32) < c := own_C hl (by decide)
  have a11 : (246 : Int32) < c := own_C hl (by decide)
  have a12 : (767 : Int32) < c := own_C hl (by decide)
  have a13 : (879 : Int32) < c := own_C hl (by decide)
  have a14 : (893 : Int32) < c := own_C hl (by decide)
  have a15 : (8191 : Int32) < c := own_C hl (by decide)
  have a16 : (8203 : Int32) < c := own_C hl (by decide)
  have a17 : (8205 : Int32) < c := own_C hl (by decide)
  have a18 : (8303 : Int32) < c := own_C hl (by decide)
  have a19 : (8591 : Int32) < c := own_C hl (by decide)
  have a20 : (11263 : Int32) < c := own_C hl (by decide)
  have a21 : (12271 : Int32) < c := own_C hl (by decide)
  have a22 : ¬ (12288 : Int32) < c := own_D hu (by decide)
  have a23 : ¬ (55295 : Int32) < c := own_D hu (by decide)
  have a24 : ¬ (63743 : Int32) < c := own_D hu (by decide)
  have a25 : ¬ (64975 : Int32) < c := own_D hu (by decide)
  have a26 : ¬ (65007 : Int32) < c := own_D hu (by decide)
  have a27 : ¬ (65533 : Int32) < c := own_D hu (by decide)
  have a28 : ¬ (65535 : Int32) < c := own_D hu (by decide)
  have a29 : ¬ (983039 : Int32) < c := own_D hu (by decide)
  have a30 : ¬ c < (0 : Int32) := own_B hl (by decide)
  have a31 : ¬ c < (65 : Int32) := own_B hl (by decide)
  have a32 : ¬ c < (91 : Int32) := own_B hl (by decide)
  have a33 : ¬ c < (97 : Int32) := own_B hl (by decide)
  have a34 : ¬ c < (123 : Int32) := own_B hl (by decide)
  have a35 : ¬ c < (128 : Int32) := own_B hl (by decide)
  have a36 : ¬ c < (192 : Int32) := own_B hl (by decide)
  have a37 : ¬ c < (216 : Int32) := own_B hl (by decide)
  have a38 : ¬ c < (248 : Int32) := own_B hl (by decide)
  have a39 : ¬ c < (768 : Int32) := own_B hl (by decide)
  have a40 : ¬ c < (880 : Int32) := own_B hl (by decide)
  have a41 : ¬ c < (895 : Int32) := own_B hl (by decide)
  have a42 : ¬ c < (8192 : Int32) := own_B hl (by decide)
  have a43 : ¬ c < (8204 : Int32) := own_B hl (by decide)
  have a44 : ¬ c < (8206 : Int32) := own_B hl (by decide)
  have a45 : ¬ c < (8304 : Int32) := own_B hl (by decide)
  have a46 : ¬ c < (8592 : Int32) := own_B hl (by decide)
  have a47 : ¬ c < (11264 : Int32) := own_B hl (by decide)
  have a48 : ¬ c < (12272 : Int32) := own_B hl (by decide)
  have a49 : c < (12289 : Int32) := own_A hu (by decide)
  have a50 : c < (55296 : Int32) := own_A hu (by decide)
  have a51 : c < (63744 : Int32) := own_A hu (by decide)
  have a52 : c < (64976 : Int32) := own_A hu (by decide)
  have a53 : c < (65008 : Int32) := own_A hu (by decide)
  have a54 : c < (65534 : Int32) := own_A hu (by decide)
  have a55 : c < (65536 : Int32) := own_A hu (by decide)
  simp only [f1_208, f1_204, f1_198, f1_192, f1_186, f1_180, f1_174, f1_168, f1_162, f1_155, f1_148, f1_141, f1_134, f1_127, f1_120, f1_113, f1_106, f1_99, f1_92, f1_85, f1_78, f1_71, f1_64, f1_57, f1_50, f1_43, f1_41, f1_37, f1_31, f1_25, f1_19, f1_13, f1_7, f1_0, f3_14, f3_10, f3_5, f3_0, f2_10, f2_184, f2_180, f2_175, f2_170, f2_174, f2_159, f2_148, f2_137, f2_124, f2_111, f2_98, f2_85, f2_78, f2_65, f2_58, f2_51, f2_39, f2_33, f2_22, f2_12, f2_4, f2_0, a0, a1, a2, a3, a4, a5, a6, a7, a8, a9, a10, a11, a12, a13, a14, a15, a16, a17, a18, a19, a20, a21, a22, a23, a24, a25, a26, a27, a28, a29, a30, a31, a32, a33, a34, a35, a36, a37, a38, a39, a40, a41, a42, a43, a44, a45, a46, a47, a48, a49, a50, a51, a52, a53, a54, a55, own_10, ↓reduceIte]
theorem own_i25 (c : Int32) (hl : ¬ c < (12289 : Int32)) (hu : c < (55296 : Int32)) : f1_0 c = f2_0 c := by
  have a0 : ¬ c = (95 : Int32) := own_G hl (by decide)
  have a1 : ¬ c = (96 : Int32) := own_G hl (by decide)
  have a2 : ¬ c = (215 : Int32) := own_G hl (by decide)
  have a3 : ¬ c = (247 : Int32) := own_G hl (by decide)
  have a4 : ¬ c = (894 : Int32) := own_G hl (by decide)
  have a5 : (64 : Int32) < c := own_C hl (by decide)
  have a6 : (90 : Int32) < c := own_C hl (by decide)
  have a7 : (94 : Int32) < c := own_C hl (by decide)
  have a8 : (122 : Int32) < c := own_C hl (by decide)
  have a9 : (191 : Int32) < c := own_C hl (by decide)
  have a10 : (214 : Int32) < c := own_C hl (by decide)
  have a11 : (246 : Int32) < c := own_C hl (by decide)
  have a12 : (767 : Int32) < c := own_C hl (by decide)
  have a13 : (879 : Int32) < c := own_C hl (by decide)
  have a14 : (893 : Int32) < c := own_C hl (by decide)
  have a15 : (8191 : Int32) < c := own_C hl (by decide)
  have a16 : (8203 : Int32) < c := own_C hl (by decide)
  have a17 : (8205 : Int32) < c := own_C hl (by decide)
  have a18 : (8303 : Int32) < c := own_C hl (by decide)
  have a19 : (8591 : Int32) < c := own_C hl (by decide)
  have a20 : (11263 : Int32) < c := own_C hl (by decide)
  have a21 : (12271 : Int32) < c := own_C hl (by decide)
  have a22 : (12288 : Int32) < c := own_C hl (by decide)
  have a23 : ¬ (55295 : Int32) < c := own_D hu (by decide)
  have a24 : ¬ (63743 : Int32) < c := own_D hu (by decide)
  have a25 : ¬ (64975 : Int32) < c := own_D hu (by decide)
  have a26 : ¬ (65007 : Int32) < c := own_D hu (by decide)
  have a27 : ¬ (65533 : Int32) < c := own_D hu (by decide)
  have a28 : ¬ (65535 : Int32) < c := own_D hu (by decide)
  have a29 : ¬ (983039 : Int32) < c := own_D hu (by decide)
  have a30 : ¬ c < (0 : Int32) := own_B hl (by decide)
  have a31 : ¬ c < (65 : Int32) := own_B hl (by decide)
  have a32 : ¬ c < (91 : Int32) := own_B hl (by decide)
  have a33 : ¬ c < (97 : Int32) := own_B hl (by decide)
  have a34 : ¬ c < (123 : Int32) := own_B hl (by decide)
  have a35 : ¬ c < (128 : Int32) := own_B hl (by decide)
  have a36 : ¬ c < (192 : Int32) := own_B hl (by decide)
  have a37 : ¬ c < (216 : Int32) := own_B hl (by decide)
  have a38 : ¬ c < (248 : Int32) := own_B hl (by decide)
  have a39 : ¬ c < (768 : Int32) := own_B hl (by decide)
  have a40 : ¬ c < (880 : Int32) := own_B hl (by decide)
  have a41 : ¬ c < (895 : Int32) := own_B hl (by decide)
  have a42 : ¬ c < (8192 : Int32) := own_B hl (by decide)
  have a43 : ¬ c < (8204 : Int32) := own_B hl (by decide)
  have a44 : ¬ c < (8206 : Int32) := own_B hl (by decide)
  have a45 : ¬ c < (8304 : Int32) := own_B hl (by decide)
  have a46 : ¬ c < (8592 : Int32) := own_B hl (by decide)
  have a47 : ¬ c < (11264 : Int32) := own_B hl (by decide)
  have a48 : ¬ c < (12272 : Int32) := own_B hl (by decide)
  have a49 : ¬ c < (12289 : Int32) := own_B hl (by decide)
  have a50 : c < (55296 : Int32) := own_A hu (by decide)
  have a51 : c < (63744 : Int32) := own_A hu (by decide)
  have a52 : c < (64976 : Int32) := own_A hu (by decide)
  have a53 : c < (65008 : Int32) := own_A hu (by decide)
  have a54 : c < (65534 : Int32) := own_A hu (by decide)
  have a55 : c < (65536 : Int32) := own_A hu (by decide)
  simp only [f1_208, f1_204, f1_198, f1_192, f1_186, f1_180, f1_174, f1_168, f1_162, f1_155, f1_148, f1_141, f1_134, f1_127, f1_120, f1_113, f1_106, f1_99, f1_92, f1_85, f1_78, f1_71, f1_64, f1_57, f1_50, f1_43, f1_41, f1_37, f1_31, f1_25, f1_19, f1_13, f1_7, f1_0, f3_14, f3_10, f3_5, f3_0, f2_10, f2_184, f2_180, f2_175, f2_170, f2_174, f2_159, f2_148, f2_137, f2_124, f2_111, f2_98, f2_85, f2_78, f2_65, f2_58, f2_51, f2_39, f2_33, f2_22, f2_12, f2_4, f2_0, a0, a1, a2, a3, a4, a5, a6, a7, a8, a9, a10, a11, a12, a13, a14, a15, a16, a17, a18, a19, a20, a21, a22, a23, a24, a25, a26, a27, a28, a29, a30, a31, a32, a33, a34, a35, a36, a37, a38, a39, a40, a41, a42, a43, a44, a45, a46, a47, a48, a49, a50, a51, a52, a53, a54, a55, own_10, ↓reduceIte]
theorem own_i26 (c : Int32) (hl : ¬ c < (55296 : Int32)) (hu : c < (63744 : Int32)) : f1_0 c = f2_0 c := by
  have a0 : ¬ c = (95 : Int32) := own_G hl (by decide)
  have a1 : ¬ c = (96 : Int32) := own_G hl (by decide)
  have a2 : ¬ c = (215 : Int32) := own_G hl (by decide)
  have a3 : ¬ c = (247 : Int32) := own_G hl (by decide)
  have a4 : ¬ c = (894 : Int32) := own_G hl (by decide)
  have a5 : (64 : Int32) < c := own_C hl (by decide)
  have a6 : (90 : Int32) < c := own_C hl (by decide)
  have a7 : (94 : Int32) < c := own_C hl (by decide)
  have a8 : (122 : Int32) < c := own_C hl (by decide)
  have a9 : (191 : Int32) < c := own_C hl (by decide)
  have a10 : (214 : Int32) < c := own_C hl (by decide)
  have a11 : (246 : Int32) < c := own_C hl (by decide)
  have a12 : (767 : Int32) < c := own_C hl (by decide)
  have a13 : (879 : Int32) < c := own_C hl (by decide)
  have a14 : (893 : Int32) < c := own_C hl (by decide)
  have a15 : (8191 : Int32) < c := own_C hl (by decide)
  have a16 : (8203 : Int32) < c := own_C hl (by decide)
  have a17 : (8205 : Int32) < c := own_C hl (by decide)
  have a18 : (8303 : Int32) < c := own_C hl (by decide)
  have a19 : (8591 : Int32) < c := own_C hl (by decide)
  have a20 : (11263 : Int32) < c := own_C hl (by decide)
  have a21 : (12271 : Int32) < c := own_C hl (by decide)
  have a22 : (12288 : Int32) < c := own_C hl (by decide)
  have a23 : (55295 : Int32) < c := own_C hl (by decide)
  have a24 : ¬ (63743 : Int32) < c := own_D hu (by decide)
  have a25 : ¬ (64975 : Int32) < c := own_D hu (by decide)
  have a26 : ¬ (65007 : Int32) < c := own_D hu (by decide)
  have a27 : ¬ (65533 : Int32) < c := own_D hu (by decide)
  have a28 : ¬ (65535 : Int32) < c := own_D hu (by decide)
  have a29 : ¬ (983039 : Int32) < c := own_D hu (by decide)
  have a30 : ¬ c < (0 : Int32) := own_B hl (by decide)
  have a31 : ¬ c < (65 : Int32) := own_B hl (by decide)
  have a32 : ¬ c < (91 : Int32) := own_B hl (by decide)
  have a33 : ¬ c < (97 : Int32) := own_B hl (by decide)
  have a34 : ¬ c < (123 : Int32) := own_B hl (by decide)
  have a35 : ¬ c < (128 : Int32) := own_B hl (by decide)
  have a36 : ¬ c < (192 : Int32) := own_B hl (by decide)
  have a37 : ¬ c < (216 : Int32) := own_B hl (by decide)
  have a38 : ¬ c < (248 : Int32) := own_B hl (by decide)
  have a39 : ¬ c < (768 : Int32) := own_B hl (by decide)
  have a40 : ¬ c < (880 : Int32) := own_B hl (by decide)
  have a41 : ¬ c < (895 : Int32) := own_B hl (by decide)
  have a42 : ¬ c < (8192 : Int32) := own_B hl (by decide)
  have a43 : ¬ c < (8204 : Int32) := own_B hl (by decide)
  have a44 : ¬ c < (8206 : Int32) := own_B hl (by decide)
  have a45 : ¬ c < (8304 : Int32) := own_B hl (by decide)
  have a46 : ¬ c < (8592 : Int32) := own_B hl (by decide)
  have a47 : ¬ c < (11264 : Int32) := own_B hl (by decide)
  have a48 : ¬ c < (12272 : Int32) := own_B hl (by decide)
  have a49 : ¬ c < (12289 : Int32) := own_B hl (by decide)
  have a50 : ¬ c < (55296 : Int32) := own_B hl (by decide)
  have a51 : c < (63744 : Int32) := own_A hu (by decide)
  have a52 : c < (64976 : Int32) := own_A hu (by decide)
  have a53 : c < (65008 : Int32) := own_A hu (by decide)
  have a54 : c < (65534 : Int32) := own_A hu (by decide)
  have a55 : c < (65536 : Int32) := own_A hu (by decide)
  simp only [f1_208, f1_204, f1_198, f1_192, f1_186, f1_180, f1_174, f1_168, f1_162, f1_155, f1_148, f1_141, f1_134, f1_127, f1_120, f1_113, f1_106, f1_99, f1_92, f1_85, f1_78, f1_71, f1_64, f1_57, f1_50, f1_43, f1_41, f1_37, f1_31, f1_25, f1_19, f1_13, f1_7, f1_0, f3_14, f3_10, f3_5, f3_0, f2_10, f2_184, f2_180, f2_175, f2_170, f2_174, f2_159, f2_148, f2_137, f2_124, f2_111, f2_98, f2_85, f2_78, f2_65, f2_58, f2_51, f2_39, f2_33, f2_22, f2_12, f2_4, f2_0, a0, a1, a2, a3, a4, a5, a6, a7, a8, a9, a10, a11, a12, a13, a14, a15, a16, a17, a18, a19, a20, a21, a22, a23, a24, a25, a26, a27, a28, a29, a30, a31, a32, a33, a34, a35, a36, a37, a38, a39, a40, a41, a42, a43, a44, a45, a46, a47, a48, a49, a50, a51, a52, a53, a54, a55, own_10, ↓reduceIte]
theorem own_i27 (c : Int32) (hl : ¬ c < (63744 : Int32)) (hu : c < (64976 : Int32)) : f1_0 c = f2_0 c := by
  have a0 : ¬ c = (95 : Int32) := own_G hl (by decide)
  have a1 : ¬ c = (96 : Int32) := own_G hl (by decide)
  have a2 : ¬ c = (215 : Int32) := own_G hl (by decide)
  have a3 : ¬ c = (247 : Int32) := own_G hl (by decide)
  have a4 : ¬ c = (894 : Int32) := own_G hl (by decide)
  have a5 : (64 : Int32) < c := own_C hl (by decide)
  have a6 : (90 : Int32) < c := own_C hl (by decide)
  have a7 : (94 : Int32) < c := own_C hl (by decide)
  have a8 : (122 : Int32) < c := own_C hl (by decide)
  have a9 : (191 : Int32) < c := own_C hl (by decide)
  have a10 : (214 : Int32) < c := own_C hl (by decide)
  have a11 : (246 : Int32) < c := own_C hl (by decide)
  have a12 : (767 : Int32) < c := own_C hl (by decide)
  have a13 : (879 : Int32) < c := own_C hl (by decide)
  have a14 : (893 : Int32) < c := own_C hl (by decide)
  have a15 : (8191 : Int32) < c := own_C hl (by decide)
  have a16 : (8203 : Int32) < c := own_C hl (by decide)
  have a17 : (8205 : Int32) < c := own_C hl (by decide)
  have a18 : (8303 : Int32) < c := own_C hl (by decide)
  have a19 : (8591 : Int32) < c := own_C hl (by decide)
  have a20 : (11263 : Int32) < c := own_C hl (by decide)
  have a21 : (12271 : Int32) < c := own_C hl (by decide)
  have a22 : (12288 : Int32) < c := own_C hl (by decide)
  have a23 : (55295 : Int32) < c := own_C hl (by decide)
  have a24 : (63743 : Int32) < c := own_C hl (by decide)
  have a25 : ¬ (64975 : Int32) < c := own_D hu (by decide)
  have a26 : ¬ (65007 : Int32) < c := own_D hu (by decide)
  have a27 : ¬ (65533 : Int32) < c := own_D hu (by decide)
  have a28 : ¬ (65535 : Int32) < c := own_D hu (by decide)
  have a29 : ¬ (983039 : Int32) < c := own_D hu (by decide)
  have a30 : ¬ c < (0 : Int32) := own_B hl (by decide)
  have a31 : ¬ c < (65 : Int32) := own_B hl (by decide)
  have a32 : ¬ c < (91 : Int32) := own_B hl (by decide)
  have a33 : ¬ c < (97 : Int32) := own_B hl (by decide)
  have a34 : ¬ c < (123 : Int32) := own_B hl (by decide)
  have a35 : ¬ c < (128 : Int32) := own_B hl (by decide)
  have a36 : ¬ c < (192 : Int32) := own_B hl (by decide)
  have a37 : ¬ c < (216 : Int32) := own_B hl (by decide)
  have a38 : ¬ c < (248 : Int32) := own_B hl (by decide)
  have a39 : ¬ c < (768 : Int32) := own_B hl (by decide)
  have a40 : ¬ c < (880 : Int32) := own_B hl (by decide)
  have a41 : ¬ c < (895 : Int32) := own_B hl (by decide)
  have a42 : ¬ c < (8192 : Int32) := own_B hl (by decide)
  have a43 : ¬ c < (8204 : Int32) := own_B hl (by decide)
  have a44 : ¬ c < (8206 : Int32) := own_B hl (by decide)
  have a45 : ¬ c < (8304 : Int32) := own_B hl (by decide)
  have a46 : ¬ c < (8592 : Int32) := own_B hl (by decide)
  have a47 : ¬ c < (11264 : Int32) := own_B hl (by decide)
  have a48 : ¬ c < (12272 : Int32) := own_B hl (by decide)
  have a49 : ¬ c < (12289 : Int32) := own_B hl (by decide)
  have a50 : ¬ c < (55296 : Int32) := own_B hl (by decide)
  have a51 : ¬ c < (63744 : Int32) := own_B hl (by decide)
  have a52 : c < (64976 : Int32) := own_A hu (by decide)
  have a53 : c < (65008 : Int32) := own_A hu (by decide)
  have a54 : c < (65534 : Int32) := own_A hu (by decide)
  have a55 : c < (65536 : Int32) := own_A hu (by decide)
  simp only [f1_208, f1_204, f1_198, f1_192, f1_186, f1_180, f1_174, f1_168, f1_162, f1_155, f1_148, f1_141, f1_134, f1_127, f1_120, f1_113, f1_106, f1_99, f1_92, f1_85, f1_78, f1_71, f1_64, f1_57, f1_50, f1_43, f1_41, f1_37, f1_31, f1_25, f1_19, f1_13, f1_7, f1_0, f3_14, f3_10, f3_5, f3_0, f2_10, f2_184, f2_180, f2_175, f2_170, f2_174, f2_159, f2_148, f2_137, f2_124, f2_111, f2_98, f2_85, f2_78, f2_65, f2_58, f2_51, f2_39, f2_33, f2_22, f2_12, f2_4, f2_0, a0, a1, a2, a3, a4, a5, a6, a7, a8, a9, a10, a11, a12, a13, a14, a15, a16, a17, a18, a19, a20, a21, a22, a23, a24, a25, a26, a27, a28, a29, a30, a31, a32, a33, a34, a35, a36, a37, a38, a39, a40, a41, a42, a43, a44, a45, a46, a47, a48, a49, a50, a51, a52, a53, a54, a55, own_10, ↓reduceIte]
theorem own_i28 (c : Int32) (hl : ¬ c < (64976 : Int32)) (hu : c < (65008 : Int32)) : f1_0 c = f2_0 c := by
  have a0 : ¬ c = (95 : Int32) := own_G hl (by decide)
  have a1 : ¬ c = (96 : Int32) := own_G hl (by decide)
  have a2 : ¬ c = (215 : Int32) := own_G hl (by decide)
  have a3 : ¬ c = (247 : Int32) := own_G hl (by decide)
  have a4 : ¬ c = (894 : Int32) := own_G hl (by decide)
  have a5 : (64 : Int32) < c := own_C hl (by decide)
  have a6 : (90 : Int32) < c := own_C hl (by decide)
  have a7 : (94 : Int32) < c := own_C hl (by decide)
  have a8 : (122 : Int32) < c := own_C hl (by decide)
  have a9 : (191 : Int32) < c := own_C hl (by decide)
  have a10 : (214 : Int32) < c := own_C hl (by decide)
  have a11 : (246 : Int32) < c := own_C hl (by decide)
  have a12 : (767 : Int32) < c := own_C hl (by decide)
  have a13 : (879 : Int32) < c := own_C hl (by decide)
  have a14 : (893 : Int32) < c := own_C hl (by decide)
  have a15 : (8191 : Int32) < c := own_C hl (by decide)
  have a16 : (8203 : Int32) < c := own_C hl (by decide)
  have a17 : (8205 : Int32) < c := own_C hl (by decide)
  have a18 : (8303 : Int32) < c := own_C hl (by decide)
  have a19 : (8591 : Int32) < c := own_C hl (by decide)
  have a20 : (11263 : Int32) < c := own_C hl (by decide)
  have a21 : (12271 : Int32) < c := own_C hl (by decide)
  have a22 : (12288 : Int32) < c := own_C hl (by decide)
  have a23 : (55295 : Int32) < c := own_C hl (by decide)
  have a24 : (63743 : Int32) < c := own_C hl (by decide)
  have a25 : (64975 : Int32) < c := own_C hl (by decide)
  have a26 : ¬ (65007 : Int32) < c := own_D hu (by decide)
  have a27 : ¬ (65533 : Int32) < c := own_D hu (by decide)
  have a28 : ¬ (65535 : Int32) < c := own_D hu (by decide)
  have a29 : ¬ (983039 : Int32) < c := own_D hu (by decide)
  have a30 : ¬ c < (0 : Int32) := own_B hl (by decide)
  have a31 : ¬ c < (65 : Int32) := own_B hl (by decide)
  have a32 : ¬ c < (91 : Int32) := own_B hl (by decide)
  have a33 : ¬ c < (97 : Int32) := own_B hl (by decide)
  have a34 : ¬ c < (123 : Int32) := own_B hl (by decide)
  have a35 : ¬ c < (128 : Int32) := own_B hl (by decide)
  have a36 : ¬ c < (192 : Int32) := own_B hl (by decide)
  have a37 : ¬ c < (216 : Int32) := own_B hl (by decide)
  have a38 : ¬ c < (248 : Int32) := own_B hl (by decide)
  have a39 : ¬ c < (768 : Int32) := own_B hl (by decide)
  have a40 : ¬ c < (880 : Int32) := own_B hl (by decide)
  have a41 : ¬ c < (895 : Int32) := own_B hl (by decide)
  have a42 : ¬ c < (8192 : Int32) := own_B hl (by decide)
  have a43 : ¬ c < (8204 : Int32) := own_B hl (by decide)
  have a44 : ¬ c < (8206 : Int32) := own_B hl (by decide)
  have a45 : ¬ c < (8304 : Int32) := own_B hl (by decide)
  have a46 : ¬ c < (8592 : Int32) := own_B hl (by decide)
  have a47 : ¬ c < (11264 : Int32) := own_B hl (by decide)
  have a48 : ¬ c < (12272 : Int32) := own_B hl (by decide)
  have a49 : ¬ c < (12289 : Int32) := own_B hl (by decide)
  have a50 : ¬ c < (55296 : Int32) := own_B hl (by decide)
  have a51 : ¬ c < (63744 : Int32) := own_B hl (by decide)
  have a52 : ¬ c < (64976 : Int32) := own_B hl (by decide)
  have a53 : c < (65008 : Int32) := own_A hu (by decide)
  have a54 : c < (65534 : Int32) := own_A hu (by decide)
  have a55 : c < (65536 : Int32) := own_A hu (by decide)
  simp only [f1_208, f1_204, f1_198, f1_192, f1_186, f1_180, f1_174, f1_168, f1_162, f1_155, f1_148, f1_141, f1_134, f1_127, f1_120, f1_113, f1_106, f1_99, f1_92, f1_85, f1_78, f1_71, f1_64, f1_57, f1_50, f1_43, f1_41, f1_37, f1_31, f1_25, f1_19, f1_13, f1_7, f1_0, f3_14, f3_10, f3_5, f3_0, f2_10, f2_184, f2_180, f2_175, f2_170, f2_174, f2_159, f2_148, f2_137, f2_124, f2_111, f2_98, f2_85, f2_78, f2_65, f2_58, f2_51, f2_39, f2_33, f2_22, f2_12, f2_4, f2_0, a0, a1, a2, a3, a4, a5, a6, a7, a8, a9, a10, a11, a12, a13, a14, a15, a16, a17, a18, a19, a20, a21, a22, a23, a24, a25, a26, a27, a28, a29, a30, a31, a32, a33, a34, a35, a36, a37, a38, a39, a40, a41, a42, a43, a44, a45, a46, a47, a48, a49, a50, a51, a52, a53, a54, a55, own_10, ↓reduceIte]
theorem own_i29 (c : Int32) (hl : ¬ c < (65008 : Int32)) (hu : c < (65534 : Int32)) : f1_0 c = f2_0 c := by
  have a0 : ¬ c = (95 : Int32) := own_G hl (by decide)
  have a1 : ¬ c = (96 : Int32) := own_G hl (by decide)
  have a2 : ¬ c = (215 : Int32) := own_G hl (by decide)
  have a3 : ¬ c = (247 : Int32) := own_G hl (by decide)
  have a4 : ¬ c = (894 : Int32) := own_G hl (by decide)
  have a5 : (64 : Int32) < c := own_C hl (by decide)
  have a6 : (90 : Int32) < c := own_C hl (by decide)
  have a7 : (94 : Int32) < c := own_C hl (by decide)
  have a8 : (122 : Int32) < c := own_C hl (by decide)
  have a9 : (191 : Int32) < c := own_C hl (by decide)
  have a10 : (214 : Int32) < c := own_C hl (by decide)
  have a11 : (246 : Int32) < c := own_C hl (by decide)
  have a12 : (767 : Int32) < c := own_C hl (by decide)
  have a13 : (879 : Int32) < c := own_C hl (by decide)
  have a14 : (893 : Int32) < c := own_C hl (by decide)
  have a15 : (8191 : Int32) < c := own_C hl (by decide)
  have a16 : (8203 : Int32) < c := own_C hl (by decide)
  have a17 : (8205 : Int32) < c := own_C hl (by decide)
  have a18 : (8303 : Int32) < c := own_C hl (by decide)
  have a19 : (8591 : Int32) < c := own_C hl (by decide)
  have a20 : (11263 : Int32) < c := own_C hl (by decide)
  have a21 : (12271 : Int32) < c := own_C hl (by decide)
  have a22 : (12288 : Int32) < c := own_C hl (by decide)
  have a23 : (55295 : Int32) < c := own_C hl (by decide)
  have a24 : (63743 : Int32) < c := own_C hl (by decide)
  have a25 : (64975 : Int32) < c := own_C hl (by decide)
  have a26 : (65007 : Int32) < c := own_C hl (by decide)
  have a27 : ¬ (65533 : Int32) < c := own_D hu (by decide)
  have a28 : ¬ (65535 : Int32) < c := own_D hu (by decide)
  have a29 : ¬ (983039 : Int32) < c := own_D hu (by decide)
  have a30 : ¬ c < (0 : Int32) := own_B hl (by decide)
  have a31 : ¬ c < (65 : Int32) := own_B hl (by decide)
  have a32 : ¬ c < (91 : Int32) := own_B hl (by decide)
  have a33 : ¬ c < (97 : Int32) := own_B hl (by decide)
  have a34 : ¬ c < (123 : Int32) := own_B hl (by decide)
  have a35 : ¬ c < (128 : Int32) := own_B hl (by decide)
  have a36 : ¬ c < (192 : Int32) := own_B hl (by decide)
  have a37 : ¬ c < (216 : Int32) := own_B hl (by decide)
  have a38 : ¬ c < (248 : Int32) := own_B hl (by decide)
  have a39 : ¬ c < (768 : Int32) := own_B hl (by decide)
  have a40 : ¬ c < (880 : Int32) := own_B hl (by decide)
  have a41 : ¬ c < (895 : Int32) := own_B hl (by decide)
  have a42 : ¬ c < (8192 : Int32) := own_B hl (by decide)
  have a43 : ¬ c < (8204 : Int32) := own_B hl (by decide)
  have a44 : ¬ c < (8206 : Int32) := own_B hl (by decide)
  have a45 : ¬ c < (8304 : Int32) := own_B hl (by decide)
  have a46 : ¬ c < (8592 : Int32) := own_B hl (by decide)
  have a47 : ¬ c < (11264 : Int32) := own_B hl (by decide)
  have a48 : ¬ c < (12272 : Int32) := own_B hl (by decide)
  have a49 : ¬ c < (12289 : Int32) := own_B hl (by decide)
  have a50 : ¬ c < (55296 : Int32) := own_B hl (by decide)
  have a51 : ¬ c < (63744 : Int32) := own_B hl (by decide)
  have a52 : ¬ c < (64976 : Int32) := own_B hl (by decide)
  have a53 : ¬ c < (65008 : Int32) := own_B hl (by decide)
  have a54 : c < (65534 : Int32) := own_A hu (by decide)
  have a55 : c < (65536 : Int32) := own_A hu (by decide)
  simp only [f1_208, f1_204, f1_198, f1_192, f1_186, f1_180, f1_174, f1_168, f1_162, f1_155, f1_148, f1_141, f1_134, f1_127, f1_120, f1_113, f1_106, f1_99, f1_92, f1_85, f1_78, f1_71, f1_64, f1_57, f1_50, f1_43, f1_41, f1_37, f1_31, f1_25, f1_19, f1_13, f1_7, f1_0, f3_14, f3_10, f3_5, f3_0, f2_10, f2_184, f2_180, f2_175, f2_170, f2_174, f2_159, f2_148, f2_137, f2_124, f2_111, f2_98, f2_85, f2_78, f2_65, f2_58, f2_51, f2_39, f2_33, f2_22, f2_12, f2_4, f2_0, a0, a1, a2, a3, a4, a5, a6, a7, a8, a9, a10, a11, a12, a13, a14, a15, a16, a17, a18, a19, a20, a21, a22, a23, a24, a25, a26, a27, a28, a29, a30, a31, a32, a33, a34, a35, a36, a37, a38, a39, a40, a41, a42, a43, a44, a45, a46, a47, a48, a49, a50, a51, a52, a53, a54, a55, own_10, ↓reduceIte]
theorem own_i30 (c : Int32) (hl : ¬ c < (65534 : Int32)) (hu : c < (65536 : Int32)) : f1_0 c = f2_0 c := by
  have a0 : ¬ c = (95 : Int32) := own_G hl (by decide)
  have a1 : ¬ c = (96 : Int32) := own_G hl (by decide)
  have a2 : ¬ c = (215 : Int32) := own_G hl (by decide)
  have a3 : ¬ c = (247 : Int32) := own_G hl (by decide)
  have a4 : ¬ c = (894 : Int32) := own_G hl (by decide)
  have a5 : (64 : Int32) < c := own_C hl (by decide)
  have a6 : (90 : Int32) < c := own_C hl (by decide)
  have a7 : (94 : Int32) < c := own_C hl (by decide)
  have a8 : (122 : Int32) < c := own_C hl (by decide)
  have a9 : (191 : Int32) < c := own_C hl (by decide)
  have a10 : (214 : Int32) < c := own_C hl (by decide)
  have a11 : (246 : Int32) < c := own_C hl (by decide)
  have a12 : (767 : Int32) < c := own_C hl (by decide)
  have a13 : (879 : Int32) < c := own_C hl (by decide)
  have a14 : (893 : Int32) < c := own_C hl (by decide)
  have a15 : (8191 : Int32) < c := own_C hl (by decide)
  have a16 : (8203 : Int32) < c := own_C hl (by decide)
  have a17 : (8205 : Int32) < c := own_C hl (by decide)
  have a18 : (8303 : Int32) < c := own_C hl (by decide)
  have a19 : (8591 : Int32) < c := own_C hl (by decide)
  have a20 : (11263 : Int32) < c := own_C hl (by decide)
  have a21 : (12271 : Int32) < c := own_C hl (by decide)
  have a22 : (12288 : Int32) < c := own_C hl (by decide)
  have a23 : (55295 : Int32) < c := own_C hl (by decide)
  have a24 : (63743 : Int32) < c := own_C hl (by decide)
  have a25 : (64975 : Int32) < c := own_C hl (by decide)
  have a26 : (65007 : Int32) < c := own_C hl (by decide)
  have a27 : (65533 : Int32) < c := own_C hl (by decide)
  have a28 : ¬ (65535 : Int32) < c := own_D hu (by decide)
  have a29 : ¬ (983039 : Int32) < c := own_D hu (by decide)
  have a30 : ¬ c < (0 : Int32) := own_B hl (by decide)
  have a31 : ¬ c < (65 : Int32) := own_B hl (by decide)
  have a32 : ¬ c < (91 : Int32) := own_B hl (by decide)
  have a33 : ¬ c < (97 : Int32) := own_B hl (by decide)
  have a34 : ¬ c < (123 : Int32) := own_B hl (by decide)
  have a35 : ¬ c < (128 : Int32) := own_B hl (by decide)
  have a36 : ¬ c < (192 : Int32) := own_B hl (by decide)
  have a37 : ¬ c < (216 : Int32) := own_B hl (by decide)
  have a38 : ¬ c < (248 : Int32) := own_B hl (by decide)
  have a39 : ¬ c < (768 : Int32) := own_B hl (by decide)
  have a40 : ¬ c < (880 : Int32) := own_B hl (by decide)
  have a41 : ¬ c < (895 : Int32) := own_B hl (by decide)
  have a42 : ¬ c < (8192 : Int32) := own_B hl (by decide)
  have a43 : ¬ c < (8204 : Int32) := own_B hl (by decide)
  have a44 : ¬ c < (8206 : Int32) := own_B hl (by decide)
  have a45 : ¬ c < (8304 : Int32) := own_B hl (by decide)
  have a46 : ¬ c < (8592 : Int32) := own_B hl (by decide)
  have a47 : ¬ c < (11264 : Int32) := own_B hl (by decide)
  have a48 : ¬ c < (12272 : Int32) := own_B hl (by decide)
  have a49 : ¬ c < (12289 : Int32) := own_B hl (by decide)
  have a50 : ¬ c < (55296 : Int32) := own_B hl (by decide)
  have a51 : ¬ c < (63744 : Int32) := own_B hl (by decide)
  have a52 : ¬ c < (64976 : Int32) := own_B hl (by decide)
  have a53 : ¬ c < (65008 : Int32) := own_B hl (by decide)
  have a54 : ¬ c < (65534 : Int32) := own_B hl (by decide)
  have a55 : c < (65536 : Int32) := own_A hu (by decide)
  simp only [f1_208, f1_204, f1_198, f1_192, f1_186, f1_180, f1_174, f1_168, f1_162, f1_155, f1_148, f1_141, f1_134, f1_127, f1_120, f1_113, f1_106, f1_99, f1_92, f1_85, f1_78, f1_71, f1_64, f1_57, f1_50, f1_43, f1_41, f1_37, f1_31, f1_25, f1_19, f1_13, f1_7, f1_0, f3_14, f3_10, f3_5, f3_0, f2_10, f2_184, f2_180, f2_175, f2_170, f2_174, f2_159, f2_148, f2_137, f2_124, f2_111, f2_98, f2_85, f2_78, f2_65, f2_58, f2_51, f2_39, f2_33, f2_22, f2_12, f2_4, f2_0, a0, a1, a2, a3, a4, a5, a6, a7, a8, a9, a10, a11, a12, a13, a14, a15, a16, a17, a18, a19, a20, a21, a22, a23, a24, a25, a26, a27, a28, a29, a30, a31, a32, a33, a34, a35, a36, a37, a38, a39, a40, a41, a42, a43, a44, a45, a46, a47, a48, a49, a50, a51, a52, a53, a54, a55, own_10, ↓reduceIte]
theorem own_i31 (c : Int32) (hl : ¬ c < (65536 : Int32)) (hu : c < (983040 : Int32)) : f1_0 c = f2_0 c := by
  have a0 : ¬ c = (95 : Int32) := own_G hl (by decide)
  have a1 : ¬ c = (96 : Int32) := own_G hl (by decide)
  have a2 : ¬ c = (215 : Int32) := own_G hl (by decide)
  have a3 : ¬ c = (247 : Int32) := own_G hl (by decide)
  have a4 : ¬ c = (894 : Int32) := own_G hl (by decide)
  have a5 : (64 : Int32) < c := own_C hl (by decide)
  have a6 : (90 : Int32) < c := own_C hl (by decide)
  have a7 : (94 : Int32) < c := own_C hl (by decide)
  have a8 : (122 : Int32) < c := own_C hl (by decide)
  have a9 : (191 : Int32) < c := own_C hl (by decide)
  have a10 : (214 : Int32) < c := own_C hl (by decide)
  have a11 : (246 : Int32) < c := own_C hl (by decide)
  have a12 : (767 : Int32) < c := own_C hl (by decide)
  have a13 : (879 : Int32) < c := own_C hl (by decide)
  have a14 : (893 : Int32) < c := own_C hl (by decide)
  have a15 : (8191 : Int32) < c := own_C hl (by decide)
  have a16 : (8203 : Int32) < c := own_C hl (by decide)
  have a17 : (8205 : Int32) < c := own_C hl (by decide)
  have a18 : (8303 : Int32) < c := own_C hl (by decide)
  have a19 : (8591 : Int32) < c := own_C hl (by decide)
  have a20 : (11263 : Int32) < c := own_C hl (by decide)
  have a21 : (12271 : Int32) < c := own_C hl (by decide)
  have a22 : (12288 : Int32) < c := own_C hl (by decide)
  have a23 : (55295 : Int32) < c := own_C hl (by decide)
  have a24 : (63743 : Int32) < c := own_C hl (by decide)
  have a25 : (64975 : Int32) < c := own_C hl (by decide)
  have a26 : (65007 : Int32) < c := own_C hl (by decide)
  have a27 : (65533 : Int32) < c := own_C hl (by decide)
  have a28 : (65535 : Int32) < c := own_C hl (by decide)
  have a29 : ¬ (983039 : Int32) < c := own_D hu (by decide)
  have a30 : ¬ c < (0 : Int32) := own_B hl (by decide)
  have a31 : ¬ c < (65 : Int32) := own_B hl (by decide)
  have a32 : ¬ c < (91 : Int32) := own_B hl (by decide)
  have a33 : ¬ c < (97 : Int32) := own_B hl (by decide)
  have a34 : ¬ c < (123 : Int32) := own_B hl (by decide)
  have a35 : ¬ c < (128 : Int32) := own_B hl (by decide)
  have a36 : ¬ c < (192 : Int32) := own_B hl (by decide)
  have a37 : ¬ c < (216 : Int32) := own_B hl (by decide)
  have a38 : ¬ c < (248 : Int32) := own_B hl (by decide)
  have a39 : ¬ c < (768 : Int32) := own_B hl (by decide)
  have a40 : ¬ c < (880 : Int32) := own_B hl (by decide)
  have a41 : ¬ c < (895 : Int32) := own_B hl (by decide)
  have a42 : ¬ c < (8192 : Int32) := own_B hl (by decide)
  have a43 : ¬ c < (8204 : Int32) := own_B hl (by decide)
  have a44 : ¬ c < (8206 : Int32) := own_B hl (by decide)
  have a45 : ¬ c < (8304 : Int32) := own_B hl (by decide)
  have a46 : ¬ c < (8592 : Int32) := own_B hl (by decide)
  have a47 : ¬ c < (11264 : Int32) := own_B hl (by decide)
  have a48 : ¬ c < (12272 : Int32) := own_B hl (by decide)
  have a49 : ¬ c < (12289 : Int32) := own_B hl (by decide)
  have a50 : ¬ c < (55296 : Int32) := own_B hl (by decide)
  have a51 : ¬ c < (63744 : Int32) := own_B hl (by decide)
  have a52 : ¬ c < (64976 : Int32) := own_B hl (by decide)
  have a53 : ¬ c < (65008 : Int32) := own_B hl (by decide)
  have a54 : ¬ c < (65534 : Int32) := own_B hl (by decide)
  have a55 : ¬ c < (65536 : Int32) := own_B hl (by decide)
  simp only [f1_208, f1_204, f1_198, f1_192, f1_186, f1_180, f1_174, f1_168, f1_162, f1_155, f1_148, f1_141, f1_134, f1_127, f1_120, f1_113, f1_106, f1_99, f1_92, f1_85, f1_78, f1_71, f1_64, f1_57, f1_50, f1_43, f1_41, f1_37, f1_31, f1_25, f1_19, f1_13, f1_7, f1_0, f3_14, f3_10, f3_5, f3_0, f2_10, f2_184, f2_180, f2_175, f2_170, f2_174, f2_159, f2_148, f2_137, f2_124, f2_111, f2_98, f2_85, f2_78, f2_65, f2_58, f2_51, f2_39, f2_33, f2_22, f2_12, f2_4, f2_0, a0, a1, a2, a3, a4, a5, a6, a7, a8, a9, a10, a11, a12, a13, a14, a15, a16, a17, a18, a19, a20, a21, a22, a23, a24, a25, a26, a27, a28, a29, a30, a31, a32, a33, a34, a35, a36, a37, a38, a39, a40, a41, a42, a43, a44, a45, a46, a47, a48, a49, a50, a51, a52, a53, a54, a55, own_10, ↓reduceIte]
theorem own_i32 (c : Int32) (hl : ¬ c < (983040 : Int32)) : f1_0 c = f2_0 c := by
  have a0 : ¬ c = (95 : Int32) := own_G hl (by decide)
  have a1 : ¬ c = (96 : Int32) := own_G hl (by decide)
  have a2 : ¬ c = (215 : Int32) := own_G hl (by decide)
  have a3 : ¬ c = (247 : Int32) := own_G hl (by decide)
  have a4 : ¬ c = (894 : Int32) := own_G hl (by decide)
  have a5 : (64 : Int32) < c := own_C hl (by decide)
  have a6 : (90 : Int32) < c := own_C hl (by decide)
  have a7 : (94 : Int32) < c := own_C hl (by decide)
  have a8 : (122 : Int32) < c := own_C hl (by decide)
  have a9 : (191 : Int32) < c := own_C hl (by decide)
  have a10 : (214 : Int32) < c := own_C hl (by decide)
  have a11 : (246 : Int32) < c := own_C hl (by decide)
  have a12 : (767 : Int32) < c := own_C hl (by decide)
  have a13 : (879 : Int32) < c := own_C hl (by decide)
  have a14 : (893 : Int32) < c := own_C hl (by decide)
  have a15 : (8191 : Int32) < c := own_C hl (by decide)
  have a16 : (8203 : Int32) < c := own_C hl (by decide)
  have a17 : (8205 : Int32) < c := own_C hl (by decide)
  have a18 : (8303 : Int32) < c := own_C hl (by decide)
  have a19 : (8591 : Int32) < c := own_C hl (by decide)
  have a20 : (11263 : Int32) < c := own_C hl (by decide)
  have a21 : (12271 : Int32) < c := own_C hl (by decide)
  have a22 : (12288 : Int32) < c := own_C hl (by decide)
  have a23 : (55295 : Int32) < c := own_C hl (by decide)
  have a24 : (63743 : Int32) < c := own_C hl (by decide)
  have a25 : (64975 : Int32) < c := own_C hl (by decide)
  have a26 : (65007 : Int32) < c := own_C hl (by decide)
  have a27 : (65533 : Int32) < c := own_C hl (by decide)
  have a28 : (65535 : Int32) < c := own_C hl (by decide)
  have a29 : (983039 : Int32) < c := own_C hl (by decide)
  have a30 : ¬ c < (0 : Int32) := own_B hl (by decide)
  have a31 : ¬ c < (65 : Int32) := own_B hl (by decide)
  have a32 : ¬ c < (91 : Int32) := own_B hl (by decide)
  have a33 : ¬ c < (97 : Int32) := own_B hl (by decide)
  have a34 : ¬ c < (123 : Int32) := own_B hl (by decide)
  have a35 : ¬ c < (128 : Int32) := own_B hl (by decide)
  have a36 : ¬ c < (192 : Int32) := own_B hl (by decide)
  have a37 : ¬ c < (216 : Int32) := own_B hl (by decide)
  have a38 : ¬ c < (248 : Int32) := own_B hl (by decide)
  have a39 : ¬ c < (768 : Int32) := own_B hl (by decide)
  have a40 : ¬ c < (880 : Int32) := own_B hl (by decide)
  have a41 : ¬ c < (895 : Int32) := own_B hl (by decide)
  have a42 : ¬ c < (8192 : Int32) := own_B hl (by decide)
  have a43 : ¬ c < (8204 : Int32) := own_B hl (by decide)
  have a44 : ¬ c < (8206 : Int32) := own_B hl (by decide)
  have a45 : ¬ c < (8304 : Int32) := own_B hl (by decide)
  have a46 : ¬ c < (8592 : Int32) := own_B hl (by decide)
  have a47 : ¬ c < (11264 : Int32) := own_B hl (by decide)
  have a48 : ¬ c < (12272 : Int32) := own_B hl (by decide)
  have a49 : ¬ c < (12289 : Int32) := own_B hl (by decide)
  have a50 : ¬ c < (55296 : Int32) := own_B hl (by decide)
  have a51 : ¬ c < (63744 : Int32) := own_B hl (by decide)
  have a52 : ¬ c < (64976 : Int32) := own_B hl (by decide)
  have a53 : ¬ c < (65008 : Int32) := own_B hl (by decide)
  have a54 : ¬ c < (65534 : Int32) := own_B hl (by decide)
  have a55 : ¬ c < (65536 : Int32) := own_B hl (by decide)
  simp only [f1_208, f1_204, f1_198, f1_192, f1_186, f1_180, f1_174, f1_168, f1_162, f1_155, f1_148, f1_141, f1_134, f1_127, f1_120, f1_113, f1_106, f1_99, f1_92, f1_85, f1_78, f1_71, f1_64, f1_57, f1_50, f1_43, f1_41, f1_37, f1_31, f1_25, f1_19, f1_13, f1_7, f1_0, f3_14, f3_10, f3_5, f3_0, f2_10, f2_184, f2_180, f2_175, f2_170, f2_174, f2_159, f2_148, f2_137, f2_124, f2_111, f2_98, f2_85, f2_78, f2_65, f2_58, f2_51, f2_39, f2_33, f2_22, f2_12, f2_4, f2_0, a0, a1, a2, a3, a4, a5, a6, a7, a8, a9, a10, a11, a12, a13, a14, a15, a16, a17, a18, a19, a20, a21, a22, a23, a24, a25, a26, a27, a28, a29, a30, a31, a32, a33, a34, a35, a36, a37, a38, a39, a40, a41, a42, a43, a44, a45, a46, a47, a48, a49, a50, a51, a52, a53, a54, a55, own_10, ↓reduceIte]
theorem own_eq (c : Int32) : f1_0 c = f2_0 c := by
  by_cases h0 : c < (0 : Int32)
  · exact own_i0 c h0
  by_cases h1 : c < (65 : Int32)
  · exact own_i1 c h0 h1
  by_cases h2 : c < (91 : Int32)
  · exact own_i2 c h1 h2
  by_cases h3 : c < (95 : Int32)
  · exact own_i3 c h2 h3
  by_cases h4 : c < (96 : Int32)
  · exact own_i4 c h3 h4
  by_cases h5 : c < (97 : Int32)
  · exact own_i5 c h4 h5
  by_cases h6 : c < (123 : Int32)
  · exact own_i6 c h5 h6
  by_cases h7 : c < (128 : Int32)
  · exact own_i7 c h6 h7
  by_cases h8 : c < (192 : Int32)
  · exact own_i8 c h7 h8
  by_cases h9 : c < (215 : Int32)
  · exact own_i9 c h8 h9
  by_cases h10 : c < (216 : Int32)
  · exact own_i10 c h9 h10
  by_cases h11 : c < (247 : Int32)
  · exact own_i11 c h10 h11
  by_cases h12 : c < (248 : Int32)
  · exact own_i12 c h11 h12
  by_cases h13 : c < (768 : Int32)
  · exact own_i13 c h12 h13
  by_cases h14 : c < (880 : Int32)
  · exact own_i14 c h13 h14
  by_cases h15 : c < (894 : Int32)
  · exact own_i15 c h14 h15
  by_cases h16 : c < (895 : Int32)
  · exact own_i16 c h15 h16
  by_cases h17 : c < (8192 : Int32)
  · exact own_i17 c h16 h17
  by_cases h18 : c < (8204 : Int32)
  · exact own_i18 c h17 h18
  by_cases h19 : c < (8206 : Int32)
  · exact own_i19 c h18 h19
  by_cases h20 : c < (8304 : Int32)
  · exact own_i20 c h19 h20
  by_cases h21 : c < (8592 : Int32)
  · exact own_i21 c h20 h21
  by_cases h22 : c < (11264 : Int32)
  · exact own_i22 c h21 h22
  by_cases h23 : c < (12272 : Int32)
  · exact own_i23 c h22 h23
  by_cases h24 : c < (12289 : Int32)
  · exact own_i24 c h23 h24
  by_cases h25 : c < (55296 : Int32)
  · exact own_i25 c h24 h25
  by_cases h26 : c < (63744 : Int32)
  · exact own_i26 c h25 h26
  by_cases h27 : c < (64976 : Int32)
  · exact own_i27 c h26 h27
  by_cases h28 : c < (65008 : Int32)
  · exact own_i28 c h27 h28
  by_cases h29 : c < (65534 : Int32)
  · exact own_i29 c h28 h29
  by_cases h30 : c < (65536 : Int32)
  · exact own_i30 c h29 h30
  by_cases h31 : c < (983040 : Int32)
  · exact own_i31 c h30 h31
  exact own_i32 c h31
theorem own_ix (x : Int32) : ¬ ((x &&& (255 : Int32)) % (62 : Int32)) < 0 ∧ ((x &&& (255 : Int32)) % (62 : Int32)).toNatClampNeg < 62 := by
  have h1 := c_mask x (255 : Int32) 8 (by decide) (by decide)
  have h2 := (c_irem (x &&& (255 : Int32)) (62 : Int32) 62 (by decide)).1 (by omega)
  have h3 : ¬ ((x &&& (255 : Int32)) % (62 : Int32)) < 0 := by rw [Int32.lt_iff_toInt_lt, show (0 : Int32).toInt = 0 from rfl]; omega
  have h4 := own_clamp h3
  exact ⟨h3, by omega⟩
set_option maxRecDepth 65536 in
set_option maxHeartbeats 40000000 in
theorem fl400 {p : Program} {l : Launch} {e : Env} {s : State} {m : MethodId} {args : Array Value} {below : List Frame} {meth : Method} {c : Code} {T0 : State} {locs : List Loc} {Z : State} {a0 : Array Value} {h0 : Heap} {n0 : Nat} {f : Nat → Int32} (x0 : Int32) (x1 : Int32) (o : Addr) (X0 : Stand p l e room_1 s m args below meth c T0 locs 1 62) (hx : p.tables.exec = Jvm.exec) (hZ : Z.Warmed39 s.vm) (hw : ∀ d ∈ tables_1, d.before a0 Z = true) (hby : c.code = code) (hml : c.maxLocals = 6) (hown : s.vm.findClass "com/example/shape_trees/shapetrees/xpath/tree/XmlNamesIsNameStartCharPinLaw" = some m.cls) (hret : meth.sig.returnType = some .boolean) (hlk : meth.locks = false) (e0 : T0.heap = h0) (Z0 : n0 ≤ h0.size) (N0 : Fr n0 locs) (g0 : n0 ≤ o) (V : own_Arr Z h0 o 62 f) (hone : ∀ w : Int32, f0_423 x0 x1 ((x1 &&& (255 : Int32)) % (62 : Int32)) ((((x1.toUInt32 >>> ((8 : Int32) &&& 31).toUInt32).toInt32) % (3 : Int32)) - (1 : Int32)) w = 1) :
    own_Goes p e below s n0 room_1.cells room_1.slots own_one (T0.setTop (mkF m 400 #[.val (.int x0), .val (.int x1), .unset, .unset, .unset, .unset] [(.ref o)])) := by
  have hl := own_alen X0 hx hZ e0 V (pc := 407) (Ls := #[.val (.int x0), .val (.int x1), .val (.ref o), .unset, .unset, .unset]) (rest := [(.int (x1 &&& (255 : Int32)))]) (62 : Int32) (by decide) (hb hby at_407)
  have hg := own_get X0 hx hZ e0 V (pc := 422) (Ls := #[.val (.int x0), .val (.int x1), .val (.ref o), .val (.int ((x1 &&& (255 : Int32)) % (62 : Int32))), .val (.int ((((x1.toUInt32 >>> ((8 : Int32) &&& 31).toUInt32).toInt32) % (3 : Int32)) - (1 : Int32))), .unset]) (rest := []) ((x1 &&& (255 : Int32)) % (62 : Int32)) _ rfl (own_ix x1).1 (own_ix x1).2 (hb hby at_422)
  refine own_Goes.pre (fun t kt => ?_) (b0_423 x0 x1 o ((x1 &&& (255 : Int32)) % (62 : Int32)) ((((x1.toUInt32 >>> ((8 : Int32) &&& 31).toUInt32).toInt32) % (3 : Int32)) - (1 : Int32)) (f (((x1 &&& (255 : Int32)) % (62 : Int32))).toNatClampNeg) X0 hx hZ hw hby hml hown hret hlk e0 Z0 N0 (by rw [hone]; exact rfl))
  show Steps p.tables e below (T0.setTop (mkF m 400 #[.val (.int x0), .val (.int x1), .unset, .unset, .unset, .unset] [(.ref o)])) _
  refine XS.astoreN X0.here hx rfl (hb hby at_400) rfl rfl (l' := #[.val (.int x0), .val (.int x1), .val (.ref o), .unset, .unset, .unset]) rfl ?_
  show Steps p.tables e below (T0.setTop (mkF m 401 #[.val (.int x0), .val (.int x1), .val (.ref o), .unset, .unset, .unset] [])) _
  refine XS.iloadN X0.here hx rfl (hb hby at_401) rfl ?_
  show Steps p.tables e below (T0.setTop (mkF m 402 #[.val (.int x0), .val (.int x1), .val (.ref o), .unset, .unset, .unset] [(.int x1)])) _
  refine XS.sipush X0.here hx rfl (hb hby at_402) ?_
  show Steps p.tables e below (T0.setTop (mkF m 405 #[.val (.int x0), .val (.int x1), .val (.ref o), .unset, .unset, .unset] [(.int (255 : Int32)), (.int x1)])) _
  refine XS.iand X0.here hx rfl (hb hby at_405) rfl ?_
  show Steps p.tables e below (T0.setTop (mkF m 406 #[.val (.int x0), .val (.int x1), .val (.ref o), .unset, .unset, .unset] [(.int (x1 &&& (255 : Int32)))])) _
  refine XS.aloadN X0.here hx rfl (hb hby at_406) rfl rfl ?_
  show Steps p.tables e below (T0.setTop (mkF m 407 #[.val (.int x0), .val (.int x1), .val (.ref o), .unset, .unset, .unset] [(.ref o), (.int (x1 &&& (255 : Int32)))])) _
  refine hl _ ?_
  show Steps p.tables e below (T0.setTop (mkF m 408 #[.val (.int x0), .val (.int x1), .val (.ref o), .unset, .unset, .unset] [(.int (62 : Int32)), (.int (x1 &&& (255 : Int32)))])) _
  refine iremM X0 hx rfl (hb hby at_408) rfl (by decide) ?_
  show Steps p.tables e below (T0.setTop (mkF m 409 #[.val (.int x0), .val (.int x1), .val (.ref o), .unset, .unset, .unset] [(.int ((x1 &&& (255 : Int32)) % (62 : Int32)))])) _
  refine XS.istoreN X0.here hx rfl (hb hby at_409) rfl (l' := #[.val (.int x0), .val (.int x1), .val (.ref o), .val (.int ((x1 &&& (255 : Int32)) % (62 : Int32))), .unset, .unset]) rfl ?_
  show Steps p.tables e below (T0.setTop (mkF m 410 #[.val (.int x0), .val (.int x1), .val (.ref o), .val (.int ((x1 &&& (255 : Int32)) % (62 : Int32))), .unset, .unset] [])) _
  refine XS.iloadN X0.here hx rfl (hb hby at_410) rfl ?_
  show Steps p.tables e below (T0.setTop (mkF m 411 #[.val (.int x0), .val (.int x1), .val (.ref o), .val (.int ((x1 &&& (255 : Int32)) % (62 : Int32))), .unset, .unset] [(.int x1)])) _
  refine XS.bipush X0.here hx rfl (hb hby at_411) ?_
  show Steps p.tables e below (T0.setTop (mkF m 413 #[.val (.int x0), .val (.int x1), .val (.ref o), .val (.int ((x1 &&& (255 : Int32)) % (62 : Int32))), .unset, .unset] [(.int (8 : Int32)), (.int x1)])) _
  refine XS.iushr X0.here hx rfl (hb hby at_413) rfl ?_
  show Steps p.tables e below (T0.setTop (mkF m 414 #[.val (.int x0), .val (.int x1), .val (.ref o), .val (.int ((x1 &&& (255 : Int32)) % (62 : Int32))), .unset, .unset] [(.int ((x1.toUInt32 >>> ((8 : Int32) &&& 31).toUInt32).toInt32))])) _
  refine XS.iconst X0.here hx rfl (hb hby at_414) ?_
  show Steps p.tables e below (T0.setTop (mkF m 415 #[.val (.int x0), .val (.int x1), .val (.ref o), .val (.int ((x1 &&& (255 : Int32)) % (62 : Int32))), .unset, .unset] [(.int (3 : Int32)), (.int ((x1.toUInt32 >>> ((8 : Int32) &&& 31).toUInt32).toInt32))])) _
  refine iremM X0 hx rfl (hb hby at_415) rfl (by decide) ?_
  show Steps p.tables e below (T0.setTop (mkF m 416 #[.val (.int x0), .val (.int x1), .val (.ref o), .val (.int ((x1 &&& (255 : Int32)) % (62 : Int32))), .unset, .unset] [(.int (((x1.toUInt32 >>> ((8 : Int32) &&& 31).toUInt32).toInt32) % (3 : Int32)))])) _
  refine XS.iconst X0.here hx rfl (hb hby at_416) ?_
  show Steps p.tables e below (T0.setTop (mkF m 417 #[.val (.int x0), .val (.int x1), .val (.ref o), .val (.int ((x1 &&& (255 : Int32)) % (62 : Int32))), .unset, .unset] [(.int (1 : Int32)), (.int (((x1.toUInt32 >>> ((8 : Int32) &&& 31).toUInt32).toInt32) % (3 : Int32)))])) _
  refine XS.isub X0.here hx rfl (hb hby at_417) rfl ?_
  show Steps p.tables e below (T0.setTop (mkF m 418 #[.val (.int x0), .val (.int x1), .val (.ref o), .val (.int ((x1 &&& (255 : Int32)) % (62 : Int32))), .unset, .unset] [(.int ((((x1.toUInt32 >>> ((8 : Int32) &&& 31).toUInt32).toInt32) % (3 : Int32)) - (1 : Int32)))])) _
  refine XS.istore X0.here hx rfl (hb hby at_418) rfl (l' := #[.val (.int x0), .val (.int x1), .val (.ref o), .val (.int ((x1 &&& (255 : Int32)) % (62 : Int32))), .val (.int ((((x1.toUInt32 >>> ((8 : Int32) &&& 31).toUInt32).toInt32) % (3 : Int32)) - (1 : Int32))), .unset]) rfl ?_
  show Steps p.tables e below (T0.setTop (mkF m 420 #[.val (.int x0), .val (.int x1), .val (.ref o), .val (.int ((x1 &&& (255 : Int32)) % (62 : Int32))), .val (.int ((((x1.toUInt32 >>> ((8 : Int32) &&& 31).toUInt32).toInt32) % (3 : Int32)) - (1 : Int32))), .unset] [])) _
  refine XS.aloadN X0.here hx rfl (hb hby at_420) rfl rfl ?_
  show Steps p.tables e below (T0.setTop (mkF m 421 #[.val (.int x0), .val (.int x1), .val (.ref o), .val (.int ((x1 &&& (255 : Int32)) % (62 : Int32))), .val (.int ((((x1.toUInt32 >>> ((8 : Int32) &&& 31).toUInt32).toInt32) % (3 : Int32)) - (1 : Int32))), .unset] [(.ref o)])) _
  refine XS.iloadN X0.here hx rfl (hb hby at_421) rfl ?_
  show Steps p.tables e below (T0.setTop (mkF m 422 #[.val (.int x0), .val (.int x1), .val (.ref o), .val (.int ((x1 &&& (255 : Int32)) % (62 : Int32))), .val (.int ((((x1.toUInt32 >>> ((8 : Int32) &&& 31).toUInt32).toInt32) % (3 : Int32)) - (1 : Int32))), .unset] [(.int ((x1 &&& (255 : Int32)) % (62 : Int32))), (.ref o)])) _
  exact hg _ kt
set_option maxRecDepth 65536 in
set_option maxHeartbeats 40000000 in
theorem fl394 {p : Program} {l : Launch} {e : Env} {s : State} {m : MethodId} {args : Array Value} {below : List Frame} {meth : Method} {c : Code} {T0 : State} {locs : List Loc} {Z : State} {a0 : Array Value} {h0 : Heap} {n0 : Nat} {f : Nat → Int32} (x0 : Int32) (x1 : Int32) (o : Addr) (X0 : Stand p l e room_1 s m args below meth c T0 locs 1 62) (hx : p.tables.exec = Jvm.exec) (hZ : Z.Warmed39 s.vm) (hw : ∀ d ∈ tables_1, d.before a0 Z = true) (hby : c.code = code) (hml : c.maxLocals = 6) (hown : s.vm.findClass "com/example/shape_trees/shapetrees/xpath/tree/XmlNamesIsNameStartCharPinLaw" = some m.cls) (hret : meth.sig.returnType = some .boolean) (hlk : meth.locks = false) (e0 : T0.heap = h0) (Z0 : n0 ≤ h0.size) (N0 : Fr n0 locs) (g0 : n0 ≤ o) (V : own_Arr Z h0 o 62 f) (hone : ∀ w : Int32, f0_423 x0 x1 ((x1 &&& (255 : Int32)) % (62 : Int32)) ((((x1.toUInt32 >>> ((8 : Int32) &&& 31).toUInt32).toInt32) % (3 : Int32)) - (1 : Int32)) w = 1) :
    own_Goes p e below s n0 room_1.cells room_1.slots own_one (T0.setTop (mkF m 394 #[.val (.int x0), .val (.int x1), .unset, .unset, .unset, .unset] [(.ref o)])) := by
  obtain ⟨T1, h1, L1, X1, e1, Z1, N1, V1, st1⟩ := own_put X0 hx hZ e0 V g0 N0 Z0 (pc := 399) (Ls := #[.val (.int x0), .val (.int x1), .unset, .unset, .unset, .unset]) (rest := [(.ref o)]) (61 : Int32) (2147483647 : Int32) 61 (by decide) (by decide) (by decide) (hb hby at_399)
  refine own_Goes.pre (fun t kt => ?_) (fl400 x0 x1 o X1 hx hZ hw hby hml hown hret hlk e1 Z1 N1 g0 V1 hone)
  show Steps p.tables e below (T0.setTop (mkF m 394 #[.val (.int x0), .val (.int x1), .unset, .unset, .unset, .unset] [(.ref o)])) _
  refine XS.dup X0.here hx rfl (hb hby at_394) rfl rfl ?_
  show Steps p.tables e below (T0.setTop (mkF m 395 #[.val (.int x0), .val (.int x1), .unset, .unset, .unset, .unset] [(.ref o), (.ref o)])) _
  refine XS.bipush X0.here hx rfl (hb hby at_395) ?_
  show Steps p.tables e below (T0.setTop (mkF m 397 #[.val (.int x0), .val (.int x1), .unset, .unset, .unset, .unset] [(.int (61 : Int32)), (.ref o), (.ref o)])) _
  refine X0.ldcInt hx hown (mvT hZ (hw _ (List.mem_of_getElem? (i := 16) rfl))) (g := (mkF m 397 #[.val (.int x0), .val (.int x1), .unset, .unset, .unset, .unset] [(.int (61 : Int32)), (.ref o), (.ref o)])) rfl (hb hby at_397) _ ?_
  show Steps p.tables e below (T0.setTop (mkF m 399 #[.val (.int x0), .val (.int x1), .unset, .unset, .unset, .unset] [(.int (2147483647 : Int32)), (.int (61 : Int32)), (.ref o), (.ref o)])) _
  exact st1 _ kt
set_option maxRecDepth 65536 in
set_option maxHeartbeats 40000000 in
theorem fl388 {p : Program} {l : Launch} {e : Env} {s : State} {m : MethodId} {args : Array Value} {below : List Frame} {meth : Method} {c : Code} {T0 : State} {locs : List Loc} {Z : State} {a0 : Array Value} {h0 : Heap} {n0 : Nat} {f : Nat → Int32} (x0 : Int32) (x1 : Int32) (o : Addr) (X0 : Stand p l e room_1 s m args below meth c T0 locs 1 62) (hx : p.tables.exec = Jvm.exec) (hZ : Z.Warmed39 s.vm) (hw : ∀ d ∈ tables_1, d.before a0 Z = true) (hby : c.code = code) (hml : c.maxLocals = 6) (hown : s.vm.findClass "com/example/shape_trees/shapetrees/xpath/tree/XmlNamesIsNameStartCharPinLaw" = some m.cls) (hret : meth.sig.returnType = some .boolean) (hlk : meth.locks = false) (e0 : T0.heap = h0) (Z0 : n0 ≤ h0.size) (N0 : Fr n0 locs) (g0 : n0 ≤ o) (V : own_Arr Z h0 o 62 f) (hone : ∀ w : Int32, f0_423 x0 x1 ((x1 &&& (255 : Int32)) % (62 : Int32)) ((((x1.toUInt32 >>> ((8 : Int32) &&& 31).toUInt32).toInt32) % (3 : Int32)) - (1 : Int32)) w = 1) :
    own_Goes p e below s n0 room_1.cells room_1.slots own_one (T0.setTop (mkF m 388 #[.val (.int x0), .val (.int x1), .unset, .unset, .unset, .unset] [(.ref o)])) := by
  obtain ⟨T1, h1, L1, X1, e1, Z1, N1, V1, st1⟩ := own_put X0 hx hZ e0 V g0 N0 Z0 (pc := 393) (Ls := #[.val (.int x0), .val (.int x1), .unset, .unset, .unset, .unset]) (rest := [(.ref o)]) (60 : Int32) (983040 : Int32) 60 (by decide) (by decide) (by decide) (hb hby at_393)
  refine own_Goes.pre (fun t kt => ?_) (fl394 x0 x1 o X1 hx hZ hw hby hml hown hret hlk e1 Z1 N1 g0 V1 hone)
  show Steps p.tables e below (T0.setTop (mkF m 388 #[.val (.int x0), .val (.int x1), .unset, .unset, .unset, .unset] [(.ref o)])) _
  refine XS.dup X0.here hx rfl (hb hby at_388) rfl rfl ?_
  show Steps p.tables e below (T0.setTop (mkF m 389 #[.val (.int x0), .val (.int x1), .unset, .unset, .unset, .unset] [(.ref o), (.ref o)])) _
  refine XS.bipush X0.here hx rfl (hb hby at_389) ?_
  show Steps p.tables e below (T0.setTop (mkF m 391 #[.val (.int x0), .val (.int x1), .unset, .unset, .unset, .unset] [(.int (60 : Int32)), (.ref o), (.ref o)])) _
  refine X0.ldcInt hx hown (mvT hZ (hw _ (List.mem_of_getElem? (i := 15) rfl))) (g := (mkF m 391 #[.val (.int x0), .val (.int x1), .unset, .unset, .unset, .unset] [(.int (60 : Int32)), (.ref o), (.ref o)])) rfl (hb hby at_391) _ ?_
  show Steps p.tables e below (T0.setTop (mkF m 393 #[.val (.int x0), .val (.int x1), .unset, .unset, .unset, .unset] [(.int (983040 : Int32)), (.int (60 : Int32)), (.ref o), (.ref o)])) _
  exact st1 _ kt
set_option maxRecDepth 65536 in
set_option maxHeartbeats 40000000 in
theorem fl382 {p : Program} {l : Launch} {e : Env} {s : State} {m : MethodId} {args : Array Value} {below : List Frame} {meth : Method} {c : Code} {T0 : State} {locs : List Loc} {Z : State} {a0 : Array Value} {h0 : Heap} {n0 : Nat} {f : Nat → Int32} (x0 : Int32) (x1 : Int32) (o : Addr) (X0 : Stand p l e room_1 s m args below meth c T0 locs 1 62) (hx : p.tables.exec = Jvm.exec) (hZ : Z.Warmed39 s.vm) (hw : ∀ d ∈ tables_1, d.before a0 Z = true) (hby : c.code = code) (hml : c.maxLocals = 6) (hown : s.vm.findClass "com/example/shape_trees/shapetrees/xpath/tree/XmlNamesIsNameStartCharPinLaw" = some m.cls) (hret : meth.sig.returnType = some .boolean) (hlk : meth.locks = false) (e0 : T0.heap = h0) (Z0 : n0 ≤ h0.size) (N0 : Fr n0 locs) (g0 : n0 ≤ o) (V : own_Arr Z h0 o 62 f) (hone : ∀ w : Int32, f0_423 x0 x1 ((x1 &&& (255 : Int32)) % (62 : Int32)) ((((x1.toUInt32 >>> ((8 : Int32) &&& 31).toUInt32).toInt32) % (3 : Int32)) - (1 : Int32)) w = 1) :
    own_Goes p e below s n0 room_1.cells room_1.slots own_one (T0.setTop (mkF m 382 #[.val (.int x0), .val (.int x1), .unset, .unset, .unset, .unset] [(.ref o)])) := by
  obtain ⟨T1, h1, L1, X1, e1, Z1, N1, V1, st1⟩ := own_put X0 hx hZ e0 V g0 N0 Z0 (pc := 387) (Ls := #[.val (.int x0), .val (.int x1), .unset, .unset, .unset, .unset]) (rest := [(.ref o)]) (59 : Int32) (983039 : Int32) 59 (by decide) (by decide) (by decide) (hb hby at_387)
  refine own_Goes.pre (fun t kt => ?_) (fl388 x0 x1 o X1 hx hZ hw hby hml hown hret hlk e1 Z1 N1 g0 V1 hone)
  show Steps p.tables e below (T0.setTop (mkF m 382 #[.val (.int x0), .val (.int x1), .unset, .unset, .unset, .unset] [(.ref o)])) _
  refine XS.dup X0.here hx rfl (hb hby at_382) rfl rfl ?_
  show Steps p.tables e below (T0.setTop (mkF m 383 #[.val (.int x0), .val (.int x1), .unset, .unset, .unset, .unset] [(.ref o), (.ref o)])) _
  refine XS.bipush X0.here hx rfl (hb hby at_383) ?_
  show Steps p.tables e below (T0.setTop (mkF m 385 #[.val (.int x0), .val (.int x1), .unset, .unset, .unset, .unset] [(.int (59 : Int32)), (.ref o), (.ref o)])) _
  refine X0.ldcInt hx hown (mvT hZ (hw _ (List.mem_of_getElem? (i := 14) rfl))) (g := (mkF m 385 #[.val (.int x0), .val (.int x1), .unset, .unset, .unset, .unset] [(.int (59 : Int32)), (.ref o), (.ref o)])) rfl (hb hby at_385) _ ?_
  show Steps p.tables e below (T0.setTop (mkF m 387 #[.val (.int x0), .val (.int x1), .unset, .unset, .unset, .unset] [(.int (983039 : Int32)), (.int (59 : Int32)), (.ref o), (.ref o)])) _
  exact st1 _ kt
set_option maxRecDepth 65536 in
set_option maxHeartbeats 40000000 in
theorem fl376 {p : Program} {l : Launch} {e : Env} {s : State} {m : MethodId} {args : Array Value} {below : List Frame} {meth : Method} {c : Code} {T0 : State} {locs : List Loc} {Z : State} {a0 : Array Value} {h0 : Heap} {n0 : Nat} {f : Nat → Int32} (x0 : Int32) (x1 : Int32) (o : Addr) (X0 : Stand p l e room_1 s m args below meth c T0 locs 1 62) (hx : p.tables.exec = Jvm.exec) (hZ : Z.Warmed39 s.vm) (hw : ∀ d ∈ tables_1, d.before a0 Z = true) (hby : c.code = code) (hml : c.maxLocals = 6) (hown : s.vm.findClass "com/example/shape_trees/shapetrees/xpath/tree/XmlNamesIsNameStartCharPinLaw" = some m.cls) (hret : meth.sig.returnType = some .boolean) (hlk : meth.locks = false) (e0 : T0.heap = h0) (Z0 : n0 ≤ h0.size) (N0 : Fr n0 locs) (g0 : n0 ≤ o) (V : own_Arr Z h0 o 62 f) (hone : ∀ w : Int32, f0_423 x0 x1 ((x1 &&& (255 : Int32)) % (62 : Int32)) ((((x1.toUInt32 >>> ((8 : Int32) &&& 31).toUInt32).toInt32) % (3 : Int32)) - (1 : Int32)) w = 1) :
    own_Goes p e below s n0 room_1.cells room_1.slots own_one (T0.setTop (mkF m 376 #[.val (.int x0), .val (.int x1), .unset, .unset, .unset, .unset] [(.ref o)])) := by
  obtain ⟨T1, h1, L1, X1, e1, Z1, N1, V1, st1⟩ := own_put X0 hx hZ e0 V g0 N0 Z0 (pc := 381) (Ls := #[.val (.int x0), .val (.int x1), .unset, .unset, .unset, .unset]) (rest := [(.ref o)]) (58 : Int32) (65536 : Int32) 58 (by decide) (by decide) (by decide) (hb hby at_381)
  refine own_Goes.pre (fun t kt => ?_) (fl382 x0 x1 o X1 hx hZ hw hby hml hown hret hlk e1 Z1 N1 g0 V1 hone)
  show Steps p.tables e below (T0.setTop (mkF m 376 #[.val (.int x0), .val (.int x1), .unset, .unset, .unset, .unset] [(.ref o)])) _
  refine XS.dup X0.here hx rfl (hb hby at_376) rfl rfl ?_
  show Steps p.tables e below (T0.setTop (mkF m 377 #[.val (.int x0), .val (.int x1), .unset, .unset, .unset, .unset] [(.ref o), (.ref o)])) _
  refine XS.bipush X0.here hx rfl (hb hby at_377) ?_
  show Steps p.tables e below (T0.setTop (mkF m 379 #[.val (.int x0), .val (.int x1), .unset, .unset, .unset, .unset] [(.int (58 : Int32)), (.ref o), (.ref o)])) _
  refine X0.ldcInt hx hown (mvT hZ (hw _ (List.mem_of_getElem? (i := 13) rfl))) (g := (mkF m 379 #[.val (.int x0), .val (.int x1), .unset, .unset, .unset, .unset] [(.int (58 : Int32)), (.ref o), (.ref o)])) rfl (hb hby at_379) _ ?_
  show Steps p.tables e below (T0.setTop (mkF m 381 #[.val (.int x0), .val (.int x1), .unset, .unset, .unset, .unset] [(.int (65536 : Int32)), (.int (58 : Int32)), (.ref o), (.ref o)])) _
  exact st1 _ kt
set_option maxRecDepth 65536 in
set_option maxHeartbeats 40000000 in
theorem fl370 {p : Program} {l : Launch} {e : Env} {s : State} {m : MethodId} {args : Array Value} {below : List Frame} {meth : Method} {c : Code} {T0 : State} {locs : List Loc} {Z : State} {a0 : Array Value} {h0 : Heap} {n0 : Nat} {f : Nat → Int32} (x0 : Int32) (x1 : Int32) (o : Addr) (X0 : Stand p l e room_1 s m args below meth c T0 locs 1 62) (hx : p.tables.exec = Jvm.exec) (hZ : Z.Warmed39 s.vm) (hw : ∀ d ∈ tables_1, d.before a0 Z = true) (hby : c.code = code) (hml : c.maxLocals = 6) (hown : s.vm.findClass "com/example/shape_trees/shapetrees/xpath/tree/XmlNamesIsNameStartCharPinLaw" = some m.cls) (hret : meth.sig.returnType = some .boolean) (hlk : meth.locks = false) (e0 : T0.heap = h0) (Z0 : n0 ≤ h0.size) (N0 : Fr n0 locs) (g0 : n0 ≤ o) (V : own_Arr Z h0 o 62 f) (hone : ∀ w : Int32, f0_423 x0 x1 ((x1 &&& (255 : Int32)) % (62 : Int32)) ((((x1.toUInt32 >>> ((8 : Int32) &&& 31).toUInt32).toInt32) % (3 : Int32)) - (1 : Int32)) w = 1) :
    own_Goes p e below s n0 room_1.cells room_1.slots own_one (T0.setTop (mkF m 370 #[.val (.int x0), .val (.int x1), .unset, .unset, .unset, .unset] [(.ref o)])) := by
  obtain ⟨T1, h1, L1, X1, e1, Z1, N1, V1, st1⟩ := own_put X0 hx hZ e0 V g0 N0 Z0 (pc := 375) (Ls := #[.val (.int x0), .val (.int x1), .unset, .unset, .unset, .unset]) (rest := [(.ref o)]) (57 : Int32) (65535 : Int32) 57 (by decide) (by decide) (by decide) (hb hby at_375)
  refine own_Goes.pre (fun t kt => ?_) (fl376 x0 x1 o X1 hx hZ hw hby hml hown hret hlk e1 Z1 N1 g0 V1 hone)
  show Steps p.tables e below (T0.setTop (mkF m 370 #[.val (.int x0), .val (.int x1), .unset, .unset, .unset, .unset] [(.ref o)])) _
  refine XS.dup X0.here hx rfl (hb hby at_370) rfl rfl ?_
  show Steps p.tables e below (T0.setTop (mkF m 371 #[.val (.int x0), .val (.int x1), .unset, .unset, .unset, .unset] [(.ref o), (.ref o)])) _
  refine XS.bipush X0.here hx rfl (hb hby at_371) ?_
  show Steps p.tables e below (T0.setTop (mkF m 373 #[.val (.int x0), .val (.int x1), .unset, .unset, .unset, .unset] [(.int (57 : Int32)), (.ref o), (.ref o)])) _
  refine X0.ldcInt hx hown (mvT hZ (hw _ (List.mem_of_getElem? (i := 12) rfl))) (g := (mkF m 373 #[.val (.int x0), .val (.int x1), .unset, .unset, .unset, .unset] [(.int (57 : Int32)), (.ref o), (.ref o)])) rfl (hb hby at_373) _ ?_
  show Steps p.tables e below (T0.setTop (mkF m 375 #[.val (.int x0), .val (.int x1), .unset, .unset, .unset, .unset] [(.int (65535 : Int32)), (.int (57 : Int32)), (.ref o), (.ref o)])) _
  exact st1 _ kt
set_option maxRecDepth 65536 in
set_option maxHeartbeats 40000000 in
theorem fl364 {p : Program} {l : Launch} {e : Env} {s : State} {m : MethodId} {args : Array Value} {below : List Frame} {meth : Method} {c : Code} {T0 : State} {locs : List Loc} {Z : State} {a0 : Array Value} {h0 : Heap} {n0 : Nat} {f : Nat → Int32} (x0 : Int32) (x1 : Int32) (o : Addr) (X0 : Stand p l e room_1 s m args below meth c T0 locs 1 62) (hx : p.tables.exec = Jvm.exec) (hZ : Z.Warmed39 s.vm) (hw : ∀ d ∈ tables_1, d.before a0 Z = true) (hby : c.code = code) (hml : c.maxLocals = 6) (hown : s.vm.findClass "com/example/shape_trees/shapetrees/xpath/tree/XmlNamesIsNameStartCharPinLaw" = some m.cls) (hret : meth.sig.returnType = some .boolean) (hlk : meth.locks = false) (e0 : T0.heap = h0) (Z0 : n0 ≤ h0.size) (N0 : Fr n0 locs) (g0 : n0 ≤ o) (V : own_Arr Z h0 o 62 f) (hone : ∀ w : Int32, f0_423 x0 x1 ((x1 &&& (255 : Int32)) % (62 : Int32)) ((((x1.toUInt32 >>> ((8 : Int32) &&& 31).toUInt32).toInt32) % (3 : Int32)) - (1 : Int32)) w = 1) :
    own_Goes p e below s n0 room_1.cells room_1.slots own_one (T0.setTop (mkF m 364 #[.val (.int x0), .val (.int x1), .unset, .unset, .unset, .unset] [(.ref o)])) := by
  obtain ⟨T1, h1, L1, X1, e1, Z1, N1, V1, st1⟩ := own_put X0 hx hZ e0 V g0 N0 Z0 (pc := 369) (Ls := #[.val (.int x0), .val (.int x1), .unset, .unset, .unset, .unset]) (rest := [(.ref o)]) (56 : Int32) (65534 : Int32) 56 (by decide) (by decide) (by decide) (hb hby at_369)
  refine own_Goes.pre (fun t kt => ?_) (fl370 x0 x1 o X1 hx hZ hw hby hml hown hret hlk e1 Z1 N1 g0 V1 hone)
  show Steps p.tables e below (T0.setTop (mkF m 364 #[.val (.int x0), .val (.int x1), .unset, .unset, .unset, .unset] [(.ref o)])) _
  refine XS.dup X0.here hx rfl (hb hby at_364) rfl rfl ?_
  show Steps p.tables e below (T0.setTop (mkF m 365 #[.val (.int x0), .val (.int x1), .unset, .unset, .unset, .unset] [(.ref o), (.ref o)])) _
  refine XS.bipush X0.here hx rfl (hb hby at_365) ?_
  show Steps p.tables e below (T0.setTop (mkF m 367 #[.val (.int x0), .val (.int x1), .unset, .unset, .unset, .unset] [(.int (56 : Int32)), (.ref o), (.ref o)])) _
  refine X0.ldcInt hx hown (mvT hZ (hw _ (List.mem_of_getElem? (i := 11) rfl))) (g := (mkF m 367 #[.val (.int x0), .val (.int x1), .unset, .unset, .unset, .unset] [(.int (56 : Int32)), (.ref o), (.ref o)])) rfl (hb hby at_367) _ ?_
  show Steps p.tables e below (T0.setTop (mkF m 369 #[.val (.int x0), .val (.int x1), .unset, .unset, .unset, .unset] [(.int (65534 : Int32)), (.int (56 : Int32)), (.ref o), (.ref o)])) _
  exact st1 _ kt
set_option maxRecDepth 65536 in
set_option maxHeartbeats 40000000 in
theorem fl358 {p : Program} {l : Launch} {e : Env} {s : State} {m : MethodId} {args : Array Value} {below : List Frame} {meth : Method} {c : Code} {T0 : State} {locs : List Loc} {Z : State} {a0 : Array Value} {h0 : Heap} {n0 : Nat} {f : Nat → Int32} (x0 : Int32) (x1 : Int32) (o : Addr) (X0 : Stand p l e room_1 s m args below meth c T0 locs 1 62) (hx : p.tables.exec = Jvm.exec) (hZ : Z.Warmed39 s.vm) (hw : ∀ d ∈ tables_1, d.before a0 Z = true) (hby : c.code = code) (hml : c.maxLocals = 6) (hown : s.vm.findClass "com/example/shape_trees/shapetrees/xpath/tree/XmlNamesIsNameStartCharPinLaw" = some m.cls) (hret : meth.sig.returnType = some .boolean) (hlk : meth.locks = false) (e0 : T0.heap = h0) (Z0 : n0 ≤ h0.size) (N0 : Fr n0 locs) (g0 : n0 ≤ o) (V : own_Arr Z h0 o 62 f) (hone : ∀ w : Int32, f0_423 x0 x1 ((x1 &&& (255 : Int32)) % (62 : Int32)) ((((x1.toUInt32 >>> ((8 : Int32) &&& 31).toUInt32).toInt32) % (3 : Int32)) - (1 : Int32)) w = 1) :
    own_Goes p e below s n0 room_1.cells room_1.slots own_one (T0.setTop (mkF m 358 #[.val (.int x0), .val (.int x1), .unset, .unset, .unset, .unset] [(.ref o)])) := by
  obtain ⟨T1, h1, L1, X1, e1, Z1, N1, V1, st1⟩ := own_put X0 hx hZ e0 V g0 N0 Z0 (pc := 363) (Ls := #[.val (.int x0), .val (.int x1), .unset, .unset, .unset, .unset]) (rest := [(.ref o)]) (55 : Int32) (65533 : Int32) 55 (by decide) (by decide) (by decide) (hb hby at_363)
  refine own_Goes.pre (fun t kt => ?_) (fl364 x0 x1 o X1 hx hZ hw hby hml hown hret hlk e1 Z1 N1 g0 V1 hone)
  show Steps p.tables e below (T0.setTop (mkF m 358 #[.val (.int x0), .val (.int x1), .unset, .unset, .unset, .unset] [(.ref o)])) _
  refine XS.dup X0.here hx rfl (hb hby at_358) rfl rfl ?_
  show Steps p.tables e below (T0.setTop (mkF m 359 #[.val (.int x0), .val (.int x1), .unset, .unset, .unset, .unset] [(.ref o), (.ref o)])) _
  refine XS.bipush X0.here hx rfl (hb hby at_359) ?_
  show Steps p.tables e below (T0.setTop (mkF m 361 #[.val (.int x0), .val (.int x1), .unset, .unset, .unset, .unset] [(.int (55 : Int32)), (.ref o), (.ref o)])) _
  refine X0.ldcInt hx hown (mvT hZ (hw _ (List.mem_of_getElem? (i := 10) rfl))) (g := (mkF m 361 #[.val (.int x0), .val (.int x1), .unset, .unset, .unset, .unset] [(.int (55 : Int32)), (.ref o), (.ref o)])) rfl (hb hby at_361) _ ?_
  show Steps p.tables e below (T0.setTop (mkF m 363 #[.val (.int x0), .val (.int x1), .unset, .unset, .unset, .unset] [(.int (65533 : Int32)), (.int (55 : Int32)), (.ref o), (.ref o)])) _
  exact st1 _ kt
set_option maxRecDepth 65536 in
set_option maxHeartbeats 40000000 in
theorem fl352 {p : Program} {l : Launch} {e : Env} {s : State} {m : MethodId} {args : Array Value} {below : List Frame} {meth : Method} {c : Code} {T0 : State} {locs : List Loc} {Z : State} {a0 : Array Value} {h0 : Heap} {n0 : Nat} {f : Nat → Int32} (x0 : Int32) (x1 : Int32) (o : Addr) (X0 : Stand p l e room_1 s m args below meth c T0 locs 1 62) (hx : p.tables.exec = Jvm.exec) (hZ : Z.Warmed39 s.vm) (hw : ∀ d ∈ tables_1, d.before a0 Z = true) (hby : c.code = code) (hml : c.maxLocals = 6) (hown : s.vm.findClass "com/example/shape_trees/shapetrees/xpath/tree/XmlNamesIsNameStartCharPinLaw" = some m.cls) (hret : meth.sig.returnType = some .boolean) (hlk : meth.locks = false) (e0 : T0.heap = h0) (Z0 : n0 ≤ h0.size) (N0 : Fr n0 locs) (g0 : n0 ≤ o) (V : own_Arr Z h0 o 62 f) (hone : ∀ w : Int32, f0_423 x0 x1 ((x1 &&& (255 : Int32)) % (62 : Int32)) ((((x1.toUInt32 >>> ((8 : Int32) &&& 31).toUInt32).toInt32) % (3 : Int32)) - (1 : Int32)) w = 1) :
    own_Goes p e below s n0 room_1.cells room_1.slots own_one (T0.setTop (mkF m 352 #[.val (.int x0), .val (.int x1), .unset, .unset, .unset, .unset] [(.ref o)])) := by
  obtain ⟨T1, h1, L1, X1, e1, Z1, N1, V1, st1⟩ := own_put X0 hx hZ e0 V g0 N0 Z0 (pc := 357) (Ls := #[.val (.int x0), .val (.int x1), .unset, .unset, .unset, .unset]) (rest := [(.ref o)]) (54 : Int32) (65008 : Int32) 54 (by decide) (by decide) (by decide) (hb hby at_357)
  refine own_Goes.pre (fun t kt => ?_) (fl358 x0 x1 o X1 hx hZ hw hby hml hown hret hlk e1 Z1 N1 g0 V1 hone)
  show Steps p.tables e below (T0.setTop (mkF m 352 #[.val (.int x0), .val (.int x1), .unset, .unset, .unset, .unset] [(.ref o)])) _
  refine XS.dup X0.here hx rfl (hb hby at_352) rfl rfl ?_
  show Steps p.tables e below (T0.setTop (mkF m 353 #[.val (.int x0), .val (.int x1), .unset, .unset, .unset, .unset] [(.ref o), (.ref o)])) _
  refine XS.bipush X0.here hx rfl (hb hby at_353) ?_
  show Steps p.tables e below (T0.setTop (mkF m 355 #[.val (.int x0), .val (.int x1), .unset, .unset, .unset, .unset] [(.int (54 : Int32)), (.ref o), (.ref o)])) _
  refine X0.ldcInt hx hown (mvT hZ (hw _ (List.mem_of_getElem? (i := 9) rfl))) (g := (mkF m 355 #[.val (.int x0), .val (.int x1), .unset, .unset, .unset, .unset] [(.int (54 : Int32)), (.ref o), (.ref o)])) rfl (hb hby at_355) _ ?_
  show Steps p.tables e below (T0.setTop (mkF m 357 #[.val (.int x0), .val (.int x1), .unset, .unset, .unset, .unset] [(.int (65008 : Int32)), (.int (54 : Int32)), (.ref o), (.ref o)])) _
  exact st1 _ kt
set_option maxRecDepth 65536 in
set_option maxHeartbeats 40000000 in
theorem fl346 {p : Program} {l : Launch} {e : Env} {s : State} {m : MethodId} {args : Array Value} {below : List Frame} {meth : Method} {c : Code} {T0 : State} {locs : List Loc} {Z : State} {a0 : Array Value} {h0 : Heap} {n0 : Nat} {f : Nat → Int32} (x0 : Int32) (x1 : Int32) (o : Addr) (X0 : Stand p l e room_1 s m args below meth c T0 locs 1 62) (hx : p.tables.exec = Jvm.exec) (hZ : Z.Warmed39 s.vm) (hw : ∀ d ∈ tables_1, d.before a0 Z = true) (hby : c.code = code) (hml : c.maxLocals = 6) (hown : s.vm.findClass "com/example/shape_trees/shapetrees/xpath/tree/XmlNamesIsNameStartCharPinLaw" = some m.cls) (hret : meth.sig.returnType = some .boolean) (hlk : meth.locks = false) (e0 : T0.heap = h0) (Z0 : n0 ≤ h0.size) (N0 : Fr n0 locs) (g0 : n0 ≤ o) (V : own_Arr Z h0 o 62 f) (hone : ∀ w : Int32, f0_423 x0 x1 ((x1 &&& (255 : Int32)) % (62 : Int32)) ((((x1.toUInt32 >>> ((8 : Int32) &&& 31).toUInt32).toInt32) % (3 : Int32)) - (1 : Int32)) w = 1) :
    own_Goes p e below s n0 room_1.cells room_1.slots own_one (T0.setTop (mkF m 346 #[.val (.int x0), .val (.int x1), .unset, .unset, .unset, .unset] [(.ref o)])) := by
  obtain ⟨T1, h1, L1, X1, e1, Z1, N1, V1, st1⟩ := own_put X0 hx hZ e0 V g0 N0 Z0 (pc := 351) (Ls := #[.val (.int x0), .val (.int x1), .unset, .unset, .unset, .unset]) (rest := [(.ref o)]) (53 : Int32) (65007 : Int32) 53 (by decide) (by decide) (by decide) (hb hby at_351)
  refine own_Goes.pre (fun t kt => ?_) (fl352 x0 x1 o X1 hx hZ hw hby hml hown hret hlk e1 Z1 N1 g0 V1 hone)
  show Steps p.tables e below (T0.setTop (mkF m 346 #[.val (.int x0), .val (.int x1), .unset, .unset, .unset, .unset] [(.ref o)])) _
  refine XS.dup X0.here hx rfl (hb hby at_346) rfl rfl ?_
  show Steps p.tables e below (T0.setTop (mkF m 347 #[.val (.int x0), .val (.int x1), .unset, .unset, .unset, .unset] [(.ref o), (.ref o)])) _
  refine XS.bipush X0.here hx rfl (hb hby at_347) ?_
  show Steps p.tables e below (T0.setTop (mkF m 349 #[.val (.int x0), .val (.int x1), .unset, .unset, .unset, .unset] [(.int (53 : Int32)), (.ref o), (.ref o)])) _
  refine X0.ldcInt hx hown (mvT hZ (hw _ (List.mem_of_getElem? (i := 8) rfl))) (g := (mkF m 349 #[.val (.int x0), .val (.int x1), .unset, .unset, .unset, .unset] [(.int (53 : Int32)), (.ref o), (.ref o)])) rfl (hb hby at_349) _ ?_
  show Steps p.tables e below (T0.setTop (mkF m 351 #[.val (.int x0), .val (.int x1), .unset, .unset, .unset, .unset] [(.int (65007 : Int32)), (.int (53 : Int32)), (.ref o), (.ref o)])) _
  exact st1 _ kt
set_option maxRecDepth 65536 in
set_option maxHeartbeats 40000000 in
theorem fl340 {p : Program} {l : Launch} {e : Env} {s : State} {m : MethodId} {args : Array Value} {below : List Frame} {meth : Method} {c : Code} {T0 : State} {locs : List Loc} {Z : State} {a0 : Array Value} {h0 : Heap} {n0 : Nat} {f : Nat → Int32} (x0 : Int32) (x1 : Int32) (o : Addr) (X0 : Stand p l e room_1 s m args below meth c T0 locs 1 62) (hx : p.tables.exec = Jvm.exec) (hZ : Z.Warmed39 s.vm) (hw : ∀ d ∈ tables_1, d.before a0 Z = true) (hby : c.code = code) (hml : c.maxLocals = 6) (hown : s.vm.findClass "com/example/shape_trees/shapetrees/xpath/tree/XmlNamesIsNameStartCharPinLaw" = some m.cls) (hret : meth.sig.returnType = some .boolean) (hlk : meth.locks = false) (e0 : T0.heap = h0) (Z0 : n0 ≤ h0.size) (N0 : Fr n0 locs) (g0 : n0 ≤ o) (V : own_Arr Z h0 o 62 f) (hone : ∀ w : Int32, f0_423 x0 x1 ((x1 &&& (255 : Int32)) % (62 : Int32)) ((((x1.toUInt32 >>> ((8 : Int32) &&& 31).toUInt32).toInt32) % (3 : Int32)) - (1 : Int32)) w = 1) :
    own_Goes p e below s n0 room_1.cells room_1.slots own_one (T0.setTop (mkF m 340 #[.val (.int x0), .val (.int x1), .unset, .unset, .unset, .unset] [(.ref o)])) := by
  obtain ⟨T1, h1, L1, X1, e1, Z1, N1, V1, st1⟩ := own_put X0 hx hZ e0 V g0 N0 Z0 (pc := 345) (Ls := #[.val (.int x0), .val (.int x1), .unset, .unset, .unset, .unset]) (rest := [(.ref o)]) (52 : Int32) (64976 : Int32) 52 (by decide) (by decide) (by decide) (hb hby at_345)
  refine own_Goes.pre (fun t kt => ?_) (fl346 x0 x1 o X1 hx hZ hw hby hml hown hret hlk e1 Z1 N1 g0 V1 hone)
  show Steps p.tables e below (T0.setTop (mkF m 340 #[.val (.int x0), .val (.int x1), .unset, .unset, .unset, .unset] [(.ref o)])) _
  refine XS.dup X0.here hx rfl (hb hby at_340) rfl rfl ?_
  show Steps p.tables e below (T0.setTop (mkF m 341 #[.val (.int x0), .val (.int x1), .unset, .unset, .unset, .unset] [(.ref o), (.ref o)])) _
  refine XS.bipush X0.here hx rfl (hb hby at_341) ?_
  show Steps p.tables e below (T0.setTop (mkF m 343 #[.val (.int x0), .val (.int x1), .unset, .unset, .unset, .unset] [(.int (52 : Int32)), (.ref o), (.ref o)])) _
  refine X0.ldcInt hx hown (mvT hZ (hw _ (List.mem_of_getElem? (i := 7) rfl))) (g := (mkF m 343 #[.val (.int x0), .val (.int x1), .unset, .unset, .unset, .unset] [(.int (52 : Int32)), (.ref o), (.ref o)])) rfl (hb hby at_343) _ ?_
  show Steps p.tables e below (T0.setTop (mkF m 345 #[.val (.int x0), .val (.int x1), .unset, .unset, .unset, .unset] [(.int (64976 : Int32)), (.int (52 : Int32)), (.ref o), (.ref o)])) _
  exact st1 _ kt
set_option maxRecDepth 65536 in
set_option maxHeartbeats 40000000 in
theorem fl334 {p : Program} {l : Launch} {e : Env} {s : State} {m : MethodId} {args : Array Value} {below : List Frame} {meth : Method} {c : Code} {T0 : State} {locs : List Loc} {Z : State} {a0 : Array Value} {h0 : Heap} {n0 : Nat} {f : Nat → Int32} (x0 : Int32) (x1 : Int32) (o : Addr) (X0 : Stand p l e room_1 s m args below meth c T0 locs 1 62) (hx : p.tables.exec = Jvm.exec) (hZ : Z.Warmed39 s.vm) (hw : ∀ d ∈ tables_1, d.before a0 Z = true) (hby : c.code = code) (hml : c.maxLocals = 6) (hown : s.vm.findClass "com/example/shape_trees/shapetrees/xpath/tree/XmlNamesIsNameStartCharPinLaw" = some m.cls) (hret : meth.sig.returnType = some .boolean) (hlk : meth.locks = false) (e0 : T0.heap = h0) (Z0 : n0 ≤ h0.size) (N0 : Fr n0 locs) (g0 : n0 ≤ o) (V : own_Arr Z h0 o 62 f) (hone : ∀ w : Int32, f0_423 x0 x1 ((x1 &&& (255 : Int32)) % (62 : Int32)) ((((x1.toUInt32 >>> ((8 : Int32) &&& 31).toUInt32).toInt32) % (3 : Int32)) - (1 : Int32)) w = 1) :
    own_Goes p e below s n0 room_1.cells room_1.slots own_one (T0.setTop (mkF m 334 #[.val (.int x0), .val (.int x1), .unset, .unset, .unset, .unset] [(.ref o)])) := by
  obtain ⟨T1, h1, L1, X1, e1, Z1, N1, V1, st1⟩ := own_put X0 hx hZ e0 V g0 N0 Z0 (pc := 339) (Ls := #[.val (.int x0), .val (.int x1), .unset, .unset, .unset, .unset]) (rest := [(.ref o)]) (51 : Int32) (64975 : Int32) 51 (by decide) (by decide) (by decide) (hb hby at_339)
  refine own_Goes.pre (fun t kt => ?_) (fl340 x0 x1 o X1 hx hZ hw hby hml hown hret hlk e1 Z1 N1 g0 V1 hone)
  show Steps p.tables e below (T0.setTop (mkF m 334 #[.val (.int x0), .val (.int x1), .unset, .unset, .unset, .unset] [(.ref o)])) _
  refine XS.dup X0.here hx rfl (hb hby at_334) rfl rfl ?_
  show Steps p.tables e below (T0.setTop (mkF m 335 #[.val (.int x0), .val (.int x1), .unset, .unset, .unset, .unset] [(.ref o), (.ref o)])) _
  refine XS.bipush X0.here hx rfl (hb hby at_335) ?_
  show Steps p.tables e below (T0.setTop (mkF m 337 #[.val (.int x0), .val (.int x1), .unset, .unset, .unset, .unset] [(.int (51 : Int32)), (.ref o), (.ref o)])) _
  refine X0.ldcInt hx hown (mvT hZ (hw _ (List.mem_of_getElem? (i := 6) rfl))) (g := (mkF m 337 #[.val (.int x0), .val (.int x1), .unset, .unset, .unset, .unset] [(.int (51 : Int32)), (.ref o), (.ref o)])) rfl (hb hby at_337) _ ?_
  show Steps p.tables e below (T0.setTop (mkF m 339 #[.val (.int x0), .val (.int x1), .unset, .unset, .unset, .unset] [(.int (64975 : Int32)), (.int (51 : Int32)), (.ref o), (.ref o)])) _
  exact st1 _ kt
set_option maxRecDepth 65536 in
set_option maxHeartbeats 40000000 in
theorem fl328 {p : Program} {l : Launch} {e : Env} {s : State} {m : MethodId} {args : Array Value} {below : List Frame} {meth : Method} {c : Code} {T0 : State} {locs : List Loc} {Z : State} {a0 : Array Value} {h0 : Heap} {n0 : Nat} {f : Nat → Int32} (x0 : Int32) (x1 : Int32) (o : Addr) (X0 : Stand p l e room_1 s m args below meth c T0 locs 1 62) (hx : p.tables.exec = Jvm.exec) (hZ : Z.Warmed39 s.vm) (hw : ∀ d ∈ tables_1, d.before a0 Z = true) (hby : c.code = code) (hml : c.maxLocals = 6) (hown : s.vm.findClass "com/example/shape_trees/shapetrees/xpath/tree/XmlNamesIsNameStartCharPinLaw" = some m.cls) (hret : meth.sig.returnType = some .boolean) (hlk : meth.locks = false) (e0 : T0.heap = h0) (Z0 : n0 ≤ h0.size) (N0 : Fr n0 locs) (g0 : n0 ≤ o) (V : own_Arr Z h0 o 62 f) (hone : ∀ w : Int32, f0_423 x0 x1 ((x1 &&& (255 : Int32)) % (62 : Int32)) ((((x1.toUInt32 >>> ((8 : Int32) &&& 31).toUInt32).toInt32) % (3 : Int32)) - (1 : Int32)) w = 1) :
    own_Goes p e below s n0 room_1.cells room_1.slots own_one (T0.setTop (mkF m 328 #[.val (.int x0), .val (.int x1), .unset, .unset, .unset, .unset] [(.ref o)])) := by
  obtain ⟨T1, h1, L1, X1, e1, Z1, N1, V1, st1⟩ := own_put X0 hx hZ e0 V g0 N0 Z0 (pc := 333) (Ls := #[.val (.int x0), .val (.int x1), .unset, .unset, .unset, .unset]) (rest := [(.ref o)]) (50 : Int32) (63744 : Int32) 50 (by decide) (by decide) (by decide) (hb hby at_333)
  refine own_Goes.pre (fun t kt => ?_) (fl334 x0 x1 o X1 hx hZ hw hby hml hown hret hlk e1 Z1 N1 g0 V1 hone)
  show Steps p.tables e below (T0.setTop (mkF m 328 #[.val (.int x0), .val (.int x1), .unset, .unset, .unset, .unset] [(.ref o)])) _
  refine XS.dup X0.here hx rfl (hb hby at_328) rfl rfl ?_
  show Steps p.tables e below (T0.setTop (mkF m 329 #[.val (.int x0), .val (.int x1), .unset, .unset, .unset, .unset] [(.ref o), (.ref o)])) _
  refine XS.bipush X0.here hx rfl (hb hby at_329) ?_
  show Steps p.tables e below (T0.setTop (mkF m 331 #[.val (.int x0), .val (.int x1), .unset, .unset, .unset, .unset] [(.int (50 : Int32)), (.ref o), (.ref o)])) _
  refine X0.ldcInt hx hown (mvT hZ (hw _ (List.mem_of_getElem? (i := 5) rfl))) (g := (mkF m 331 #[.val (.int x0), .val (.int x1), .unset, .unset, .unset, .unset] [(.int (50 : Int32)), (.ref o), (.ref o)])) rfl (hb hby at_331) _ ?_
  show Steps p.tables e below (T0.setTop (mkF m 333 #[.val (.int x0), .val (.int x1), .unset, .unset, .unset, .unset] [(.int (63744 : Int32)), (.int (50 : Int32)), (.ref o), (.ref o)])) _
  exact st1 _ kt
set_option maxRecDepth 65536 in
set_option maxHeartbeats 40000000 in
theorem fl322 {p : Program} {l : Launch} {e : Env} {s : State} {m : MethodId} {args : Array Value} {below : List Frame} {meth : Method} {c : Code} {T0 : State} {locs : List Loc} {Z : State} {a0 : Array Value} {h0 : Heap} {n0 : Nat} {f : Nat → Int32} (x0 : Int32) (x1 : Int32) (o : Addr) (X0 : Stand p l e room_1 s m args below meth c T0 locs 1 62) (hx : p.tables.exec = Jvm.exec) (hZ : Z.Warmed39 s.vm) (hw : ∀ d ∈ tables_1, d.before a0 Z = true) (hby : c.code = code) (hml : c.maxLocals = 6) (hown : s.vm.findClass "com/example/shape_trees/shapetrees/xpath/tree/XmlNamesIsNameStartCharPinLaw" = some m.cls) (hret : meth.sig.returnType = some .boolean) (hlk : meth.locks = false) (e0 : T0.heap = h0) (Z0 : n0 ≤ h0.size) (N0 : Fr n0 locs) (g0 : n0 ≤ o) (V : own_Arr Z h0 o 62 f) (hone : ∀ w : Int32, f0_423 x0 x1 ((x1 &&& (255 : Int32)) % (62 : Int32)) ((((x1.toUInt32 >>> ((8 : Int32) &&& 31).toUInt32).toInt32) % (3 : Int32)) - (1 : Int32)) w = 1) :
    own_Goes p e below s n0 room_1.cells room_1.slots own_one (T0.setTop (mkF m 322 #[.val (.int x0), .val (.int x1), .unset, .unset, .unset, .unset] [(.ref o)])) := by
  obtain ⟨T1, h1, L1, X1, e1, Z1, N1, V1, st1⟩ := own_put X0 hx hZ e0 V g0 N0 Z0 (pc := 327) (Ls := #[.val (.int x0), .val (.int x1), .unset, .unset, .unset, .unset]) (rest := [(.ref o)]) (49 : Int32) (63743 : Int32) 49 (by decide) (by decide) (by decide) (hb hby at_327)
  refine own_Goes.pre (fun t kt => ?_) (fl328 x0 x1 o X1 hx hZ hw hby hml hown hret hlk e1 Z1 N1 g0 V1 hone)
  show Steps p.tables e below (T0.setTop (mkF m 322 #[.val (.int x0), .val (.int x1), .unset, .unset, .unset, .unset] [(.ref o)])) _
  refine XS.dup X0.here hx rfl (hb hby at_322) rfl rfl ?_
  show Steps p.tables e below (T0.setTop (mkF m 323 #[.val (.int x0), .val (.int x1), .unset, .unset, .unset, .unset] [(.ref o), (.ref o)])) _
  refine XS.bipush X0.here hx rfl (hb hby at_323) ?_
  show Steps p.tables e below (T0.setTop (mkF m 325 #[.val (.int x0), .val (.int x1), .unset, .unset, .unset, .unset] [(.int (49 : Int32)), (.ref o), (.ref o)])) _
  refine X0.ldcInt hx hown (mvT hZ (hw _ (List.mem_of_getElem? (i := 4) rfl))) (g := (mkF m 325 #[.val (.int x0), .val (.int x1), .unset, .unset, .unset, .unset] [(.int (49 : Int32)), (.ref o), (.ref o)])) rfl (hb hby at_325) _ ?_
  show Steps p.tables e below (T0.setTop (mkF m 327 #[.val (.int x0), .val (.int x1), .unset, .unset, .unset, .unset] [(.int (63743 : Int32)), (.int (49 : Int32)), (.ref o), (.ref o)])) _
  exact st1 _ kt
set_option maxRecDepth 65536 in
set_option maxHeartbeats 40000000 in
theorem fl316 {p : Program} {l : Launch} {e : Env} {s : State} {m : MethodId} {args : Array Value} {below : List Frame} {meth : Method} {c : Code} {T0 : State} {locs : List Loc} {Z : State} {a0 : Array Value} {h0 : Heap} {n0 : Nat} {f : Nat → Int32} (x0 : Int32) (x1 : Int32) (o : Addr) (X0 : Stand p l e room_1 s m args below meth c T0 locs 1 62) (hx : p.tables.exec = Jvm.exec) (hZ : Z.Warmed39 s.vm) (hw : ∀ d ∈ tables_1, d.before a0 Z = true) (hby : c.code = code) (hml : c.maxLocals = 6) (hown : s.vm.findClass "com/example/shape_trees/shapetrees/xpath/tree/XmlNamesIsNameStartCharPinLaw" = some m.cls) (hret : meth.sig.returnType = some .boolean) (hlk : meth.locks = false) (e0 : T0.heap = h0) (Z0 : n0 ≤ h0.size) (N0 : Fr n0 locs) (g0 : n0 ≤ o) (V : own_Arr Z h0 o 62 f) (hone : ∀ w : Int32, f0_423 x0 x1 ((x1 &&& (255 : Int32)) % (62 : Int32)) ((((x1.toUInt32 >>> ((8 : Int32) &&& 31).toUInt32).toInt32) % (3 : Int32)) - (1 : Int32)) w = 1) :
    own_Goes p e below s n0 room_1.cells room_1.slots own_one (T0.setTop (mkF m 316 #[.val (.int x0), .val (.int x1), .unset, .unset, .unset, .unset] [(.ref o)])) := by
  obtain ⟨T1, h1, L1, X1, e1, Z1, N1, V1, st1⟩ := own_put X0 hx hZ e0 V g0 N0 Z0 (pc := 321) (Ls := #[.val (.int x0), .val (.int x1), .unset, .unset, .unset, .unset]) (rest := [(.ref o)]) (48 : Int32) (55296 : Int32) 48 (by decide) (by decide) (by decide) (hb hby at_321)
  refine own_Goes.pre (fun t kt => ?_) (fl322 x0 x1 o X1 hx hZ hw hby hml hown hret hlk e1 Z1 N1 g0 V1 hone)
  show Steps p.tables e below (T0.setTop (mkF m 316 #[.val (.int x0), .val (.int x1), .unset, .unset, .unset, .unset] [(.ref o)])) _
  refine XS.dup X0.here hx rfl (hb hby at_316) rfl rfl ?_
  show Steps p.tables e below (T0.setTop (mkF m 317 #[.val (.int x0), .val (.int x1), .unset, .unset, .unset, .unset] [(.ref o), (.ref o)])) _
  refine XS.bipush X0.here hx rfl (hb hby at_317) ?_
  show Steps p.tables e below (T0.setTop (mkF m 319 #[.val (.int x0), .val (.int x1), .unset, .unset, .unset, .unset] [(.int (48 : Int32)), (.ref o), (.ref o)])) _
  refine X0.ldcInt hx hown (mvT hZ (hw _ (List.mem_of_getElem? (i := 3) rfl))) (g := (mkF m 319 #[.val (.int x0), .val (.int x1), .unset, .unset, .unset, .unset] [(.int (48 : Int32)), (.ref o), (.ref o)])) rfl (hb hby at_319) _ ?_
  show Steps p.tables e below (T0.setTop (mkF m 321 #[.val (.int x0), .val (.int x1), .unset, .unset, .unset, .unset] [(.int (55296 : Int32)), (.int (48 : Int32)), (.ref o), (.ref o)])) _
  exact st1 _ kt
set_option maxRecDepth 65536 in
set_option maxHeartbeats 40000000 in
theorem fl310 {p : Program} {l : Launch} {e : Env} {s : State} {m : MethodId} {args : Array Value} {below : List Frame} {meth : Method} {c : Code} {T0 : State} {locs : List Loc} {Z : State} {a0 : Array Value} {h0 : Heap} {n0 : Nat} {f : Nat → Int32} (x0 : Int32) (x1 : Int32) (o : Addr) (X0 : Stand p l e room_1 s m args below meth c T0 locs 1 62) (hx : p.tables.exec = Jvm.exec) (hZ : Z.Warmed39 s.vm) (hw : ∀ d ∈ tables_1, d.before a0 Z = true) (hby : c.code = code) (hml : c.maxLocals = 6) (hown : s.vm.findClass "com/example/shape_trees/shapetrees/xpath/tree/XmlNamesIsNameStartCharPinLaw" = some m.cls) (hret : meth.sig.returnType = some .boolean) (hlk : meth.locks = false) (e0 : T0.heap = h0) (Z0 : n0 ≤ h0.size) (N0 : Fr n0 locs) (g0 : n0 ≤ o) (V : own_Arr Z h0 o 62 f) (hone : ∀ w : Int32, f0_423 x0 x1 ((x1 &&& (255 : Int32)) % (62 : Int32)) ((((x1.toUInt32 >>> ((8 : Int32) &&& 31).toUInt32).toInt32) % (3 : Int32)) - (1 : Int32)) w = 1) :
    own_Goes p e below s n0 room_1.cells room_1.slots own_one (T0.setTop (mkF m 310 #[.val (.int x0), .val (.int x1), .unset, .unset, .unset, .unset] [(.ref o)])) := by
  obtain ⟨T1, h1, L1, X1, e1, Z1, N1, V1, st1⟩ := own_put X0 hx hZ e0 V g0 N0 Z0 (pc := 315) (Ls := #[.val (.int x0), .val (.int x1), .unset, .unset, .unset, .unset]) (rest := [(.ref o)]) (47 : Int32) (55295 : Int32) 47 (by decide) (by decide) (by decide) (hb hby at_315)
  refine own_Goes.pre (fun t kt => ?_) (fl316 x0 x1 o X1 hx hZ hw hby hml hown hret hlk e1 Z1 N1 g0 V1 hone)
  show Steps p.tables e below (T0.setTop (mkF m 310 #[.val (.int x0), .val (.int x1), .unset, .unset, .unset, .unset] [(.ref o)])) _
  refine XS.dup X0.here hx rfl (hb hby at_310) rfl rfl ?_
  show Steps p.tables e below (T0.setTop (mkF m 311 #[.val (.int x0), .val (.int x1), .unset, .unset, .unset, .unset] [(.ref o), (.ref o)])) _
  refine XS.bipush X0.here hx rfl (hb hby at_311) ?_
  show Steps p.tables e below (T0.setTop (mkF m 313 #[.val (.int x0), .val (.int x1), .unset, .unset, .unset, .unset] [(.int (47 : Int32)), (.ref o), (.ref o)])) _
  refine X0.ldcInt hx hown (mvT hZ (hw _ (List.mem_of_getElem? (i := 2) rfl))) (g := (mkF m 313 #[.val (.int x0), .val (.int x1), .unset, .unset, .unset, .unset] [(.int (47 : Int32)), (.ref o), (.ref o)])) rfl (hb hby at_313) _ ?_
  show Steps p.tables e below (T0.setTop (mkF m 315 #[.val (.int x0), .val (.int x1), .unset, .unset, .unset, .unset] [(.int (55295 : Int32)), (.int (47 : Int32)), (.ref o), (.ref o)])) _
  exact st1 _ kt
set_option maxRecDepth 65536 in
set_option maxHeartbeats 40000000 in
theorem fl303 {p : Program} {l : Launch} {e : Env} {s : State} {m : MethodId} {args : Array Value} {below : List Frame} {meth : Method} {c : Code} {T0 : State} {locs : List Loc} {Z : State} {a0 : Array Value} {h0 : Heap} {n0 : Nat} {f : Nat → Int32} (x0 : Int32) (x1 : Int32) (o : Addr) (X0 : Stand p l e room_1 s m args below meth c T0 locs 1 62) (hx : p.tables.exec = Jvm.exec) (hZ : Z.Warmed39 s.vm) (hw : ∀ d ∈ tables_1, d.before a0 Z = true) (hby : c.code = code) (hml : c.maxLocals = 6) (hown : s.vm.findClass "com/example/shape_trees/shapetrees/xpath/tree/XmlNamesIsNameStartCharPinLaw" = some m.cls) (hret : meth.sig.returnType = some .boolean) (hlk : meth.locks = false) (e0 : T0.heap = h0) (Z0 : n0 ≤ h0.size) (N0 : Fr n0 locs) (g0 : n0 ≤ o) (V : own_Arr Z h0 o 62 f) (hone : ∀ w : Int32, f0_423 x0 x1 ((x1 &&& (255 : Int32)) % (62 : Int32)) ((((x1.toUInt32 >>> ((8 : Int32) &&& 31).toUInt32).toInt32) % (3 : Int32)) - (1 : Int32)) w = 1) :
    own_Goes p e below s n0 room_1.cells room_1.slots own_one (T0.setTop (mkF m 303 #[.val (.int x0), .val (.int x1), .unset, .unset, .unset, .unset] [(.ref o)])) := by
  obtain ⟨T1, h1, L1, X1, e1, Z1, N1, V1, st1⟩ := own_put X0 hx hZ e0 V g0 N0 Z0 (pc := 309) (Ls := #[.val (.int x0), .val (.int x1), .unset, .unset, .unset, .unset]) (rest := [(.ref o)]) (46 : Int32) (12289 : Int32) 46 (by decide) (by decide) (by decide) (hb hby at_309)
  refine own_Goes.pre (fun t kt => ?_) (fl310 x0 x1 o X1 hx hZ hw hby hml hown hret hlk e1 Z1 N1 g0 V1 hone)
  show Steps p.tables e below (T0.setTop (mkF m 303 #[.val (.int x0), .val (.int x1), .unset, .unset, .unset, .unset] [(.ref o)])) _
  refine XS.dup X0.here hx rfl (hb hby at_303) rfl rfl ?_
  show Steps p.tables e below (T0.setTop (mkF m 304 #[.val (.int x0), .val (.int x1), .unset, .unset, .unset, .unset] [(.ref o), (.ref o)])) _
  refine XS.bipush X0.here hx rfl (hb hby at_304) ?_
  show Steps p.tables e below (T0.setTop (mkF m 306 #[.val (.int x0), .val (.int x1), .unset, .unset, .unset, .unset] [(.int (46 : Int32)), (.ref o), (.ref o)])) _
  refine XS.sipush X0.here hx rfl (hb hby at_306) ?_
  show Steps p.tables e below (T0.setTop (mkF m 309 #[.val (.int x0), .val (.int x1), .unset, .unset, .unset, .unset] [(.int (12289 : Int32)), (.int (46 : Int32)), (.ref o), (.ref o)])) _
  exact st1 _ kt
set_option maxRecDepth 65536 in
set_option maxHeartbeats 40000000 in
theorem fl296 {p : Program} {l : Launch} {e : Env} {s : State} {m : MethodId} {args : Array Value} {below : List Frame} {meth : Method} {c : Code} {T0 : State} {locs : List Loc} {Z : State} {a0 : Array Value} {h0 : Heap} {n0 : Nat} {f : Nat → Int32} (x0 : Int32) (x1 : Int32) (o : Addr) (X0 : Stand p l e room_1 s m args below meth c T0 locs 1 62) (hx : p.tables.exec = Jvm.exec) (hZ : Z.Warmed39 s.vm) (hw : ∀ d ∈ tables_1, d.before a0 Z = true) (hby : c.code = code) (hml : c.maxLocals = 6) (hown : s.vm.findClass "com/example/shape_trees/shapetrees/xpath/tree/XmlNamesIsNameStartCharPinLaw" = some m.cls) (hret : meth.sig.returnType = some .boolean) (hlk : meth.locks = false) (e0 : T0.heap = h0) (Z0 : n0 ≤ h0.size) (N0 : Fr n0 locs) (g0 : n0 ≤ o) (V : own_Arr Z h0 o 62 f) (hone : ∀ w : Int32, f0_423 x0 x1 ((x1 &&& (255 : Int32)) % (62 : Int32)) ((((x1.toUInt32 >>> ((8 : Int32) &&& 31).toUInt32).toInt32) % (3 : Int32)) - (1 : Int32)) w = 1) :
    own_Goes p e below s n0 room_1.cells room_1.slots own_one (T0.setTop (mkF m 296 #[.val (.int x0), .val (.int x1), .unset, .unset, .unset, .unset] [(.ref o)])) := by
  obtain ⟨T1, h1, L1, X1, e1, Z1, N1, V1, st1⟩ := own_put X0 hx hZ e0 V g0 N0 Z0 (pc := 302) (Ls := #[.val (.int x0), .val (.int x1), .unset, .unset, .unset, .unset]) (rest := [(.ref o)]) (45 : Int32) (12288 : Int32) 45 (by decide) (by decide) (by decide) (hb hby at_302)
  refine own_Goes.pre (fun t kt => ?_) (fl303 x0 x1 o X1 hx hZ hw hby hml hown hret hlk e1 Z1 N1 g0 V1 hone)
  show Steps p.tables e below (T0.setTop (mkF m 296 #[.val (.int x0), .val (.int x1), .unset, .unset, .unset, .unset] [(.ref o)])) _
  refine XS.dup X0.here hx rfl (hb hby at_296) rfl rfl ?_
  show Steps p.tables e below (T0.setTop (mkF m 297 #[.val (.int x0), .val (.int x1), .unset, .unset, .unset, .unset] [(.ref o), (.ref o)])) _
  refine XS.bipush X0.here hx rfl (hb hby at_297) ?_
  show Steps p.tables e below (T0.setTop (mkF m 299 #[.val (.int x0), .val (.int x1), .unset, .unset, .unset, .unset] [(.int (45 : Int32)), (.ref o), (.ref o)])) _
  refine XS.sipush X0.here hx rfl (hb hby at_299) ?_
  show Steps p.tables e below (T0.setTop (mkF m 302 #[.val (.int x0), .val (.int x1), .unset, .unset, .unset, .unset] [(.int (12288 : Int32)), (.int (45 : Int32)), (.ref o), (.ref o)])) _
  exact st1 _ kt
set_option maxRecDepth 65536 in
set_option maxHeartbeats 40000000 in
theorem fl289 {p : Program} {l : Launch} {e : Env} {s : State} {m : MethodId} {args : Array Value} {below : List Frame} {meth : Method} {c : Code} {T0 : State} {locs : List Loc} {Z : State} {a0 : Array Value} {h0 : Heap} {n0 : Nat} {f : Nat → Int32} (x0 : Int32) (x1 : Int32) (o : Addr) (X0 : Stand p l e room_1 s m args below meth c T0 locs 1 62) (hx : p.tables.exec = Jvm.exec) (hZ : Z.Warmed39 s.vm) (hw : ∀ d ∈ tables_1, d.before a0 Z = true) (hby : c.code = code) (hml : c.maxLocals = 6) (hown : s.vm.findClass "com/example/shape_trees/shapetrees/xpath/tree/XmlNamesIsNameStartCharPinLaw" = some m.cls) (hret : meth.sig.returnType = some .boolean) (hlk : meth.locks = false) (e0 : T0.heap = h0) (Z0 : n0 ≤ h0.size) (N0 : Fr n0 locs) (g0 : n0 ≤ o) (V : own_Arr Z h0 o 62 f) (hone : ∀ w : Int32, f0_423 x0 x1 ((x1 &&& (255 : Int32)) % (62 : Int32)) ((((x1.toUInt32 >>> ((8 : Int32) &&& 31).toUInt32).toInt32) % (3 : Int32)) - (1 : Int32)) w = 1) :
    own_Goes p e below s n0 room_1.cells room_1.slots own_one (T0.setTop (mkF m 289 #[.val (.int x0), .val (.int x1), .unset, .unset, .unset, .unset] [(.ref o)])) := by
  obtain ⟨T1, h1, L1, X1, e1, Z1, N1, V1, st1⟩ := own_put X0 hx hZ e0 V g0 N0 Z0 (pc := 295) (Ls := #[.val (.int x0), .val (.int x1), .unset, .unset, .unset, .unset]) (rest := [(.ref o)]) (44 : Int32) (12272 : Int32) 44 (by decide) (by decide) (by decide) (hb hby at_295)
  refine own_Goes.pre (fun t kt => ?_) (fl296 x0 x1 o X1 hx hZ hw hby hml hown hret hlk e1 Z1 N1 g0 V1 hone)
  show Steps p.tables e below (T0.setTop (mkF m 289 #[.val (.int x0), .val (.int x1), .unset, .unset, .unset, .unset] [(.ref o)])) _
  refine XS.dup X0.here hx rfl (hb hby at_289) rfl rfl ?_
  show Steps p.tables e below (T0.setTop (mkF m 290 #[.val (.int x0), .val (.int x1), .unset, .unset, .unset, .unset] [(.ref o), (.ref o)])) _
  refine XS.bipush X0.here hx rfl (hb hby at_290) ?_
  show Steps p.tables e below (T0.setTop (mkF m 292 #[.val (.int x0), .val (.int x1), .unset, .unset, .unset, .unset] [(.int (44 : Int32)), (.ref o), (.ref o)])) _
  refine XS.sipush X0.here hx rfl (hb hby at_292) ?_
  show Steps p.tables e below (T0.setTop (mkF m 295 #[.val (.int x0), .val (.int x1), .unset, .unset, .unset, .unset] [(.int (12272 : Int32)), (.int (44 : Int32)), (.ref o), (.ref o)])) _
  exact st1 _ kt
set_option maxRecDepth 65536 in
set_option maxHeartbeats 40000000 in
theorem fl282 {p : Program} {l : Launch} {e : Env} {s : State} {m : MethodId} {args : Array Value} {below : List Frame} {meth : Method} {c : Code} {T0 : State} {locs : List Loc} {Z : State} {a0 : Array Value} {h0 : Heap} {n0 : Nat} {f : Nat → Int32} (x0 : Int32) (x1 : Int32) (o : Addr) (X0 : Stand p l e room_1 s m args below meth c T0 locs 1 62) (hx : p.tables.exec = Jvm.exec) (hZ : Z.Warmed39 s.vm) (hw : ∀ d ∈ tables_1, d.before a0 Z = true) (hby : c.code = code) (hml : c.maxLocals = 6) (hown : s.vm.findClass "com/example/shape_trees/shapetrees/xpath/tree/XmlNamesIsNameStartCharPinLaw" = some m.cls) (hret : meth.sig.returnType = some .boolean) (hlk : meth.locks = false) (e0 : T0.heap = h0) (Z0 : n0 ≤ h0.size) (N0 : Fr n0 locs) (g0 : n0 ≤ o) (V : own_Arr Z h0 o 62 f) (hone : ∀ w : Int32, f0_423 x0 x1 ((x1 &&& (255 : Int32)) % (62 : Int32)) ((((x1.toUInt32 >>> ((8 : Int32) &&& 31).toUInt32).toInt32) % (3 : Int32)) - (1 : Int32)) w = 1) :
    own_Goes p e below s n0 room_1.cells room_1.slots own_one (T0.setTop (mkF m 282 #[.val (.int x0), .val (.int x1), .unset, .unset, .unset, .unset] [(.ref o)])) := by
  obtain ⟨T1, h1, L1, X1, e1, Z1, N1, V1, st1⟩ := own_put X0 hx hZ e0 V g0 N0 Z0 (pc := 288) (Ls := #[.val (.int x0), .val (.int x1), .unset, .unset, .unset, .unset]) (rest := [(.ref o)]) (43 : Int32) (12271 : Int32) 43 (by decide) (by decide) (by decide) (hb hby at_288)
  refine own_Goes.pre (fun t kt => ?_) (fl289 x0 x1 o X1 hx hZ hw hby hml hown hret hlk e1 Z1 N1 g0 V1 hone)
  show Steps p.tables e below (T0.setTop (mkF m 282 #[.val (.int x0), .val (.int x1), .unset, .unset, .unset, .unset] [(.ref o)])) _
  refine XS.dup X0.here hx rfl (hb hby at_282) rfl rfl ?_
  show Steps p.tables e below (T0.setTop (mkF m 283 #[.val (.int x0), .val (.int x1), .unset, .unset, .unset, .unset] [(.ref o), (.ref o)])) _
  refine XS.bipush X0.here hx rfl (hb hby at_283) ?_
  show Steps p.tables e below (T0.setTop (mkF m 285 #[.val (.int x0), .val (.int x1), .unset, .unset, .unset, .unset] [(.int (43 : Int32)), (.ref o), (.ref o)])) _
  refine XS.sipush X0.here hx rfl (hb hby at_285) ?_
  show Steps p.tables e below (T0.setTop (mkF m 288 #[.val (.int x0), .val (.int x1), .unset, .unset, .unset, .unset] [(.int (12271 : Int32)), (.int (43 : Int32)), (.ref o), (.ref o)])) _
  exact st1 _ kt
set_option maxRecDepth 65536 in
set_option maxHeartbeats 40000000 in
theorem fl275 {p : Program} {l : Launch} {e : Env} {s : State} {m : MethodId} {args : Array Value} {below : List Frame} {meth : Method} {c : Code} {T0 : State} {locs : List Loc} {Z : State} {a0 : Array Value} {h0 : Heap} {n0 : Nat} {f : Nat → Int32} (x0 : Int32) (x1 : Int32) (o : Addr) (X0 : Stand p l e room_1 s m args below meth c T0 locs 1 62) (hx : p.tables.exec = Jvm.exec) (hZ : Z.Warmed39 s.vm) (hw : ∀ d ∈ tables_1, d.before a0 Z = true) (hby : c.code = code) (hml : c.maxLocals = 6) (hown : s.vm.findClass "com/example/shape_trees/shapetrees/xpath/tree/XmlNamesIsNameStartCharPinLaw" = some m.cls) (hret : meth.sig.returnType = some .boolean) (hlk : meth.locks = false) (e0 : T0.heap = h0) (Z0 : n0 ≤ h0.size) (N0 : Fr n0 locs) (g0 : n0 ≤ o) (V : own_Arr Z h0 o 62 f) (hone : ∀ w : Int32, f0_423 x0 x1 ((x1 &&& (255 : Int32)) % (62 : Int32)) ((((x1.toUInt32 >>> ((8 : Int32) &&& 31).toUInt32).toInt32) % (3 : Int32)) - (1 : Int32)) w = 1) :
    own_Goes p e below s n0 room_1.cells room_1.slots own_one (T0.setTop (mkF m 275 #[.val (.int x0), .val (.int x1), .unset, .unset, .unset, .unset] [(.ref o)])) := by
  obtain ⟨T1, h1, L1, X1, e1, Z1, N1, V1, st1⟩ := own_put X0 hx hZ e0 V g0 N0 Z0 (pc := 281) (Ls := #[.val (.int x0), .val (.int x1), .unset, .unset, .unset, .unset]) (rest := [(.ref o)]) (42 : Int32) (11264 : Int32) 42 (by decide) (by decide) (by decide) (hb hby at_281)
  refine own_Goes.pre (fun t kt => ?_) (fl282 x0 x1 o X1 hx hZ hw hby hml hown hret hlk e1 Z1 N1 g0 V1 hone)
  show Steps p.tables e below (T0.setTop (mkF m 275 #[.val (.int x0), .val (.int x1), .unset, .unset, .unset, .unset] [(.ref o)])) _
  refine XS.dup X0.here hx rfl (hb hby at_275) rfl rfl ?_
  show Steps p.tables e below (T0.setTop (mkF m 276 #[.val (.int x0), .val (.int x1), .unset, .unset, .unset, .unset] [(.ref o), (.ref o)])) _
  refine XS.bipush X0.here hx rfl (hb hby at_276) ?_
  show Steps p.tables e below (T0.setTop (mkF m 278 #[.val (.int x0), .val (.int x1), .unset, .unset, .unset, .unset] [(.int (42 : Int32)), (.ref o), (.ref o)])) _
  refine XS.sipush X0.here hx rfl (hb hby at_278) ?_
  show Steps p.tables e below (T0.setTop (mkF m 281 #[.val (.int x0), .val (.int x1), .unset, .unset, .unset, .unset] [(.int (11264 : Int32)), (.int (42 : Int32)), (.ref o), (.ref o)])) _
  exact st1 _ kt
set_option maxRecDepth 65536 in
set_option maxHeartbeats 40000000 in
theorem fl268 {p : Program} {l : Launch} {e : Env} {s : State} {m : MethodId} {args : Array Value} {below : List Frame} {meth : Method} {c : Code} {T0 : State} {locs : List Loc} {Z : State} {a0 : Array Value} {h0 : Heap} {n0 : Nat} {f : Nat → Int32} (x0 : Int32) (x1 : Int32) (o : Addr) (X0 : Stand p l e room_1 s m args below meth c T0 locs 1 62) (hx : p.tables.exec = Jvm.exec) (hZ : Z.Warmed39 s.vm) (hw : ∀ d ∈ tables_1, d.before a0 Z = true) (hby : c.code = code) (hml : c.maxLocals = 6) (hown : s.vm.findClass "com/example/shape_trees/shapetrees/xpath/tree/XmlNamesIsNameStartCharPinLaw" = some m.cls) (hret : meth.sig.returnType = some .boolean) (hlk : meth.locks = false) (e0 : T0.heap = h0) (Z0 : n0 ≤ h0.size) (N0 : Fr n0 locs) (g0 : n0 ≤ o) (V : own_Arr Z h0 o 62 f) (hone : ∀ w : Int32, f0_423 x0 x1 ((x1 &&& (255 : Int32)) % (62 : Int32)) ((((x1.toUInt32 >>> ((8 : Int32) &&& 31).toUInt32).toInt32) % (3 : Int32)) - (1 : Int32)) w = 1) :
    own_Goes p e below s n0 room_1.cells room_1.slots own_one (T0.setTop (mkF m 268 #[.val (.int x0), .val (.int x1), .unset, .unset, .unset, .unset] [(.ref o)])) := by
  obtain ⟨T1, h1, L1, X1, e1, Z1, N1, V1, st1⟩ := own_put X0 hx hZ e0 V g0 N0 Z0 (pc := 274) (Ls := #[.val (.int x0), .val (.int x1), .unset, .unset, .unset, .unset]) (rest := [(.ref o)]) (41 : Int32) (11263 : Int32) 41 (by decide) (by decide) (by decide) (hb hby at_274)
  refine own_Goes.pre (fun t kt => ?_) (fl275 x0 x1 o X1 hx hZ hw hby hml hown hret hlk e1 Z1 N1 g0 V1 hone)
  show Steps p.tables e below (T0.setTop (mkF m 268 #[.val (.int x0), .val (.int x1), .unset, .unset, .unset, .unset] [(.ref o)])) _
  refine XS.dup X0.here hx rfl (hb hby at_268) rfl rfl ?_
  show Steps p.tables e below (T0.setTop (mkF m 269 #[.val (.int x0), .val (.int x1), .unset, .unset, .unset, .unset] [(.ref o), (.ref o)])) _
  refine XS.bipush X0.here hx rfl (hb hby at_269) ?_
  show Steps p.tables e below (T0.setTop (mkF m 271 #[.val (.int x0), .val (.int x1), .unset, .unset, .unset, .unset] [(.int (41 : Int32)), (.ref o), (.ref o)])) _
  refine XS.sipush X0.here hx rfl (hb hby at_271) ?_
  show Steps p.tables e below (T0.setTop (mkF m 274 #[.val (.int x0), .val (.int x1), .unset, .unset, .unset, .unset] [(.int (11263 : Int32)), (.int (41 : Int32)), (.ref o), (.ref o)])) _
  exact st1 _ kt
set_option maxRecDepth 65536 in
set_option maxHeartbeats 40000000 in
theorem fl261 {p : Program} {l : Launch} {e : Env} {s : State} {m : MethodId} {args : Array Value} {below : List Frame} {meth : Method} {c : Code} {T0 : State} {locs : List Loc} {Z : State} {a0 : Array Value} {h0 : Heap} {n0 : Nat} {f : Nat → Int32} (x0 : Int32) (x1 : Int32) (o : Addr) (X0 : Stand p l e room_1 s m args below meth c T0 locs 1 62) (hx : p.tables.exec = Jvm.exec) (hZ : Z.Warmed39 s.vm) (hw : ∀ d ∈ tables_1, d.before a0 Z = true) (hby : c.code = code) (hml : c.maxLocals = 6) (hown : s.vm.findClass "com/example/shape_trees/shapetrees/xpath/tree/XmlNamesIsNameStartCharPinLaw" = some m.cls) (hret : meth.sig.returnType = some .boolean) (hlk : meth.locks = false) (e0 : T0.heap = h0) (Z0 : n0 ≤ h0.size) (N0 : Fr n0 locs) (g0 : n0 ≤ o) (V : own_Arr Z h0 o 62 f) (hone : ∀ w : Int32, f0_423 x0 x1 ((x1 &&& (255 : Int32)) % (62 : Int32)) ((((x1.toUInt32 >>> ((8 : Int32) &&& 31).toUInt32).toInt32) % (3 : Int32)) - (1 : Int32)) w = 1) :
    own_Goes p e below s n0 room_1.cells room_1.slots own_one (T0.setTop (mkF m 261 #[.val (.int x0), .val (.int x1), .unset, .unset, .unset, .unset] [(.ref o)])) := by
  obtain ⟨T1, h1, L1, X1, e1, Z1, N1, V1, st1⟩ := own_put X0 hx hZ e0 V g0 N0 Z0 (pc := 267) (Ls := #[.val (.int x0), .val (.int x1), .unset, .unset, .unset, .unset]) (rest := [(.ref o)]) (40 : Int32) (8592 : Int32) 40 (by decide) (by decide) (by decide) (hb hby at_267)
  refine own_Goes.pre (fun t kt => ?_) (fl268 x0 x1 o X1 hx hZ hw hby hml hown hret hlk e1 Z1 N1 g0 V1 hone)
  show Steps p.tables e below (T0.setTop (mkF m 261 #[.val (.int x0), .val (.int x1), .unset, .unset, .unset, .unset] [(.ref o)])) _
  refine XS.dup X0.here hx rfl (hb hby at_261) rfl rfl ?_
  show Steps p.tables e below (T0.setTop (mkF m 262 #[.val (.int x0), .val (.int x1), .unset, .unset, .unset, .unset] [(.ref o), (.ref o)])) _
  refine XS.bipush X0.here hx rfl (hb hby at_262) ?_
  show Steps p.tables e below (T0.setTop (mkF m 264 #[.val (.int x0), .val (.int x1), .unset, .unset, .unset, .unset] [(.int (40 : Int32)), (.ref o), (.ref o)])) _
  refine XS.sipush X0.here hx rfl (hb hby at_264) ?_
  show Steps p.tables e below (T0.setTop (mkF m 267 #[.val (.int x0), .val (.int x1), .unset, .unset, .unset, .unset] [(.int (8592 : Int32)), (.int (40 : Int32)), (.ref o), (.ref o)])) _
  exact st1 _ kt
set_option maxRecDepth 65536 in
set_option maxHeartbeats 40000000 in
theorem fl254 {p : Program} {l : Launch} {e : Env} {s : State} {m : MethodId} {args : Array Value} {below : List Frame} {meth : Method} {c : Code} {T0 : State} {locs : List Loc} {Z : State} {a0 : Array Value} {h0 : Heap} {n0 : Nat} {f : Nat → Int32} (x0 : Int32) (x1 : Int32) (o : Addr) (X0 : Stand p l e room_1 s m args below meth c T0 locs 1 62) (hx : p.tables.exec = Jvm.exec) (hZ : Z.Warmed39 s.vm) (hw : ∀ d ∈ tables_1, d.before a0 Z = true) (hby : c.code = code) (hml : c.maxLocals = 6) (hown : s.vm.findClass "com/example/shape_trees/shapetrees/xpath/tree/XmlNamesIsNameStartCharPinLaw" = some m.cls) (hret : meth.sig.returnType = some .boolean) (hlk : meth.locks = false) (e0 : T0.heap = h0) (Z0 : n0 ≤ h0.size) (N0 : Fr n0 locs) (g0 : n0 ≤ o) (V : own_Arr Z h0 o 62 f) (hone : ∀ w : Int32, f0_423 x0 x1 ((x1 &&& (255 : Int32)) % (62 : Int32)) ((((x1.toUInt32 >>> ((8 : Int32) &&& 31).toUInt32).toInt32) % (3 : Int32)) - (1 : Int32)) w = 1) :
    own_Goes p e below s n0 room_1.cells room_1.slots own_one (T0.setTop (mkF m 254 #[.val (.int x0), .val (.int x1), .unset, .unset, .unset, .unset] [(.ref o)])) := by
  obtain ⟨T1, h1, L1, X1, e1, Z1, N1, V1, st1⟩ := own_put X0 hx hZ e0 V g0 N0 Z0 (pc := 260) (Ls := #[.val (.int x0), .val (.int x1), .unset, .unset, .unset, .unset]) (rest := [(.ref o)]) (39 : Int32) (8591 : Int32) 39 (by decide) (by decide) (by decide) (hb hby at_260)
  refine own_Goes.pre (fun t kt => ?_) (fl261 x0 x1 o X1 hx hZ hw hby hml hown hret hlk e1 Z1 N1 g0 V1 hone)
  show Steps p.tables e below (T0.setTop (mkF m 254 #[.val (.int x0), .val (.int x1), .unset, .unset, .unset, .unset] [(.ref o)])) _
  refine XS.dup X0.here hx rfl (hb hby at_254) rfl rfl ?_
  show Steps p.tables e below (T0.setTop (mkF m 255 #[.val (.int x0), .val (.int x1), .unset, .unset, .unset, .unset] [(.ref o), (.ref o)])) _
  refine XS.bipush X0.here hx rfl (hb hby at_255) ?_
  show Steps p.tables e below (T0.setTop (mkF m 257 #[.val (.int x0), .val (.int x1), .unset, .unset, .unset, .unset] [(.int (39 : Int32)), (.ref o), (.ref o)])) _
  refine XS.sipush X0.here hx rfl (hb hby at_257) ?_
  show Steps p.tables e below (T0.setTop (mkF m 260 #[.val (.int x0), .val (.int x1), .unset, .unset, .unset, .unset] [(.int (8591 : Int32)), (.int (39 : Int32)), (.ref o), (.ref o)])) _
  exact st1 _ kt
set_option maxRecDepth 65536 in
set_option maxHeartbeats 40000000 in
theorem fl247 {p : Program} {l : Launch} {e : Env} {s : State} {m : MethodId} {args : Array Value} {below : List Frame} {meth : Method} {c : Code} {T0 : State} {locs : List Loc} {Z : State} {a0 : Array Value} {h0 : Heap} {n0 : Nat} {f : Nat → Int32} (x0 : Int32) (x1 : Int32) (o : Addr) (X0 : Stand p l e room_1 s m args below meth c T0 locs 1 62) (hx : p.tables.exec = Jvm.exec) (hZ : Z.Warmed39 s.vm) (hw : ∀ d ∈ tables_1, d.before a0 Z = true) (hby : c.code = code) (hml : c.maxLocals = 6) (hown : s.vm.findClass "com/example/shape_trees/shapetrees/xpath/tree/XmlNamesIsNameStartCharPinLaw" = some m.cls) (hret : meth.sig.returnType = some .boolean) (hlk : meth.locks = false) (e0 : T0.heap = h0) (Z0 : n0 ≤ h0.size) (N0 : Fr n0 locs) (g0 : n0 ≤ o) (V : own_Arr Z h0 o 62 f) (hone : ∀ w : Int32, f0_423 x0 x1 ((x1 &&& (255 : Int32)) % (62 : Int32)) ((((x1.toUInt32 >>> ((8 : Int32) &&& 31).toUInt32).toInt32) % (3 : Int32)) - (1 : Int32)) w = 1) :
    own_Goes p e below s n0 room_1.cells room_1.slots own_one (T0.setTop (mkF m 247 #[.val (.int x0), .val (.int x1), .unset, .unset, .unset, .unset] [(.ref o)])) := by
  obtain ⟨T1, h1, L1, X1, e1, Z1, N1, V1, st1⟩ := own_put X0 hx hZ e0 V g0 N0 Z0 (pc := 253) (Ls := #[.val (.int x0), .val (.int x1), .unset, .unset, .unset, .unset]) (rest := [(.ref o)]) (38 : Int32) (8304 : Int32) 38 (by decide) (by decide) (by decide) (hb hby at_253)
  refine own_Goes.pre (fun t kt => ?_) (fl254 x0 x1 o X1 hx hZ hw hby hml hown hret hlk e1 Z1 N1 g0 V1 hone)
  show Steps p.tables e below (T0.setTop (mkF m 247 #[.val (.int x0), .val (.int x1), .unset, .unset, .unset, .unset] [(.ref o)])) _
  refine XS.dup X0.here hx rfl (hb hby at_247) rfl rfl ?_
  show Steps p.tables e below (T0.setTop (mkF m 248 #[.val (.int x0), .val (.int x1), .unset, .unset, .unset, .unset] [(.ref o), (.ref o)])) _
  refine XS.bipush X0.here hx rfl (hb hby at_248) ?_
  show Steps p.tables e below (T0.setTop (mkF m 250 #[.val (.int x0), .val (.int x1), .unset, .unset, .unset, .unset] [(.int (38 : Int32)), (.ref o), (.ref o)])) _
  refine XS.sipush X0.here hx rfl (hb hby at_250) ?_
  show Steps p.tables e below (T0.setTop (mkF m 253 #[.val (.int x0), .val (.int x1), .unset, .unset, .unset, .unset] [(.int (8304 : Int32)), (.int (38 : Int32)), (.ref o), (.ref o)])) _
  exact st1 _ kt
set_option maxRecDepth 65536 in
set_option maxHeartbeats 40000000 in
theorem fl240 {p : Program} {l : Launch} {e : Env} {s : State} {m : MethodId} {args : Array Value} {below : List Frame} {meth : Method} {c : Code} {T0 : State} {locs : List Loc} {Z : State} {a0 : Array Value} {h0 : Heap} {n0 : Nat} {f : Nat → Int32} (x0 : Int32) (x1 : Int32) (o : Addr) (X0 : Stand p l e room_1 s m args below meth c T0 locs 1 62) (hx : p.tables.exec = Jvm.exec) (hZ : Z.Warmed39 s.vm) (hw : ∀ d ∈ tables_1, d.before a0 Z = true) (hby : c.code = code) (hml : c.maxLocals = 6) (hown : s.vm.findClass "com/example/shape_trees/shapetrees/xpath/tree/XmlNamesIsNameStartCharPinLaw" = some m.cls) (hret : meth.sig.returnType = some .boolean) (hlk : meth.locks = false) (e0 : T0.heap = h0) (Z0 : n0 ≤ h0.size) (N0 : Fr n0 locs) (g0 : n0 ≤ o) (V : own_Arr Z h0 o 62 f) (hone : ∀ w : Int32, f0_423 x0 x1 ((x1 &&& (255 : Int32)) % (62 : Int32)) ((((x1.toUInt32 >>> ((8 : Int32) &&& 31).toUInt32).toInt32) % (3 : Int32)) - (1 : Int32)) w = 1) :
    own_Goes p e below s n0 room_1.cells room_1.slots own_one (T0.setTop (mkF m 240 #[.val (.int x0), .val (.int x1), .unset, .unset, .unset, .unset] [(.ref o)])) := by
  obtain ⟨T1, h1, L1, X1, e1, Z1, N1, V1, st1⟩ := own_put X0 hx hZ e0 V g0 N0 Z0 (pc := 246) (Ls := #[.val (.int x0), .val (.int x1), .unset, .unset, .unset, .unset]) (rest := [(.ref o)]) (37 : Int32) (8303 : Int32) 37 (by decide) (by decide) (by decide) (hb hby at_246)
  refine own_Goes.pre (fun t kt => ?_) (fl247 x0 x1 o X1 hx hZ hw hby hml hown hret hlk e1 Z1 N1 g0 V1 hone)
  show Steps p.tables e below (T0.setTop (mkF m 240 #[.val (.int x0), .val (.int x1), .unset, .unset, .unset, .unset] [(.ref o)])) _
  refine XS.dup X0.here hx rfl (hb hby at_240) rfl rfl ?_
  show Steps p.tables e below (T0.setTop (mkF m 241 #[.val (.int x0), .val (.int x1), .unset, .unset, .unset, .unset] [(.ref o), (.ref o)])) _
  refine XS.bipush X0.here hx rfl (hb hby at_241) ?_
  show Steps p.tables e below (T0.setTop (mkF m 243 #[.val (.int x0), .val (.int x1), .unset, .unset, .unset, .unset] [(.int (37 : Int32)), (.ref o), (.ref o)])) _
  refine XS.sipush X0.here hx rfl (hb hby at_243) ?_
  show Steps p.tables e below (T0.setTop (mkF m 246 #[.val (.int x0), .val (.int x1), .unset, .unset, .unset, .unset] [(.int (8303 : Int32)), (.int (37 : Int32)), (.ref o), (.ref o)])) _
  exact st1 _ kt
set_option maxRecDepth 65536 in
set_option maxHeartbeats 40000000 in
theorem fl233 {p : Program} {l : Launch} {e : Env} {s : State} {m : MethodId} {args : Array Value} {below : List Frame} {meth : Method} {c : Code} {T0 : State} {locs : List Loc} {Z : State} {a0 : Array Value} {h0 : Heap} {n0 : Nat} {f : Nat → Int32} (x0 : Int32) (x1 : Int32) (o : Addr) (X0 : Stand p l e room_1 s m args below meth c T0 locs 1 62) (hx : p.tables.exec = Jvm.exec) (hZ : Z.Warmed39 s.vm) (hw : ∀ d ∈ tables_1, d.before a0 Z = true) (hby : c.code = code) (hml : c.maxLocals = 6) (hown : s.vm.findClass "com/example/shape_trees/shapetrees/xpath/tree/XmlNamesIsNameStartCharPinLaw" = some m.cls) (hret : meth.sig.returnType = some .boolean) (hlk : meth.locks = false) (e0 : T0.heap = h0) (Z0 : n0 ≤ h0.size) (N0 : Fr n0 locs) (g0 : n0 ≤ o) (V : own_Arr Z h0 o 62 f) (hone : ∀ w : Int32, f0_423 x0 x1 ((x1 &&& (255 : Int32)) % (62 : Int32)) ((((x1.toUInt32 >>> ((8 : Int32) &&& 31).toUInt32).toInt32) % (3 : Int32)) - (1 : Int32)) w = 1) :
    own_Goes p e below s n0 room_1.cells room_1.slots own_one (T0.setTop (mkF m 233 #[.val (.int x0), .val (.int x1), .unset, .unset, .unset, .unset] [(.ref o)])) := by
  obtain ⟨T1, h1, L1, X1, e1, Z1, N1, V1, st1⟩ := own_put X0 hx hZ e0 V g0 N0 Z0 (pc := 239) (Ls := #[.val (.int x0), .val (.int x1), .unset, .unset, .unset, .unset]) (rest := [(.ref o)]) (36 : Int32) (8206 : Int32) 36 (by decide) (by decide) (by decide) (hb hby at_239)
  refine own_Goes.pre (fun t kt => ?_) (fl240 x0 x1 o X1 hx hZ hw hby hml hown hret hlk e1 Z1 N1 g0 V1 hone)
  show Steps p.tables e below (T0.setTop (mkF m 233 #[.val (.int x0), .val (.int x1), .unset, .unset, .unset, .unset] [(.ref o)])) _
  refine XS.dup X0.here hx rfl (hb hby at_233) rfl rfl ?_
  show Steps p.tables e below (T0.setTop (mkF m 234 #[.val (.int x0), .val (.int x1), .unset, .unset, .unset, .unset] [(.ref o), (.ref o)])) _
  refine XS.bipush X0.here hx rfl (hb hby at_234) ?_
  show Steps p.tables e below (T0.setTop (mkF m 236 #[.val (.int x0), .val (.int x1), .unset, .unset, .unset, .unset] [(.int (36 : Int32)), (.ref o), (.ref o)])) _
  refine XS.sipush X0.here hx rfl (hb hby at_236) ?_
  show Steps p.tables e below (T0.setTop (mkF m 239 #[.val (.int x0), .val (.int x1), .unset, .unset, .unset, .unset] [(.int (8206 : Int32)), (.int (36 : Int32)), (.ref o), (.ref o)])) _
  exact st1 _ kt
set_option maxRecDepth 65536 in
set_option maxHeartbeats 40000000 in
theorem fl226 {p : Program} {l : Launch} {e : Env} {s : State} {m : MethodId} {args : Array Value} {below : List Frame} {meth : Method} {c : Code} {T0 : State} {locs : List Loc} {Z : State} {a0 : Array Value} {h0 : Heap} {n0 : Nat} {f : Nat → Int32} (x0 : Int32) (x1 : Int32) (o : Addr) (X0 : Stand p l e room_1 s m args below meth c T0 locs 1 62) (hx : p.tables.exec = Jvm.exec) (hZ : Z.Warmed39 s.vm) (hw : ∀ d ∈ tables_1, d.before a0 Z = true) (hby : c.code = code) (hml : c.maxLocals = 6) (hown : s.vm.findClass "com/example/shape_trees/shapetrees/xpath/tree/XmlNamesIsNameStartCharPinLaw" = some m.cls) (hret : meth.sig.returnType = some .boolean) (hlk : meth.locks = false) (e0 : T0.heap = h0) (Z0 : n0 ≤ h0.size) (N0 : Fr n0 locs) (g0 : n0 ≤ o) (V : own_Arr Z h0 o 62 f) (hone : ∀ w : Int32, f0_423 x0 x1 ((x1 &&& (255 : Int32)) % (62 : Int32)) ((((x1.toUInt32 >>> ((8 : Int32) &&& 31).toUInt32).toInt32) % (3 : Int32)) - (1 : Int32)) w = 1) :
    own_Goes p e below s n0 room_1.cells room_1.slots own_one (T0.setTop (mkF m 226 #[.val (.int x0), .val (.int x1), .unset, .unset, .unset, .unset] [(.ref o)])) := by
  obtain ⟨T1, h1, L1, X1, e1, Z1, N1, V1, st1⟩ := own_put X0 hx hZ e0 V g0 N0 Z0 (pc := 232) (Ls := #[.val (.int x0), .val (.int x1), .unset, .unset, .unset, .unset]) (rest := [(.ref o)]) (35 : Int32) (8205 : Int32) 35 (by decide) (by decide) (by decide) (hb hby at_232)
  refine own_Goes.pre (fun t kt => ?_) (fl233 x0 x1 o X1 hx hZ hw hby hml hown hret hlk e1 Z1 N1 g0 V1 hone)
  show Steps p.tables e below (T0.setTop (mkF m 226 #[.val (.int x0), .val (.int x1), .unset, .unset, .unset, .unset] [(.ref o)])) _
  refine XS.dup X0.here hx rfl (hb hby at_226) rfl rfl ?_
  show Steps p.tables e below (T0.setTop (mkF m 227 #[.val (.int x0), .val (.int x1), .unset, .unset, .unset, .unset] [(.ref o), (.ref o)])) _
  refine XS.bipush X0.here hx rfl (hb hby at_227) ?_
  show Steps p.tables e below (T0.setTop (mkF m 229 #[.val (.int x0), .val (.int x1), .unset, .unset, .unset, .unset] [(.int (35 : Int32)), (.ref o), (.ref o)])) _
  refine XS.sipush X0.here hx rfl (hb hby at_229) ?_
  show Steps p.tables e below (T0.setTop (mkF m 232 #[.val (.int x0), .val (.int x1), .unset, .unset, .unset, .unset] [(.int (8205 : Int32)), (.int (35 : Int32)), (.ref o), (.ref o)])) _
  exact st1 _ kt
set_option maxRecDepth 65536 in
set_option maxHeartbeats 40000000 in
theorem fl219 {p : Program} {l : Launch} {e : Env} {s : State} {m : MethodId} {args : Array Value} {below : List Frame} {meth : Method} {c : Code} {T0 : State} {locs : List Loc} {Z : State} {a0 : Array Value} {h0 : Heap} {n0 : Nat} {f : Nat → Int32} (x0 : Int32) (x1 : Int32) (o : Addr) (X0 : Stand p l e room_1 s m args below meth c T0 locs 1 62) (hx : p.tables.exec = Jvm.exec) (hZ : Z.Warmed39 s.vm) (hw : ∀ d ∈ tables_1, d.before a0 Z = true) (hby : c.code = code) (hml : c.maxLocals = 6) (hown : s.vm.findClass "com/example/shape_trees/shapetrees/xpath/tree/XmlNamesIsNameStartCharPinLaw" = some m.cls) (hret : meth.sig.returnType = some .boolean) (hlk : meth.locks = false) (e0 : T0.heap = h0) (Z0 : n0 ≤ h0.size) (N0 : Fr n0 locs) (g0 : n0 ≤ o) (V : own_Arr Z h0 o 62 f) (hone : ∀ w : Int32, f0_423 x0 x1 ((x1 &&& (255 : Int32)) % (62 : Int32)) ((((x1.toUInt32 >>> ((8 : Int32) &&& 31).toUInt32).toInt32) % (3 : Int32)) - (1 : Int32)) w = 1) :
    own_Goes p e below s n0 room_1.cells room_1.slots own_one (T0.setTop (mkF m 219 #[.val (.int x0), .val (.int x1), .unset, .unset, .unset, .unset] [(.ref o)])) := by
  obtain ⟨T1, h1, L1, X1, e1, Z1, N1, V1, st1⟩ := own_put X0 hx hZ e0 V g0 N0 Z0 (pc := 225) (Ls := #[.val (.int x0), .val (.int x1), .unset, .unset, .unset, .unset]) (rest := [(.ref o)]) (34 : Int32) (8204 : Int32) 34 (by decide) (by decide) (by decide) (hb hby at_225)
  refine own_Goes.pre (fun t kt => ?_) (fl226 x0 x1 o X1 hx hZ hw hby hml hown hret hlk e1 Z1 N1 g0 V1 hone)
  show Steps p.tables e below (T0.setTop (mkF m 219 #[.val (.int x0), .val (.int x1), .unset, .unset, .unset, .unset] [(.ref o)])) _
  refine XS.dup X0.here hx rfl (hb hby at_219) rfl rfl ?_
  show Steps p.tables e below (T0.setTop (mkF m 220 #[.val (.int x0), .val (.int x1), .unset, .unset, .unset, .unset] [(.ref o), (.ref o)])) _
  refine XS.bipush X0.here hx rfl (hb hby at_220) ?_
  show Steps p.tables e below (T0.setTop (mkF m 222 #[.val (.int x0), .val (.int x1), .unset, .unset, .unset, .unset] [(.int (34 : Int32)), (.ref o), (.ref o)])) _
  refine XS.sipush X0.here hx rfl (hb hby at_222) ?_
  show Steps p.tables e below (T0.setTop (mkF m 225 #[.val (.int x0), .val (.int x1), .unset, .unset, .unset, .unset] [(.int (8204 : Int32)), (.int (34 : Int32)), (.ref o), (.ref o)])) _
  exact st1 _ kt
set_option maxRecDepth 65536 in
set_option maxHeartbeats 40000000 in
theorem fl212 {p : Program} {l : Launch} {e : Env} {s : State} {m : MethodId} {args : Array Value} {below : List Frame} {meth : Method} {c : Code} {T0 : State} {locs : List Loc} {Z : State} {a0 : Array Value} {h0 : Heap} {n0 : Nat} {f : Nat → Int32} (x0 : Int32) (x1 : Int32) (o : Addr) (X0 : Stand p l e room_1 s m args below meth c T0 locs 1 62) (hx : p.tables.exec = Jvm.exec) (hZ : Z.Warmed39 s.vm) (hw : ∀ d ∈ tables_1, d.before a0 Z = true) (hby : c.code = code) (hml : c.maxLocals = 6) (hown : s.vm.findClass "com/example/shape_trees/shapetrees/xpath/tree/XmlNamesIsNameStartCharPinLaw" = some m.cls) (hret : meth.sig.returnType = some .boolean) (hlk : meth.locks = false) (e0 : T0.heap = h0) (Z0 : n0 ≤ h0.size) (N0 : Fr n0 locs) (g0 : n0 ≤ o) (V : own_Arr Z h0 o 62 f) (hone : ∀ w : Int32, f0_423 x0 x1 ((x1 &&& (255 : Int32)) % (62 : Int32)) ((((x1.toUInt32 >>> ((8 : Int32) &&& 31).toUInt32).toInt32) % (3 : Int32)) - (1 : Int32)) w = 1) :
    own_Goes p e below s n0 room_1.cells room_1.slots own_one (T0.setTop (mkF m 212 #[.val (.int x0), .val (.int x1), .unset, .unset, .unset, .unset] [(.ref o)])) := by
  obtain ⟨T1, h1, L1, X1, e1, Z1, N1, V1, st1⟩ := own_put X0 hx hZ e0 V g0 N0 Z0 (pc := 218) (Ls := #[.val (.int x0), .val (.int x1), .unset, .unset, .unset, .unset]) (rest := [(.ref o)]) (33 : Int32) (8203 : Int32) 33 (by decide) (by decide) (by decide) (hb hby at_218)
  refine own_Goes.pre (fun t kt => ?_) (fl219 x0 x1 o X1 hx hZ hw hby hml hown hret hlk e1 Z1 N1 g0 V1 hone)
  show Steps p.tables e below (T0.setTop (mkF m 212 #[.val (.int x0), .val (.int x1), .unset, .unset, .unset, .unset] [(.ref o)])) _
  refine XS.dup X0.here hx rfl (hb hby at_212) rfl rfl ?_
  show Steps p.tables e below (T0.setTop (mkF m 213 #[.val (.int x0), .val (.int x1), .unset, .unset, .unset, .unset] [(.ref o), (.ref o)])) _
  refine XS.bipush X0.here hx rfl (hb hby at_213) ?_
  show Steps p.tables e below (T0.setTop (mkF m 215 #[.val (.int x0), .val (.int x1), .unset, .unset, .unset, .unset] [(.int (33 : Int32)), (.ref o), (.ref o)])) _
  refine XS.sipush X0.here hx rfl (hb hby at_215) ?_
  show Steps p.tables e below (T0.setTop (mkF m 218 #[.val (.int x0), .val (.int x1), .unset, .unset, .unset, .unset] [(.int (8203 : Int32)), (.int (33 : Int32)), (.ref o), (.ref o)])) _
  exact st1 _ kt
set_option maxRecDepth 65536 in
set_option maxHeartbeats 40000000 in
theorem fl205 {p : Program} {l : Launch} {e : Env} {s : State} {m : MethodId} {args : Array Value} {below : List Frame} {meth : Method} {c : Code} {T0 : State} {locs : List Loc} {Z : State} {a0 : Array Value} {h0 : Heap} {n0 : Nat} {f : Nat → Int32} (x0 : Int32) (x1 : Int32) (o : Addr) (X0 : Stand p l e room_1 s m args below meth c T0 locs 1 62) (hx : p.tables.exec = Jvm.exec) (hZ : Z.Warmed39 s.vm) (hw : ∀ d ∈ tables_1, d.before a0 Z = true) (hby : c.code = code) (hml : c.maxLocals = 6) (hown : s.vm.findClass "com/example/shape_trees/shapetrees/xpath/tree/XmlNamesIsNameStartCharPinLaw" = some m.cls) (hret : meth.sig.returnType = some .boolean) (hlk : meth.locks = false) (e0 : T0.heap = h0) (Z0 : n0 ≤ h0.size) (N0 : Fr n0 locs) (g0 : n0 ≤ o) (V : own_Arr Z h0 o 62 f) (hone : ∀ w : Int32, f0_423 x0 x1 ((x1 &&& (255 : Int32)) % (62 : Int32)) ((((x1.toUInt32 >>> ((8 : Int32) &&& 31).toUInt32).toInt32) % (3 : Int32)) - (1 : Int32)) w = 1) :
    own_Goes p e below s n0 room_1.cells room_1.slots own_one (T0.setTop (mkF m 205 #[.val (.int x0), .val (.int x1), .unset, .unset, .unset, .unset] [(.ref o)])) := by
  obtain ⟨T1, h1, L1, X1, e1, Z1, N1, V1, st1⟩ := own_put X0 hx hZ e0 V g0 N0 Z0 (pc := 211) (Ls := #[.val (.int x0), .val (.int x1), .unset, .unset, .unset, .unset]) (rest := [(.ref o)]) (32 : Int32) (8192 : Int32) 32 (by decide) (by decide) (by decide) (hb hby at_211)
  refine own_Goes.pre (fun t kt => ?_) (fl212 x0 x1 o X1 hx hZ hw hby hml hown hret hlk e1 Z1 N1 g0 V1 hone)
  show Steps p.tables e below (T0.setTop (mkF m 205 #[.val (.int x0), .val (.int x1), .unset, .unset, .unset, .unset] [(.ref o)])) _
  refine XS.dup X0.here hx rfl (hb hby at_205) rfl rfl ?_
  show Steps p.tables e below (T0.setTop (mkF m 206 #[.val (.int x0), .val (.int x1), .unset, .unset, .unset, .unset] [(.ref o), (.ref o)])) _
  refine XS.bipush X0.here hx rfl (hb hby at_206) ?_
  show Steps p.tables e below (T0.setTop (mkF m 208 #[.val (.int x0), .val (.int x1), .unset, .unset, .unset, .unset] [(.int (32 : Int32)), (.ref o), (.ref o)])) _
  refine XS.sipush X0.here hx rfl (hb hby at_208) ?_
  show Steps p.tables e below (T0.setTop (mkF m 211 #[.val (.int x0), .val (.int x1), .unset, .unset, .unset, .unset] [(.int (8192 : Int32)), (.int (32 : Int32)), (.ref o), (.ref o)])) _
  exact st1 _ kt
set_option maxRecDepth 65536 in
set_option maxHeartbeats 40000000 in
theorem fl198 {p : Program} {l : Launch} {e : Env} {s : State} {m : MethodId} {args : Array Value} {below : List Frame} {meth : Method} {c : Code} {T0 : State} {locs : List Loc} {Z : State} {a0 : Array Value} {h0 : Heap} {n0 : Nat} {f : Nat → Int32} (x0 : Int32) (x1 : Int32) (o : Addr) (X0 : Stand p l e room_1 s m args below meth c T0 locs 1 62) (hx : p.tables.exec = Jvm.exec) (hZ : Z.Warmed39 s.vm) (hw : ∀ d ∈ tables_1, d.before a0 Z = true) (hby : c.code = code) (hml : c.maxLocals = 6) (hown : s.vm.findClass "com/example/shape_trees/shapetrees/xpath/tree/XmlNamesIsNameStartCharPinLaw" = some m.cls) (hret : meth.sig.returnType = some .boolean) (hlk : meth.locks = false) (e0 : T0.heap = h0) (Z0 : n0 ≤ h0.size) (N0 : Fr n0 locs) (g0 : n0 ≤ o) (V : own_Arr Z h0 o 62 f) (hone : ∀ w : Int32, f0_423 x0 x1 ((x1 &&& (255 : Int32)) % (62 : Int32)) ((((x1.toUInt32 >>> ((8 : Int32) &&& 31).toUInt32).toInt32) % (3 : Int32)) - (1 : Int32)) w = 1) :
    own_Goes p e below s n0 room_1.cells room_1.slots own_one (T0.setTop (mkF m 198 #[.val (.int x0), .val (.int x1), .unset, .unset, .unset, .unset] [(.ref o)])) := by
  obtain ⟨T1, h1, L1, X1, e1, Z1, N1, V1, st1⟩ := own_put X0 hx hZ e0 V g0 N0 Z0 (pc := 204) (Ls := #[.val (.int x0), .val (.int x1), .unset, .unset, .unset, .unset]) (rest := [(.ref o)]) (31 : Int32) (8191 : Int32) 31 (by decide) (by decide) (by decide) (hb hby at_204)
  refine own_Goes.pre (fun t kt => ?_) (fl205 x0 x1 o X1 hx hZ hw hby hml hown hret hlk e1 Z1 N1 g0 V1 hone)
  show Steps p.tables e below (T0.setTop (mkF m 198 #[.val (.int x0), .val (.int x1), .unset, .unset, .unset, .unset] [(.ref o)])) _
  refine XS.dup X0.here hx rfl (hb hby at_198) rfl rfl ?_
  show Steps p.tables e below (T0.setTop (mkF m 199 #[.val (.int x0), .val (.int x1), .unset, .unset, .unset, .unset] [(.ref o), (.ref o)])) _
  refine XS.bipush X0.here hx rfl (hb hby at_199) ?_
  show Steps p.tables e below (T0.setTop (mkF m 201 #[.val (.int x0), .val (.int x1), .unset, .unset, .unset, .unset] [(.int (31 : Int32)), (.ref o), (.ref o)])) _
  refine XS.sipush X0.here hx rfl (hb hby at_201) ?_
  show Steps p.tables e below (T0.setTop (mkF m 204 #[.val (.int x0), .val (.int x1), .unset, .unset, .unset, .unset] [(.int (8191 : Int32)), (.int (31 : Int32)), (.ref o), (.ref o)])) _
  exact st1 _ kt
set_option maxRecDepth 65536 in
set_option maxHeartbeats 40000000 in
theorem fl191 {p : Program} {l : Launch} {e : Env} {s : State} {m : MethodId} {args : Array Value} {below : List Frame} {meth : Method} {c : Code} {T0 : State} {locs : List Loc} {Z : State} {a0 : Array Value} {h0 : Heap} {n0 : Nat} {f : Nat → Int32} (x0 : Int32) (x1 : Int32) (o : Addr) (X0 : Stand p l e room_1 s m args below meth c T0 locs 1 62) (hx : p.tables.exec = Jvm.exec) (hZ : Z.Warmed39 s.vm) (hw : ∀ d ∈ tables_1, d.before a0 Z = true) (hby : c.code = code) (hml : c.maxLocals = 6) (hown : s.vm.findClass "com/example/shape_trees/shapetrees/xpath/tree/XmlNamesIsNameStartCharPinLaw" = some m.cls) (hret : meth.sig.returnType = some .boolean) (hlk : meth.locks = false) (e0 : T0.heap = h0) (Z0 : n0 ≤ h0.size) (N0 : Fr n0 locs) (g0 : n0 ≤ o) (V : own_Arr Z h0 o 62 f) (hone : ∀ w : Int32, f0_423 x0 x1 ((x1 &&& (255 : Int32)) % (62 : Int32)) ((((x1.toUInt32 >>> ((8 : Int32) &&& 31).toUInt32).toInt32) % (3 : Int32)) - (1 : Int32)) w = 1) :
    own_Goes p e below s n0 room_1.cells room_1.slots own_one (T0.setTop (mkF m 191 #[.val (.int x0), .val (.int x1), .unset, .unset, .unset, .unset] [(.ref o)])) := by
  obtain ⟨T1, h1, L1, X1, e1, Z1, N1, V1, st1⟩ := own_put X0 hx hZ e0 V g0 N0 Z0 (pc := 197) (Ls := #[.val (.int x0), .val (.int x1), .unset, .unset, .unset, .unset]) (rest := [(.ref o)]) (30 : Int32) (895 : Int32) 30 (by decide) (by decide) (by decide) (hb hby at_197)
  refine own_Goes.pre (fun t kt => ?_) (fl198 x0 x1 o X1 hx hZ hw hby hml hown hret hlk e1 Z1 N1 g0 V1 hone)
  show Steps p.tables e below (T0.setTop (mkF m 191 #[.val (.int x0), .val (.int x1), .unset, .unset, .unset, .unset] [(.ref o)])) _
  refine XS.dup X0.here hx rfl (hb hby at_191) rfl rfl ?_
  show Steps p.tables e below (T0.setTop (mkF m 192 #[.val (.int x0), .val (.int x1), .unset, .unset, .unset, .unset] [(.ref o), (.ref o)])) _
  refine XS.bipush X0.here hx rfl (hb hby at_192) ?_
  show Steps p.tables e below (T0.setTop (mkF m 194 #[.val (.int x0), .val (.int x1), .unset, .unset, .unset, .unset] [(.int (30 : Int32)), (.ref o), (.ref o)])) _
  refine XS.sipush X0.here hx rfl (hb hby at_194) ?_
  show Steps p.tables e below (T0.setTop (mkF m 197 #[.val (.int x0), .val (.int x1), .unset, .unset, .unset, .unset] [(.int (895 : Int32)), (.int (30 : Int32)), (.ref o), (.ref o)])) _
  exact st1 _ kt
set_option maxRecDepth 65536 in
set_option maxHeartbeats 40000000 in
theorem fl184 {p : Program} {l : Launch} {e : Env} {s : State} {m : MethodId} {args : Array Value} {below : List Frame} {meth : Method} {c : Code} {T0 : State} {locs : List Loc} {Z : State} {a0 : Array Value} {h0 : Heap} {n0 : Nat} {f : Nat → Int32} (x0 : Int32) (x1 : Int32) (o : Addr) (X0 : Stand p l e room_1 s m args below meth c T0 locs 1 62) (hx : p.tables.exec = Jvm.exec) (hZ : Z.Warmed39 s.vm) (hw : ∀ d ∈ tables_1, d.before a0 Z = true) (hby : c.code = code) (hml : c.maxLocals = 6) (hown : s.vm.findClass "com/example/shape_trees/shapetrees/xpath/tree/XmlNamesIsNameStartCharPinLaw" = some m.cls) (hret : meth.sig.returnType = some .boolean) (hlk : meth.locks = false) (e0 : T0.heap = h0) (Z0 : n0 ≤ h0.size) (N0 : Fr n0 locs) (g0 : n0 ≤ o) (V : own_Arr Z h0 o 62 f) (hone : ∀ w : Int32, f0_423 x0 x1 ((x1 &&& (255 : Int32)) % (62 : Int32)) ((((x1.toUInt32 >>> ((8 : Int32) &&& 31).toUInt32).toInt32) % (3 : Int32)) - (1 : Int32)) w = 1) :
    own_Goes p e below s n0 room_1.cells room_1.slots own_one (T0.setTop (mkF m 184 #[.val (.int x0), .val (.int x1), .unset, .unset, .unset, .unset] [(.ref o)])) := by
  obtain ⟨T1, h1, L1, X1, e1, Z1, N1, V1, st1⟩ := own_put X0 hx hZ e0 V g0 N0 Z0 (pc := 190) (Ls := #[.val (.int x0), .val (.int x1), .unset, .unset, .unset, .unset]) (rest := [(.ref o)]) (29 : Int32) (894 : Int32) 29 (by decide) (by decide) (by decide) (hb hby at_190)
  refine own_Goes.pre (fun t kt => ?_) (fl191 x0 x1 o X1 hx hZ hw hby hml hown hret hlk e1 Z1 N1 g0 V1 hone)
  show Steps p.tables e below (T0.setTop (mkF m 184 #[.val (.int x0), .val (.int x1), .unset, .unset, .unset, .unset] [(.ref o)])) _
  refine XS.dup X0.here hx rfl (hb hby at_184) rfl rfl ?_
  show Steps p.tables e below (T0.setTop (mkF m 185 #[.val (.int x0), .val (.int x1), .unset, .unset, .unset, .unset] [(.ref o), (.ref o)])) _
  refine XS.bipush X0.here hx rfl (hb hby at_185) ?_
  show Steps p.tables e below (T0.setTop (mkF m 187 #[.val (.int x0), .val (.int x1), .unset, .unset, .unset, .unset] [(.int (29 : Int32)), (.ref o), (.ref o)])) _
  refine XS.sipush X0.here hx rfl (hb hby at_187) ?_
  show Steps p.tables e below (T0.setTop (mkF m 190 #[.val (.int x0), .val (.int x1), .unset, .unset, .unset, .unset] [(.int (894 : Int32)), (.int (29 : Int32)), (.ref o), (.ref o)])) _
  exact st1 _ kt
set_option maxRecDepth 65536 in
set_option maxHeartbeats 40000000 in
theorem fl177 {p : Program} {l : Launch} {e : Env} {s : State} {m : MethodId} {args : Array Value} {below : List Frame} {meth : Method} {c : Code} {T0 : State} {locs : List Loc} {Z : State} {a0 : Array Value} {h0 : Heap} {n0 : Nat} {f : Nat → Int32} (x0 : Int32) (x1 : Int32) (o : Addr) (X0 : Stand p l e room_1 s m args below meth c T0 locs 1 62) (hx : p.tables.exec = Jvm.exec) (hZ : Z.Warmed39 s.vm) (hw : ∀ d ∈ tables_1, d.before a0 Z = true) (hby : c.code = code) (hml : c.maxLocals = 6) (hown : s.vm.findClass "com/example/shape_trees/shapetrees/xpath/tree/XmlNamesIsNameStartCharPinLaw" = some m.cls) (hret : meth.sig.returnType = some .boolean) (hlk : meth.locks = false) (e0 : T0.heap = h0) (Z0 : n0 ≤ h0.size) (N0 : Fr n0 locs) (g0 : n0 ≤ o) (V : own_Arr Z h0 o 62 f) (hone : ∀ w : Int32, f0_423 x0 x1 ((x1 &&& (255 : Int32)) % (62 : Int32)) ((((x1.toUInt32 >>> ((8 : Int32) &&& 31).toUInt32).toInt32) % (3 : Int32)) - (1 : Int32)) w = 1) :
    own_Goes p e below s n0 room_1.cells room_1.slots own_one (T0.setTop (mkF m 177 #[.val (.int x0), .val (.int x1), .unset, .unset, .unset, .unset] [(.ref o)])) := by
  obtain ⟨T1, h1, L1, X1, e1, Z1, N1, V1, st1⟩ := own_put X0 hx hZ e0 V g0 N0 Z0 (pc := 183) (Ls := #[.val (.int x0), .val (.int x1), .unset, .unset, .unset, .unset]) (rest := [(.ref o)]) (28 : Int32) (893 : Int32) 28 (by decide) (by decide) (by decide) (hb hby at_183)
  refine own_Goes.pre (fun t kt => ?_) (fl184 x0 x1 o X1 hx hZ hw hby hml hown hret hlk e1 Z1 N1 g0 V1 hone)
  show Steps p.tables e below (T0.setTop (mkF m 177 #[.val (.int x0), .val (.int x1), .unset, .unset, .unset, .unset] [(.ref o)])) _
  refine XS.dup X0.here hx rfl (hb hby at_177) rfl rfl ?_
  show Steps p.tables e below (T0.setTop (mkF m 178 #[.val (.int x0), .val (.int x1), .unset, .unset, .unset, .unset] [(.ref o), (.ref o)])) _
  refine XS.bipush X0.here hx rfl (hb hby at_178) ?_
  show Steps p.tables e below (T0.setTop (mkF m 180 #[.val (.int x0), .val (.int x1), .unset, .unset, .unset, .unset] [(.int (28 : Int32)), (.ref o), (.ref o)])) _
  refine XS.sipush X0.here hx rfl (hb hby at_180) ?_
  show Steps p.tables e below (T0.setTop (mkF m 183 #[.val (.int x0), .val (.int x1), .unset, .unset, .unset, .unset] [(.int (893 : Int32)), (.int (28 : Int32)), (.ref o), (.ref o)])) _
  exact st1 _ kt
set_option maxRecDepth 65536 in
set_option maxHeartbeats 40000000 in
theorem fl170 {p : Program} {l : Launch} {e : Env} {s : State} {m : MethodId} {args : Array Value} {below : List Frame} {meth : Method} {c : Code} {T0 : State} {locs : List Loc} {Z : State} {a0 : Array Value} {h0 : Heap} {n0 : Nat} {f : Nat → Int32} (x0 : Int32) (x1 : Int32) (o : Addr) (X0 : Stand p l e room_1 s m args below meth c T0 locs 1 62) (hx : p.tables.exec = Jvm.exec) (hZ : Z.Warmed39 s.vm) (hw : ∀ d ∈ tables_1, d.before a0 Z = true) (hby : c.code = code) (hml : c.maxLocals = 6) (hown : s.vm.findClass "com/example/shape_trees/shapetrees/xpath/tree/XmlNamesIsNameStartCharPinLaw" = some m.cls) (hret : meth.sig.returnType = some .boolean) (hlk : meth.locks = false) (e0 : T0.heap = h0) (Z0 : n0 ≤ h0.size) (N0 : Fr n0 locs) (g0 : n0 ≤ o) (V : own_Arr Z h0 o 62 f) (hone : ∀ w : Int32, f0_423 x0 x1 ((x1 &&& (255 : Int32)) % (62 : Int32)) ((((x1.toUInt32 >>> ((8 : Int32) &&& 31).toUInt32).toInt32) % (3 : Int32)) - (1 : Int32)) w = 1) :
    own_Goes p e below s n0 room_1.cells room_1.slots own_one (T0.setTop (mkF m 170 #[.val (.int x0), .val (.int x1), .unset, .unset, .unset, .unset] [(.ref o)])) := by
  obtain ⟨T1, h1, L1, X1, e1, Z1, N1, V1, st1⟩ := own_put X0 hx hZ e0 V g0 N0 Z0 (pc := 176) (Ls := #[.val (.int x0), .val (.int x1), .unset, .unset, .unset, .unset]) (rest := [(.ref o)]) (27 : Int32) (880 : Int32) 27 (by decide) (by decide) (by decide) (hb hby at_176)
  refine own_Goes.pre (fun t kt => ?_) (fl177 x0 x1 o X1 hx hZ hw hby hml hown hret hlk e1 Z1 N1 g0 V1 hone)
  show Steps p.tables e below (T0.setTop (mkF m 170 #[.val (.int x0), .val (.int x1), .unset, .unset, .unset, .unset] [(.ref o)])) _
  refine XS.dup X0.here hx rfl (hb hby at_170) rfl rfl ?_
  show Steps p.tables e below (T0.setTop (mkF m 171 #[.val (.int x0), .val (.int x1), .unset, .unset, .unset, .unset] [(.ref o), (.ref o)])) _
  refine XS.bipush X0.here hx rfl (hb hby at_171) ?_
  show Steps p.tables e below (T0.setTop (mkF m 173 #[.val (.int x0), .val (.int x1), .unset, .unset, .unset, .unset] [(.int (27 : Int32)), (.ref o), (.ref o)])) _
  refine XS.sipush X0.here hx rfl (hb hby at_173) ?_
  show Steps p.tables e below (T0.setTop (mkF m 176 #[.val (.int x0), .val (.int x1), .unset, .unset, .unset, .unset] [(.int (880 : Int32)), (.int (27 : Int32)), (.ref o), (.ref o)])) _
  exact st1 _ kt
set_option maxRecDepth 65536 in
set_option maxHeartbeats 40000000 in
theorem fl163 {p : Program} {l : Launch} {e : Env} {s : State} {m : MethodId} {args : Array Value} {below : List Frame} {meth : Method} {c : Code} {T0 : State} {locs : List Loc} {Z : State} {a0 : Array Value} {h0 : Heap} {n0 : Nat} {f : Nat → Int32} (x0 : Int32) (x1 : Int32) (o : Addr) (X0 : Stand p l e room_1 s m args below meth c T0 locs 1 62) (hx : p.tables.exec = Jvm.exec) (hZ : Z.Warmed39 s.vm) (hw : ∀ d ∈ tables_1, d.before a0 Z = true) (hby : c.code = code) (hml : c.maxLocals = 6) (hown : s.vm.findClass "com/example/shape_trees/shapetrees/xpath/tree/XmlNamesIsNameStartCharPinLaw" = some m.cls) (hret : meth.sig.returnType = some .boolean) (hlk : meth.locks = false) (e0 : T0.heap = h0) (Z0 : n0 ≤ h0.size) (N0 : Fr n0 locs) (g0 : n0 ≤ o) (V : own_Arr Z h0 o 62 f) (hone : ∀ w : Int32, f0_423 x0 x1 ((x1 &&& (255 : Int32)) % (62 : Int32)) ((((x1.toUInt32 >>> ((8 : Int32) &&& 31).toUInt32).toInt32) % (3 : Int32)) - (1 : Int32)) w = 1) :
    own_Goes p e below s n0 room_1.cells room_1.slots own_one (T0.setTop (mkF m 163 #[.val (.int x0), .val (.int x1), .unset, .unset, .unset, .unset] [(.ref o)])) := by
  obtain ⟨T1, h1, L1, X1, e1, Z1, N1, V1, st1⟩ := own_put X0 hx hZ e0 V g0 N0 Z0 (pc := 169) (Ls := #[.val (.int x0), .val (.int x1), .unset, .unset, .unset, .unset]) (rest := [(.ref o)]) (26 : Int32) (879 : Int32) 26 (by decide) (by decide) (by decide) (hb hby at_169)
  refine own_Goes.pre (fun t kt => ?_) (fl170 x0 x1 o X1 hx hZ hw hby hml hown hret hlk e1 Z1 N1 g0 V1 hone)
  show Steps p.tables e below (T0.setTop (mkF m 163 #[.val (.int x0), .val (.int x1), .unset, .unset, .unset, .unset] [(.ref o)])) _
  refine XS.dup X0.here hx rfl (hb hby at_163) rfl rfl ?_
  show Steps p.tables e below (T0.setTop (mkF m 164 #[.val (.int x0), .val (.int x1), .unset, .unset, .unset, .unset] [(.ref o), (.ref o)])) _
  refine XS.bipush X0.here hx rfl (hb hby at_164) ?_
  show Steps p.tables e below (T0.setTop (mkF m 166 #[.val (.int x0), .val (.int x1), .unset, .unset, .unset, .unset] [(.int (26 : Int32)), (.ref o), (.ref o)])) _
  refine XS.sipush X0.here hx rfl (hb hby at_166) ?_
  show Steps p.tables e below (T0.setTop (mkF m 169 #[.val (.int x0), .val (.int x1), .unset, .unset, .unset, .unset] [(.int (879 : Int32)), (.int (26 : Int32)), (.ref o), (.ref o)])) _
  exact st1 _ kt
set_option maxRecDepth 65536 in
set_option maxHeartbeats 40000000 in
theorem fl156 {p : Program} {l : Launch} {e : Env} {s : State} {m : MethodId} {args : Array Value} {below : List Frame} {meth : Method} {c : Code} {T0 : State} {locs : List Loc} {Z : State} {a0 : Array Value} {h0 : Heap} {n0 : Nat} {f : Nat → Int32} (x0 : Int32) (x1 : Int32) (o : Addr) (X0 : Stand p l e room_1 s m args below meth c T0 locs 1 62) (hx : p.tables.exec = Jvm.exec) (hZ : Z.Warmed39 s.vm) (hw : ∀ d ∈ tables_1, d.before a0 Z = true) (hby : c.code = code) (hml : c.maxLocals = 6) (hown : s.vm.findClass "com/example/shape_trees/shapetrees/xpath/tree/XmlNamesIsNameStartCharPinLaw" = some m.cls) (hret : meth.sig.returnType = some .boolean) (hlk : meth.locks = false) (e0 : T0.heap = h0) (Z0 : n0 ≤ h0.size) (N0 : Fr n0 locs) (g0 : n0 ≤ o) (V : own_Arr Z h0 o 62 f) (hone : ∀ w : Int32, f0_423 x0 x1 ((x1 &&& (255 : Int32)) % (62 : Int32)) ((((x1.toUInt32 >>> ((8 : Int32) &&& 31).toUInt32).toInt32) % (3 : Int32)) - (1 : Int32)) w = 1) :
    own_Goes p e below s n0 room_1.cells room_1.slots own_one (T0.setTop (mkF m 156 #[.val (.int x0), .val (.int x1), .unset, .unset, .unset, .unset] [(.ref o)])) := by
  obtain ⟨T1, h1, L1, X1, e1, Z1, N1, V1, st1⟩ := own_put X0 hx hZ e0 V g0 N0 Z0 (pc := 162) (Ls := #[.val (.int x0), .val (.int x1), .unset, .unset, .unset, .unset]) (rest := [(.ref o)]) (25 : Int32) (768 : Int32) 25 (by decide) (by decide) (by decide) (hb hby at_162)
  refine own_Goes.pre (fun t kt => ?_) (fl163 x0 x1 o X1 hx hZ hw hby hml hown hret hlk e1 Z1 N1 g0 V1 hone)
  show Steps p.tables e below (T0.setTop (mkF m 156 #[.val (.int x0), .val (.int x1), .unset, .unset, .unset, .unset] [(.ref o)])) _
  refine XS.dup X0.here hx rfl (hb hby at_156) rfl rfl ?_
  show Steps p.tables e below (T0.setTop (mkF m 157 #[.val (.int x0), .val (.int x1), .unset, .unset, .unset, .unset] [(.ref o), (.ref o)])) _
  refine XS.bipush X0.here hx rfl (hb hby at_157) ?_
  show Steps p.tables e below (T0.setTop (mkF m 159 #[.val (.int x0), .val (.int x1), .unset, .unset, .unset, .unset] [(.int (25 : Int32)), (.ref o), (.ref o)])) _
  refine XS.sipush X0.here hx rfl (hb hby at_159) ?_
  show Steps p.tables e below (T0.setTop (mkF m 162 #[.val (.int x0), .val (.int x1), .unset, .unset, .unset, .unset] [(.int (768 : Int32)), (.int (25 : Int32)), (.ref o), (.ref o)])) _
  exact st1 _ kt
set_option maxRecDepth 65536 in
set_option maxHeartbeats 40000000 in
theorem fl149 {p : Program} {l : Launch} {e : Env} {s : State} {m : MethodId} {args : Array Value} {below : List Frame} {meth : Method} {c : Code} {T0 : State} {locs : List Loc} {Z : State} {a0 : Array Value} {h0 : Heap} {n0 : Nat} {f : Nat → Int32} (x0 : Int32) (x1 : Int32) (o : Addr) (X0 : Stand p l e room_1 s m args below meth c T0 locs 1 62) (hx : p.tables.exec = Jvm.exec) (hZ : Z.Warmed39 s.vm) (hw : ∀ d ∈ tables_1, d.before a0 Z = true) (hby : c.code = code) (hml : c.maxLocals = 6) (hown : s.vm.findClass "com/example/shape_trees/shapetrees/xpath/tree/XmlNamesIsNameStartCharPinLaw" = some m.cls) (hret : meth.sig.returnType = some .boolean) (hlk : meth.locks = false) (e0 : T0.heap = h0) (Z0 : n0 ≤ h0.size) (N0 : Fr n0 locs) (g0 : n0 ≤ o) (V : own_Arr Z h0 o 62 f) (hone : ∀ w : Int32, f0_423 x0 x1 ((x1 &&& (255 : Int32)) % (62 : Int32)) ((((x1.toUInt32 >>> ((8 : Int32) &&& 31).toUInt32).toInt32) % (3 : Int32)) - (1 : Int32)) w = 1) :
    own_Goes p e below s n0 room_1.cells room_1.slots own_one (T0.setTop (mkF m 149 #[.val (.int x0), .val (.int x1), .unset, .unset, .unset, .unset] [(.ref o)])) := by
  obtain ⟨T1, h1, L1, X1, e1, Z1, N1, V1, st1⟩ := own_put X0 hx hZ e0 V g0 N0 Z0 (pc := 155) (Ls := #[.val (.int x0), .val (.int x1), .unset, .unset, .unset, .unset]) (rest := [(.ref o)]) (24 : Int32) (767 : Int32) 24 (by decide) (by decide) (by decide) (hb hby at_155)
  refine own_Goes.pre (fun t kt => ?_) (fl156 x0 x1 o X1 hx hZ hw hby hml hown hret hlk e1 Z1 N1 g0 V1 hone)
  show Steps p.tables e below (T0.setTop (mkF m 149 #[.val (.int x0), .val (.int x1), .unset, .unset, .unset, .unset] [(.ref o)])) _
  refine XS.dup X0.here hx rfl (hb hby at_149) rfl rfl ?_
  show Steps p.tables e below (T0.setTop (mkF m 150 #[.val (.int x0), .val (.int x1), .unset, .unset, .unset, .unset] [(.ref o), (.ref o)])) _
  refine XS.bipush X0.here hx rfl (hb hby at_150) ?_
  show Steps p.tables e below (T0.setTop (mkF m 152 #[.val (.int x0), .val (.int x1), .unset, .unset, .unset, .unset] [(.int (24 : Int32)), (.ref o), (.ref o)])) _
  refine XS.sipush X0.here hx rfl (hb hby at_152) ?_
  show Steps p.tables e below (T0.setTop (mkF m 155 #[.val (.int x0), .val (.int x1), .unset, .unset, .unset, .unset] [(.int (767 : Int32)), (.int (24 : Int32)), (.ref o), (.ref o)])) _
  exact st1 _ kt
set_option maxRecDepth 65536 in
set_option maxHeartbeats 40000000 in
theorem fl142 {p : Program} {l : Launch} {e : Env} {s : State} {m : MethodId} {args : Array Value} {below : List Frame} {meth : Method} {c : Code} {T0 : State} {locs : List Loc} {Z : State} {a0 : Array Value} {h0 : Heap} {n0 : Nat} {f : Nat → Int32} (x0 : Int32) (x1 : Int32) (o : Addr) (X0 : Stand p l e room_1 s m args below meth c T0 locs 1 62) (hx : p.tables.exec = Jvm.exec) (hZ : Z.Warmed39 s.vm) (hw : ∀ d ∈ tables_1, d.before a0 Z = true) (hby : c.code = code) (hml : c.maxLocals = 6) (hown : s.vm.findClass "com/example/shape_trees/shapetrees/xpath/tree/XmlNamesIsNameStartCharPinLaw" = some m.cls) (hret : meth.sig.returnType = some .boolean) (hlk : meth.locks = false) (e0 : T0.heap = h0) (Z0 : n0 ≤ h0.size) (N0 : Fr n0 locs) (g0 : n0 ≤ o) (V : own_Arr Z h0 o 62 f) (hone : ∀ w : Int32, f0_423 x0 x1 ((x1 &&& (255 : Int32)) % (62 : Int32)) ((((x1.toUInt32 >>> ((8 : Int32) &&& 31).toUInt32).toInt32) % (3 : Int32)) - (1 : Int32)) w = 1) :
    own_Goes p e below s n0 room_1.cells room_1.slots own_one (T0.setTop (mkF m 142 #[.val (.int x0), .val (.int x1), .unset, .unset, .unset, .unset] [(.ref o)])) := by
  obtain ⟨T1, h1, L1, X1, e1, Z1, N1, V1, st1⟩ := own_put X0 hx hZ e0 V g0 N0 Z0 (pc := 148) (Ls := #[.val (.int x0), .val (.int x1), .unset, .unset, .unset, .unset]) (rest := [(.ref o)]) (23 : Int32) (248 : Int32) 23 (by decide) (by decide) (by decide) (hb hby at_148)
  refine own_Goes.pre (fun t kt => ?_) (fl149 x0 x1 o X1 hx hZ hw hby hml hown hret hlk e1 Z1 N1 g0 V1 hone)
  show Steps p.tables e below (T0.setTop (mkF m 142 #[.val (.int x0), .val (.int x1), .unset, .unset, .unset, .unset] [(.ref o)])) _
  refine XS.dup X0.here hx rfl (hb hby at_142) rfl rfl ?_
  show Steps p.tables e below (T0.setTop (mkF m 143 #[.val (.int x0), .val (.int x1), .unset, .unset, .unset, .unset] [(.ref o), (.ref o)])) _
  refine XS.bipush X0.here hx rfl (hb hby at_143) ?_
  show Steps p.tables e below (T0.setTop (mkF m 145 #[.val (.int x0), .val (.int x1), .unset, .unset, .unset, .unset] [(.int (23 : Int32)), (.ref o), (.ref o)])) _
  refine XS.sipush X0.here hx rfl (hb hby at_145) ?_
  show Steps p.tables e below (T0.setTop (mkF m 148 #[.val (.int x0), .val (.int x1), .unset, .unset, .unset, .unset] [(.int (248 : Int32)), (.int (23 : Int32)), (.ref o), (.ref o)])) _
  exact st1 _ kt
set_option maxRecDepth 65536 in
set_option maxHeartbeats 40000000 in
theorem fl135 {p : Program} {l : Launch} {e : Env} {s : State} {m : MethodId} {args : Array Value} {below : List Frame} {meth : Method} {c : Code} {T0 : State} {locs : List Loc} {Z : State} {a0 : Array Value} {h0 : Heap} {n0 : Nat} {f : Nat → Int32} (x0 : Int32) (x1 : Int32) (o : Addr) (X0 : Stand p l e room_1 s m args below meth c T0 locs 1 62) (hx : p.tables.exec = Jvm.exec) (hZ : Z.Warmed39 s.vm) (hw : ∀ d ∈ tables_1, d.before a0 Z = true) (hby : c.code = code) (hml : c.maxLocals = 6) (hown : s.vm.findClass "com/example/shape_trees/shapetrees/xpath/tree/XmlNamesIsNameStartCharPinLaw" = some m.cls) (hret : meth.sig.returnType = some .boolean) (hlk : meth.locks = false) (e0 : T0.heap = h0) (Z0 : n0 ≤ h0.size) (N0 : Fr n0 locs) (g0 : n0 ≤ o) (V : own_Arr Z h0 o 62 f) (hone : ∀ w : Int32, f0_423 x0 x1 ((x1 &&& (255 : Int32)) % (62 : Int32)) ((((x1.toUInt32 >>> ((8 : Int32) &&& 31).toUInt32).toInt32) % (3 : Int32)) - (1 : Int32)) w = 1) :
    own_Goes p e below s n0 room_1.cells room_1.slots own_one (T0.setTop (mkF m 135 #[.val (.int x0), .val (.int x1), .unset, .unset, .unset, .unset] [(.ref o)])) := by
  obtain ⟨T1, h1, L1, X1, e1, Z1, N1, V1, st1⟩ := own_put X0 hx hZ e0 V g0 N0 Z0 (pc := 141) (Ls := #[.val (.int x0), .val (.int x1), .unset, .unset, .unset, .unset]) (rest := [(.ref o)]) (22 : Int32) (247 : Int32) 22 (by decide) (by decide) (by decide) (hb hby at_141)
  refine own_Goes.pre (fun t kt => ?_) (fl142 x0 x1 o X1 hx hZ hw hby hml hown hret hlk e1 Z1 N1 g0 V1 hone)
  show Steps p.tables e below (T0.setTop (mkF m 135 #[.val (.int x0), .val (.int x1), .unset, .unset, .unset, .unset] [(.ref o)])) _
  refine XS.dup X0.here hx rfl (hb hby at_135) rfl rfl ?_
  show Steps p.tables e below (T0.setTop (mkF m 136 #[.val (.int x0), .val (.int x1), .unset, .unset, .unset, .unset] [(.ref o), (.ref o)])) _
  refine XS.bipush X0.here hx rfl (hb hby at_136) ?_
  show Steps p.tables e below (T0.setTop (mkF m 138 #[.val (.int x0), .val (.int x1), .unset, .unset, .unset, .unset] [(.int (22 : Int32)), (.ref o), (.ref o)])) _
  refine XS.sipush X0.here hx rfl (hb hby at_138) ?_
  show Steps p.tables e below (T0.setTop (mkF m 141 #[.val (.int x0), .val (.int x1), .unset, .unset, .unset, .unset] [(.int (247 : Int32)), (.int (22 : Int32)), (.ref o), (.ref o)])) _
  exact st1 _ kt
set_option maxRecDepth 65536 in
set_option maxHeartbeats 40000000 in
theorem fl128 {p : Program} {l : Launch} {e : Env} {s : State} {m : MethodId} {args : Array Value} {below : List Frame} {meth : Method} {c : Code} {T0 : State} {locs : List Loc} {Z : State} {a0 : Array Value} {h0 : Heap} {n0 : Nat} {f : Nat → Int32} (x0 : Int32) (x1 : Int32) (o : Addr) (X0 : Stand p l e room_1 s m args below meth c T0 locs 1 62) (hx : p.tables.exec = Jvm.exec) (hZ : Z.Warmed39 s.vm) (hw : ∀ d ∈ tables_1, d.before a0 Z = true) (hby : c.code = code) (hml : c.maxLocals = 6) (hown : s.vm.findClass "com/example/shape_trees/shapetrees/xpath/tree/XmlNamesIsNameStartCharPinLaw" = some m.cls) (hret : meth.sig.returnType = some .boolean) (hlk : meth.locks = false) (e0 : T0.heap = h0) (Z0 : n0 ≤ h0.size) (N0 : Fr n0 locs) (g0 : n0 ≤ o) (V : own_Arr Z h0 o 62 f) (hone : ∀ w : Int32, f0_423 x0 x1 ((x1 &&& (255 : Int32)) % (62 : Int32)) ((((x1.toUInt32 >>> ((8 : Int32) &&& 31).toUInt32).toInt32) % (3 : Int32)) - (1 : Int32)) w = 1) :
    own_Goes p e below s n0 room_1.cells room_1.slots own_one (T0.setTop (mkF m 128 #[.val (.int x0), .val (.int x1), .unset, .unset, .unset, .unset] [(.ref o)])) := by
  obtain ⟨T1, h1, L1, X1, e1, Z1, N1, V1, st1⟩ := own_put X0 hx hZ e0 V g0 N0 Z0 (pc := 134) (Ls := #[.val (.int x0), .val (.int x1), .unset, .unset, .unset, .unset]) (rest := [(.ref o)]) (21 : Int32) (246 : Int32) 21 (by decide) (by decide) (by decide) (hb hby at_134)
  refine own_Goes.pre (fun t kt => ?_) (fl135 x0 x1 o X1 hx hZ hw hby hml hown hret hlk e1 Z1 N1 g0 V1 hone)
  show Steps p.tables e below (T0.setTop (mkF m 128 #[.val (.int x0), .val (.int x1), .unset, .unset, .unset, .unset] [(.ref o)])) _
  refine XS.dup X0.here hx rfl (hb hby at_128) rfl rfl ?_
  show Steps p.tables e below (T0.setTop (mkF m 129 #[.val (.int x0), .val (.int x1), .unset, .unset, .unset, .unset] [(.ref o), (.ref o)])) _
  refine XS.bipush X0.here hx rfl (hb hby at_129) ?_
  show Steps p.tables e below (T0.setTop (mkF m 131 #[.val (.int x0), .val (.int x1), .unset, .unset, .unset, .unset] [(.int (21 : Int32)), (.ref o), (.ref o)])) _
  refine XS.sipush X0.here hx rfl (hb hby at_131) ?_
  show Steps p.tables e below (T0.setTop (mkF m 134 #[.val (.int x0), .val (.int x1), .unset, .unset, .unset, .unset] [(.int (246 : Int32)), (.int (21 : Int32)), (.ref o), (.ref o)])) _
  exact st1 _ kt
set_option maxRecDepth 65536 in
set_option maxHeartbeats 40000000 in
theorem fl121 {p : Program} {l : Launch} {e : Env} {s : State} {m : MethodId} {args : Array Value} {below : List Frame} {meth : Method} {c : Code} {T0 : State} {locs : List Loc} {Z : State} {a0 : Array Value} {h0 : Heap} {n0 : Nat} {f : Nat → Int32} (x0 : Int32) (x1 : Int32) (o : Addr) (X0 : Stand p l e room_1 s m args below meth c T0 locs 1 62) (hx : p.tables.exec = Jvm.exec) (hZ : Z.Warmed39 s.vm) (hw : ∀ d ∈ tables_1, d.before a0 Z = true) (hby : c.code = code) (hml : c.maxLocals = 6) (hown : s.vm.findClass "com/example/shape_trees/shapetrees/xpath/tree/XmlNamesIsNameStartCharPinLaw" = some m.cls) (hret : meth.sig.returnType = some .boolean) (hlk : meth.locks = false) (e0 : T0.heap = h0) (Z0 : n0 ≤ h0.size) (N0 : Fr n0 locs) (g0 : n0 ≤ o) (V : own_Arr Z h0 o 62 f) (hone : ∀ w : Int32, f0_423 x0 x1 ((x1 &&& (255 : Int32)) % (62 : Int32)) ((((x1.toUInt32 >>> ((8 : Int32) &&& 31).toUInt32).toInt32) % (3 : Int32)) - (1 : Int32)) w = 1) :
    own_Goes p e below s n0 room_1.cells room_1.slots own_one (T0.setTop (mkF m 121 #[.val (.int x0), .val (.int x1), .unset, .unset, .unset, .unset] [(.ref o)])) := by
  obtain ⟨T1, h1, L1, X1, e1, Z1, N1, V1, st1⟩ := own_put X0 hx hZ e0 V g0 N0 Z0 (pc := 127) (Ls := #[.val (.int x0), .val (.int x1), .unset, .unset, .unset, .unset]) (rest := [(.ref o)]) (20 : Int32) (216 : Int32) 20 (by decide) (by decide) (by decide) (hb hby at_127)
  refine own_Goes.pre (fun t kt => ?_) (fl128 x0 x1 o X1 hx hZ hw hby hml hown hret hlk e1 Z1 N1 g0 V1 hone)
  show Steps p.tables e below (T0.setTop (mkF m 121 #[.val (.int x0), .val (.int x1), .unset, .unset, .unset, .unset] [(.ref o)])) _
  refine XS.dup X0.here hx rfl (hb hby at_121) rfl rfl ?_
  show Steps p.tables e below (T0.setTop (mkF m 122 #[.val (.int x0), .val (.int x1), .unset, .unset, .unset, .unset] [(.ref o), (.ref o)])) _
  refine XS.bipush X0.here hx rfl (hb hby at_122) ?_
  show Steps p.tables e below (T0.setTop (mkF m 124 #[.val (.int x0), .val (.int x1), .unset, .unset, .unset, .unset] [(.int (20 : Int32)), (.ref o), (.ref o)])) _
  refine XS.sipush X0.here hx rfl (hb hby at_124) ?_
  show Steps p.tables e below (T0.setTop (mkF m 127 #[.val (.int x0), .val (.int x1), .unset, .unset, .unset, .unset] [(.int (216 : Int32)), (.int (20 : Int32)), (.ref o), (.ref o)])) _
  exact st1 _ kt
set_option maxRecDepth 65536 in
set_option maxHeartbeats 40000000 in
theorem fl114 {p : Program} {l : Launch} {e : Env} {s : State} {m : MethodId} {args : Array Value} {below : List Frame} {meth : Method} {c : Code} {T0 : State} {locs : List Loc} {Z : State} {a0 : Array Value} {h0 : Heap} {n0 : Nat} {f : Nat → Int32} (x0 : Int32) (x1 : Int32) (o : Addr) (X0 : Stand p l e room_1 s m args below meth c T0 locs 1 62) (hx : p.tables.exec = Jvm.exec) (hZ : Z.Warmed39 s.vm) (hw : ∀ d ∈ tables_1, d.before a0 Z = true) (hby : c.code = code) (hml : c.maxLocals = 6) (hown : s.vm.findClass "com/example/shape_trees/shapetrees/xpath/tree/XmlNamesIsNameStartCharPinLaw" = some m.cls) (hret : meth.sig.returnType = some .boolean) (hlk : meth.locks = false) (e0 : T0.heap = h0) (Z0 : n0 ≤ h0.size) (N0 : Fr n0 locs) (g0 : n0 ≤ o) (V : own_Arr Z h0 o 62 f) (hone : ∀ w : Int32, f0_423 x0 x1 ((x1 &&& (255 : Int32)) % (62 : Int32)) ((((x1.toUInt32 >>> ((8 : Int32) &&& 31).toUInt32).toInt32) % (3 : Int32)) - (1 : Int32)) w = 1) :
    own_Goes p e below s n0 room_1.cells room_1.slots own_one (T0.setTop (mkF m 114 #[.val (.int x0), .val (.int x1), .unset, .unset, .unset, .unset] [(.ref o)])) := by
  obtain ⟨T1, h1, L1, X1, e1, Z1, N1, V1, st1⟩ := own_put X0 hx hZ e0 V g0 N0 Z0 (pc := 120) (Ls := #[.val (.int x0), .val (.int x1), .unset, .unset, .unset, .unset]) (rest := [(.ref o)]) (19 : Int32) (215 : Int32) 19 (by decide) (by decide) (by decide) (hb hby at_120)
  refine own_Goes.pre (fun t kt => ?_) (fl121 x0 x1 o X1 hx hZ hw hby hml hown hret hlk e1 Z1 N1 g0 V1 hone)
  show Steps p.tables e below (T0.setTop (mkF m 114 #[.val (.int x0), .val (.int x1), .unset, .unset, .unset, .unset] [(.ref o)])) _
  refine XS.dup X0.here hx rfl (hb hby at_114) rfl rfl ?_
  show Steps p.tables e below (T0.setTop (mkF m 115 #[.val (.int x0), .val (.int x1), .unset, .unset, .unset, .unset] [(.ref o), (.ref o)])) _
  refine XS.bipush X0.here hx rfl (hb hby at_115) ?_
  show Steps p.tables e below (T0.setTop (mkF m 117 #[.val (.int x0), .val (.int x1), .unset, .unset, .unset, .unset] [(.int (19 : Int32)), (.ref o), (.ref o)])) _
  refine XS.sipush X0.here hx rfl (hb hby at_117) ?_
  show Steps p.tables e below (T0.setTop (mkF m 120 #[.val (.int x0), .val (.int x1), .unset, .unset, .unset, .unset] [(.int (215 : Int32)), (.int (19 : Int32)), (.ref o), (.ref o)])) _
  exact st1 _ kt
set_option maxRecDepth 65536 in
set_option maxHeartbeats 40000000 in
theorem fl107 {p : Program} {l : Launch} {e : Env} {s : State} {m : MethodId} {args : Array Value} {below : List Frame} {meth : Method} {c : Code} {T0 : State} {locs : List Loc} {Z : State} {a0 : Array Value} {h0 : Heap} {n0 : Nat} {f : Nat → Int32} (x0 : Int32) (x1 : Int32) (o : Addr) (X0 : Stand p l e room_1 s m args below meth c T0 locs 1 62) (hx : p.tables.exec = Jvm.exec) (hZ : Z.Warmed39 s.vm) (hw : ∀ d ∈ tables_1, d.before a0 Z = true) (hby : c.code = code) (hml : c.maxLocals = 6) (hown : s.vm.findClass "com/example/shape_trees/shapetrees/xpath/tree/XmlNamesIsNameStartCharPinLaw" = some m.cls) (hret : meth.sig.returnType = some .boolean) (hlk : meth.locks = false) (e0 : T0.heap = h0) (Z0 : n0 ≤ h0.size) (N0 : Fr n0 locs) (g0 : n0 ≤ o) (V : own_Arr Z h0 o 62 f) (hone : ∀ w : Int32, f0_423 x0 x1 ((x1 &&& (255 : Int32)) % (62 : Int32)) ((((x1.toUInt32 >>> ((8 : Int32) &&& 31).toUInt32).toInt32) % (3 : Int32)) - (1 : Int32)) w = 1) :
    own_Goes p e below s n0 room_1.cells room_1.slots own_one (T0.setTop (mkF m 107 #[.val (.int x0), .val (.int x1), .unset, .unset, .unset, .unset] [(.ref o)])) := by
  obtain ⟨T1, h1, L1, X1, e1, Z1, N1, V1, st1⟩ := own_put X0 hx hZ e0 V g0 N0 Z0 (pc := 113) (Ls := #[.val (.int x0), .val (.int x1), .unset, .unset, .unset, .unset]) (rest := [(.ref o)]) (18 : Int32) (214 : Int32) 18 (by decide) (by decide) (by decide) (hb hby at_113)
  refine own_Goes.pre (fun t kt => ?_) (fl114 x0 x1 o X1 hx hZ hw hby hml hown hret hlk e1 Z1 N1 g0 V1 hone)
  show Steps p.tables e below (T0.setTop (mkF m 107 #[.val (.int x0), .val (.int x1), .unset, .unset, .unset, .unset] [(.ref o)])) _
  refine XS.dup X0.here hx rfl (hb hby at_107) rfl rfl ?_
  show Steps p.tables e below (T0.setTop (mkF m 108 #[.val (.int x0), .val (.int x1), .unset, .unset, .unset, .unset] [(.ref o), (.ref o)])) _
  refine XS.bipush X0.here hx rfl (hb hby at_108) ?_
  show Steps p.tables e below (T0.setTop (mkF m 110 #[.val (.int x0), .val (.int x1), .unset, .unset, .unset, .unset] [(.int (18 : Int32)), (.ref o), (.ref o)])) _
  refine XS.sipush X0.here hx rfl (hb hby at_110) ?_
  show Steps p.tables e below (T0.setTop (mkF m 113 #[.val (.int x0), .val (.int x1), .unset, .unset, .unset, .unset] [(.int (214 : Int32)), (.int (18 : Int32)), (.ref o), (.ref o)])) _
  exact st1 _ kt
set_option maxRecDepth 65536 in
set_option maxHeartbeats 40000000 in
theorem fl100 {p : Program} {l : Launch} {e : Env} {s : State} {m : MethodId} {args : Array Value} {below : List Frame} {meth : Method} {c : Code} {T0 : State} {locs : List Loc} {Z : State} {a0 : Array Value} {h0 : Heap} {n0 : Nat} {f : Nat → Int32} (x0 : Int32) (x1 : Int32) (o : Addr) (X0 : Stand p l e room_1 s m args below meth c T0 locs 1 62) (hx : p.tables.exec = Jvm.exec) (hZ : Z.Warmed39 s.vm) (hw : ∀ d ∈ tables_1, d.before a0 Z = true) (hby : c.code = code) (hml : c.maxLocals = 6) (hown : s.vm.findClass "com/example/shape_trees/shapetrees/xpath/tree/XmlNamesIsNameStartCharPinLaw" = some m.cls) (hret : meth.sig.returnType = some .boolean) (hlk : meth.locks = false) (e0 : T0.heap = h0) (Z0 : n0 ≤ h0.size) (N0 : Fr n0 locs) (g0 : n0 ≤ o) (V : own_Arr Z h0 o 62 f) (hone : ∀ w : Int32, f0_423 x0 x1 ((x1 &&& (255 : Int32)) % (62 : Int32)) ((((x1.toUInt32 >>> ((8 : Int32) &&& 31).toUInt32).toInt32) % (3 : Int32)) - (1 : Int32)) w = 1) :
    own_Goes p e below s n0 room_1.cells room_1.slots own_one (T0.setTop (mkF m 100 #[.val (.int x0), .val (.int x1), .unset, .unset, .unset, .unset] [(.ref o)])) := by
  obtain ⟨T1, h1, L1, X1, e1, Z1, N1, V1, st1⟩ := own_put X0 hx hZ e0 V g0 N0 Z0 (pc := 106) (Ls := #[.val (.int x0), .val (.int x1), .unset, .unset, .unset, .unset]) (rest := [(.ref o)]) (17 : Int32) (192 : Int32) 17 (by decide) (by decide) (by decide) (hb hby at_106)
  refine own_Goes.pre (fun t kt => ?_) (fl107 x0 x1 o X1 hx hZ hw hby hml hown hret hlk e1 Z1 N1 g0 V1 hone)
  show Steps p.tables e below (T0.setTop (mkF m 100 #[.val (.int x0), .val (.int x1), .unset, .unset, .unset, .unset] [(.ref o)])) _
  refine XS.dup X0.here hx rfl (hb hby at_100) rfl rfl ?_
  show Steps p.tables e below (T0.setTop (mkF m 101 #[.val (.int x0), .val (.int x1), .unset, .unset, .unset, .unset] [(.ref o), (.ref o)])) _
  refine XS.bipush X0.here hx rfl (hb hby at_101) ?_
  show Steps p.tables e below (T0.setTop (mkF m 103 #[.val (.int x0), .val (.int x1), .unset, .unset, .unset, .unset] [(.int (17 : Int32)), (.ref o), (.ref o)])) _
  refine XS.sipush X0.here hx rfl (hb hby at_103) ?_
  show Steps p.tables e below (T0.setTop (mkF m 106 #[.val (.int x0), .val (.int x1), .unset, .unset, .unset, .unset] [(.int (192 : Int32)), (.int (17 : Int32)), (.ref o), (.ref o)])) _
  exact st1 _ kt
set_option maxRecDepth 65536 in
set_option maxHeartbeats 40000000 in
theorem fl93 {p : Program} {l : Launch} {e : Env} {s : State} {m : MethodId} {args : Array Value} {below : List Frame} {meth : Method} {c : Code} {T0 : State} {locs : List Loc} {Z : State} {a0 : Array Value} {h0 : Heap} {n0 : Nat} {f : Nat → Int32} (x0 : Int32) (x1 : Int32) (o : Addr) (X0 : Stand p l e room_1 s m args below meth c T0 locs 1 62) (hx : p.tables.exec = Jvm.exec) (hZ : Z.Warmed39 s.vm) (hw : ∀ d ∈ tables_1, d.before a0 Z = true) (hby : c.code = code) (hml : c.maxLocals = 6) (hown : s.vm.findClass "com/example/shape_trees/shapetrees/xpath/tree/XmlNamesIsNameStartCharPinLaw" = some m.cls) (hret : meth.sig.returnType = some .boolean) (hlk : meth.locks = false) (e0 : T0.heap = h0) (Z0 : n0 ≤ h0.size) (N0 : Fr n0 locs) (g0 : n0 ≤ o) (V : own_Arr Z h0 o 62 f) (hone : ∀ w : Int32, f0_423 x0 x1 ((x1 &&& (255 : Int32)) % (62 : Int32)) ((((x1.toUInt32 >>> ((8 : Int32) &&& 31).toUInt32).toInt32) % (3 : Int32)) - (1 : Int32)) w = 1) :
    own_Goes p e below s n0 room_1.cells room_1.slots own_one (T0.setTop (mkF m 93 #[.val (.int x0), .val (.int x1), .unset, .unset, .unset, .unset] [(.ref o)])) := by
  obtain ⟨T1, h1, L1, X1, e1, Z1, N1, V1, st1⟩ := own_put X0 hx hZ e0 V g0 N0 Z0 (pc := 99) (Ls := #[.val (.int x0), .val (.int x1), .unset, .unset, .unset, .unset]) (rest := [(.ref o)]) (16 : Int32) (191 : Int32) 16 (by decide) (by decide) (by decide) (hb hby at_99)
  refine own_Goes.pre (fun t kt => ?_) (fl100 x0 x1 o X1 hx hZ hw hby hml hown hret hlk e1 Z1 N1 g0 V1 hone)
  show Steps p.tables e below (T0.setTop (mkF m 93 #[.val (.int x0), .val (.int x1), .unset, .unset, .unset, .unset] [(.ref o)])) _
  refine XS.dup X0.here hx rfl (hb hby at_93) rfl rfl ?_
  show Steps p.tables e below (T0.setTop (mkF m 94 #[.val (.int x0), .val (.int x1), .unset, .unset, .unset, .unset] [(.ref o), (.ref o)])) _
  refine XS.bipush X0.here hx rfl (hb hby at_94) ?_
  show Steps p.tables e below (T0.setTop (mkF m 96 #[.val (.int x0), .val (.int x1), .unset, .unset, .unset, .unset] [(.int (16 : Int32)), (.ref o), (.ref o)])) _
  refine XS.sipush X0.here hx rfl (hb hby at_96) ?_
  show Steps p.tables e below (T0.setTop (mkF m 99 #[.val (.int x0), .val (.int x1), .unset, .unset, .unset, .unset] [(.int (191 : Int32)), (.int (16 : Int32)), (.ref o), (.ref o)])) _
  exact st1 _ kt
set_option maxRecDepth 65536 in
set_option maxHeartbeats 40000000 in
theorem fl86 {p : Program} {l : Launch} {e : Env} {s : State} {m : MethodId} {args : Array Value} {below : List Frame} {meth : Method} {c : Code} {T0 : State} {locs : List Loc} {Z : State} {a0 : Array Value} {h0 : Heap} {n0 : Nat} {f : Nat → Int32} (x0 : Int32) (x1 : Int32) (o : Addr) (X0 : Stand p l e room_1 s m args below meth c T0 locs 1 62) (hx : p.tables.exec = Jvm.exec) (hZ : Z.Warmed39 s.vm) (hw : ∀ d ∈ tables_1, d.before a0 Z = true) (hby : c.code = code) (hml : c.maxLocals = 6) (hown : s.vm.findClass "com/example/shape_trees/shapetrees/xpath/tree/XmlNamesIsNameStartCharPinLaw" = some m.cls) (hret : meth.sig.returnType = some .boolean) (hlk : meth.locks = false) (e0 : T0.heap = h0) (Z0 : n0 ≤ h0.size) (N0 : Fr n0 locs) (g0 : n0 ≤ o) (V : own_Arr Z h0 o 62 f) (hone : ∀ w : Int32, f0_423 x0 x1 ((x1 &&& (255 : Int32)) % (62 : Int32)) ((((x1.toUInt32 >>> ((8 : Int32) &&& 31).toUInt32).toInt32) % (3 : Int32)) - (1 : Int32)) w = 1) :
    own_Goes p e below s n0 room_1.cells room_1.slots own_one (T0.setTop (mkF m 86 #[.val (.int x0), .val (.int x1), .unset, .unset, .unset, .unset] [(.ref o)])) := by
  obtain ⟨T1, h1, L1, X1, e1, Z1, N1, V1, st1⟩ := own_put X0 hx hZ e0 V g0 N0 Z0 (pc := 92) (Ls := #[.val (.int x0), .val (.int x1), .unset, .unset, .unset, .unset]) (rest := [(.ref o)]) (15 : Int32) (128 : Int32) 15 (by decide) (by decide) (by decide) (hb hby at_92)
  refine own_Goes.pre (fun t kt => ?_) (fl93 x0 x1 o X1 hx hZ hw hby hml hown hret hlk e1 Z1 N1 g0 V1 hone)
  show Steps p.tables e below (T0.setTop (mkF m 86 #[.val (.int x0), .val (.int x1), .unset, .unset, .unset, .unset] [(.ref o)])) _
  refine XS.dup X0.here hx rfl (hb hby at_86) rfl rfl ?_
  show Steps p.tables e below (T0.setTop (mkF m 87 #[.val (.int x0), .val (.int x1), .unset, .unset, .unset, .unset] [(.ref o), (.ref o)])) _
  refine XS.bipush X0.here hx rfl (hb hby at_87) ?_
  show Steps p.tables e below (T0.setTop (mkF m 89 #[.val (.int x0), .val (.int x1), .unset, .unset, .unset, .unset] [(.int (15 : Int32)), (.ref o), (.ref o)])) _
  refine XS.sipush X0.here hx rfl (hb hby at_89) ?_
  show Steps p.tables e below (T0.setTop (mkF m 92 #[.val (.int x0), .val (.int x1), .unset, .unset, .unset, .unset] [(.int (128 : Int32)), (.int (15 : Int32)), (.ref o), (.ref o)])) _
  exact st1 _ kt
set_option maxRecDepth 65536 in
set_option maxHeartbeats 40000000 in
theorem fl80 {p : Program} {l : Launch} {e : Env} {s : State} {m : MethodId} {args : Array Value} {below : List Frame} {meth : Method} {c : Code} {T0 : State} {locs : List Loc} {Z : State} {a0 : Array Value} {h0 : Heap} {n0 : Nat} {f : Nat → Int32} (x0 : Int32) (x1 : Int32) (o : Addr) (X0 : Stand p l e room_1 s m args below meth c T0 locs 1 62) (hx : p.tables.exec = Jvm.exec) (hZ : Z.Warmed39 s.vm) (hw : ∀ d ∈ tables_1, d.before a0 Z = true) (hby : c.code = code) (hml : c.maxLocals = 6) (hown : s.vm.findClass "com/example/shape_trees/shapetrees/xpath/tree/XmlNamesIsNameStartCharPinLaw" = some m.cls) (hret : meth.sig.returnType = some .boolean) (hlk : meth.locks = false) (e0 : T0.heap = h0) (Z0 : n0 ≤ h0.size) (N0 : Fr n0 locs) (g0 : n0 ≤ o) (V : own_Arr Z h0 o 62 f) (hone : ∀ w : Int32, f0_423 x0 x1 ((x1 &&& (255 : Int32)) % (62 : Int32)) ((((x1.toUInt32 >>> ((8 : Int32) &&& 31).toUInt32).toInt32) % (3 : Int32)) - (1 : Int32)) w = 1) :
    own_Goes p e below s n0 room_1.cells room_1.slots own_one (T0.setTop (mkF m 80 #[.val (.int x0), .val (.int x1), .unset, .unset, .unset, .unset] [(.ref o)])) := by
  obtain ⟨T1, h1, L1, X1, e1, Z1, N1, V1, st1⟩ := own_put X0 hx hZ e0 V g0 N0 Z0 (pc := 85) (Ls := #[.val (.int x0), .val (.int x1), .unset, .unset, .unset, .unset]) (rest := [(.ref o)]) (14 : Int32) (127 : Int32) 14 (by decide) (by decide) (by decide) (hb hby at_85)
  refine own_Goes.pre (fun t kt => ?_) (fl86 x0 x1 o X1 hx hZ hw hby hml hown hret hlk e1 Z1 N1 g0 V1 hone)
  show Steps p.tables e below (T0.setTop (mkF m 80 #[.val (.int x0), .val (.int x1), .unset, .unset, .unset, .unset] [(.ref o)])) _
  refine XS.dup X0.here hx rfl (hb hby at_80) rfl rfl ?_
  show Steps p.tables e below (T0.setTop (mkF m 81 #[.val (.int x0), .val (.int x1), .unset, .unset, .unset, .unset] [(.ref o), (.ref o)])) _
  refine XS.bipush X0.here hx rfl (hb hby at_81) ?_
  show Steps p.tables e below (T0.setTop (mkF m 83 #[.val (.int x0), .val (.int x1), .unset, .unset, .unset, .unset] [(.int (14 : Int32)), (.ref o), (.ref o)])) _
  refine XS.bipush X0.here hx rfl (hb hby at_83) ?_
  show Steps p.tables e below (T0.setTop (mkF m 85 #[.val (.int x0), .val (.int x1), .unset, .unset, .unset, .unset] [(.int (127 : Int32)), (.int (14 : Int32)), (.ref o), (.ref o)])) _
  exact st1 _ kt
set_option maxRecDepth 65536 in
set_option maxHeartbeats 40000000 in
theorem fl74 {p : Program} {l : Launch} {e : Env} {s : State} {m : MethodId} {args : Array Value} {below : List Frame} {meth : Method} {c : Code} {T0 : State} {locs : List Loc} {Z : State} {a0 : Array Value} {h0 : Heap} {n0 : Nat} {f : Nat → Int32} (x0 : Int32) (x1 : Int32) (o : Addr) (X0 : Stand p l e room_1 s m args below meth c T0 locs 1 62) (hx : p.tables.exec = Jvm.exec) (hZ : Z.Warmed39 s.vm) (hw : ∀ d ∈ tables_1, d.before a0 Z = true) (hby : c.code = code) (hml : c.maxLocals = 6) (hown : s.vm.findClass "com/example/shape_trees/shapetrees/xpath/tree/XmlNamesIsNameStartCharPinLaw" = some m.cls) (hret : meth.sig.returnType = some .boolean) (hlk : meth.locks = false) (e0 : T0.heap = h0) (Z0 : n0 ≤ h0.size) (N0 : Fr n0 locs) (g0 : n0 ≤ o) (V : own_Arr Z h0 o 62 f) (hone : ∀ w : Int32, f0_423 x0 x1 ((x1 &&& (255 : Int32)) % (62 : Int32)) ((((x1.toUInt32 >>> ((8 : Int32) &&& 31).toUInt32).toInt32) % (3 : Int32)) - (1 : Int32)) w = 1) :
    own_Goes p e below s n0 room_1.cells room_1.slots own_one (T0.setTop (mkF m 74 #[.val (.int x0), .val (.int x1), .unset, .unset, .unset, .unset] [(.ref o)])) := by
  obtain ⟨T1, h1, L1, X1, e1, Z1, N1, V1, st1⟩ := own_put X0 hx hZ e0 V g0 N0 Z0 (pc := 79) (Ls := #[.val (.int x0), .val (.int x1), .unset, .unset, .unset, .unset]) (rest := [(.ref o)]) (13 : Int32) (123 : Int32) 13 (by decide) (by decide) (by decide) (hb hby at_79)
  refine own_Goes.pre (fun t kt => ?_) (fl80 x0 x1 o X1 hx hZ hw hby hml hown hret hlk e1 Z1 N1 g0 V1 hone)
  show Steps p.tables e below (T0.setTop (mkF m 74 #[.val (.int x0), .val (.int x1), .unset, .unset, .unset, .unset] [(.ref o)])) _
  refine XS.dup X0.here hx rfl (hb hby at_74) rfl rfl ?_
  show Steps p.tables e below (T0.setTop (mkF m 75 #[.val (.int x0), .val (.int x1), .unset, .unset, .unset, .unset] [(.ref o), (.ref o)])) _
  refine XS.bipush X0.here hx rfl (hb hby at_75) ?_
  show Steps p.tables e below (T0.setTop (mkF m 77 #[.val (.int x0), .val (.int x1), .unset, .unset, .unset, .unset] [(.int (13 : Int32)), (.ref o), (.ref o)])) _
  refine XS.bipush X0.here hx rfl (hb hby at_77) ?_
  show Steps p.tables e below (T0.setTop (mkF m 79 #[.val (.int x0), .val (.int x1), .unset, .unset, .unset, .unset] [(.int (123 : Int32)), (.int (13 : Int32)), (.ref o), (.ref o)])) _
  exact st1 _ kt
set_option maxRecDepth 65536 in
set_option maxHeartbeats 40000000 in
theorem fl68 {p : Program} {l : Launch} {e : Env} {s : State} {m : MethodId} {args : Array Value} {below : List Frame} {meth : Method} {c : Code} {T0 : State} {locs : List Loc} {Z : State} {a0 : Array Value} {h0 : Heap} {n0 : Nat} {f : Nat → Int32} (x0 : Int32) (x1 : Int32) (o : Addr) (X0 : Stand p l e room_1 s m args below meth c T0 locs 1 62) (hx : p.tables.exec = Jvm.exec) (hZ : Z.Warmed39 s.vm) (hw : ∀ d ∈ tables_1, d.before a0 Z = true) (hby : c.code = code) (hml : c.maxLocals = 6) (hown : s.vm.findClass "com/example/shape_trees/shapetrees/xpath/tree/XmlNamesIsNameStartCharPinLaw" = some m.cls) (hret : meth.sig.returnType = some .boolean) (hlk : meth.locks = false) (e0 : T0.heap = h0) (Z0 : n0 ≤ h0.size) (N0 : Fr n0 locs) (g0 : n0 ≤ o) (V : own_Arr Z h0 o 62 f) (hone : ∀ w : Int32, f0_423 x0 x1 ((x1 &&& (255 : Int32)) % (62 : Int32)) ((((x1.toUInt32 >>> ((8 : Int32) &&& 31).toUInt32).toInt32) % (3 : Int32)) - (1 : Int32)) w = 1) :
    own_Goes p e below s n0 room_1.cells room_1.slots own_one (T0.setTop (mkF m 68 #[.val (.int x0), .val (.int x1), .unset, .unset, .unset, .unset] [(.ref o)])) := by
  obtain ⟨T1, h1, L1, X1, e1, Z1, N1, V1, st1⟩ := own_put X0 hx hZ e0 V g0 N0 Z0 (pc := 73) (Ls := #[.val (.int x0), .val (.int x1), .unset, .unset, .unset, .unset]) (rest := [(.ref o)]) (12 : Int32) (122 : Int32) 12 (by decide) (by decide) (by decide) (hb hby at_73)
  refine own_Goes.pre (fun t kt => ?_) (fl74 x0 x1 o X1 hx hZ hw hby hml hown hret hlk e1 Z1 N1 g0 V1 hone)
  show Steps p.tables e below (T0.setTop (mkF m 68 #[.val (.int x0), .val (.int x1), .unset, .unset, .unset, .unset] [(.ref o)])) _
  refine XS.dup X0.here hx rfl (hb hby at_68) rfl rfl ?_
  show Steps p.tables e below (T0.setTop (mkF m 69 #[.val (.int x0), .val (.int x1), .unset, .unset, .unset, .unset] [(.ref o), (.ref o)])) _
  refine XS.bipush X0.here hx rfl (hb hby at_69) ?_
  show Steps p.tables e below (T0.setTop (mkF m 71 #[.val (.int x0), .val (.int x1), .unset, .unset, .unset, .unset] [(.int (12 : Int32)), (.ref o), (.ref o)])) _
  refine XS.bipush X0.here hx rfl (hb hby at_71) ?_
  show Steps p.tables e below (T0.setTop (mkF m 73 #[.val (.int x0), .val (.int x1), .unset, .unset, .unset, .unset] [(.int (122 : Int32)), (.int (12 : Int32)), (.ref o), (.ref o)])) _
  exact st1 _ kt
set_option maxRecDepth 65536 in
set_option maxHeartbeats 40000000 in
theorem fl62 {p : Program} {l : Launch} {e : Env} {s : State} {m : MethodId} {args : Array Value} {below : List Frame} {meth : Method} {c : Code} {T0 : State} {locs : List Loc} {Z : State} {a0 : Array Value} {h0 : Heap} {n0 : Nat} {f : Nat → Int32} (x0 : Int32) (x1 : Int32) (o : Addr) (X0 : Stand p l e room_1 s m args below meth c T0 locs 1 62) (hx : p.tables.exec = Jvm.exec) (hZ : Z.Warmed39 s.vm) (hw : ∀ d ∈ tables_1, d.before a0 Z = true) (hby : c.code = code) (hml : c.maxLocals = 6) (hown : s.vm.findClass "com/example/shape_trees/shapetrees/xpath/tree/XmlNamesIsNameStartCharPinLaw" = some m.cls) (hret : meth.sig.returnType = some .boolean) (hlk : meth.locks = false) (e0 : T0.heap = h0) (Z0 : n0 ≤ h0.size) (N0 : Fr n0 locs) (g0 : n0 ≤ o) (V : own_Arr Z h0 o 62 f) (hone : ∀ w : Int32, f0_423 x0 x1 ((x1 &&& (255 : Int32)) % (62 : Int32)) ((((x1.toUInt32 >>> ((8 : Int32) &&& 31).toUInt32).toInt32) % (3 : Int32)) - (1 : Int32)) w = 1) :
    own_Goes p e below s n0 room_1.cells room_1.slots own_one (T0.setTop (mkF m 62 #[.val (.int x0), .val (.int x1), .unset, .unset, .unset, .unset] [(.ref o)])) := by
  obtain ⟨T1, h1, L1, X1, e1, Z1, N1, V1, st1⟩ := own_put X0 hx hZ e0 V g0 N0 Z0 (pc := 67) (Ls := #[.val (.int x0), .val (.int x1), .unset, .unset, .unset, .unset]) (rest := [(.ref o)]) (11 : Int32) (97 : Int32) 11 (by decide) (by decide) (by decide) (hb hby at_67)
  refine own_Goes.pre (fun t kt => ?_) (fl68 x0 x1 o X1 hx hZ hw hby hml hown hret hlk e1 Z1 N1 g0 V1 hone)
  show Steps p.tables e below (T0.setTop (mkF m 62 #[.val (.int x0), .val (.int x1), .unset, .unset, .unset, .unset] [(.ref o)])) _
  refine XS.dup X0.here hx rfl (hb hby at_62) rfl rfl ?_
  show Steps p.tables e below (T0.setTop (mkF m 63 #[.val (.int x0), .val (.int x1), .unset, .unset, .unset, .unset] [(.ref o), (.ref o)])) _
  refine XS.bipush X0.here hx rfl (hb hby at_63) ?_
  show Steps p.tables e below (T0.setTop (mkF m 65 #[.val (.int x0), .val (.int x1), .unset, .unset, .unset, .unset] [(.int (11 : Int32)), (.ref o), (.ref o)])) _
  refine XS.bipush X0.here hx rfl (hb hby at_65) ?_
  show Steps p.tables e below (T0.setTop (mkF m 67 #[.val (.int x0), .val (.int x1), .unset, .unset, .unset, .unset] [(.int (97 : Int32)), (.int (11 : Int32)), (.ref o), (.ref o)])) _
  exact st1 _ kt
set_option maxRecDepth 65536 in
set_option maxHeartbeats 40000000 in
theorem fl56 {p : Program} {l : Launch} {e : Env} {s : State} {m : MethodId} {args : Array Value} {below : List Frame} {meth : Method} {c : Code} {T0 : State} {locs : List Loc} {Z : State} {a0 : Array Value} {h0 : Heap} {n0 : Nat} {f : Nat → Int32} (x0 : Int32) (x1 : Int32) (o : Addr) (X0 : Stand p l e room_1 s m args below meth c T0 locs 1 62) (hx : p.tables.exec = Jvm.exec) (hZ : Z.Warmed39 s.vm) (hw : ∀ d ∈ tables_1, d.before a0 Z = true) (hby : c.code = code) (hml : c.maxLocals = 6) (hown : s.vm.findClass "com/example/shape_trees/shapetrees/xpath/tree/XmlNamesIsNameStartCharPinLaw" = some m.cls) (hret : meth.sig.returnType = some .boolean) (hlk : meth.locks = false) (e0 : T0.heap = h0) (Z0 : n0 ≤ h0.size) (N0 : Fr n0 locs) (g0 : n0 ≤ o) (V : own_Arr Z h0 o 62 f) (hone : ∀ w : Int32, f0_423 x0 x1 ((x1 &&& (255 : Int32)) % (62 : Int32)) ((((x1.toUInt32 >>> ((8 : Int32) &&& 31).toUInt32).toInt32) % (3 : Int32)) - (1 : Int32)) w = 1) :
    own_Goes p e below s n0 room_1.cells room_1.slots own_one (T0.setTop (mkF m 56 #[.val (.int x0), .val (.int x1), .unset, .unset, .unset, .unset] [(.ref o)])) := by
  obtain ⟨T1, h1, L1, X1, e1, Z1, N1, V1, st1⟩ := own_put X0 hx hZ e0 V g0 N0 Z0 (pc := 61) (Ls := #[.val (.int x0), .val (.int x1), .unset, .unset, .unset, .unset]) (rest := [(.ref o)]) (10 : Int32) (96 : Int32) 10 (by decide) (by decide) (by decide) (hb hby at_61)
  refine own_Goes.pre (fun t kt => ?_) (fl62 x0 x1 o X1 hx hZ hw hby hml hown hret hlk e1 Z1 N1 g0 V1 hone)
  show Steps p.tables e below (T0.setTop (mkF m 56 #[.val (.int x0), .val (.int x1), .unset, .unset, .unset, .unset] [(.ref o)])) _
  refine XS.dup X0.here hx rfl (hb hby at_56) rfl rfl ?_
  show Steps p.tables e below (T0.setTop (mkF m 57 #[.val (.int x0), .val (.int x1), .unset, .unset, .unset, .unset] [(.ref o), (.ref o)])) _
  refine XS.bipush X0.here hx rfl (hb hby at_57) ?_
  show Steps p.tables e below (T0.setTop (mkF m 59 #[.val (.int x0), .val (.int x1), .unset, .unset, .unset, .unset] [(.int (10 : Int32)), (.ref o), (.ref o)])) _
  refine XS.bipush X0.here hx rfl (hb hby at_59) ?_
  show Steps p.tables e below (T0.setTop (mkF m 61 #[.val (.int x0), .val (.int x1), .unset, .unset, .unset, .unset] [(.int (96 : Int32)), (.int (10 : Int32)), (.ref o), (.ref o)])) _
  exact st1 _ kt
set_option maxRecDepth 65536 in
set_option maxHeartbeats 40000000 in
theorem fl50 {p : Program} {l : Launch} {e : Env} {s : State} {m : MethodId} {args : Array Value} {below : List Frame} {meth : Method} {c : Code} {T0 : State} {locs : List Loc} {Z : State} {a0 : Array Value} {h0 : Heap} {n0 : Nat} {f : Nat → Int32} (x0 : Int32) (x1 : Int32) (o : Addr) (X0 : Stand p l e room_1 s m args below meth c T0 locs 1 62) (hx : p.tables.exec = Jvm.exec) (hZ : Z.Warmed39 s.vm) (hw : ∀ d ∈ tables_1, d.before a0 Z = true) (hby : c.code = code) (hml : c.maxLocals = 6) (hown : s.vm.findClass "com/example/shape_trees/shapetrees/xpath/tree/XmlNamesIsNameStartCharPinLaw" = some m.cls) (hret : meth.sig.returnType = some .boolean) (hlk : meth.locks = false) (e0 : T0.heap = h0) (Z0 : n0 ≤ h0.size) (N0 : Fr n0 locs) (g0 : n0 ≤ o) (V : own_Arr Z h0 o 62 f) (hone : ∀ w : Int32, f0_423 x0 x1 ((x1 &&& (255 : Int32)) % (62 : Int32)) ((((x1.toUInt32 >>> ((8 : Int32) &&& 31).toUInt32).toInt32) % (3 : Int32)) - (1 : Int32)) w = 1) :
    own_Goes p e below s n0 room_1.cells room_1.slots own_one (T0.setTop (mkF m 50 #[.val (.int x0), .val (.int x1), .unset, .unset, .unset, .unset] [(.ref o)])) := by
  obtain ⟨T1, h1, L1, X1, e1, Z1, N1, V1, st1⟩ := own_put X0 hx hZ e0 V g0 N0 Z0 (pc := 55) (Ls := #[.val (.int x0), .val (.int x1), .unset, .unset, .unset, .unset]) (rest := [(.ref o)]) (9 : Int32) (95 : Int32) 9 (by decide) (by decide) (by decide) (hb hby at_55)
  refine own_Goes.pre (fun t kt => ?_) (fl56 x0 x1 o X1 hx hZ hw hby hml hown hret hlk e1 Z1 N1 g0 V1 hone)
  show Steps p.tables e below (T0.setTop (mkF m 50 #[.val (.int x0), .val (.int x1), .unset, .unset, .unset, .unset] [(.ref o)])) _
  refine XS.dup X0.here hx rfl (hb hby at_50) rfl rfl ?_
  show Steps p.tables e below (T0.setTop (mkF m 51 #[.val (.int x0), .val (.int x1), .unset, .unset, .unset, .unset] [(.ref o), (.ref o)])) _
  refine XS.bipush X0.here hx rfl (hb hby at_51) ?_
  show Steps p.tables e below (T0.setTop (mkF m 53 #[.val (.int x0), .val (.int x1), .unset, .unset, .unset, .unset] [(.int (9 : Int32)), (.ref o), (.ref o)])) _
  refine XS.bipush X0.here hx rfl (hb hby at_53) ?_
  show Steps p.tables e below (T0.setTop (mkF m 55 #[.val (.int x0), .val (.int x1), .unset, .unset, .unset, .unset] [(.int (95 : Int32)), (.int (9 : Int32)), (.ref o), (.ref o)])) _
  exact st1 _ kt
set_option maxRecDepth 65536 in
set_option maxHeartbeats 40000000 in
theorem fl44 {p : Program} {l : Launch} {e : Env} {s : State} {m : MethodId} {args : Array Value} {below : List Frame} {meth : Method} {c : Code} {T0 : State} {locs : List Loc} {Z : State} {a0 : Array Value} {h0 : Heap} {n0 : Nat} {f : Nat → Int32} (x0 : Int32) (x1 : Int32) (o : Addr) (X0 : Stand p l e room_1 s m args below meth c T0 locs 1 62) (hx : p.tables.exec = Jvm.exec) (hZ : Z.Warmed39 s.vm) (hw : ∀ d ∈ tables_1, d.before a0 Z = true) (hby : c.code = code) (hml : c.maxLocals = 6) (hown : s.vm.findClass "com/example/shape_trees/shapetrees/xpath/tree/XmlNamesIsNameStartCharPinLaw" = some m.cls) (hret : meth.sig.returnType = some .boolean) (hlk : meth.locks = false) (e0 : T0.heap = h0) (Z0 : n0 ≤ h0.size) (N0 : Fr n0 locs) (g0 : n0 ≤ o) (V : own_Arr Z h0 o 62 f) (hone : ∀ w : Int32, f0_423 x0 x1 ((x1 &&& (255 : Int32)) % (62 : Int32)) ((((x1.toUInt32 >>> ((8 : Int32) &&& 31).toUInt32).toInt32) % (3 : Int32)) - (1 : Int32)) w = 1) :
    own_Goes p e below s n0 room_1.cells room_1.slots own_one (T0.setTop (mkF m 44 #[.val (.int x0), .val (.int x1), .unset, .unset, .unset, .unset] [(.ref o)])) := by
  obtain ⟨T1, h1, L1, X1, e1, Z1, N1, V1, st1⟩ := own_put X0 hx hZ e0 V g0 N0 Z0 (pc := 49) (Ls := #[.val (.int x0), .val (.int x1), .unset, .unset, .unset, .unset]) (rest := [(.ref o)]) (8 : Int32) (94 : Int32) 8 (by decide) (by decide) (by decide) (hb hby at_49)
  refine own_Goes.pre (fun t kt => ?_) (fl50 x0 x1 o X1 hx hZ hw hby hml hown hret hlk e1 Z1 N1 g0 V1 hone)
  show Steps p.tables e below (T0.setTop (mkF m 44 #[.val (.int x0), .val (.int x1), .unset, .unset, .unset, .unset] [(.ref o)])) _
  refine XS.dup X0.here hx rfl (hb hby at_44) rfl rfl ?_
  show Steps p.tables e below (T0.setTop (mkF m 45 #[.val (.int x0), .val (.int x1), .unset, .unset, .unset, .unset] [(.ref o), (.ref o)])) _
  refine XS.bipush X0.here hx rfl (hb hby at_45) ?_
  show Steps p.tables e below (T0.setTop (mkF m 47 #[.val (.int x0), .val (.int x1), .unset, .unset, .unset, .unset] [(.int (8 : Int32)), (.ref o), (.ref o)])) _
  refine XS.bipush X0.here hx rfl (hb hby at_47) ?_
  show Steps p.tables e below (T0.setTop (mkF m 49 #[.val (.int x0), .val (.int x1), .unset, .unset, .unset, .unset] [(.int (94 : Int32)), (.int (8 : Int32)), (.ref o), (.ref o)])) _
  exact st1 _ kt
set_option maxRecDepth 65536 in
set_option maxHeartbeats 40000000 in
theorem fl38 {p : Program} {l : Launch} {e : Env} {s : State} {m : MethodId} {args : Array Value} {below : List Frame} {meth : Method} {c : Code} {T0 : State} {locs : List Loc} {Z : State} {a0 : Array Value} {h0 : Heap} {n0 : Nat} {f : Nat → Int32} (x0 : Int32) (x1 : Int32) (o : Addr) (X0 : Stand p l e room_1 s m args below meth c T0 locs 1 62) (hx : p.tables.exec = Jvm.exec) (hZ : Z.Warmed39 s.vm) (hw : ∀ d ∈ tables_1, d.before a0 Z = true) (hby : c.code = code) (hml : c.maxLocals = 6) (hown : s.vm.findClass "com/example/shape_trees/shapetrees/xpath/tree/XmlNamesIsNameStartCharPinLaw" = some m.cls) (hret : meth.sig.returnType = some .boolean) (hlk : meth.locks = false) (e0 : T0.heap = h0) (Z0 : n0 ≤ h0.size) (N0 : Fr n0 locs) (g0 : n0 ≤ o) (V : own_Arr Z h0 o 62 f) (hone : ∀ w : Int32, f0_423 x0 x1 ((x1 &&& (255 : Int32)) % (62 : Int32)) ((((x1.toUInt32 >>> ((8 : Int32) &&& 31).toUInt32).toInt32) % (3 : Int32)) - (1 : Int32)) w = 1) :
    own_Goes p e below s n0 room_1.cells room_1.slots own_one (T0.setTop (mkF m 38 #[.val (.int x0), .val (.int x1), .unset, .unset, .unset, .unset] [(.ref o)])) := by
  obtain ⟨T1, h1, L1, X1, e1, Z1, N1, V1, st1⟩ := own_put X0 hx hZ e0 V g0 N0 Z0 (pc := 43) (Ls := #[.val (.int x0), .val (.int x1), .unset, .unset, .unset, .unset]) (rest := [(.ref o)]) (7 : Int32) (91 : Int32) 7 (by decide) (by decide) (by decide) (hb hby at_43)
  refine own_Goes.pre (fun t kt => ?_) (fl44 x0 x1 o X1 hx hZ hw hby hml hown hret hlk e1 Z1 N1 g0 V1 hone)
  show Steps p.tables e below (T0.setTop (mkF m 38 #[.val (.int x0), .val (.int x1), .unset, .unset, .unset, .unset] [(.ref o)])) _
  refine XS.dup X0.here hx rfl (hb hby at_38) rfl rfl ?_
  show Steps p.tables e below (T0.setTop (mkF m 39 #[.val (.int x0), .val (.int x1), .unset, .unset, .unset, .unset] [(.ref o), (.ref o)])) _
  refine XS.bipush X0.here hx rfl (hb hby at_39) ?_
  show Steps p.tables e below (T0.setTop (mkF m 41 #[.val (.int x0), .val (.int x1), .unset, .unset, .unset, .unset] [(.int (7 : Int32)), (.ref o), (.ref o)])) _
  refine XS.bipush X0.here hx rfl (hb hby at_41) ?_
  show Steps p.tables e below (T0.setTop (mkF m 43 #[.val (.int x0), .val (.int x1), .unset, .unset, .unset, .unset] [(.int (91 : Int32)), (.int (7 : Int32)), (.ref o), (.ref o)])) _
  exact st1 _ kt
set_option maxRecDepth 65536 in
set_option maxHeartbeats 40000000 in
theorem fl32 {p : Program} {l : Launch} {e : Env} {s : State} {m : MethodId} {args : Array Value} {below : List Frame} {meth : Method} {c : Code} {T0 : State} {locs : List Loc} {Z : State} {a0 : Array Value} {h0 : Heap} {n0 : Nat} {f : Nat → Int32} (x0 : Int32) (x1 : Int32) (o : Addr) (X0 : Stand p l e room_1 s m args below meth c T0 locs 1 62) (hx : p.tables.exec = Jvm.exec) (hZ : Z.Warmed39 s.vm) (hw : ∀ d ∈ tables_1, d.before a0 Z = true) (hby : c.code = code) (hml : c.maxLocals = 6) (hown : s.vm.findClass "com/example/shape_trees/shapetrees/xpath/tree/XmlNamesIsNameStartCharPinLaw" = some m.cls) (hret : meth.sig.returnType = some .boolean) (hlk : meth.locks = false) (e0 : T0.heap = h0) (Z0 : n0 ≤ h0.size) (N0 : Fr n0 locs) (g0 : n0 ≤ o) (V : own_Arr Z h0 o 62 f) (hone : ∀ w : Int32, f0_423 x0 x1 ((x1 &&& (255 : Int32)) % (62 : Int32)) ((((x1.toUInt32 >>> ((8 : Int32) &&& 31).toUInt32).toInt32) % (3 : Int32)) - (1 : Int32)) w = 1) :
    own_Goes p e below s n0 room_1.cells room_1.slots own_one (T0.setTop (mkF m 32 #[.val (.int x0), .val (.int x1), .unset, .unset, .unset, .unset] [(.ref o)])) := by
  obtain ⟨T1, h1, L1, X1, e1, Z1, N1, V1, st1⟩ := own_put X0 hx hZ e0 V g0 N0 Z0 (pc := 37) (Ls := #[.val (.int x0), .val (.int x1), .unset, .unset, .unset, .unset]) (rest := [(.ref o)]) (6 : Int32) (90 : Int32) 6 (by decide) (by decide) (by decide) (hb hby at_37)
  refine own_Goes.pre (fun t kt => ?_) (fl38 x0 x1 o X1 hx hZ hw hby hml hown hret hlk e1 Z1 N1 g0 V1 hone)
  show Steps p.tables e below (T0.setTop (mkF m 32 #[.val (.int x0), .val (.int x1), .unset, .unset, .unset, .unset] [(.ref o)])) _
  refine XS.dup X0.here hx rfl (hb hby at_32) rfl rfl ?_
  show Steps p.tables e below (T0.setTop (mkF m 33 #[.val (.int x0), .val (.int x1), .unset, .unset, .unset, .unset] [(.ref o), (.ref o)])) _
  refine XS.bipush X0.here hx rfl (hb hby at_33) ?_
  show Steps p.tables e below (T0.setTop (mkF m 35 #[.val (.int x0), .val (.int x1), .unset, .unset, .unset, .unset] [(.int (6 : Int32)), (.ref o), (.ref o)])) _
  refine XS.bipush X0.here hx rfl (hb hby at_35) ?_
  show Steps p.tables e below (T0.setTop (mkF m 37 #[.val (.int x0), .val (.int x1), .unset, .unset, .unset, .unset] [(.int (90 : Int32)), (.int (6 : Int32)), (.ref o), (.ref o)])) _
  exact st1 _ kt
set_option maxRecDepth 65536 in
set_option maxHeartbeats 40000000 in
theorem fl27 {p : Program} {l : Launch} {e : Env} {s : State} {m : MethodId} {args : Array Value} {below : List Frame} {meth : Method} {c : Code} {T0 : State} {locs : List Loc} {Z : State} {a0 : Array Value} {h0 : Heap} {n0 : Nat} {f : Nat → Int32} (x0 : Int32) (x1 : Int32) (o : Addr) (X0 : Stand p l e room_1 s m args below meth c T0 locs 1 62) (hx : p.tables.exec = Jvm.exec) (hZ : Z.Warmed39 s.vm) (hw : ∀ d ∈ tables_1, d.before a0 Z = true) (hby : c.code = code) (hml : c.maxLocals = 6) (hown : s.vm.findClass "com/example/shape_trees/shapetrees/xpath/tree/XmlNamesIsNameStartCharPinLaw" = some m.cls) (hret : meth.sig.returnType = some .boolean) (hlk : meth.locks = false) (e0 : T0.heap = h0) (Z0 : n0 ≤ h0.size) (N0 : Fr n0 locs) (g0 : n0 ≤ o) (V : own_Arr Z h0 o 62 f) (hone : ∀ w : Int32, f0_423 x0 x1 ((x1 &&& (255 : Int32)) % (62 : Int32)) ((((x1.toUInt32 >>> ((8 : Int32) &&& 31).toUInt32).toInt32) % (3 : Int32)) - (1 : Int32)) w = 1) :
    own_Goes p e below s n0 room_1.cells room_1.slots own_one (T0.setTop (mkF m 27 #[.val (.int x0), .val (.int x1), .unset, .unset, .unset, .unset] [(.ref o)])) := by
  obtain ⟨T1, h1, L1, X1, e1, Z1, N1, V1, st1⟩ := own_put X0 hx hZ e0 V g0 N0 Z0 (pc := 31) (Ls := #[.val (.int x0), .val (.int x1), .unset, .unset, .unset, .unset]) (rest := [(.ref o)]) (5 : Int32) (65 : Int32) 5 (by decide) (by decide) (by decide) (hb hby at_31)
  refine own_Goes.pre (fun t kt => ?_) (fl32 x0 x1 o X1 hx hZ hw hby hml hown hret hlk e1 Z1 N1 g0 V1 hone)
  show Steps p.tables e below (T0.setTop (mkF m 27 #[.val (.int x0), .val (.int x1), .unset, .unset, .unset, .unset] [(.ref o)])) _
  refine XS.dup X0.here hx rfl (hb hby at_27) rfl rfl ?_
  show Steps p.tables e below (T0.setTop (mkF m 28 #[.val (.int x0), .val (.int x1), .unset, .unset, .unset, .unset] [(.ref o), (.ref o)])) _
  refine XS.iconst X0.here hx rfl (hb hby at_28) ?_
  show Steps p.tables e below (T0.setTop (mkF m 29 #[.val (.int x0), .val (.int x1), .unset, .unset, .unset, .unset] [(.int (5 : Int32)), (.ref o), (.ref o)])) _
  refine XS.bipush X0.here hx rfl (hb hby at_29) ?_
  show Steps p.tables e below (T0.setTop (mkF m 31 #[.val (.int x0), .val (.int x1), .unset, .unset, .unset, .unset] [(.int (65 : Int32)), (.int (5 : Int32)), (.ref o), (.ref o)])) _
  exact st1 _ kt
set_option maxRecDepth 65536 in
set_option maxHeartbeats 40000000 in
theorem fl22 {p : Program} {l : Launch} {e : Env} {s : State} {m : MethodId} {args : Array Value} {below : List Frame} {meth : Method} {c : Code} {T0 : State} {locs : List Loc} {Z : State} {a0 : Array Value} {h0 : Heap} {n0 : Nat} {f : Nat → Int32} (x0 : Int32) (x1 : Int32) (o : Addr) (X0 : Stand p l e room_1 s m args below meth c T0 locs 1 62) (hx : p.tables.exec = Jvm.exec) (hZ : Z.Warmed39 s.vm) (hw : ∀ d ∈ tables_1, d.before a0 Z = true) (hby : c.code = code) (hml : c.maxLocals = 6) (hown : s.vm.findClass "com/example/shape_trees/shapetrees/xpath/tree/XmlNamesIsNameStartCharPinLaw" = some m.cls) (hret : meth.sig.returnType = some .boolean) (hlk : meth.locks = false) (e0 : T0.heap = h0) (Z0 : n0 ≤ h0.size) (N0 : Fr n0 locs) (g0 : n0 ≤ o) (V : own_Arr Z h0 o 62 f) (hone : ∀ w : Int32, f0_423 x0 x1 ((x1 &&& (255 : Int32)) % (62 : Int32)) ((((x1.toUInt32 >>> ((8 : Int32) &&& 31).toUInt32).toInt32) % (3 : Int32)) - (1 : Int32)) w = 1) :
    own_Goes p e below s n0 room_1.cells room_1.slots own_one (T0.setTop (mkF m 22 #[.val (.int x0), .val (.int x1), .unset, .unset, .unset, .unset] [(.ref o)])) := by
  obtain ⟨T1, h1, L1, X1, e1, Z1, N1, V1, st1⟩ := own_put X0 hx hZ e0 V g0 N0 Z0 (pc := 26) (Ls := #[.val (.int x0), .val (.int x1), .unset, .unset, .unset, .unset]) (rest := [(.ref o)]) (4 : Int32) (64 : Int32) 4 (by decide) (by decide) (by decide) (hb hby at_26)
  refine own_Goes.pre (fun t kt => ?_) (fl27 x0 x1 o X1 hx hZ hw hby hml hown hret hlk e1 Z1 N1 g0 V1 hone)
  show Steps p.tables e below (T0.setTop (mkF m 22 #[.val (.int x0), .val (.int x1), .unset, .unset, .unset, .unset] [(.ref o)])) _
  refine XS.dup X0.here hx rfl (hb hby at_22) rfl rfl ?_
  show Steps p.tables e below (T0.setTop (mkF m 23 #[.val (.int x0), .val (.int x1), .unset, .unset, .unset, .unset] [(.ref o), (.ref o)])) _
  refine XS.iconst X0.here hx rfl (hb hby at_23) ?_
  show Steps p.tables e below (T0.setTop (mkF m 24 #[.val (.int x0), .val (.int x1), .unset, .unset, .unset, .unset] [(.int (4 : Int32)), (.ref o), (.ref o)])) _
  refine XS.bipush X0.here hx rfl (hb hby at_24) ?_
  show Steps p.tables e below (T0.setTop (mkF m 26 #[.val (.int x0), .val (.int x1), .unset, .unset, .unset, .unset] [(.int (64 : Int32)), (.int (4 : Int32)), (.ref o), (.ref o)])) _
  exact st1 _ kt
set_option maxRecDepth 65536 in
set_option maxHeartbeats 40000000 in
theorem fl17 {p : Program} {l : Launch} {e : Env} {s : State} {m : MethodId} {args : Array Value} {below : List Frame} {meth : Method} {c : Code} {T0 : State} {locs : List Loc} {Z : State} {a0 : Array Value} {h0 : Heap} {n0 : Nat} {f : Nat → Int32} (x0 : Int32) (x1 : Int32) (o : Addr) (X0 : Stand p l e room_1 s m args below meth c T0 locs 1 62) (hx : p.tables.exec = Jvm.exec) (hZ : Z.Warmed39 s.vm) (hw : ∀ d ∈ tables_1, d.before a0 Z = true) (hby : c.code = code) (hml : c.maxLocals = 6) (hown : s.vm.findClass "com/example/shape_trees/shapetrees/xpath/tree/XmlNamesIsNameStartCharPinLaw" = some m.cls) (hret : meth.sig.returnType = some .boolean) (hlk : meth.locks = false) (e0 : T0.heap = h0) (Z0 : n0 ≤ h0.size) (N0 : Fr n0 locs) (g0 : n0 ≤ o) (V : own_Arr Z h0 o 62 f) (hone : ∀ w : Int32, f0_423 x0 x1 ((x1 &&& (255 : Int32)) % (62 : Int32)) ((((x1.toUInt32 >>> ((8 : Int32) &&& 31).toUInt32).toInt32) % (3 : Int32)) - (1 : Int32)) w = 1) :
    own_Goes p e below s n0 room_1.cells room_1.slots own_one (T0.setTop (mkF m 17 #[.val (.int x0), .val (.int x1), .unset, .unset, .unset, .unset] [(.ref o)])) := by
  obtain ⟨T1, h1, L1, X1, e1, Z1, N1, V1, st1⟩ := own_put X0 hx hZ e0 V g0 N0 Z0 (pc := 21) (Ls := #[.val (.int x0), .val (.int x1), .unset, .unset, .unset, .unset]) (rest := [(.ref o)]) (3 : Int32) (58 : Int32) 3 (by decide) (by decide) (by decide) (hb hby at_21)
  refine own_Goes.pre (fun t kt => ?_) (fl22 x0 x1 o X1 hx hZ hw hby hml hown hret hlk e1 Z1 N1 g0 V1 hone)
  show Steps p.tables e below (T0.setTop (mkF m 17 #[.val (.int x0), .val (.int x1), .unset, .unset, .unset, .unset] [(.ref o)])) _
  refine XS.dup X0.here hx rfl (hb hby at_17) rfl rfl ?_
  show Steps p.tables e below (T0.setTop (mkF m 18 #[.val (.int x0), .val (.int x1), .unset, .unset, .unset, .unset] [(.ref o), (.ref o)])) _
  refine XS.iconst X0.here hx rfl (hb hby at_18) ?_
  show Steps p.tables e below (T0.setTop (mkF m 19 #[.val (.int x0), .val (.int x1), .unset, .unset, .unset, .unset] [(.int (3 : Int32)), (.ref o), (.ref o)])) _
  refine XS.bipush X0.here hx rfl (hb hby at_19) ?_
  show Steps p.tables e below (T0.setTop (mkF m 21 #[.val (.int x0), .val (.int x1), .unset, .unset, .unset, .unset] [(.int (58 : Int32)), (.int (3 : Int32)), (.ref o), (.ref o)])) _
  exact st1 _ kt
set_option maxRecDepth 65536 in
set_option maxHeartbeats 40000000 in
theorem fl13 {p : Program} {l : Launch} {e : Env} {s : State} {m : MethodId} {args : Array Value} {below : List Frame} {meth : Method} {c : Code} {T0 : State} {locs : List Loc} {Z : State} {a0 : Array Value} {h0 : Heap} {n0 : Nat} {f : Nat → Int32} (x0 : Int32) (x1 : Int32) (o : Addr) (X0 : Stand p l e room_1 s m args below meth c T0 locs 1 62) (hx : p.tables.exec = Jvm.exec) (hZ : Z.Warmed39 s.vm) (hw : ∀ d ∈ tables_1, d.before a0 Z = true) (hby : c.code = code) (hml : c.maxLocals = 6) (hown : s.vm.findClass "com/example/shape_trees/shapetrees/xpath/tree/XmlNamesIsNameStartCharPinLaw" = some m.cls) (hret : meth.sig.returnType = some .boolean) (hlk : meth.locks = false) (e0 : T0.heap = h0) (Z0 : n0 ≤ h0.size) (N0 : Fr n0 locs) (g0 : n0 ≤ o) (V : own_Arr Z h0 o 62 f) (hone : ∀ w : Int32, f0_423 x0 x1 ((x1 &&& (255 : Int32)) % (62 : Int32)) ((((x1.toUInt32 >>> ((8 : Int32) &&& 31).toUInt32).toInt32) % (3 : Int32)) - (1 : Int32)) w = 1) :
    own_Goes p e below s n0 room_1.cells room_1.slots own_one (T0.setTop (mkF m 13 #[.val (.int x0), .val (.int x1), .unset, .unset, .unset, .unset] [(.ref o)])) := by
  obtain ⟨T1, h1, L1, X1, e1, Z1, N1, V1, st1⟩ := own_put X0 hx hZ e0 V g0 N0 Z0 (pc := 16) (Ls := #[.val (.int x0), .val (.int x1), .unset, .unset, .unset, .unset]) (rest := [(.ref o)]) (2 : Int32) (0 : Int32) 2 (by decide) (by decide) (by decide) (hb hby at_16)
  refine own_Goes.pre (fun t kt => ?_) (fl17 x0 x1 o X1 hx hZ hw hby hml hown hret hlk e1 Z1 N1 g0 V1 hone)
  show Steps p.tables e below (T0.setTop (mkF m 13 #[.val (.int x0), .val (.int x1), .unset, .unset, .unset, .unset] [(.ref o)])) _
  refine XS.dup X0.here hx rfl (hb hby at_13) rfl rfl ?_
  show Steps p.tables e below (T0.setTop (mkF m 14 #[.val (.int x0), .val (.int x1), .unset, .unset, .unset, .unset] [(.ref o), (.ref o)])) _
  refine XS.iconst X0.here hx rfl (hb hby at_14) ?_
  show Steps p.tables e below (T0.setTop (mkF m 15 #[.val (.int x0), .val (.int x1), .unset, .unset, .unset, .unset] [(.int (2 : Int32)), (.ref o), (.ref o)])) _
  refine XS.iconst X0.here hx rfl (hb hby at_15) ?_
  show Steps p.tables e below (T0.setTop (mkF m 16 #[.val (.int x0), .val (.int x1), .unset, .unset, .unset, .unset] [(.int (0 : Int32)), (.int (2 : Int32)), (.ref o), (.ref o)])) _
  exact st1 _ kt
set_option maxRecDepth 65536 in
set_option maxHeartbeats 40000000 in
theorem fl9 {p : Program} {l : Launch} {e : Env} {s : State} {m : MethodId} {args : Array Value} {below : List Frame} {meth : Method} {c : Code} {T0 : State} {locs : List Loc} {Z : State} {a0 : Array Value} {h0 : Heap} {n0 : Nat} {f : Nat → Int32} (x0 : Int32) (x1 : Int32) (o : Addr) (X0 : Stand p l e room_1 s m args below meth c T0 locs 1 62) (hx : p.tables.exec = Jvm.exec) (hZ : Z.Warmed39 s.vm) (hw : ∀ d ∈ tables_1, d.before a0 Z = true) (hby : c.code = code) (hml : c.maxLocals = 6) (hown : s.vm.findClass "com/example/shape_trees/shapetrees/xpath/tree/XmlNamesIsNameStartCharPinLaw" = some m.cls) (hret : meth.sig.returnType = some .boolean) (hlk : meth.locks = false) (e0 : T0.heap = h0) (Z0 : n0 ≤ h0.size) (N0 : Fr n0 locs) (g0 : n0 ≤ o) (V : own_Arr Z h0 o 62 f) (hone : ∀ w : Int32, f0_423 x0 x1 ((x1 &&& (255 : Int32)) % (62 : Int32)) ((((x1.toUInt32 >>> ((8 : Int32) &&& 31).toUInt32).toInt32) % (3 : Int32)) - (1 : Int32)) w = 1) :
    own_Goes p e below s n0 room_1.cells room_1.slots own_one (T0.setTop (mkF m 9 #[.val (.int x0), .val (.int x1), .unset, .unset, .unset, .unset] [(.ref o)])) := by
  obtain ⟨T1, h1, L1, X1, e1, Z1, N1, V1, st1⟩ := own_put X0 hx hZ e0 V g0 N0 Z0 (pc := 12) (Ls := #[.val (.int x0), .val (.int x1), .unset, .unset, .unset, .unset]) (rest := [(.ref o)]) (1 : Int32) (-1 : Int32) 1 (by decide) (by decide) (by decide) (hb hby at_12)
  refine own_Goes.pre (fun t kt => ?_) (fl13 x0 x1 o X1 hx hZ hw hby hml hown hret hlk e1 Z1 N1 g0 V1 hone)
  show Steps p.tables e below (T0.setTop (mkF m 9 #[.val (.int x0), .val (.int x1), .unset, .unset, .unset, .unset] [(.ref o)])) _
  refine XS.dup X0.here hx rfl (hb hby at_9) rfl rfl ?_
  show Steps p.tables e below (T0.setTop (mkF m 10 #[.val (.int x0), .val (.int x1), .unset, .unset, .unset, .unset] [(.ref o), (.ref o)])) _
  refine XS.iconst X0.here hx rfl (hb hby at_10) ?_
  show Steps p.tables e below (T0.setTop (mkF m 11 #[.val (.int x0), .val (.int x1), .unset, .unset, .unset, .unset] [(.int (1 : Int32)), (.ref o), (.ref o)])) _
  refine XS.iconst X0.here hx rfl (hb hby at_11) ?_
  show Steps p.tables e below (T0.setTop (mkF m 12 #[.val (.int x0), .val (.int x1), .unset, .unset, .unset, .unset] [(.int (-1 : Int32)), (.int (1 : Int32)), (.ref o), (.ref o)])) _
  exact st1 _ kt
set_option maxRecDepth 65536 in
set_option maxHeartbeats 40000000 in
theorem fl4 {p : Program} {l : Launch} {e : Env} {s : State} {m : MethodId} {args : Array Value} {below : List Frame} {meth : Method} {c : Code} {T0 : State} {locs : List Loc} {Z : State} {a0 : Array Value} {h0 : Heap} {n0 : Nat} {f : Nat → Int32} (x0 : Int32) (x1 : Int32) (o : Addr) (X0 : Stand p l e room_1 s m args below meth c T0 locs 1 62) (hx : p.tables.exec = Jvm.exec) (hZ : Z.Warmed39 s.vm) (hw : ∀ d ∈ tables_1, d.before a0 Z = true) (hby : c.code = code) (hml : c.maxLocals = 6) (hown : s.vm.findClass "com/example/shape_trees/shapetrees/xpath/tree/XmlNamesIsNameStartCharPinLaw" = some m.cls) (hret : meth.sig.returnType = some .boolean) (hlk : meth.locks = false) (e0 : T0.heap = h0) (Z0 : n0 ≤ h0.size) (N0 : Fr n0 locs) (g0 : n0 ≤ o) (V : own_Arr Z h0 o 62 f) (hone : ∀ w : Int32, f0_423 x0 x1 ((x1 &&& (255 : Int32)) % (62 : Int32)) ((((x1.toUInt32 >>> ((8 : Int32) &&& 31).toUInt32).toInt32) % (3 : Int32)) - (1 : Int32)) w = 1) :
    own_Goes p e below s n0 room_1.cells room_1.slots own_one (T0.setTop (mkF m 4 #[.val (.int x0), .val (.int x1), .unset, .unset, .unset, .unset] [(.ref o)])) := by
  obtain ⟨T1, h1, L1, X1, e1, Z1, N1, V1, st1⟩ := own_put X0 hx hZ e0 V g0 N0 Z0 (pc := 8) (Ls := #[.val (.int x0), .val (.int x1), .unset, .unset, .unset, .unset]) (rest := [(.ref o)]) (0 : Int32) (-2147483648 : Int32) 0 (by decide) (by decide) (by decide) (hb hby at_8)
  refine own_Goes.pre (fun t kt => ?_) (fl9 x0 x1 o X1 hx hZ hw hby hml hown hret hlk e1 Z1 N1 g0 V1 hone)
  show Steps p.tables e below (T0.setTop (mkF m 4 #[.val (.int x0), .val (.int x1), .unset, .unset, .unset, .unset] [(.ref o)])) _
  refine XS.dup X0.here hx rfl (hb hby at_4) rfl rfl ?_
  show Steps p.tables e below (T0.setTop (mkF m 5 #[.val (.int x0), .val (.int x1), .unset, .unset, .unset, .unset] [(.ref o), (.ref o)])) _
  refine XS.iconst X0.here hx rfl (hb hby at_5) ?_
  show Steps p.tables e below (T0.setTop (mkF m 6 #[.val (.int x0), .val (.int x1), .unset, .unset, .unset, .unset] [(.int (0 : Int32)), (.ref o), (.ref o)])) _
  refine X0.ldcInt hx hown (mvT hZ (hw _ (List.mem_of_getElem? (i := 1) rfl))) (g := (mkF m 6 #[.val (.int x0), .val (.int x1), .unset, .unset, .unset, .unset] [(.int (0 : Int32)), (.ref o), (.ref o)])) rfl (hb hby at_6) _ ?_
  show Steps p.tables e below (T0.setTop (mkF m 8 #[.val (.int x0), .val (.int x1), .unset, .unset, .unset, .unset] [(.int (-2147483648 : Int32)), (.int (0 : Int32)), (.ref o), (.ref o)])) _
  exact st1 _ kt
theorem ef0 (m : MethodId) (x0 : Int32) (x1 : Int32) : entryFrame m #[(.int x0), (.int x1)] maxLocals = (mkF m 0 #[.val (.int x0), .val (.int x1), .unset, .unset, .unset, .unset] []) := by first | (simp [entryFrame, mkF, argsToLocals, Value.category, maxLocals]; done) | rfl
set_option maxRecDepth 65536 in
set_option maxHeartbeats 40000000 in
theorem rm0 (l : Launch) (Z : State) (a0 : Array Value) (hw : ∀ d ∈ tables_1, d.before a0 Z = true) (ws : List Jvm.Cond) (x0 : Int32) (x1 : Int32) (h0 : Heap) (n0 : Nat) (Z0 : n0 ≤ h0.size) (hone : ∀ w : Int32, f0_423 x0 x1 ((x1 &&& (255 : Int32)) % (62 : Int32)) ((((x1.toUInt32 >>> ((8 : Int32) &&& 31).toUInt32).toInt32) % (3 : Int32)) - (1 : Int32)) w = 1) :
    MetFree l x (head1 (Jvm.Cond.code x code maxLocals ret :: ws) room_1) (fun a U => a = #[(.int x0), (.int x1)] ∧ Z.Warmed39 U.vm ∧ U.heap = h0) (fun _ _ _ _ _ => True) (fun _ U o U' => ∃ v L, o = .returned v ∧ own_Q own_one n0 v U'.heap L ∧ FrameEnd U o U' L room_1.cells room_1.slots) := by
  refine MetFree.of_bodySF (plainFor_of_name pn1) hisR ?_
  intro p e s m args below meth c s₁ Bd hml0 hP hK
  obtain ⟨rfl, hZ, hh⟩ := hP
  have hx := Bd.exec
  have hby := Bd.bytes
  have hml : c.maxLocals = 6 := hml0
  have hown : s.vm.findClass "com/example/shape_trees/shapetrees/xpath/tree/XmlNamesIsNameStartCharPinLaw" = some m.cls := findClass_of_methodNamed Bd.named
  have X0 : Stand p l e room_1 s m #[(.int x0), (.int x1)] below meth c s₁ [] 0 0 := Stand.of_body Bd
  have e0 : s₁.heap = h0 := by rw [← hh, Bd.state]; rfl
  obtain ⟨T1, h1, k1, X1, e1, E1, A1, st1⟩ := newP X0 hx hZ (hw _ (List.mem_of_getElem? (i := 0) rfl)) e0 (g := (mkF m 2 #[.val (.int x0), .val (.int x1), .unset, .unset, .unset, .unset] [(.int (62 : Int32))])) rfl (hb hby at_2) rfl (by decide) (cap := 62) (by decide) (by decide) (by decide) (by decide)
  obtain ⟨o, go⟩ : ∃ z, z = h0.size := ⟨_, rfl⟩
  rw [← go] at A1 st1
  have V1 := own_Arr.new A1 (n := 62) (by decide)
  refine own_Goes.pre (S' := T1.setTop (mkF m 4 #[.val (.int x0), .val (.int x1), .unset, .unset, .unset, .unset] [(.ref o)])) (P := own_one) (n0 := n0) (kc := room_1.cells) (ks := room_1.slots) (fun t kt => castTop (ef0 m x0 x1) ?_) (fl4 x0 x1 o X1 hx hZ hw hby hml hown Bd.returns Bd.notSynchronized e1 (Nat.le_trans Z0 E1.1) (Fr.nil n0) (by rw [go]; exact Z0) V1 hone)
  show Steps p.tables e below (s₁.setTop (mkF m 0 #[.val (.int x0), .val (.int x1), .unset, .unset, .unset, .unset] [])) _
  refine XS.bipush X0.here hx rfl (hb hby at_0) ?_
  show Steps p.tables e below (s₁.setTop (mkF m 2 #[.val (.int x0), .val (.int x1), .unset, .unset, .unset, .unset] [(.int (62 : Int32))])) _
  exact st1 _ kt
theorem own_law (x0 x1 x3 x4 w : Int32) : f0_423 x0 x1 x3 x4 w = 1 := by
  simp only [f0_456, f0_452, f0_439, f0_423, own_eq, own_10, ↓reduceIte]
set_option maxRecDepth 65536 in
set_option maxHeartbeats 40000000 in
theorem comes_1 {Post : Tables → Env → Array Value → State → Outcome → State → Prop} (hpost : ∀ tb e args s v u, (limb_1_1.after args s (.returned v) u = true ∧ limb_1_2.after args s (.returned v) u = true ∧ True) → FrameEnd s (.returned v) u (Jvm.fieldLocs frame_1_writes args s ++ Jvm.arrayLocs frame_1_arrays args s ++ Jvm.staticLocs frame_1_statics s) 16 192 → Post tb e args s (.returned v) u) :
    ArmFor flags0 classFile x code maxLocals ret World_1 tables_1 room_1 Calls_1 rest_1 Pre_1 Post := by
  intro l hfl _ _ p e ha hc hk s m args below hf hA hF happ hP
  obtain ⟨hcalls, hrest, hpre⟩ := hP
  obtain ⟨-, -, -, hnamed, -, -, -, hat⟩ := (Spec.applies_iff hf).mp happ
  obtain ⟨hg, hn⟩ := and_e (Cond.before_iff.mp (show (Jvm.Cond.and given_1 narrow_1).before args s = true from hpre))
  obtain ⟨gc, g0⟩ := and_e hg
  obtain ⟨q0, g1⟩ := and_e g0
  obtain ⟨w0, w1, rfl⟩ : ∃ w0 w1 : Value, args = #[w0, w1] := by
    have hs : args.size = 2 := by simpa [Cond.value, given_1] using gc
    obtain ⟨L⟩ := args
    match L, hs with
    | [w0, w1], _ => exact ⟨w0, w1, rfl⟩
  have hw := fun d (hd : d ∈ tables_1) => atoms_spec (ws := Jvm.Cond.code x code maxLocals ret :: tables_1) hat d (List.mem_cons_of_mem _ hd)
  obtain ⟨i0, ei0⟩ := is_v q0
  obtain rfl : w0 = (.int i0) := Option.some.inj ei0
  obtain ⟨i1, ei1⟩ := is_v g1
  obtain rfl : w1 = (.int i1) := Option.some.inj ei1
  obtain ⟨n, o, h1, h2, h3, _, L, rfl, ⟨rfl, N⟩, hq⟩ := rm0 l s _ hw tables_1 i0 i1 s.heap s.heap.size (Nat.le_refl _) (own_law i0 i1 _ _) p e ha hc hk s m _ below hf ((Spec.applies_iff_loose hf).mp happ).1 ⟨rfl, State.Warmed39.refl s, rfl⟩ trivial
  refine ⟨n, _, h1, h2, h3, hpost _ _ _ _ _ _ ⟨Cond.after_iff.mpr rfl, Cond.after_iff.mpr (eq_i res_at (Term.int_eval (1)) rfl), trivial⟩ ⟨hq.1, hq.2.1, (hq.2.2.sift fun y hy => Or.inr (N y hy)).mono (by decide) (by decide)⟩⟩
theorem main_1_1 : Claimed_1_1 := comes_1 fun _ _ _ _ _ _ h hF => ⟨h.1, hF⟩
theorem main_1_2 : Claimed_1_2 := comes_1 fun _ _ _ _ _ _ h hF => ⟨h.2.1, hF⟩
end Jvm.Pilot.@@N@@
namespace Jvm.Pilot.@@N@@
open Jvm Jvm.ClassFile Sem Op Lib Jvm.Free Jvm.Stand Jvm.Pilot.@@N@@.Jvm.D
/-! MADE BY PROGRAM (witnessworld.py) out of the Statement's table words and the real class files: 9 classes; the members and pool entries that the words name. The judged class is class 1, her method 3. -/
namespace start1
open Jvm.ClassFile
def u (s : String) : CpInfo := .utf8 (stringToUtf16 s)
/-- a pool by its gaps: so many unusable entries, then the entry; so many at the end -/
def gap : Nat → List CpInfo → List CpInfo
  | 0, r => r
  | n + 1, r => .unusable :: gap n r
def poolList (es : List (Nat × CpInfo)) (last : Nat) : List CpInfo := es.foldr (fun e r => gap e.1 (e.2 :: r)) (gap last [])
def pool (es : List (Nat × CpInfo)) (last : Nat) : Array CpInfo := ⟨poolList es last⟩
def fileOf (pool : Array CpInfo) (this : Nat) (attrs : Array Attribute := #[]) (ms : Array MethodInfo := #[]) (fl : Nat := 33) (sup : Nat := 0) (ifs : Array Nat := #[]) (fds : Array FieldInfo := #[]) : ClassFile where
  minorVersion := 0
  majorVersion := 65
  constantPool := pool
  accessFlags := fl
  thisClass := this
  superClass := sup
  interfaces := ifs
  fields := fds
  methods := ms
  attributes := attrs
def plain (name : String) (sup : Option ClassId) : Class where
  name := name
  kind := .ordinary
  loader := none
  accessFlags := 33
  super := sup
  interfaces := #[]
  cf := none
  fields := #[]
  methods := #[]
  instanceTypes := #[]
  staticTypes := #[]
  resolved := #[]
  callSites := []
  init := .initialized
  statics := none
  mirror := none

def pool0 : Array CpInfo := pool [(5, u "<init>"), (0, u "()V"), (1, .class_ 10), (1, u "java/lang/Object")] 113

def k0m0 : Method := { name := "<init>", desc := "()V", sig := { parameters := [], returnType := none }, accessFlags := 1, code := none }
/-- java/lang/Object -/
def k0 : Class := { plain "java/lang/Object" none with
  accessFlags := 33
  interfaces := #[]
  cf := some (fileOf pool0 8 #[] #[{ accessFlags := 1, nameIndex := 5, descriptorIndex := 6, attributes := #[] }] 33 0 #[] #[])
  fields := #[]
  methods := #[k0m0]
  instanceTypes := #[]
  staticTypes := #[]
  resolved := Array.replicate 124 none
  statics := none }

def pool1 : Array CpInfo := pool [(2, .class_ 4), (1, u "java/lang/Object"), (0, u "<init>"), (0, u "()V"), (0, .integer 983039), (0, .methodref 9 10), (0, .class_ 11), (0, .nameAndType 12 13), (0, u "com/example/shape_trees/shapetrees/xpath/tree/XmlNamesIsNameStartCharPinLaw"), (0, u "in"), (0, u "(III)Z"), (0, .integer 55296), (0, .integer 63743), (0, .integer 64976), (0, .integer 65007), (0, .integer 65534), (0, .integer 65535), (2, .integer 2147483648), (0, .integer 55295), (0, .integer 63744), (0, .integer 64975), (0, .integer 65008), (0, .integer 65533), (0, .integer 65536), (0, .integer 983040), (0, .integer 2147483647), (0, .methodref 32 33), (0, .class_ 34), (0, .nameAndType 35 36), (0, u "com/example/shape_trees/shapetrees/xpath/tree/XmlNames"), (0, u "isNameStartChar"), (0, u "(I)Z"), (0, .methodref 9 38), (0, .nameAndType 39 36), (0, u "ref"), (3, u "law"), (0, u "(II)Z")] 4

def k1m0 : Method := { name := "<init>", desc := "()V", sig := { parameters := [], returnType := none }, accessFlags := 1, code := none }
def k1c1 : Code := { maxStack := 2, maxLocals := 3, code := method_2_code, exceptionTable := #[], attributes := #[] }
def k1m1 : Method := { name := "in", desc := "(III)Z", sig := { parameters := [.int, .int, .int], returnType := some .boolean }, accessFlags := 10, code := some k1c1 }
def k1c2 : Code := { maxStack := 3, maxLocals := 2, code := method_3_code, exceptionTable := #[], attributes := #[] }
def k1m2 : Method := { name := "ref", desc := "(I)Z", sig := { parameters := [.int], returnType := some .boolean }, accessFlags := 10, code := some k1c2 }
def k1c3 : Code := { maxStack := 4, maxLocals := 6, code := code, exceptionTable := #[], attributes := #[] }
def k1m3 : Method := { name := "law", desc := "(II)Z", sig := { parameters := [.int, .int], returnType := some .boolean }, accessFlags := 9, code := some k1c3 }
/-- com/example/shape_trees/shapetrees/xpath/tree/XmlNamesIsNameStartCharPinLaw -/
def k1 : Class := { plain "com/example/shape_trees/shapetrees/xpath/tree/XmlNamesIsNameStartCharPinLaw" (some 0) with
  accessFlags := 49
  interfaces := #[]
  cf := some (fileOf pool1 9 #[] #[{ accessFlags := 1, nameIndex := 5, descriptorIndex := 6, attributes := #[] }, { accessFlags := 10, nameIndex := 12, descriptorIndex := 13, attributes := #[] }, { accessFlags := 10, nameIndex := 39, descriptorIndex := 36, attributes := #[] }, { accessFlags := 9, nameIndex := 43, descriptorIndex := 44, attributes := #[] }] 49 2 #[] #[])
  fields := #[]
  methods := #[k1m0, k1m1, k1m2, k1m3]
  instanceTypes := #[]
  staticTypes := #[]
  resolved := Array.replicate 49 none
  statics := none }

def pool2 : Array CpInfo := pool [(2, .class_ 4), (1, u "java/lang/Object"), (0, u "<init>"), (0, u "()V"), (0, .integer 55295), (0, .integer 63744), (0, .integer 64975), (0, .integer 65008), (0, .integer 65533), (0, .integer 65536), (0, .integer 983039), (1, .class_ 17), (1, u "com/example/shape_trees/shapetrees/xpath/tree/XmlNames"), (0, u "isNameStartChar"), (0, u "(I)Z"), (33, u "XML_NAMESPACE"), (0, u "Ljava/lang/String;"), (3, u "XML_PREFIX")] 10

def k2m0 : Method := { name := "<init>", desc := "()V", sig := { parameters := [], returnType := none }, accessFlags := 2, code := none }
def k2c1 : Code := { maxStack := 2, maxLocals := 1, code := prog_173_method_2_code, exceptionTable := #[], attributes := #[] }
def k2m1 : Method := { name := "isNameStartChar", desc := "(I)Z", sig := { parameters := [.int], returnType := some .boolean }, accessFlags := 9, code := some k2c1 }
/-- com/example/shape_trees/shapetrees/xpath/tree/XmlNames -/
def k2 : Class := { plain "com/example/shape_trees/shapetrees/xpath/tree/XmlNames" (some 0) with
  accessFlags := 49
  interfaces := #[]
  cf := some (fileOf pool2 15 #[] #[{ accessFlags := 2, nameIndex := 5, descriptorIndex := 6, attributes := #[] }, { accessFlags := 9, nameIndex := 18, descriptorIndex := 19, attributes := #[] }] 49 2 #[] #[{ accessFlags := 25, nameIndex := 53, descriptorIndex := 54, attributes := #[] }, { accessFlags := 25, nameIndex := 58, descriptorIndex := 54, attributes := #[] }])
  fields := #[{ name := "XML_NAMESPACE", type := (.object "java/lang/String"), accessFlags := 25, slot := 0, constantValue := 0 }, { name := "XML_PREFIX", type := (.object "java/lang/String"), accessFlags := 25, slot := 1, constantValue := 0 }]
  methods := #[k2m0, k2m1]
  instanceTypes := #[]
  staticTypes := #[(.object "java/lang/String"), (.object "java/lang/String")]
  resolved := Array.replicate 69 none
  statics := none }

def pool3 : Array CpInfo := pool [(1, u "java/lang/Cloneable"), (0, .class_ 1), (0, u "java/lang/Object"), (0, .class_ 3)] 3

/-- java/lang/Cloneable -/
def k3 : Class := { plain "java/lang/Cloneable" (some 0) with
  accessFlags := 1537
  interfaces := #[]
  cf := some (fileOf pool3 2 #[] #[] 1537 4 #[] #[])
  fields := #[]
  methods := #[]
  instanceTypes := #[]
  staticTypes := #[]
  resolved := Array.replicate 8 none
  statics := none }

def pool4 : Array CpInfo := pool [(1, u "java/io/Serializable"), (0, .class_ 1), (0, u "java/lang/Object"), (0, .class_ 3)] 3

/-- java/io/Serializable -/
def k4 : Class := { plain "java/io/Serializable" (some 0) with
  accessFlags := 1537
  interfaces := #[]
  cf := some (fileOf pool4 2 #[] #[] 1537 4 #[] #[])
  fields := #[]
  methods := #[]
  instanceTypes := #[]
  staticTypes := #[]
  resolved := Array.replicate 8 none
  statics := none }

/-- the primitive byte -/
def k5 : Class := { plain "byte" none with kind := .primitive 'B', accessFlags := 0x411 }
/-- [B -/
def k6 : Class := { plain "[B" (some 0) with kind := .array 5 .byte, interfaces := #[3, 4], accessFlags := 1041 }

/-- the primitive int -/
def k7 : Class := { plain "int" none with kind := .primitive 'I', accessFlags := 0x411 }
/-- [I -/
def k8 : Class := { plain "[I" (some 0) with kind := .array 7 .int, interfaces := #[3, 4], accessFlags := 1041 }

def heap : Heap := #[]
def classes : Array Class := #[k0, k1, k2, k3, k4, k5, k6, k7, k8]
def interned : List (Array UInt16 × Addr) := []
def slotsUsed : Nat := 0
def theMethod : MethodId := ⟨1, 3⟩
def args0 : Array Value := #[.int 5, .int 300]
def aboutOver (below : List Frame) : State where
  vm := { classes := classes, interned := interned.toArray }
  heap := heap
  slotsUsed := slotsUsed
  threads := #[{ frames := .invoking theMethod args0 :: below }]
def below0 : List Frame := [.native { method := ⟨0, 0⟩, args := #[] }]
def about1 : State := aboutOver below0
def p0 : Program := .bare "" "" ""
def e0 : Env := launch0.env 0 0 0
theorem w_frames : about1.frames = Frame.invoking theMethod args0 :: below0 := rfl
set_option maxRecDepth 65536 in
theorem w_args : argsFit about1.vm theMethod args0 = true := by decide +kernel
set_option maxRecDepth 65536 in
theorem w_heap : heapFits about1 = true := by decide +kernel
set_option maxRecDepth 65536 in
theorem w_runnable : about1.curStatus? = some .runnable := by decide +kernel
set_option maxRecDepth 65536 in
theorem w_alone : about1.alone = true := by decide +kernel
set_option maxRecDepth 65536 in
theorem w_named : about1.methodNamed? x = some theMethod := by decide +kernel
set_option maxRecDepth 65536 in
theorem w_hears : about1.hears theMethod below0 = true := by decide +kernel
set_option maxRecDepth 65536 in
theorem w_ripe : about1.ripe theMethod args0 below0 = true := by decide +kernel
theorem w_running : about1.status = .running := rfl
set_option maxRecDepth 65536 in
theorem w_room : about1.hasRoom e0.platform room_1 = true :=
  launch0.hasRoom_least _ room_1 (by decide +kernel) (by decide +kernel) (by decide +kernel) (by decide +kernel) (by decide +kernel) (by decide +kernel)
theorem allAtoms_all (ts : List Jvm.Cond) (a : Array Jvm.Value) (st : Jvm.State) : (allAtoms ts).before a st = ts.all (fun c => c.before a st) := by
  induction ts with
  | nil => rfl
  | cons c t ih =>
    show (Jvm.Cond.and c (allAtoms t)).before a st = _
    rw [Jvm.Cond.before_and, ih, List.all_cons]
def words1 : List Jvm.Cond := Jvm.Cond.code x code maxLocals ret :: tables_1
/-- a 'code' word, met by the world's own term for the bytes: nothing is compared byte by byte -/
theorem code_word {y : MethodName} {bytes : ByteArray} {mx : Nat} {rt : Option FieldType} {a : Array Value} {s : State} {m : MethodId} {meth : Method} {c : Code} (h1 : s.methodNamed? y = some m) (h2 : s.vm.method? m = some meth) (h3 : meth.code = some c) (h4 : c.code = bytes)
    (h5 : (c.maxLocals == mx && c.exceptionTable.isEmpty && decide (c.maxStack ≤ mostOperands) && decide (meth.sig.returnType = rt) && !meth.locks && decide (parseMethodDescriptor y.desc = some meth.sig)) = true) : (Jvm.Cond.code y bytes mx rt).before a s = true := by
  simp only [Bool.and_eq_true, beq_iff_eq, Bool.not_eq_true', decide_eq_true_eq] at h5
  obtain ⟨⟨⟨⟨⟨g1, g2⟩, g3⟩, g4⟩, g5⟩, g6⟩ := h5
  simp [Cond.before, Cond.holds, Cond.value, h1, h2, h3, h4, g1, g2, g3, g4, g5, g6]
def isCode : Jvm.Cond → Bool
  | .code _ _ _ _ => true
  | _ => false
theorem all_split {L : List Jvm.Cond} {P : Jvm.Cond → Bool} (h1 : L.all (fun c => isCode c || P c) = true) (h2 : ∀ c ∈ L.filter isCode, P c = true) : L.all P = true := by
  refine List.all_eq_true.mpr fun c hc => ?_
  have h := List.all_eq_true.mp h1 c hc
  rcases Bool.eq_false_or_eq_true (isCode c) with hi | hi
  · exact h2 c (List.mem_filter.mpr ⟨hc, hi⟩)
  · simpa [hi] using h
set_option maxRecDepth 65536 in
theorem w_c0 : (Jvm.Cond.code x code maxLocals ret).before args0 about1 = true := code_word (m := ⟨1, 3⟩) (meth := k1m3) (c := k1c3) (by decide +kernel) rfl rfl rfl (by decide +kernel)
set_option maxRecDepth 65536 in
theorem w_c1 : (Jvm.Cond.code ({ cls := "com/example/shape_trees/shapetrees/xpath/tree/XmlNames", name := "isNameStartChar", desc := "(I)Z" } : Jvm.MethodName) prog_173_method_2_code (1 : Nat) (Option.some Jvm.ClassFile.FieldType.boolean)).before args0 about1 = true := code_word (m := ⟨2, 1⟩) (meth := k2m1) (c := k2c1) (by decide +kernel) rfl rfl rfl (by decide +kernel)
set_option maxRecDepth 65536 in
theorem w_c2 : (Jvm.Cond.code ({ cls := "com/example/shape_trees/shapetrees/xpath/tree/XmlNamesIsNameStartCharPinLaw", name := "ref", desc := "(I)Z" } : Jvm.MethodName) method_3_code (2 : Nat) (Option.some Jvm.ClassFile.FieldType.boolean)).before args0 about1 = true := code_word (m := ⟨1, 2⟩) (meth := k1m2) (c := k1c2) (by decide +kernel) rfl rfl rfl (by decide +kernel)
set_option maxRecDepth 65536 in
theorem w_c3 : (Jvm.Cond.code ({ cls := "com/example/shape_trees/shapetrees/xpath/tree/XmlNamesIsNameStartCharPinLaw", name := "in", desc := "(III)Z" } : Jvm.MethodName) method_2_code (3 : Nat) (Option.some Jvm.ClassFile.FieldType.boolean)).before args0 about1 = true := code_word (m := ⟨1, 1⟩) (meth := k1m1) (c := k1c1) (by decide +kernel) rfl rfl rfl (by decide +kernel)
def codes1 : List Jvm.Cond := [Jvm.Cond.code x code maxLocals ret, Jvm.Cond.code ({ cls := "com/example/shape_trees/shapetrees/xpath/tree/XmlNames", name := "isNameStartChar", desc := "(I)Z" } : Jvm.MethodName) prog_173_method_2_code (1 : Nat) (Option.some Jvm.ClassFile.FieldType.boolean), Jvm.Cond.code ({ cls := "com/example/shape_trees/shapetrees/xpath/tree/XmlNamesIsNameStartCharPinLaw", name := "ref", desc := "(I)Z" } : Jvm.MethodName) method_3_code (2 : Nat) (Option.some Jvm.ClassFile.FieldType.boolean), Jvm.Cond.code ({ cls := "com/example/shape_trees/shapetrees/xpath/tree/XmlNamesIsNameStartCharPinLaw", name := "in", desc := "(III)Z" } : Jvm.MethodName) method_2_code (3 : Nat) (Option.some Jvm.ClassFile.FieldType.boolean)]
set_option maxRecDepth 65536 in
theorem codes_eq : words1.filter isCode = codes1 := rfl
theorem w_codes : ∀ c ∈ words1.filter isCode, c.before args0 about1 = true := by
  rw [codes_eq]
  intro c hc
  simp only [codes1, List.mem_cons, List.not_mem_nil, or_false] at hc
  rcases hc with rfl | rfl | rfl | rfl
  · exact w_c0
  · exact w_c1
  · exact w_c2
  · exact w_c3
set_option maxRecDepth 65536 in
theorem w_t1 : (words1.take 24).all (fun c => isCode c || c.before args0 about1) = true := by decide +kernel
set_option maxRecDepth 65536 in
theorem w_t2 : (words1.drop 24).all (fun c => isCode c || c.before args0 about1) = true := by decide +kernel
theorem w_tables : (allAtoms (Jvm.Cond.code x code maxLocals ret :: tables_1)).before args0 about1 = true := by
  rw [allAtoms_all]
  show words1.all (fun c => c.before args0 about1) = true
  refine all_split ?_ w_codes
  rw [← List.take_append_drop 24 words1, List.all_append, w_t1, w_t2]
  rfl
set_option maxRecDepth 65536 in
theorem w_case : (Jvm.Cond.and given_1 narrow_1).before args0 about1 = true := by decide +kernel
theorem w_applies : (headSpec (Jvm.Cond.code x code maxLocals ret :: tables_1) room_1).applies x e0.platform about1 = true :=
  (Spec.applies_iff w_frames).mpr ⟨w_running, w_runnable, w_alone, w_named, w_hears, w_ripe, w_room, w_tables⟩
theorem atStart : AtStart classFile x code maxLocals ret World_1 tables_1 room_1 Calls_1 rest_1 Pre_1 launch0 p0 e0 about1 theMethod args0 below0 :=
  ⟨lists_1, trivial, launch0.admits_env _ _ _, launch0.least_env, fairChoices_fair.cas, fairChoices_fair.clock, w_frames, w_args, w_heap, w_applies, trivial, trivial, w_case⟩
end start1
theorem witness_1 : WitnessClaimed_1 := ⟨start1.p0, start1.e0, start1.about1, start1.theMethod, start1.args0, start1.below0, start1.atStart⟩
end Jvm.Pilot.@@N@@
