import JvmDerived
import JvmDerived.Pilot.@@N@@Statement
import JvmDerived.Pilot.@@N@@Code
set_option linter.unusedVariables false
set_option linter.unusedSimpArgs false
namespace Jvm.Pilot.@@N@@
open Jvm Jvm.ClassFile Sem Op Lib Jvm.Free Jvm.Stand Jvm.LawKit Jvm.RoadKit Bundle Jvm.Pilot.@@N@@.Jvm.D
section Own
variable {p : Program} {l : Launch} {e : Env} {R : Room} {s : State} {m : MethodId} {args : Array Value} {below : List Frame} {meth : Method} {c : Code} {T : State} {locs : List Loc} {cells slots : Nat} {n0 kc ks : Nat} {P : Option Value → Heap → Prop}
/-- what a body leaves: P of its value and heap; nothing that stood at the start was written -/
def own_Q (P : Option Value → Heap → Prop) (n0 : Nat) (v : Option Value) (h : Heap) (L : List Loc) : Prop := P v h ∧ Fr n0 L
/-- the run comes from S to the end of this invocation -/
def own_Goes (p : Program) (e : Env) (below : List Frame) (s : State) (n0 kc ks : Nat) (P : Option Value → Heap → Prop) (S : State) : Prop :=
  ∃ s₂ o, Steps p.tables e below S s₂ ∧ s₂.status = .running ∧ Ended s₂ below o ∧ ∃ v L, o = .returned v ∧ own_Q P n0 v s₂.heap L ∧ FrameEnd s o s₂ L kc ks
theorem own_Goes.pre {S S' : State} (h : ∀ t, Steps p.tables e below S' t → Steps p.tables e below S t) (g : own_Goes p e below s n0 kc ks P S') : own_Goes p e below s n0 kc ks P S := by
  obtain ⟨t, o, st, r⟩ := g
  exact ⟨t, o, h t st, r⟩
theorem own_retW (X : Stand p l e R s m args below meth c T locs cells slots) (hx : p.tables.exec = Jvm.exec) (hlk : meth.locks = false) {pc : Nat} {Ls : Array Slot} {w : Value} {t : FieldType} {i : Instr} {rest : List Value} (hret : meth.sig.returnType = some t) (hn : narrow t w = w)
    (hi : (i = .ireturn ∧ (t = .int ∨ t = .boolean ∨ t = .byte ∨ t = .char ∨ t = .short) ∧ ∃ z, w = .int z) ∨ (i = .lreturn ∧ t = .long ∧ ∃ z, w = .long z) ∨ (i = .dreturn ∧ t = .double ∧ ∃ z, w = .double z) ∨ (i = .freturn ∧ t = .float ∧ ∃ z, w = .float z) ∨ (i = .areturn ∧ t.isReference = true ∧ w.isRef = true))
    (hd : decode c.code pc = .ok (i, 1)) (N : Fr n0 locs) (hP : P (some w) T.heap) (hc : cells ≤ kc) (hs : slots ≤ ks) : own_Goes p e below s n0 kc ks P (T.setTop (mkF m pc Ls (w :: rest))) := by
  obtain ⟨fs, hr, hrun, hended, hW, hsame⟩ := X.leave (v := some w) (fun h => by rw [hret] at h; cases h)
  exact ⟨_, _, retOut X hx hret hn hi hd hr, hrun, hended, _, _, rfl, ⟨hP, N⟩, ⟨_, rfl⟩, hW, hsame.mono hc hs⟩
theorem own_retI (X : Stand p l e R s m args below meth c T locs cells slots) (hx : p.tables.exec = Jvm.exec) (hlk : meth.locks = false) {pc : Nat} {Ls : Array Slot} {z : Int32} {rest : List Value} (hret : meth.sig.returnType = some .int)
    (hd : decode c.code pc = .ok (.ireturn, 1)) (N : Fr n0 locs) (hP : P (some (.int z)) T.heap) (hc : cells ≤ kc) (hs : slots ≤ ks) : own_Goes p e below s n0 kc ks P (T.setTop (mkF m pc Ls (.int z :: rest))) :=
  own_retW X hx hlk hret rfl (Or.inl ⟨rfl, Or.inl rfl, _, rfl⟩) hd N hP hc hs
theorem own_retJ (X : Stand p l e R s m args below meth c T locs cells slots) (hx : p.tables.exec = Jvm.exec) (hlk : meth.locks = false) {pc : Nat} {Ls : Array Slot} {z : Int64} {rest : List Value} (hret : meth.sig.returnType = some .long)
    (hd : decode c.code pc = .ok (.lreturn, 1)) (N : Fr n0 locs) (hP : P (some (.long z)) T.heap) (hc : cells ≤ kc) (hs : slots ≤ ks) : own_Goes p e below s n0 kc ks P (T.setTop (mkF m pc Ls (.long z :: rest))) :=
  own_retW X hx hlk hret rfl (Or.inr (Or.inl ⟨rfl, rfl, _, rfl⟩)) hd N hP hc hs
theorem own_retN (X : Stand p l e R s m args below meth c T locs cells slots) (hx : p.tables.exec = Jvm.exec) (hlk : meth.locks = false) {pc : Nat} {Ls : Array Slot} {z : Int32} {t : FieldType} {rest : List Value} (hret : meth.sig.returnType = some t) (ht : t = .boolean ∨ t = .byte ∨ t = .char ∨ t = .short)
    (hd : decode c.code pc = .ok (.ireturn, 1)) (N : Fr n0 locs) (hP : P (some (.int (nar t z))) T.heap) (hc : cells ≤ kc) (hs : slots ≤ ks) : own_Goes p e below s n0 kc ks P (T.setTop (mkF m pc Ls (.int z :: rest))) := by
  obtain ⟨fs, hr, hrun, hended, hW, hsame⟩ := X.leave (v := some (.int (nar t z))) (fun h => by rw [hret] at h; cases h)
  exact ⟨_, _, retN X hx hret ht hd hr, hrun, hended, _, _, rfl, ⟨hP, N⟩, ⟨_, rfl⟩, hW, hsame.mono hc hs⟩
theorem own_retV (X : Stand p l e R s m args below meth c T locs cells slots) (hx : p.tables.exec = Jvm.exec) (hlk : meth.locks = false) {pc : Nat} {Ls : Array Slot} (hret : meth.sig.returnType = none)
    (hd : decode c.code pc = .ok (.return_, 1)) (N : Fr n0 locs) (hP : P none T.heap) (hc : cells ≤ kc) (hs : slots ≤ ks) : own_Goes p e below s n0 kc ks P (T.setTop (mkF m pc Ls [])) := by
  obtain ⟨fs, hr, hrun, hended, hW, hsame⟩ := X.leave (v := none) (fun _ => rfl)
  exact ⟨_, _, X.returnOut hx hret hd hr, hrun, hended, _, _, rfl, ⟨hP, N⟩, ⟨_, rfl⟩, hW, hsame.mono hc hs⟩
/-- the value w comes back, the heap as it was -/
def own_val (w : Value) (h0 : Heap) (v : Option Value) (h : Heap) : Prop := v = some w ∧ h = h0
def own_one (v : Option Value) (_ : Heap) : Prop := v = some (.int (1 : Int32))
end Own
theorem d1_0 : decode prog_46_method_13_code 0 = .ok (.iload_n 0, 1) := by decide +kernel
theorem d1_1 : decode prog_46_method_13_code 1 = .ok (.bipush 97, 2) := by decide +kernel
theorem d1_3 : decode prog_46_method_13_code 3 = .ok (.if_icmp .lt 9, 3) := by decide +kernel
theorem d1_6 : decode prog_46_method_13_code 6 = .ok (.iload_n 0, 1) := by decide +kernel
theorem d1_7 : decode prog_46_method_13_code 7 = .ok (.bipush 122, 2) := by decide +kernel
theorem d1_9 : decode prog_46_method_13_code 9 = .ok (.if_icmp .le 182, 3) := by decide +kernel
theorem d1_12 : decode prog_46_method_13_code 12 = .ok (.iload_n 0, 1) := by decide +kernel
theorem d1_13 : decode prog_46_method_13_code 13 = .ok (.bipush 65, 2) := by decide +kernel
theorem d1_15 : decode prog_46_method_13_code 15 = .ok (.if_icmp .lt 9, 3) := by decide +kernel
theorem d1_18 : decode prog_46_method_13_code 18 = .ok (.iload_n 0, 1) := by decide +kernel
theorem d1_19 : decode prog_46_method_13_code 19 = .ok (.bipush 90, 2) := by decide +kernel
theorem d1_21 : decode prog_46_method_13_code 21 = .ok (.if_icmp .le 170, 3) := by decide +kernel
theorem d1_24 : decode prog_46_method_13_code 24 = .ok (.iload_n 0, 1) := by decide +kernel
theorem d1_25 : decode prog_46_method_13_code 25 = .ok (.bipush 95, 2) := by decide +kernel
theorem d1_27 : decode prog_46_method_13_code 27 = .ok (.if_icmp .eq 164, 3) := by decide +kernel
theorem d1_30 : decode prog_46_method_13_code 30 = .ok (.iload_n 0, 1) := by decide +kernel
theorem d1_31 : decode prog_46_method_13_code 31 = .ok (.sipush 192, 3) := by decide +kernel
theorem d1_34 : decode prog_46_method_13_code 34 = .ok (.if_icmp .lt 10, 3) := by decide +kernel
theorem d1_37 : decode prog_46_method_13_code 37 = .ok (.iload_n 0, 1) := by decide +kernel
theorem d1_38 : decode prog_46_method_13_code 38 = .ok (.sipush 214, 3) := by decide +kernel
theorem d1_41 : decode prog_46_method_13_code 41 = .ok (.if_icmp .le 150, 3) := by decide +kernel
theorem d1_44 : decode prog_46_method_13_code 44 = .ok (.iload_n 0, 1) := by decide +kernel
theorem d1_45 : decode prog_46_method_13_code 45 = .ok (.sipush 216, 3) := by decide +kernel
theorem d1_48 : decode prog_46_method_13_code 48 = .ok (.if_icmp .lt 10, 3) := by decide +kernel
theorem d1_51 : decode prog_46_method_13_code 51 = .ok (.iload_n 0, 1) := by decide +kernel
theorem d1_52 : decode prog_46_method_13_code 52 = .ok (.sipush 246, 3) := by decide +kernel
theorem d1_55 : decode prog_46_method_13_code 55 = .ok (.if_icmp .le 136, 3) := by decide +kernel
theorem d1_58 : decode prog_46_method_13_code 58 = .ok (.iload_n 0, 1) := by decide +kernel
theorem d1_59 : decode prog_46_method_13_code 59 = .ok (.sipush 248, 3) := by decide +kernel
theorem d1_62 : decode prog_46_method_13_code 62 = .ok (.if_icmp .lt 10, 3) := by decide +kernel
theorem d1_65 : decode prog_46_method_13_code 65 = .ok (.iload_n 0, 1) := by decide +kernel
theorem d1_66 : decode prog_46_method_13_code 66 = .ok (.sipush 767, 3) := by decide +kernel
theorem d1_69 : decode prog_46_method_13_code 69 = .ok (.if_icmp .le 122, 3) := by decide +kernel
theorem d1_72 : decode prog_46_method_13_code 72 = .ok (.iload_n 0, 1) := by decide +kernel
theorem d1_73 : decode prog_46_method_13_code 73 = .ok (.sipush 880, 3) := by decide +kernel
theorem d1_76 : decode prog_46_method_13_code 76 = .ok (.if_icmp .lt 10, 3) := by decide +kernel
theorem d1_79 : decode prog_46_method_13_code 79 = .ok (.iload_n 0, 1) := by decide +kernel
theorem d1_80 : decode prog_46_method_13_code 80 = .ok (.sipush 893, 3) := by decide +kernel
theorem d1_83 : decode prog_46_method_13_code 83 = .ok (.if_icmp .le 108, 3) := by decide +kernel
theorem d1_86 : decode prog_46_method_13_code 86 = .ok (.iload_n 0, 1) := by decide +kernel
theorem d1_87 : decode prog_46_method_13_code 87 = .ok (.sipush 895, 3) := by decide +kernel
theorem d1_90 : decode prog_46_method_13_code 90 = .ok (.if_icmp .lt 10, 3) := by decide +kernel
theorem d1_93 : decode prog_46_method_13_code 93 = .ok (.iload_n 0, 1) := by decide +kernel
theorem d1_94 : decode prog_46_method_13_code 94 = .ok (.sipush 8191, 3) := by decide +kernel
theorem d1_97 : decode prog_46_method_13_code 97 = .ok (.if_icmp .le 94, 3) := by decide +kernel
theorem d1_100 : decode prog_46_method_13_code 100 = .ok (.iload_n 0, 1) := by decide +kernel
theorem d1_101 : decode prog_46_method_13_code 101 = .ok (.sipush 8204, 3) := by decide +kernel
theorem d1_104 : decode prog_46_method_13_code 104 = .ok (.if_icmp .lt 10, 3) := by decide +kernel
theorem d1_107 : decode prog_46_method_13_code 107 = .ok (.iload_n 0, 1) := by decide +kernel
theorem d1_108 : decode prog_46_method_13_code 108 = .ok (.sipush 8205, 3) := by decide +kernel
theorem d1_111 : decode prog_46_method_13_code 111 = .ok (.if_icmp .le 80, 3) := by decide +kernel
theorem d1_114 : decode prog_46_method_13_code 114 = .ok (.iload_n 0, 1) := by decide +kernel
theorem d1_115 : decode prog_46_method_13_code 115 = .ok (.sipush 8304, 3) := by decide +kernel
theorem d1_118 : decode prog_46_method_13_code 118 = .ok (.if_icmp .lt 10, 3) := by decide +kernel
theorem d1_121 : decode prog_46_method_13_code 121 = .ok (.iload_n 0, 1) := by decide +kernel
theorem d1_122 : decode prog_46_method_13_code 122 = .ok (.sipush 8591, 3) := by decide +kernel
theorem d1_125 : decode prog_46_method_13_code 125 = .ok (.if_icmp .le 66, 3) := by decide +kernel
theorem d1_128 : decode prog_46_method_13_code 128 = .ok (.iload_n 0, 1) := by decide +kernel
theorem d1_129 : decode prog_46_method_13_code 129 = .ok (.sipush 11264, 3) := by decide +kernel
theorem d1_132 : decode prog_46_method_13_code 132 = .ok (.if_icmp .lt 10, 3) := by decide +kernel
theorem d1_135 : decode prog_46_method_13_code 135 = .ok (.iload_n 0, 1) := by decide +kernel
theorem d1_136 : decode prog_46_method_13_code 136 = .ok (.sipush 12271, 3) := by decide +kernel
theorem d1_139 : decode prog_46_method_13_code 139 = .ok (.if_icmp .le 52, 3) := by decide +kernel
theorem d1_142 : decode prog_46_method_13_code 142 = .ok (.iload_n 0, 1) := by decide +kernel
theorem d1_143 : decode prog_46_method_13_code 143 = .ok (.sipush 12289, 3) := by decide +kernel
theorem d1_146 : decode prog_46_method_13_code 146 = .ok (.if_icmp .lt 9, 3) := by decide +kernel
theorem d1_149 : decode prog_46_method_13_code 149 = .ok (.iload_n 0, 1) := by decide +kernel
theorem d1_150 : decode prog_46_method_13_code 150 = .ok (.ldc 115, 2) := by decide +kernel
theorem d1_152 : decode prog_46_method_13_code 152 = .ok (.if_icmp .le 39, 3) := by decide +kernel
theorem d1_155 : decode prog_46_method_13_code 155 = .ok (.iload_n 0, 1) := by decide +kernel
theorem d1_156 : decode prog_46_method_13_code 156 = .ok (.ldc 116, 2) := by decide +kernel
theorem d1_158 : decode prog_46_method_13_code 158 = .ok (.if_icmp .lt 9, 3) := by decide +kernel
theorem d1_161 : decode prog_46_method_13_code 161 = .ok (.iload_n 0, 1) := by decide +kernel
theorem d1_162 : decode prog_46_method_13_code 162 = .ok (.ldc 117, 2) := by decide +kernel
theorem d1_164 : decode prog_46_method_13_code 164 = .ok (.if_icmp .le 27, 3) := by decide +kernel
theorem d1_167 : decode prog_46_method_13_code 167 = .ok (.iload_n 0, 1) := by decide +kernel
theorem d1_168 : decode prog_46_method_13_code 168 = .ok (.ldc 118, 2) := by decide +kernel
theorem d1_170 : decode prog_46_method_13_code 170 = .ok (.if_icmp .lt 9, 3) := by decide +kernel
theorem d1_173 : decode prog_46_method_13_code 173 = .ok (.iload_n 0, 1) := by decide +kernel
theorem d1_174 : decode prog_46_method_13_code 174 = .ok (.ldc 119, 2) := by decide +kernel
theorem d1_176 : decode prog_46_method_13_code 176 = .ok (.if_icmp .le 15, 3) := by decide +kernel
theorem d1_179 : decode prog_46_method_13_code 179 = .ok (.iload_n 0, 1) := by decide +kernel
theorem d1_180 : decode prog_46_method_13_code 180 = .ok (.ldc 120, 2) := by decide +kernel
theorem d1_182 : decode prog_46_method_13_code 182 = .ok (.if_icmp .lt 13, 3) := by decide +kernel
theorem d1_185 : decode prog_46_method_13_code 185 = .ok (.iload_n 0, 1) := by decide +kernel
theorem d1_186 : decode prog_46_method_13_code 186 = .ok (.ldc 121, 2) := by decide +kernel
theorem d1_188 : decode prog_46_method_13_code 188 = .ok (.if_icmp .gt 7, 3) := by decide +kernel
theorem d1_191 : decode prog_46_method_13_code 191 = .ok (.iconst 1, 1) := by decide +kernel
theorem d1_192 : decode prog_46_method_13_code 192 = .ok (.goto 4, 3) := by decide +kernel
theorem d1_195 : decode prog_46_method_13_code 195 = .ok (.iconst 0, 1) := by decide +kernel
theorem d1_196 : decode prog_46_method_13_code 196 = .ok (.ireturn, 1) := by decide +kernel
def f1_191 (x0 : Int32) : Int32 := (1 : Int32)
set_option maxRecDepth 65536 in
set_option maxHeartbeats 40000000 in
theorem b1_191 {p : Program} {l : Launch} {e : Env} {s : State} {m : MethodId} {args : Array Value} {below : List Frame} {meth : Method} {c : Code} {T0 : State} {locs : List Loc} {Z : State} {a0 : Array Value} {h0 : Heap} {n0 : Nat} {P : Option Value → Heap → Prop} (x0 : Int32) (X0 : Stand p l e ({ frames := 0, cells := 0, slots := 0, locals := 0 } : Room) s m args below meth c T0 locs 0 0) (hx : p.tables.exec = Jvm.exec) (hZ : Z.Warmed39 s.vm) (hw : ∀ d ∈ tables_1, d.before a0 Z = true) (hby : c.code = prog_46_method_13_code) (hml : c.maxLocals = 1) (hown : s.vm.findClass "com/example/lehre/lehre/XmlNames" = some m.cls) (hret : meth.sig.returnType = some .boolean) (hlk : meth.locks = false) (e0 : T0.heap = h0) (Z0 : n0 ≤ h0.size) (N0 : Fr n0 locs) (hP : P (some (.int (f1_191 x0))) h0) :
    own_Goes p e below s n0 0 0 P (T0.setTop (mkF m 191 #[.val (.int x0)] [])) := by
  rw [f1_191] at hP
  refine own_Goes.pre (fun t kt => ?_) (own_retN X0 hx hlk hret (by simp) (hb hby d1_196) N0 (by rw [e0]; exact hP) (by decide) (by decide) (Ls := #[.val (.int x0)]) (rest := []) (z := (1 : Int32)))
  show Steps p.tables e below (T0.setTop (mkF m 191 #[.val (.int x0)] [])) _
  refine XS.iconst X0.here hx rfl (hb hby d1_191) ?_
  show Steps p.tables e below (T0.setTop (mkF m 192 #[.val (.int x0)] [(.int (1 : Int32))])) _
  refine XS.goto X0.here hx rfl (pc0 := 192) (pc' := 196) rfl (hb hby d1_192) (by decide) (by decide) ?_
  exact kt
def f1_195 (x0 : Int32) : Int32 := (0 : Int32)
set_option maxRecDepth 65536 in
set_option maxHeartbeats 40000000 in
theorem b1_195 {p : Program} {l : Launch} {e : Env} {s : State} {m : MethodId} {args : Array Value} {below : List Frame} {meth : Method} {c : Code} {T0 : State} {locs : List Loc} {Z : State} {a0 : Array Value} {h0 : Heap} {n0 : Nat} {P : Option Value → Heap → Prop} (x0 : Int32) (X0 : Stand p l e ({ frames := 0, cells := 0, slots := 0, locals := 0 } : Room) s m args below meth c T0 locs 0 0) (hx : p.tables.exec = Jvm.exec) (hZ : Z.Warmed39 s.vm) (hw : ∀ d ∈ tables_1, d.before a0 Z = true) (hby : c.code = prog_46_method_13_code) (hml : c.maxLocals = 1) (hown : s.vm.findClass "com/example/lehre/lehre/XmlNames" = some m.cls) (hret : meth.sig.returnType = some .boolean) (hlk : meth.locks = false) (e0 : T0.heap = h0) (Z0 : n0 ≤ h0.size) (N0 : Fr n0 locs) (hP : P (some (.int (f1_195 x0))) h0) :
    own_Goes p e below s n0 0 0 P (T0.setTop (mkF m 195 #[.val (.int x0)] [])) := by
  rw [f1_195] at hP
  refine own_Goes.pre (fun t kt => ?_) (own_retN X0 hx hlk hret (by simp) (hb hby d1_196) N0 (by rw [e0]; exact hP) (by decide) (by decide) (Ls := #[.val (.int x0)]) (rest := []) (z := (0 : Int32)))
  show Steps p.tables e below (T0.setTop (mkF m 195 #[.val (.int x0)] [])) _
  refine XS.iconst X0.here hx rfl (hb hby d1_195) ?_
  exact kt
def f1_185 (x0 : Int32) : Int32 := if (983039 : Int32) < x0 then (f1_195 x0) else (f1_191 x0)
set_option maxRecDepth 65536 in
set_option maxHeartbeats 40000000 in
theorem b1_185 {p : Program} {l : Launch} {e : Env} {s : State} {m : MethodId} {args : Array Value} {below : List Frame} {meth : Method} {c : Code} {T0 : State} {locs : List Loc} {Z : State} {a0 : Array Value} {h0 : Heap} {n0 : Nat} {P : Option Value → Heap → Prop} (x0 : Int32) (X0 : Stand p l e ({ frames := 0, cells := 0, slots := 0, locals := 0 } : Room) s m args below meth c T0 locs 0 0) (hx : p.tables.exec = Jvm.exec) (hZ : Z.Warmed39 s.vm) (hw : ∀ d ∈ tables_1, d.before a0 Z = true) (hby : c.code = prog_46_method_13_code) (hml : c.maxLocals = 1) (hown : s.vm.findClass "com/example/lehre/lehre/XmlNames" = some m.cls) (hret : meth.sig.returnType = some .boolean) (hlk : meth.locks = false) (e0 : T0.heap = h0) (Z0 : n0 ≤ h0.size) (N0 : Fr n0 locs) (hP : P (some (.int (f1_185 x0))) h0) :
    own_Goes p e below s n0 0 0 P (T0.setTop (mkF m 185 #[.val (.int x0)] [])) := by
  have pre1 : ∀ t, Steps p.tables e below (T0.setTop (mkF m 188 #[.val (.int x0)] [(.int (983039 : Int32)), (.int x0)])) t → Steps p.tables e below (T0.setTop (mkF m 185 #[.val (.int x0)] [])) t := fun t kt => by
    show Steps p.tables e below (T0.setTop (mkF m 185 #[.val (.int x0)] [])) _
    refine XS.iloadN X0.here hx rfl (hb hby d1_185) rfl ?_
    show Steps p.tables e below (T0.setTop (mkF m 186 #[.val (.int x0)] [(.int x0)])) _
    refine X0.ldcInt hx hown (mvT hZ (hw _ (List.mem_of_getElem? (i := 26) rfl))) (g := (mkF m 186 #[.val (.int x0)] [(.int x0)])) rfl (hb hby d1_186) _ ?_
    exact kt
  refine own_Goes.pre pre1 ?_
  by_cases hc : (983039 : Int32) < x0
  · rw [f1_185, if_pos hc] at hP
    refine own_Goes.pre (fun t kt => ?_) (b1_195 x0 X0 hx hZ hw hby hml hown hret hlk e0 Z0 N0 hP)
    show Steps p.tables e below (T0.setTop (mkF m 188 #[.val (.int x0)] [(.int (983039 : Int32)), (.int x0)])) _
    refine XS.icmpYes X0.here hx rfl (pc0 := 188) (pc' := 195) rfl (hb hby d1_188) rfl (tlt hc).2.2.1 (by decide) (by decide) ?_
    exact kt
  · rw [f1_185, if_neg hc] at hP
    refine own_Goes.pre (fun t kt => ?_) (b1_191 x0 X0 hx hZ hw hby hml hown hret hlk e0 Z0 N0 hP)
    show Steps p.tables e below (T0.setTop (mkF m 188 #[.val (.int x0)] [(.int (983039 : Int32)), (.int x0)])) _
    refine XS.icmpNo X0.here hx rfl (hb hby d1_188) rfl (flt hc).2.2.1 ?_
    exact kt
def f1_179 (x0 : Int32) : Int32 := if x0 < (65536 : Int32) then (f1_195 x0) else (f1_185 x0)
set_option maxRecDepth 65536 in
set_option maxHeartbeats 40000000 in
theorem b1_179 {p : Program} {l : Launch} {e : Env} {s : State} {m : MethodId} {args : Array Value} {below : List Frame} {meth : Method} {c : Code} {T0 : State} {locs : List Loc} {Z : State} {a0 : Array Value} {h0 : Heap} {n0 : Nat} {P : Option Value → Heap → Prop} (x0 : Int32) (X0 : Stand p l e ({ frames := 0, cells := 0, slots := 0, locals := 0 } : Room) s m args below meth c T0 locs 0 0) (hx : p.tables.exec = Jvm.exec) (hZ : Z.Warmed39 s.vm) (hw : ∀ d ∈ tables_1, d.before a0 Z = true) (hby : c.code = prog_46_method_13_code) (hml : c.maxLocals = 1) (hown : s.vm.findClass "com/example/lehre/lehre/XmlNames" = some m.cls) (hret : meth.sig.returnType = some .boolean) (hlk : meth.locks = false) (e0 : T0.heap = h0) (Z0 : n0 ≤ h0.size) (N0 : Fr n0 locs) (hP : P (some (.int (f1_179 x0))) h0) :
    own_Goes p e below s n0 0 0 P (T0.setTop (mkF m 179 #[.val (.int x0)] [])) := by
  have pre1 : ∀ t, Steps p.tables e below (T0.setTop (mkF m 182 #[.val (.int x0)] [(.int (65536 : Int32)), (.int x0)])) t → Steps p.tables e below (T0.setTop (mkF m 179 #[.val (.int x0)] [])) t := fun t kt => by
    show Steps p.tables e below (T0.setTop (mkF m 179 #[.val (.int x0)] [])) _
    refine XS.iloadN X0.here hx rfl (hb hby d1_179) rfl ?_
    show Steps p.tables e below (T0.setTop (mkF m 180 #[.val (.int x0)] [(.int x0)])) _
    refine X0.ldcInt hx hown (mvT hZ (hw _ (List.mem_of_getElem? (i := 15) rfl))) (g := (mkF m 180 #[.val (.int x0)] [(.int x0)])) rfl (hb hby d1_180) _ ?_
    exact kt
  refine own_Goes.pre pre1 ?_
  by_cases hc : x0 < (65536 : Int32)
  · rw [f1_179, if_pos hc] at hP
    refine own_Goes.pre (fun t kt => ?_) (b1_195 x0 X0 hx hZ hw hby hml hown hret hlk e0 Z0 N0 hP)
    show Steps p.tables e below (T0.setTop (mkF m 182 #[.val (.int x0)] [(.int (65536 : Int32)), (.int x0)])) _
    refine XS.icmpYes X0.here hx rfl (pc0 := 182) (pc' := 195) rfl (hb hby d1_182) rfl (tlt hc).1 (by decide) (by decide) ?_
    exact kt
  · rw [f1_179, if_neg hc] at hP
    refine own_Goes.pre (fun t kt => ?_) (b1_185 x0 X0 hx hZ hw hby hml hown hret hlk e0 Z0 N0 hP)
    show Steps p.tables e below (T0.setTop (mkF m 182 #[.val (.int x0)] [(.int (65536 : Int32)), (.int x0)])) _
    refine XS.icmpNo X0.here hx rfl (hb hby d1_182) rfl (flt hc).1 ?_
    exact kt
def f1_173 (x0 : Int32) : Int32 := if (65533 : Int32) < x0 then (f1_179 x0) else (f1_191 x0)
set_option maxRecDepth 65536 in
set_option maxHeartbeats 40000000 in
theorem b1_173 {p : Program} {l : Launch} {e : Env} {s : State} {m : MethodId} {args : Array Value} {below : List Frame} {meth : Method} {c : Code} {T0 : State} {locs : List Loc} {Z : State} {a0 : Array Value} {h0 : Heap} {n0 : Nat} {P : Option Value → Heap → Prop} (x0 : Int32) (X0 : Stand p l e ({ frames := 0, cells := 0, slots := 0, locals := 0 } : Room) s m args below meth c T0 locs 0 0) (hx : p.tables.exec = Jvm.exec) (hZ : Z.Warmed39 s.vm) (hw : ∀ d ∈ tables_1, d.before a0 Z = true) (hby : c.code = prog_46_method_13_code) (hml : c.maxLocals = 1) (hown : s.vm.findClass "com/example/lehre/lehre/XmlNames" = some m.cls) (hret : meth.sig.returnType = some .boolean) (hlk : meth.locks = false) (e0 : T0.heap = h0) (Z0 : n0 ≤ h0.size) (N0 : Fr n0 locs) (hP : P (some (.int (f1_173 x0))) h0) :
    own_Goes p e below s n0 0 0 P (T0.setTop (mkF m 173 #[.val (.int x0)] [])) := by
  have pre1 : ∀ t, Steps p.tables e below (T0.setTop (mkF m 176 #[.val (.int x0)] [(.int (65533 : Int32)), (.int x0)])) t → Steps p.tables e below (T0.setTop (mkF m 173 #[.val (.int x0)] [])) t := fun t kt => by
    show Steps p.tables e below (T0.setTop (mkF m 173 #[.val (.int x0)] [])) _
    refine XS.iloadN X0.here hx rfl (hb hby d1_173) rfl ?_
    show Steps p.tables e below (T0.setTop (mkF m 174 #[.val (.int x0)] [(.int x0)])) _
    refine X0.ldcInt hx hown (mvT hZ (hw _ (List.mem_of_getElem? (i := 25) rfl))) (g := (mkF m 174 #[.val (.int x0)] [(.int x0)])) rfl (hb hby d1_174) _ ?_
    exact kt
  refine own_Goes.pre pre1 ?_
  by_cases hc : (65533 : Int32) < x0
  · rw [f1_173, if_pos hc] at hP
    refine own_Goes.pre (fun t kt => ?_) (b1_179 x0 X0 hx hZ hw hby hml hown hret hlk e0 Z0 N0 hP)
    show Steps p.tables e below (T0.setTop (mkF m 176 #[.val (.int x0)] [(.int (65533 : Int32)), (.int x0)])) _
    refine XS.icmpNo X0.here hx rfl (hb hby d1_176) rfl (tlt hc).2.2.2 ?_
    exact kt
  · rw [f1_173, if_neg hc] at hP
    refine own_Goes.pre (fun t kt => ?_) (b1_191 x0 X0 hx hZ hw hby hml hown hret hlk e0 Z0 N0 hP)
    show Steps p.tables e below (T0.setTop (mkF m 176 #[.val (.int x0)] [(.int (65533 : Int32)), (.int x0)])) _
    refine XS.icmpYes X0.here hx rfl (pc0 := 176) (pc' := 191) rfl (hb hby d1_176) rfl (flt hc).2.2.2 (by decide) (by decide) ?_
    exact kt
def f1_167 (x0 : Int32) : Int32 := if x0 < (65008 : Int32) then (f1_179 x0) else (f1_173 x0)
set_option maxRecDepth 65536 in
set_option maxHeartbeats 40000000 in
theorem b1_167 {p : Program} {l : Launch} {e : Env} {s : State} {m : MethodId} {args : Array Value} {below : List Frame} {meth : Method} {c : Code} {T0 : State} {locs : List Loc} {Z : State} {a0 : Array Value} {h0 : Heap} {n0 : Nat} {P : Option Value → Heap → Prop} (x0 : Int32) (X0 : Stand p l e ({ frames := 0, cells := 0, slots := 0, locals := 0 } : Room) s m args below meth c T0 locs 0 0) (hx : p.tables.exec = Jvm.exec) (hZ : Z.Warmed39 s.vm) (hw : ∀ d ∈ tables_1, d.before a0 Z = true) (hby : c.code = prog_46_method_13_code) (hml : c.maxLocals = 1) (hown : s.vm.findClass "com/example/lehre/lehre/XmlNames" = some m.cls) (hret : meth.sig.returnType = some .boolean) (hlk : meth.locks = false) (e0 : T0.heap = h0) (Z0 : n0 ≤ h0.size) (N0 : Fr n0 locs) (hP : P (some (.int (f1_167 x0))) h0) :
    own_Goes p e below s n0 0 0 P (T0.setTop (mkF m 167 #[.val (.int x0)] [])) := by
  have pre1 : ∀ t, Steps p.tables e below (T0.setTop (mkF m 170 #[.val (.int x0)] [(.int (65008 : Int32)), (.int x0)])) t → Steps p.tables e below (T0.setTop (mkF m 167 #[.val (.int x0)] [])) t := fun t kt => by
    show Steps p.tables e below (T0.setTop (mkF m 167 #[.val (.int x0)] [])) _
    refine XS.iloadN X0.here hx rfl (hb hby d1_167) rfl ?_
    show Steps p.tables e below (T0.setTop (mkF m 168 #[.val (.int x0)] [(.int x0)])) _
    refine X0.ldcInt hx hown (mvT hZ (hw _ (List.mem_of_getElem? (i := 14) rfl))) (g := (mkF m 168 #[.val (.int x0)] [(.int x0)])) rfl (hb hby d1_168) _ ?_
    exact kt
  refine own_Goes.pre pre1 ?_
  by_cases hc : x0 < (65008 : Int32)
  · rw [f1_167, if_pos hc] at hP
    refine own_Goes.pre (fun t kt => ?_) (b1_179 x0 X0 hx hZ hw hby hml hown hret hlk e0 Z0 N0 hP)
    show Steps p.tables e below (T0.setTop (mkF m 170 #[.val (.int x0)] [(.int (65008 : Int32)), (.int x0)])) _
    refine XS.icmpYes X0.here hx rfl (pc0 := 170) (pc' := 179) rfl (hb hby d1_170) rfl (tlt hc).1 (by decide) (by decide) ?_
    exact kt
  · rw [f1_167, if_neg hc] at hP
    refine own_Goes.pre (fun t kt => ?_) (b1_173 x0 X0 hx hZ hw hby hml hown hret hlk e0 Z0 N0 hP)
    show Steps p.tables e below (T0.setTop (mkF m 170 #[.val (.int x0)] [(.int (65008 : Int32)), (.int x0)])) _
    refine XS.icmpNo X0.here hx rfl (hb hby d1_170) rfl (flt hc).1 ?_
    exact kt
def f1_161 (x0 : Int32) : Int32 := if (64975 : Int32) < x0 then (f1_167 x0) else (f1_191 x0)
set_option maxRecDepth 65536 in
set_option maxHeartbeats 40000000 in
theorem b1_161 {p : Program} {l : Launch} {e : Env} {s : State} {m : MethodId} {args : Array Value} {below : List Frame} {meth : Method} {c : Code} {T0 : State} {locs : List Loc} {Z : State} {a0 : Array Value} {h0 : Heap} {n0 : Nat} {P : Option Value → Heap → Prop} (x0 : Int32) (X0 : Stand p l e ({ frames := 0, cells := 0, slots := 0, locals := 0 } : Room) s m args below meth c T0 locs 0 0) (hx : p.tables.exec = Jvm.exec) (hZ : Z.Warmed39 s.vm) (hw : ∀ d ∈ tables_1, d.before a0 Z = true) (hby : c.code = prog_46_method_13_code) (hml : c.maxLocals = 1) (hown : s.vm.findClass "com/example/lehre/lehre/XmlNames" = some m.cls) (hret : meth.sig.returnType = some .boolean) (hlk : meth.locks = false) (e0 : T0.heap = h0) (Z0 : n0 ≤ h0.size) (N0 : Fr n0 locs) (hP : P (some (.int (f1_161 x0))) h0) :
    own_Goes p e below s n0 0 0 P (T0.setTop (mkF m 161 #[.val (.int x0)] [])) := by
  have pre1 : ∀ t, Steps p.tables e below (T0.setTop (mkF m 164 #[.val (.int x0)] [(.int (64975 : Int32)), (.int x0)])) t → Steps p.tables e below (T0.setTop (mkF m 161 #[.val (.int x0)] [])) t := fun t kt => by
    show Steps p.tables e below (T0.setTop (mkF m 161 #[.val (.int x0)] [])) _
    refine XS.iloadN X0.here hx rfl (hb hby d1_161) rfl ?_
    show Steps p.tables e below (T0.setTop (mkF m 162 #[.val (.int x0)] [(.int x0)])) _
    refine X0.ldcInt hx hown (mvT hZ (hw _ (List.mem_of_getElem? (i := 24) rfl))) (g := (mkF m 162 #[.val (.int x0)] [(.int x0)])) rfl (hb hby d1_162) _ ?_
    exact kt
  refine own_Goes.pre pre1 ?_
  by_cases hc : (64975 : Int32) < x0
  · rw [f1_161, if_pos hc] at hP
    refine own_Goes.pre (fun t kt => ?_) (b1_167 x0 X0 hx hZ hw hby hml hown hret hlk e0 Z0 N0 hP)
    show Steps p.tables e below (T0.setTop (mkF m 164 #[.val (.int x0)] [(.int (64975 : Int32)), (.int x0)])) _
    refine XS.icmpNo X0.here hx rfl (hb hby d1_164) rfl (tlt hc).2.2.2 ?_
    exact kt
  · rw [f1_161, if_neg hc] at hP
    refine own_Goes.pre (fun t kt => ?_) (b1_191 x0 X0 hx hZ hw hby hml hown hret hlk e0 Z0 N0 hP)
    show Steps p.tables e below (T0.setTop (mkF m 164 #[.val (.int x0)] [(.int (64975 : Int32)), (.int x0)])) _
    refine XS.icmpYes X0.here hx rfl (pc0 := 164) (pc' := 191) rfl (hb hby d1_164) rfl (flt hc).2.2.2 (by decide) (by decide) ?_
    exact kt
def f1_155 (x0 : Int32) : Int32 := if x0 < (63744 : Int32) then (f1_167 x0) else (f1_161 x0)
set_option maxRecDepth 65536 in
set_option maxHeartbeats 40000000 in
theorem b1_155 {p : Program} {l : Launch} {e : Env} {s : State} {m : MethodId} {args : Array Value} {below : List Frame} {meth : Method} {c : Code} {T0 : State} {locs : List Loc} {Z : State} {a0 : Array Value} {h0 : Heap} {n0 : Nat} {P : Option Value → Heap → Prop} (x0 : Int32) (X0 : Stand p l e ({ frames := 0, cells := 0, slots := 0, locals := 0 } : Room) s m args below meth c T0 locs 0 0) (hx : p.tables.exec = Jvm.exec) (hZ : Z.Warmed39 s.vm) (hw : ∀ d ∈ tables_1, d.before a0 Z = true) (hby : c.code = prog_46_method_13_code) (hml : c.maxLocals = 1) (hown : s.vm.findClass "com/example/lehre/lehre/XmlNames" = some m.cls) (hret : meth.sig.returnType = some .boolean) (hlk : meth.locks = false) (e0 : T0.heap = h0) (Z0 : n0 ≤ h0.size) (N0 : Fr n0 locs) (hP : P (some (.int (f1_155 x0))) h0) :
    own_Goes p e below s n0 0 0 P (T0.setTop (mkF m 155 #[.val (.int x0)] [])) := by
  have pre1 : ∀ t, Steps p.tables e below (T0.setTop (mkF m 158 #[.val (.int x0)] [(.int (63744 : Int32)), (.int x0)])) t → Steps p.tables e below (T0.setTop (mkF m 155 #[.val (.int x0)] [])) t := fun t kt => by
    show Steps p.tables e below (T0.setTop (mkF m 155 #[.val (.int x0)] [])) _
    refine XS.iloadN X0.here hx rfl (hb hby d1_155) rfl ?_
    show Steps p.tables e below (T0.setTop (mkF m 156 #[.val (.int x0)] [(.int x0)])) _
    refine X0.ldcInt hx hown (mvT hZ (hw _ (List.mem_of_getElem? (i := 13) rfl))) (g := (mkF m 156 #[.val (.int x0)] [(.int x0)])) rfl (hb hby d1_156) _ ?_
    exact kt
  refine own_Goes.pre pre1 ?_
  by_cases hc : x0 < (63744 : Int32)
  · rw [f1_155, if_pos hc] at hP
    refine own_Goes.pre (fun t kt => ?_) (b1_167 x0 X0 hx hZ hw hby hml hown hret hlk e0 Z0 N0 hP)
    show Steps p.tables e below (T0.setTop (mkF m 158 #[.val (.int x0)] [(.int (63744 : Int32)), (.int x0)])) _
    refine XS.icmpYes X0.here hx rfl (pc0 := 158) (pc' := 167) rfl (hb hby d1_158) rfl (tlt hc).1 (by decide) (by decide) ?_
    exact kt
  · rw [f1_155, if_neg hc] at hP
    refine own_Goes.pre (fun t kt => ?_) (b1_161 x0 X0 hx hZ hw hby hml hown hret hlk e0 Z0 N0 hP)
    show Steps p.tables e below (T0.setTop (mkF m 158 #[.val (.int x0)] [(.int (63744 : Int32)), (.int x0)])) _
    refine XS.icmpNo X0.here hx rfl (hb hby d1_158) rfl (flt hc).1 ?_
    exact kt
def f1_149 (x0 : Int32) : Int32 := if (55295 : Int32) < x0 then (f1_155 x0) else (f1_191 x0)
set_option maxRecDepth 65536 in
set_option maxHeartbeats 40000000 in
theorem b1_149 {p : Program} {l : Launch} {e : Env} {s : State} {m : MethodId} {args : Array Value} {below : List Frame} {meth : Method} {c : Code} {T0 : State} {locs : List Loc} {Z : State} {a0 : Array Value} {h0 : Heap} {n0 : Nat} {P : Option Value → Heap → Prop} (x0 : Int32) (X0 : Stand p l e ({ frames := 0, cells := 0, slots := 0, locals := 0 } : Room) s m args below meth c T0 locs 0 0) (hx : p.tables.exec = Jvm.exec) (hZ : Z.Warmed39 s.vm) (hw : ∀ d ∈ tables_1, d.before a0 Z = true) (hby : c.code = prog_46_method_13_code) (hml : c.maxLocals = 1) (hown : s.vm.findClass "com/example/lehre/lehre/XmlNames" = some m.cls) (hret : meth.sig.returnType = some .boolean) (hlk : meth.locks = false) (e0 : T0.heap = h0) (Z0 : n0 ≤ h0.size) (N0 : Fr n0 locs) (hP : P (some (.int (f1_149 x0))) h0) :
    own_Goes p e below s n0 0 0 P (T0.setTop (mkF m 149 #[.val (.int x0)] [])) := by
  have pre1 : ∀ t, Steps p.tables e below (T0.setTop (mkF m 152 #[.val (.int x0)] [(.int (55295 : Int32)), (.int x0)])) t → Steps p.tables e below (T0.setTop (mkF m 149 #[.val (.int x0)] [])) t := fun t kt => by
    show Steps p.tables e below (T0.setTop (mkF m 149 #[.val (.int x0)] [])) _
    refine XS.iloadN X0.here hx rfl (hb hby d1_149) rfl ?_
    show Steps p.tables e below (T0.setTop (mkF m 150 #[.val (.int x0)] [(.int x0)])) _
    refine X0.ldcInt hx hown (mvT hZ (hw _ (List.mem_of_getElem? (i := 23) rfl))) (g := (mkF m 150 #[.val (.int x0)] [(.int x0)])) rfl (hb hby d1_150) _ ?_
    exact kt
  refine own_Goes.pre pre1 ?_
  by_cases hc : (55295 : Int32) < x0
  · rw [f1_149, if_pos hc] at hP
    refine own_Goes.pre (fun t kt => ?_) (b1_155 x0 X0 hx hZ hw hby hml hown hret hlk e0 Z0 N0 hP)
    show Steps p.tables e below (T0.setTop (mkF m 152 #[.val (.int x0)] [(.int (55295 : Int32)), (.int x0)])) _
    refine XS.icmpNo X0.here hx rfl (hb hby d1_152) rfl (tlt hc).2.2.2 ?_
    exact kt
  · rw [f1_149, if_neg hc] at hP
    refine own_Goes.pre (fun t kt => ?_) (b1_191 x0 X0 hx hZ hw hby hml hown hret hlk e0 Z0 N0 hP)
    show Steps p.tables e below (T0.setTop (mkF m 152 #[.val (.int x0)] [(.int (55295 : Int32)), (.int x0)])) _
    refine XS.icmpYes X0.here hx rfl (pc0 := 152) (pc' := 191) rfl (hb hby d1_152) rfl (flt hc).2.2.2 (by decide) (by decide) ?_
    exact kt
def f1_142 (x0 : Int32) : Int32 := if x0 < (12289 : Int32) then (f1_155 x0) else (f1_149 x0)
set_option maxRecDepth 65536 in
set_option maxHeartbeats 40000000 in
theorem b1_142 {p : Program} {l : Launch} {e : Env} {s : State} {m : MethodId} {args : Array Value} {below : List Frame} {meth : Method} {c : Code} {T0 : State} {locs : List Loc} {Z : State} {a0 : Array Value} {h0 : Heap} {n0 : Nat} {P : Option Value → Heap → Prop} (x0 : Int32) (X0 : Stand p l e ({ frames := 0, cells := 0, slots := 0, locals := 0 } : Room) s m args below meth c T0 locs 0 0) (hx : p.tables.exec = Jvm.exec) (hZ : Z.Warmed39 s.vm) (hw : ∀ d ∈ tables_1, d.before a0 Z = true) (hby : c.code = prog_46_method_13_code) (hml : c.maxLocals = 1) (hown : s.vm.findClass "com/example/lehre/lehre/XmlNames" = some m.cls) (hret : meth.sig.returnType = some .boolean) (hlk : meth.locks = false) (e0 : T0.heap = h0) (Z0 : n0 ≤ h0.size) (N0 : Fr n0 locs) (hP : P (some (.int (f1_142 x0))) h0) :
    own_Goes p e below s n0 0 0 P (T0.setTop (mkF m 142 #[.val (.int x0)] [])) := by
  have pre1 : ∀ t, Steps p.tables e below (T0.setTop (mkF m 146 #[.val (.int x0)] [(.int (12289 : Int32)), (.int x0)])) t → Steps p.tables e below (T0.setTop (mkF m 142 #[.val (.int x0)] [])) t := fun t kt => by
    show Steps p.tables e below (T0.setTop (mkF m 142 #[.val (.int x0)] [])) _
    refine XS.iloadN X0.here hx rfl (hb hby d1_142) rfl ?_
    show Steps p.tables e below (T0.setTop (mkF m 143 #[.val (.int x0)] [(.int x0)])) _
    refine XS.sipush X0.here hx rfl (hb hby d1_143) ?_
    exact kt
  refine own_Goes.pre pre1 ?_
  by_cases hc : x0 < (12289 : Int32)
  · rw [f1_142, if_pos hc] at hP
    refine own_Goes.pre (fun t kt => ?_) (b1_155 x0 X0 hx hZ hw hby hml hown hret hlk e0 Z0 N0 hP)
    show Steps p.tables e below (T0.setTop (mkF m 146 #[.val (.int x0)] [(.int (12289 : Int32)), (.int x0)])) _
    refine XS.icmpYes X0.here hx rfl (pc0 := 146) (pc' := 155) rfl (hb hby d1_146) rfl (tlt hc).1 (by decide) (by decide) ?_
    exact kt
  · rw [f1_142, if_neg hc] at hP
    refine own_Goes.pre (fun t kt => ?_) (b1_149 x0 X0 hx hZ hw hby hml hown hret hlk e0 Z0 N0 hP)
    show Steps p.tables e below (T0.setTop (mkF m 146 #[.val (.int x0)] [(.int (12289 : Int32)), (.int x0)])) _
    refine XS.icmpNo X0.here hx rfl (hb hby d1_146) rfl (flt hc).1 ?_
    exact kt
def f1_135 (x0 : Int32) : Int32 := if (12271 : Int32) < x0 then (f1_142 x0) else (f1_191 x0)
set_option maxRecDepth 65536 in
set_option maxHeartbeats 40000000 in
theorem b1_135 {p : Program} {l : Launch} {e : Env} {s : State} {m : MethodId} {args : Array Value} {below : List Frame} {meth : Method} {c : Code} {T0 : State} {locs : List Loc} {Z : State} {a0 : Array Value} {h0 : Heap} {n0 : Nat} {P : Option Value → Heap → Prop} (x0 : Int32) (X0 : Stand p l e ({ frames := 0, cells := 0, slots := 0, locals := 0 } : Room) s m args below meth c T0 locs 0 0) (hx : p.tables.exec = Jvm.exec) (hZ : Z.Warmed39 s.vm) (hw : ∀ d ∈ tables_1, d.before a0 Z = true) (hby : c.code = prog_46_method_13_code) (hml : c.maxLocals = 1) (hown : s.vm.findClass "com/example/lehre/lehre/XmlNames" = some m.cls) (hret : meth.sig.returnType = some .boolean) (hlk : meth.locks = false) (e0 : T0.heap = h0) (Z0 : n0 ≤ h0.size) (N0 : Fr n0 locs) (hP : P (some (.int (f1_135 x0))) h0) :
    own_Goes p e below s n0 0 0 P (T0.setTop (mkF m 135 #[.val (.int x0)] [])) := by
  have pre1 : ∀ t, Steps p.tables e below (T0.setTop (mkF m 139 #[.val (.int x0)] [(.int (12271 : Int32)), (.int x0)])) t → Steps p.tables e below (T0.setTop (mkF m 135 #[.val (.int x0)] [])) t := fun t kt => by
    show Steps p.tables e below (T0.setTop (mkF m 135 #[.val (.int x0)] [])) _
    refine XS.iloadN X0.here hx rfl (hb hby d1_135) rfl ?_
    show Steps p.tables e below (T0.setTop (mkF m 136 #[.val (.int x0)] [(.int x0)])) _
    refine XS.sipush X0.here hx rfl (hb hby d1_136) ?_
    exact kt
  refine own_Goes.pre pre1 ?_
  by_cases hc : (12271 : Int32) < x0
  · rw [f1_135, if_pos hc] at hP
    refine own_Goes.pre (fun t kt => ?_) (b1_142 x0 X0 hx hZ hw hby hml hown hret hlk e0 Z0 N0 hP)
    show Steps p.tables e below (T0.setTop (mkF m 139 #[.val (.int x0)] [(.int (12271 : Int32)), (.int x0)])) _
    refine XS.icmpNo X0.here hx rfl (hb hby d1_139) rfl (tlt hc).2.2.2 ?_
    exact kt
  · rw [f1_135, if_neg hc] at hP
    refine own_Goes.pre (fun t kt => ?_) (b1_191 x0 X0 hx hZ hw hby hml hown hret hlk e0 Z0 N0 hP)
    show Steps p.tables e below (T0.setTop (mkF m 139 #[.val (.int x0)] [(.int (12271 : Int32)), (.int x0)])) _
    refine XS.icmpYes X0.here hx rfl (pc0 := 139) (pc' := 191) rfl (hb hby d1_139) rfl (flt hc).2.2.2 (by decide) (by decide) ?_
    exact kt
def f1_128 (x0 : Int32) : Int32 := if x0 < (11264 : Int32) then (f1_142 x0) else (f1_135 x0)
set_option maxRecDepth 65536 in
set_option maxHeartbeats 40000000 in
theorem b1_128 {p : Program} {l : Launch} {e : Env} {s : State} {m : MethodId} {args : Array Value} {below : List Frame} {meth : Method} {c : Code} {T0 : State} {locs : List Loc} {Z : State} {a0 : Array Value} {h0 : Heap} {n0 : Nat} {P : Option Value → Heap → Prop} (x0 : Int32) (X0 : Stand p l e ({ frames := 0, cells := 0, slots := 0, locals := 0 } : Room) s m args below meth c T0 locs 0 0) (hx : p.tables.exec = Jvm.exec) (hZ : Z.Warmed39 s.vm) (hw : ∀ d ∈ tables_1, d.before a0 Z = true) (hby : c.code = prog_46_method_13_code) (hml : c.maxLocals = 1) (hown : s.vm.findClass "com/example/lehre/lehre/XmlNames" = some m.cls) (hret : meth.sig.returnType = some .boolean) (hlk : meth.locks = false) (e0 : T0.heap = h0) (Z0 : n0 ≤ h0.size) (N0 : Fr n0 locs) (hP : P (some (.int (f1_128 x0))) h0) :
    own_Goes p e below s n0 0 0 P (T0.setTop (mkF m 128 #[.val (.int x0)] [])) := by
  have pre1 : ∀ t, Steps p.tables e below (T0.setTop (mkF m 132 #[.val (.int x0)] [(.int (11264 : Int32)), (.int x0)])) t → Steps p.tables e below (T0.setTop (mkF m 128 #[.val (.int x0)] [])) t := fun t kt => by
    show Steps p.tables e below (T0.setTop (mkF m 128 #[.val (.int x0)] [])) _
    refine XS.iloadN X0.here hx rfl (hb hby d1_128) rfl ?_
    show Steps p.tables e below (T0.setTop (mkF m 129 #[.val (.int x0)] [(.int x0)])) _
    refine XS.sipush X0.here hx rfl (hb hby d1_129) ?_
    exact kt
  refine own_Goes.pre pre1 ?_
  by_cases hc : x0 < (11264 : Int32)
  · rw [f1_128, if_pos hc] at hP
    refine own_Goes.pre (fun t kt => ?_) (b1_142 x0 X0 hx hZ hw hby hml hown hret hlk e0 Z0 N0 hP)
    show Steps p.tables e below (T0.setTop (mkF m 132 #[.val (.int x0)] [(.int (11264 : Int32)), (.int x0)])) _
    refine XS.icmpYes X0.here hx rfl (pc0 := 132) (pc' := 142) rfl (hb hby d1_132) rfl (tlt hc).1 (by decide) (by decide) ?_
    exact kt
  · rw [f1_128, if_neg hc] at hP
    refine own_Goes.pre (fun t kt => ?_) (b1_135 x0 X0 hx hZ hw hby hml hown hret hlk e0 Z0 N0 hP)
    show Steps p.tables e below (T0.setTop (mkF m 132 #[.val (.int x0)] [(.int (11264 : Int32)), (.int x0)])) _
    refine XS.icmpNo X0.here hx rfl (hb hby d1_132) rfl (flt hc).1 ?_
    exact kt
def f1_121 (x0 : Int32) : Int32 := if (8591 : Int32) < x0 then (f1_128 x0) else (f1_191 x0)
set_option maxRecDepth 65536 in
set_option maxHeartbeats 40000000 in
theorem b1_121 {p : Program} {l : Launch} {e : Env} {s : State} {m : MethodId} {args : Array Value} {below : List Frame} {meth : Method} {c : Code} {T0 : State} {locs : List Loc} {Z : State} {a0 : Array Value} {h0 : Heap} {n0 : Nat} {P : Option Value → Heap → Prop} (x0 : Int32) (X0 : Stand p l e ({ frames := 0, cells := 0, slots := 0, locals := 0 } : Room) s m args below meth c T0 locs 0 0) (hx : p.tables.exec = Jvm.exec) (hZ : Z.Warmed39 s.vm) (hw : ∀ d ∈ tables_1, d.before a0 Z = true) (hby : c.code = prog_46_method_13_code) (hml : c.maxLocals = 1) (hown : s.vm.findClass "com/example/lehre/lehre/XmlNames" = some m.cls) (hret : meth.sig.returnType = some .boolean) (hlk : meth.locks = false) (e0 : T0.heap = h0) (Z0 : n0 ≤ h0.size) (N0 : Fr n0 locs) (hP : P (some (.int (f1_121 x0))) h0) :
    own_Goes p e below s n0 0 0 P (T0.setTop (mkF m 121 #[.val (.int x0)] [])) := by
  have pre1 : ∀ t, Steps p.tables e below (T0.setTop (mkF m 125 #[.val (.int x0)] [(.int (8591 : Int32)), (.int x0)])) t → Steps p.tables e below (T0.setTop (mkF m 121 #[.val (.int x0)] [])) t := fun t kt => by
    show Steps p.tables e below (T0.setTop (mkF m 121 #[.val (.int x0)] [])) _
    refine XS.iloadN X0.here hx rfl (hb hby d1_121) rfl ?_
    show Steps p.tables e below (T0.setTop (mkF m 122 #[.val (.int x0)] [(.int x0)])) _
    refine XS.sipush X0.here hx rfl (hb hby d1_122) ?_
    exact kt
  refine own_Goes.pre pre1 ?_
  by_cases hc : (8591 : Int32) < x0
  · rw [f1_121, if_pos hc] at hP
    refine own_Goes.pre (fun t kt => ?_) (b1_128 x0 X0 hx hZ hw hby hml hown hret hlk e0 Z0 N0 hP)
    show Steps p.tables e below (T0.setTop (mkF m 125 #[.val (.int x0)] [(.int (8591 : Int32)), (.int x0)])) _
    refine XS.icmpNo X0.here hx rfl (hb hby d1_125) rfl (tlt hc).2.2.2 ?_
    exact kt
  · rw [f1_121, if_neg hc] at hP
    refine own_Goes.pre (fun t kt => ?_) (b1_191 x0 X0 hx hZ hw hby hml hown hret hlk e0 Z0 N0 hP)
    show Steps p.tables e below (T0.setTop (mkF m 125 #[.val (.int x0)] [(.int (8591 : Int32)), (.int x0)])) _
    refine XS.icmpYes X0.here hx rfl (pc0 := 125) (pc' := 191) rfl (hb hby d1_125) rfl (flt hc).2.2.2 (by decide) (by decide) ?_
    exact kt
def f1_114 (x0 : Int32) : Int32 := if x0 < (8304 : Int32) then (f1_128 x0) else (f1_121 x0)
set_option maxRecDepth 65536 in
set_option maxHeartbeats 40000000 in
theorem b1_114 {p : Program} {l : Launch} {e : Env} {s : State} {m : MethodId} {args : Array Value} {below : List Frame} {meth : Method} {c : Code} {T0 : State} {locs : List Loc} {Z : State} {a0 : Array Value} {h0 : Heap} {n0 : Nat} {P : Option Value → Heap → Prop} (x0 : Int32) (X0 : Stand p l e ({ frames := 0, cells := 0, slots := 0, locals := 0 } : Room) s m args below meth c T0 locs 0 0) (hx : p.tables.exec = Jvm.exec) (hZ : Z.Warmed39 s.vm) (hw : ∀ d ∈ tables_1, d.before a0 Z = true) (hby : c.code = prog_46_method_13_code) (hml : c.maxLocals = 1) (hown : s.vm.findClass "com/example/lehre/lehre/XmlNames" = some m.cls) (hret : meth.sig.returnType = some .boolean) (hlk : meth.locks = false) (e0 : T0.heap = h0) (Z0 : n0 ≤ h0.size) (N0 : Fr n0 locs) (hP : P (some (.int (f1_114 x0))) h0) :
    own_Goes p e below s n0 0 0 P (T0.setTop (mkF m 114 #[.val (.int x0)] [])) := by
  have pre1 : ∀ t, Steps p.tables e below (T0.setTop (mkF m 118 #[.val (.int x0)] [(.int (8304 : Int32)), (.int x0)])) t → Steps p.tables e below (T0.setTop (mkF m 114 #[.val (.int x0)] [])) t := fun t kt => by
    show Steps p.tables e below (T0.setTop (mkF m 114 #[.val (.int x0)] [])) _
    refine XS.iloadN X0.here hx rfl (hb hby d1_114) rfl ?_
    show Steps p.tables e below (T0.setTop (mkF m 115 #[.val (.int x0)] [(.int x0)])) _
    refine XS.sipush X0.here hx rfl (hb hby d1_115) ?_
    exact kt
  refine own_Goes.pre pre1 ?_
  by_cases hc : x0 < (8304 : Int32)
  · rw [f1_114, if_pos hc] at hP
    refine own_Goes.pre (fun t kt => ?_) (b1_128 x0 X0 hx hZ hw hby hml hown hret hlk e0 Z0 N0 hP)
    show Steps p.tables e below (T0.setTop (mkF m 118 #[.val (.int x0)] [(.int (8304 : Int32)), (.int x0)])) _
    refine XS.icmpYes X0.here hx rfl (pc0 := 118) (pc' := 128) rfl (hb hby d1_118) rfl (tlt hc).1 (by decide) (by decide) ?_
    exact kt
  · rw [f1_114, if_neg hc] at hP
    refine own_Goes.pre (fun t kt => ?_) (b1_121 x0 X0 hx hZ hw hby hml hown hret hlk e0 Z0 N0 hP)
    show Steps p.tables e below (T0.setTop (mkF m 118 #[.val (.int x0)] [(.int (8304 : Int32)), (.int x0)])) _
    refine XS.icmpNo X0.here hx rfl (hb hby d1_118) rfl (flt hc).1 ?_
    exact kt
def f1_107 (x0 : Int32) : Int32 := if (8205 : Int32) < x0 then (f1_114 x0) else (f1_191 x0)
set_option maxRecDepth 65536 in
set_option maxHeartbeats 40000000 in
theorem b1_107 {p : Program} {l : Launch} {e : Env} {s : State} {m : MethodId} {args : Array Value} {below : List Frame} {meth : Method} {c : Code} {T0 : State} {locs : List Loc} {Z : State} {a0 : Array Value} {h0 : Heap} {n0 : Nat} {P : Option Value → Heap → Prop} (x0 : Int32) (X0 : Stand p l e ({ frames := 0, cells := 0, slots := 0, locals := 0 } : Room) s m args below meth c T0 locs 0 0) (hx : p.tables.exec = Jvm.exec) (hZ : Z.Warmed39 s.vm) (hw : ∀ d ∈ tables_1, d.before a0 Z = true) (hby : c.code = prog_46_method_13_code) (hml : c.maxLocals = 1) (hown : s.vm.findClass "com/example/lehre/lehre/XmlNames" = some m.cls) (hret : meth.sig.returnType = some .boolean) (hlk : meth.locks = false) (e0 : T0.heap = h0) (Z0 : n0 ≤ h0.size) (N0 : Fr n0 locs) (hP : P (some (.int (f1_107 x0))) h0) :
    own_Goes p e below s n0 0 0 P (T0.setTop (mkF m 107 #[.val (.int x0)] [])) := by
  have pre1 : ∀ t, Steps p.tables e below (T0.setTop (mkF m 111 #[.val (.int x0)] [(.int (8205 : Int32)), (.int x0)])) t → Steps p.tables e below (T0.setTop (mkF m 107 #[.val (.int x0)] [])) t := fun t kt => by
    show Steps p.tables e below (T0.setTop (mkF m 107 #[.val (.int x0)] [])) _
    refine XS.iloadN X0.here hx rfl (hb hby d1_107) rfl ?_
    show Steps p.tables e below (T0.setTop (mkF m 108 #[.val (.int x0)] [(.int x0)])) _
    refine XS.sipush X0.here hx rfl (hb hby d1_108) ?_
    exact kt
  refine own_Goes.pre pre1 ?_
  by_cases hc : (8205 : Int32) < x0
  · rw [f1_107, if_pos hc] at hP
    refine own_Goes.pre (fun t kt => ?_) (b1_114 x0 X0 hx hZ hw hby hml hown hret hlk e0 Z0 N0 hP)
    show Steps p.tables e below (T0.setTop (mkF m 111 #[.val (.int x0)] [(.int (8205 : Int32)), (.int x0)])) _
    refine XS.icmpNo X0.here hx rfl (hb hby d1_111) rfl (tlt hc).2.2.2 ?_
    exact kt
  · rw [f1_107, if_neg hc] at hP
    refine own_Goes.pre (fun t kt => ?_) (b1_191 x0 X0 hx hZ hw hby hml hown hret hlk e0 Z0 N0 hP)
    show Steps p.tables e below (T0.setTop (mkF m 111 #[.val (.int x0)] [(.int (8205 : Int32)), (.int x0)])) _
    refine XS.icmpYes X0.here hx rfl (pc0 := 111) (pc' := 191) rfl (hb hby d1_111) rfl (flt hc).2.2.2 (by decide) (by decide) ?_
    exact kt
def f1_100 (x0 : Int32) : Int32 := if x0 < (8204 : Int32) then (f1_114 x0) else (f1_107 x0)
set_option maxRecDepth 65536 in
set_option maxHeartbeats 40000000 in
theorem b1_100 {p : Program} {l : Launch} {e : Env} {s : State} {m : MethodId} {args : Array Value} {below : List Frame} {meth : Method} {c : Code} {T0 : State} {locs : List Loc} {Z : State} {a0 : Array Value} {h0 : Heap} {n0 : Nat} {P : Option Value → Heap → Prop} (x0 : Int32) (X0 : Stand p l e ({ frames := 0, cells := 0, slots := 0, locals := 0 } : Room) s m args below meth c T0 locs 0 0) (hx : p.tables.exec = Jvm.exec) (hZ : Z.Warmed39 s.vm) (hw : ∀ d ∈ tables_1, d.before a0 Z = true) (hby : c.code = prog_46_method_13_code) (hml : c.maxLocals = 1) (hown : s.vm.findClass "com/example/lehre/lehre/XmlNames" = some m.cls) (hret : meth.sig.returnType = some .boolean) (hlk : meth.locks = false) (e0 : T0.heap = h0) (Z0 : n0 ≤ h0.size) (N0 : Fr n0 locs) (hP : P (some (.int (f1_100 x0))) h0) :
    own_Goes p e below s n0 0 0 P (T0.setTop (mkF m 100 #[.val (.int x0)] [])) := by
  have pre1 : ∀ t, Steps p.tables e below (T0.setTop (mkF m 104 #[.val (.int x0)] [(.int (8204 : Int32)), (.int x0)])) t → Steps p.tables e below (T0.setTop (mkF m 100 #[.val (.int x0)] [])) t := fun t kt => by
    show Steps p.tables e below (T0.setTop (mkF m 100 #[.val (.int x0)] [])) _
    refine XS.iloadN X0.here hx rfl (hb hby d1_100) rfl ?_
    show Steps p.tables e below (T0.setTop (mkF m 101 #[.val (.int x0)] [(.int x0)])) _
    refine XS.sipush X0.here hx rfl (hb hby d1_101) ?_
    exact kt
  refine own_Goes.pre pre1 ?_
  by_cases hc : x0 < (8204 : Int32)
  · rw [f1_100, if_pos hc] at hP
    refine own_Goes.pre (fun t kt => ?_) (b1_114 x0 X0 hx hZ hw hby hml hown hret hlk e0 Z0 N0 hP)
    show Steps p.tables e below (T0.setTop (mkF m 104 #[.val (.int x0)] [(.int (8204 : Int32)), (.int x0)])) _
    refine XS.icmpYes X0.here hx rfl (pc0 := 104) (pc' := 114) rfl (hb hby d1_104) rfl (tlt hc).1 (by decide) (by decide) ?_
    exact kt
  · rw [f1_100, if_neg hc] at hP
    refine own_Goes.pre (fun t kt => ?_) (b1_107 x0 X0 hx hZ hw hby hml hown hret hlk e0 Z0 N0 hP)
    show Steps p.tables e below (T0.setTop (mkF m 104 #[.val (.int x0)] [(.int (8204 : Int32)), (.int x0)])) _
    refine XS.icmpNo X0.here hx rfl (hb hby d1_104) rfl (flt hc).1 ?_
    exact kt
def f1_93 (x0 : Int32) : Int32 := if (8191 : Int32) < x0 then (f1_100 x0) else (f1_191 x0)
set_option maxRecDepth 65536 in
set_option maxHeartbeats 40000000 in
theorem b1_93 {p : Program} {l : Launch} {e : Env} {s : State} {m : MethodId} {args : Array Value} {below : List Frame} {meth : Method} {c : Code} {T0 : State} {locs : List Loc} {Z : State} {a0 : Array Value} {h0 : Heap} {n0 : Nat} {P : Option Value → Heap → Prop} (x0 : Int32) (X0 : Stand p l e ({ frames := 0, cells := 0, slots := 0, locals := 0 } : Room) s m args below meth c T0 locs 0 0) (hx : p.tables.exec = Jvm.exec) (hZ : Z.Warmed39 s.vm) (hw : ∀ d ∈ tables_1, d.before a0 Z = true) (hby : c.code = prog_46_method_13_code) (hml : c.maxLocals = 1) (hown : s.vm.findClass "com/example/lehre/lehre/XmlNames" = some m.cls) (hret : meth.sig.returnType = some .boolean) (hlk : meth.locks = false) (e0 : T0.heap = h0) (Z0 : n0 ≤ h0.size) (N0 : Fr n0 locs) (hP : P (some (.int (f1_93 x0))) h0) :
    own_Goes p e below s n0 0 0 P (T0.setTop (mkF m 93 #[.val (.int x0)] [])) := by
  have pre1 : ∀ t, Steps p.tables e below (T0.setTop (mkF m 97 #[.val (.int x0)] [(.int (8191 : Int32)), (.int x0)])) t → Steps p.tables e below (T0.setTop (mkF m 93 #[.val (.int x0)] [])) t := fun t kt => by
    show Steps p.tables e below (T0.setTop (mkF m 93 #[.val (.int x0)] [])) _
    refine XS.iloadN X0.here hx rfl (hb hby d1_93) rfl ?_
    show Steps p.tables e below (T0.setTop (mkF m 94 #[.val (.int x0)] [(.int x0)])) _
    refine XS.sipush X0.here hx rfl (hb hby d1_94) ?_
    exact kt
  refine own_Goes.pre pre1 ?_
  by_cases hc : (8191 : Int32) < x0
  · rw [f1_93, if_pos hc] at hP
    refine own_Goes.pre (fun t kt => ?_) (b1_100 x0 X0 hx hZ hw hby hml hown hret hlk e0 Z0 N0 hP)
    show Steps p.tables e below (T0.setTop (mkF m 97 #[.val (.int x0)] [(.int (8191 : Int32)), (.int x0)])) _
    refine XS.icmpNo X0.here hx rfl (hb hby d1_97) rfl (tlt hc).2.2.2 ?_
    exact kt
  · rw [f1_93, if_neg hc] at hP
    refine own_Goes.pre (fun t kt => ?_) (b1_191 x0 X0 hx hZ hw hby hml hown hret hlk e0 Z0 N0 hP)
    show Steps p.tables e below (T0.setTop (mkF m 97 #[.val (.int x0)] [(.int (8191 : Int32)), (.int x0)])) _
    refine XS.icmpYes X0.here hx rfl (pc0 := 97) (pc' := 191) rfl (hb hby d1_97) rfl (flt hc).2.2.2 (by decide) (by decide) ?_
    exact kt
def f1_86 (x0 : Int32) : Int32 := if x0 < (895 : Int32) then (f1_100 x0) else (f1_93 x0)
set_option maxRecDepth 65536 in
set_option maxHeartbeats 40000000 in
theorem b1_86 {p : Program} {l : Launch} {e : Env} {s : State} {m : MethodId} {args : Array Value} {below : List Frame} {meth : Method} {c : Code} {T0 : State} {locs : List Loc} {Z : State} {a0 : Array Value} {h0 : Heap} {n0 : Nat} {P : Option Value → Heap → Prop} (x0 : Int32) (X0 : Stand p l e ({ frames := 0, cells := 0, slots := 0, locals := 0 } : Room) s m args below meth c T0 locs 0 0) (hx : p.tables.exec = Jvm.exec) (hZ : Z.Warmed39 s.vm) (hw : ∀ d ∈ tables_1, d.before a0 Z = true) (hby : c.code = prog_46_method_13_code) (hml : c.maxLocals = 1) (hown : s.vm.findClass "com/example/lehre/lehre/XmlNames" = some m.cls) (hret : meth.sig.returnType = some .boolean) (hlk : meth.locks = false) (e0 : T0.heap = h0) (Z0 : n0 ≤ h0.size) (N0 : Fr n0 locs) (hP : P (some (.int (f1_86 x0))) h0) :
    own_Goes p e below s n0 0 0 P (T0.setTop (mkF m 86 #[.val (.int x0)] [])) := by
  have pre1 : ∀ t, Steps p.tables e below (T0.setTop (mkF m 90 #[.val (.int x0)] [(.int (895 : Int32)), (.int x0)])) t → Steps p.tables e below (T0.setTop (mkF m 86 #[.val (.int x0)] [])) t := fun t kt => by
    show Steps p.tables e below (T0.setTop (mkF m 86 #[.val (.int x0)] [])) _
    refine XS.iloadN X0.here hx rfl (hb hby d1_86) rfl ?_
    show Steps p.tables e below (T0.setTop (mkF m 87 #[.val (.int x0)] [(.int x0)])) _
    refine XS.sipush X0.here hx rfl (hb hby d1_87) ?_
    exact kt
  refine own_Goes.pre pre1 ?_
  by_cases hc : x0 < (895 : Int32)
  · rw [f1_86, if_pos hc] at hP
    refine own_Goes.pre (fun t kt => ?_) (b1_100 x0 X0 hx hZ hw hby hml hown hret hlk e0 Z0 N0 hP)
    show Steps p.tables e below (T0.setTop (mkF m 90 #[.val (.int x0)] [(.int (895 : Int32)), (.int x0)])) _
    refine XS.icmpYes X0.here hx rfl (pc0 := 90) (pc' := 100) rfl (hb hby d1_90) rfl (tlt hc).1 (by decide) (by decide) ?_
    exact kt
  · rw [f1_86, if_neg hc] at hP
    refine own_Goes.pre (fun t kt => ?_) (b1_93 x0 X0 hx hZ hw hby hml hown hret hlk e0 Z0 N0 hP)
    show Steps p.tables e below (T0.setTop (mkF m 90 #[.val (.int x0)] [(.int (895 : Int32)), (.int x0)])) _
    refine XS.icmpNo X0.here hx rfl (hb hby d1_90) rfl (flt hc).1 ?_
    exact kt
def f1_79 (x0 : Int32) : Int32 := if (893 : Int32) < x0 then (f1_86 x0) else (f1_191 x0)
set_option maxRecDepth 65536 in
set_option maxHeartbeats 40000000 in
theorem b1_79 {p : Program} {l : Launch} {e : Env} {s : State} {m : MethodId} {args : Array Value} {below : List Frame} {meth : Method} {c : Code} {T0 : State} {locs : List Loc} {Z : State} {a0 : Array Value} {h0 : Heap} {n0 : Nat} {P : Option Value → Heap → Prop} (x0 : Int32) (X0 : Stand p l e ({ frames := 0, cells := 0, slots := 0, locals := 0 } : Room) s m args below meth c T0 locs 0 0) (hx : p.tables.exec = Jvm.exec) (hZ : Z.Warmed39 s.vm) (hw : ∀ d ∈ tables_1, d.before a0 Z = true) (hby : c.code = prog_46_method_13_code) (hml : c.maxLocals = 1) (hown : s.vm.findClass "com/example/lehre/lehre/XmlNames" = some m.cls) (hret : meth.sig.returnType = some .boolean) (hlk : meth.locks = false) (e0 : T0.heap = h0) (Z0 : n0 ≤ h0.size) (N0 : Fr n0 locs) (hP : P (some (.int (f1_79 x0))) h0) :
    own_Goes p e below s n0 0 0 P (T0.setTop (mkF m 79 #[.val (.int x0)] [])) := by
  have pre1 : ∀ t, Steps p.tables e below (T0.setTop (mkF m 83 #[.val (.int x0)] [(.int (893 : Int32)), (.int x0)])) t → Steps p.tables e below (T0.setTop (mkF m 79 #[.val (.int x0)] [])) t := fun t kt => by
    show Steps p.tables e below (T0.setTop (mkF m 79 #[.val (.int x0)] [])) _
    refine XS.iloadN X0.here hx rfl (hb hby d1_79) rfl ?_
    show Steps p.tables e below (T0.setTop (mkF m 80 #[.val (.int x0)] [(.int x0)])) _
    refine XS.sipush X0.here hx rfl (hb hby d1_80) ?_
    exact kt
  refine own_Goes.pre pre1 ?_
  by_cases hc : (893 : Int32) < x0
  · rw [f1_79, if_pos hc] at hP
    refine own_Goes.pre (fun t kt => ?_) (b1_86 x0 X0 hx hZ hw hby hml hown hret hlk e0 Z0 N0 hP)
    show Steps p.tables e below (T0.setTop (mkF m 83 #[.val (.int x0)] [(.int (893 : Int32)), (.int x0)])) _
    refine XS.icmpNo X0.here hx rfl (hb hby d1_83) rfl (tlt hc).2.2.2 ?_
    exact kt
  · rw [f1_79, if_neg hc] at hP
    refine own_Goes.pre (fun t kt => ?_) (b1_191 x0 X0 hx hZ hw hby hml hown hret hlk e0 Z0 N0 hP)
    show Steps p.tables e below (T0.setTop (mkF m 83 #[.val (.int x0)] [(.int (893 : Int32)), (.int x0)])) _
    refine XS.icmpYes X0.here hx rfl (pc0 := 83) (pc' := 191) rfl (hb hby d1_83) rfl (flt hc).2.2.2 (by decide) (by decide) ?_
    exact kt
def f1_72 (x0 : Int32) : Int32 := if x0 < (880 : Int32) then (f1_86 x0) else (f1_79 x0)
set_option maxRecDepth 65536 in
set_option maxHeartbeats 40000000 in
theorem b1_72 {p : Program} {l : Launch} {e : Env} {s : State} {m : MethodId} {args : Array Value} {below : List Frame} {meth : Method} {c : Code} {T0 : State} {locs : List Loc} {Z : State} {a0 : Array Value} {h0 : Heap} {n0 : Nat} {P : Option Value → Heap → Prop} (x0 : Int32) (X0 : Stand p l e ({ frames := 0, cells := 0, slots := 0, locals := 0 } : Room) s m args below meth c T0 locs 0 0) (hx : p.tables.exec = Jvm.exec) (hZ : Z.Warmed39 s.vm) (hw : ∀ d ∈ tables_1, d.before a0 Z = true) (hby : c.code = prog_46_method_13_code) (hml : c.maxLocals = 1) (hown : s.vm.findClass "com/example/lehre/lehre/XmlNames" = some m.cls) (hret : meth.sig.returnType = some .boolean) (hlk : meth.locks = false) (e0 : T0.heap = h0) (Z0 : n0 ≤ h0.size) (N0 : Fr n0 locs) (hP : P (some (.int (f1_72 x0))) h0) :
    own_Goes p e below s n0 0 0 P (T0.setTop (mkF m 72 #[.val (.int x0)] [])) := by
  have pre1 : ∀ t, Steps p.tables e below (T0.setTop (mkF m 76 #[.val (.int x0)] [(.int (880 : Int32)), (.int x0)])) t → Steps p.tables e below (T0.setTop (mkF m 72 #[.val (.int x0)] [])) t := fun t kt => by
    show Steps p.tables e below (T0.setTop (mkF m 72 #[.val (.int x0)] [])) _
    refine XS.iloadN X0.here hx rfl (hb hby d1_72) rfl ?_
    show Steps p.tables e below (T0.setTop (mkF m 73 #[.val (.int x0)] [(.int x0)])) _
    refine XS.sipush X0.here hx rfl (hb hby d1_73) ?_
    exact kt
  refine own_Goes.pre pre1 ?_
  by_cases hc : x0 < (880 : Int32)
  · rw [f1_72, if_pos hc] at hP
    refine own_Goes.pre (fun t kt => ?_) (b1_86 x0 X0 hx hZ hw hby hml hown hret hlk e0 Z0 N0 hP)
    show Steps p.tables e below (T0.setTop (mkF m 76 #[.val (.int x0)] [(.int (880 : Int32)), (.int x0)])) _
    refine XS.icmpYes X0.here hx rfl (pc0 := 76) (pc' := 86) rfl (hb hby d1_76) rfl (tlt hc).1 (by decide) (by decide) ?_
    exact kt
  · rw [f1_72, if_neg hc] at hP
    refine own_Goes.pre (fun t kt => ?_) (b1_79 x0 X0 hx hZ hw hby hml hown hret hlk e0 Z0 N0 hP)
    show Steps p.tables e below (T0.setTop (mkF m 76 #[.val (.int x0)] [(.int (880 : Int32)), (.int x0)])) _
    refine XS.icmpNo X0.here hx rfl (hb hby d1_76) rfl (flt hc).1 ?_
    exact kt
def f1_65 (x0 : Int32) : Int32 := if (767 : Int32) < x0 then (f1_72 x0) else (f1_191 x0)
set_option maxRecDepth 65536 in
set_option maxHeartbeats 40000000 in
theorem b1_65 {p : Program} {l : Launch} {e : Env} {s : State} {m : MethodId} {args : Array Value} {below : List Frame} {meth : Method} {c : Code} {T0 : State} {locs : List Loc} {Z : State} {a0 : Array Value} {h0 : Heap} {n0 : Nat} {P : Option Value → Heap → Prop} (x0 : Int32) (X0 : Stand p l e ({ frames := 0, cells := 0, slots := 0, locals := 0 } : Room) s m args below meth c T0 locs 0 0) (hx : p.tables.exec = Jvm.exec) (hZ : Z.Warmed39 s.vm) (hw : ∀ d ∈ tables_1, d.before a0 Z = true) (hby : c.code = prog_46_method_13_code) (hml : c.maxLocals = 1) (hown : s.vm.findClass "com/example/lehre/lehre/XmlNames" = some m.cls) (hret : meth.sig.returnType = some .boolean) (hlk : meth.locks = false) (e0 : T0.heap = h0) (Z0 : n0 ≤ h0.size) (N0 : Fr n0 locs) (hP : P (some (.int (f1_65 x0))) h0) :
    own_Goes p e below s n0 0 0 P (T0.setTop (mkF m 65 #[.val (.int x0)] [])) := by
  have pre1 : ∀ t, Steps p.tables e below (T0.setTop (mkF m 69 #[.val (.int x0)] [(.int (767 : Int32)), (.int x0)])) t → Steps p.tables e below (T0.setTop (mkF m 65 #[.val (.int x0)] [])) t := fun t kt => by
    show Steps p.tables e below (T0.setTop (mkF m 65 #[.val (.int x0)] [])) _
    refine XS.iloadN X0.here hx rfl (hb hby d1_65) rfl ?_
    show Steps p.tables e below (T0.setTop (mkF m 66 #[.val (.int x0)] [(.int x0)])) _
    refine XS.sipush X0.here hx rfl (hb hby d1_66) ?_
    exact kt
  refine own_Goes.pre pre1 ?_
  by_cases hc : (767 : Int32) < x0
  · rw [f1_65, if_pos hc] at hP
    refine own_Goes.pre (fun t kt => ?_) (b1_72 x0 X0 hx hZ hw hby hml hown hret hlk e0 Z0 N0 hP)
    show Steps p.tables e below (T0.setTop (mkF m 69 #[.val (.int x0)] [(.int (767 : Int32)), (.int x0)])) _
    refine XS.icmpNo X0.here hx rfl (hb hby d1_69) rfl (tlt hc).2.2.2 ?_
    exact kt
  · rw [f1_65, if_neg hc] at hP
    refine own_Goes.pre (fun t kt => ?_) (b1_191 x0 X0 hx hZ hw hby hml hown hret hlk e0 Z0 N0 hP)
    show Steps p.tables e below (T0.setTop (mkF m 69 #[.val (.int x0)] [(.int (767 : Int32)), (.int x0)])) _
    refine XS.icmpYes X0.here hx rfl (pc0 := 69) (pc' := 191) rfl (hb hby d1_69) rfl (flt hc).2.2.2 (by decide) (by decide) ?_
    exact kt
def f1_58 (x0 : Int32) : Int32 := if x0 < (248 : Int32) then (f1_72 x0) else (f1_65 x0)
set_option maxRecDepth 65536 in
set_option maxHeartbeats 40000000 in
theorem b1_58 {p : Program} {l : Launch} {e : Env} {s : State} {m : MethodId} {args : Array Value} {below : List Frame} {meth : Method} {c : Code} {T0 : State} {locs : List Loc} {Z : State} {a0 : Array Value} {h0 : Heap} {n0 : Nat} {P : Option Value → Heap → Prop} (x0 : Int32) (X0 : Stand p l e ({ frames := 0, cells := 0, slots := 0, locals := 0 } : Room) s m args below meth c T0 locs 0 0) (hx : p.tables.exec = Jvm.exec) (hZ : Z.Warmed39 s.vm) (hw : ∀ d ∈ tables_1, d.before a0 Z = true) (hby : c.code = prog_46_method_13_code) (hml : c.maxLocals = 1) (hown : s.vm.findClass "com/example/lehre/lehre/XmlNames" = some m.cls) (hret : meth.sig.returnType = some .boolean) (hlk : meth.locks = false) (e0 : T0.heap = h0) (Z0 : n0 ≤ h0.size) (N0 : Fr n0 locs) (hP : P (some (.int (f1_58 x0))) h0) :
    own_Goes p e below s n0 0 0 P (T0.setTop (mkF m 58 #[.val (.int x0)] [])) := by
  have pre1 : ∀ t, Steps p.tables e below (T0.setTop (mkF m 62 #[.val (.int x0)] [(.int (248 : Int32)), (.int x0)])) t → Steps p.tables e below (T0.setTop (mkF m 58 #[.val (.int x0)] [])) t := fun t kt => by
    show Steps p.tables e below (T0.setTop (mkF m 58 #[.val (.int x0)] [])) _
    refine XS.iloadN X0.here hx rfl (hb hby d1_58) rfl ?_
    show Steps p.tables e below (T0.setTop (mkF m 59 #[.val (.int x0)] [(.int x0)])) _
    refine XS.sipush X0.here hx rfl (hb hby d1_59) ?_
    exact kt
  refine own_Goes.pre pre1 ?_
  by_cases hc : x0 < (248 : Int32)
  · rw [f1_58, if_pos hc] at hP
    refine own_Goes.pre (fun t kt => ?_) (b1_72 x0 X0 hx hZ hw hby hml hown hret hlk e0 Z0 N0 hP)
    show Steps p.tables e below (T0.setTop (mkF m 62 #[.val (.int x0)] [(.int (248 : Int32)), (.int x0)])) _
    refine XS.icmpYes X0.here hx rfl (pc0 := 62) (pc' := 72) rfl (hb hby d1_62) rfl (tlt hc).1 (by decide) (by decide) ?_
    exact kt
  · rw [f1_58, if_neg hc] at hP
    refine own_Goes.pre (fun t kt => ?_) (b1_65 x0 X0 hx hZ hw hby hml hown hret hlk e0 Z0 N0 hP)
    show Steps p.tables e below (T0.setTop (mkF m 62 #[.val (.int x0)] [(.int (248 : Int32)), (.int x0)])) _
    refine XS.icmpNo X0.here hx rfl (hb hby d1_62) rfl (flt hc).1 ?_
    exact kt
def f1_51 (x0 : Int32) : Int32 := if (246 : Int32) < x0 then (f1_58 x0) else (f1_191 x0)
set_option maxRecDepth 65536 in
set_option maxHeartbeats 40000000 in
theorem b1_51 {p : Program} {l : Launch} {e : Env} {s : State} {m : MethodId} {args : Array Value} {below : List Frame} {meth : Method} {c : Code} {T0 : State} {locs : List Loc} {Z : State} {a0 : Array Value} {h0 : Heap} {n0 : Nat} {P : Option Value → Heap → Prop} (x0 : Int32) (X0 : Stand p l e ({ frames := 0, cells := 0, slots := 0, locals := 0 } : Room) s m args below meth c T0 locs 0 0) (hx : p.tables.exec = Jvm.exec) (hZ : Z.Warmed39 s.vm) (hw : ∀ d ∈ tables_1, d.before a0 Z = true) (hby : c.code = prog_46_method_13_code) (hml : c.maxLocals = 1) (hown : s.vm.findClass "com/example/lehre/lehre/XmlNames" = some m.cls) (hret : meth.sig.returnType = some .boolean) (hlk : meth.locks = false) (e0 : T0.heap = h0) (Z0 : n0 ≤ h0.size) (N0 : Fr n0 locs) (hP : P (some (.int (f1_51 x0))) h0) :
    own_Goes p e below s n0 0 0 P (T0.setTop (mkF m 51 #[.val (.int x0)] [])) := by
  have pre1 : ∀ t, Steps p.tables e below (T0.setTop (mkF m 55 #[.val (.int x0)] [(.int (246 : Int32)), (.int x0)])) t → Steps p.tables e below (T0.setTop (mkF m 51 #[.val (.int x0)] [])) t := fun t kt => by
    show Steps p.tables e below (T0.setTop (mkF m 51 #[.val (.int x0)] [])) _
    refine XS.iloadN X0.here hx rfl (hb hby d1_51) rfl ?_
    show Steps p.tables e below (T0.setTop (mkF m 52 #[.val (.int x0)] [(.int x0)])) _
    refine XS.sipush X0.here hx rfl (hb hby d1_52) ?_
    exact kt
  refine own_Goes.pre pre1 ?_
  by_cases hc : (246 : Int32) < x0
  · rw [f1_51, if_pos hc] at hP
    refine own_Goes.pre (fun t kt => ?_) (b1_58 x0 X0 hx hZ hw hby hml hown hret hlk e0 Z0 N0 hP)
    show Steps p.tables e below (T0.setTop (mkF m 55 #[.val (.int x0)] [(.int (246 : Int32)), (.int x0)])) _
    refine XS.icmpNo X0.here hx rfl (hb hby d1_55) rfl (tlt hc).2.2.2 ?_
    exact kt
  · rw [f1_51, if_neg hc] at hP
    refine own_Goes.pre (fun t kt => ?_) (b1_191 x0 X0 hx hZ hw hby hml hown hret hlk e0 Z0 N0 hP)
    show Steps p.tables e below (T0.setTop (mkF m 55 #[.val (.int x0)] [(.int (246 : Int32)), (.int x0)])) _
    refine XS.icmpYes X0.here hx rfl (pc0 := 55) (pc' := 191) rfl (hb hby d1_55) rfl (flt hc).2.2.2 (by decide) (by decide) ?_
    exact kt
def f1_44 (x0 : Int32) : Int32 := if x0 < (216 : Int32) then (f1_58 x0) else (f1_51 x0)
set_option maxRecDepth 65536 in
set_option maxHeartbeats 40000000 in
theorem b1_44 {p : Program} {l : Launch} {e : Env} {s : State} {m : MethodId} {args : Array Value} {below : List Frame} {meth : Method} {c : Code} {T0 : State} {locs : List Loc} {Z : State} {a0 : Array Value} {h0 : Heap} {n0 : Nat} {P : Option Value → Heap → Prop} (x0 : Int32) (X0 : Stand p l e ({ frames := 0, cells := 0, slots := 0, locals := 0 } : Room) s m args below meth c T0 locs 0 0) (hx : p.tables.exec = Jvm.exec) (hZ : Z.Warmed39 s.vm) (hw : ∀ d ∈ tables_1, d.before a0 Z = true) (hby : c.code = prog_46_method_13_code) (hml : c.maxLocals = 1) (hown : s.vm.findClass "com/example/lehre/lehre/XmlNames" = some m.cls) (hret : meth.sig.returnType = some .boolean) (hlk : meth.locks = false) (e0 : T0.heap = h0) (Z0 : n0 ≤ h0.size) (N0 : Fr n0 locs) (hP : P (some (.int (f1_44 x0))) h0) :
    own_Goes p e below s n0 0 0 P (T0.setTop (mkF m 44 #[.val (.int x0)] [])) := by
  have pre1 : ∀ t, Steps p.tables e below (T0.setTop (mkF m 48 #[.val (.int x0)] [(.int (216 : Int32)), (.int x0)])) t → Steps p.tables e below (T0.setTop (mkF m 44 #[.val (.int x0)] [])) t := fun t kt => by
    show Steps p.tables e below (T0.setTop (mkF m 44 #[.val (.int x0)] [])) _
    refine XS.iloadN X0.here hx rfl (hb hby d1_44) rfl ?_
    show Steps p.tables e below (T0.setTop (mkF m 45 #[.val (.int x0)] [(.int x0)])) _
    refine XS.sipush X0.here hx rfl (hb hby d1_45) ?_
    exact kt
  refine own_Goes.pre pre1 ?_
  by_cases hc : x0 < (216 : Int32)
  · rw [f1_44, if_pos hc] at hP
    refine own_Goes.pre (fun t kt => ?_) (b1_58 x0 X0 hx hZ hw hby hml hown hret hlk e0 Z0 N0 hP)
    show Steps p.tables e below (T0.setTop (mkF m 48 #[.val (.int x0)] [(.int (216 : Int32)), (.int x0)])) _
    refine XS.icmpYes X0.here hx rfl (pc0 := 48) (pc' := 58) rfl (hb hby d1_48) rfl (tlt hc).1 (by decide) (by decide) ?_
    exact kt
  · rw [f1_44, if_neg hc] at hP
    refine own_Goes.pre (fun t kt => ?_) (b1_51 x0 X0 hx hZ hw hby hml hown hret hlk e0 Z0 N0 hP)
    show Steps p.tables e below (T0.setTop (mkF m 48 #[.val (.int x0)] [(.int (216 : Int32)), (.int x0)])) _
    refine XS.icmpNo X0.here hx rfl (hb hby d1_48) rfl (flt hc).1 ?_
    exact kt
def f1_37 (x0 : Int32) : Int32 := if (214 : Int32) < x0 then (f1_44 x0) else (f1_191 x0)
set_option maxRecDepth 65536 in
set_option maxHeartbeats 40000000 in
theorem b1_37 {p : Program} {l : Launch} {e : Env} {s : State} {m : MethodId} {args : Array Value} {below : List Frame} {meth : Method} {c : Code} {T0 : State} {locs : List Loc} {Z : State} {a0 : Array Value} {h0 : Heap} {n0 : Nat} {P : Option Value → Heap → Prop} (x0 : Int32) (X0 : Stand p l e ({ frames := 0, cells := 0, slots := 0, locals := 0 } : Room) s m args below meth c T0 locs 0 0) (hx : p.tables.exec = Jvm.exec) (hZ : Z.Warmed39 s.vm) (hw : ∀ d ∈ tables_1, d.before a0 Z = true) (hby : c.code = prog_46_method_13_code) (hml : c.maxLocals = 1) (hown : s.vm.findClass "com/example/lehre/lehre/XmlNames" = some m.cls) (hret : meth.sig.returnType = some .boolean) (hlk : meth.locks = false) (e0 : T0.heap = h0) (Z0 : n0 ≤ h0.size) (N0 : Fr n0 locs) (hP : P (some (.int (f1_37 x0))) h0) :
    own_Goes p e below s n0 0 0 P (T0.setTop (mkF m 37 #[.val (.int x0)] [])) := by
  have pre1 : ∀ t, Steps p.tables e below (T0.setTop (mkF m 41 #[.val (.int x0)] [(.int (214 : Int32)), (.int x0)])) t → Steps p.tables e below (T0.setTop (mkF m 37 #[.val (.int x0)] [])) t := fun t kt => by
    show Steps p.tables e below (T0.setTop (mkF m 37 #[.val (.int x0)] [])) _
    refine XS.iloadN X0.here hx rfl (hb hby d1_37) rfl ?_
    show Steps p.tables e below (T0.setTop (mkF m 38 #[.val (.int x0)] [(.int x0)])) _
    refine XS.sipush X0.here hx rfl (hb hby d1_38) ?_
    exact kt
  refine own_Goes.pre pre1 ?_
  by_cases hc : (214 : Int32) < x0
  · rw [f1_37, if_pos hc] at hP
    refine own_Goes.pre (fun t kt => ?_) (b1_44 x0 X0 hx hZ hw hby hml hown hret hlk e0 Z0 N0 hP)
    show Steps p.tables e below (T0.setTop (mkF m 41 #[.val (.int x0)] [(.int (214 : Int32)), (.int x0)])) _
    refine XS.icmpNo X0.here hx rfl (hb hby d1_41) rfl (tlt hc).2.2.2 ?_
    exact kt
  · rw [f1_37, if_neg hc] at hP
    refine own_Goes.pre (fun t kt => ?_) (b1_191 x0 X0 hx hZ hw hby hml hown hret hlk e0 Z0 N0 hP)
    show Steps p.tables e below (T0.setTop (mkF m 41 #[.val (.int x0)] [(.int (214 : Int32)), (.int x0)])) _
    refine XS.icmpYes X0.here hx rfl (pc0 := 41) (pc' := 191) rfl (hb hby d1_41) rfl (flt hc).2.2.2 (by decide) (by decide) ?_
    exact kt
def f1_30 (x0 : Int32) : Int32 := if x0 < (192 : Int32) then (f1_44 x0) else (f1_37 x0)
set_option maxRecDepth 65536 in
set_option maxHeartbeats 40000000 in
theorem b1_30 {p : Program} {l : Launch} {e : Env} {s : State} {m : MethodId} {args : Array Value} {below : List Frame} {meth : Method} {c : Code} {T0 : State} {locs : List Loc} {Z : State} {a0 : Array Value} {h0 : Heap} {n0 : Nat} {P : Option Value → Heap → Prop} (x0 : Int32) (X0 : Stand p l e ({ frames := 0, cells := 0, slots := 0, locals := 0 } : Room) s m args below meth c T0 locs 0 0) (hx : p.tables.exec = Jvm.exec) (hZ : Z.Warmed39 s.vm) (hw : ∀ d ∈ tables_1, d.before a0 Z = true) (hby : c.code = prog_46_method_13_code) (hml : c.maxLocals = 1) (hown : s.vm.findClass "com/example/lehre/lehre/XmlNames" = some m.cls) (hret : meth.sig.returnType = some .boolean) (hlk : meth.locks = false) (e0 : T0.heap = h0) (Z0 : n0 ≤ h0.size) (N0 : Fr n0 locs) (hP : P (some (.int (f1_30 x0))) h0) :
    own_Goes p e below s n0 0 0 P (T0.setTop (mkF m 30 #[.val (.int x0)] [])) := by
  have pre1 : ∀ t, Steps p.tables e below (T0.setTop (mkF m 34 #[.val (.int x0)] [(.int (192 : Int32)), (.int x0)])) t → Steps p.tables e below (T0.setTop (mkF m 30 #[.val (.int x0)] [])) t := fun t kt => by
    show Steps p.tables e below (T0.setTop (mkF m 30 #[.val (.int x0)] [])) _
    refine XS.iloadN X0.here hx rfl (hb hby d1_30) rfl ?_
    show Steps p.tables e below (T0.setTop (mkF m 31 #[.val (.int x0)] [(.int x0)])) _
    refine XS.sipush X0.here hx rfl (hb hby d1_31) ?_
    exact kt
  refine own_Goes.pre pre1 ?_
  by_cases hc : x0 < (192 : Int32)
  · rw [f1_30, if_pos hc] at hP
    refine own_Goes.pre (fun t kt => ?_) (b1_44 x0 X0 hx hZ hw hby hml hown hret hlk e0 Z0 N0 hP)
    show Steps p.tables e below (T0.setTop (mkF m 34 #[.val (.int x0)] [(.int (192 : Int32)), (.int x0)])) _
    refine XS.icmpYes X0.here hx rfl (pc0 := 34) (pc' := 44) rfl (hb hby d1_34) rfl (tlt hc).1 (by decide) (by decide) ?_
    exact kt
  · rw [f1_30, if_neg hc] at hP
    refine own_Goes.pre (fun t kt => ?_) (b1_37 x0 X0 hx hZ hw hby hml hown hret hlk e0 Z0 N0 hP)
    show Steps p.tables e below (T0.setTop (mkF m 34 #[.val (.int x0)] [(.int (192 : Int32)), (.int x0)])) _
    refine XS.icmpNo X0.here hx rfl (hb hby d1_34) rfl (flt hc).1 ?_
    exact kt
def f1_24 (x0 : Int32) : Int32 := if x0 = (95 : Int32) then (f1_191 x0) else (f1_30 x0)
set_option maxRecDepth 65536 in
set_option maxHeartbeats 40000000 in
theorem b1_24 {p : Program} {l : Launch} {e : Env} {s : State} {m : MethodId} {args : Array Value} {below : List Frame} {meth : Method} {c : Code} {T0 : State} {locs : List Loc} {Z : State} {a0 : Array Value} {h0 : Heap} {n0 : Nat} {P : Option Value → Heap → Prop} (x0 : Int32) (X0 : Stand p l e ({ frames := 0, cells := 0, slots := 0, locals := 0 } : Room) s m args below meth c T0 locs 0 0) (hx : p.tables.exec = Jvm.exec) (hZ : Z.Warmed39 s.vm) (hw : ∀ d ∈ tables_1, d.before a0 Z = true) (hby : c.code = prog_46_method_13_code) (hml : c.maxLocals = 1) (hown : s.vm.findClass "com/example/lehre/lehre/XmlNames" = some m.cls) (hret : meth.sig.returnType = some .boolean) (hlk : meth.locks = false) (e0 : T0.heap = h0) (Z0 : n0 ≤ h0.size) (N0 : Fr n0 locs) (hP : P (some (.int (f1_24 x0))) h0) :
    own_Goes p e below s n0 0 0 P (T0.setTop (mkF m 24 #[.val (.int x0)] [])) := by
  have pre1 : ∀ t, Steps p.tables e below (T0.setTop (mkF m 27 #[.val (.int x0)] [(.int (95 : Int32)), (.int x0)])) t → Steps p.tables e below (T0.setTop (mkF m 24 #[.val (.int x0)] [])) t := fun t kt => by
    show Steps p.tables e below (T0.setTop (mkF m 24 #[.val (.int x0)] [])) _
    refine XS.iloadN X0.here hx rfl (hb hby d1_24) rfl ?_
    show Steps p.tables e below (T0.setTop (mkF m 25 #[.val (.int x0)] [(.int x0)])) _
    refine XS.bipush X0.here hx rfl (hb hby d1_25) ?_
    exact kt
  refine own_Goes.pre pre1 ?_
  by_cases hc : x0 = (95 : Int32)
  · rw [f1_24, if_pos hc] at hP
    refine own_Goes.pre (fun t kt => ?_) (b1_191 x0 X0 hx hZ hw hby hml hown hret hlk e0 Z0 N0 hP)
    show Steps p.tables e below (T0.setTop (mkF m 27 #[.val (.int x0)] [(.int (95 : Int32)), (.int x0)])) _
    refine XS.icmpYes X0.here hx rfl (pc0 := 27) (pc' := 191) rfl (hb hby d1_27) rfl (teq hc).1 (by decide) (by decide) ?_
    exact kt
  · rw [f1_24, if_neg hc] at hP
    refine own_Goes.pre (fun t kt => ?_) (b1_30 x0 X0 hx hZ hw hby hml hown hret hlk e0 Z0 N0 hP)
    show Steps p.tables e below (T0.setTop (mkF m 27 #[.val (.int x0)] [(.int (95 : Int32)), (.int x0)])) _
    refine XS.icmpNo X0.here hx rfl (hb hby d1_27) rfl (feq hc).1 ?_
    exact kt
def f1_18 (x0 : Int32) : Int32 := if (90 : Int32) < x0 then (f1_24 x0) else (f1_191 x0)
set_option maxRecDepth 65536 in
set_option maxHeartbeats 40000000 in
theorem b1_18 {p : Program} {l : Launch} {e : Env} {s : State} {m : MethodId} {args : Array Value} {below : List Frame} {meth : Method} {c : Code} {T0 : State} {locs : List Loc} {Z : State} {a0 : Array Value} {h0 : Heap} {n0 : Nat} {P : Option Value → Heap → Prop} (x0 : Int32) (X0 : Stand p l e ({ frames := 0, cells := 0, slots := 0, locals := 0 } : Room) s m args below meth c T0 locs 0 0) (hx : p.tables.exec = Jvm.exec) (hZ : Z.Warmed39 s.vm) (hw : ∀ d ∈ tables_1, d.before a0 Z = true) (hby : c.code = prog_46_method_13_code) (hml : c.maxLocals = 1) (hown : s.vm.findClass "com/example/lehre/lehre/XmlNames" = some m.cls) (hret : meth.sig.returnType = some .boolean) (hlk : meth.locks = false) (e0 : T0.heap = h0) (Z0 : n0 ≤ h0.size) (N0 : Fr n0 locs) (hP : P (some (.int (f1_18 x0))) h0) :
    own_Goes p e below s n0 0 0 P (T0.setTop (mkF m 18 #[.val (.int x0)] [])) := by
  have pre1 : ∀ t, Steps p.tables e below (T0.setTop (mkF m 21 #[.val (.int x0)] [(.int (90 : Int32)), (.int x0)])) t → Steps p.tables e below (T0.setTop (mkF m 18 #[.val (.int x0)] [])) t := fun t kt => by
    show Steps p.tables e below (T0.setTop (mkF m 18 #[.val (.int x0)] [])) _
    refine XS.iloadN X0.here hx rfl (hb hby d1_18) rfl ?_
    show Steps p.tables e below (T0.setTop (mkF m 19 #[.val (.int x0)] [(.int x0)])) _
    refine XS.bipush X0.here hx rfl (hb hby d1_19) ?_
    exact kt
  refine own_Goes.pre pre1 ?_
  by_cases hc : (90 : Int32) < x0
  · rw [f1_18, if_pos hc] at hP
    refine own_Goes.pre (fun t kt => ?_) (b1_24 x0 X0 hx hZ hw hby hml hown hret hlk e0 Z0 N0 hP)
    show Steps p.tables e below (T0.setTop (mkF m 21 #[.val (.int x0)] [(.int (90 : Int32)), (.int x0)])) _
    refine XS.icmpNo X0.here hx rfl (hb hby d1_21) rfl (tlt hc).2.2.2 ?_
    exact kt
  · rw [f1_18, if_neg hc] at hP
    refine own_Goes.pre (fun t kt => ?_) (b1_191 x0 X0 hx hZ hw hby hml hown hret hlk e0 Z0 N0 hP)
    show Steps p.tables e below (T0.setTop (mkF m 21 #[.val (.int x0)] [(.int (90 : Int32)), (.int x0)])) _
    refine XS.icmpYes X0.here hx rfl (pc0 := 21) (pc' := 191) rfl (hb hby d1_21) rfl (flt hc).2.2.2 (by decide) (by decide) ?_
    exact kt
def f1_12 (x0 : Int32) : Int32 := if x0 < (65 : Int32) then (f1_24 x0) else (f1_18 x0)
set_option maxRecDepth 65536 in
set_option maxHeartbeats 40000000 in
theorem b1_12 {p : Program} {l : Launch} {e : Env} {s : State} {m : MethodId} {args : Array Value} {below : List Frame} {meth : Method} {c : Code} {T0 : State} {locs : List Loc} {Z : State} {a0 : Array Value} {h0 : Heap} {n0 : Nat} {P : Option Value → Heap → Prop} (x0 : Int32) (X0 : Stand p l e ({ frames := 0, cells := 0, slots := 0, locals := 0 } : Room) s m args below meth c T0 locs 0 0) (hx : p.tables.exec = Jvm.exec) (hZ : Z.Warmed39 s.vm) (hw : ∀ d ∈ tables_1, d.before a0 Z = true) (hby : c.code = prog_46_method_13_code) (hml : c.maxLocals = 1) (hown : s.vm.findClass "com/example/lehre/lehre/XmlNames" = some m.cls) (hret : meth.sig.returnType = some .boolean) (hlk : meth.locks = false) (e0 : T0.heap = h0) (Z0 : n0 ≤ h0.size) (N0 : Fr n0 locs) (hP : P (some (.int (f1_12 x0))) h0) :
    own_Goes p e below s n0 0 0 P (T0.setTop (mkF m 12 #[.val (.int x0)] [])) := by
  have pre1 : ∀ t, Steps p.tables e below (T0.setTop (mkF m 15 #[.val (.int x0)] [(.int (65 : Int32)), (.int x0)])) t → Steps p.tables e below (T0.setTop (mkF m 12 #[.val (.int x0)] [])) t := fun t kt => by
    show Steps p.tables e below (T0.setTop (mkF m 12 #[.val (.int x0)] [])) _
    refine XS.iloadN X0.here hx rfl (hb hby d1_12) rfl ?_
    show Steps p.tables e below (T0.setTop (mkF m 13 #[.val (.int x0)] [(.int x0)])) _
    refine XS.bipush X0.here hx rfl (hb hby d1_13) ?_
    exact kt
  refine own_Goes.pre pre1 ?_
  by_cases hc : x0 < (65 : Int32)
  · rw [f1_12, if_pos hc] at hP
    refine own_Goes.pre (fun t kt => ?_) (b1_24 x0 X0 hx hZ hw hby hml hown hret hlk e0 Z0 N0 hP)
    show Steps p.tables e below (T0.setTop (mkF m 15 #[.val (.int x0)] [(.int (65 : Int32)), (.int x0)])) _
    refine XS.icmpYes X0.here hx rfl (pc0 := 15) (pc' := 24) rfl (hb hby d1_15) rfl (tlt hc).1 (by decide) (by decide) ?_
    exact kt
  · rw [f1_12, if_neg hc] at hP
    refine own_Goes.pre (fun t kt => ?_) (b1_18 x0 X0 hx hZ hw hby hml hown hret hlk e0 Z0 N0 hP)
    show Steps p.tables e below (T0.setTop (mkF m 15 #[.val (.int x0)] [(.int (65 : Int32)), (.int x0)])) _
    refine XS.icmpNo X0.here hx rfl (hb hby d1_15) rfl (flt hc).1 ?_
    exact kt
def f1_6 (x0 : Int32) : Int32 := if (122 : Int32) < x0 then (f1_12 x0) else (f1_191 x0)
set_option maxRecDepth 65536 in
set_option maxHeartbeats 40000000 in
theorem b1_6 {p : Program} {l : Launch} {e : Env} {s : State} {m : MethodId} {args : Array Value} {below : List Frame} {meth : Method} {c : Code} {T0 : State} {locs : List Loc} {Z : State} {a0 : Array Value} {h0 : Heap} {n0 : Nat} {P : Option Value → Heap → Prop} (x0 : Int32) (X0 : Stand p l e ({ frames := 0, cells := 0, slots := 0, locals := 0 } : Room) s m args below meth c T0 locs 0 0) (hx : p.tables.exec = Jvm.exec) (hZ : Z.Warmed39 s.vm) (hw : ∀ d ∈ tables_1, d.before a0 Z = true) (hby : c.code = prog_46_method_13_code) (hml : c.maxLocals = 1) (hown : s.vm.findClass "com/example/lehre/lehre/XmlNames" = some m.cls) (hret : meth.sig.returnType = some .boolean) (hlk : meth.locks = false) (e0 : T0.heap = h0) (Z0 : n0 ≤ h0.size) (N0 : Fr n0 locs) (hP : P (some (.int (f1_6 x0))) h0) :
    own_Goes p e below s n0 0 0 P (T0.setTop (mkF m 6 #[.val (.int x0)] [])) := by
  have pre1 : ∀ t, Steps p.tables e below (T0.setTop (mkF m 9 #[.val (.int x0)] [(.int (122 : Int32)), (.int x0)])) t → Steps p.tables e below (T0.setTop (mkF m 6 #[.val (.int x0)] [])) t := fun t kt => by
    show Steps p.tables e below (T0.setTop (mkF m 6 #[.val (.int x0)] [])) _
    refine XS.iloadN X0.here hx rfl (hb hby d1_6) rfl ?_
    show Steps p.tables e below (T0.setTop (mkF m 7 #[.val (.int x0)] [(.int x0)])) _
    refine XS.bipush X0.here hx rfl (hb hby d1_7) ?_
    exact kt
  refine own_Goes.pre pre1 ?_
  by_cases hc : (122 : Int32) < x0
  · rw [f1_6, if_pos hc] at hP
    refine own_Goes.pre (fun t kt => ?_) (b1_12 x0 X0 hx hZ hw hby hml hown hret hlk e0 Z0 N0 hP)
    show Steps p.tables e below (T0.setTop (mkF m 9 #[.val (.int x0)] [(.int (122 : Int32)), (.int x0)])) _
    refine XS.icmpNo X0.here hx rfl (hb hby d1_9) rfl (tlt hc).2.2.2 ?_
    exact kt
  · rw [f1_6, if_neg hc] at hP
    refine own_Goes.pre (fun t kt => ?_) (b1_191 x0 X0 hx hZ hw hby hml hown hret hlk e0 Z0 N0 hP)
    show Steps p.tables e below (T0.setTop (mkF m 9 #[.val (.int x0)] [(.int (122 : Int32)), (.int x0)])) _
    refine XS.icmpYes X0.here hx rfl (pc0 := 9) (pc' := 191) rfl (hb hby d1_9) rfl (flt hc).2.2.2 (by decide) (by decide) ?_
    exact kt
def f1_0 (x0 : Int32) : Int32 := if x0 < (97 : Int32) then (f1_12 x0) else (f1_6 x0)
set_option maxRecDepth 65536 in
set_option maxHeartbeats 40000000 in
theorem b1_0 {p : Program} {l : Launch} {e : Env} {s : State} {m : MethodId} {args : Array Value} {below : List Frame} {meth : Method} {c : Code} {T0 : State} {locs : List Loc} {Z : State} {a0 : Array Value} {h0 : Heap} {n0 : Nat} {P : Option Value → Heap → Prop} (x0 : Int32) (X0 : Stand p l e ({ frames := 0, cells := 0, slots := 0, locals := 0 } : Room) s m args below meth c T0 locs 0 0) (hx : p.tables.exec = Jvm.exec) (hZ : Z.Warmed39 s.vm) (hw : ∀ d ∈ tables_1, d.before a0 Z = true) (hby : c.code = prog_46_method_13_code) (hml : c.maxLocals = 1) (hown : s.vm.findClass "com/example/lehre/lehre/XmlNames" = some m.cls) (hret : meth.sig.returnType = some .boolean) (hlk : meth.locks = false) (e0 : T0.heap = h0) (Z0 : n0 ≤ h0.size) (N0 : Fr n0 locs) (hP : P (some (.int (f1_0 x0))) h0) :
    own_Goes p e below s n0 0 0 P (T0.setTop (mkF m 0 #[.val (.int x0)] [])) := by
  have pre1 : ∀ t, Steps p.tables e below (T0.setTop (mkF m 3 #[.val (.int x0)] [(.int (97 : Int32)), (.int x0)])) t → Steps p.tables e below (T0.setTop (mkF m 0 #[.val (.int x0)] [])) t := fun t kt => by
    show Steps p.tables e below (T0.setTop (mkF m 0 #[.val (.int x0)] [])) _
    refine XS.iloadN X0.here hx rfl (hb hby d1_0) rfl ?_
    show Steps p.tables e below (T0.setTop (mkF m 1 #[.val (.int x0)] [(.int x0)])) _
    refine XS.bipush X0.here hx rfl (hb hby d1_1) ?_
    exact kt
  refine own_Goes.pre pre1 ?_
  by_cases hc : x0 < (97 : Int32)
  · rw [f1_0, if_pos hc] at hP
    refine own_Goes.pre (fun t kt => ?_) (b1_12 x0 X0 hx hZ hw hby hml hown hret hlk e0 Z0 N0 hP)
    show Steps p.tables e below (T0.setTop (mkF m 3 #[.val (.int x0)] [(.int (97 : Int32)), (.int x0)])) _
    refine XS.icmpYes X0.here hx rfl (pc0 := 3) (pc' := 12) rfl (hb hby d1_3) rfl (tlt hc).1 (by decide) (by decide) ?_
    exact kt
  · rw [f1_0, if_neg hc] at hP
    refine own_Goes.pre (fun t kt => ?_) (b1_6 x0 X0 hx hZ hw hby hml hown hret hlk e0 Z0 N0 hP)
    show Steps p.tables e below (T0.setTop (mkF m 3 #[.val (.int x0)] [(.int (97 : Int32)), (.int x0)])) _
    refine XS.icmpNo X0.here hx rfl (hb hby d1_3) rfl (flt hc).1 ?_
    exact kt
theorem pn0 : plainName "com/example/lehre/lehre/XmlNames" = true := by first | (simp [plainName, overriddenIn]; done) | decide +kernel
theorem ef1 (m : MethodId) (x0 : Int32) : entryFrame m #[(.int x0)] 1 = (mkF m 0 #[.val (.int x0)] []) := by first | (simp [entryFrame, mkF, argsToLocals, Value.category]; done) | rfl
set_option maxRecDepth 65536 in
set_option maxHeartbeats 40000000 in
theorem rm1 (l : Launch) (Z : State) (a0 : Array Value) (hw : ∀ d ∈ tables_1, d.before a0 Z = true) (ws : List Jvm.Cond) (x0 : Int32) (h0 : Heap) (n0 : Nat) (Z0 : n0 ≤ h0.size) :
    MetFree l (⟨"com/example/lehre/lehre/XmlNames", "isNameStart", "(I)Z"⟩ : MethodName) (head1 (Jvm.Cond.code (⟨"com/example/lehre/lehre/XmlNames", "isNameStart", "(I)Z"⟩ : MethodName) prog_46_method_13_code 1 (some .boolean) :: ws) ({ frames := 0, cells := 0, slots := 0, locals := 0 } : Room)) (fun a U => a = #[(.int x0)] ∧ Z.Warmed39 U.vm ∧ U.heap = h0) (fun _ _ _ _ _ => True) (fun _ U o U' => ∃ v L, o = .returned v ∧ own_Q (own_val (.int (f1_0 x0)) h0) n0 v U'.heap L ∧ FrameEnd U o U' L ({ frames := 0, cells := 0, slots := 0, locals := 0 } : Room).cells ({ frames := 0, cells := 0, slots := 0, locals := 0 } : Room).slots) := by
  refine MetFree.of_bodySF (plainFor_of_name pn0) hisR ?_
  intro p e s m args below meth c s₁ Bd hml0 hP hK
  obtain ⟨rfl, hZ, hh⟩ := hP
  have hx := Bd.exec
  have hby := Bd.bytes
  have hml : c.maxLocals = 1 := hml0
  have hown : s.vm.findClass "com/example/lehre/lehre/XmlNames" = some m.cls := findClass_of_methodNamed Bd.named
  have X0 : Stand p l e ({ frames := 0, cells := 0, slots := 0, locals := 0 } : Room) s m #[(.int x0)] below meth c s₁ [] 0 0 := Stand.of_body Bd
  have e0 : s₁.heap = h0 := by rw [← hh, Bd.state]; rfl
  refine own_Goes.pre (S' := s₁.setTop (mkF m 0 #[.val (.int x0)] [])) (P := (own_val (.int (f1_0 x0)) h0)) (n0 := n0) (kc := 0) (ks := 0) (fun t k => castTop (ef1 m x0) k) ?_
  exact b1_0 x0 X0 hx hZ hw hby hml hown Bd.returns Bd.notSynchronized e0 Z0 (Fr.nil n0) ⟨rfl, rfl⟩
theorem d2_0 : decode method_2_code 0 = .ok (.iload_n 0, 1) := by decide +kernel
theorem d2_1 : decode method_2_code 1 = .ok (.bipush 65, 2) := by decide +kernel
theorem d2_3 : decode method_2_code 3 = .ok (.if_icmp .lt 9, 3) := by decide +kernel
theorem d2_6 : decode method_2_code 6 = .ok (.iload_n 0, 1) := by decide +kernel
theorem d2_7 : decode method_2_code 7 = .ok (.ldc 7, 2) := by decide +kernel
theorem d2_9 : decode method_2_code 9 = .ok (.if_icmp .le 5, 3) := by decide +kernel
theorem d2_12 : decode method_2_code 12 = .ok (.iconst 0, 1) := by decide +kernel
theorem d2_13 : decode method_2_code 13 = .ok (.ireturn, 1) := by decide +kernel
theorem d2_14 : decode method_2_code 14 = .ok (.iload_n 0, 1) := by decide +kernel
theorem d2_15 : decode method_2_code 15 = .ok (.bipush 91, 2) := by decide +kernel
theorem d2_17 : decode method_2_code 17 = .ok (.if_icmp .lt 11, 3) := by decide +kernel
theorem d2_20 : decode method_2_code 20 = .ok (.iload_n 0, 1) := by decide +kernel
theorem d2_21 : decode method_2_code 21 = .ok (.bipush 94, 2) := by decide +kernel
theorem d2_23 : decode method_2_code 23 = .ok (.if_icmp .gt 5, 3) := by decide +kernel
theorem d2_26 : decode method_2_code 26 = .ok (.iconst 0, 1) := by decide +kernel
theorem d2_27 : decode method_2_code 27 = .ok (.ireturn, 1) := by decide +kernel
theorem d2_28 : decode method_2_code 28 = .ok (.iload_n 0, 1) := by decide +kernel
theorem d2_29 : decode method_2_code 29 = .ok (.bipush 96, 2) := by decide +kernel
theorem d2_31 : decode method_2_code 31 = .ok (.if_icmp .ne 5, 3) := by decide +kernel
theorem d2_34 : decode method_2_code 34 = .ok (.iconst 0, 1) := by decide +kernel
theorem d2_35 : decode method_2_code 35 = .ok (.ireturn, 1) := by decide +kernel
theorem d2_36 : decode method_2_code 36 = .ok (.iload_n 0, 1) := by decide +kernel
theorem d2_37 : decode method_2_code 37 = .ok (.bipush 123, 2) := by decide +kernel
theorem d2_39 : decode method_2_code 39 = .ok (.if_icmp .lt 12, 3) := by decide +kernel
theorem d2_42 : decode method_2_code 42 = .ok (.iload_n 0, 1) := by decide +kernel
theorem d2_43 : decode method_2_code 43 = .ok (.sipush 191, 3) := by decide +kernel
theorem d2_46 : decode method_2_code 46 = .ok (.if_icmp .gt 5, 3) := by decide +kernel
theorem d2_49 : decode method_2_code 49 = .ok (.iconst 0, 1) := by decide +kernel
theorem d2_50 : decode method_2_code 50 = .ok (.ireturn, 1) := by decide +kernel
theorem d2_51 : decode method_2_code 51 = .ok (.iload_n 0, 1) := by decide +kernel
theorem d2_52 : decode method_2_code 52 = .ok (.sipush 215, 3) := by decide +kernel
theorem d2_55 : decode method_2_code 55 = .ok (.if_icmp .eq 10, 3) := by decide +kernel
theorem d2_58 : decode method_2_code 58 = .ok (.iload_n 0, 1) := by decide +kernel
theorem d2_59 : decode method_2_code 59 = .ok (.sipush 247, 3) := by decide +kernel
theorem d2_62 : decode method_2_code 62 = .ok (.if_icmp .ne 5, 3) := by decide +kernel
theorem d2_65 : decode method_2_code 65 = .ok (.iconst 0, 1) := by decide +kernel
theorem d2_66 : decode method_2_code 66 = .ok (.ireturn, 1) := by decide +kernel
theorem d2_67 : decode method_2_code 67 = .ok (.iload_n 0, 1) := by decide +kernel
theorem d2_68 : decode method_2_code 68 = .ok (.sipush 768, 3) := by decide +kernel
theorem d2_71 : decode method_2_code 71 = .ok (.if_icmp .lt 12, 3) := by decide +kernel
theorem d2_74 : decode method_2_code 74 = .ok (.iload_n 0, 1) := by decide +kernel
theorem d2_75 : decode method_2_code 75 = .ok (.sipush 879, 3) := by decide +kernel
theorem d2_78 : decode method_2_code 78 = .ok (.if_icmp .gt 5, 3) := by decide +kernel
theorem d2_81 : decode method_2_code 81 = .ok (.iconst 0, 1) := by decide +kernel
theorem d2_82 : decode method_2_code 82 = .ok (.ireturn, 1) := by decide +kernel
theorem d2_83 : decode method_2_code 83 = .ok (.iload_n 0, 1) := by decide +kernel
theorem d2_84 : decode method_2_code 84 = .ok (.sipush 894, 3) := by decide +kernel
theorem d2_87 : decode method_2_code 87 = .ok (.if_icmp .ne 5, 3) := by decide +kernel
theorem d2_90 : decode method_2_code 90 = .ok (.iconst 0, 1) := by decide +kernel
theorem d2_91 : decode method_2_code 91 = .ok (.ireturn, 1) := by decide +kernel
theorem d2_92 : decode method_2_code 92 = .ok (.iload_n 0, 1) := by decide +kernel
theorem d2_93 : decode method_2_code 93 = .ok (.sipush 8192, 3) := by decide +kernel
theorem d2_96 : decode method_2_code 96 = .ok (.if_icmp .lt 12, 3) := by decide +kernel
theorem d2_99 : decode method_2_code 99 = .ok (.iload_n 0, 1) := by decide +kernel
theorem d2_100 : decode method_2_code 100 = .ok (.sipush 8203, 3) := by decide +kernel
theorem d2_103 : decode method_2_code 103 = .ok (.if_icmp .gt 5, 3) := by decide +kernel
theorem d2_106 : decode method_2_code 106 = .ok (.iconst 0, 1) := by decide +kernel
theorem d2_107 : decode method_2_code 107 = .ok (.ireturn, 1) := by decide +kernel
theorem d2_108 : decode method_2_code 108 = .ok (.iload_n 0, 1) := by decide +kernel
theorem d2_109 : decode method_2_code 109 = .ok (.sipush 8206, 3) := by decide +kernel
theorem d2_112 : decode method_2_code 112 = .ok (.if_icmp .lt 12, 3) := by decide +kernel
theorem d2_115 : decode method_2_code 115 = .ok (.iload_n 0, 1) := by decide +kernel
theorem d2_116 : decode method_2_code 116 = .ok (.sipush 8303, 3) := by decide +kernel
theorem d2_119 : decode method_2_code 119 = .ok (.if_icmp .gt 5, 3) := by decide +kernel
theorem d2_122 : decode method_2_code 122 = .ok (.iconst 0, 1) := by decide +kernel
theorem d2_123 : decode method_2_code 123 = .ok (.ireturn, 1) := by decide +kernel
theorem d2_124 : decode method_2_code 124 = .ok (.iload_n 0, 1) := by decide +kernel
theorem d2_125 : decode method_2_code 125 = .ok (.sipush 8592, 3) := by decide +kernel
theorem d2_128 : decode method_2_code 128 = .ok (.if_icmp .lt 12, 3) := by decide +kernel
theorem d2_131 : decode method_2_code 131 = .ok (.iload_n 0, 1) := by decide +kernel
theorem d2_132 : decode method_2_code 132 = .ok (.sipush 11263, 3) := by decide +kernel
theorem d2_135 : decode method_2_code 135 = .ok (.if_icmp .gt 5, 3) := by decide +kernel
theorem d2_138 : decode method_2_code 138 = .ok (.iconst 0, 1) := by decide +kernel
theorem d2_139 : decode method_2_code 139 = .ok (.ireturn, 1) := by decide +kernel
theorem d2_140 : decode method_2_code 140 = .ok (.iload_n 0, 1) := by decide +kernel
theorem d2_141 : decode method_2_code 141 = .ok (.sipush 12272, 3) := by decide +kernel
theorem d2_144 : decode method_2_code 144 = .ok (.if_icmp .lt 12, 3) := by decide +kernel
theorem d2_147 : decode method_2_code 147 = .ok (.iload_n 0, 1) := by decide +kernel
theorem d2_148 : decode method_2_code 148 = .ok (.sipush 12288, 3) := by decide +kernel
theorem d2_151 : decode method_2_code 151 = .ok (.if_icmp .gt 5, 3) := by decide +kernel
theorem d2_154 : decode method_2_code 154 = .ok (.iconst 0, 1) := by decide +kernel
theorem d2_155 : decode method_2_code 155 = .ok (.ireturn, 1) := by decide +kernel
theorem d2_156 : decode method_2_code 156 = .ok (.iload_n 0, 1) := by decide +kernel
theorem d2_157 : decode method_2_code 157 = .ok (.ldc 8, 2) := by decide +kernel
theorem d2_159 : decode method_2_code 159 = .ok (.if_icmp .lt 11, 3) := by decide +kernel
theorem d2_162 : decode method_2_code 162 = .ok (.iload_n 0, 1) := by decide +kernel
theorem d2_163 : decode method_2_code 163 = .ok (.ldc 9, 2) := by decide +kernel
theorem d2_165 : decode method_2_code 165 = .ok (.if_icmp .gt 5, 3) := by decide +kernel
theorem d2_168 : decode method_2_code 168 = .ok (.iconst 0, 1) := by decide +kernel
theorem d2_169 : decode method_2_code 169 = .ok (.ireturn, 1) := by decide +kernel
theorem d2_170 : decode method_2_code 170 = .ok (.iload_n 0, 1) := by decide +kernel
theorem d2_171 : decode method_2_code 171 = .ok (.ldc 10, 2) := by decide +kernel
theorem d2_173 : decode method_2_code 173 = .ok (.if_icmp .lt 11, 3) := by decide +kernel
theorem d2_176 : decode method_2_code 176 = .ok (.iload_n 0, 1) := by decide +kernel
theorem d2_177 : decode method_2_code 177 = .ok (.ldc 11, 2) := by decide +kernel
theorem d2_179 : decode method_2_code 179 = .ok (.if_icmp .gt 5, 3) := by decide +kernel
theorem d2_182 : decode method_2_code 182 = .ok (.iconst 0, 1) := by decide +kernel
theorem d2_183 : decode method_2_code 183 = .ok (.ireturn, 1) := by decide +kernel
theorem d2_184 : decode method_2_code 184 = .ok (.iload_n 0, 1) := by decide +kernel
theorem d2_185 : decode method_2_code 185 = .ok (.ldc 12, 2) := by decide +kernel
theorem d2_187 : decode method_2_code 187 = .ok (.if_icmp .lt 11, 3) := by decide +kernel
theorem d2_190 : decode method_2_code 190 = .ok (.iload_n 0, 1) := by decide +kernel
theorem d2_191 : decode method_2_code 191 = .ok (.ldc 13, 2) := by decide +kernel
theorem d2_193 : decode method_2_code 193 = .ok (.if_icmp .gt 5, 3) := by decide +kernel
theorem d2_196 : decode method_2_code 196 = .ok (.iconst 0, 1) := by decide +kernel
theorem d2_197 : decode method_2_code 197 = .ok (.ireturn, 1) := by decide +kernel
theorem d2_198 : decode method_2_code 198 = .ok (.iconst 1, 1) := by decide +kernel
theorem d2_199 : decode method_2_code 199 = .ok (.ireturn, 1) := by decide +kernel
def f2_12 (x0 : Int32) : Int32 := (0 : Int32)
set_option maxRecDepth 65536 in
set_option maxHeartbeats 40000000 in
theorem b2_12 {p : Program} {l : Launch} {e : Env} {s : State} {m : MethodId} {args : Array Value} {below : List Frame} {meth : Method} {c : Code} {T0 : State} {locs : List Loc} {Z : State} {a0 : Array Value} {h0 : Heap} {n0 : Nat} {P : Option Value → Heap → Prop} (x0 : Int32) (X0 : Stand p l e ({ frames := 0, cells := 0, slots := 0, locals := 0 } : Room) s m args below meth c T0 locs 0 0) (hx : p.tables.exec = Jvm.exec) (hZ : Z.Warmed39 s.vm) (hw : ∀ d ∈ tables_1, d.before a0 Z = true) (hby : c.code = method_2_code) (hml : c.maxLocals = 1) (hown : s.vm.findClass "com/example/lehre/lehre/XmlNamesIsNameStartPinLaw" = some m.cls) (hret : meth.sig.returnType = some .boolean) (hlk : meth.locks = false) (e0 : T0.heap = h0) (Z0 : n0 ≤ h0.size) (N0 : Fr n0 locs) (hP : P (some (.int (f2_12 x0))) h0) :
    own_Goes p e below s n0 0 0 P (T0.setTop (mkF m 12 #[.val (.int x0)] [])) := by
  rw [f2_12] at hP
  refine own_Goes.pre (fun t kt => ?_) (own_retN X0 hx hlk hret (by simp) (hb hby d2_13) N0 (by rw [e0]; exact hP) (by decide) (by decide) (Ls := #[.val (.int x0)]) (rest := []) (z := (0 : Int32)))
  show Steps p.tables e below (T0.setTop (mkF m 12 #[.val (.int x0)] [])) _
  refine XS.iconst X0.here hx rfl (hb hby d2_12) ?_
  exact kt
def f2_65 (x0 : Int32) : Int32 := (0 : Int32)
set_option maxRecDepth 65536 in
set_option maxHeartbeats 40000000 in
theorem b2_65 {p : Program} {l : Launch} {e : Env} {s : State} {m : MethodId} {args : Array Value} {below : List Frame} {meth : Method} {c : Code} {T0 : State} {locs : List Loc} {Z : State} {a0 : Array Value} {h0 : Heap} {n0 : Nat} {P : Option Value → Heap → Prop} (x0 : Int32) (X0 : Stand p l e ({ frames := 0, cells := 0, slots := 0, locals := 0 } : Room) s m args below meth c T0 locs 0 0) (hx : p.tables.exec = Jvm.exec) (hZ : Z.Warmed39 s.vm) (hw : ∀ d ∈ tables_1, d.before a0 Z = true) (hby : c.code = method_2_code) (hml : c.maxLocals = 1) (hown : s.vm.findClass "com/example/lehre/lehre/XmlNamesIsNameStartPinLaw" = some m.cls) (hret : meth.sig.returnType = some .boolean) (hlk : meth.locks = false) (e0 : T0.heap = h0) (Z0 : n0 ≤ h0.size) (N0 : Fr n0 locs) (hP : P (some (.int (f2_65 x0))) h0) :
    own_Goes p e below s n0 0 0 P (T0.setTop (mkF m 65 #[.val (.int x0)] [])) := by
  rw [f2_65] at hP
  refine own_Goes.pre (fun t kt => ?_) (own_retN X0 hx hlk hret (by simp) (hb hby d2_66) N0 (by rw [e0]; exact hP) (by decide) (by decide) (Ls := #[.val (.int x0)]) (rest := []) (z := (0 : Int32)))
  show Steps p.tables e below (T0.setTop (mkF m 65 #[.val (.int x0)] [])) _
  refine XS.iconst X0.here hx rfl (hb hby d2_65) ?_
  exact kt
def f2_198 (x0 : Int32) : Int32 := (1 : Int32)
set_option maxRecDepth 65536 in
set_option maxHeartbeats 40000000 in
theorem b2_198 {p : Program} {l : Launch} {e : Env} {s : State} {m : MethodId} {args : Array Value} {below : List Frame} {meth : Method} {c : Code} {T0 : State} {locs : List Loc} {Z : State} {a0 : Array Value} {h0 : Heap} {n0 : Nat} {P : Option Value → Heap → Prop} (x0 : Int32) (X0 : Stand p l e ({ frames := 0, cells := 0, slots := 0, locals := 0 } : Room) s m args below meth c T0 locs 0 0) (hx : p.tables.exec = Jvm.exec) (hZ : Z.Warmed39 s.vm) (hw : ∀ d ∈ tables_1, d.before a0 Z = true) (hby : c.code = method_2_code) (hml : c.maxLocals = 1) (hown : s.vm.findClass "com/example/lehre/lehre/XmlNamesIsNameStartPinLaw" = some m.cls) (hret : meth.sig.returnType = some .boolean) (hlk : meth.locks = false) (e0 : T0.heap = h0) (Z0 : n0 ≤ h0.size) (N0 : Fr n0 locs) (hP : P (some (.int (f2_198 x0))) h0) :
    own_Goes p e below s n0 0 0 P (T0.setTop (mkF m 198 #[.val (.int x0)] [])) := by
  rw [f2_198] at hP
  refine own_Goes.pre (fun t kt => ?_) (own_retN X0 hx hlk hret (by simp) (hb hby d2_199) N0 (by rw [e0]; exact hP) (by decide) (by decide) (Ls := #[.val (.int x0)]) (rest := []) (z := (1 : Int32)))
  show Steps p.tables e below (T0.setTop (mkF m 198 #[.val (.int x0)] [])) _
  refine XS.iconst X0.here hx rfl (hb hby d2_198) ?_
  exact kt
def f2_196 (x0 : Int32) : Int32 := (0 : Int32)
set_option maxRecDepth 65536 in
set_option maxHeartbeats 40000000 in
theorem b2_196 {p : Program} {l : Launch} {e : Env} {s : State} {m : MethodId} {args : Array Value} {below : List Frame} {meth : Method} {c : Code} {T0 : State} {locs : List Loc} {Z : State} {a0 : Array Value} {h0 : Heap} {n0 : Nat} {P : Option Value → Heap → Prop} (x0 : Int32) (X0 : Stand p l e ({ frames := 0, cells := 0, slots := 0, locals := 0 } : Room) s m args below meth c T0 locs 0 0) (hx : p.tables.exec = Jvm.exec) (hZ : Z.Warmed39 s.vm) (hw : ∀ d ∈ tables_1, d.before a0 Z = true) (hby : c.code = method_2_code) (hml : c.maxLocals = 1) (hown : s.vm.findClass "com/example/lehre/lehre/XmlNamesIsNameStartPinLaw" = some m.cls) (hret : meth.sig.returnType = some .boolean) (hlk : meth.locks = false) (e0 : T0.heap = h0) (Z0 : n0 ≤ h0.size) (N0 : Fr n0 locs) (hP : P (some (.int (f2_196 x0))) h0) :
    own_Goes p e below s n0 0 0 P (T0.setTop (mkF m 196 #[.val (.int x0)] [])) := by
  rw [f2_196] at hP
  refine own_Goes.pre (fun t kt => ?_) (own_retN X0 hx hlk hret (by simp) (hb hby d2_197) N0 (by rw [e0]; exact hP) (by decide) (by decide) (Ls := #[.val (.int x0)]) (rest := []) (z := (0 : Int32)))
  show Steps p.tables e below (T0.setTop (mkF m 196 #[.val (.int x0)] [])) _
  refine XS.iconst X0.here hx rfl (hb hby d2_196) ?_
  exact kt
def f2_190 (x0 : Int32) : Int32 := if (65535 : Int32) < x0 then (f2_198 x0) else (f2_196 x0)
set_option maxRecDepth 65536 in
set_option maxHeartbeats 40000000 in
theorem b2_190 {p : Program} {l : Launch} {e : Env} {s : State} {m : MethodId} {args : Array Value} {below : List Frame} {meth : Method} {c : Code} {T0 : State} {locs : List Loc} {Z : State} {a0 : Array Value} {h0 : Heap} {n0 : Nat} {P : Option Value → Heap → Prop} (x0 : Int32) (X0 : Stand p l e ({ frames := 0, cells := 0, slots := 0, locals := 0 } : Room) s m args below meth c T0 locs 0 0) (hx : p.tables.exec = Jvm.exec) (hZ : Z.Warmed39 s.vm) (hw : ∀ d ∈ tables_1, d.before a0 Z = true) (hby : c.code = method_2_code) (hml : c.maxLocals = 1) (hown : s.vm.findClass "com/example/lehre/lehre/XmlNamesIsNameStartPinLaw" = some m.cls) (hret : meth.sig.returnType = some .boolean) (hlk : meth.locks = false) (e0 : T0.heap = h0) (Z0 : n0 ≤ h0.size) (N0 : Fr n0 locs) (hP : P (some (.int (f2_190 x0))) h0) :
    own_Goes p e below s n0 0 0 P (T0.setTop (mkF m 190 #[.val (.int x0)] [])) := by
  have pre1 : ∀ t, Steps p.tables e below (T0.setTop (mkF m 193 #[.val (.int x0)] [(.int (65535 : Int32)), (.int x0)])) t → Steps p.tables e below (T0.setTop (mkF m 190 #[.val (.int x0)] [])) t := fun t kt => by
    show Steps p.tables e below (T0.setTop (mkF m 190 #[.val (.int x0)] [])) _
    refine XS.iloadN X0.here hx rfl (hb hby d2_190) rfl ?_
    show Steps p.tables e below (T0.setTop (mkF m 191 #[.val (.int x0)] [(.int x0)])) _
    refine X0.ldcInt hx hown (mvT hZ (hw _ (List.mem_of_getElem? (i := 29) rfl))) (g := (mkF m 191 #[.val (.int x0)] [(.int x0)])) rfl (hb hby d2_191) _ ?_
    exact kt
  refine own_Goes.pre pre1 ?_
  by_cases hc : (65535 : Int32) < x0
  · rw [f2_190, if_pos hc] at hP
    refine own_Goes.pre (fun t kt => ?_) (b2_198 x0 X0 hx hZ hw hby hml hown hret hlk e0 Z0 N0 hP)
    show Steps p.tables e below (T0.setTop (mkF m 193 #[.val (.int x0)] [(.int (65535 : Int32)), (.int x0)])) _
    refine XS.icmpYes X0.here hx rfl (pc0 := 193) (pc' := 198) rfl (hb hby d2_193) rfl (tlt hc).2.2.1 (by decide) (by decide) ?_
    exact kt
  · rw [f2_190, if_neg hc] at hP
    refine own_Goes.pre (fun t kt => ?_) (b2_196 x0 X0 hx hZ hw hby hml hown hret hlk e0 Z0 N0 hP)
    show Steps p.tables e below (T0.setTop (mkF m 193 #[.val (.int x0)] [(.int (65535 : Int32)), (.int x0)])) _
    refine XS.icmpNo X0.here hx rfl (hb hby d2_193) rfl (flt hc).2.2.1 ?_
    exact kt
def f2_184 (x0 : Int32) : Int32 := if x0 < (65534 : Int32) then (f2_198 x0) else (f2_190 x0)
set_option maxRecDepth 65536 in
set_option maxHeartbeats 40000000 in
theorem b2_184 {p : Program} {l : Launch} {e : Env} {s : State} {m : MethodId} {args : Array Value} {below : List Frame} {meth : Method} {c : Code} {T0 : State} {locs : List Loc} {Z : State} {a0 : Array Value} {h0 : Heap} {n0 : Nat} {P : Option Value → Heap → Prop} (x0 : Int32) (X0 : Stand p l e ({ frames := 0, cells := 0, slots := 0, locals := 0 } : Room) s m args below meth c T0 locs 0 0) (hx : p.tables.exec = Jvm.exec) (hZ : Z.Warmed39 s.vm) (hw : ∀ d ∈ tables_1, d.before a0 Z = true) (hby : c.code = method_2_code) (hml : c.maxLocals = 1) (hown : s.vm.findClass "com/example/lehre/lehre/XmlNamesIsNameStartPinLaw" = some m.cls) (hret : meth.sig.returnType = some .boolean) (hlk : meth.locks = false) (e0 : T0.heap = h0) (Z0 : n0 ≤ h0.size) (N0 : Fr n0 locs) (hP : P (some (.int (f2_184 x0))) h0) :
    own_Goes p e below s n0 0 0 P (T0.setTop (mkF m 184 #[.val (.int x0)] [])) := by
  have pre1 : ∀ t, Steps p.tables e below (T0.setTop (mkF m 187 #[.val (.int x0)] [(.int (65534 : Int32)), (.int x0)])) t → Steps p.tables e below (T0.setTop (mkF m 184 #[.val (.int x0)] [])) t := fun t kt => by
    show Steps p.tables e below (T0.setTop (mkF m 184 #[.val (.int x0)] [])) _
    refine XS.iloadN X0.here hx rfl (hb hby d2_184) rfl ?_
    show Steps p.tables e below (T0.setTop (mkF m 185 #[.val (.int x0)] [(.int x0)])) _
    refine X0.ldcInt hx hown (mvT hZ (hw _ (List.mem_of_getElem? (i := 22) rfl))) (g := (mkF m 185 #[.val (.int x0)] [(.int x0)])) rfl (hb hby d2_185) _ ?_
    exact kt
  refine own_Goes.pre pre1 ?_
  by_cases hc : x0 < (65534 : Int32)
  · rw [f2_184, if_pos hc] at hP
    refine own_Goes.pre (fun t kt => ?_) (b2_198 x0 X0 hx hZ hw hby hml hown hret hlk e0 Z0 N0 hP)
    show Steps p.tables e below (T0.setTop (mkF m 187 #[.val (.int x0)] [(.int (65534 : Int32)), (.int x0)])) _
    refine XS.icmpYes X0.here hx rfl (pc0 := 187) (pc' := 198) rfl (hb hby d2_187) rfl (tlt hc).1 (by decide) (by decide) ?_
    exact kt
  · rw [f2_184, if_neg hc] at hP
    refine own_Goes.pre (fun t kt => ?_) (b2_190 x0 X0 hx hZ hw hby hml hown hret hlk e0 Z0 N0 hP)
    show Steps p.tables e below (T0.setTop (mkF m 187 #[.val (.int x0)] [(.int (65534 : Int32)), (.int x0)])) _
    refine XS.icmpNo X0.here hx rfl (hb hby d2_187) rfl (flt hc).1 ?_
    exact kt
def f2_182 (x0 : Int32) : Int32 := (0 : Int32)
set_option maxRecDepth 65536 in
set_option maxHeartbeats 40000000 in
theorem b2_182 {p : Program} {l : Launch} {e : Env} {s : State} {m : MethodId} {args : Array Value} {below : List Frame} {meth : Method} {c : Code} {T0 : State} {locs : List Loc} {Z : State} {a0 : Array Value} {h0 : Heap} {n0 : Nat} {P : Option Value → Heap → Prop} (x0 : Int32) (X0 : Stand p l e ({ frames := 0, cells := 0, slots := 0, locals := 0 } : Room) s m args below meth c T0 locs 0 0) (hx : p.tables.exec = Jvm.exec) (hZ : Z.Warmed39 s.vm) (hw : ∀ d ∈ tables_1, d.before a0 Z = true) (hby : c.code = method_2_code) (hml : c.maxLocals = 1) (hown : s.vm.findClass "com/example/lehre/lehre/XmlNamesIsNameStartPinLaw" = some m.cls) (hret : meth.sig.returnType = some .boolean) (hlk : meth.locks = false) (e0 : T0.heap = h0) (Z0 : n0 ≤ h0.size) (N0 : Fr n0 locs) (hP : P (some (.int (f2_182 x0))) h0) :
    own_Goes p e below s n0 0 0 P (T0.setTop (mkF m 182 #[.val (.int x0)] [])) := by
  rw [f2_182] at hP
  refine own_Goes.pre (fun t kt => ?_) (own_retN X0 hx hlk hret (by simp) (hb hby d2_183) N0 (by rw [e0]; exact hP) (by decide) (by decide) (Ls := #[.val (.int x0)]) (rest := []) (z := (0 : Int32)))
  show Steps p.tables e below (T0.setTop (mkF m 182 #[.val (.int x0)] [])) _
  refine XS.iconst X0.here hx rfl (hb hby d2_182) ?_
  exact kt
def f2_176 (x0 : Int32) : Int32 := if (65007 : Int32) < x0 then (f2_184 x0) else (f2_182 x0)
set_option maxRecDepth 65536 in
set_option maxHeartbeats 40000000 in
theorem b2_176 {p : Program} {l : Launch} {e : Env} {s : State} {m : MethodId} {args : Array Value} {below : List Frame} {meth : Method} {c : Code} {T0 : State} {locs : List Loc} {Z : State} {a0 : Array Value} {h0 : Heap} {n0 : Nat} {P : Option Value → Heap → Prop} (x0 : Int32) (X0 : Stand p l e ({ frames := 0, cells := 0, slots := 0, locals := 0 } : Room) s m args below meth c T0 locs 0 0) (hx : p.tables.exec = Jvm.exec) (hZ : Z.Warmed39 s.vm) (hw : ∀ d ∈ tables_1, d.before a0 Z = true) (hby : c.code = method_2_code) (hml : c.maxLocals = 1) (hown : s.vm.findClass "com/example/lehre/lehre/XmlNamesIsNameStartPinLaw" = some m.cls) (hret : meth.sig.returnType = some .boolean) (hlk : meth.locks = false) (e0 : T0.heap = h0) (Z0 : n0 ≤ h0.size) (N0 : Fr n0 locs) (hP : P (some (.int (f2_176 x0))) h0) :
    own_Goes p e below s n0 0 0 P (T0.setTop (mkF m 176 #[.val (.int x0)] [])) := by
  have pre1 : ∀ t, Steps p.tables e below (T0.setTop (mkF m 179 #[.val (.int x0)] [(.int (65007 : Int32)), (.int x0)])) t → Steps p.tables e below (T0.setTop (mkF m 176 #[.val (.int x0)] [])) t := fun t kt => by
    show Steps p.tables e below (T0.setTop (mkF m 176 #[.val (.int x0)] [])) _
    refine XS.iloadN X0.here hx rfl (hb hby d2_176) rfl ?_
    show Steps p.tables e below (T0.setTop (mkF m 177 #[.val (.int x0)] [(.int x0)])) _
    refine X0.ldcInt hx hown (mvT hZ (hw _ (List.mem_of_getElem? (i := 28) rfl))) (g := (mkF m 177 #[.val (.int x0)] [(.int x0)])) rfl (hb hby d2_177) _ ?_
    exact kt
  refine own_Goes.pre pre1 ?_
  by_cases hc : (65007 : Int32) < x0
  · rw [f2_176, if_pos hc] at hP
    refine own_Goes.pre (fun t kt => ?_) (b2_184 x0 X0 hx hZ hw hby hml hown hret hlk e0 Z0 N0 hP)
    show Steps p.tables e below (T0.setTop (mkF m 179 #[.val (.int x0)] [(.int (65007 : Int32)), (.int x0)])) _
    refine XS.icmpYes X0.here hx rfl (pc0 := 179) (pc' := 184) rfl (hb hby d2_179) rfl (tlt hc).2.2.1 (by decide) (by decide) ?_
    exact kt
  · rw [f2_176, if_neg hc] at hP
    refine own_Goes.pre (fun t kt => ?_) (b2_182 x0 X0 hx hZ hw hby hml hown hret hlk e0 Z0 N0 hP)
    show Steps p.tables e below (T0.setTop (mkF m 179 #[.val (.int x0)] [(.int (65007 : Int32)), (.int x0)])) _
    refine XS.icmpNo X0.here hx rfl (hb hby d2_179) rfl (flt hc).2.2.1 ?_
    exact kt
def f2_170 (x0 : Int32) : Int32 := if x0 < (64976 : Int32) then (f2_184 x0) else (f2_176 x0)
set_option maxRecDepth 65536 in
set_option maxHeartbeats 40000000 in
theorem b2_170 {p : Program} {l : Launch} {e : Env} {s : State} {m : MethodId} {args : Array Value} {below : List Frame} {meth : Method} {c : Code} {T0 : State} {locs : List Loc} {Z : State} {a0 : Array Value} {h0 : Heap} {n0 : Nat} {P : Option Value → Heap → Prop} (x0 : Int32) (X0 : Stand p l e ({ frames := 0, cells := 0, slots := 0, locals := 0 } : Room) s m args below meth c T0 locs 0 0) (hx : p.tables.exec = Jvm.exec) (hZ : Z.Warmed39 s.vm) (hw : ∀ d ∈ tables_1, d.before a0 Z = true) (hby : c.code = method_2_code) (hml : c.maxLocals = 1) (hown : s.vm.findClass "com/example/lehre/lehre/XmlNamesIsNameStartPinLaw" = some m.cls) (hret : meth.sig.returnType = some .boolean) (hlk : meth.locks = false) (e0 : T0.heap = h0) (Z0 : n0 ≤ h0.size) (N0 : Fr n0 locs) (hP : P (some (.int (f2_170 x0))) h0) :
    own_Goes p e below s n0 0 0 P (T0.setTop (mkF m 170 #[.val (.int x0)] [])) := by
  have pre1 : ∀ t, Steps p.tables e below (T0.setTop (mkF m 173 #[.val (.int x0)] [(.int (64976 : Int32)), (.int x0)])) t → Steps p.tables e below (T0.setTop (mkF m 170 #[.val (.int x0)] [])) t := fun t kt => by
    show Steps p.tables e below (T0.setTop (mkF m 170 #[.val (.int x0)] [])) _
    refine XS.iloadN X0.here hx rfl (hb hby d2_170) rfl ?_
    show Steps p.tables e below (T0.setTop (mkF m 171 #[.val (.int x0)] [(.int x0)])) _
    refine X0.ldcInt hx hown (mvT hZ (hw _ (List.mem_of_getElem? (i := 21) rfl))) (g := (mkF m 171 #[.val (.int x0)] [(.int x0)])) rfl (hb hby d2_171) _ ?_
    exact kt
  refine own_Goes.pre pre1 ?_
  by_cases hc : x0 < (64976 : Int32)
  · rw [f2_170, if_pos hc] at hP
    refine own_Goes.pre (fun t kt => ?_) (b2_184 x0 X0 hx hZ hw hby hml hown hret hlk e0 Z0 N0 hP)
    show Steps p.tables e below (T0.setTop (mkF m 173 #[.val (.int x0)] [(.int (64976 : Int32)), (.int x0)])) _
    refine XS.icmpYes X0.here hx rfl (pc0 := 173) (pc' := 184) rfl (hb hby d2_173) rfl (tlt hc).1 (by decide) (by decide) ?_
    exact kt
  · rw [f2_170, if_neg hc] at hP
    refine own_Goes.pre (fun t kt => ?_) (b2_176 x0 X0 hx hZ hw hby hml hown hret hlk e0 Z0 N0 hP)
    show Steps p.tables e below (T0.setTop (mkF m 173 #[.val (.int x0)] [(.int (64976 : Int32)), (.int x0)])) _
    refine XS.icmpNo X0.here hx rfl (hb hby d2_173) rfl (flt hc).1 ?_
    exact kt
def f2_168 (x0 : Int32) : Int32 := (0 : Int32)
set_option maxRecDepth 65536 in
set_option maxHeartbeats 40000000 in
theorem b2_168 {p : Program} {l : Launch} {e : Env} {s : State} {m : MethodId} {args : Array Value} {below : List Frame} {meth : Method} {c : Code} {T0 : State} {locs : List Loc} {Z : State} {a0 : Array Value} {h0 : Heap} {n0 : Nat} {P : Option Value → Heap → Prop} (x0 : Int32) (X0 : Stand p l e ({ frames := 0, cells := 0, slots := 0, locals := 0 } : Room) s m args below meth c T0 locs 0 0) (hx : p.tables.exec = Jvm.exec) (hZ : Z.Warmed39 s.vm) (hw : ∀ d ∈ tables_1, d.before a0 Z = true) (hby : c.code = method_2_code) (hml : c.maxLocals = 1) (hown : s.vm.findClass "com/example/lehre/lehre/XmlNamesIsNameStartPinLaw" = some m.cls) (hret : meth.sig.returnType = some .boolean) (hlk : meth.locks = false) (e0 : T0.heap = h0) (Z0 : n0 ≤ h0.size) (N0 : Fr n0 locs) (hP : P (some (.int (f2_168 x0))) h0) :
    own_Goes p e below s n0 0 0 P (T0.setTop (mkF m 168 #[.val (.int x0)] [])) := by
  rw [f2_168] at hP
  refine own_Goes.pre (fun t kt => ?_) (own_retN X0 hx hlk hret (by simp) (hb hby d2_169) N0 (by rw [e0]; exact hP) (by decide) (by decide) (Ls := #[.val (.int x0)]) (rest := []) (z := (0 : Int32)))
  show Steps p.tables e below (T0.setTop (mkF m 168 #[.val (.int x0)] [])) _
  refine XS.iconst X0.here hx rfl (hb hby d2_168) ?_
  exact kt
def f2_162 (x0 : Int32) : Int32 := if (63743 : Int32) < x0 then (f2_170 x0) else (f2_168 x0)
set_option maxRecDepth 65536 in
set_option maxHeartbeats 40000000 in
theorem b2_162 {p : Program} {l : Launch} {e : Env} {s : State} {m : MethodId} {args : Array Value} {below : List Frame} {meth : Method} {c : Code} {T0 : State} {locs : List Loc} {Z : State} {a0 : Array Value} {h0 : Heap} {n0 : Nat} {P : Option Value → Heap → Prop} (x0 : Int32) (X0 : Stand p l e ({ frames := 0, cells := 0, slots := 0, locals := 0 } : Room) s m args below meth c T0 locs 0 0) (hx : p.tables.exec = Jvm.exec) (hZ : Z.Warmed39 s.vm) (hw : ∀ d ∈ tables_1, d.before a0 Z = true) (hby : c.code = method_2_code) (hml : c.maxLocals = 1) (hown : s.vm.findClass "com/example/lehre/lehre/XmlNamesIsNameStartPinLaw" = some m.cls) (hret : meth.sig.returnType = some .boolean) (hlk : meth.locks = false) (e0 : T0.heap = h0) (Z0 : n0 ≤ h0.size) (N0 : Fr n0 locs) (hP : P (some (.int (f2_162 x0))) h0) :
    own_Goes p e below s n0 0 0 P (T0.setTop (mkF m 162 #[.val (.int x0)] [])) := by
  have pre1 : ∀ t, Steps p.tables e below (T0.setTop (mkF m 165 #[.val (.int x0)] [(.int (63743 : Int32)), (.int x0)])) t → Steps p.tables e below (T0.setTop (mkF m 162 #[.val (.int x0)] [])) t := fun t kt => by
    show Steps p.tables e below (T0.setTop (mkF m 162 #[.val (.int x0)] [])) _
    refine XS.iloadN X0.here hx rfl (hb hby d2_162) rfl ?_
    show Steps p.tables e below (T0.setTop (mkF m 163 #[.val (.int x0)] [(.int x0)])) _
    refine X0.ldcInt hx hown (mvT hZ (hw _ (List.mem_of_getElem? (i := 27) rfl))) (g := (mkF m 163 #[.val (.int x0)] [(.int x0)])) rfl (hb hby d2_163) _ ?_
    exact kt
  refine own_Goes.pre pre1 ?_
  by_cases hc : (63743 : Int32) < x0
  · rw [f2_162, if_pos hc] at hP
    refine own_Goes.pre (fun t kt => ?_) (b2_170 x0 X0 hx hZ hw hby hml hown hret hlk e0 Z0 N0 hP)
    show Steps p.tables e below (T0.setTop (mkF m 165 #[.val (.int x0)] [(.int (63743 : Int32)), (.int x0)])) _
    refine XS.icmpYes X0.here hx rfl (pc0 := 165) (pc' := 170) rfl (hb hby d2_165) rfl (tlt hc).2.2.1 (by decide) (by decide) ?_
    exact kt
  · rw [f2_162, if_neg hc] at hP
    refine own_Goes.pre (fun t kt => ?_) (b2_168 x0 X0 hx hZ hw hby hml hown hret hlk e0 Z0 N0 hP)
    show Steps p.tables e below (T0.setTop (mkF m 165 #[.val (.int x0)] [(.int (63743 : Int32)), (.int x0)])) _
    refine XS.icmpNo X0.here hx rfl (hb hby d2_165) rfl (flt hc).2.2.1 ?_
    exact kt
def f2_156 (x0 : Int32) : Int32 := if x0 < (55296 : Int32) then (f2_170 x0) else (f2_162 x0)
set_option maxRecDepth 65536 in
set_option maxHeartbeats 40000000 in
theorem b2_156 {p : Program} {l : Launch} {e : Env} {s : State} {m : MethodId} {args : Array Value} {below : List Frame} {meth : Method} {c : Code} {T0 : State} {locs : List Loc} {Z : State} {a0 : Array Value} {h0 : Heap} {n0 : Nat} {P : Option Value → Heap → Prop} (x0 : Int32) (X0 : Stand p l e ({ frames := 0, cells := 0, slots := 0, locals := 0 } : Room) s m args below meth c T0 locs 0 0) (hx : p.tables.exec = Jvm.exec) (hZ : Z.Warmed39 s.vm) (hw : ∀ d ∈ tables_1, d.before a0 Z = true) (hby : c.code = method_2_code) (hml : c.maxLocals = 1) (hown : s.vm.findClass "com/example/lehre/lehre/XmlNamesIsNameStartPinLaw" = some m.cls) (hret : meth.sig.returnType = some .boolean) (hlk : meth.locks = false) (e0 : T0.heap = h0) (Z0 : n0 ≤ h0.size) (N0 : Fr n0 locs) (hP : P (some (.int (f2_156 x0))) h0) :
    own_Goes p e below s n0 0 0 P (T0.setTop (mkF m 156 #[.val (.int x0)] [])) := by
  have pre1 : ∀ t, Steps p.tables e below (T0.setTop (mkF m 159 #[.val (.int x0)] [(.int (55296 : Int32)), (.int x0)])) t → Steps p.tables e below (T0.setTop (mkF m 156 #[.val (.int x0)] [])) t := fun t kt => by
    show Steps p.tables e below (T0.setTop (mkF m 156 #[.val (.int x0)] [])) _
    refine XS.iloadN X0.here hx rfl (hb hby d2_156) rfl ?_
    show Steps p.tables e below (T0.setTop (mkF m 157 #[.val (.int x0)] [(.int x0)])) _
    refine X0.ldcInt hx hown (mvT hZ (hw _ (List.mem_of_getElem? (i := 20) rfl))) (g := (mkF m 157 #[.val (.int x0)] [(.int x0)])) rfl (hb hby d2_157) _ ?_
    exact kt
  refine own_Goes.pre pre1 ?_
  by_cases hc : x0 < (55296 : Int32)
  · rw [f2_156, if_pos hc] at hP
    refine own_Goes.pre (fun t kt => ?_) (b2_170 x0 X0 hx hZ hw hby hml hown hret hlk e0 Z0 N0 hP)
    show Steps p.tables e below (T0.setTop (mkF m 159 #[.val (.int x0)] [(.int (55296 : Int32)), (.int x0)])) _
    refine XS.icmpYes X0.here hx rfl (pc0 := 159) (pc' := 170) rfl (hb hby d2_159) rfl (tlt hc).1 (by decide) (by decide) ?_
    exact kt
  · rw [f2_156, if_neg hc] at hP
    refine own_Goes.pre (fun t kt => ?_) (b2_162 x0 X0 hx hZ hw hby hml hown hret hlk e0 Z0 N0 hP)
    show Steps p.tables e below (T0.setTop (mkF m 159 #[.val (.int x0)] [(.int (55296 : Int32)), (.int x0)])) _
    refine XS.icmpNo X0.here hx rfl (hb hby d2_159) rfl (flt hc).1 ?_
    exact kt
def f2_154 (x0 : Int32) : Int32 := (0 : Int32)
set_option maxRecDepth 65536 in
set_option maxHeartbeats 40000000 in
theorem b2_154 {p : Program} {l : Launch} {e : Env} {s : State} {m : MethodId} {args : Array Value} {below : List Frame} {meth : Method} {c : Code} {T0 : State} {locs : List Loc} {Z : State} {a0 : Array Value} {h0 : Heap} {n0 : Nat} {P : Option Value → Heap → Prop} (x0 : Int32) (X0 : Stand p l e ({ frames := 0, cells := 0, slots := 0, locals := 0 } : Room) s m args below meth c T0 locs 0 0) (hx : p.tables.exec = Jvm.exec) (hZ : Z.Warmed39 s.vm) (hw : ∀ d ∈ tables_1, d.before a0 Z = true) (hby : c.code = method_2_code) (hml : c.maxLocals = 1) (hown : s.vm.findClass "com/example/lehre/lehre/XmlNamesIsNameStartPinLaw" = some m.cls) (hret : meth.sig.returnType = some .boolean) (hlk : meth.locks = false) (e0 : T0.heap = h0) (Z0 : n0 ≤ h0.size) (N0 : Fr n0 locs) (hP : P (some (.int (f2_154 x0))) h0) :
    own_Goes p e below s n0 0 0 P (T0.setTop (mkF m 154 #[.val (.int x0)] [])) := by
  rw [f2_154] at hP
  refine own_Goes.pre (fun t kt => ?_) (own_retN X0 hx hlk hret (by simp) (hb hby d2_155) N0 (by rw [e0]; exact hP) (by decide) (by decide) (Ls := #[.val (.int x0)]) (rest := []) (z := (0 : Int32)))
  show Steps p.tables e below (T0.setTop (mkF m 154 #[.val (.int x0)] [])) _
  refine XS.iconst X0.here hx rfl (hb hby d2_154) ?_
  exact kt
def f2_147 (x0 : Int32) : Int32 := if (12288 : Int32) < x0 then (f2_156 x0) else (f2_154 x0)
set_option maxRecDepth 65536 in
set_option maxHeartbeats 40000000 in
theorem b2_147 {p : Program} {l : Launch} {e : Env} {s : State} {m : MethodId} {args : Array Value} {below : List Frame} {meth : Method} {c : Code} {T0 : State} {locs : List Loc} {Z : State} {a0 : Array Value} {h0 : Heap} {n0 : Nat} {P : Option Value → Heap → Prop} (x0 : Int32) (X0 : Stand p l e ({ frames := 0, cells := 0, slots := 0, locals := 0 } : Room) s m args below meth c T0 locs 0 0) (hx : p.tables.exec = Jvm.exec) (hZ : Z.Warmed39 s.vm) (hw : ∀ d ∈ tables_1, d.before a0 Z = true) (hby : c.code = method_2_code) (hml : c.maxLocals = 1) (hown : s.vm.findClass "com/example/lehre/lehre/XmlNamesIsNameStartPinLaw" = some m.cls) (hret : meth.sig.returnType = some .boolean) (hlk : meth.locks = false) (e0 : T0.heap = h0) (Z0 : n0 ≤ h0.size) (N0 : Fr n0 locs) (hP : P (some (.int (f2_147 x0))) h0) :
    own_Goes p e below s n0 0 0 P (T0.setTop (mkF m 147 #[.val (.int x0)] [])) := by
  have pre1 : ∀ t, Steps p.tables e below (T0.setTop (mkF m 151 #[.val (.int x0)] [(.int (12288 : Int32)), (.int x0)])) t → Steps p.tables e below (T0.setTop (mkF m 147 #[.val (.int x0)] [])) t := fun t kt => by
    show Steps p.tables e below (T0.setTop (mkF m 147 #[.val (.int x0)] [])) _
    refine XS.iloadN X0.here hx rfl (hb hby d2_147) rfl ?_
    show Steps p.tables e below (T0.setTop (mkF m 148 #[.val (.int x0)] [(.int x0)])) _
    refine XS.sipush X0.here hx rfl (hb hby d2_148) ?_
    exact kt
  refine own_Goes.pre pre1 ?_
  by_cases hc : (12288 : Int32) < x0
  · rw [f2_147, if_pos hc] at hP
    refine own_Goes.pre (fun t kt => ?_) (b2_156 x0 X0 hx hZ hw hby hml hown hret hlk e0 Z0 N0 hP)
    show Steps p.tables e below (T0.setTop (mkF m 151 #[.val (.int x0)] [(.int (12288 : Int32)), (.int x0)])) _
    refine XS.icmpYes X0.here hx rfl (pc0 := 151) (pc' := 156) rfl (hb hby d2_151) rfl (tlt hc).2.2.1 (by decide) (by decide) ?_
    exact kt
  · rw [f2_147, if_neg hc] at hP
    refine own_Goes.pre (fun t kt => ?_) (b2_154 x0 X0 hx hZ hw hby hml hown hret hlk e0 Z0 N0 hP)
    show Steps p.tables e below (T0.setTop (mkF m 151 #[.val (.int x0)] [(.int (12288 : Int32)), (.int x0)])) _
    refine XS.icmpNo X0.here hx rfl (hb hby d2_151) rfl (flt hc).2.2.1 ?_
    exact kt
def f2_140 (x0 : Int32) : Int32 := if x0 < (12272 : Int32) then (f2_156 x0) else (f2_147 x0)
set_option maxRecDepth 65536 in
set_option maxHeartbeats 40000000 in
theorem b2_140 {p : Program} {l : Launch} {e : Env} {s : State} {m : MethodId} {args : Array Value} {below : List Frame} {meth : Method} {c : Code} {T0 : State} {locs : List Loc} {Z : State} {a0 : Array Value} {h0 : Heap} {n0 : Nat} {P : Option Value → Heap → Prop} (x0 : Int32) (X0 : Stand p l e ({ frames := 0, cells := 0, slots := 0, locals := 0 } : Room) s m args below meth c T0 locs 0 0) (hx : p.tables.exec = Jvm.exec) (hZ : Z.Warmed39 s.vm) (hw : ∀ d ∈ tables_1, d.before a0 Z = true) (hby : c.code = method_2_code) (hml : c.maxLocals = 1) (hown : s.vm.findClass "com/example/lehre/lehre/XmlNamesIsNameStartPinLaw" = some m.cls) (hret : meth.sig.returnType = some .boolean) (hlk : meth.locks = false) (e0 : T0.heap = h0) (Z0 : n0 ≤ h0.size) (N0 : Fr n0 locs) (hP : P (some (.int (f2_140 x0))) h0) :
    own_Goes p e below s n0 0 0 P (T0.setTop (mkF m 140 #[.val (.int x0)] [])) := by
  have pre1 : ∀ t, Steps p.tables e below (T0.setTop (mkF m 144 #[.val (.int x0)] [(.int (12272 : Int32)), (.int x0)])) t → Steps p.tables e below (T0.setTop (mkF m 140 #[.val (.int x0)] [])) t := fun t kt => by
    show Steps p.tables e below (T0.setTop (mkF m 140 #[.val (.int x0)] [])) _
    refine XS.iloadN X0.here hx rfl (hb hby d2_140) rfl ?_
    show Steps p.tables e below (T0.setTop (mkF m 141 #[.val (.int x0)] [(.int x0)])) _
    refine XS.sipush X0.here hx rfl (hb hby d2_141) ?_
    exact kt
  refine own_Goes.pre pre1 ?_
  by_cases hc : x0 < (12272 : Int32)
  · rw [f2_140, if_pos hc] at hP
    refine own_Goes.pre (fun t kt => ?_) (b2_156 x0 X0 hx hZ hw hby hml hown hret hlk e0 Z0 N0 hP)
    show Steps p.tables e below (T0.setTop (mkF m 144 #[.val (.int x0)] [(.int (12272 : Int32)), (.int x0)])) _
    refine XS.icmpYes X0.here hx rfl (pc0 := 144) (pc' := 156) rfl (hb hby d2_144) rfl (tlt hc).1 (by decide) (by decide) ?_
    exact kt
  · rw [f2_140, if_neg hc] at hP
    refine own_Goes.pre (fun t kt => ?_) (b2_147 x0 X0 hx hZ hw hby hml hown hret hlk e0 Z0 N0 hP)
    show Steps p.tables e below (T0.setTop (mkF m 144 #[.val (.int x0)] [(.int (12272 : Int32)), (.int x0)])) _
    refine XS.icmpNo X0.here hx rfl (hb hby d2_144) rfl (flt hc).1 ?_
    exact kt
def f2_138 (x0 : Int32) : Int32 := (0 : Int32)
set_option maxRecDepth 65536 in
set_option maxHeartbeats 40000000 in
theorem b2_138 {p : Program} {l : Launch} {e : Env} {s : State} {m : MethodId} {args : Array Value} {below : List Frame} {meth : Method} {c : Code} {T0 : State} {locs : List Loc} {Z : State} {a0 : Array Value} {h0 : Heap} {n0 : Nat} {P : Option Value → Heap → Prop} (x0 : Int32) (X0 : Stand p l e ({ frames := 0, cells := 0, slots := 0, locals := 0 } : Room) s m args below meth c T0 locs 0 0) (hx : p.tables.exec = Jvm.exec) (hZ : Z.Warmed39 s.vm) (hw : ∀ d ∈ tables_1, d.before a0 Z = true) (hby : c.code = method_2_code) (hml : c.maxLocals = 1) (hown : s.vm.findClass "com/example/lehre/lehre/XmlNamesIsNameStartPinLaw" = some m.cls) (hret : meth.sig.returnType = some .boolean) (hlk : meth.locks = false) (e0 : T0.heap = h0) (Z0 : n0 ≤ h0.size) (N0 : Fr n0 locs) (hP : P (some (.int (f2_138 x0))) h0) :
    own_Goes p e below s n0 0 0 P (T0.setTop (mkF m 138 #[.val (.int x0)] [])) := by
  rw [f2_138] at hP
  refine own_Goes.pre (fun t kt => ?_) (own_retN X0 hx hlk hret (by simp) (hb hby d2_139) N0 (by rw [e0]; exact hP) (by decide) (by decide) (Ls := #[.val (.int x0)]) (rest := []) (z := (0 : Int32)))
  show Steps p.tables e below (T0.setTop (mkF m 138 #[.val (.int x0)] [])) _
  refine XS.iconst X0.here hx rfl (hb hby d2_138) ?_
  exact kt
def f2_131 (x0 : Int32) : Int32 := if (11263 : Int32) < x0 then (f2_140 x0) else (f2_138 x0)
set_option maxRecDepth 65536 in
set_option maxHeartbeats 40000000 in
theorem b2_131 {p : Program} {l : Launch} {e : Env} {s : State} {m : MethodId} {args : Array Value} {below : List Frame} {meth : Method} {c : Code} {T0 : State} {locs : List Loc} {Z : State} {a0 : Array Value} {h0 : Heap} {n0 : Nat} {P : Option Value → Heap → Prop} (x0 : Int32) (X0 : Stand p l e ({ frames := 0, cells := 0, slots := 0, locals := 0 } : Room) s m args below meth c T0 locs 0 0) (hx : p.tables.exec = Jvm.exec) (hZ : Z.Warmed39 s.vm) (hw : ∀ d ∈ tables_1, d.before a0 Z = true) (hby : c.code = method_2_code) (hml : c.maxLocals = 1) (hown : s.vm.findClass "com/example/lehre/lehre/XmlNamesIsNameStartPinLaw" = some m.cls) (hret : meth.sig.returnType = some .boolean) (hlk : meth.locks = false) (e0 : T0.heap = h0) (Z0 : n0 ≤ h0.size) (N0 : Fr n0 locs) (hP : P (some (.int (f2_131 x0))) h0) :
    own_Goes p e below s n0 0 0 P (T0.setTop (mkF m 131 #[.val (.int x0)] [])) := by
  have pre1 : ∀ t, Steps p.tables e below (T0.setTop (mkF m 135 #[.val (.int x0)] [(.int (11263 : Int32)), (.int x0)])) t → Steps p.tables e below (T0.setTop (mkF m 131 #[.val (.int x0)] [])) t := fun t kt => by
    show Steps p.tables e below (T0.setTop (mkF m 131 #[.val (.int x0)] [])) _
    refine XS.iloadN X0.here hx rfl (hb hby d2_131) rfl ?_
    show Steps p.tables e below (T0.setTop (mkF m 132 #[.val (.int x0)] [(.int x0)])) _
    refine XS.sipush X0.here hx rfl (hb hby d2_132) ?_
    exact kt
  refine own_Goes.pre pre1 ?_
  by_cases hc : (11263 : Int32) < x0
  · rw [f2_131, if_pos hc] at hP
    refine own_Goes.pre (fun t kt => ?_) (b2_140 x0 X0 hx hZ hw hby hml hown hret hlk e0 Z0 N0 hP)
    show Steps p.tables e below (T0.setTop (mkF m 135 #[.val (.int x0)] [(.int (11263 : Int32)), (.int x0)])) _
    refine XS.icmpYes X0.here hx rfl (pc0 := 135) (pc' := 140) rfl (hb hby d2_135) rfl (tlt hc).2.2.1 (by decide) (by decide) ?_
    exact kt
  · rw [f2_131, if_neg hc] at hP
    refine own_Goes.pre (fun t kt => ?_) (b2_138 x0 X0 hx hZ hw hby hml hown hret hlk e0 Z0 N0 hP)
    show Steps p.tables e below (T0.setTop (mkF m 135 #[.val (.int x0)] [(.int (11263 : Int32)), (.int x0)])) _
    refine XS.icmpNo X0.here hx rfl (hb hby d2_135) rfl (flt hc).2.2.1 ?_
    exact kt
def f2_124 (x0 : Int32) : Int32 := if x0 < (8592 : Int32) then (f2_140 x0) else (f2_131 x0)
set_option maxRecDepth 65536 in
set_option maxHeartbeats 40000000 in
theorem b2_124 {p : Program} {l : Launch} {e : Env} {s : State} {m : MethodId} {args : Array Value} {below : List Frame} {meth : Method} {c : Code} {T0 : State} {locs : List Loc} {Z : State} {a0 : Array Value} {h0 : Heap} {n0 : Nat} {P : Option Value → Heap → Prop} (x0 : Int32) (X0 : Stand p l e ({ frames := 0, cells := 0, slots := 0, locals := 0 } : Room) s m args below meth c T0 locs 0 0) (hx : p.tables.exec = Jvm.exec) (hZ : Z.Warmed39 s.vm) (hw : ∀ d ∈ tables_1, d.before a0 Z = true) (hby : c.code = method_2_code) (hml : c.maxLocals = 1) (hown : s.vm.findClass "com/example/lehre/lehre/XmlNamesIsNameStartPinLaw" = some m.cls) (hret : meth.sig.returnType = some .boolean) (hlk : meth.locks = false) (e0 : T0.heap = h0) (Z0 : n0 ≤ h0.size) (N0 : Fr n0 locs) (hP : P (some (.int (f2_124 x0))) h0) :
    own_Goes p e below s n0 0 0 P (T0.setTop (mkF m 124 #[.val (.int x0)] [])) := by
  have pre1 : ∀ t, Steps p.tables e below (T0.setTop (mkF m 128 #[.val (.int x0)] [(.int (8592 : Int32)), (.int x0)])) t → Steps p.tables e below (T0.setTop (mkF m 124 #[.val (.int x0)] [])) t := fun t kt => by
    show Steps p.tables e below (T0.setTop (mkF m 124 #[.val (.int x0)] [])) _
    refine XS.iloadN X0.here hx rfl (hb hby d2_124) rfl ?_
    show Steps p.tables e below (T0.setTop (mkF m 125 #[.val (.int x0)] [(.int x0)])) _
    refine XS.sipush X0.here hx rfl (hb hby d2_125) ?_
    exact kt
  refine own_Goes.pre pre1 ?_
  by_cases hc : x0 < (8592 : Int32)
  · rw [f2_124, if_pos hc] at hP
    refine own_Goes.pre (fun t kt => ?_) (b2_140 x0 X0 hx hZ hw hby hml hown hret hlk e0 Z0 N0 hP)
    show Steps p.tables e below (T0.setTop (mkF m 128 #[.val (.int x0)] [(.int (8592 : Int32)), (.int x0)])) _
    refine XS.icmpYes X0.here hx rfl (pc0 := 128) (pc' := 140) rfl (hb hby d2_128) rfl (tlt hc).1 (by decide) (by decide) ?_
    exact kt
  · rw [f2_124, if_neg hc] at hP
    refine own_Goes.pre (fun t kt => ?_) (b2_131 x0 X0 hx hZ hw hby hml hown hret hlk e0 Z0 N0 hP)
    show Steps p.tables e below (T0.setTop (mkF m 128 #[.val (.int x0)] [(.int (8592 : Int32)), (.int x0)])) _
    refine XS.icmpNo X0.here hx rfl (hb hby d2_128) rfl (flt hc).1 ?_
    exact kt
def f2_122 (x0 : Int32) : Int32 := (0 : Int32)
set_option maxRecDepth 65536 in
set_option maxHeartbeats 40000000 in
theorem b2_122 {p : Program} {l : Launch} {e : Env} {s : State} {m : MethodId} {args : Array Value} {below : List Frame} {meth : Method} {c : Code} {T0 : State} {locs : List Loc} {Z : State} {a0 : Array Value} {h0 : Heap} {n0 : Nat} {P : Option Value → Heap → Prop} (x0 : Int32) (X0 : Stand p l e ({ frames := 0, cells := 0, slots := 0, locals := 0 } : Room) s m args below meth c T0 locs 0 0) (hx : p.tables.exec = Jvm.exec) (hZ : Z.Warmed39 s.vm) (hw : ∀ d ∈ tables_1, d.before a0 Z = true) (hby : c.code = method_2_code) (hml : c.maxLocals = 1) (hown : s.vm.findClass "com/example/lehre/lehre/XmlNamesIsNameStartPinLaw" = some m.cls) (hret : meth.sig.returnType = some .boolean) (hlk : meth.locks = false) (e0 : T0.heap = h0) (Z0 : n0 ≤ h0.size) (N0 : Fr n0 locs) (hP : P (some (.int (f2_122 x0))) h0) :
    own_Goes p e below s n0 0 0 P (T0.setTop (mkF m 122 #[.val (.int x0)] [])) := by
  rw [f2_122] at hP
  refine own_Goes.pre (fun t kt => ?_) (own_retN X0 hx hlk hret (by simp) (hb hby d2_123) N0 (by rw [e0]; exact hP) (by decide) (by decide) (Ls := #[.val (.int x0)]) (rest := []) (z := (0 : Int32)))
  show Steps p.tables e below (T0.setTop (mkF m 122 #[.val (.int x0)] [])) _
  refine XS.iconst X0.here hx rfl (hb hby d2_122) ?_
  exact kt
def f2_115 (x0 : Int32) : Int32 := if (8303 : Int32) < x0 then (f2_124 x0) else (f2_122 x0)
set_option maxRecDepth 65536 in
set_option maxHeartbeats 40000000 in
theorem b2_115 {p : Program} {l : Launch} {e : Env} {s : State} {m : MethodId} {args : Array Value} {below : List Frame} {meth : Method} {c : Code} {T0 : State} {locs : List Loc} {Z : State} {a0 : Array Value} {h0 : Heap} {n0 : Nat} {P : Option Value → Heap → Prop} (x0 : Int32) (X0 : Stand p l e ({ frames := 0, cells := 0, slots := 0, locals := 0 } : Room) s m args below meth c T0 locs 0 0) (hx : p.tables.exec = Jvm.exec) (hZ : Z.Warmed39 s.vm) (hw : ∀ d ∈ tables_1, d.before a0 Z = true) (hby : c.code = method_2_code) (hml : c.maxLocals = 1) (hown : s.vm.findClass "com/example/lehre/lehre/XmlNamesIsNameStartPinLaw" = some m.cls) (hret : meth.sig.returnType = some .boolean) (hlk : meth.locks = false) (e0 : T0.heap = h0) (Z0 : n0 ≤ h0.size) (N0 : Fr n0 locs) (hP : P (some (.int (f2_115 x0))) h0) :
    own_Goes p e below s n0 0 0 P (T0.setTop (mkF m 115 #[.val (.int x0)] [])) := by
  have pre1 : ∀ t, Steps p.tables e below (T0.setTop (mkF m 119 #[.val (.int x0)] [(.int (8303 : Int32)), (.int x0)])) t → Steps p.tables e below (T0.setTop (mkF m 115 #[.val (.int x0)] [])) t := fun t kt => by
    show Steps p.tables e below (T0.setTop (mkF m 115 #[.val (.int x0)] [])) _
    refine XS.iloadN X0.here hx rfl (hb hby d2_115) rfl ?_
    show Steps p.tables e below (T0.setTop (mkF m 116 #[.val (.int x0)] [(.int x0)])) _
    refine XS.sipush X0.here hx rfl (hb hby d2_116) ?_
    exact kt
  refine own_Goes.pre pre1 ?_
  by_cases hc : (8303 : Int32) < x0
  · rw [f2_115, if_pos hc] at hP
    refine own_Goes.pre (fun t kt => ?_) (b2_124 x0 X0 hx hZ hw hby hml hown hret hlk e0 Z0 N0 hP)
    show Steps p.tables e below (T0.setTop (mkF m 119 #[.val (.int x0)] [(.int (8303 : Int32)), (.int x0)])) _
    refine XS.icmpYes X0.here hx rfl (pc0 := 119) (pc' := 124) rfl (hb hby d2_119) rfl (tlt hc).2.2.1 (by decide) (by decide) ?_
    exact kt
  · rw [f2_115, if_neg hc] at hP
    refine own_Goes.pre (fun t kt => ?_) (b2_122 x0 X0 hx hZ hw hby hml hown hret hlk e0 Z0 N0 hP)
    show Steps p.tables e below (T0.setTop (mkF m 119 #[.val (.int x0)] [(.int (8303 : Int32)), (.int x0)])) _
    refine XS.icmpNo X0.here hx rfl (hb hby d2_119) rfl (flt hc).2.2.1 ?_
    exact kt
def f2_108 (x0 : Int32) : Int32 := if x0 < (8206 : Int32) then (f2_124 x0) else (f2_115 x0)
set_option maxRecDepth 65536 in
set_option maxHeartbeats 40000000 in
theorem b2_108 {p : Program} {l : Launch} {e : Env} {s : State} {m : MethodId} {args : Array Value} {below : List Frame} {meth : Method} {c : Code} {T0 : State} {locs : List Loc} {Z : State} {a0 : Array Value} {h0 : Heap} {n0 : Nat} {P : Option Value → Heap → Prop} (x0 : Int32) (X0 : Stand p l e ({ frames := 0, cells := 0, slots := 0, locals := 0 } : Room) s m args below meth c T0 locs 0 0) (hx : p.tables.exec = Jvm.exec) (hZ : Z.Warmed39 s.vm) (hw : ∀ d ∈ tables_1, d.before a0 Z = true) (hby : c.code = method_2_code) (hml : c.maxLocals = 1) (hown : s.vm.findClass "com/example/lehre/lehre/XmlNamesIsNameStartPinLaw" = some m.cls) (hret : meth.sig.returnType = some .boolean) (hlk : meth.locks = false) (e0 : T0.heap = h0) (Z0 : n0 ≤ h0.size) (N0 : Fr n0 locs) (hP : P (some (.int (f2_108 x0))) h0) :
    own_Goes p e below s n0 0 0 P (T0.setTop (mkF m 108 #[.val (.int x0)] [])) := by
  have pre1 : ∀ t, Steps p.tables e below (T0.setTop (mkF m 112 #[.val (.int x0)] [(.int (8206 : Int32)), (.int x0)])) t → Steps p.tables e below (T0.setTop (mkF m 108 #[.val (.int x0)] [])) t := fun t kt => by
    show Steps p.tables e below (T0.setTop (mkF m 108 #[.val (.int x0)] [])) _
    refine XS.iloadN X0.here hx rfl (hb hby d2_108) rfl ?_
    show Steps p.tables e below (T0.setTop (mkF m 109 #[.val (.int x0)] [(.int x0)])) _
    refine XS.sipush X0.here hx rfl (hb hby d2_109) ?_
    exact kt
  refine own_Goes.pre pre1 ?_
  by_cases hc : x0 < (8206 : Int32)
  · rw [f2_108, if_pos hc] at hP
    refine own_Goes.pre (fun t kt => ?_) (b2_124 x0 X0 hx hZ hw hby hml hown hret hlk e0 Z0 N0 hP)
    show Steps p.tables e below (T0.setTop (mkF m 112 #[.val (.int x0)] [(.int (8206 : Int32)), (.int x0)])) _
    refine XS.icmpYes X0.here hx rfl (pc0 := 112) (pc' := 124) rfl (hb hby d2_112) rfl (tlt hc).1 (by decide) (by decide) ?_
    exact kt
  · rw [f2_108, if_neg hc] at hP
    refine own_Goes.pre (fun t kt => ?_) (b2_115 x0 X0 hx hZ hw hby hml hown hret hlk e0 Z0 N0 hP)
    show Steps p.tables e below (T0.setTop (mkF m 112 #[.val (.int x0)] [(.int (8206 : Int32)), (.int x0)])) _
    refine XS.icmpNo X0.here hx rfl (hb hby d2_112) rfl (flt hc).1 ?_
    exact kt
def f2_106 (x0 : Int32) : Int32 := (0 : Int32)
set_option maxRecDepth 65536 in
set_option maxHeartbeats 40000000 in
theorem b2_106 {p : Program} {l : Launch} {e : Env} {s : State} {m : MethodId} {args : Array Value} {below : List Frame} {meth : Method} {c : Code} {T0 : State} {locs : List Loc} {Z : State} {a0 : Array Value} {h0 : Heap} {n0 : Nat} {P : Option Value → Heap → Prop} (x0 : Int32) (X0 : Stand p l e ({ frames := 0, cells := 0, slots := 0, locals := 0 } : Room) s m args below meth c T0 locs 0 0) (hx : p.tables.exec = Jvm.exec) (hZ : Z.Warmed39 s.vm) (hw : ∀ d ∈ tables_1, d.before a0 Z = true) (hby : c.code = method_2_code) (hml : c.maxLocals = 1) (hown : s.vm.findClass "com/example/lehre/lehre/XmlNamesIsNameStartPinLaw" = some m.cls) (hret : meth.sig.returnType = some .boolean) (hlk : meth.locks = false) (e0 : T0.heap = h0) (Z0 : n0 ≤ h0.size) (N0 : Fr n0 locs) (hP : P (some (.int (f2_106 x0))) h0) :
    own_Goes p e below s n0 0 0 P (T0.setTop (mkF m 106 #[.val (.int x0)] [])) := by
  rw [f2_106] at hP
  refine own_Goes.pre (fun t kt => ?_) (own_retN X0 hx hlk hret (by simp) (hb hby d2_107) N0 (by rw [e0]; exact hP) (by decide) (by decide) (Ls := #[.val (.int x0)]) (rest := []) (z := (0 : Int32)))
  show Steps p.tables e below (T0.setTop (mkF m 106 #[.val (.int x0)] [])) _
  refine XS.iconst X0.here hx rfl (hb hby d2_106) ?_
  exact kt
def f2_99 (x0 : Int32) : Int32 := if (8203 : Int32) < x0 then (f2_108 x0) else (f2_106 x0)
set_option maxRecDepth 65536 in
set_option maxHeartbeats 40000000 in
theorem b2_99 {p : Program} {l : Launch} {e : Env} {s : State} {m : MethodId} {args : Array Value} {below : List Frame} {meth : Method} {c : Code} {T0 : State} {locs : List Loc} {Z : State} {a0 : Array Value} {h0 : Heap} {n0 : Nat} {P : Option Value → Heap → Prop} (x0 : Int32) (X0 : Stand p l e ({ frames := 0, cells := 0, slots := 0, locals := 0 } : Room) s m args below meth c T0 locs 0 0) (hx : p.tables.exec = Jvm.exec) (hZ : Z.Warmed39 s.vm) (hw : ∀ d ∈ tables_1, d.before a0 Z = true) (hby : c.code = method_2_code) (hml : c.maxLocals = 1) (hown : s.vm.findClass "com/example/lehre/lehre/XmlNamesIsNameStartPinLaw" = some m.cls) (hret : meth.sig.returnType = some .boolean) (hlk : meth.locks = false) (e0 : T0.heap = h0) (Z0 : n0 ≤ h0.size) (N0 : Fr n0 locs) (hP : P (some (.int (f2_99 x0))) h0) :
    own_Goes p e below s n0 0 0 P (T0.setTop (mkF m 99 #[.val (.int x0)] [])) := by
  have pre1 : ∀ t, Steps p.tables e below (T0.setTop (mkF m 103 #[.val (.int x0)] [(.int (8203 : Int32)), (.int x0)])) t → Steps p.tables e below (T0.setTop (mkF m 99 #[.val (.int x0)] [])) t := fun t kt => by
    show Steps p.tables e below (T0.setTop (mkF m 99 #[.val (.int x0)] [])) _
    refine XS.iloadN X0.here hx rfl (hb hby d2_99) rfl ?_
    show Steps p.tables e below (T0.setTop (mkF m 100 #[.val (.int x0)] [(.int x0)])) _
    refine XS.sipush X0.here hx rfl (hb hby d2_100) ?_
    exact kt
  refine own_Goes.pre pre1 ?_
  by_cases hc : (8203 : Int32) < x0
  · rw [f2_99, if_pos hc] at hP
    refine own_Goes.pre (fun t kt => ?_) (b2_108 x0 X0 hx hZ hw hby hml hown hret hlk e0 Z0 N0 hP)
    show Steps p.tables e below (T0.setTop (mkF m 103 #[.val (.int x0)] [(.int (8203 : Int32)), (.int x0)])) _
    refine XS.icmpYes X0.here hx rfl (pc0 := 103) (pc' := 108) rfl (hb hby d2_103) rfl (tlt hc).2.2.1 (by decide) (by decide) ?_
    exact kt
  · rw [f2_99, if_neg hc] at hP
    refine own_Goes.pre (fun t kt => ?_) (b2_106 x0 X0 hx hZ hw hby hml hown hret hlk e0 Z0 N0 hP)
    show Steps p.tables e below (T0.setTop (mkF m 103 #[.val (.int x0)] [(.int (8203 : Int32)), (.int x0)])) _
    refine XS.icmpNo X0.here hx rfl (hb hby d2_103) rfl (flt hc).2.2.1 ?_
    exact kt
def f2_92 (x0 : Int32) : Int32 := if x0 < (8192 : Int32) then (f2_108 x0) else (f2_99 x0)
set_option maxRecDepth 65536 in
set_option maxHeartbeats 40000000 in
theorem b2_92 {p : Program} {l : Launch} {e : Env} {s : State} {m : MethodId} {args : Array Value} {below : List Frame} {meth : Method} {c : Code} {T0 : State} {locs : List Loc} {Z : State} {a0 : Array Value} {h0 : Heap} {n0 : Nat} {P : Option Value → Heap → Prop} (x0 : Int32) (X0 : Stand p l e ({ frames := 0, cells := 0, slots := 0, locals := 0 } : Room) s m args below meth c T0 locs 0 0) (hx : p.tables.exec = Jvm.exec) (hZ : Z.Warmed39 s.vm) (hw : ∀ d ∈ tables_1, d.before a0 Z = true) (hby : c.code = method_2_code) (hml : c.maxLocals = 1) (hown : s.vm.findClass "com/example/lehre/lehre/XmlNamesIsNameStartPinLaw" = some m.cls) (hret : meth.sig.returnType = some .boolean) (hlk : meth.locks = false) (e0 : T0.heap = h0) (Z0 : n0 ≤ h0.size) (N0 : Fr n0 locs) (hP : P (some (.int (f2_92 x0))) h0) :
    own_Goes p e below s n0 0 0 P (T0.setTop (mkF m 92 #[.val (.int x0)] [])) := by
  have pre1 : ∀ t, Steps p.tables e below (T0.setTop (mkF m 96 #[.val (.int x0)] [(.int (8192 : Int32)), (.int x0)])) t → Steps p.tables e below (T0.setTop (mkF m 92 #[.val (.int x0)] [])) t := fun t kt => by
    show Steps p.tables e below (T0.setTop (mkF m 92 #[.val (.int x0)] [])) _
    refine XS.iloadN X0.here hx rfl (hb hby d2_92) rfl ?_
    show Steps p.tables e below (T0.setTop (mkF m 93 #[.val (.int x0)] [(.int x0)])) _
    refine XS.sipush X0.here hx rfl (hb hby d2_93) ?_
    exact kt
  refine own_Goes.pre pre1 ?_
  by_cases hc : x0 < (8192 : Int32)
  · rw [f2_92, if_pos hc] at hP
    refine own_Goes.pre (fun t kt => ?_) (b2_108 x0 X0 hx hZ hw hby hml hown hret hlk e0 Z0 N0 hP)
    show Steps p.tables e below (T0.setTop (mkF m 96 #[.val (.int x0)] [(.int (8192 : Int32)), (.int x0)])) _
    refine XS.icmpYes X0.here hx rfl (pc0 := 96) (pc' := 108) rfl (hb hby d2_96) rfl (tlt hc).1 (by decide) (by decide) ?_
    exact kt
  · rw [f2_92, if_neg hc] at hP
    refine own_Goes.pre (fun t kt => ?_) (b2_99 x0 X0 hx hZ hw hby hml hown hret hlk e0 Z0 N0 hP)
    show Steps p.tables e below (T0.setTop (mkF m 96 #[.val (.int x0)] [(.int (8192 : Int32)), (.int x0)])) _
    refine XS.icmpNo X0.here hx rfl (hb hby d2_96) rfl (flt hc).1 ?_
    exact kt
def f2_90 (x0 : Int32) : Int32 := (0 : Int32)
set_option maxRecDepth 65536 in
set_option maxHeartbeats 40000000 in
theorem b2_90 {p : Program} {l : Launch} {e : Env} {s : State} {m : MethodId} {args : Array Value} {below : List Frame} {meth : Method} {c : Code} {T0 : State} {locs : List Loc} {Z : State} {a0 : Array Value} {h0 : Heap} {n0 : Nat} {P : Option Value → Heap → Prop} (x0 : Int32) (X0 : Stand p l e ({ frames := 0, cells := 0, slots := 0, locals := 0 } : Room) s m args below meth c T0 locs 0 0) (hx : p.tables.exec = Jvm.exec) (hZ : Z.Warmed39 s.vm) (hw : ∀ d ∈ tables_1, d.before a0 Z = true) (hby : c.code = method_2_code) (hml : c.maxLocals = 1) (hown : s.vm.findClass "com/example/lehre/lehre/XmlNamesIsNameStartPinLaw" = some m.cls) (hret : meth.sig.returnType = some .boolean) (hlk : meth.locks = false) (e0 : T0.heap = h0) (Z0 : n0 ≤ h0.size) (N0 : Fr n0 locs) (hP : P (some (.int (f2_90 x0))) h0) :
    own_Goes p e below s n0 0 0 P (T0.setTop (mkF m 90 #[.val (.int x0)] [])) := by
  rw [f2_90] at hP
  refine own_Goes.pre (fun t kt => ?_) (own_retN X0 hx hlk hret (by simp) (hb hby d2_91) N0 (by rw [e0]; exact hP) (by decide) (by decide) (Ls := #[.val (.int x0)]) (rest := []) (z := (0 : Int32)))
  show Steps p.tables e below (T0.setTop (mkF m 90 #[.val (.int x0)] [])) _
  refine XS.iconst X0.here hx rfl (hb hby d2_90) ?_
  exact kt
def f2_83 (x0 : Int32) : Int32 := if x0 = (894 : Int32) then (f2_90 x0) else (f2_92 x0)
set_option maxRecDepth 65536 in
set_option maxHeartbeats 40000000 in
theorem b2_83 {p : Program} {l : Launch} {e : Env} {s : State} {m : MethodId} {args : Array Value} {below : List Frame} {meth : Method} {c : Code} {T0 : State} {locs : List Loc} {Z : State} {a0 : Array Value} {h0 : Heap} {n0 : Nat} {P : Option Value → Heap → Prop} (x0 : Int32) (X0 : Stand p l e ({ frames := 0, cells := 0, slots := 0, locals := 0 } : Room) s m args below meth c T0 locs 0 0) (hx : p.tables.exec = Jvm.exec) (hZ : Z.Warmed39 s.vm) (hw : ∀ d ∈ tables_1, d.before a0 Z = true) (hby : c.code = method_2_code) (hml : c.maxLocals = 1) (hown : s.vm.findClass "com/example/lehre/lehre/XmlNamesIsNameStartPinLaw" = some m.cls) (hret : meth.sig.returnType = some .boolean) (hlk : meth.locks = false) (e0 : T0.heap = h0) (Z0 : n0 ≤ h0.size) (N0 : Fr n0 locs) (hP : P (some (.int (f2_83 x0))) h0) :
    own_Goes p e below s n0 0 0 P (T0.setTop (mkF m 83 #[.val (.int x0)] [])) := by
  have pre1 : ∀ t, Steps p.tables e below (T0.setTop (mkF m 87 #[.val (.int x0)] [(.int (894 : Int32)), (.int x0)])) t → Steps p.tables e below (T0.setTop (mkF m 83 #[.val (.int x0)] [])) t := fun t kt => by
    show Steps p.tables e below (T0.setTop (mkF m 83 #[.val (.int x0)] [])) _
    refine XS.iloadN X0.here hx rfl (hb hby d2_83) rfl ?_
    show Steps p.tables e below (T0.setTop (mkF m 84 #[.val (.int x0)] [(.int x0)])) _
    refine XS.sipush X0.here hx rfl (hb hby d2_84) ?_
    exact kt
  refine own_Goes.pre pre1 ?_
  by_cases hc : x0 = (894 : Int32)
  · rw [f2_83, if_pos hc] at hP
    refine own_Goes.pre (fun t kt => ?_) (b2_90 x0 X0 hx hZ hw hby hml hown hret hlk e0 Z0 N0 hP)
    show Steps p.tables e below (T0.setTop (mkF m 87 #[.val (.int x0)] [(.int (894 : Int32)), (.int x0)])) _
    refine XS.icmpNo X0.here hx rfl (hb hby d2_87) rfl (teq hc).2 ?_
    exact kt
  · rw [f2_83, if_neg hc] at hP
    refine own_Goes.pre (fun t kt => ?_) (b2_92 x0 X0 hx hZ hw hby hml hown hret hlk e0 Z0 N0 hP)
    show Steps p.tables e below (T0.setTop (mkF m 87 #[.val (.int x0)] [(.int (894 : Int32)), (.int x0)])) _
    refine XS.icmpYes X0.here hx rfl (pc0 := 87) (pc' := 92) rfl (hb hby d2_87) rfl (feq hc).2 (by decide) (by decide) ?_
    exact kt
def f2_81 (x0 : Int32) : Int32 := (0 : Int32)
set_option maxRecDepth 65536 in
set_option maxHeartbeats 40000000 in
theorem b2_81 {p : Program} {l : Launch} {e : Env} {s : State} {m : MethodId} {args : Array Value} {below : List Frame} {meth : Method} {c : Code} {T0 : State} {locs : List Loc} {Z : State} {a0 : Array Value} {h0 : Heap} {n0 : Nat} {P : Option Value → Heap → Prop} (x0 : Int32) (X0 : Stand p l e ({ frames := 0, cells := 0, slots := 0, locals := 0 } : Room) s m args below meth c T0 locs 0 0) (hx : p.tables.exec = Jvm.exec) (hZ : Z.Warmed39 s.vm) (hw : ∀ d ∈ tables_1, d.before a0 Z = true) (hby : c.code = method_2_code) (hml : c.maxLocals = 1) (hown : s.vm.findClass "com/example/lehre/lehre/XmlNamesIsNameStartPinLaw" = some m.cls) (hret : meth.sig.returnType = some .boolean) (hlk : meth.locks = false) (e0 : T0.heap = h0) (Z0 : n0 ≤ h0.size) (N0 : Fr n0 locs) (hP : P (some (.int (f2_81 x0))) h0) :
    own_Goes p e below s n0 0 0 P (T0.setTop (mkF m 81 #[.val (.int x0)] [])) := by
  rw [f2_81] at hP
  refine own_Goes.pre (fun t kt => ?_) (own_retN X0 hx hlk hret (by simp) (hb hby d2_82) N0 (by rw [e0]; exact hP) (by decide) (by decide) (Ls := #[.val (.int x0)]) (rest := []) (z := (0 : Int32)))
  show Steps p.tables e below (T0.setTop (mkF m 81 #[.val (.int x0)] [])) _
  refine XS.iconst X0.here hx rfl (hb hby d2_81) ?_
  exact kt
def f2_74 (x0 : Int32) : Int32 := if (879 : Int32) < x0 then (f2_83 x0) else (f2_81 x0)
set_option maxRecDepth 65536 in
set_option maxHeartbeats 40000000 in
theorem b2_74 {p : Program} {l : Launch} {e : Env} {s : State} {m : MethodId} {args : Array Value} {below : List Frame} {meth : Method} {c : Code} {T0 : State} {locs : List Loc} {Z : State} {a0 : Array Value} {h0 : Heap} {n0 : Nat} {P : Option Value → Heap → Prop} (x0 : Int32) (X0 : Stand p l e ({ frames := 0, cells := 0, slots := 0, locals := 0 } : Room) s m args below meth c T0 locs 0 0) (hx : p.tables.exec = Jvm.exec) (hZ : Z.Warmed39 s.vm) (hw : ∀ d ∈ tables_1, d.before a0 Z = true) (hby : c.code = method_2_code) (hml : c.maxLocals = 1) (hown : s.vm.findClass "com/example/lehre/lehre/XmlNamesIsNameStartPinLaw" = some m.cls) (hret : meth.sig.returnType = some .boolean) (hlk : meth.locks = false) (e0 : T0.heap = h0) (Z0 : n0 ≤ h0.size) (N0 : Fr n0 locs) (hP : P (some (.int (f2_74 x0))) h0) :
    own_Goes p e below s n0 0 0 P (T0.setTop (mkF m 74 #[.val (.int x0)] [])) := by
  have pre1 : ∀ t, Steps p.tables e below (T0.setTop (mkF m 78 #[.val (.int x0)] [(.int (879 : Int32)), (.int x0)])) t → Steps p.tables e below (T0.setTop (mkF m 74 #[.val (.int x0)] [])) t := fun t kt => by
    show Steps p.tables e below (T0.setTop (mkF m 74 #[.val (.int x0)] [])) _
    refine XS.iloadN X0.here hx rfl (hb hby d2_74) rfl ?_
    show Steps p.tables e below (T0.setTop (mkF m 75 #[.val (.int x0)] [(.int x0)])) _
    refine XS.sipush X0.here hx rfl (hb hby d2_75) ?_
    exact kt
  refine own_Goes.pre pre1 ?_
  by_cases hc : (879 : Int32) < x0
  · rw [f2_74, if_pos hc] at hP
    refine own_Goes.pre (fun t kt => ?_) (b2_83 x0 X0 hx hZ hw hby hml hown hret hlk e0 Z0 N0 hP)
    show Steps p.tables e below (T0.setTop (mkF m 78 #[.val (.int x0)] [(.int (879 : Int32)), (.int x0)])) _
    refine XS.icmpYes X0.here hx rfl (pc0 := 78) (pc' := 83) rfl (hb hby d2_78) rfl (tlt hc).2.2.1 (by decide) (by decide) ?_
    exact kt
  · rw [f2_74, if_neg hc] at hP
    refine own_Goes.pre (fun t kt => ?_) (b2_81 x0 X0 hx hZ hw hby hml hown hret hlk e0 Z0 N0 hP)
    show Steps p.tables e below (T0.setTop (mkF m 78 #[.val (.int x0)] [(.int (879 : Int32)), (.int x0)])) _
    refine XS.icmpNo X0.here hx rfl (hb hby d2_78) rfl (flt hc).2.2.1 ?_
    exact kt
def f2_67 (x0 : Int32) : Int32 := if x0 < (768 : Int32) then (f2_83 x0) else (f2_74 x0)
set_option maxRecDepth 65536 in
set_option maxHeartbeats 40000000 in
theorem b2_67 {p : Program} {l : Launch} {e : Env} {s : State} {m : MethodId} {args : Array Value} {below : List Frame} {meth : Method} {c : Code} {T0 : State} {locs : List Loc} {Z : State} {a0 : Array Value} {h0 : Heap} {n0 : Nat} {P : Option Value → Heap → Prop} (x0 : Int32) (X0 : Stand p l e ({ frames := 0, cells := 0, slots := 0, locals := 0 } : Room) s m args below meth c T0 locs 0 0) (hx : p.tables.exec = Jvm.exec) (hZ : Z.Warmed39 s.vm) (hw : ∀ d ∈ tables_1, d.before a0 Z = true) (hby : c.code = method_2_code) (hml : c.maxLocals = 1) (hown : s.vm.findClass "com/example/lehre/lehre/XmlNamesIsNameStartPinLaw" = some m.cls) (hret : meth.sig.returnType = some .boolean) (hlk : meth.locks = false) (e0 : T0.heap = h0) (Z0 : n0 ≤ h0.size) (N0 : Fr n0 locs) (hP : P (some (.int (f2_67 x0))) h0) :
    own_Goes p e below s n0 0 0 P (T0.setTop (mkF m 67 #[.val (.int x0)] [])) := by
  have pre1 : ∀ t, Steps p.tables e below (T0.setTop (mkF m 71 #[.val (.int x0)] [(.int (768 : Int32)), (.int x0)])) t → Steps p.tables e below (T0.setTop (mkF m 67 #[.val (.int x0)] [])) t := fun t kt => by
    show Steps p.tables e below (T0.setTop (mkF m 67 #[.val (.int x0)] [])) _
    refine XS.iloadN X0.here hx rfl (hb hby d2_67) rfl ?_
    show Steps p.tables e below (T0.setTop (mkF m 68 #[.val (.int x0)] [(.int x0)])) _
    refine XS.sipush X0.here hx rfl (hb hby d2_68) ?_
    exact kt
  refine own_Goes.pre pre1 ?_
  by_cases hc : x0 < (768 : Int32)
  · rw [f2_67, if_pos hc] at hP
    refine own_Goes.pre (fun t kt => ?_) (b2_83 x0 X0 hx hZ hw hby hml hown hret hlk e0 Z0 N0 hP)
    show Steps p.tables e below (T0.setTop (mkF m 71 #[.val (.int x0)] [(.int (768 : Int32)), (.int x0)])) _
    refine XS.icmpYes X0.here hx rfl (pc0 := 71) (pc' := 83) rfl (hb hby d2_71) rfl (tlt hc).1 (by decide) (by decide) ?_
    exact kt
  · rw [f2_67, if_neg hc] at hP
    refine own_Goes.pre (fun t kt => ?_) (b2_74 x0 X0 hx hZ hw hby hml hown hret hlk e0 Z0 N0 hP)
    show Steps p.tables e below (T0.setTop (mkF m 71 #[.val (.int x0)] [(.int (768 : Int32)), (.int x0)])) _
    refine XS.icmpNo X0.here hx rfl (hb hby d2_71) rfl (flt hc).1 ?_
    exact kt
def f2_58 (x0 : Int32) : Int32 := if x0 = (247 : Int32) then (f2_65 x0) else (f2_67 x0)
set_option maxRecDepth 65536 in
set_option maxHeartbeats 40000000 in
theorem b2_58 {p : Program} {l : Launch} {e : Env} {s : State} {m : MethodId} {args : Array Value} {below : List Frame} {meth : Method} {c : Code} {T0 : State} {locs : List Loc} {Z : State} {a0 : Array Value} {h0 : Heap} {n0 : Nat} {P : Option Value → Heap → Prop} (x0 : Int32) (X0 : Stand p l e ({ frames := 0, cells := 0, slots := 0, locals := 0 } : Room) s m args below meth c T0 locs 0 0) (hx : p.tables.exec = Jvm.exec) (hZ : Z.Warmed39 s.vm) (hw : ∀ d ∈ tables_1, d.before a0 Z = true) (hby : c.code = method_2_code) (hml : c.maxLocals = 1) (hown : s.vm.findClass "com/example/lehre/lehre/XmlNamesIsNameStartPinLaw" = some m.cls) (hret : meth.sig.returnType = some .boolean) (hlk : meth.locks = false) (e0 : T0.heap = h0) (Z0 : n0 ≤ h0.size) (N0 : Fr n0 locs) (hP : P (some (.int (f2_58 x0))) h0) :
    own_Goes p e below s n0 0 0 P (T0.setTop (mkF m 58 #[.val (.int x0)] [])) := by
  have pre1 : ∀ t, Steps p.tables e below (T0.setTop (mkF m 62 #[.val (.int x0)] [(.int (247 : Int32)), (.int x0)])) t → Steps p.tables e below (T0.setTop (mkF m 58 #[.val (.int x0)] [])) t := fun t kt => by
    show Steps p.tables e below (T0.setTop (mkF m 58 #[.val (.int x0)] [])) _
    refine XS.iloadN X0.here hx rfl (hb hby d2_58) rfl ?_
    show Steps p.tables e below (T0.setTop (mkF m 59 #[.val (.int x0)] [(.int x0)])) _
    refine XS.sipush X0.here hx rfl (hb hby d2_59) ?_
    exact kt
  refine own_Goes.pre pre1 ?_
  by_cases hc : x0 = (247 : Int32)
  · rw [f2_58, if_pos hc] at hP
    refine own_Goes.pre (fun t kt => ?_) (b2_65 x0 X0 hx hZ hw hby hml hown hret hlk e0 Z0 N0 hP)
    show Steps p.tables e below (T0.setTop (mkF m 62 #[.val (.int x0)] [(.int (247 : Int32)), (.int x0)])) _
    refine XS.icmpNo X0.here hx rfl (hb hby d2_62) rfl (teq hc).2 ?_
    exact kt
  · rw [f2_58, if_neg hc] at hP
    refine own_Goes.pre (fun t kt => ?_) (b2_67 x0 X0 hx hZ hw hby hml hown hret hlk e0 Z0 N0 hP)
    show Steps p.tables e below (T0.setTop (mkF m 62 #[.val (.int x0)] [(.int (247 : Int32)), (.int x0)])) _
    refine XS.icmpYes X0.here hx rfl (pc0 := 62) (pc' := 67) rfl (hb hby d2_62) rfl (feq hc).2 (by decide) (by decide) ?_
    exact kt
def f2_51 (x0 : Int32) : Int32 := if x0 = (215 : Int32) then (f2_65 x0) else (f2_58 x0)
set_option maxRecDepth 65536 in
set_option maxHeartbeats 40000000 in
theorem b2_51 {p : Program} {l : Launch} {e : Env} {s : State} {m : MethodId} {args : Array Value} {below : List Frame} {meth : Method} {c : Code} {T0 : State} {locs : List Loc} {Z : State} {a0 : Array Value} {h0 : Heap} {n0 : Nat} {P : Option Value → Heap → Prop} (x0 : Int32) (X0 : Stand p l e ({ frames := 0, cells := 0, slots := 0, locals := 0 } : Room) s m args below meth c T0 locs 0 0) (hx : p.tables.exec = Jvm.exec) (hZ : Z.Warmed39 s.vm) (hw : ∀ d ∈ tables_1, d.before a0 Z = true) (hby : c.code = method_2_code) (hml : c.maxLocals = 1) (hown : s.vm.findClass "com/example/lehre/lehre/XmlNamesIsNameStartPinLaw" = some m.cls) (hret : meth.sig.returnType = some .boolean) (hlk : meth.locks = false) (e0 : T0.heap = h0) (Z0 : n0 ≤ h0.size) (N0 : Fr n0 locs) (hP : P (some (.int (f2_51 x0))) h0) :
    own_Goes p e below s n0 0 0 P (T0.setTop (mkF m 51 #[.val (.int x0)] [])) := by
  have pre1 : ∀ t, Steps p.tables e below (T0.setTop (mkF m 55 #[.val (.int x0)] [(.int (215 : Int32)), (.int x0)])) t → Steps p.tables e below (T0.setTop (mkF m 51 #[.val (.int x0)] [])) t := fun t kt => by
    show Steps p.tables e below (T0.setTop (mkF m 51 #[.val (.int x0)] [])) _
    refine XS.iloadN X0.here hx rfl (hb hby d2_51) rfl ?_
    show Steps p.tables e below (T0.setTop (mkF m 52 #[.val (.int x0)] [(.int x0)])) _
    refine XS.sipush X0.here hx rfl (hb hby d2_52) ?_
    exact kt
  refine own_Goes.pre pre1 ?_
  by_cases hc : x0 = (215 : Int32)
  · rw [f2_51, if_pos hc] at hP
    refine own_Goes.pre (fun t kt => ?_) (b2_65 x0 X0 hx hZ hw hby hml hown hret hlk e0 Z0 N0 hP)
    show Steps p.tables e below (T0.setTop (mkF m 55 #[.val (.int x0)] [(.int (215 : Int32)), (.int x0)])) _
    refine XS.icmpYes X0.here hx rfl (pc0 := 55) (pc' := 65) rfl (hb hby d2_55) rfl (teq hc).1 (by decide) (by decide) ?_
    exact kt
  · rw [f2_51, if_neg hc] at hP
    refine own_Goes.pre (fun t kt => ?_) (b2_58 x0 X0 hx hZ hw hby hml hown hret hlk e0 Z0 N0 hP)
    show Steps p.tables e below (T0.setTop (mkF m 55 #[.val (.int x0)] [(.int (215 : Int32)), (.int x0)])) _
    refine XS.icmpNo X0.here hx rfl (hb hby d2_55) rfl (feq hc).1 ?_
    exact kt
def f2_49 (x0 : Int32) : Int32 := (0 : Int32)
set_option maxRecDepth 65536 in
set_option maxHeartbeats 40000000 in
theorem b2_49 {p : Program} {l : Launch} {e : Env} {s : State} {m : MethodId} {args : Array Value} {below : List Frame} {meth : Method} {c : Code} {T0 : State} {locs : List Loc} {Z : State} {a0 : Array Value} {h0 : Heap} {n0 : Nat} {P : Option Value → Heap → Prop} (x0 : Int32) (X0 : Stand p l e ({ frames := 0, cells := 0, slots := 0, locals := 0 } : Room) s m args below meth c T0 locs 0 0) (hx : p.tables.exec = Jvm.exec) (hZ : Z.Warmed39 s.vm) (hw : ∀ d ∈ tables_1, d.before a0 Z = true) (hby : c.code = method_2_code) (hml : c.maxLocals = 1) (hown : s.vm.findClass "com/example/lehre/lehre/XmlNamesIsNameStartPinLaw" = some m.cls) (hret : meth.sig.returnType = some .boolean) (hlk : meth.locks = false) (e0 : T0.heap = h0) (Z0 : n0 ≤ h0.size) (N0 : Fr n0 locs) (hP : P (some (.int (f2_49 x0))) h0) :
    own_Goes p e below s n0 0 0 P (T0.setTop (mkF m 49 #[.val (.int x0)] [])) := by
  rw [f2_49] at hP
  refine own_Goes.pre (fun t kt => ?_) (own_retN X0 hx hlk hret (by simp) (hb hby d2_50) N0 (by rw [e0]; exact hP) (by decide) (by decide) (Ls := #[.val (.int x0)]) (rest := []) (z := (0 : Int32)))
  show Steps p.tables e below (T0.setTop (mkF m 49 #[.val (.int x0)] [])) _
  refine XS.iconst X0.here hx rfl (hb hby d2_49) ?_
  exact kt
def f2_42 (x0 : Int32) : Int32 := if (191 : Int32) < x0 then (f2_51 x0) else (f2_49 x0)
set_option maxRecDepth 65536 in
set_option maxHeartbeats 40000000 in
theorem b2_42 {p : Program} {l : Launch} {e : Env} {s : State} {m : MethodId} {args : Array Value} {below : List Frame} {meth : Method} {c : Code} {T0 : State} {locs : List Loc} {Z : State} {a0 : Array Value} {h0 : Heap} {n0 : Nat} {P : Option Value → Heap → Prop} (x0 : Int32) (X0 : Stand p l e ({ frames := 0, cells := 0, slots := 0, locals := 0 } : Room) s m args below meth c T0 locs 0 0) (hx : p.tables.exec = Jvm.exec) (hZ : Z.Warmed39 s.vm) (hw : ∀ d ∈ tables_1, d.before a0 Z = true) (hby : c.code = method_2_code) (hml : c.maxLocals = 1) (hown : s.vm.findClass "com/example/lehre/lehre/XmlNamesIsNameStartPinLaw" = some m.cls) (hret : meth.sig.returnType = some .boolean) (hlk : meth.locks = false) (e0 : T0.heap = h0) (Z0 : n0 ≤ h0.size) (N0 : Fr n0 locs) (hP : P (some (.int (f2_42 x0))) h0) :
    own_Goes p e below s n0 0 0 P (T0.setTop (mkF m 42 #[.val (.int x0)] [])) := by
  have pre1 : ∀ t, Steps p.tables e below (T0.setTop (mkF m 46 #[.val (.int x0)] [(.int (191 : Int32)), (.int x0)])) t → Steps p.tables e below (T0.setTop (mkF m 42 #[.val (.int x0)] [])) t := fun t kt => by
    show Steps p.tables e below (T0.setTop (mkF m 42 #[.val (.int x0)] [])) _
    refine XS.iloadN X0.here hx rfl (hb hby d2_42) rfl ?_
    show Steps p.tables e below (T0.setTop (mkF m 43 #[.val (.int x0)] [(.int x0)])) _
    refine XS.sipush X0.here hx rfl (hb hby d2_43) ?_
    exact kt
  refine own_Goes.pre pre1 ?_
  by_cases hc : (191 : Int32) < x0
  · rw [f2_42, if_pos hc] at hP
    refine own_Goes.pre (fun t kt => ?_) (b2_51 x0 X0 hx hZ hw hby hml hown hret hlk e0 Z0 N0 hP)
    show Steps p.tables e below (T0.setTop (mkF m 46 #[.val (.int x0)] [(.int (191 : Int32)), (.int x0)])) _
    refine XS.icmpYes X0.here hx rfl (pc0 := 46) (pc' := 51) rfl (hb hby d2_46) rfl (tlt hc).2.2.1 (by decide) (by decide) ?_
    exact kt
  · rw [f2_42, if_neg hc] at hP
    refine own_Goes.pre (fun t kt => ?_) (b2_49 x0 X0 hx hZ hw hby hml hown hret hlk e0 Z0 N0 hP)
    show Steps p.tables e below (T0.setTop (mkF m 46 #[.val (.int x0)] [(.int (191 : Int32)), (.int x0)])) _
    refine XS.icmpNo X0.here hx rfl (hb hby d2_46) rfl (flt hc).2.2.1 ?_
    exact kt
def f2_36 (x0 : Int32) : Int32 := if x0 < (123 : Int32) then (f2_51 x0) else (f2_42 x0)
set_option maxRecDepth 65536 in
set_option maxHeartbeats 40000000 in
theorem b2_36 {p : Program} {l : Launch} {e : Env} {s : State} {m : MethodId} {args : Array Value} {below : List Frame} {meth : Method} {c : Code} {T0 : State} {locs : List Loc} {Z : State} {a0 : Array Value} {h0 : Heap} {n0 : Nat} {P : Option Value → Heap → Prop} (x0 : Int32) (X0 : Stand p l e ({ frames := 0, cells := 0, slots := 0, locals := 0 } : Room) s m args below meth c T0 locs 0 0) (hx : p.tables.exec = Jvm.exec) (hZ : Z.Warmed39 s.vm) (hw : ∀ d ∈ tables_1, d.before a0 Z = true) (hby : c.code = method_2_code) (hml : c.maxLocals = 1) (hown : s.vm.findClass "com/example/lehre/lehre/XmlNamesIsNameStartPinLaw" = some m.cls) (hret : meth.sig.returnType = some .boolean) (hlk : meth.locks = false) (e0 : T0.heap = h0) (Z0 : n0 ≤ h0.size) (N0 : Fr n0 locs) (hP : P (some (.int (f2_36 x0))) h0) :
    own_Goes p e below s n0 0 0 P (T0.setTop (mkF m 36 #[.val (.int x0)] [])) := by
  have pre1 : ∀ t, Steps p.tables e below (T0.setTop (mkF m 39 #[.val (.int x0)] [(.int (123 : Int32)), (.int x0)])) t → Steps p.tables e below (T0.setTop (mkF m 36 #[.val (.int x0)] [])) t := fun t kt => by
    show Steps p.tables e below (T0.setTop (mkF m 36 #[.val (.int x0)] [])) _
    refine XS.iloadN X0.here hx rfl (hb hby d2_36) rfl ?_
    show Steps p.tables e below (T0.setTop (mkF m 37 #[.val (.int x0)] [(.int x0)])) _
    refine XS.bipush X0.here hx rfl (hb hby d2_37) ?_
    exact kt
  refine own_Goes.pre pre1 ?_
  by_cases hc : x0 < (123 : Int32)
  · rw [f2_36, if_pos hc] at hP
    refine own_Goes.pre (fun t kt => ?_) (b2_51 x0 X0 hx hZ hw hby hml hown hret hlk e0 Z0 N0 hP)
    show Steps p.tables e below (T0.setTop (mkF m 39 #[.val (.int x0)] [(.int (123 : Int32)), (.int x0)])) _
    refine XS.icmpYes X0.here hx rfl (pc0 := 39) (pc' := 51) rfl (hb hby d2_39) rfl (tlt hc).1 (by decide) (by decide) ?_
    exact kt
  · rw [f2_36, if_neg hc] at hP
    refine own_Goes.pre (fun t kt => ?_) (b2_42 x0 X0 hx hZ hw hby hml hown hret hlk e0 Z0 N0 hP)
    show Steps p.tables e below (T0.setTop (mkF m 39 #[.val (.int x0)] [(.int (123 : Int32)), (.int x0)])) _
    refine XS.icmpNo X0.here hx rfl (hb hby d2_39) rfl (flt hc).1 ?_
    exact kt
def f2_34 (x0 : Int32) : Int32 := (0 : Int32)
set_option maxRecDepth 65536 in
set_option maxHeartbeats 40000000 in
theorem b2_34 {p : Program} {l : Launch} {e : Env} {s : State} {m : MethodId} {args : Array Value} {below : List Frame} {meth : Method} {c : Code} {T0 : State} {locs : List Loc} {Z : State} {a0 : Array Value} {h0 : Heap} {n0 : Nat} {P : Option Value → Heap → Prop} (x0 : Int32) (X0 : Stand p l e ({ frames := 0, cells := 0, slots := 0, locals := 0 } : Room) s m args below meth c T0 locs 0 0) (hx : p.tables.exec = Jvm.exec) (hZ : Z.Warmed39 s.vm) (hw : ∀ d ∈ tables_1, d.before a0 Z = true) (hby : c.code = method_2_code) (hml : c.maxLocals = 1) (hown : s.vm.findClass "com/example/lehre/lehre/XmlNamesIsNameStartPinLaw" = some m.cls) (hret : meth.sig.returnType = some .boolean) (hlk : meth.locks = false) (e0 : T0.heap = h0) (Z0 : n0 ≤ h0.size) (N0 : Fr n0 locs) (hP : P (some (.int (f2_34 x0))) h0) :
    own_Goes p e below s n0 0 0 P (T0.setTop (mkF m 34 #[.val (.int x0)] [])) := by
  rw [f2_34] at hP
  refine own_Goes.pre (fun t kt => ?_) (own_retN X0 hx hlk hret (by simp) (hb hby d2_35) N0 (by rw [e0]; exact hP) (by decide) (by decide) (Ls := #[.val (.int x0)]) (rest := []) (z := (0 : Int32)))
  show Steps p.tables e below (T0.setTop (mkF m 34 #[.val (.int x0)] [])) _
  refine XS.iconst X0.here hx rfl (hb hby d2_34) ?_
  exact kt
def f2_28 (x0 : Int32) : Int32 := if x0 = (96 : Int32) then (f2_34 x0) else (f2_36 x0)
set_option maxRecDepth 65536 in
set_option maxHeartbeats 40000000 in
theorem b2_28 {p : Program} {l : Launch} {e : Env} {s : State} {m : MethodId} {args : Array Value} {below : List Frame} {meth : Method} {c : Code} {T0 : State} {locs : List Loc} {Z : State} {a0 : Array Value} {h0 : Heap} {n0 : Nat} {P : Option Value → Heap → Prop} (x0 : Int32) (X0 : Stand p l e ({ frames := 0, cells := 0, slots := 0, locals := 0 } : Room) s m args below meth c T0 locs 0 0) (hx : p.tables.exec = Jvm.exec) (hZ : Z.Warmed39 s.vm) (hw : ∀ d ∈ tables_1, d.before a0 Z = true) (hby : c.code = method_2_code) (hml : c.maxLocals = 1) (hown : s.vm.findClass "com/example/lehre/lehre/XmlNamesIsNameStartPinLaw" = some m.cls) (hret : meth.sig.returnType = some .boolean) (hlk : meth.locks = false) (e0 : T0.heap = h0) (Z0 : n0 ≤ h0.size) (N0 : Fr n0 locs) (hP : P (some (.int (f2_28 x0))) h0) :
    own_Goes p e below s n0 0 0 P (T0.setTop (mkF m 28 #[.val (.int x0)] [])) := by
  have pre1 : ∀ t, Steps p.tables e below (T0.setTop (mkF m 31 #[.val (.int x0)] [(.int (96 : Int32)), (.int x0)])) t → Steps p.tables e below (T0.setTop (mkF m 28 #[.val (.int x0)] [])) t := fun t kt => by
    show Steps p.tables e below (T0.setTop (mkF m 28 #[.val (.int x0)] [])) _
    refine XS.iloadN X0.here hx rfl (hb hby d2_28) rfl ?_
    show Steps p.tables e below (T0.setTop (mkF m 29 #[.val (.int x0)] [(.int x0)])) _
    refine XS.bipush X0.here hx rfl (hb hby d2_29) ?_
    exact kt
  refine own_Goes.pre pre1 ?_
  by_cases hc : x0 = (96 : Int32)
  · rw [f2_28, if_pos hc] at hP
    refine own_Goes.pre (fun t kt => ?_) (b2_34 x0 X0 hx hZ hw hby hml hown hret hlk e0 Z0 N0 hP)
    show Steps p.tables e below (T0.setTop (mkF m 31 #[.val (.int x0)] [(.int (96 : Int32)), (.int x0)])) _
    refine XS.icmpNo X0.here hx rfl (hb hby d2_31) rfl (teq hc).2 ?_
    exact kt
  · rw [f2_28, if_neg hc] at hP
    refine own_Goes.pre (fun t kt => ?_) (b2_36 x0 X0 hx hZ hw hby hml hown hret hlk e0 Z0 N0 hP)
    show Steps p.tables e below (T0.setTop (mkF m 31 #[.val (.int x0)] [(.int (96 : Int32)), (.int x0)])) _
    refine XS.icmpYes X0.here hx rfl (pc0 := 31) (pc' := 36) rfl (hb hby d2_31) rfl (feq hc).2 (by decide) (by decide) ?_
    exact kt
def f2_26 (x0 : Int32) : Int32 := (0 : Int32)
set_option maxRecDepth 65536 in
set_option maxHeartbeats 40000000 in
theorem b2_26 {p : Program} {l : Launch} {e : Env} {s : State} {m : MethodId} {args : Array Value} {below : List Frame} {meth : Method} {c : Code} {T0 : State} {locs : List Loc} {Z : State} {a0 : Array Value} {h0 : Heap} {n0 : Nat} {P : Option Value → Heap → Prop} (x0 : Int32) (X0 : Stand p l e ({ frames := 0, cells := 0, slots := 0, locals := 0 } : Room) s m args below meth c T0 locs 0 0) (hx : p.tables.exec = Jvm.exec) (hZ : Z.Warmed39 s.vm) (hw : ∀ d ∈ tables_1, d.before a0 Z = true) (hby : c.code = method_2_code) (hml : c.maxLocals = 1) (hown : s.vm.findClass "com/example/lehre/lehre/XmlNamesIsNameStartPinLaw" = some m.cls) (hret : meth.sig.returnType = some .boolean) (hlk : meth.locks = false) (e0 : T0.heap = h0) (Z0 : n0 ≤ h0.size) (N0 : Fr n0 locs) (hP : P (some (.int (f2_26 x0))) h0) :
    own_Goes p e below s n0 0 0 P (T0.setTop (mkF m 26 #[.val (.int x0)] [])) := by
  rw [f2_26] at hP
  refine own_Goes.pre (fun t kt => ?_) (own_retN X0 hx hlk hret (by simp) (hb hby d2_27) N0 (by rw [e0]; exact hP) (by decide) (by decide) (Ls := #[.val (.int x0)]) (rest := []) (z := (0 : Int32)))
  show Steps p.tables e below (T0.setTop (mkF m 26 #[.val (.int x0)] [])) _
  refine XS.iconst X0.here hx rfl (hb hby d2_26) ?_
  exact kt
def f2_20 (x0 : Int32) : Int32 := if (94 : Int32) < x0 then (f2_28 x0) else (f2_26 x0)
set_option maxRecDepth 65536 in
set_option maxHeartbeats 40000000 in
theorem b2_20 {p : Program} {l : Launch} {e : Env} {s : State} {m : MethodId} {args : Array Value} {below : List Frame} {meth : Method} {c : Code} {T0 : State} {locs : List Loc} {Z : State} {a0 : Array Value} {h0 : Heap} {n0 : Nat} {P : Option Value → Heap → Prop} (x0 : Int32) (X0 : Stand p l e ({ frames := 0, cells := 0, slots := 0, locals := 0 } : Room) s m args below meth c T0 locs 0 0) (hx : p.tables.exec = Jvm.exec) (hZ : Z.Warmed39 s.vm) (hw : ∀ d ∈ tables_1, d.before a0 Z = true) (hby : c.code = method_2_code) (hml : c.maxLocals = 1) (hown : s.vm.findClass "com/example/lehre/lehre/XmlNamesIsNameStartPinLaw" = some m.cls) (hret : meth.sig.returnType = some .boolean) (hlk : meth.locks = false) (e0 : T0.heap = h0) (Z0 : n0 ≤ h0.size) (N0 : Fr n0 locs) (hP : P (some (.int (f2_20 x0))) h0) :
    own_Goes p e below s n0 0 0 P (T0.setTop (mkF m 20 #[.val (.int x0)] [])) := by
  have pre1 : ∀ t, Steps p.tables e below (T0.setTop (mkF m 23 #[.val (.int x0)] [(.int (94 : Int32)), (.int x0)])) t → Steps p.tables e below (T0.setTop (mkF m 20 #[.val (.int x0)] [])) t := fun t kt => by
    show Steps p.tables e below (T0.setTop (mkF m 20 #[.val (.int x0)] [])) _
    refine XS.iloadN X0.here hx rfl (hb hby d2_20) rfl ?_
    show Steps p.tables e below (T0.setTop (mkF m 21 #[.val (.int x0)] [(.int x0)])) _
    refine XS.bipush X0.here hx rfl (hb hby d2_21) ?_
    exact kt
  refine own_Goes.pre pre1 ?_
  by_cases hc : (94 : Int32) < x0
  · rw [f2_20, if_pos hc] at hP
    refine own_Goes.pre (fun t kt => ?_) (b2_28 x0 X0 hx hZ hw hby hml hown hret hlk e0 Z0 N0 hP)
    show Steps p.tables e below (T0.setTop (mkF m 23 #[.val (.int x0)] [(.int (94 : Int32)), (.int x0)])) _
    refine XS.icmpYes X0.here hx rfl (pc0 := 23) (pc' := 28) rfl (hb hby d2_23) rfl (tlt hc).2.2.1 (by decide) (by decide) ?_
    exact kt
  · rw [f2_20, if_neg hc] at hP
    refine own_Goes.pre (fun t kt => ?_) (b2_26 x0 X0 hx hZ hw hby hml hown hret hlk e0 Z0 N0 hP)
    show Steps p.tables e below (T0.setTop (mkF m 23 #[.val (.int x0)] [(.int (94 : Int32)), (.int x0)])) _
    refine XS.icmpNo X0.here hx rfl (hb hby d2_23) rfl (flt hc).2.2.1 ?_
    exact kt
def f2_14 (x0 : Int32) : Int32 := if x0 < (91 : Int32) then (f2_28 x0) else (f2_20 x0)
set_option maxRecDepth 65536 in
set_option maxHeartbeats 40000000 in
theorem b2_14 {p : Program} {l : Launch} {e : Env} {s : State} {m : MethodId} {args : Array Value} {below : List Frame} {meth : Method} {c : Code} {T0 : State} {locs : List Loc} {Z : State} {a0 : Array Value} {h0 : Heap} {n0 : Nat} {P : Option Value → Heap → Prop} (x0 : Int32) (X0 : Stand p l e ({ frames := 0, cells := 0, slots := 0, locals := 0 } : Room) s m args below meth c T0 locs 0 0) (hx : p.tables.exec = Jvm.exec) (hZ : Z.Warmed39 s.vm) (hw : ∀ d ∈ tables_1, d.before a0 Z = true) (hby : c.code = method_2_code) (hml : c.maxLocals = 1) (hown : s.vm.findClass "com/example/lehre/lehre/XmlNamesIsNameStartPinLaw" = some m.cls) (hret : meth.sig.returnType = some .boolean) (hlk : meth.locks = false) (e0 : T0.heap = h0) (Z0 : n0 ≤ h0.size) (N0 : Fr n0 locs) (hP : P (some (.int (f2_14 x0))) h0) :
    own_Goes p e below s n0 0 0 P (T0.setTop (mkF m 14 #[.val (.int x0)] [])) := by
  have pre1 : ∀ t, Steps p.tables e below (T0.setTop (mkF m 17 #[.val (.int x0)] [(.int (91 : Int32)), (.int x0)])) t → Steps p.tables e below (T0.setTop (mkF m 14 #[.val (.int x0)] [])) t := fun t kt => by
    show Steps p.tables e below (T0.setTop (mkF m 14 #[.val (.int x0)] [])) _
    refine XS.iloadN X0.here hx rfl (hb hby d2_14) rfl ?_
    show Steps p.tables e below (T0.setTop (mkF m 15 #[.val (.int x0)] [(.int x0)])) _
    refine XS.bipush X0.here hx rfl (hb hby d2_15) ?_
    exact kt
  refine own_Goes.pre pre1 ?_
  by_cases hc : x0 < (91 : Int32)
  · rw [f2_14, if_pos hc] at hP
    refine own_Goes.pre (fun t kt => ?_) (b2_28 x0 X0 hx hZ hw hby hml hown hret hlk e0 Z0 N0 hP)
    show Steps p.tables e below (T0.setTop (mkF m 17 #[.val (.int x0)] [(.int (91 : Int32)), (.int x0)])) _
    refine XS.icmpYes X0.here hx rfl (pc0 := 17) (pc' := 28) rfl (hb hby d2_17) rfl (tlt hc).1 (by decide) (by decide) ?_
    exact kt
  · rw [f2_14, if_neg hc] at hP
    refine own_Goes.pre (fun t kt => ?_) (b2_20 x0 X0 hx hZ hw hby hml hown hret hlk e0 Z0 N0 hP)
    show Steps p.tables e below (T0.setTop (mkF m 17 #[.val (.int x0)] [(.int (91 : Int32)), (.int x0)])) _
    refine XS.icmpNo X0.here hx rfl (hb hby d2_17) rfl (flt hc).1 ?_
    exact kt
def f2_6 (x0 : Int32) : Int32 := if (983039 : Int32) < x0 then (f2_12 x0) else (f2_14 x0)
set_option maxRecDepth 65536 in
set_option maxHeartbeats 40000000 in
theorem b2_6 {p : Program} {l : Launch} {e : Env} {s : State} {m : MethodId} {args : Array Value} {below : List Frame} {meth : Method} {c : Code} {T0 : State} {locs : List Loc} {Z : State} {a0 : Array Value} {h0 : Heap} {n0 : Nat} {P : Option Value → Heap → Prop} (x0 : Int32) (X0 : Stand p l e ({ frames := 0, cells := 0, slots := 0, locals := 0 } : Room) s m args below meth c T0 locs 0 0) (hx : p.tables.exec = Jvm.exec) (hZ : Z.Warmed39 s.vm) (hw : ∀ d ∈ tables_1, d.before a0 Z = true) (hby : c.code = method_2_code) (hml : c.maxLocals = 1) (hown : s.vm.findClass "com/example/lehre/lehre/XmlNamesIsNameStartPinLaw" = some m.cls) (hret : meth.sig.returnType = some .boolean) (hlk : meth.locks = false) (e0 : T0.heap = h0) (Z0 : n0 ≤ h0.size) (N0 : Fr n0 locs) (hP : P (some (.int (f2_6 x0))) h0) :
    own_Goes p e below s n0 0 0 P (T0.setTop (mkF m 6 #[.val (.int x0)] [])) := by
  have pre1 : ∀ t, Steps p.tables e below (T0.setTop (mkF m 9 #[.val (.int x0)] [(.int (983039 : Int32)), (.int x0)])) t → Steps p.tables e below (T0.setTop (mkF m 6 #[.val (.int x0)] [])) t := fun t kt => by
    show Steps p.tables e below (T0.setTop (mkF m 6 #[.val (.int x0)] [])) _
    refine XS.iloadN X0.here hx rfl (hb hby d2_6) rfl ?_
    show Steps p.tables e below (T0.setTop (mkF m 7 #[.val (.int x0)] [(.int x0)])) _
    refine X0.ldcInt hx hown (mvT hZ (hw _ (List.mem_of_getElem? (i := 7) rfl))) (g := (mkF m 7 #[.val (.int x0)] [(.int x0)])) rfl (hb hby d2_7) _ ?_
    exact kt
  refine own_Goes.pre pre1 ?_
  by_cases hc : (983039 : Int32) < x0
  · rw [f2_6, if_pos hc] at hP
    refine own_Goes.pre (fun t kt => ?_) (b2_12 x0 X0 hx hZ hw hby hml hown hret hlk e0 Z0 N0 hP)
    show Steps p.tables e below (T0.setTop (mkF m 9 #[.val (.int x0)] [(.int (983039 : Int32)), (.int x0)])) _
    refine XS.icmpNo X0.here hx rfl (hb hby d2_9) rfl (tlt hc).2.2.2 ?_
    exact kt
  · rw [f2_6, if_neg hc] at hP
    refine own_Goes.pre (fun t kt => ?_) (b2_14 x0 X0 hx hZ hw hby hml hown hret hlk e0 Z0 N0 hP)
    show Steps p.tables e below (T0.setTop (mkF m 9 #[.val (.int x0)] [(.int (983039 : Int32)), (.int x0)])) _
    refine XS.icmpYes X0.here hx rfl (pc0 := 9) (pc' := 14) rfl (hb hby d2_9) rfl (flt hc).2.2.2 (by decide) (by decide) ?_
    exact kt
def f2_0 (x0 : Int32) : Int32 := if x0 < (65 : Int32) then (f2_12 x0) else (f2_6 x0)
set_option maxRecDepth 65536 in
set_option maxHeartbeats 40000000 in
theorem b2_0 {p : Program} {l : Launch} {e : Env} {s : State} {m : MethodId} {args : Array Value} {below : List Frame} {meth : Method} {c : Code} {T0 : State} {locs : List Loc} {Z : State} {a0 : Array Value} {h0 : Heap} {n0 : Nat} {P : Option Value → Heap → Prop} (x0 : Int32) (X0 : Stand p l e ({ frames := 0, cells := 0, slots := 0, locals := 0 } : Room) s m args below meth c T0 locs 0 0) (hx : p.tables.exec = Jvm.exec) (hZ : Z.Warmed39 s.vm) (hw : ∀ d ∈ tables_1, d.before a0 Z = true) (hby : c.code = method_2_code) (hml : c.maxLocals = 1) (hown : s.vm.findClass "com/example/lehre/lehre/XmlNamesIsNameStartPinLaw" = some m.cls) (hret : meth.sig.returnType = some .boolean) (hlk : meth.locks = false) (e0 : T0.heap = h0) (Z0 : n0 ≤ h0.size) (N0 : Fr n0 locs) (hP : P (some (.int (f2_0 x0))) h0) :
    own_Goes p e below s n0 0 0 P (T0.setTop (mkF m 0 #[.val (.int x0)] [])) := by
  have pre1 : ∀ t, Steps p.tables e below (T0.setTop (mkF m 3 #[.val (.int x0)] [(.int (65 : Int32)), (.int x0)])) t → Steps p.tables e below (T0.setTop (mkF m 0 #[.val (.int x0)] [])) t := fun t kt => by
    show Steps p.tables e below (T0.setTop (mkF m 0 #[.val (.int x0)] [])) _
    refine XS.iloadN X0.here hx rfl (hb hby d2_0) rfl ?_
    show Steps p.tables e below (T0.setTop (mkF m 1 #[.val (.int x0)] [(.int x0)])) _
    refine XS.bipush X0.here hx rfl (hb hby d2_1) ?_
    exact kt
  refine own_Goes.pre pre1 ?_
  by_cases hc : x0 < (65 : Int32)
  · rw [f2_0, if_pos hc] at hP
    refine own_Goes.pre (fun t kt => ?_) (b2_12 x0 X0 hx hZ hw hby hml hown hret hlk e0 Z0 N0 hP)
    show Steps p.tables e below (T0.setTop (mkF m 3 #[.val (.int x0)] [(.int (65 : Int32)), (.int x0)])) _
    refine XS.icmpYes X0.here hx rfl (pc0 := 3) (pc' := 12) rfl (hb hby d2_3) rfl (tlt hc).1 (by decide) (by decide) ?_
    exact kt
  · rw [f2_0, if_neg hc] at hP
    refine own_Goes.pre (fun t kt => ?_) (b2_6 x0 X0 hx hZ hw hby hml hown hret hlk e0 Z0 N0 hP)
    show Steps p.tables e below (T0.setTop (mkF m 3 #[.val (.int x0)] [(.int (65 : Int32)), (.int x0)])) _
    refine XS.icmpNo X0.here hx rfl (hb hby d2_3) rfl (flt hc).1 ?_
    exact kt
theorem pn1 : plainName "com/example/lehre/lehre/XmlNamesIsNameStartPinLaw" = true := by first | (simp [plainName, overriddenIn]; done) | decide +kernel
theorem ef2 (m : MethodId) (x0 : Int32) : entryFrame m #[(.int x0)] 1 = (mkF m 0 #[.val (.int x0)] []) := by first | (simp [entryFrame, mkF, argsToLocals, Value.category]; done) | rfl
set_option maxRecDepth 65536 in
set_option maxHeartbeats 40000000 in
theorem rm2 (l : Launch) (Z : State) (a0 : Array Value) (hw : ∀ d ∈ tables_1, d.before a0 Z = true) (ws : List Jvm.Cond) (x0 : Int32) (h0 : Heap) (n0 : Nat) (Z0 : n0 ≤ h0.size) :
    MetFree l (⟨"com/example/lehre/lehre/XmlNamesIsNameStartPinLaw", "expected", "(I)Z"⟩ : MethodName) (head1 (Jvm.Cond.code (⟨"com/example/lehre/lehre/XmlNamesIsNameStartPinLaw", "expected", "(I)Z"⟩ : MethodName) method_2_code 1 (some .boolean) :: ws) ({ frames := 0, cells := 0, slots := 0, locals := 0 } : Room)) (fun a U => a = #[(.int x0)] ∧ Z.Warmed39 U.vm ∧ U.heap = h0) (fun _ _ _ _ _ => True) (fun _ U o U' => ∃ v L, o = .returned v ∧ own_Q (own_val (.int (f2_0 x0)) h0) n0 v U'.heap L ∧ FrameEnd U o U' L ({ frames := 0, cells := 0, slots := 0, locals := 0 } : Room).cells ({ frames := 0, cells := 0, slots := 0, locals := 0 } : Room).slots) := by
  refine MetFree.of_bodySF (plainFor_of_name pn1) hisR ?_
  intro p e s m args below meth c s₁ Bd hml0 hP hK
  obtain ⟨rfl, hZ, hh⟩ := hP
  have hx := Bd.exec
  have hby := Bd.bytes
  have hml : c.maxLocals = 1 := hml0
  have hown : s.vm.findClass "com/example/lehre/lehre/XmlNamesIsNameStartPinLaw" = some m.cls := findClass_of_methodNamed Bd.named
  have X0 : Stand p l e ({ frames := 0, cells := 0, slots := 0, locals := 0 } : Room) s m #[(.int x0)] below meth c s₁ [] 0 0 := Stand.of_body Bd
  have e0 : s₁.heap = h0 := by rw [← hh, Bd.state]; rfl
  refine own_Goes.pre (S' := s₁.setTop (mkF m 0 #[.val (.int x0)] [])) (P := (own_val (.int (f2_0 x0)) h0)) (n0 := n0) (kc := 0) (ks := 0) (fun t k => castTop (ef2 m x0) k) ?_
  exact b2_0 x0 X0 hx hZ hw hby hml hown Bd.returns Bd.notSynchronized e0 Z0 (Fr.nil n0) ⟨rfl, rfl⟩
section OwnArr
variable {p : Program} {l : Launch} {e : Env} {R : Room} {s : State} {m : MethodId} {args : Array Value} {below : List Frame} {meth : Method} {c : Code} {T : State} {locs : List Loc} {cells slots : Nat} {n0 : Nat} {Z : State} {h : Heap}
/-- an int[] of n places, place i holding f i -/
def own_Arr (Z : State) (h : Heap) (a : Addr) (n : Nat) (f : Nat → Int32) : Prop := ∃ c : Cell, Arr Z h a c .int ∧ c.slots.size = n ∧ ∀ i, i < n → c.slots[i]? = some (.int (f i))
theorem own_Arr.new {a : Addr} {k : ClassId} {z : Int32} (A : Arr Z h a (newA k .int z) .int) {n : Nat} (hn : z.toNatClampNeg = n) : own_Arr Z h a n (fun _ => 0) :=
  ⟨_, A, by rw [sz_new]; exact hn, fun i hi => by simp [newA, hn, hi, defaultValue]⟩
theorem own_put (X : Stand p l e R s m args below meth c T locs cells slots) (hx : p.tables.exec = Jvm.exec) (hZ : Z.Warmed39 s.vm) (eT : T.heap = h) {a : Addr} {n : Nat} {f : Nat → Int32} (V : own_Arr Z h a n f) (g : n0 ≤ a) (N : Fr n0 locs) (Z0 : n0 ≤ h.size) {pc : Nat} {Ls : Array Slot} {rest : List Value} (j x : Int32) (k : Nat) (hk : j.toNatClampNeg = k) (hj : ¬ j < 0) (hkn : k < n) (hd : decode c.code pc = .ok (.iastore, 1)) :
    ∃ (T' : State) (h' : Heap) (locs' : List Loc), Stand p l e R s m args below meth c T' locs' cells slots ∧ T'.heap = h' ∧ n0 ≤ h'.size ∧ Fr n0 locs' ∧ own_Arr Z h' a n (fun i => if i = k then x else f i) ∧ ∀ t, Steps p.tables e below (T'.setTop (mkF m (pc + 1) Ls rest)) t → Steps p.tables e below (T.setTop (mkF m pc Ls (.int x :: .int j :: .ref a :: rest))) t := by
  obtain ⟨cl, A, S, H⟩ := V
  obtain ⟨T', h', X', e', W, st⟩ := stI X hx hZ eT A (j := j) (x := x) (by rw [S, hk]; exact fun q => q.elim hj (fun q => by omega)) (g := mkF m pc Ls (.int x :: .int j :: .ref a :: rest)) rfl rfl hd
  refine ⟨T', h', _, X', e', by rw [W.size]; exact Z0, Fr.snoc X' N g, ⟨_, A.same W, by rw [sz_set]; exact S, fun i hi => ?_⟩, st⟩
  rw [hk]
  simp only [Cell.setSlot]
  by_cases q : i = k
  · subst q; simp [S, hi]
  · rw [if_neg q, Array.getElem?_setIfInBounds_ne (Ne.symm q)]; exact H i hi
theorem own_get (X : Stand p l e R s m args below meth c T locs cells slots) (hx : p.tables.exec = Jvm.exec) (hZ : Z.Warmed39 s.vm) (eT : T.heap = h) {a : Addr} {n : Nat} {f : Nat → Int32} (V : own_Arr Z h a n f) {pc : Nat} {Ls : Array Slot} {rest : List Value} (j : Int32) (k : Nat) (hk : j.toNatClampNeg = k) (hj : ¬ j < 0) (hkn : k < n) (hd : decode c.code pc = .ok (.iaload, 1)) :
    ∀ t, Steps p.tables e below (T.setTop (mkF m (pc + 1) Ls (.int (f k) :: rest))) t → Steps p.tables e below (T.setTop (mkF m pc Ls (.int j :: .ref a :: rest))) t := by
  obtain ⟨cl, A, S, H⟩ := V
  intro t kt
  exact X.iaload hx (j := j) (v := .int (f k)) (by rw [eT]; exact A.1) (State.isArrayOf_alike hZ.alike A.2.1) A.2.2 (by rw [S, hk]; exact fun q => q.elim hj (fun q => by omega)) (by rw [hk]; exact H k hkn) (g := mkF m pc Ls (.int j :: .ref a :: rest)) rfl rfl hd _ kt
theorem own_alen (X : Stand p l e R s m args below meth c T locs cells slots) (hx : p.tables.exec = Jvm.exec) (hZ : Z.Warmed39 s.vm) (eT : T.heap = h) {a : Addr} {n : Nat} {f : Nat → Int32} (V : own_Arr Z h a n f) {pc : Nat} {Ls : Array Slot} {rest : List Value} (z : Int32) (hz : n.toInt32 = z) (hd : decode c.code pc = .ok (.arraylength, 1)) :
    ∀ t, Steps p.tables e below (T.setTop (mkF m (pc + 1) Ls (.int z :: rest))) t → Steps p.tables e below (T.setTop (mkF m pc Ls (.ref a :: rest))) t := by
  obtain ⟨cl, A, S, H⟩ := V
  intro t kt
  refine X.arraylength hx (cell := cl) (by rw [eT]; exact A.1) (State.isArrayOf_alike hZ.alike A.2.1) (g := mkF m pc Ls (.ref a :: rest)) rfl (rest := rest) rfl hd _ ?_
  rw [S, hz]
  exact kt
end OwnArr
theorem own_clamp {z : Int32} (h : ¬ z < 0) : (z.toNatClampNeg : Int) = z.toInt := by
  rw [Int32.lt_iff_toInt_lt, show (0 : Int32).toInt = 0 from rfl] at h
  rw [Int32.toNatClampNeg]; omega
theorem pd0 : parseMethodDescriptor "(I)Z" = some ⟨[.int], some .boolean⟩ := by decide +kernel
def f0_268 (x0 : Int32) (x1 : Int32) (x2 : Int32) (x4 : Int32) (x5 : Int32) (x6 : Int32) : Int32 := (0 : Int32)
set_option maxRecDepth 65536 in
set_option maxHeartbeats 40000000 in
theorem b0_268 {p : Program} {l : Launch} {e : Env} {s : State} {m : MethodId} {args : Array Value} {below : List Frame} {meth : Method} {c : Code} {T0 : State} {locs : List Loc} {Z : State} {a0 : Array Value} {h0 : Heap} {n0 : Nat} {P : Option Value → Heap → Prop} (x0 : Int32) (x1 : Int32) (x2 : Int32) (o3 : Addr) (x4 : Int32) (x5 : Int32) (x6 : Int32) (X0 : Stand p l e room_1 s m args below meth c T0 locs 1 30) (hx : p.tables.exec = Jvm.exec) (hZ : Z.Warmed39 s.vm) (hw : ∀ d ∈ tables_1, d.before a0 Z = true) (hby : c.code = code) (hml : c.maxLocals = 7) (hown : s.vm.findClass "com/example/lehre/lehre/XmlNamesIsNameStartPinLaw" = some m.cls) (hret : meth.sig.returnType = some .boolean) (hlk : meth.locks = false) (e0 : T0.heap = h0) (Z0 : n0 ≤ h0.size) (N0 : Fr n0 locs) (hP : P (some (.int (f0_268 x0 x1 x2 x4 x5 x6))) h0) :
    own_Goes p e below s n0 room_1.cells room_1.slots P (T0.setTop (mkF m 268 #[.val (.int x0), .val (.int x1), .val (.int x2), .val (.ref o3), .val (.int x4), .val (.int x5), .val (.int x6)] [])) := by
  rw [f0_268] at hP
  refine own_Goes.pre (fun t kt => ?_) (own_retN X0 hx hlk hret (by simp) (hb hby at_269) N0 (by rw [e0]; exact hP) (by decide) (by decide) (Ls := #[.val (.int x0), .val (.int x1), .val (.int x2), .val (.ref o3), .val (.int x4), .val (.int x5), .val (.int x6)]) (rest := []) (z := (0 : Int32)))
  show Steps p.tables e below (T0.setTop (mkF m 268 #[.val (.int x0), .val (.int x1), .val (.int x2), .val (.ref o3), .val (.int x4), .val (.int x5), .val (.int x6)] [])) _
  refine XS.iconst X0.here hx rfl (hb hby at_268) ?_
  exact kt
def f0_264 (x0 : Int32) (x1 : Int32) (x2 : Int32) (x4 : Int32) (x5 : Int32) (x6 : Int32) : Int32 := (1 : Int32)
set_option maxRecDepth 65536 in
set_option maxHeartbeats 40000000 in
theorem b0_264 {p : Program} {l : Launch} {e : Env} {s : State} {m : MethodId} {args : Array Value} {below : List Frame} {meth : Method} {c : Code} {T0 : State} {locs : List Loc} {Z : State} {a0 : Array Value} {h0 : Heap} {n0 : Nat} {P : Option Value → Heap → Prop} (x0 : Int32) (x1 : Int32) (x2 : Int32) (o3 : Addr) (x4 : Int32) (x5 : Int32) (x6 : Int32) (X0 : Stand p l e room_1 s m args below meth c T0 locs 1 30) (hx : p.tables.exec = Jvm.exec) (hZ : Z.Warmed39 s.vm) (hw : ∀ d ∈ tables_1, d.before a0 Z = true) (hby : c.code = code) (hml : c.maxLocals = 7) (hown : s.vm.findClass "com/example/lehre/lehre/XmlNamesIsNameStartPinLaw" = some m.cls) (hret : meth.sig.returnType = some .boolean) (hlk : meth.locks = false) (e0 : T0.heap = h0) (Z0 : n0 ≤ h0.size) (N0 : Fr n0 locs) (hP : P (some (.int (f0_264 x0 x1 x2 x4 x5 x6))) h0) :
    own_Goes p e below s n0 room_1.cells room_1.slots P (T0.setTop (mkF m 264 #[.val (.int x0), .val (.int x1), .val (.int x2), .val (.ref o3), .val (.int x4), .val (.int x5), .val (.int x6)] [])) := by
  rw [f0_264] at hP
  refine own_Goes.pre (fun t kt => ?_) (own_retN X0 hx hlk hret (by simp) (hb hby at_269) N0 (by rw [e0]; exact hP) (by decide) (by decide) (Ls := #[.val (.int x0), .val (.int x1), .val (.int x2), .val (.ref o3), .val (.int x4), .val (.int x5), .val (.int x6)]) (rest := []) (z := (1 : Int32)))
  show Steps p.tables e below (T0.setTop (mkF m 264 #[.val (.int x0), .val (.int x1), .val (.int x2), .val (.ref o3), .val (.int x4), .val (.int x5), .val (.int x6)] [])) _
  refine XS.iconst X0.here hx rfl (hb hby at_264) ?_
  show Steps p.tables e below (T0.setTop (mkF m 265 #[.val (.int x0), .val (.int x1), .val (.int x2), .val (.ref o3), .val (.int x4), .val (.int x5), .val (.int x6)] [(.int (1 : Int32))])) _
  refine XS.goto X0.here hx rfl (pc0 := 265) (pc' := 269) rfl (hb hby at_265) (by decide) (by decide) ?_
  exact kt
def f0_259 (x0 : Int32) (x1 : Int32) (x2 : Int32) (x4 : Int32) (x5 : Int32) (x6 : Int32) : Int32 := if x6 = (0 : Int32) then (f0_268 x0 x1 x2 x4 x5 x6) else (f0_264 x0 x1 x2 x4 x5 x6)
set_option maxRecDepth 65536 in
set_option maxHeartbeats 40000000 in
theorem b0_259 {p : Program} {l : Launch} {e : Env} {s : State} {m : MethodId} {args : Array Value} {below : List Frame} {meth : Method} {c : Code} {T0 : State} {locs : List Loc} {Z : State} {a0 : Array Value} {h0 : Heap} {n0 : Nat} {P : Option Value → Heap → Prop} (x0 : Int32) (x1 : Int32) (x2 : Int32) (o3 : Addr) (x4 : Int32) (x5 : Int32) (x6 : Int32) (X0 : Stand p l e room_1 s m args below meth c T0 locs 1 30) (hx : p.tables.exec = Jvm.exec) (hZ : Z.Warmed39 s.vm) (hw : ∀ d ∈ tables_1, d.before a0 Z = true) (hby : c.code = code) (hml : c.maxLocals = 7) (hown : s.vm.findClass "com/example/lehre/lehre/XmlNamesIsNameStartPinLaw" = some m.cls) (hret : meth.sig.returnType = some .boolean) (hlk : meth.locks = false) (e0 : T0.heap = h0) (Z0 : n0 ≤ h0.size) (N0 : Fr n0 locs) (hP : P (some (.int (f0_259 x0 x1 x2 x4 x5 x6))) h0) :
    own_Goes p e below s n0 room_1.cells room_1.slots P (T0.setTop (mkF m 259 #[.val (.int x0), .val (.int x1), .val (.int x2), .val (.ref o3), .val (.int x4), .val (.int x5), .val (.int x6)] [])) := by
  have pre1 : ∀ t, Steps p.tables e below (T0.setTop (mkF m 261 #[.val (.int x0), .val (.int x1), .val (.int x2), .val (.ref o3), .val (.int x4), .val (.int x5), .val (.int x6)] [(.int x6)])) t → Steps p.tables e below (T0.setTop (mkF m 259 #[.val (.int x0), .val (.int x1), .val (.int x2), .val (.ref o3), .val (.int x4), .val (.int x5), .val (.int x6)] [])) t := fun t kt => by
    show Steps p.tables e below (T0.setTop (mkF m 259 #[.val (.int x0), .val (.int x1), .val (.int x2), .val (.ref o3), .val (.int x4), .val (.int x5), .val (.int x6)] [])) _
    refine XS.iload X0.here hx rfl (hb hby at_259) rfl ?_
    exact kt
  refine own_Goes.pre pre1 ?_
  by_cases hc : x6 = (0 : Int32)
  · rw [f0_259, if_pos hc] at hP
    refine own_Goes.pre (fun t kt => ?_) (b0_268 x0 x1 x2 o3 x4 x5 x6 X0 hx hZ hw hby hml hown hret hlk e0 Z0 N0 hP)
    show Steps p.tables e below (T0.setTop (mkF m 261 #[.val (.int x0), .val (.int x1), .val (.int x2), .val (.ref o3), .val (.int x4), .val (.int x5), .val (.int x6)] [(.int x6)])) _
    refine XS.ifYes X0.here hx rfl (pc0 := 261) (pc' := 268) rfl (hb hby at_261) rfl ((if0 _ _).trans (teq hc).1) (by decide) (by decide) ?_
    exact kt
  · rw [f0_259, if_neg hc] at hP
    refine own_Goes.pre (fun t kt => ?_) (b0_264 x0 x1 x2 o3 x4 x5 x6 X0 hx hZ hw hby hml hown hret hlk e0 Z0 N0 hP)
    show Steps p.tables e below (T0.setTop (mkF m 261 #[.val (.int x0), .val (.int x1), .val (.int x2), .val (.ref o3), .val (.int x4), .val (.int x5), .val (.int x6)] [(.int x6)])) _
    refine XS.ifNo X0.here hx rfl (hb hby at_261) rfl ((if0 _ _).trans (feq hc).1) ?_
    exact kt
def f0_252 (x0 : Int32) (x1 : Int32) (x2 : Int32) (x4 : Int32) (x5 : Int32) (y0 : Int32) : Int32 := if x5 = (0 : Int32) then (f0_268 x0 x1 x2 x4 x5 y0) else (f0_259 x0 x1 x2 x4 x5 y0)
set_option maxRecDepth 65536 in
set_option maxHeartbeats 40000000 in
theorem b0_252 {p : Program} {l : Launch} {e : Env} {s : State} {m : MethodId} {args : Array Value} {below : List Frame} {meth : Method} {c : Code} {T0 : State} {locs : List Loc} {Z : State} {a0 : Array Value} {h0 : Heap} {n0 : Nat} {P : Option Value → Heap → Prop} (x0 : Int32) (x1 : Int32) (x2 : Int32) (o3 : Addr) (x4 : Int32) (x5 : Int32) (y0 : Int32) (X0 : Stand p l e room_1 s m args below meth c T0 locs 1 30) (hx : p.tables.exec = Jvm.exec) (hZ : Z.Warmed39 s.vm) (hw : ∀ d ∈ tables_1, d.before a0 Z = true) (hby : c.code = code) (hml : c.maxLocals = 7) (hown : s.vm.findClass "com/example/lehre/lehre/XmlNamesIsNameStartPinLaw" = some m.cls) (hret : meth.sig.returnType = some .boolean) (hlk : meth.locks = false) (e0 : T0.heap = h0) (Z0 : n0 ≤ h0.size) (N0 : Fr n0 locs) (hP : P (some (.int (f0_252 x0 x1 x2 x4 x5 y0))) h0) :
    own_Goes p e below s n0 room_1.cells room_1.slots P (T0.setTop (mkF m 252 #[.val (.int x0), .val (.int x1), .val (.int x2), .val (.ref o3), .val (.int x4), .val (.int x5), .unset] [(.int y0)])) := by
  have pre1 : ∀ t, Steps p.tables e below (T0.setTop (mkF m 256 #[.val (.int x0), .val (.int x1), .val (.int x2), .val (.ref o3), .val (.int x4), .val (.int x5), .val (.int y0)] [(.int x5)])) t → Steps p.tables e below (T0.setTop (mkF m 252 #[.val (.int x0), .val (.int x1), .val (.int x2), .val (.ref o3), .val (.int x4), .val (.int x5), .unset] [(.int y0)])) t := fun t kt => by
    show Steps p.tables e below (T0.setTop (mkF m 252 #[.val (.int x0), .val (.int x1), .val (.int x2), .val (.ref o3), .val (.int x4), .val (.int x5), .unset] [(.int y0)])) _
    refine XS.istore X0.here hx rfl (hb hby at_252) rfl (l' := #[.val (.int x0), .val (.int x1), .val (.int x2), .val (.ref o3), .val (.int x4), .val (.int x5), .val (.int y0)]) rfl ?_
    show Steps p.tables e below (T0.setTop (mkF m 254 #[.val (.int x0), .val (.int x1), .val (.int x2), .val (.ref o3), .val (.int x4), .val (.int x5), .val (.int y0)] [])) _
    refine XS.iload X0.here hx rfl (hb hby at_254) rfl ?_
    exact kt
  refine own_Goes.pre pre1 ?_
  by_cases hc : x5 = (0 : Int32)
  · rw [f0_252, if_pos hc] at hP
    refine own_Goes.pre (fun t kt => ?_) (b0_268 x0 x1 x2 o3 x4 x5 y0 X0 hx hZ hw hby hml hown hret hlk e0 Z0 N0 hP)
    show Steps p.tables e below (T0.setTop (mkF m 256 #[.val (.int x0), .val (.int x1), .val (.int x2), .val (.ref o3), .val (.int x4), .val (.int x5), .val (.int y0)] [(.int x5)])) _
    refine XS.ifYes X0.here hx rfl (pc0 := 256) (pc' := 268) rfl (hb hby at_256) rfl ((if0 _ _).trans (teq hc).1) (by decide) (by decide) ?_
    exact kt
  · rw [f0_252, if_neg hc] at hP
    refine own_Goes.pre (fun t kt => ?_) (b0_259 x0 x1 x2 o3 x4 x5 y0 X0 hx hZ hw hby hml hown hret hlk e0 Z0 N0 hP)
    show Steps p.tables e below (T0.setTop (mkF m 256 #[.val (.int x0), .val (.int x1), .val (.int x2), .val (.ref o3), .val (.int x4), .val (.int x5), .val (.int y0)] [(.int x5)])) _
    refine XS.ifNo X0.here hx rfl (hb hby at_256) rfl ((if0 _ _).trans (feq hc).1) ?_
    exact kt
def f0_251 (x0 : Int32) (x1 : Int32) (x2 : Int32) (x4 : Int32) (x5 : Int32) : Int32 := (f0_252 x0 x1 x2 x4 x5 (0 : Int32))
set_option maxRecDepth 65536 in
set_option maxHeartbeats 40000000 in
theorem b0_251 {p : Program} {l : Launch} {e : Env} {s : State} {m : MethodId} {args : Array Value} {below : List Frame} {meth : Method} {c : Code} {T0 : State} {locs : List Loc} {Z : State} {a0 : Array Value} {h0 : Heap} {n0 : Nat} {P : Option Value → Heap → Prop} (x0 : Int32) (x1 : Int32) (x2 : Int32) (o3 : Addr) (x4 : Int32) (x5 : Int32) (X0 : Stand p l e room_1 s m args below meth c T0 locs 1 30) (hx : p.tables.exec = Jvm.exec) (hZ : Z.Warmed39 s.vm) (hw : ∀ d ∈ tables_1, d.before a0 Z = true) (hby : c.code = code) (hml : c.maxLocals = 7) (hown : s.vm.findClass "com/example/lehre/lehre/XmlNamesIsNameStartPinLaw" = some m.cls) (hret : meth.sig.returnType = some .boolean) (hlk : meth.locks = false) (e0 : T0.heap = h0) (Z0 : n0 ≤ h0.size) (N0 : Fr n0 locs) (hP : P (some (.int (f0_251 x0 x1 x2 x4 x5))) h0) :
    own_Goes p e below s n0 room_1.cells room_1.slots P (T0.setTop (mkF m 251 #[.val (.int x0), .val (.int x1), .val (.int x2), .val (.ref o3), .val (.int x4), .val (.int x5), .unset] [])) := by
  rw [f0_251] at hP
  refine own_Goes.pre (fun t kt => ?_) (b0_252 x0 x1 x2 o3 x4 x5 (0 : Int32) X0 hx hZ hw hby hml hown hret hlk e0 Z0 N0 hP)
  show Steps p.tables e below (T0.setTop (mkF m 251 #[.val (.int x0), .val (.int x1), .val (.int x2), .val (.ref o3), .val (.int x4), .val (.int x5), .unset] [])) _
  refine XS.iconst X0.here hx rfl (hb hby at_251) ?_
  exact kt
def f0_247 (x0 : Int32) (x1 : Int32) (x2 : Int32) (x4 : Int32) (x5 : Int32) : Int32 := (f0_252 x0 x1 x2 x4 x5 (1 : Int32))
set_option maxRecDepth 65536 in
set_option maxHeartbeats 40000000 in
theorem b0_247 {p : Program} {l : Launch} {e : Env} {s : State} {m : MethodId} {args : Array Value} {below : List Frame} {meth : Method} {c : Code} {T0 : State} {locs : List Loc} {Z : State} {a0 : Array Value} {h0 : Heap} {n0 : Nat} {P : Option Value → Heap → Prop} (x0 : Int32) (x1 : Int32) (x2 : Int32) (o3 : Addr) (x4 : Int32) (x5 : Int32) (X0 : Stand p l e room_1 s m args below meth c T0 locs 1 30) (hx : p.tables.exec = Jvm.exec) (hZ : Z.Warmed39 s.vm) (hw : ∀ d ∈ tables_1, d.before a0 Z = true) (hby : c.code = code) (hml : c.maxLocals = 7) (hown : s.vm.findClass "com/example/lehre/lehre/XmlNamesIsNameStartPinLaw" = some m.cls) (hret : meth.sig.returnType = some .boolean) (hlk : meth.locks = false) (e0 : T0.heap = h0) (Z0 : n0 ≤ h0.size) (N0 : Fr n0 locs) (hP : P (some (.int (f0_247 x0 x1 x2 x4 x5))) h0) :
    own_Goes p e below s n0 room_1.cells room_1.slots P (T0.setTop (mkF m 247 #[.val (.int x0), .val (.int x1), .val (.int x2), .val (.ref o3), .val (.int x4), .val (.int x5), .unset] [])) := by
  rw [f0_247] at hP
  refine own_Goes.pre (fun t kt => ?_) (b0_252 x0 x1 x2 o3 x4 x5 (1 : Int32) X0 hx hZ hw hby hml hown hret hlk e0 Z0 N0 hP)
  show Steps p.tables e below (T0.setTop (mkF m 247 #[.val (.int x0), .val (.int x1), .val (.int x2), .val (.ref o3), .val (.int x4), .val (.int x5), .unset] [])) _
  refine XS.iconst X0.here hx rfl (hb hby at_247) ?_
  show Steps p.tables e below (T0.setTop (mkF m 248 #[.val (.int x0), .val (.int x1), .val (.int x2), .val (.ref o3), .val (.int x4), .val (.int x5), .unset] [(.int (1 : Int32))])) _
  refine XS.goto X0.here hx rfl (pc0 := 248) (pc' := 252) rfl (hb hby at_248) (by decide) (by decide) ?_
  exact kt
def f0_232 (x0 : Int32) (x1 : Int32) (x2 : Int32) (x4 : Int32) (y0 : Int32) : Int32 := if (f1_0 x4) = (f2_0 x4) then (f0_247 x0 x1 x2 x4 y0) else (f0_251 x0 x1 x2 x4 y0)
set_option maxRecDepth 65536 in
set_option maxHeartbeats 40000000 in
theorem b0_232 {p : Program} {l : Launch} {e : Env} {s : State} {m : MethodId} {args : Array Value} {below : List Frame} {meth : Method} {c : Code} {T0 : State} {locs : List Loc} {Z : State} {a0 : Array Value} {h0 : Heap} {n0 : Nat} {P : Option Value → Heap → Prop} (x0 : Int32) (x1 : Int32) (x2 : Int32) (o3 : Addr) (x4 : Int32) (y0 : Int32) (X0 : Stand p l e room_1 s m args below meth c T0 locs 1 30) (hx : p.tables.exec = Jvm.exec) (hZ : Z.Warmed39 s.vm) (hw : ∀ d ∈ tables_1, d.before a0 Z = true) (hby : c.code = code) (hml : c.maxLocals = 7) (hown : s.vm.findClass "com/example/lehre/lehre/XmlNamesIsNameStartPinLaw" = some m.cls) (hret : meth.sig.returnType = some .boolean) (hlk : meth.locks = false) (e0 : T0.heap = h0) (Z0 : n0 ≤ h0.size) (N0 : Fr n0 locs) (hP : P (some (.int (f0_232 x0 x1 x2 x4 y0))) h0) :
    own_Goes p e below s n0 room_1.cells room_1.slots P (T0.setTop (mkF m 232 #[.val (.int x0), .val (.int x1), .val (.int x2), .val (.ref o3), .val (.int x4), .unset, .unset] [(.int y0)])) := by
  obtain ⟨_, _, ⟨T236, L236, k236, n236⟩, -, X236, ⟨Lc236, hQ236, l236, y236, z236⟩, st236⟩ := Jvm.LawKit.callS X0 hx (y := (⟨"com/example/lehre/lehre/XmlNames", "isNameStart", "(I)Z"⟩ : MethodName)) hown (mvT hZ (hw _ (List.mem_of_getElem? (i := 9) rfl))) (mvT hZ (hw _ (List.mem_of_getElem? (i := 10) rfl))) (mvT hZ (hw _ (List.mem_of_getElem? (i := 11) rfl))) (mvT hZ (hw _ (List.mem_of_getElem? (i := 12) rfl))) (by decide) (backOf (W := 0) (rm1 l Z a0 hw [] x4 h0 n0 Z0) hZ (hw _ (List.mem_of_getElem? (i := 12) rfl)) (hw _ (List.mem_of_getElem? (i := 11) rfl)) (by decide) (by decide)) (g := (mkF m 236 #[.val (.int x0), .val (.int x1), .val (.int x2), .val (.ref o3), .val (.int x4), .val (.int y0), .unset] [(.int x4)])) rfl (by rw [hml]; rfl) (argsL := [(.int x4)]) (rest := []) (lenOf pd0 rfl) rfl (by show 2 * 0 + _ ≤ _; exact Nat.le_of_eq rfl) (hb hby at_236) (fun _ _ => ⟨rfl, e0, (by decide : 1 + 0 ≤ _), (by decide : 30 + 0 ≤ _)⟩)
  dsimp only [Pt.U, Pt.locs, Pt.cells, Pt.slots] at X236 l236 y236 z236 st236 hQ236
  subst l236 y236 z236
  obtain ⟨⟨rfl, e236⟩, N236q⟩ := hQ236
  have N236 := Fr.app N0 N236q
  obtain ⟨_, _, ⟨T241, L241, k241, n241⟩, -, X241, ⟨Lc241, hQ241, l241, y241, z241⟩, st241⟩ := Jvm.LawKit.callS X236 hx (y := (⟨"com/example/lehre/lehre/XmlNamesIsNameStartPinLaw", "expected", "(I)Z"⟩ : MethodName)) hown (mvT hZ (hw _ (List.mem_of_getElem? (i := 16) rfl))) (mvT hZ (hw _ (List.mem_of_getElem? (i := 17) rfl))) (mvT hZ (hw _ (List.mem_of_getElem? (i := 18) rfl))) (mvT hZ (hw _ (List.mem_of_getElem? (i := 19) rfl))) (by decide) (backOf (W := 1) (rm2 l Z a0 hw [] x4 h0 n0 Z0) hZ (hw _ (List.mem_of_getElem? (i := 19) rfl)) (hw _ (List.mem_of_getElem? (i := 18) rfl)) (by decide) (by decide)) (g := (mkF m 241 #[.val (.int x0), .val (.int x1), .val (.int x2), .val (.ref o3), .val (.int x4), .val (.int y0), .unset] [(.int x4), (.int (f1_0 x4))])) rfl (by rw [hml]; rfl) (argsL := [(.int x4)]) (rest := [(.int (f1_0 x4))]) (lenOf pd0 rfl) rfl (by show 2 * 0 + _ ≤ _; exact Nat.le_of_eq rfl) (hb hby at_241) (fun _ _ => ⟨rfl, e236, (by decide : 1 + 0 ≤ _), (by decide : 30 + 0 ≤ _)⟩)
  dsimp only [Pt.U, Pt.locs, Pt.cells, Pt.slots] at X241 l241 y241 z241 st241 hQ241
  subst l241 y241 z241
  obtain ⟨⟨rfl, e241⟩, N241q⟩ := hQ241
  have N241 := Fr.app N236 N241q
  have pre1 : ∀ t, Steps p.tables e below (T241.setTop (mkF m 244 #[.val (.int x0), .val (.int x1), .val (.int x2), .val (.ref o3), .val (.int x4), .val (.int y0), .unset] [(.int (f2_0 x4)), (.int (f1_0 x4))])) t → Steps p.tables e below (T0.setTop (mkF m 232 #[.val (.int x0), .val (.int x1), .val (.int x2), .val (.ref o3), .val (.int x4), .unset, .unset] [(.int y0)])) t := fun t kt => by
    show Steps p.tables e below (T0.setTop (mkF m 232 #[.val (.int x0), .val (.int x1), .val (.int x2), .val (.ref o3), .val (.int x4), .unset, .unset] [(.int y0)])) _
    refine XS.istore X0.here hx rfl (hb hby at_232) rfl (l' := #[.val (.int x0), .val (.int x1), .val (.int x2), .val (.ref o3), .val (.int x4), .val (.int y0), .unset]) rfl ?_
    show Steps p.tables e below (T0.setTop (mkF m 234 #[.val (.int x0), .val (.int x1), .val (.int x2), .val (.ref o3), .val (.int x4), .val (.int y0), .unset] [])) _
    refine XS.iload X0.here hx rfl (hb hby at_234) rfl ?_
    show Steps p.tables e below (T0.setTop (mkF m 236 #[.val (.int x0), .val (.int x1), .val (.int x2), .val (.ref o3), .val (.int x4), .val (.int y0), .unset] [(.int x4)])) _
    refine st236 _ ?_
    show Steps p.tables e below (T236.setTop (mkF m 239 #[.val (.int x0), .val (.int x1), .val (.int x2), .val (.ref o3), .val (.int x4), .val (.int y0), .unset] [(.int (f1_0 x4))])) _
    refine XS.iload X236.here hx rfl (hb hby at_239) rfl ?_
    show Steps p.tables e below (T236.setTop (mkF m 241 #[.val (.int x0), .val (.int x1), .val (.int x2), .val (.ref o3), .val (.int x4), .val (.int y0), .unset] [(.int x4), (.int (f1_0 x4))])) _
    refine st241 _ ?_
    exact kt
  refine own_Goes.pre pre1 ?_
  by_cases hc : (f1_0 x4) = (f2_0 x4)
  · rw [f0_232, if_pos hc] at hP
    refine own_Goes.pre (fun t kt => ?_) (b0_247 x0 x1 x2 o3 x4 y0 X241 hx hZ hw hby hml hown hret hlk e241 Z0 N241 hP)
    show Steps p.tables e below (T241.setTop (mkF m 244 #[.val (.int x0), .val (.int x1), .val (.int x2), .val (.ref o3), .val (.int x4), .val (.int y0), .unset] [(.int (f2_0 x4)), (.int (f1_0 x4))])) _
    refine XS.icmpNo X241.here hx rfl (hb hby at_244) rfl (teq hc).2 ?_
    exact kt
  · rw [f0_232, if_neg hc] at hP
    refine own_Goes.pre (fun t kt => ?_) (b0_251 x0 x1 x2 o3 x4 y0 X241 hx hZ hw hby hml hown hret hlk e241 Z0 N241 hP)
    show Steps p.tables e below (T241.setTop (mkF m 244 #[.val (.int x0), .val (.int x1), .val (.int x2), .val (.ref o3), .val (.int x4), .val (.int y0), .unset] [(.int (f2_0 x4)), (.int (f1_0 x4))])) _
    refine XS.icmpYes X241.here hx rfl (pc0 := 244) (pc' := 251) rfl (hb hby at_244) rfl (feq hc).2 (by decide) (by decide) ?_
    exact kt
def f0_231 (x0 : Int32) (x1 : Int32) (x2 : Int32) (x4 : Int32) : Int32 := (f0_232 x0 x1 x2 x4 (0 : Int32))
set_option maxRecDepth 65536 in
set_option maxHeartbeats 40000000 in
theorem b0_231 {p : Program} {l : Launch} {e : Env} {s : State} {m : MethodId} {args : Array Value} {below : List Frame} {meth : Method} {c : Code} {T0 : State} {locs : List Loc} {Z : State} {a0 : Array Value} {h0 : Heap} {n0 : Nat} {P : Option Value → Heap → Prop} (x0 : Int32) (x1 : Int32) (x2 : Int32) (o3 : Addr) (x4 : Int32) (X0 : Stand p l e room_1 s m args below meth c T0 locs 1 30) (hx : p.tables.exec = Jvm.exec) (hZ : Z.Warmed39 s.vm) (hw : ∀ d ∈ tables_1, d.before a0 Z = true) (hby : c.code = code) (hml : c.maxLocals = 7) (hown : s.vm.findClass "com/example/lehre/lehre/XmlNamesIsNameStartPinLaw" = some m.cls) (hret : meth.sig.returnType = some .boolean) (hlk : meth.locks = false) (e0 : T0.heap = h0) (Z0 : n0 ≤ h0.size) (N0 : Fr n0 locs) (hP : P (some (.int (f0_231 x0 x1 x2 x4))) h0) :
    own_Goes p e below s n0 room_1.cells room_1.slots P (T0.setTop (mkF m 231 #[.val (.int x0), .val (.int x1), .val (.int x2), .val (.ref o3), .val (.int x4), .unset, .unset] [])) := by
  rw [f0_231] at hP
  refine own_Goes.pre (fun t kt => ?_) (b0_232 x0 x1 x2 o3 x4 (0 : Int32) X0 hx hZ hw hby hml hown hret hlk e0 Z0 N0 hP)
  show Steps p.tables e below (T0.setTop (mkF m 231 #[.val (.int x0), .val (.int x1), .val (.int x2), .val (.ref o3), .val (.int x4), .unset, .unset] [])) _
  refine XS.iconst X0.here hx rfl (hb hby at_231) ?_
  exact kt
def f0_227 (x0 : Int32) (x1 : Int32) (x2 : Int32) (x4 : Int32) : Int32 := (f0_232 x0 x1 x2 x4 (1 : Int32))
set_option maxRecDepth 65536 in
set_option maxHeartbeats 40000000 in
theorem b0_227 {p : Program} {l : Launch} {e : Env} {s : State} {m : MethodId} {args : Array Value} {below : List Frame} {meth : Method} {c : Code} {T0 : State} {locs : List Loc} {Z : State} {a0 : Array Value} {h0 : Heap} {n0 : Nat} {P : Option Value → Heap → Prop} (x0 : Int32) (x1 : Int32) (x2 : Int32) (o3 : Addr) (x4 : Int32) (X0 : Stand p l e room_1 s m args below meth c T0 locs 1 30) (hx : p.tables.exec = Jvm.exec) (hZ : Z.Warmed39 s.vm) (hw : ∀ d ∈ tables_1, d.before a0 Z = true) (hby : c.code = code) (hml : c.maxLocals = 7) (hown : s.vm.findClass "com/example/lehre/lehre/XmlNamesIsNameStartPinLaw" = some m.cls) (hret : meth.sig.returnType = some .boolean) (hlk : meth.locks = false) (e0 : T0.heap = h0) (Z0 : n0 ≤ h0.size) (N0 : Fr n0 locs) (hP : P (some (.int (f0_227 x0 x1 x2 x4))) h0) :
    own_Goes p e below s n0 room_1.cells room_1.slots P (T0.setTop (mkF m 227 #[.val (.int x0), .val (.int x1), .val (.int x2), .val (.ref o3), .val (.int x4), .unset, .unset] [])) := by
  rw [f0_227] at hP
  refine own_Goes.pre (fun t kt => ?_) (b0_232 x0 x1 x2 o3 x4 (1 : Int32) X0 hx hZ hw hby hml hown hret hlk e0 Z0 N0 hP)
  show Steps p.tables e below (T0.setTop (mkF m 227 #[.val (.int x0), .val (.int x1), .val (.int x2), .val (.ref o3), .val (.int x4), .unset, .unset] [])) _
  refine XS.iconst X0.here hx rfl (hb hby at_227) ?_
  show Steps p.tables e below (T0.setTop (mkF m 228 #[.val (.int x0), .val (.int x1), .val (.int x2), .val (.ref o3), .val (.int x4), .unset, .unset] [(.int (1 : Int32))])) _
  refine XS.goto X0.here hx rfl (pc0 := 228) (pc' := 232) rfl (hb hby at_228) (by decide) (by decide) ?_
  exact kt
def f0_205 (x0 : Int32) (x1 : Int32) (x2 : Int32) (y0 : Int32) : Int32 := if (f1_0 x0) = (f2_0 x0) then (f0_227 x0 x1 x2 ((y0 + ((x2 &&& (2147483647 : Int32)) % (3 : Int32))) - (1 : Int32))) else (f0_231 x0 x1 x2 ((y0 + ((x2 &&& (2147483647 : Int32)) % (3 : Int32))) - (1 : Int32)))
set_option maxRecDepth 65536 in
set_option maxHeartbeats 40000000 in
theorem b0_205 {p : Program} {l : Launch} {e : Env} {s : State} {m : MethodId} {args : Array Value} {below : List Frame} {meth : Method} {c : Code} {T0 : State} {locs : List Loc} {Z : State} {a0 : Array Value} {h0 : Heap} {n0 : Nat} {P : Option Value → Heap → Prop} (x0 : Int32) (x1 : Int32) (x2 : Int32) (o3 : Addr) (y0 : Int32) (X0 : Stand p l e room_1 s m args below meth c T0 locs 1 30) (hx : p.tables.exec = Jvm.exec) (hZ : Z.Warmed39 s.vm) (hw : ∀ d ∈ tables_1, d.before a0 Z = true) (hby : c.code = code) (hml : c.maxLocals = 7) (hown : s.vm.findClass "com/example/lehre/lehre/XmlNamesIsNameStartPinLaw" = some m.cls) (hret : meth.sig.returnType = some .boolean) (hlk : meth.locks = false) (e0 : T0.heap = h0) (Z0 : n0 ≤ h0.size) (N0 : Fr n0 locs) (hP : P (some (.int (f0_205 x0 x1 x2 y0))) h0) :
    own_Goes p e below s n0 room_1.cells room_1.slots P (T0.setTop (mkF m 205 #[.val (.int x0), .val (.int x1), .val (.int x2), .val (.ref o3), .unset, .unset, .unset] [(.int y0)])) := by
  obtain ⟨_, _, ⟨T217, L217, k217, n217⟩, -, X217, ⟨Lc217, hQ217, l217, y217, z217⟩, st217⟩ := Jvm.LawKit.callS X0 hx (y := (⟨"com/example/lehre/lehre/XmlNames", "isNameStart", "(I)Z"⟩ : MethodName)) hown (mvT hZ (hw _ (List.mem_of_getElem? (i := 9) rfl))) (mvT hZ (hw _ (List.mem_of_getElem? (i := 10) rfl))) (mvT hZ (hw _ (List.mem_of_getElem? (i := 11) rfl))) (mvT hZ (hw _ (List.mem_of_getElem? (i := 12) rfl))) (by decide) (backOf (W := 0) (rm1 l Z a0 hw [] x0 h0 n0 Z0) hZ (hw _ (List.mem_of_getElem? (i := 12) rfl)) (hw _ (List.mem_of_getElem? (i := 11) rfl)) (by decide) (by decide)) (g := (mkF m 217 #[.val (.int x0), .val (.int x1), .val (.int x2), .val (.ref o3), .val (.int ((y0 + ((x2 &&& (2147483647 : Int32)) % (3 : Int32))) - (1 : Int32))), .unset, .unset] [(.int x0)])) rfl (by rw [hml]; rfl) (argsL := [(.int x0)]) (rest := []) (lenOf pd0 rfl) rfl (by show 2 * 0 + _ ≤ _; exact Nat.le_of_eq rfl) (hb hby at_217) (fun _ _ => ⟨rfl, e0, (by decide : 1 + 0 ≤ _), (by decide : 30 + 0 ≤ _)⟩)
  dsimp only [Pt.U, Pt.locs, Pt.cells, Pt.slots] at X217 l217 y217 z217 st217 hQ217
  subst l217 y217 z217
  obtain ⟨⟨rfl, e217⟩, N217q⟩ := hQ217
  have N217 := Fr.app N0 N217q
  obtain ⟨_, _, ⟨T221, L221, k221, n221⟩, -, X221, ⟨Lc221, hQ221, l221, y221, z221⟩, st221⟩ := Jvm.LawKit.callS X217 hx (y := (⟨"com/example/lehre/lehre/XmlNamesIsNameStartPinLaw", "expected", "(I)Z"⟩ : MethodName)) hown (mvT hZ (hw _ (List.mem_of_getElem? (i := 16) rfl))) (mvT hZ (hw _ (List.mem_of_getElem? (i := 17) rfl))) (mvT hZ (hw _ (List.mem_of_getElem? (i := 18) rfl))) (mvT hZ (hw _ (List.mem_of_getElem? (i := 19) rfl))) (by decide) (backOf (W := 1) (rm2 l Z a0 hw [] x0 h0 n0 Z0) hZ (hw _ (List.mem_of_getElem? (i := 19) rfl)) (hw _ (List.mem_of_getElem? (i := 18) rfl)) (by decide) (by decide)) (g := (mkF m 221 #[.val (.int x0), .val (.int x1), .val (.int x2), .val (.ref o3), .val (.int ((y0 + ((x2 &&& (2147483647 : Int32)) % (3 : Int32))) - (1 : Int32))), .unset, .unset] [(.int x0), (.int (f1_0 x0))])) rfl (by rw [hml]; rfl) (argsL := [(.int x0)]) (rest := [(.int (f1_0 x0))]) (lenOf pd0 rfl) rfl (by show 2 * 0 + _ ≤ _; exact Nat.le_of_eq rfl) (hb hby at_221) (fun _ _ => ⟨rfl, e217, (by decide : 1 + 0 ≤ _), (by decide : 30 + 0 ≤ _)⟩)
  dsimp only [Pt.U, Pt.locs, Pt.cells, Pt.slots] at X221 l221 y221 z221 st221 hQ221
  subst l221 y221 z221
  obtain ⟨⟨rfl, e221⟩, N221q⟩ := hQ221
  have N221 := Fr.app N217 N221q
  have pre1 : ∀ t, Steps p.tables e below (T221.setTop (mkF m 224 #[.val (.int x0), .val (.int x1), .val (.int x2), .val (.ref o3), .val (.int ((y0 + ((x2 &&& (2147483647 : Int32)) % (3 : Int32))) - (1 : Int32))), .unset, .unset] [(.int (f2_0 x0)), (.int (f1_0 x0))])) t → Steps p.tables e below (T0.setTop (mkF m 205 #[.val (.int x0), .val (.int x1), .val (.int x2), .val (.ref o3), .unset, .unset, .unset] [(.int y0)])) t := fun t kt => by
    show Steps p.tables e below (T0.setTop (mkF m 205 #[.val (.int x0), .val (.int x1), .val (.int x2), .val (.ref o3), .unset, .unset, .unset] [(.int y0)])) _
    refine XS.iloadN X0.here hx rfl (hb hby at_205) rfl ?_
    show Steps p.tables e below (T0.setTop (mkF m 206 #[.val (.int x0), .val (.int x1), .val (.int x2), .val (.ref o3), .unset, .unset, .unset] [(.int x2), (.int y0)])) _
    refine X0.ldcInt hx hown (mvT hZ (hw _ (List.mem_of_getElem? (i := 8) rfl))) (g := (mkF m 206 #[.val (.int x0), .val (.int x1), .val (.int x2), .val (.ref o3), .unset, .unset, .unset] [(.int x2), (.int y0)])) rfl (hb hby at_206) _ ?_
    show Steps p.tables e below (T0.setTop (mkF m 208 #[.val (.int x0), .val (.int x1), .val (.int x2), .val (.ref o3), .unset, .unset, .unset] [(.int (2147483647 : Int32)), (.int x2), (.int y0)])) _
    refine XS.iand X0.here hx rfl (hb hby at_208) rfl ?_
    show Steps p.tables e below (T0.setTop (mkF m 209 #[.val (.int x0), .val (.int x1), .val (.int x2), .val (.ref o3), .unset, .unset, .unset] [(.int (x2 &&& (2147483647 : Int32))), (.int y0)])) _
    refine XS.iconst X0.here hx rfl (hb hby at_209) ?_
    show Steps p.tables e below (T0.setTop (mkF m 210 #[.val (.int x0), .val (.int x1), .val (.int x2), .val (.ref o3), .unset, .unset, .unset] [(.int (3 : Int32)), (.int (x2 &&& (2147483647 : Int32))), (.int y0)])) _
    refine iremM X0 hx rfl (hb hby at_210) rfl (by decide) ?_
    show Steps p.tables e below (T0.setTop (mkF m 211 #[.val (.int x0), .val (.int x1), .val (.int x2), .val (.ref o3), .unset, .unset, .unset] [(.int ((x2 &&& (2147483647 : Int32)) % (3 : Int32))), (.int y0)])) _
    refine XS.iadd X0.here hx rfl (hb hby at_211) rfl ?_
    show Steps p.tables e below (T0.setTop (mkF m 212 #[.val (.int x0), .val (.int x1), .val (.int x2), .val (.ref o3), .unset, .unset, .unset] [(.int (y0 + ((x2 &&& (2147483647 : Int32)) % (3 : Int32))))])) _
    refine XS.iconst X0.here hx rfl (hb hby at_212) ?_
    show Steps p.tables e below (T0.setTop (mkF m 213 #[.val (.int x0), .val (.int x1), .val (.int x2), .val (.ref o3), .unset, .unset, .unset] [(.int (1 : Int32)), (.int (y0 + ((x2 &&& (2147483647 : Int32)) % (3 : Int32))))])) _
    refine XS.isub X0.here hx rfl (hb hby at_213) rfl ?_
    show Steps p.tables e below (T0.setTop (mkF m 214 #[.val (.int x0), .val (.int x1), .val (.int x2), .val (.ref o3), .unset, .unset, .unset] [(.int ((y0 + ((x2 &&& (2147483647 : Int32)) % (3 : Int32))) - (1 : Int32)))])) _
    refine XS.istore X0.here hx rfl (hb hby at_214) rfl (l' := #[.val (.int x0), .val (.int x1), .val (.int x2), .val (.ref o3), .val (.int ((y0 + ((x2 &&& (2147483647 : Int32)) % (3 : Int32))) - (1 : Int32))), .unset, .unset]) rfl ?_
    show Steps p.tables e below (T0.setTop (mkF m 216 #[.val (.int x0), .val (.int x1), .val (.int x2), .val (.ref o3), .val (.int ((y0 + ((x2 &&& (2147483647 : Int32)) % (3 : Int32))) - (1 : Int32))), .unset, .unset] [])) _
    refine XS.iloadN X0.here hx rfl (hb hby at_216) rfl ?_
    show Steps p.tables e below (T0.setTop (mkF m 217 #[.val (.int x0), .val (.int x1), .val (.int x2), .val (.ref o3), .val (.int ((y0 + ((x2 &&& (2147483647 : Int32)) % (3 : Int32))) - (1 : Int32))), .unset, .unset] [(.int x0)])) _
    refine st217 _ ?_
    show Steps p.tables e below (T217.setTop (mkF m 220 #[.val (.int x0), .val (.int x1), .val (.int x2), .val (.ref o3), .val (.int ((y0 + ((x2 &&& (2147483647 : Int32)) % (3 : Int32))) - (1 : Int32))), .unset, .unset] [(.int (f1_0 x0))])) _
    refine XS.iloadN X217.here hx rfl (hb hby at_220) rfl ?_
    show Steps p.tables e below (T217.setTop (mkF m 221 #[.val (.int x0), .val (.int x1), .val (.int x2), .val (.ref o3), .val (.int ((y0 + ((x2 &&& (2147483647 : Int32)) % (3 : Int32))) - (1 : Int32))), .unset, .unset] [(.int x0), (.int (f1_0 x0))])) _
    refine st221 _ ?_
    exact kt
  refine own_Goes.pre pre1 ?_
  by_cases hc : (f1_0 x0) = (f2_0 x0)
  · rw [f0_205, if_pos hc] at hP
    refine own_Goes.pre (fun t kt => ?_) (b0_227 x0 x1 x2 o3 ((y0 + ((x2 &&& (2147483647 : Int32)) % (3 : Int32))) - (1 : Int32)) X221 hx hZ hw hby hml hown hret hlk e221 Z0 N221 hP)
    show Steps p.tables e below (T221.setTop (mkF m 224 #[.val (.int x0), .val (.int x1), .val (.int x2), .val (.ref o3), .val (.int ((y0 + ((x2 &&& (2147483647 : Int32)) % (3 : Int32))) - (1 : Int32))), .unset, .unset] [(.int (f2_0 x0)), (.int (f1_0 x0))])) _
    refine XS.icmpNo X221.here hx rfl (hb hby at_224) rfl (teq hc).2 ?_
    exact kt
  · rw [f0_205, if_neg hc] at hP
    refine own_Goes.pre (fun t kt => ?_) (b0_231 x0 x1 x2 o3 ((y0 + ((x2 &&& (2147483647 : Int32)) % (3 : Int32))) - (1 : Int32)) X221 hx hZ hw hby hml hown hret hlk e221 Z0 N221 hP)
    show Steps p.tables e below (T221.setTop (mkF m 224 #[.val (.int x0), .val (.int x1), .val (.int x2), .val (.ref o3), .val (.int ((y0 + ((x2 &&& (2147483647 : Int32)) % (3 : Int32))) - (1 : Int32))), .unset, .unset] [(.int (f2_0 x0)), (.int (f1_0 x0))])) _
    refine XS.icmpYes X221.here hx rfl (pc0 := 224) (pc' := 231) rfl (hb hby at_224) rfl (feq hc).2 (by decide) (by decide) ?_
    exact kt
theorem own_A {c K U : Int32} (h : c < U) (k : U ≤ K) : c < K := Int32.lt_of_lt_of_le h k
theorem own_B {c K L : Int32} (h : ¬ c < L) (k : K ≤ L) : ¬ c < K := fun q => h (Int32.lt_of_lt_of_le q k)
theorem own_C {c K L : Int32} (h : ¬ c < L) (k : K < L) : K < c := Int32.lt_of_lt_of_le k (Int32.not_lt.mp h)
theorem own_D {c K U : Int32} (h : c < U) (k : U.toInt ≤ K.toInt + 1) : ¬ K < c := by rw [Int32.lt_iff_toInt_lt] at *; omega
theorem own_E {c K U : Int32} (h1 : ¬ c < K) (h2 : c < U) (k : U.toInt = K.toInt + 1) : c = K := by rw [Int32.lt_iff_toInt_lt] at *; apply Int32.toInt_inj.mp; omega
theorem own_F {c K U : Int32} (h : c < U) (k : U ≤ K) : ¬ c = K := fun q => by subst q; exact absurd h (Int32.not_lt.mpr k)
theorem own_G {c K L : Int32} (h : ¬ c < L) (k : K < L) : ¬ c = K := fun q => by subst q; exact h k
theorem own_10 : ¬ (1 : Int32) = 0 := by decide
theorem own_i0 (c : Int32) (hu : c < (65 : Int32)) : f1_0 c = f2_0 c := by
  have a0 : ¬ c = (95 : Int32) := own_F hu (by decide)
  have a1 : ¬ c = (96 : Int32) := own_F hu (by decide)
  have a2 : ¬ c = (215 : Int32) := own_F hu (by decide)
  have a3 : ¬ c = (247 : Int32) := own_F hu (by decide)
  have a4 : ¬ c = (894 : Int32) := own_F hu (by decide)
  have a5 : ¬ (90 : Int32) < c := own_D hu (by decide)
  have a6 : ¬ (94 : Int32) < c := own_D hu (by decide)
  have a7 : ¬ (122 : Int32) < c := own_D hu (by decide)
  have a8 : ¬ (191 : Int32) < c := own_D hu (by decide)
  have a9 : ¬ (214 : Int32) < c := own_D hu (by decide)
  have a10 : ¬ (246 : Int32) < c := own_D hu (by decide)
  have a11 : ¬ (767 : Int32) < c := own_D hu (by decide)
  have a12 : ¬ (879 : Int32) < c := own_D hu (by decide)
  have a13 : ¬ (893 : Int32) < c := own_D hu (by decide)
  have a14 : ¬ (8191 : Int32) < c := own_D hu (by decide)
  have a15 : ¬ (8203 : Int32) < c := own_D hu (by decide)
  have a16 : ¬ (8205 : Int32) < c := own_D hu (by decide)
  have a17 : ¬ (8303 : Int32) < c := own_D hu (by decide)
  have a18 : ¬ (8591 : Int32) < c := own_D hu (by decide)
  have a19 : ¬ (11263 : Int32) < c := own_D hu (by decide)
  have a20 : ¬ (12271 : Int32) < c := own_D hu (by decide)
  have a21 : ¬ (12288 : Int32) < c := own_D hu (by decide)
  have a22 : ¬ (55295 : Int32) < c := own_D hu (by decide)
  have a23 : ¬ (63743 : Int32) < c := own_D hu (by decide)
  have a24 : ¬ (64975 : Int32) < c := own_D hu (by decide)
  have a25 : ¬ (65007 : Int32) < c := own_D hu (by decide)
  have a26 : ¬ (65533 : Int32) < c := own_D hu (by decide)
  have a27 : ¬ (65535 : Int32) < c := own_D hu (by decide)
  have a28 : ¬ (983039 : Int32) < c := own_D hu (by decide)
  have a29 : c < (65 : Int32) := own_A hu (by decide)
  have a30 : c < (91 : Int32) := own_A hu (by decide)
  have a31 : c < (97 : Int32) := own_A hu (by decide)
  have a32 : c < (123 : Int32) := own_A hu (by decide)
  have a33 : c < (192 : Int32) := own_A hu (by decide)
  have a34 : c < (216 : Int32) := own_A hu (by decide)
  have a35 : c < (248 : Int32) := own_A hu (by decide)
  have a36 : c < (768 : Int32) := own_A hu (by decide)
  have a37 : c < (880 : Int32) := own_A hu (by decide)
  have a38 : c < (895 : Int32) := own_A hu (by decide)
  have a39 : c < (8192 : Int32) := own_A hu (by decide)
  have a40 : c < (8204 : Int32) := own_A hu (by decide)
  have a41 : c < (8206 : Int32) := own_A hu (by decide)
  have a42 : c < (8304 : Int32) := own_A hu (by decide)
  have a43 : c < (8592 : Int32) := own_A hu (by decide)
  have a44 : c < (11264 : Int32) := own_A hu (by decide)
  have a45 : c < (12272 : Int32) := own_A hu (by decide)
  have a46 : c < (12289 : Int32) := own_A hu (by decide)
  have a47 : c < (55296 : Int32) := own_A hu (by decide)
  have a48 : c < (63744 : Int32) := own_A hu (by decide)
  have a49 : c < (64976 : Int32) := own_A hu (by decide)
  have a50 : c < (65008 : Int32) := own_A hu (by decide)
  have a51 : c < (65534 : Int32) := own_A hu (by decide)
  have a52 : c < (65536 : Int32) := own_A hu (by decide)
  simp only [f1_191, f1_195, f1_185, f1_179, f1_173, f1_167, f1_161, f1_155, f1_149, f1_142, f1_135, f1_128, f1_121, f1_114, f1_107, f1_100, f1_93, f1_86, f1_79, f1_72, f1_65, f1_58, f1_51, f1_44, f1_37, f1_30, f1_24, f1_18, f1_12, f1_6, f1_0, f2_12, f2_65, f2_198, f2_196, f2_190, f2_184, f2_182, f2_176, f2_170, f2_168, f2_162, f2_156, f2_154, f2_147, f2_140, f2_138, f2_131, f2_124, f2_122, f2_115, f2_108, f2_106, f2_99, f2_92, f2_90, f2_83, f2_81, f2_74, f2_67, f2_58, f2_51, f2_49, f2_42, f2_36, f2_34, f2_28, f2_26, f2_20, f2_14, f2_6, f2_0, a0, a1, a2, a3, a4, a5, a6, a7, a8, a9, a10, a11, a12, a13, a14, a15, a16, a17, a18, a19, a20, a21, a22, a23, a24, a25, a26, a27, a28, a29, a30, a31, a32, a33, a34, a35, a36, a37, a38, a39, a40, a41, a42, a43, a44, a45, a46, a47, a48, a49, a50, a51, a52, own_10, ↓reduceIte]
theorem own_i1 (c : Int32) (hl : ¬ c < (65 : Int32)) (hu : c < (91 : Int32)) : f1_0 c = f2_0 c := by
  have a0 : ¬ c = (95 : Int32) := own_F hu (by decide)
  have a1 : ¬ c = (96 : Int32) := own_F hu (by decide)
  have a2 : ¬ c = (215 : Int32) := own_F hu (by decide)
  have a3 : ¬ c = (247 : Int32) := own_F hu (by decide)
  have a4 : ¬ c = (894 : Int32) := own_F hu (by decide)
  have a5 : ¬ (90 : Int32) < c := own_D hu (by decide)
  have a6 : ¬ (94 : Int32) < c := own_D hu (by decide)
  have a7 : ¬ (122 : Int32) < c := own_D hu (by decide)
  have a8 : ¬ (191 : Int32) < c := own_D hu (by decide)
  have a9 : ¬ (214 : Int32) < c := own_D hu (by decide)
  have a10 : ¬ (246 : Int32) < c := own_D hu (by decide)
  have a11 : ¬ (767 : Int32) < c := own_D hu (by decide)
  have a12 : ¬ (879 : Int32) < c := own_D hu (by decide)
  have a13 : ¬ (893 : Int32) < c := own_D hu (by decide)
  have a14 : ¬ (8191 : Int32) < c := own_D hu (by decide)
  have a15 : ¬ (8203 : Int32) < c := own_D hu (by decide)
  have a16 : ¬ (8205 : Int32) < c := own_D hu (by decide)
  have a17 : ¬ (8303 : Int32) < c := own_D hu (by decide)
  have a18 : ¬ (8591 : Int32) < c := own_D hu (by decide)
  have a19 : ¬ (11263 : Int32) < c := own_D hu (by decide)
  have a20 : ¬ (12271 : Int32) < c := own_D hu (by decide)
  have a21 : ¬ (12288 : Int32) < c := own_D hu (by decide)
  have a22 : ¬ (55295 : Int32) < c := own_D hu (by decide)
  have a23 : ¬ (63743 : Int32) < c := own_D hu (by decide)
  have a24 : ¬ (64975 : Int32) < c := own_D hu (by decide)
  have a25 : ¬ (65007 : Int32) < c := own_D hu (by decide)
  have a26 : ¬ (65533 : Int32) < c := own_D hu (by decide)
  have a27 : ¬ (65535 : Int32) < c := own_D hu (by decide)
  have a28 : ¬ (983039 : Int32) < c := own_D hu (by decide)
  have a29 : ¬ c < (65 : Int32) := own_B hl (by decide)
  have a30 : c < (91 : Int32) := own_A hu (by decide)
  have a31 : c < (97 : Int32) := own_A hu (by decide)
  have a32 : c < (123 : Int32) := own_A hu (by decide)
  have a33 : c < (192 : Int32) := own_A hu (by decide)
  have a34 : c < (216 : Int32) := own_A hu (by decide)
  have a35 : c < (248 : Int32) := own_A hu (by decide)
  have a36 : c < (768 : Int32) := own_A hu (by decide)
  have a37 : c < (880 : Int32) := own_A hu (by decide)
  have a38 : c < (895 : Int32) := own_A hu (by decide)
  have a39 : c < (8192 : Int32) := own_A hu (by decide)
  have a40 : c < (8204 : Int32) := own_A hu (by decide)
  have a41 : c < (8206 : Int32) := own_A hu (by decide)
  have a42 : c < (8304 : Int32) := own_A hu (by decide)
  have a43 : c < (8592 : Int32) := own_A hu (by decide)
  have a44 : c < (11264 : Int32) := own_A hu (by decide)
  have a45 : c < (12272 : Int32) := own_A hu (by decide)
  have a46 : c < (12289 : Int32) := own_A hu (by decide)
  have a47 : c < (55296 : Int32) := own_A hu (by decide)
  have a48 : c < (63744 : Int32) := own_A hu (by decide)
  have a49 : c < (64976 : Int32) := own_A hu (by decide)
  have a50 : c < (65008 : Int32) := own_A hu (by decide)
  have a51 : c < (65534 : Int32) := own_A hu (by decide)
  have a52 : c < (65536 : Int32) := own_A hu (by decide)
  simp only [f1_191, f1_195, f1_185, f1_179, f1_173, f1_167, f1_161, f1_155, f1_149, f1_142, f1_135, f1_128, f1_121, f1_114, f1_107, f1_100, f1_93, f1_86, f1_79, f1_72, f1_65, f1_58, f1_51, f1_44, f1_37, f1_30, f1_24, f1_18, f1_12, f1_6, f1_0, f2_12, f2_65, f2_198, f2_196, f2_190, f2_184, f2_182, f2_176, f2_170, f2_168, f2_162, f2_156, f2_154, f2_147, f2_140, f2_138, f2_131, f2_124, f2_122, f2_115, f2_108, f2_106, f2_99, f2_92, f2_90, f2_83, f2_81, f2_74, f2_67, f2_58, f2_51, f2_49, f2_42, f2_36, f2_34, f2_28, f2_26, f2_20, f2_14, f2_6, f2_0, a0, a1, a2, a3, a4, a5, a6, a7, a8, a9, a10, a11, a12, a13, a14, a15, a16, a17, a18, a19, a20, a21, a22, a23, a24, a25, a26, a27, a28, a29, a30, a31, a32, a33, a34, a35, a36, a37, a38, a39, a40, a41, a42, a43, a44, a45, a46, a47, a48, a49, a50, a51, a52, own_10, ↓reduceIte]
theorem own_i2 (c : Int32) (hl : ¬ c < (91 : Int32)) (hu : c < (95 : Int32)) : f1_0 c = f2_0 c := by
  have a0 : ¬ c = (95 : Int32) := own_F hu (by decide)
  have a1 : ¬ c = (96 : Int32) := own_F hu (by decide)
  have a2 : ¬ c = (215 : Int32) := own_F hu (by decide)
  have a3 : ¬ c = (247 : Int32) := own_F hu (by decide)
  have a4 : ¬ c = (894 : Int32) := own_F hu (by decide)
  have a5 : (90 : Int32) < c := own_C hl (by decide)
  have a6 : ¬ (94 : Int32) < c := own_D hu (by decide)
  have a7 : ¬ (122 : Int32) < c := own_D hu (by decide)
  have a8 : ¬ (191 : Int32) < c := own_D hu (by decide)
  have a9 : ¬ (214 : Int32) < c := own_D hu (by decide)
  have a10 : ¬ (246 : Int32) < c := own_D hu (by decide)
  have a11 : ¬ (767 : Int32) < c := own_D hu (by decide)
  have a12 : ¬ (879 : Int32) < c := own_D hu (by decide)
  have a13 : ¬ (893 : Int32) < c := own_D hu (by decide)
  have a14 : ¬ (8191 : Int32) < c := own_D hu (by decide)
  have a15 : ¬ (8203 : Int32) < c := own_D hu (by decide)
  have a16 : ¬ (8205 : Int32) < c := own_D hu (by decide)
  have a17 : ¬ (8303 : Int32) < c := own_D hu (by decide)
  have a18 : ¬ (8591 : Int32) < c := own_D hu (by decide)
  have a19 : ¬ (11263 : Int32) < c := own_D hu (by decide)
  have a20 : ¬ (12271 : Int32) < c := own_D hu (by decide)
  have a21 : ¬ (12288 : Int32) < c := own_D hu (by decide)
  have a22 : ¬ (55295 : Int32) < c := own_D hu (by decide)
  have a23 : ¬ (63743 : Int32) < c := own_D hu (by decide)
  have a24 : ¬ (64975 : Int32) < c := own_D hu (by decide)
  have a25 : ¬ (65007 : Int32) < c := own_D hu (by decide)
  have a26 : ¬ (65533 : Int32) < c := own_D hu (by decide)
  have a27 : ¬ (65535 : Int32) < c := own_D hu (by decide)
  have a28 : ¬ (983039 : Int32) < c := own_D hu (by decide)
  have a29 : ¬ c < (65 : Int32) := own_B hl (by decide)
  have a30 : ¬ c < (91 : Int32) := own_B hl (by decide)
  have a31 : c < (97 : Int32) := own_A hu (by decide)
  have a32 : c < (123 : Int32) := own_A hu (by decide)
  have a33 : c < (192 : Int32) := own_A hu (by decide)
  have a34 : c < (216 : Int32) := own_A hu (by decide)
  have a35 : c < (248 : Int32) := own_A hu (by decide)
  have a36 : c < (768 : Int32) := own_A hu (by decide)
  have a37 : c < (880 : Int32) := own_A hu (by decide)
  have a38 : c < (895 : Int32) := own_A hu (by decide)
  have a39 : c < (8192 : Int32) := own_A hu (by decide)
  have a40 : c < (8204 : Int32) := own_A hu (by decide)
  have a41 : c < (8206 : Int32) := own_A hu (by decide)
  have a42 : c < (8304 : Int32) := own_A hu (by decide)
  have a43 : c < (8592 : Int32) := own_A hu (by decide)
  have a44 : c < (11264 : Int32) := own_A hu (by decide)
  have a45 : c < (12272 : Int32) := own_A hu (by decide)
  have a46 : c < (12289 : Int32) := own_A hu (by decide)
  have a47 : c < (55296 : Int32) := own_A hu (by decide)
  have a48 : c < (63744 : Int32) := own_A hu (by decide)
  have a49 : c < (64976 : Int32) := own_A hu (by decide)
  have a50 : c < (65008 : Int32) := own_A hu (by decide)
  have a51 : c < (65534 : Int32) := own_A hu (by decide)
  have a52 : c < (65536 : Int32) := own_A hu (by decide)
  simp only [f1_191, f1_195, f1_185, f1_179, f1_173, f1_167, f1_161, f1_155, f1_149, f1_142, f1_135, f1_128, f1_121, f1_114, f1_107, f1_100, f1_93, f1_86, f1_79, f1_72, f1_65, f1_58, f1_51, f1_44, f1_37, f1_30, f1_24, f1_18, f1_12, f1_6, f1_0, f2_12, f2_65, f2_198, f2_196, f2_190, f2_184, f2_182, f2_176, f2_170, f2_168, f2_162, f2_156, f2_154, f2_147, f2_140, f2_138, f2_131, f2_124, f2_122, f2_115, f2_108, f2_106, f2_99, f2_92, f2_90, f2_83, f2_81, f2_74, f2_67, f2_58, f2_51, f2_49, f2_42, f2_36, f2_34, f2_28, f2_26, f2_20, f2_14, f2_6, f2_0, a0, a1, a2, a3, a4, a5, a6, a7, a8, a9, a10, a11, a12, a13, a14, a15, a16, a17, a18, a19, a20, a21, a22, a23, a24, a25, a26, a27, a28, a29, a30, a31, a32, a33, a34, a35, a36, a37, a38, a39, a40, a41, a42, a43, a44, a45, a46, a47, a48, a49, a50, a51, a52, own_10, ↓reduceIte]
theorem own_i3 (c : Int32) (hl : ¬ c < (95 : Int32)) (hu : c < (96 : Int32)) : f1_0 c = f2_0 c := by
  obtain rfl : c = (95 : Int32) := own_E hl hu (by decide)
  decide +kernel
theorem own_i4 (c : Int32) (hl : ¬ c < (96 : Int32)) (hu : c < (97 : Int32)) : f1_0 c = f2_0 c := by
  obtain rfl : c = (96 : Int32) := own_E hl hu (by decide)
  decide +kernel
theorem own_i5 (c : Int32) (hl : ¬ c < (97 : Int32)) (hu : c < (123 : Int32)) : f1_0 c = f2_0 c := by
  have a0 : ¬ c = (95 : Int32) := own_G hl (by decide)
  have a1 : ¬ c = (96 : Int32) := own_G hl (by decide)
  have a2 : ¬ c = (215 : Int32) := own_F hu (by decide)
  have a3 : ¬ c = (247 : Int32) := own_F hu (by decide)
  have a4 : ¬ c = (894 : Int32) := own_F hu (by decide)
  have a5 : (90 : Int32) < c := own_C hl (by decide)
  have a6 : (94 : Int32) < c := own_C hl (by decide)
  have a7 : ¬ (122 : Int32) < c := own_D hu (by decide)
  have a8 : ¬ (191 : Int32) < c := own_D hu (by decide)
  have a9 : ¬ (214 : Int32) < c := own_D hu (by decide)
  have a10 : ¬ (246 : Int32) < c := own_D hu (by decide)
  have a11 : ¬ (767 : Int32) < c := own_D hu (by decide)
  have a12 : ¬ (879 : Int32) < c := own_D hu (by decide)
  have a13 : ¬ (893 : Int32) < c := own_D hu (by decide)
  have a14 : ¬ (8191 : Int32) < c := own_D hu (by decide)
  have a15 : ¬ (8203 : Int32) < c := own_D hu (by decide)
  have a16 : ¬ (8205 : Int32) < c := own_D hu (by decide)
  have a17 : ¬ (8303 : Int32) < c := own_D hu (by decide)
  have a18 : ¬ (8591 : Int32) < c := own_D hu (by decide)
  have a19 : ¬ (11263 : Int32) < c := own_D hu (by decide)
  have a20 : ¬ (12271 : Int32) < c := own_D hu (by decide)
  have a21 : ¬ (12288 : Int32) < c := own_D hu (by decide)
  have a22 : ¬ (55295 : Int32) < c := own_D hu (by decide)
  have a23 : ¬ (63743 : Int32) < c := own_D hu (by decide)
  have a24 : ¬ (64975 : Int32) < c := own_D hu (by decide)
  have a25 : ¬ (65007 : Int32) < c := own_D hu (by decide)
  have a26 : ¬ (65533 : Int32) < c := own_D hu (by decide)
  have a27 : ¬ (65535 : Int32) < c := own_D hu (by decide)
  have a28 : ¬ (983039 : Int32) < c := own_D hu (by decide)
  have a29 : ¬ c < (65 : Int32) := own_B hl (by decide)
  have a30 : ¬ c < (91 : Int32) := own_B hl (by decide)
  have a31 : ¬ c < (97 : Int32) := own_B hl (by decide)
  have a32 : c < (123 : Int32) := own_A hu (by decide)
  have a33 : c < (192 : Int32) := own_A hu (by decide)
  have a34 : c < (216 : Int32) := own_A hu (by decide)
  have a35 : c < (248 : Int32) := own_A hu (by decide)
  have a36 : c < (768 : Int32) := own_A hu (by decide)
  have a37 : c < (880 : Int32) := own_A hu (by decide)
  have a38 : c < (895 : Int32) := own_A hu (by decide)
  have a39 : c < (8192 : Int32) := own_A hu (by decide)
  have a40 : c < (8204 : Int32) := own_A hu (by decide)
  have a41 : c < (8206 : Int32) := own_A hu (by decide)
  have a42 : c < (8304 : Int32) := own_A hu (by decide)
  have a43 : c < (8592 : Int32) := own_A hu (by decide)
  have a44 : c < (11264 : Int32) := own_A hu (by decide)
  have a45 : c < (12272 : Int32) := own_A hu (by decide)
  have a46 : c < (12289 : Int32) := own_A hu (by decide)
  have a47 : c < (55296 : Int32) := own_A hu (by decide)
  have a48 : c < (63744 : Int32) := own_A hu (by decide)
  have a49 : c < (64976 : Int32) := own_A hu (by decide)
  have a50 : c < (65008 : Int32) := own_A hu (by decide)
  have a51 : c < (65534 : Int32) := own_A hu (by decide)
  have a52 : c < (65536 : Int32) := own_A hu (by decide)
  simp only [f1_191, f1_195, f1_185, f1_179, f1_173, f1_167, f1_161, f1_155, f1_149, f1_142, f1_135, f1_128, f1_121, f1_114, f1_107, f1_100, f1_93, f1_86, f1_79, f1_72, f1_65, f1_58, f1_51, f1_44, f1_37, f1_30, f1_24, f1_18, f1_12, f1_6, f1_0, f2_12, f2_65, f2_198, f2_196, f2_190, f2_184, f2_182, f2_176, f2_170, f2_168, f2_162, f2_156, f2_154, f2_147, f2_140, f2_138, f2_131, f2_124, f2_122, f2_115, f2_108, f2_106, f2_99, f2_92, f2_90, f2_83, f2_81, f2_74, f2_67, f2_58, f2_51, f2_49, f2_42, f2_36, f2_34, f2_28, f2_26, f2_20, f2_14, f2_6, f2_0, a0, a1, a2, a3, a4, a5, a6, a7, a8, a9, a10, a11, a12, a13, a14, a15, a16, a17, a18, a19, a20, a21, a22, a23, a24, a25, a26, a27, a28, a29, a30, a31, a32, a33, a34, a35, a36, a37, a38, a39, a40, a41, a42, a43, a44, a45, a46, a47, a48, a49, a50, a51, a52, own_10, ↓reduceIte]
theorem own_i6 (c : Int32) (hl : ¬ c < (123 : Int32)) (hu : c < (192 : Int32)) : f1_0 c = f2_0 c := by
  have a0 : ¬ c = (95 : Int32) := own_G hl (by decide)
  have a1 : ¬ c = (96 : Int32) := own_G hl (by decide)
  have a2 : ¬ c = (215 : Int32) := own_F hu (by decide)
  have a3 : ¬ c = (247 : Int32) := own_F hu (by decide)
  have a4 : ¬ c = (894 : Int32) := own_F hu (by decide)
  have a5 : (90 : Int32) < c := own_C hl (by decide)
  have a6 : (94 : Int32) < c := own_C hl (by decide)
  have a7 : (122 : Int32) < c := own_C hl (by decide)
  have a8 : ¬ (191 : Int32) < c := own_D hu (by decide)
  have a9 : ¬ (214 : Int32) < c := own_D hu (by decide)
  have a10 : ¬ (246 : Int32) < c := own_D hu (by decide)
  have a11 : ¬ (767 : Int32) < c := own_D hu (by decide)
  have a12 : ¬ (879 : Int32) < c := own_D hu (by decide)
  have a13 : ¬ (893 : Int32) < c := own_D hu (by decide)
  have a14 : ¬ (8191 : Int32) < c := own_D hu (by decide)
  have a15 : ¬ (8203 : Int32) < c := own_D hu (by decide)
  have a16 : ¬ (8205 : Int32) < c := own_D hu (by decide)
  have a17 : ¬ (8303 : Int32) < c := own_D hu (by decide)
  have a18 : ¬ (8591 : Int32) < c := own_D hu (by decide)
  have a19 : ¬ (11263 : Int32) < c := own_D hu (by decide)
  have a20 : ¬ (12271 : Int32) < c := own_D hu (by decide)
  have a21 : ¬ (12288 : Int32) < c := own_D hu (by decide)
  have a22 : ¬ (55295 : Int32) < c := own_D hu (by decide)
  have a23 : ¬ (63743 : Int32) < c := own_D hu (by decide)
  have a24 : ¬ (64975 : Int32) < c := own_D hu (by decide)
  have a25 : ¬ (65007 : Int32) < c := own_D hu (by decide)
  have a26 : ¬ (65533 : Int32) < c := own_D hu (by decide)
  have a27 : ¬ (65535 : Int32) < c := own_D hu (by decide)
  have a28 : ¬ (983039 : Int32) < c := own_D hu (by decide)
  have a29 : ¬ c < (65 : Int32) := own_B hl (by decide)
  have a30 : ¬ c < (91 : Int32) := own_B hl (by decide)
  have a31 : ¬ c < (97 : Int32) := own_B hl (by decide)
  have a32 : ¬ c < (123 : Int32) := own_B hl (by decide)
  have a33 : c < (192 : Int32) := own_A hu (by decide)
  have a34 : c < (216 : Int32) := own_A hu (by decide)
  have a35 : c < (248 : Int32) := own_A hu (by decide)
  have a36 : c < (768 : Int32) := own_A hu (by decide)
  have a37 : c < (880 : Int32) := own_A hu (by decide)
  have a38 : c < (895 : Int32) := own_A hu (by decide)
  have a39 : c < (8192 : Int32) := own_A hu (by decide)
  have a40 : c < (8204 : Int32) := own_A hu (by decide)
  have a41 : c < (8206 : Int32) := own_A hu (by decide)
  have a42 : c < (8304 : Int32) := own_A hu (by decide)
  have a43 : c < (8592 : Int32) := own_A hu (by decide)
  have a44 : c < (11264 : Int32) := own_A hu (by decide)
  have a45 : c < (12272 : Int32) := own_A hu (by decide)
  have a46 : c < (12289 : Int32) := own_A hu (by decide)
  have a47 : c < (55296 : Int32) := own_A hu (by decide)
  have a48 : c < (63744 : Int32) := own_A hu (by decide)
  have a49 : c < (64976 : Int32) := own_A hu (by decide)
  have a50 : c < (65008 : Int32) := own_A hu (by decide)
  have a51 : c < (65534 : Int32) := own_A hu (by decide)
  have a52 : c < (65536 : Int32) := own_A hu (by decide)
  simp only [f1_191, f1_195, f1_185, f1_179, f1_173, f1_167, f1_161, f1_155, f1_149, f1_142, f1_135, f1_128, f1_121, f1_114, f1_107, f1_100, f1_93, f1_86, f1_79, f1_72, f1_65, f1_58, f1_51, f1_44, f1_37, f1_30, f1_24, f1_18, f1_12, f1_6, f1_0, f2_12, f2_65, f2_198, f2_196, f2_190, f2_184, f2_182, f2_176, f2_170, f2_168, f2_162, f2_156, f2_154, f2_147, f2_140, f2_138, f2_131, f2_124, f2_122, f2_115, f2_108, f2_106, f2_99, f2_92, f2_90, f2_83, f2_81, f2_74, f2_67, f2_58, f2_51, f2_49, f2_42, f2_36, f2_34, f2_28, f2_26, f2_20, f2_14, f2_6, f2_0, a0, a1, a2, a3, a4, a5, a6, a7, a8, a9, a10, a11, a12, a13, a14, a15, a16, a17, a18, a19, a20, a21, a22, a23, a24, a25, a26, a27, a28, a29, a30, a31, a32, a33, a34, a35, a36, a37, a38, a39, a40, a41, a42, a43, a44, a45, a46, a47, a48, a49, a50, a51, a52, own_10, ↓reduceIte]
theorem own_i7 (c : Int32) (hl : ¬ c < (192 : Int32)) (hu : c < (215 : Int32)) : f1_0 c = f2_0 c := by
  have a0 : ¬ c = (95 : Int32) := own_G hl (by decide)
  have a1 : ¬ c = (96 : Int32) := own_G hl (by decide)
  have a2 : ¬ c = (215 : Int32) := own_F hu (by decide)
  have a3 : ¬ c = (247 : Int32) := own_F hu (by decide)
  have a4 : ¬ c = (894 : Int32) := own_F hu (by decide)
  have a5 : (90 : Int32) < c := own_C hl (by decide)
  have a6 : (94 : Int32) < c := own_C hl (by decide)
  have a7 : (122 : Int32) < c := own_C hl (by decide)
  have a8 : (191 : Int32) < c := own_C hl (by decide)
  have a9 : ¬ (214 : Int32) < c := own_D hu (by decide)
  have a10 : ¬ (246 : Int32) < c := own_D hu (by decide)
  have a11 : ¬ (767 : Int32) < c := own_D hu (by decide)
  have a12 : ¬ (879 : Int32) < c := own_D hu (by decide)
  have a13 : ¬ (893 : Int32) < c := own_D hu (by decide)
  have a14 : ¬ (8191 : Int32) < c := own_D hu (by decide)
  have a15 : ¬ (8203 : Int32) < c := own_D hu (by decide)
  have a16 : ¬ (8205 : Int32) < c := own_D hu (by decide)
  have a17 : ¬ (8303 : Int32) < c := own_D hu (by decide)
  have a18 : ¬ (8591 : Int32) < c := own_D hu (by decide)
  have a19 : ¬ (11263 : Int32) < c := own_D hu (by decide)
  have a20 : ¬ (12271 : Int32) < c := own_D hu (by decide)
  have a21 : ¬ (12288 : Int32) < c := own_D hu (by decide)
  have a22 : ¬ (55295 : Int32) < c := own_D hu (by decide)
  have a23 : ¬ (63743 : Int32) < c := own_D hu (by decide)
  have a24 : ¬ (64975 : Int32) < c := own_D hu (by decide)
  have a25 : ¬ (65007 : Int32) < c := own_D hu (by decide)
  have a26 : ¬ (65533 : Int32) < c := own_D hu (by decide)
  have a27 : ¬ (65535 : Int32) < c := own_D hu (by decide)
  have a28 : ¬ (983039 : Int32) < c := own_D hu (by decide)
  have a29 : ¬ c < (65 : Int32) := own_B hl (by decide)
  have a30 : ¬ c < (91 : Int32) := own_B hl (by decide)
  have a31 : ¬ c < (97 : Int32) := own_B hl (by decide)
  have a32 : ¬ c < (123 : Int32) := own_B hl (by decide)
  have a33 : ¬ c < (192 : Int32) := own_B hl (by decide)
  have a34 : c < (216 : Int32) := own_A hu (by decide)
  have a35 : c < (248 : Int32) := own_A hu (by decide)
  have a36 : c < (768 : Int32) := own_A hu (by decide)
  have a37 : c < (880 : Int32) := own_A hu (by decide)
  have a38 : c < (895 : Int32) := own_A hu (by decide)
  have a39 : c < (8192 : Int32) := own_A hu (by decide)
  have a40 : c < (8204 : Int32) := own_A hu (by decide)
  have a41 : c < (8206 : Int32) := own_A hu (by decide)
  have a42 : c < (8304 : Int32) := own_A hu (by decide)
  have a43 : c < (8592 : Int32) := own_A hu (by decide)
  have a44 : c < (11264 : Int32) := own_A hu (by decide)
  have a45 : c < (12272 : Int32) := own_A hu (by decide)
  have a46 : c < (12289 : Int32) := own_A hu (by decide)
  have a47 : c < (55296 : Int32) := own_A hu (by decide)
  have a48 : c < (63744 : Int32) := own_A hu (by decide)
  have a49 : c < (64976 : Int32) := own_A hu (by decide)
  have a50 : c < (65008 : Int32) := own_A hu (by decide)
  have a51 : c < (65534 : Int32) := own_A hu (by decide)
  have a52 : c < (65536 : Int32) := own_A hu (by decide)
  simp only [f1_191, f1_195, f1_185, f1_179, f1_173, f1_167, f1_161, f1_155, f1_149, f1_142, f1_135, f1_128, f1_121, f1_114, f1_107, f1_100, f1_93, f1_86, f1_79, f1_72, f1_65, f1_58, f1_51, f1_44, f1_37, f1_30, f1_24, f1_18, f1_12, f1_6, f1_0, f2_12, f2_65, f2_198, f2_196, f2_190, f2_184, f2_182, f2_176, f2_170, f2_168, f2_162, f2_156, f2_154, f2_147, f2_140, f2_138, f2_131, f2_124, f2_122, f2_115, f2_108, f2_106, f2_99, f2_92, f2_90, f2_83, f2_81, f2_74, f2_67, f2_58, f2_51, f2_49, f2_42, f2_36, f2_34, f2_28, f2_26, f2_20, f2_14, f2_6, f2_0, a0, a1, a2, a3, a4, a5, a6, a7, a8, a9, a10, a11, a12, a13, a14, a15, a16, a17, a18, a19, a20, a21, a22, a23, a24, a25, a26, a27, a28, a29, a30, a31, a32, a33, a34, a35, a36, a37, a38, a39, a40, a41, a42, a43, a44, a45, a46, a47, a48, a49, a50, a51, a52, own_10, ↓reduceIte]
theorem own_i8 (c : Int32) (hl : ¬ c < (215 : Int32)) (hu : c < (216 : Int32)) : f1_0 c = f2_0 c := by
  obtain rfl : c = (215 : Int32) := own_E hl hu (by decide)
  decide +kernel
theorem own_i9 (c : Int32) (hl : ¬ c < (216 : Int32)) (hu : c < (247 : Int32)) : f1_0 c = f2_0 c := by
  have a0 : ¬ c = (95 : Int32) := own_G hl (by decide)
  have a1 : ¬ c = (96 : Int32) := own_G hl (by decide)
  have a2 : ¬ c = (215 : Int32) := own_G hl (by decide)
  have a3 : ¬ c = (247 : Int32) := own_F hu (by decide)
  have a4 : ¬ c = (894 : Int32) := own_F hu (by decide)
  have a5 : (90 : Int32) < c := own_C hl (by decide)
  have a6 : (94 : Int32) < c := own_C hl (by decide)
  have a7 : (122 : Int32) < c := own_C hl (by decide)
  have a8 : (191 : Int32) < c := own_C hl (by decide)
  have a9 : (214 : Int32) < c := own_C hl (by decide)
  have a10 : ¬ (246 : Int32) < c := own_D hu (by decide)
  have a11 : ¬ (767 : Int32) < c := own_D hu (by decide)
  have a12 : ¬ (879 : Int32) < c := own_D hu (by decide)
  have a13 : ¬ (893 : Int32) < c := own_D hu (by decide)
  have a14 : ¬ (8191 : Int32) < c := own_D hu (by decide)
  have a15 : ¬ (8203 : Int32) < c := own_D hu (by decide)
  have a16 : ¬ (8205 : Int32) < c := own_D hu (by decide)
  have a17 : ¬ (8303 : Int32) < c := own_D hu (by decide)
  have a18 : ¬ (8591 : Int32) < c := own_D hu (by decide)
  have a19 : ¬ (11263 : Int32) < c := own_D hu (by decide)
  have a20 : ¬ (12271 : Int32) < c := own_D hu (by decide)
  have a21 : ¬ (12288 : Int32) < c := own_D hu (by decide)
  have a22 : ¬ (55295 : Int32) < c := own_D hu (by decide)
  have a23 : ¬ (63743 : Int32) < c := own_D hu (by decide)
  have a24 : ¬ (64975 : Int32) < c := own_D hu (by decide)
  have a25 : ¬ (65007 : Int32) < c := own_D hu (by decide)
  have a26 : ¬ (65533 : Int32) < c := own_D hu (by decide)
  have a27 : ¬ (65535 : Int32) < c := own_D hu (by decide)
  have a28 : ¬ (983039 : Int32) < c := own_D hu (by decide)
  have a29 : ¬ c < (65 : Int32) := own_B hl (by decide)
  have a30 : ¬ c < (91 : Int32) := own_B hl (by decide)
  have a31 : ¬ c < (97 : Int32) := own_B hl (by decide)
  have a32 : ¬ c < (123 : Int32) := own_B hl (by decide)
  have a33 : ¬ c < (192 : Int32) := own_B hl (by decide)
  have a34 : ¬ c < (216 : Int32) := own_B hl (by decide)
  have a35 : c < (248 : Int32) := own_A hu (by decide)
  have a36 : c < (768 : Int32) := own_A hu (by decide)
  have a37 : c < (880 : Int32) := own_A hu (by decide)
  have a38 : c < (895 : Int32) := own_A hu (by decide)
  have a39 : c < (8192 : Int32) := own_A hu (by decide)
  have a40 : c < (8204 : Int32) := own_A hu (by decide)
  have a41 : c < (8206 : Int32) := own_A hu (by decide)
  have a42 : c < (8304 : Int32) := own_A hu (by decide)
  have a43 : c < (8592 : Int32) := own_A hu (by decide)
  have a44 : c < (11264 : Int32) := own_A hu (by decide)
  have a45 : c < (12272 : Int32) := own_A hu (by decide)
  have a46 : c < (12289 : Int32) := own_A hu (by decide)
  have a47 : c < (55296 : Int32) := own_A hu (by decide)
  have a48 : c < (63744 : Int32) := own_A hu (by decide)
  have a49 : c < (64976 : Int32) := own_A hu (by decide)
  have a50 : c < (65008 : Int32) := own_A hu (by decide)
  have a51 : c < (65534 : Int32) := own_A hu (by decide)
  have a52 : c < (65536 : Int32) := own_A hu (by decide)
  simp only [f1_191, f1_195, f1_185, f1_179, f1_173, f1_167, f1_161, f1_155, f1_149, f1_142, f1_135, f1_128, f1_121, f1_114, f1_107, f1_100, f1_93, f1_86, f1_79, f1_72, f1_65, f1_58, f1_51, f1_44, f1_37, f1_30, f1_24, f1_18, f1_12, f1_6, f1_0, f2_12, f2_65, f2_198, f2_196, f2_190, f2_184, f2_182, f2_176, f2_170, f2_168, f2_162, f2_156, f2_154, f2_147, f2_140, f2_138, f2_131, f2_124, f2_122, f2_115, f2_108, f2_106, f2_99, f2_92, f2_90, f2_83, f2_81, f2_74, f2_67, f2_58, f2_51, f2_49, f2_42, f2_36, f2_34, f2_28, f2_26, f2_20, f2_14, f2_6, f2_0, a0, a1, a2, a3, a4, a5, a6, a7, a8, a9, a10, a11, a12, a13, a14, a15, a16, a17, a18, a19, a20, a21, a22, a23, a24, a25, a26, a27, a28, a29, a30, a31, a32, a33, a34, a35, a36, a37, a38, a39, a40, a41, a42, a43, a44, a45, a46, a47, a48, a49, a50, a51, a52, own_10, ↓reduceIte]
theorem own_i10 (c : Int32) (hl : ¬ c < (247 : Int32)) (hu : c < (248 : Int32)) : f1_0 c = f2_0 c := by
  obtain rfl : c = (247 : Int32) := own_E hl hu (by decide)
  decide +kernel
theorem own_i11 (c : Int32) (hl : ¬ c < (248 : Int32)) (hu : c < (768 : Int32)) : f1_0 c = f2_0 c := by
  have a0 : ¬ c = (95 : Int32) := own_G hl (by decide)
  have a1 : ¬ c = (96 : Int32) := own_G hl (by decide)
  have a2 : ¬ c = (215 : Int32) := own_G hl (by decide)
  have a3 : ¬ c = (247 : Int32) := own_G hl (by decide)
  have a4 : ¬ c = (894 : Int32) := own_F hu (by decide)
  have a5 : (90 : Int32) < c := own_C hl (by decide)
  have a6 : (94 : Int32) < c := own_C hl (by decide)
  have a7 : (122 : Int32) < c := own_C hl (by decide)
  have a8 : (191 : Int32) < c := own_C hl (by decide)
  have a9 : (214 : Int32) < c := own_C hl (by decide)
  have a10 : (246 : Int32) < c := own_C hl (by decide)
  have a11 : ¬ (767 : Int32) < c := own_D hu (by decide)
  have a12 : ¬ (879 : Int32) < c := own_D hu (by decide)
  have a13 : ¬ (893 : Int32) < c := own_D hu (by decide)
  have a14 : ¬ (8191 : Int32) < c := own_D hu (by decide)
  have a15 : ¬ (8203 : Int32) < c := own_D hu (by decide)
  have a16 : ¬ (8205 : Int32) < c := own_D hu (by decide)
  have a17 : ¬ (8303 : Int32) < c := own_D hu (by decide)
  have a18 : ¬ (8591 : Int32) < c := own_D hu (by decide)
  have a19 : ¬ (11263 : Int32) < c := own_D hu (by decide)
  have a20 : ¬ (12271 : Int32) < c := own_D hu (by decide)
  have a21 : ¬ (12288 : Int32) < c := own_D hu (by decide)
  have a22 : ¬ (55295 : Int32) < c := own_D hu (by decide)
  have a23 : ¬ (63743 : Int32) < c := own_D hu (by decide)
  have a24 : ¬ (64975 : Int32) < c := own_D hu (by decide)
  have a25 : ¬ (65007 : Int32) < c := own_D hu (by decide)
  have a26 : ¬ (65533 : Int32) < c := own_D hu (by decide)
  have a27 : ¬ (65535 : Int32) < c := own_D hu (by decide)
  have a28 : ¬ (983039 : Int32) < c := own_D hu (by decide)
  have a29 : ¬ c < (65 : Int32) := own_B hl (by decide)
  have a30 : ¬ c < (91 : Int32) := own_B hl (by decide)
  have a31 : ¬ c < (97 : Int32) := own_B hl (by decide)
  have a32 : ¬ c < (123 : Int32) := own_B hl (by decide)
  have a33 : ¬ c < (192 : Int32) := own_B hl (by decide)
  have a34 : ¬ c < (216 : Int32) := own_B hl (by decide)
  have a35 : ¬ c < (248 : Int32) := own_B hl (by decide)
  have a36 : c < (768 : Int32) := own_A hu (by decide)
  have a37 : c < (880 : Int32) := own_A hu (by decide)
  have a38 : c < (895 : Int32) := own_A hu (by decide)
  have a39 : c < (8192 : Int32) := own_A hu (by decide)
  have a40 : c < (8204 : Int32) := own_A hu (by decide)
  have a41 : c < (8206 : Int32) := own_A hu (by decide)
  have a42 : c < (8304 : Int32) := own_A hu (by decide)
  have a43 : c < (8592 : Int32) := own_A hu (by decide)
  have a44 : c < (11264 : Int32) := own_A hu (by decide)
  have a45 : c < (12272 : Int32) := own_A hu (by decide)
  have a46 : c < (12289 : Int32) := own_A hu (by decide)
  have a47 : c < (55296 : Int32) := own_A hu (by decide)
  have a48 : c < (63744 : Int32) := own_A hu (by decide)
  have a49 : c < (64976 : Int32) := own_A hu (by decide)
  have a50 : c < (65008 : Int32) := own_A hu (by decide)
  have a51 : c < (65534 : Int32) := own_A hu (by decide)
  have a52 : c < (65536 : Int32) := own_A hu (by decide)
  simp only [f1_191, f1_195, f1_185, f1_179, f1_173, f1_167, f1_161, f1_155, f1_149, f1_142, f1_135, f1_128, f1_121, f1_114, f1_107, f1_100, f1_93, f1_86, f1_79, f1_72, f1_65, f1_58, f1_51, f1_44, f1_37, f1_30, f1_24, f1_18, f1_12, f1_6, f1_0, f2_12, f2_65, f2_198, f2_196, f2_190, f2_184, f2_182, f2_176, f2_170, f2_168, f2_162, f2_156, f2_154, f2_147, f2_140, f2_138, f2_131, f2_124, f2_122, f2_115, f2_108, f2_106, f2_99, f2_92, f2_90, f2_83, f2_81, f2_74, f2_67, f2_58, f2_51, f2_49, f2_42, f2_36, f2_34, f2_28, f2_26, f2_20, f2_14, f2_6, f2_0, a0, a1, a2, a3, a4, a5, a6, a7, a8, a9, a10, a11, a12, a13, a14, a15, a16, a17, a18, a19, a20, a21, a22, a23, a24, a25, a26, a27, a28, a29, a30, a31, a32, a33, a34, a35, a36, a37, a38, a39, a40, a41, a42, a43, a44, a45, a46, a47, a48, a49, a50, a51, a52, own_10, ↓reduceIte]
theorem own_i12 (c : Int32) (hl : ¬ c < (768 : Int32)) (hu : c < (880 : Int32)) : f1_0 c = f2_0 c := by
  have a0 : ¬ c = (95 : Int32) := own_G hl (by decide)
  have a1 : ¬ c = (96 : Int32) := own_G hl (by decide)
  have a2 : ¬ c = (215 : Int32) := own_G hl (by decide)
  have a3 : ¬ c = (247 : Int32) := own_G hl (by decide)
  have a4 : ¬ c = (894 : Int32) := own_F hu (by decide)
  have a5 : (90 : Int32) < c := own_C hl (by decide)
  have a6 : (94 : Int32) < c := own_C hl (by decide)
  have a7 : (122 : Int32) < c := own_C hl (by decide)
  have a8 : (191 : Int32) < c := own_C hl (by decide)
  have a9 : (214 : Int32) < c := own_C hl (by decide)
  have a10 : (246 : Int32) < c := own_C hl (by decide)
  have a11 : (767 : Int32) < c := own_C hl (by decide)
  have a12 : ¬ (879 : Int32) < c := own_D hu (by decide)
  have a13 : ¬ (893 : Int32) < c := own_D hu (by decide)
  have a14 : ¬ (8191 : Int32) < c := own_D hu (by decide)
  have a15 : ¬ (8203 : Int32) < c := own_D hu (by decide)
  have a16 : ¬ (8205 : Int32) < c := own_D hu (by decide)
  have a17 : ¬ (8303 : Int32) < c := own_D hu (by decide)
  have a18 : ¬ (8591 : Int32) < c := own_D hu (by decide)
  have a19 : ¬ (11263 : Int32) < c := own_D hu (by decide)
  have a20 : ¬ (12271 : Int32) < c := own_D hu (by decide)
  have a21 : ¬ (12288 : Int32) < c := own_D hu (by decide)
  have a22 : ¬ (55295 : Int32) < c := own_D hu (by decide)
  have a23 : ¬ (63743 : Int32) < c := own_D hu (by decide)
  have a24 : ¬ (64975 : Int32) < c := own_D hu (by decide)
  have a25 : ¬ (65007 : Int32) < c := own_D hu (by decide)
  have a26 : ¬ (65533 : Int32) < c := own_D hu (by decide)
  have a27 : ¬ (65535 : Int32) < c := own_D hu (by decide)
  have a28 : ¬ (983039 : Int32) < c := own_D hu (by decide)
  have a29 : ¬ c < (65 : Int32) := own_B hl (by decide)
  have a30 : ¬ c < (91 : Int32) := own_B hl (by decide)
  have a31 : ¬ c < (97 : Int32) := own_B hl (by decide)
  have a32 : ¬ c < (123 : Int32) := own_B hl (by decide)
  have a33 : ¬ c < (192 : Int32) := own_B hl (by decide)
  have a34 : ¬ c < (216 : Int32) := own_B hl (by decide)
  have a35 : ¬ c < (248 : Int32) := own_B hl (by decide)
  have a36 : ¬ c < (768 : Int32) := own_B hl (by decide)
  have a37 : c < (880 : Int32) := own_A hu (by decide)
  have a38 : c < (895 : Int32) := own_A hu (by decide)
  have a39 : c < (8192 : Int32) := own_A hu (by decide)
  have a40 : c < (8204 : Int32) := own_A hu (by decide)
  have a41 : c < (8206 : Int32) := own_A hu (by decide)
  have a42 : c < (8304 : Int32) := own_A hu (by decide)
  have a43 : c < (8592 : Int32) := own_A hu (by decide)
  have a44 : c < (11264 : Int32) := own_A hu (by decide)
  have a45 : c < (12272 : Int32) := own_A hu (by decide)
  have a46 : c < (12289 : Int32) := own_A hu (by decide)
  have a47 : c < (55296 : Int32) := own_A hu (by decide)
  have a48 : c < (63744 : Int32) := own_A hu (by decide)
  have a49 : c < (64976 : Int32) := own_A hu (by decide)
  have a50 : c < (65008 : Int32) := own_A hu (by decide)
  have a51 : c < (65534 : Int32) := own_A hu (by decide)
  have a52 : c < (65536 : Int32) := own_A hu (by decide)
  simp only [f1_191, f1_195, f1_185, f1_179, f1_173, f1_167, f1_161, f1_155, f1_149, f1_142, f1_135, f1_128, f1_121, f1_114, f1_107, f1_100, f1_93, f1_86, f1_79, f1_72, f1_65, f1_58, f1_51, f1_44, f1_37, f1_30, f1_24, f1_18, f1_12, f1_6, f1_0, f2_12, f2_65, f2_198, f2_196, f2_190, f2_184, f2_182, f2_176, f2_170, f2_168, f2_162, f2_156, f2_154, f2_147, f2_140, f2_138, f2_131, f2_124, f2_122, f2_115, f2_108, f2_106, f2_99, f2_92, f2_90, f2_83, f2_81, f2_74, f2_67, f2_58, f2_51, f2_49, f2_42, f2_36, f2_34, f2_28, f2_26, f2_20, f2_14, f2_6, f2_0, a0, a1, a2, a3, a4, a5, a6, a7, a8, a9, a10, a11, a12, a13, a14, a15, a16, a17, a18, a19, a20, a21, a22, a23, a24, a25, a26, a27, a28, a29, a30, a31, a32, a33, a34, a35, a36, a37, a38, a39, a40, a41, a42, a43, a44, a45, a46, a47, a48, a49, a50, a51, a52, own_10, ↓reduceIte]
theorem own_i13 (c : Int32) (hl : ¬ c < (880 : Int32)) (hu : c < (894 : Int32)) : f1_0 c = f2_0 c := by
  have a0 : ¬ c = (95 : Int32) := own_G hl (by decide)
  have a1 : ¬ c = (96 : Int32) := own_G hl (by decide)
  have a2 : ¬ c = (215 : Int32) := own_G hl (by decide)
  have a3 : ¬ c = (247 : Int32) := own_G hl (by decide)
  have a4 : ¬ c = (894 : Int32) := own_F hu (by decide)
  have a5 : (90 : Int32) < c := own_C hl (by decide)
  have a6 : (94 : Int32) < c := own_C hl (by decide)
  have a7 : (122 : Int32) < c := own_C hl (by decide)
  have a8 : (191 : Int32) < c := own_C hl (by decide)
  have a9 : (214 : Int32) < c := own_C hl (by decide)
  have a10 : (246 : Int32) < c := own_C hl (by decide)
  have a11 : (767 : Int32) < c := own_C hl (by decide)
  have a12 : (879 : Int32) < c := own_C hl (by decide)
  have a13 : ¬ (893 : Int32) < c := own_D hu (by decide)
  have a14 : ¬ (8191 : Int32) < c := own_D hu (by decide)
  have a15 : ¬ (8203 : Int32) < c := own_D hu (by decide)
  have a16 : ¬ (8205 : Int32) < c := own_D hu (by decide)
  have a17 : ¬ (8303 : Int32) < c := own_D hu (by decide)
  have a18 : ¬ (8591 : Int32) < c := own_D hu (by decide)
  have a19 : ¬ (11263 : Int32) < c := own_D hu (by decide)
  have a20 : ¬ (12271 : Int32) < c := own_D hu (by decide)
  have a21 : ¬ (12288 : Int32) < c := own_D hu (by decide)
  have a22 : ¬ (55295 : Int32) < c := own_D hu (by decide)
  have a23 : ¬ (63743 : Int32) < c := own_D hu (by decide)
  have a24 : ¬ (64975 : Int32) < c := own_D hu (by decide)
  have a25 : ¬ (65007 : Int32) < c := own_D hu (by decide)
  have a26 : ¬ (65533 : Int32) < c := own_D hu (by decide)
  have a27 : ¬ (65535 : Int32) < c := own_D hu (by decide)
  have a28 : ¬ (983039 : Int32) < c := own_D hu (by decide)
  have a29 : ¬ c < (65 : Int32) := own_B hl (by decide)
  have a30 : ¬ c < (91 : Int32) := own_B hl (by decide)
  have a31 : ¬ c < (97 : Int32) := own_B hl (by decide)
  have a32 : ¬ c < (123 : Int32) := own_B hl (by decide)
  have a33 : ¬ c < (192 : Int32) := own_B hl (by decide)
  have a34 : ¬ c < (216 : Int32) := own_B hl (by decide)
  have a35 : ¬ c < (248 : Int32) := own_B hl (by decide)
  have a36 : ¬ c < (768 : Int32) := own_B hl (by decide)
  have a37 : ¬ c < (880 : Int32) := own_B hl (by decide)
  have a38 : c < (895 : Int32) := own_A hu (by decide)
  have a39 : c < (8192 : Int32) := own_A hu (by decide)
  have a40 : c < (8204 : Int32) := own_A hu (by decide)
  have a41 : c < (8206 : Int32) := own_A hu (by decide)
  have a42 : c < (8304 : Int32) := own_A hu (by decide)
  have a43 : c < (8592 : Int32) := own_A hu (by decide)
  have a44 : c < (11264 : Int32) := own_A hu (by decide)
  have a45 : c < (12272 : Int32) := own_A hu (by decide)
  have a46 : c < (12289 : Int32) := own_A hu (by decide)
  have a47 : c < (55296 : Int32) := own_A hu (by decide)
  have a48 : c < (63744 : Int32) := own_A hu (by decide)
  have a49 : c < (64976 : Int32) := own_A hu (by decide)
  have a50 : c < (65008 : Int32) := own_A hu (by decide)
  have a51 : c < (65534 : Int32) := own_A hu (by decide)
  have a52 : c < (65536 : Int32) := own_A hu (by decide)
  simp only [f1_191, f1_195, f1_185, f1_179, f1_173, f1_167, f1_161, f1_155, f1_149, f1_142, f1_135, f1_128, f1_121, f1_114, f1_107, f1_100, f1_93, f1_86, f1_79, f1_72, f1_65, f1_58, f1_51, f1_44, f1_37, f1_30, f1_24, f1_18, f1_12, f1_6, f1_0, f2_12, f2_65, f2_198, f2_196, f2_190, f2_184, f2_182, f2_176, f2_170, f2_168, f2_162, f2_156, f2_154, f2_147, f2_140, f2_138, f2_131, f2_124, f2_122, f2_115, f2_108, f2_106, f2_99, f2_92, f2_90, f2_83, f2_81, f2_74, f2_67, f2_58, f2_51, f2_49, f2_42, f2_36, f2_34, f2_28, f2_26, f2_20, f2_14, f2_6, f2_0, a0, a1, a2, a3, a4, a5, a6, a7, a8, a9, a10, a11, a12, a13, a14, a15, a16, a17, a18, a19, a20, a21, a22, a23, a24, a25, a26, a27, a28, a29, a30, a31, a32, a33, a34, a35, a36, a37, a38, a39, a40, a41, a42, a43, a44, a45, a46, a47, a48, a49, a50, a51, a52, own_10, ↓reduceIte]
theorem own_i14 (c : Int32) (hl : ¬ c < (894 : Int32)) (hu : c < (895 : Int32)) : f1_0 c = f2_0 c := by
  obtain rfl : c = (894 : Int32) := own_E hl hu (by decide)
  decide +kernel
theorem own_i15 (c : Int32) (hl : ¬ c < (895 : Int32)) (hu : c < (8192 : Int32)) : f1_0 c = f2_0 c := by
  have a0 : ¬ c = (95 : Int32) := own_G hl (by decide)
  have a1 : ¬ c = (96 : Int32) := own_G hl (by decide)
  have a2 : ¬ c = (215 : Int32) := own_G hl (by decide)
  have a3 : ¬ c = (247 : Int32) := own_G hl (by decide)
  have a4 : ¬ c = (894 : Int32) := own_G hl (by decide)
  have a5 : (90 : Int32) < c := own_C hl (by decide)
  have a6 : (94 : Int32) < c := own_C hl (by decide)
  have a7 : (122 : Int32) < c := own_C hl (by decide)
  have a8 : (191 : Int32) < c := own_C hl (by decide)
  have a9 : (214 : Int32) < c := own_C hl (by decide)
  have a10 : (246 : Int32) < c := own_C hl (by decide)
  have a11 : (767 : Int32) < c := own_C hl (by decide)
  have a12 : (879 : Int32) < c := own_C hl (by decide)
  have a13 : (893 : Int32) < c := own_C hl (by decide)
  have a14 : ¬ (8191 : Int32) < c := own_D hu (by decide)
  have a15 : ¬ (8203 : Int32) < c := own_D hu (by decide)
  have a16 : ¬ (8205 : Int32) < c := own_D hu (by decide)
  have a17 : ¬ (8303 : Int32) < c := own_D hu (by decide)
  have a18 : ¬ (8591 : Int32) < c := own_D hu (by decide)
  have a19 : ¬ (11263 : Int32) < c := own_D hu (by decide)
  have a20 : ¬ (12271 : Int32) < c := own_D hu (by decide)
  have a21 : ¬ (12288 : Int32) < c := own_D hu (by decide)
  have a22 : ¬ (55295 : Int32) < c := own_D hu (by decide)
  have a23 : ¬ (63743 : Int32) < c := own_D hu (by decide)
  have a24 : ¬ (64975 : Int32) < c := own_D hu (by decide)
  have a25 : ¬ (65007 : Int32) < c := own_D hu (by decide)
  have a26 : ¬ (65533 : Int32) < c := own_D hu (by decide)
  have a27 : ¬ (65535 : Int32) < c := own_D hu (by decide)
  have a28 : ¬ (983039 : Int32) < c := own_D hu (by decide)
  have a29 : ¬ c < (65 : Int32) := own_B hl (by decide)
  have a30 : ¬ c < (91 : Int32) := own_B hl (by decide)
  have a31 : ¬ c < (97 : Int32) := own_B hl (by decide)
  have a32 : ¬ c < (123 : Int32) := own_B hl (by decide)
  have a33 : ¬ c < (192 : Int32) := own_B hl (by decide)
  have a34 : ¬ c < (216 : Int32) := own_B hl (by decide)
  have a35 : ¬ c < (248 : Int32) := own_B hl (by decide)
  have a36 : ¬ c < (768 : Int32) := own_B hl (by decide)
  have a37 : ¬ c < (880 : Int32) := own_B hl (by decide)
  have a38 : ¬ c < (895 : Int32) := own_B hl (by decide)
  have a39 : c < (8192 : Int32) := own_A hu (by decide)
  have a40 : c < (8204 : Int32) := own_A hu (by decide)
  have a41 : c < (8206 : Int32) := own_A hu (by decide)
  have a42 : c < (8304 : Int32) := own_A hu (by decide)
  have a43 : c < (8592 : Int32) := own_A hu (by decide)
  have a44 : c < (11264 : Int32) := own_A hu (by decide)
  have a45 : c < (12272 : Int32) := own_A hu (by decide)
  have a46 : c < (12289 : Int32) := own_A hu (by decide)
  have a47 : c < (55296 : Int32) := own_A hu (by decide)
  have a48 : c < (63744 : Int32) := own_A hu (by decide)
  have a49 : c < (64976 : Int32) := own_A hu (by decide)
  have a50 : c < (65008 : Int32) := own_A hu (by decide)
  have a51 : c < (65534 : Int32) := own_A hu (by decide)
  have a52 : c < (65536 : Int32) := own_A hu (by decide)
  simp only [f1_191, f1_195, f1_185, f1_179, f1_173, f1_167, f1_161, f1_155, f1_149, f1_142, f1_135, f1_128, f1_121, f1_114, f1_107, f1_100, f1_93, f1_86, f1_79, f1_72, f1_65, f1_58, f1_51, f1_44, f1_37, f1_30, f1_24, f1_18, f1_12, f1_6, f1_0, f2_12, f2_65, f2_198, f2_196, f2_190, f2_184, f2_182, f2_176, f2_170, f2_168, f2_162, f2_156, f2_154, f2_147, f2_140, f2_138, f2_131, f2_124, f2_122, f2_115, f2_108, f2_106, f2_99, f2_92, f2_90, f2_83, f2_81, f2_74, f2_67, f2_58, f2_51, f2_49, f2_42, f2_36, f2_34, f2_28, f2_26, f2_20, f2_14, f2_6, f2_0, a0, a1, a2, a3, a4, a5, a6, a7, a8, a9, a10, a11, a12, a13, a14, a15, a16, a17, a18, a19, a20, a21, a22, a23, a24, a25, a26, a27, a28, a29, a30, a31, a32, a33, a34, a35, a36, a37, a38, a39, a40, a41, a42, a43, a44, a45, a46, a47, a48, a49, a50, a51, a52, own_10, ↓reduceIte]
theorem own_i16 (c : Int32) (hl : ¬ c < (8192 : Int32)) (hu : c < (8204 : Int32)) : f1_0 c = f2_0 c := by
  have a0 : ¬ c = (95 : Int32) := own_G hl (by decide)
  have a1 : ¬ c = (96 : Int32) := own_G hl (by decide)
  have a2 : ¬ c = (215 : Int32) := own_G hl (by decide)
  have a3 : ¬ c = (247 : Int32) := own_G hl (by decide)
  have a4 : ¬ c = (894 : Int32) := own_G hl (by decide)
  have a5 : (90 : Int32) < c := own_C hl (by decide)
  have a6 : (94 : Int32) < c := own_C hl (by decide)
  have a7 : (122 : Int32) < c := own_C hl (by decide)
  have a8 : (191 : Int32) < c := own_C hl (by decide)
  have a9 : (214 : Int32) < c := own_C hl (by decide)
  have a10 : (246 : Int32) < c := own_C hl (by decide)
  have a11 : (767 : Int32) < c := own_C hl (by decide)
  have a12 : (879 : Int32) < c := own_C hl (by decide)
  have a13 : (893 : Int32) < c := own_C hl (by decide)
  have a14 : (8191 : Int32) < c := own_C hl (by decide)
  have a15 : ¬ (8203 : Int32) < c := own_D hu (by decide)
  have a16 : ¬ (8205 : Int32) < c := own_D hu (by decide)
  have a17 : ¬ (8303 : Int32) < c := own_D hu (by decide)
  have a18 : ¬ (8591 : Int32) < c := own_D hu (by decide)
  have a19 : ¬ (11263 : Int32) < c := own_D hu (by decide)
  have a20 : ¬ (12271 : Int32) < c := own_D hu (by decide)
  have a21 : ¬ (12288 : Int32) < c := own_D hu (by decide)
  have a22 : ¬ (55295 : Int32) < c := own_D hu (by decide)
  have a23 : ¬ (63743 : Int32) < c := own_D hu (by decide)
  have a24 : ¬ (64975 : Int32) < c := own_D hu (by decide)
  have a25 : ¬ (65007 : Int32) < c := own_D hu (by decide)
  have a26 : ¬ (65533 : Int32) < c := own_D hu (by decide)
  have a27 : ¬ (65535 : Int32) < c := own_D hu (by decide)
  have a28 : ¬ (983039 : Int32) < c := own_D hu (by decide)
  have a29 : ¬ c < (65 : Int32) := own_B hl (by decide)
  have a30 : ¬ c < (91 : Int32) := own_B hl (by decide)
  have a31 : ¬ c < (97 : Int32) := own_B hl (by decide)
  have a32 : ¬ c < (123 : Int32) := own_B hl (by decide)
  have a33 : ¬ c < (192 : Int32) := own_B hl (by decide)
  have a34 : ¬ c < (216 : Int32) := own_B hl (by decide)
  have a35 : ¬ c < (248 : Int32) := own_B hl (by decide)
  have a36 : ¬ c < (768 : Int32) := own_B hl (by decide)
  have a37 : ¬ c < (880 : Int32) := own_B hl (by decide)
  have a38 : ¬ c < (895 : Int32) := own_B hl (by decide)
  have a39 : ¬ c < (8192 : Int32) := own_B hl (by decide)
  have a40 : c < (8204 : Int32) := own_A hu (by decide)
  have a41 : c < (8206 : Int32) := own_A hu (by decide)
  have a42 : c < (8304 : Int32) := own_A hu (by decide)
  have a43 : c < (8592 : Int32) := own_A hu (by decide)
  have a44 : c < (11264 : Int32) := own_A hu (by decide)
  have a45 : c < (12272 : Int32) := own_A hu (by decide)
  have a46 : c < (12289 : Int32) := own_A hu (by decide)
  have a47 : c < (55296 : Int32) := own_A hu (by decide)
  have a48 : c < (63744 : Int32) := own_A hu (by decide)
  have a49 : c < (64976 : Int32) := own_A hu (by decide)
  have a50 : c < (65008 : Int32) := own_A hu (by decide)
  have a51 : c < (65534 : Int32) := own_A hu (by decide)
  have a52 : c < (65536 : Int32) := own_A hu (by decide)
  simp only [f1_191, f1_195, f1_185, f1_179, f1_173, f1_167, f1_161, f1_155, f1_149, f1_142, f1_135, f1_128, f1_121, f1_114, f1_107, f1_100, f1_93, f1_86, f1_79, f1_72, f1_65, f1_58, f1_51, f1_44, f1_37, f1_30, f1_24, f1_18, f1_12, f1_6, f1_0, f2_12, f2_65, f2_198, f2_196, f2_190, f2_184, f2_182, f2_176, f2_170, f2_168, f2_162, f2_156, f2_154, f2_147, f2_140, f2_138, f2_131, f2_124, f2_122, f2_115, f2_108, f2_106, f2_99, f2_92, f2_90, f2_83, f2_81, f2_74, f2_67, f2_58, f2_51, f2_49, f2_42, f2_36, f2_34, f2_28, f2_26, f2_20, f2_14, f2_6, f2_0, a0, a1, a2, a3, a4, a5, a6, a7, a8, a9, a10, a11, a12, a13, a14, a15, a16, a17, a18, a19, a20, a21, a22, a23, a24, a25, a26, a27, a28, a29, a30, a31, a32, a33, a34, a35, a36, a37, a38, a39, a40, a41, a42, a43, a44, a45, a46, a47, a48, a49, a50, a51, a52, own_10, ↓reduceIte]
theorem own_i17 (c : Int32) (hl : ¬ c < (8204 : Int32)) (hu : c < (8206 : Int32)) : f1_0 c = f2_0 c := by
  have a0 : ¬ c = (95 : Int32) := own_G hl (by decide)
  have a1 : ¬ c = (96 : Int32) := own_G hl (by decide)
  have a2 : ¬ c = (215 : Int32) := own_G hl (by decide)
  have a3 : ¬ c = (247 : Int32) := own_G hl (by decide)
  have a4 : ¬ c = (894 : Int32) := own_G hl (by decide)
  have a5 : (90 : Int32) < c := own_C hl (by decide)
  have a6 : (94 : Int32) < c := own_C hl (by decide)
  have a7 : (122 : Int32) < c := own_C hl (by decide)
  have a8 : (191 : Int32) < c := own_C hl (by decide)
  have a9 : (214 : Int32) < c := own_C hl (by decide)
  have a10 : (246 : Int32) < c := own_C hl (by decide)
  have a11 : (767 : Int32) < c := own_C hl (by decide)
  have a12 : (879 : Int32) < c := own_C hl (by decide)
  have a13 : (893 : Int32) < c := own_C hl (by decide)
  have a14 : (8191 : Int32) < c := own_C hl (by decide)
  have a15 : (8203 : Int32) < c := own_C hl (by decide)
  have a16 : ¬ (8205 : Int32) < c := own_D hu (by decide)
  have a17 : ¬ (8303 : Int32) < c := own_D hu (by decide)
  have a18 : ¬ (8591 : Int32) < c := own_D hu (by decide)
  have a19 : ¬ (11263 : Int32) < c := own_D hu (by decide)
  have a20 : ¬ (12271 : Int32) < c := own_D hu (by decide)
  have a21 : ¬ (12288 : Int32) < c := own_D hu (by decide)
  have a22 : ¬ (55295 : Int32) < c := own_D hu (by decide)
  have a23 : ¬ (63743 : Int32) < c := own_D hu (by decide)
  have a24 : ¬ (64975 : Int32) < c := own_D hu (by decide)
  have a25 : ¬ (65007 : Int32) < c := own_D hu (by decide)
  have a26 : ¬ (65533 : Int32) < c := own_D hu (by decide)
  have a27 : ¬ (65535 : Int32) < c := own_D hu (by decide)
  have a28 : ¬ (983039 : Int32) < c := own_D hu (by decide)
  have a29 : ¬ c < (65 : Int32) := own_B hl (by decide)
  have a30 : ¬ c < (91 : Int32) := own_B hl (by decide)
  have a31 : ¬ c < (97 : Int32) := own_B hl (by decide)
  have a32 : ¬ c < (123 : Int32) := own_B hl (by decide)
  have a33 : ¬ c < (192 : Int32) := own_B hl (by decide)
  have a34 : ¬ c < (216 : Int32) := own_B hl (by decide)
  have a35 : ¬ c < (248 : Int32) := own_B hl (by decide)
  have a36 : ¬ c < (768 : Int32) := own_B hl (by decide)
  have a37 : ¬ c < (880 : Int32) := own_B hl (by decide)
  have a38 : ¬ c < (895 : Int32) := own_B hl (by decide)
  have a39 : ¬ c < (8192 : Int32) := own_B hl (by decide)
  have a40 : ¬ c < (8204 : Int32) := own_B hl (by decide)
  have a41 : c < (8206 : Int32) := own_A hu (by decide)
  have a42 : c < (8304 : Int32) := own_A hu (by decide)
  have a43 : c < (8592 : Int32) := own_A hu (by decide)
  have a44 : c < (11264 : Int32) := own_A hu (by decide)
  have a45 : c < (12272 : Int32) := own_A hu (by decide)
  have a46 : c < (12289 : Int32) := own_A hu (by decide)
  have a47 : c < (55296 : Int32) := own_A hu (by decide)
  have a48 : c < (63744 : Int32) := own_A hu (by decide)
  have a49 : c < (64976 : Int32) := own_A hu (by decide)
  have a50 : c < (65008 : Int32) := own_A hu (by decide)
  have a51 : c < (65534 : Int32) := own_A hu (by decide)
  have a52 : c < (65536 : Int32) := own_A hu (by decide)
  simp only [f1_191, f1_195, f1_185, f1_179, f1_173, f1_167, f1_161, f1_155, f1_149, f1_142, f1_135, f1_128, f1_121, f1_114, f1_107, f1_100, f1_93, f1_86, f1_79, f1_72, f1_65, f1_58, f1_51, f1_44, f1_37, f1_30, f1_24, f1_18, f1_12, f1_6, f1_0, f2_12, f2_65, f2_198, f2_196, f2_190, f2_184, f2_182, f2_176, f2_170, f2_168, f2_162, f2_156, f2_154, f2_147, f2_140, f2_138, f2_131, f2_124, f2_122, f2_115, f2_108, f2_106, f2_99, f2_92, f2_90, f2_83, f2_81, f2_74, f2_67, f2_58, f2_51, f2_49, f2_42, f2_36, f2_34, f2_28, f2_26, f2_20, f2_14, f2_6, f2_0, a0, a1, a2, a3, a4, a5, a6, a7, a8, a9, a10, a11, a12, a13, a14, a15, a16, a17, a18, a19, a20, a21, a22, a23, a24, a25, a26, a27, a28, a29, a30, a31, a32, a33, a34, a35, a36, a37, a38, a39, a40, a41, a42, a43, a44, a45, a46, a47, a48, a49, a50, a51, a52, own_10, ↓reduceIte]
theorem own_i18 (c : Int32) (hl : ¬ c < (8206 : Int32)) (hu : c < (8304 : Int32)) : f1_0 c = f2_0 c := by
  have a0 : ¬ c = (95 : Int32) := own_G hl (by decide)
  have a1 : ¬ c = (96 : Int32) := own_G hl (by decide)
  have a2 : ¬ c = (215 : Int32) := own_G hl (by decide)
  have a3 : ¬ c = (247 : Int32) := own_G hl (by decide)
  have a4 : ¬ c = (894 : Int32) := own_G hl (by decide)
  have a5 : (90 : Int32) < c := own_C hl (by decide)
  have a6 : (94 : Int32) < c := own_C hl (by decide)
  have a7 : (122 : Int32) < c := own_C hl (by decide)
  have a8 : (191 : Int32) < c := own_C hl (by decide)
  have a9 : (214 : Int32) < c := own_C hl (by decide)
  have a10 : (246 : Int32) < c := own_C hl (by decide)
  have a11 : (767 : Int32) < c := own_C hl (by decide)
  have a12 : (879 : Int32) < c := own_C hl (by decide)
  have a13 : (893 : Int32) < c := own_C hl (by decide)
  have a14 : (8191 : Int32) < c := own_C hl (by decide)
  have a15 : (8203 : Int32) < c := own_C hl (by decide)
  have a16 : (8205 : Int32) < c := own_C hl (by decide)
  have a17 : ¬ (8303 : Int32) < c := own_D hu (by decide)
  have a18 : ¬ (8591 : Int32) < c := own_D hu (by decide)
  have a19 : ¬ (11263 : Int32) < c := own_D hu (by decide)
  have a20 : ¬ (12271 : Int32) < c := own_D hu (by decide)
  have a21 : ¬ (12288 : Int32) < c := own_D hu (by decide)
  have a22 : ¬ (55295 : Int32) < c := own_D hu (by decide)
  have a23 : ¬ (63743 : Int32) < c := own_D hu (by decide)
  have a24 : ¬ (64975 : Int32) < c := own_D hu (by decide)
  have a25 : ¬ (65007 : Int32) < c := own_D hu (by decide)
  have a26 : ¬ (65533 : Int32) < c := own_D hu (by decide)
  have a27 : ¬ (65535 : Int32) < c := own_D hu (by decide)
  have a28 : ¬ (983039 : Int32) < c := own_D hu (by decide)
  have a29 : ¬ c < (65 : Int32) := own_B hl (by decide)
  have a30 : ¬ c < (91 : Int32) := own_B hl (by decide)
  have a31 : ¬ c < (97 : Int32) := own_B hl (by decide)
  have a32 : ¬ c < (123 : Int32) := own_B hl (by decide)
  have a33 : ¬ c < (192 : Int32) := own_B hl (by decide)
  have a34 : ¬ c < (216 : Int32) := own_B hl (by decide)
  have a35 : ¬ c < (248 : Int32) := own_B hl (by decide)
  have a36 : ¬ c < (768 : Int32) := own_B hl (by decide)
  have a37 : ¬ c < (880 : Int32) := own_B hl (by decide)
  have a38 : ¬ c < (895 : Int32) := own_B hl (by decide)
  have a39 : ¬ c < (8192 : Int32) := own_B hl (by decide)
  have a40 : ¬ c < (8204 : Int32) := own_B hl (by decide)
  have a41 : ¬ c < (8206 : Int32) := own_B hl (by decide)
  have a42 : c < (8304 : Int32) := own_A hu (by decide)
  have a43 : c < (8592 : Int32) := own_A hu (by decide)
  have a44 : c < (11264 : Int32) := own_A hu (by decide)
  have a45 : c < (12272 : Int32) := own_A hu (by decide)
  have a46 : c < (12289 : Int32) := own_A hu (by decide)
  have a47 : c < (55296 : Int32) := own_A hu (by decide)
  have a48 : c < (63744 : Int32) := own_A hu (by decide)
  have a49 : c < (64976 : Int32) := own_A hu (by decide)
  have a50 : c < (65008 : Int32) := own_A hu (by decide)
  have a51 : c < (65534 : Int32) := own_A hu (by decide)
  have a52 : c < (65536 : Int32) := own_A hu (by decide)
  simp only [f1_191, f1_195, f1_185, f1_179, f1_173, f1_167, f1_161, f1_155, f1_149, f1_142, f1_135, f1_128, f1_121, f1_114, f1_107, f1_100, f1_93, f1_86, f1_79, f1_72, f1_65, f1_58, f1_51, f1_44, f1_37, f1_30, f1_24, f1_18, f1_12, f1_6, f1_0, f2_12, f2_65, f2_198, f2_196, f2_190, f2_184, f2_182, f2_176, f2_170, f2_168, f2_162, f2_156, f2_154, f2_147, f2_140, f2_138, f2_131, f2_124, f2_122, f2_115, f2_108, f2_106, f2_99, f2_92, f2_90, f2_83, f2_81, f2_74, f2_67, f2_58, f2_51, f2_49, f2_42, f2_36, f2_34, f2_28, f2_26, f2_20, f2_14, f2_6, f2_0, a0, a1, a2, a3, a4, a5, a6, a7, a8, a9, a10, a11, a12, a13, a14, a15, a16, a17, a18, a19, a20, a21, a22, a23, a24, a25, a26, a27, a28, a29, a30, a31, a32, a33, a34, a35, a36, a37, a38, a39, a40, a41, a42, a43, a44, a45, a46, a47, a48, a49, a50, a51, a52, own_10, ↓reduceIte]
theorem own_i19 (c : Int32) (hl : ¬ c < (8304 : Int32)) (hu : c < (8592 : Int32)) : f1_0 c = f2_0 c := by
  have a0 : ¬ c = (95 : Int32) := own_G hl (by decide)
  have a1 : ¬ c = (96 : Int32) := own_G hl (by decide)
  have a2 : ¬ c = (215 : Int32) := own_G hl (by decide)
  have a3 : ¬ c = (247 : Int32) := own_G hl (by decide)
  have a4 : ¬ c = (894 : Int32) := own_G hl (by decide)
  have a5 : (90 : Int32) < c := own_C hl (by decide)
  have a6 : (94 : Int32) < c := own_C hl (by decide)
  have a7 : (122 : Int32) < c := own_C hl (by decide)
  have a8 : (191 : Int32) < c := own_C hl (by decide)
  have a9 : (214 : Int32) < c := own_C hl (by decide)
  have a10 : (246 : Int32) < c := own_C hl (by decide)
  have a11 : (767 : Int32) < c := own_C hl (by decide)
  have a12 : (879 : Int32) < c := own_C hl (by decide)
  have a13 : (893 : Int32) < c := own_C hl (by decide)
  have a14 : (8191 : Int32) < c := own_C hl (by decide)
  have a15 : (8203 : Int32) < c := own_C hl (by decide)
  have a16 : (8205 : Int32) < c := own_C hl (by decide)
  have a17 : (8303 : Int32) < c := own_C hl (by decide)
  have a18 : ¬ (8591 : Int32) < c := own_D hu (by decide)
  have a19 : ¬ (11263 : Int32) < c := own_D hu (by decide)
  have a20 : ¬ (12271 : Int32) < c := own_D hu (by decide)
  have a21 : ¬ (12288 : Int32) < c := own_D hu (by decide)
  have a22 : ¬ (55295 : Int32) < c := own_D hu (by decide)
  have a23 : ¬ (63743 : Int32) < c := own_D hu (by decide)
  have a24 : ¬ (64975 : Int32) < c := own_D hu (by decide)
  have a25 : ¬ (65007 : Int32) < c := own_D hu (by decide)
  have a26 : ¬ (65533 : Int32) < c := own_D hu (by decide)
  have a27 : ¬ (65535 : Int32) < c := own_D hu (by decide)
  have a28 : ¬ (983039 : Int32) < c := own_D hu (by decide)
  have a29 : ¬ c < (65 : Int32) := own_B hl (by decide)
  have a30 : ¬ c < (91 : Int32) := own_B hl (by decide)
  have a31 : ¬ c < (97 : Int32) := own_B hl (by decide)
  have a32 : ¬ c < (123 : Int32) := own_B hl (by decide)
  have a33 : ¬ c < (192 : Int32) := own_B hl (by decide)
  have a34 : ¬ c < (216 : Int32) := own_B hl (by decide)
  have a35 : ¬ c < (248 : Int32) := own_B hl (by decide)
  have a36 : ¬ c < (768 : Int32) := own_B hl (by decide)
  have a37 : ¬ c < (880 : Int32) := own_B hl (by decide)
  have a38 : ¬ c < (895 : Int32) := own_B hl (by decide)
  have a39 : ¬ c < (8192 : Int32) := own_B hl (by decide)
  have a40 : ¬ c < (8204 : Int32) := own_B hl (by decide)
  have a41 : ¬ c < (8206 : Int32) := own_B hl (by decide)
  have a42 : ¬ c < (8304 : Int32) := own_B hl (by decide)
  have a43 : c < (8592 : Int32) := own_A hu (by decide)
  have a44 : c < (11264 : Int32) := own_A hu (by decide)
  have a45 : c < (12272 : Int32) := own_A hu (by decide)
  have a46 : c < (12289 : Int32) := own_A hu (by decide)
  have a47 : c < (55296 : Int32) := own_A hu (by decide)
  have a48 : c < (63744 : Int32) := own_A hu (by decide)
  have a49 : c < (64976 : Int32) := own_A hu (by decide)
  have a50 : c < (65008 : Int32) := own_A hu (by decide)
  have a51 : c < (65534 : Int32) := own_A hu (by decide)
  have a52 : c < (65536 : Int32) := own_A hu (by decide)
  simp only [f1_191, f1_195, f1_185, f1_179, f1_173, f1_167, f1_161, f1_155, f1_149, f1_142, f1_135, f1_128, f1_121, f1_114, f1_107, f1_100, f1_93, f1_86, f1_79, f1_72, f1_65, f1_58, f1_51, f1_44, f1_37, f1_30, f1_24, f1_18, f1_12, f1_6, f1_0, f2_12, f2_65, f2_198, f2_196, f2_190, f2_184, f2_182, f2_176, f2_170, f2_168, f2_162, f2_156, f2_154, f2_147, f2_140, f2_138, f2_131, f2_124, f2_122, f2_115, f2_108, f2_106, f2_99, f2_92, f2_90, f2_83, f2_81, f2_74, f2_67, f2_58, f2_51, f2_49, f2_42, f2_36, f2_34, f2_28, f2_26, f2_20, f2_14, f2_6, f2_0, a0, a1, a2, a3, a4, a5, a6, a7, a8, a9, a10, a11, a12, a13, a14, a15, a16, a17, a18, a19, a20, a21, a22, a23, a24, a25, a26, a27, a28, a29, a30, a31, a32, a33, a34, a35, a36, a37, a38, a39, a40, a41, a42, a43, a44, a45, a46, a47, a48, a49, a50, a51, a52, own_10, ↓reduceIte]
theorem own_i20 (c : Int32) (hl : ¬ c < (8592 : Int32)) (hu : c < (11264 : Int32)) : f1_0 c = f2_0 c := by
  have a0 : ¬ c = (95 : Int32) := own_G hl (by decide)
  have a1 : ¬ c = (96 : Int32) := own_G hl (by decide)
  have a2 : ¬ c = (215 : Int32) := own_G hl (by decide)
  have a3 : ¬ c = (247 : Int32) := own_G hl (by decide)
  have a4 : ¬ c = (894 : Int32) := own_G hl (by decide)
  have a5 : (90 : Int32) < c := own_C hl (by decide)
  have a6 : (94 : Int32) < c := own_C hl (by decide)
  have a7 : (122 : Int32) < c := own_C hl (by decide)
  have a8 : (191 : Int32) < c := own_C hl (by decide)
  have a9 : (214 : Int32) < c := own_C hl (by decide)
  have a10 : (246 : Int32) < c := own_C hl (by decide)
  have a11 : (767 : Int32) < c := own_C hl (by decide)
  have a12 : (879 : Int32) < c := own_C hl (by decide)
  have a13 : (893 : Int32) < c := own_C hl (by decide)
  have a14 : (8191 : Int32) < c := own_C hl (by decide)
  have a15 : (8203 : Int32) < c := own_C hl (by decide)
  have a16 : (8205 : Int32) < c := own_C hl (by decide)
  have a17 : (8303 : Int32) < c := own_C hl (by decide)
  have a18 : (8591 : Int32) < c := own_C hl (by decide)
  have a19 : ¬ (11263 : Int32) < c := own_D hu (by decide)
  have a20 : ¬ (12271 : Int32) < c := own_D hu (by decide)
  have a21 : ¬ (12288 : Int32) < c := own_D hu (by decide)
  have a22 : ¬ (55295 : Int32) < c := own_D hu (by decide)
  have a23 : ¬ (63743 : Int32) < c := own_D hu (by decide)
  have a24 : ¬ (64975 : Int32) < c := own_D hu (by decide)
  have a25 : ¬ (65007 : Int32) < c := own_D hu (by decide)
  have a26 : ¬ (65533 : Int32) < c := own_D hu (by decide)
  have a27 : ¬ (65535 : Int32) < c := own_D hu (by decide)
  have a28 : ¬ (983039 : Int32) < c := own_D hu (by decide)
  have a29 : ¬ c < (65 : Int32) := own_B hl (by decide)
  have a30 : ¬ c < (91 : Int32) := own_B hl (by decide)
  have a31 : ¬ c < (97 : Int32) := own_B hl (by decide)
  have a32 : ¬ c < (123 : Int32) := own_B hl (by decide)
  have a33 : ¬ c < (192 : Int32) := own_B hl (by decide)
  have a34 : ¬ c < (216 : Int32) := own_B hl (by decide)
  have a35 : ¬ c < (248 : Int32) := own_B hl (by decide)
  have a36 : ¬ c < (768 : Int32) := own_B hl (by decide)
  have a37 : ¬ c < (880 : Int32) := own_B hl (by decide)
  have a38 : ¬ c < (895 : Int32) := own_B hl (by decide)
  have a39 : ¬ c < (8192 : Int32) := own_B hl (by decide)
  have a40 : ¬ c < (8204 : Int32) := own_B hl (by decide)
  have a41 : ¬ c < (8206 : Int32) := own_B hl (by decide)
  have a42 : ¬ c < (8304 : Int32) := own_B hl (by decide)
  have a43 : ¬ c < (8592 : Int32) := own_B hl (by decide)
  have a44 : c < (11264 : Int32) := own_A hu (by decide)
  have a45 : c < (12272 : Int32) := own_A hu (by decide)
  have a46 : c < (12289 : Int32) := own_A hu (by decide)
  have a47 : c < (55296 : Int32) := own_A hu (by decide)
  have a48 : c < (63744 : Int32) := own_A hu (by decide)
  have a49 : c < (64976 : Int32) := own_A hu (by decide)
  have a50 : c < (65008 : Int32) := own_A hu (by decide)
  have a51 : c < (65534 : Int32) := own_A hu (by decide)
  have a52 : c < (65536 : Int32) := own_A hu (by decide)
  simp only [f1_191, f1_195, f1_185, f1_179, f1_173, f1_167, f1_161, f1_155, f1_149, f1_142, f1_135, f1_128, f1_121, f1_114, f1_107, f1_100, f1_93, f1_86, f1_79, f1_72, f1_65, f1_58, f1_51, f1_44, f1_37, f1_30, f1_24, f1_18, f1_12, f1_6, f1_0, f2_12, f2_65, f2_198, f2_196, f2_190, f2_184, f2_182, f2_176, f2_170, f2_168, f2_162, f2_156, f2_154, f2_147, f2_140, f2_138, f2_131, f2_124, f2_122, f2_115, f2_108, f2_106, f2_99, f2_92, f2_90, f2_83, f2_81, f2_74, f2_67, f2_58, f2_51, f2_49, f2_42, f2_36, f2_34, f2_28, f2_26, f2_20, f2_14, f2_6, f2_0, a0, a1, a2, a3, a4, a5, a6, a7, a8, a9, a10, a11, a12, a13, a14, a15, a16, a17, a18, a19, a20, a21, a22, a23, a24, a25, a26, a27, a28, a29, a30, a31, a32, a33, a34, a35, a36, a37, a38, a39, a40, a41, a42, a43, a44, a45, a46, a47, a48, a49, a50, a51, a52, own_10, ↓reduceIte]
theorem own_i21 (c : Int32) (hl : ¬ c < (11264 : Int32)) (hu : c < (12272 : Int32)) : f1_0 c = f2_0 c := by
  have a0 : ¬ c = (95 : Int32) := own_G hl (by decide)
  have a1 : ¬ c = (96 : Int32) := own_G hl (by decide)
  have a2 : ¬ c = (215 : Int32) := own_G hl (by decide)
  have a3 : ¬ c = (247 : Int32) := own_G hl (by decide)
  have a4 : ¬ c = (894 : Int32) := own_G hl (by decide)
  have a5 : (90 : Int32) < c := own_C hl (by decide)
  have a6 : (94 : Int32) < c := own_C hl (by decide)
  have a7 : (122 : Int32) < c := own_C hl (by decide)
  have a8 : (191 : Int32) < c := own_C hl (by decide)
  have a9 : (214 : Int32) < c := own_C hl (by decide)
  have a10 : (246 : Int32) < c := own_C hl (by decide)
  have a11 : (767 : Int32) < c := own_C hl (by decide)
  have a12 : (879 : Int32) < c := own_C hl (by decide)
  have a13 : (893 : Int32) < c := own_C hl (by decide)
  have a14 : (8191 : Int32) < c := own_C hl (by decide)
  have a15 : (8203 : Int32) < c := own_C hl (by decide)
  have a16 : (8205 : Int32) < c := own_C hl (by decide)
  have a17 : (8303 : Int32) < c := own_C hl (by decide)
  have a18 : (8591 : Int32) < c := own_C hl (by decide)
  have a19 : (11263 : Int32) < c := own_C hl (by decide)
  have a20 : ¬ (12271 : Int32) < c := own_D hu (by decide)
  have a21 : ¬ (12288 : Int32) < c := own_D hu (by decide)
  have a22 : ¬ (55295 : Int32) < c := own_D hu (by decide)
  have a23 : ¬ (63743 : Int32) < c := own_D hu (by decide)
  have a24 : ¬ (64975 : Int32) < c := own_D hu (by decide)
  have a25 : ¬ (65007 : Int32) < c := own_D hu (by decide)
  have a26 : ¬ (65533 : Int32) < c := own_D hu (by decide)
  have a27 : ¬ (65535 : Int32) < c := own_D hu (by decide)
  have a28 : ¬ (983039 : Int32) < c := own_D hu (by decide)
  have a29 : ¬ c < (65 : Int32) := own_B hl (by decide)
  have a30 : ¬ c < (91 : Int32) := own_B hl (by decide)
  have a31 : ¬ c < (97 : Int32) := own_B hl (by decide)
  have a32 : ¬ c < (123 : Int32) := own_B hl (by decide)
  have a33 : ¬ c < (192 : Int32) := own_B hl (by decide)
  have a34 : ¬ c < (216 : Int32) := own_B hl (by decide)
  have a35 : ¬ c < (248 : Int32) := own_B hl (by decide)
  have a36 : ¬ c < (768 : Int32) := own_B hl (by decide)
  have a37 : ¬ c < (880 : Int32) := own_B hl (by decide)
  have a38 : ¬ c < (895 : Int32) := own_B hl (by decide)
  have a39 : ¬ c < (8192 : Int32) := own_B hl (by decide)
  have a40 : ¬ c < (8204 : Int32) := own_B hl (by decide)
  have a41 : ¬ c < (8206 : Int32) := own_B hl (by decide)
  have a42 : ¬ c < (8304 : Int32) := own_B hl (by decide)
  have a43 : ¬ c < (8592 : Int32) := own_B hl (by decide)
  have a44 : ¬ c < (11264 : Int32) := own_B hl (by decide)
  have a45 : c < (12272 : Int32) := own_A hu (by decide)
  have a46 : c < (12289 : Int32) := own_A hu (by decide)
  have a47 : c < (55296 : Int32) := own_A hu (by decide)
  have a48 : c < (63744 : Int32) := own_A hu (by decide)
  have a49 : c < (64976 : Int32) := own_A hu (by decide)
  have a50 : c < (65008 : Int32) := own_A hu (by decide)
  have a51 : c < (65534 : Int32) := own_A hu (by decide)
  have a52 : c < (65536 : Int32) := own_A hu (by decide)
  simp only [f1_191, f1_195, f1_185, f1_179, f1_173, f1_167, f1_161, f1_155, f1_149, f1_142, f1_135, f1_128, f1_121, f1_114, f1_107, f1_100, f1_93, f1_86, f1_79, f1_72, f1_65, f1_58, f1_51, f1_44, f1_37, f1_30, f1_24, f1_18, f1_12, f1_6, f1_0, f2_12, f2_65, f2_198, f2_196, f2_190, f2_184, f2_182, f2_176, f2_170, f2_168, f2_162, f2_156, f2_154, f2_147, f2_140, f2_138, f2_131, f2_124, f2_122, f2_115, f2_108, f2_106, f2_99, f2_92, f2_90, f2_83, f2_81, f2_74, f2_67, f2_58, f2_51, f2_49, f2_42, f2_36, f2_34, f2_28, f2_26, f2_20, f2_14, f2_6, f2_0, a0, a1, a2, a3, a4, a5, a6, a7, a8, a9, a10, a11, a12, a13, a14, a15, a16, a17, a18, a19, a20, a21, a22, a23, a24, a25, a26, a27, a28, a29, a30, a31, a32, a33, a34, a35, a36, a37, a38, a39, a40, a41, a42, a43, a44, a45, a46, a47, a48, a49, a50, a51, a52, own_10, ↓reduceIte]
theorem own_i22 (c : Int32) (hl : ¬ c < (12272 : Int32)) (hu : c < (12289 : Int32)) : f1_0 c = f2_0 c := by
  have a0 : ¬ c = (95 : Int32) := own_G hl (by decide)
  have a1 : ¬ c = (96 : Int32) := own_G hl (by decide)
  have a2 : ¬ c = (215 : Int32) := own_G hl (by decide)
  have a3 : ¬ c = (247 : Int32) := own_G hl (by decide)
  have a4 : ¬ c = (894 : Int32) := own_G hl (by decide)
  have a5 : (90 : Int32) < c := own_C hl (by decide)
  have a6 : (94 : Int32) < c := own_C hl (by decide)
  have a7 : (122 : Int32) < c := own_C hl (by decide)
  have a8 : (191 : Int32) < c := own_C hl (by decide)
  have a9 : (214 : Int32) < c := own_C hl (by decide)
  have a10 : (246 : Int32) < c := own_C hl (by decide)
  have a11 : (767 : Int32) < c := own_C hl (by decide)
  have a12 : (879 : Int32) < c := own_C hl (by decide)
  have a13 : (893 : Int32) < c := own_C hl (by decide)
  have a14 : (8191 : Int32) < c := own_C hl (by decide)
  have a15 : (8203 : Int32) < c := own_C hl (by decide)
  have a16 : (8205 : Int32) < c := own_C hl (by decide)
  have a17 : (8303 : Int32) < c := own_C hl (by decide)
  have a18 : (8591 : Int32) < c := own_C hl (by decide)
  have a19 : (11263 : Int32) < c := own_C hl (by decide)
  have a20 : (12271 : Int32) < c := own_C hl (by decide)
  have a21 : ¬ (12288 : Int32) < c := own_D hu (by decide)
  have a22 : ¬ (55295 : Int32) < c := own_D hu (by decide)
  have a23 : ¬ (63743 : Int32) < c := own_D hu (by decide)
  have a24 : ¬ (64975 : Int32) < c := own_D hu (by decide)
  have a25 : ¬ (65007 : Int32) < c := own_D hu (by decide)
  have a26 : ¬ (65533 : Int32) < c := own_D hu (by decide)
  have a27 : ¬ (65535 : Int32) < c := own_D hu (by decide)
  have a28 : ¬ (983039 : Int32) < c := own_D hu (by decide)
  have a29 : ¬ c < (65 : Int32) := own_B hl (by decide)
  have a30 : ¬ c < (91 : Int32) := own_B hl (by decide)
  have a31 : ¬ c < (97 : Int32) := own_B hl (by decide)
  have a32 : ¬ c < (123 : Int32) := own_B hl (by decide)
  have a33 : ¬ c < (192 : Int32) := own_B hl (by decide)
  have a34 : ¬ c < (216 : Int32) := own_B hl (by decide)
  have a35 : ¬ c < (248 : Int32) := own_B hl (by decide)
  have a36 : ¬ c < (768 : Int32) := own_B hl (by decide)
  have a37 : ¬ c < (880 : Int32) := own_B hl (by decide)
  have a38 : ¬ c < (895 : Int32) := own_B hl (by decide)
  have a39 : ¬ c < (8192 : Int32) := own_B hl (by decide)
  have a40 : ¬ c < (8204 : Int32) := own_B hl (by decide)
  have a41 : ¬ c < (8206 : Int32) := own_B hl (by decide)
  have a42 : ¬ c < (8304 : Int32) := own_B hl (by decide)
  have a43 : ¬ c < (8592 : Int32) := own_B hl (by decide)
  have a44 : ¬ c < (11264 : Int32) := own_B hl (by decide)
  have a45 : ¬ c < (12272 : Int32) := own_B hl (by decide)
  have a46 : c < (12289 : Int32) := own_A hu (by decide)
  have a47 : c < (55296 : Int32) := own_A hu (by decide)
  have a48 : c < (63744 : Int32) := own_A hu (by decide)
  have a49 : c < (64976 : Int32) := own_A hu (by decide)
  have a50 : c < (65008 : Int32) := own_A hu (by decide)
  have a51 : c < (65534 : Int32) := own_A hu (by decide)
  have a52 : c < (65536 : Int32) := own_A hu (by decide)
  simp only [f1_191, f1_195, f1_185, f1_179, f1_173, f1_167, f1_161, f1_155, f1_149, f1_142, f1_135, f1_128, f1_121, f1_114, f1_107, f1_100, f1_93, f1_86, f1_79, f1_72, f1_65, f1_58, f1_51, f1_44, f1_37, f1_30, f1_24, f1_18, f1_12, f1_6, f1_0, f2_12, f2_65, f2_198, f2_196, f2_190, f2_184, f2_182, f2_176, f2_170, f2_168, f2_162, f2_156, f2_154, f2_147, f2_140, f2_138, f2_131, f2_124, f2_122, f2_115, f2_108, f2_106, f2_99, f2_92, f2_90, f2_83, f2_81, f2_74, f2_67, f2_58, f2_51, f2_49, f2_42, f2_36, f2_34, f2_28, f2_26, f2_20, f2_14, f2_6, f2_0, a0, a1, a2, a3, a4, a5, a6, a7, a8, a9, a10, a11, a12, a13, a14, a15, a16, a17, a18, a19, a20, a21, a22, a23, a24, a25, a26, a27, a28, a29, a30, a31, a32, a33, a34, a35, a36, a37, a38, a39, a40, a41, a42, a43, a44, a45, a46, a47, a48, a49, a50, a51, a52, own_10, ↓reduceIte]
theorem own_i23 (c : Int32) (hl : ¬ c < (12289 : Int32)) (hu : c < (55296 : Int32)) : f1_0 c = f2_0 c := by
  have a0 : ¬ c = (95 : Int32) := own_G hl (by decide)
  have a1 : ¬ c = (96 : Int32) := own_G hl (by decide)
  have a2 : ¬ c = (215 : Int32) := own_G hl (by decide)
  have a3 : ¬ c = (247 : Int32) := own_G hl (by decide)
  have a4 : ¬ c = (894 : Int32) := own_G hl (by decide)
  have a5 : (90 : Int32) < c := own_C hl (by decide)
  have a6 : (94 : Int32) < c := own_C hl (by decide)
  have a7 : (122 : Int32) < c := own_C hl (by decide)
  have a8 : (191 : Int32) < c := own_C hl (by decide)
  have a9 : (214 : Int32) < c := own_C hl (by decide)
  have a10 : (246 : Int32) < c := own_C hl (by decide)
  have a11 : (767 : Int32) < c := own_C hl (by decide)
  have a12 : (879 : Int32) < c := own_C hl (by decide)
  have a13 : (893 : Int32) < c := own_C hl (by decide)
  have a14 : (8191 : Int32) < c := own_C hl (by decide)
  have a15 : (8203 : Int32) < c := own_C hl (by decide)
  have a16 : (8205 : Int32) < c := own_C hl (by decide)
  have a17 : (8303 : Int32) < c := own_C hl (by decide)
  have a18 : (8591 : Int32) < c := own_C hl (by decide)
  have a19 : (11263 : Int32) < c := own_C hl (by decide)
  have a20 : (12271 : Int32) < c := own_C hl (by decide)
  have a21 : (12288 : Int32) < c := own_C hl (by decide)
  have a22 : ¬ (55295 : Int32) < c := own_D hu (by decide)
  have a23 : ¬ (63743 : Int32) < c := own_D hu (by decide)
  have a24 : ¬ (64975 : Int32) < c := own_D hu (by decide)
  have a25 : ¬ (65007 : Int32) < c := own_D hu (by decide)
  have a26 : ¬ (65533 : Int32) < c := own_D hu (by decide)
  have a27 : ¬ (65535 : Int32) < c := own_D hu (by decide)
  have a28 : ¬ (983039 : Int32) < c := own_D hu (by decide)
  have a29 : ¬ c < (65 : Int32) := own_B hl (by decide)
  have a30 : ¬ c < (91 : Int32) := own_B hl (by decide)
  have a31 : ¬ c < (97 : Int32) := own_B hl (by decide)
  have a32 : ¬ c < (123 : Int32) := own_B hl (by decide)
  have a33 : ¬ c < (192 : Int32) := own_B hl (by decide)
  have a34 : ¬ c < (216 : Int32) := own_B hl (by decide)
  have a35 : ¬ c < (248 : Int32) := own_B hl (by decide)
  have a36 : ¬ c < (768 : Int32) := own_B hl (by decide)
  have a37 : ¬ c < (880 : Int32) := own_B hl (by decide)
  have a38 : ¬ c < (895 : Int32) := own_B hl (by decide)
  have a39 : ¬ c < (8192 : Int32) := own_B hl (by decide)
  have a40 : ¬ c < (8204 : Int32) := own_B hl (by decide)
  have a41 : ¬ c < (8206 : Int32) := own_B hl (by decide)
  have a42 : ¬ c < (8304 : Int32) := own_B hl (by decide)
  have a43 : ¬ c < (8592 : Int32) := own_B hl (by decide)
  have a44 : ¬ c < (11264 : Int32) := own_B hl (by decide)
  have a45 : ¬ c < (12272 : Int32) := own_B hl (by decide)
  have a46 : ¬ c < (12289 : Int32) := own_B hl (by decide)
  have a47 : c < (55296 : Int32) := own_A hu (by decide)
  have a48 : c < (63744 : Int32) := own_A hu (by decide)
  have a49 : c < (64976 : Int32) := own_A hu (by decide)
  have a50 : c < (65008 : Int32) := own_A hu (by decide)
  have a51 : c < (65534 : Int32) := own_A hu (by decide)
  have a52 : c < (65536 : Int32) := own_A hu (by decide)
  simp only [f1_191, f1_195, f1_185, f1_179, f1_173, f1_167, f1_161, f1_155, f1_149, f1_142, f1_135, f1_128, f1_121, f1_114, f1_107, f1_100, f1_93, f1_86, f1_79, f1_72, f1_65, f1_58, f1_51, f1_44, f1_37, f1_30, f1_24, f1_18, f1_12, f1_6, f1_0, f2_12, f2_65, f2_198, f2_196, f2_190, f2_184, f2_182, f2_176, f2_170, f2_168, f2_162, f2_156, f2_154, f2_147, f2_140, f2_138, f2_131, f2_124, f2_122, f2_115, f2_108, f2_106, f2_99, f2_92, f2_90, f2_83, f2_81, f2_74, f2_67, f2_58, f2_51, f2_49, f2_42, f2_36, f2_34, f2_28, f2_26, f2_20, f2_14, f2_6, f2_0, a0, a1, a2, a3, a4, a5, a6, a7, a8, a9, a10, a11, a12, a13, a14, a15, a16, a17, a18, a19, a20, a21, a22, a23, a24, a25, a26, a27, a28, a29, a30, a31, a32, a33, a34, a35, a36, a37, a38, a39, a40, a41, a42, a43, a44, a45, a46, a47, a48, a49, a50, a51, a52, own_10, ↓reduceIte]
theorem own_i24 (c : Int32) (hl : ¬ c < (55296 : Int32)) (hu : c < (63744 : Int32)) : f1_0 c = f2_0 c := by
  have a0 : ¬ c = (95 : Int32) := own_G hl (by decide)
  have a1 : ¬ c = (96 : Int32) := own_G hl (by decide)
  have a2 : ¬ c = (215 : Int32) := own_G hl (by decide)
  have a3 : ¬ c = (247 : Int32) := own_G hl (by decide)
  have a4 : ¬ c = (894 : Int32) := own_G hl (by decide)
  have a5 : (90 : Int32) < c := own_C hl (by decide)
  have a6 : (94 : Int32) < c := own_C hl (by decide)
  have a7 : (122 : Int32) < c := own_C hl (by decide)
  have a8 : (191 : Int32) < c := own_C hl (by decide)
  have a9 : (214 : Int32) < c := own_C hl (by decide)
  have a10 : (246 : Int32) < c := own_C hl (by decide)
  have a11 : (767 : Int32) < c := own_C hl (by decide)
  have a12 : (879 : Int32) < c := own_C hl (by decide)
  have a13 : (893 : Int32) < c := own_C hl (by decide)
  have a14 : (8191 : Int32) < c := own_C hl (by decide)
  have a15 : (8203 : Int32) < c := own_C hl (by decide)
  have a16 : (8205 : Int32) < c := own_C hl (by decide)
  have a17 : (8303 : Int32) < c := own_C hl (by decide)
  have a18 : (8591 : Int32) < c := own_C hl (by decide)
  have a19 : (11263 : Int32) < c := own_C hl (by decide)
  have a20 : (12271 : Int32) < c := own_C hl (by decide)
  have a21 : (12288 : Int32) < c := own_C hl (by decide)
  have a22 : (55295 : Int32) < c := own_C hl (by decide)
  have a23 : ¬ (63743 : Int32) < c := own_D hu (by decide)
  have a24 : ¬ (64975 : Int32) < c := own_D hu (by decide)
  have a25 : ¬ (65007 : Int32) < c := own_D hu (by decide)
  have a26 : ¬ (65533 : Int32) < c := own_D hu (by decide)
  have a27 : ¬ (65535 : Int32) < c := own_D hu (by decide)
  have a28 : ¬ (983039 : Int32) < c := own_D hu (by decide)
  have a29 : ¬ c < (65 : Int32) := own_B hl (by decide)
  have a30 : ¬ c < (91 : Int32) := own_B hl (by decide)
  have a31 : ¬ c < (97 : Int32) := own_B hl (by decide)
  have a32 : ¬ c < (123 : Int32) := own_B hl (by decide)
  have a33 : ¬ c < (192 : Int32) := own_B hl (by decide)
  have a34 : ¬ c < (216 : Int32) := own_B hl (by decide)
  have a35 : ¬ c < (248 : Int32) := own_B hl (by decide)
  have a36 : ¬ c < (768 : Int32) := own_B hl (by decide)
  have a37 : ¬ c < (880 : Int32) := own_B hl (by decide)
  have a38 : ¬ c < (895 : Int32) := own_B hl (by decide)
  have a39 : ¬ c < (8192 : Int32) := own_B hl (by decide)
  have a40 : ¬ c < (8204 : Int32) := own_B hl (by decide)
  have a41 : ¬ c < (8206 : Int32) := own_B hl (by decide)
  have a42 : ¬ c < (8304 : Int32) := own_B hl (by decide)
  have a43 : ¬ c < (8592 : Int32) := own_B hl (by decide)
  have a44 : ¬ c < (11264 : Int32) := own_B hl (by decide)
  have a45 : ¬ c < (12272 : Int32) := own_B hl (by decide)
  have a46 : ¬ c < (12289 : Int32) := own_B hl (by decide)
  have a47 : ¬ c < (55296 : Int32) := own_B hl (by decide)
  have a48 : c < (63744 : Int32) := own_A hu (by decide)
  have a49 : c < (64976 : Int32) := own_A hu (by decide)
  have a50 : c < (65008 : Int32) := own_A hu (by decide)
  have a51 : c < (65534 : Int32) := own_A hu (by decide)
  have a52 : c < (65536 : Int32) := own_A hu (by decide)
  simp only [f1_191, f1_195, f1_185, f1_179, f1_173, f1_167, f1_161, f1_155, f1_149, f1_142, f1_135, f1_128, f1_121, f1_114, f1_107, f1_100, f1_93, f1_86, f1_79, f1_72, f1_65, f1_58, f1_51, f1_44, f1_37, f1_30, f1_24, f1_18, f1_12, f1_6, f1_0, f2_12, f2_65, f2_198, f2_196, f2_190, f2_184, f2_182, f2_176, f2_170, f2_168, f2_162, f2_156, f2_154, f2_147, f2_140, f2_138, f2_131, f2_124, f2_122, f2_115, f2_108, f2_106, f2_99, f2_92, f2_90, f2_83, f2_81, f2_74, f2_67, f2_58, f2_51, f2_49, f2_42, f2_36, f2_34, f2_28, f2_26, f2_20, f2_14, f2_6, f2_0, a0, a1, a2, a3, a4, a5, a6, a7, a8, a9, a10, a11, a12, a13, a14, a15, a16, a17, a18, a19, a20, a21, a22, a23, a24, a25, a26, a27, a28, a29, a30, a31, a32, a33, a34, a35, a36, a37, a38, a39, a40, a41, a42, a43, a44, a45, a46, a47, a48, a49, a50, a51, a52, own_10, ↓reduceIte]
theorem own_i25 (c : Int32) (hl : ¬ c < (63744 : Int32)) (hu : c < (64976 : Int32)) : f1_0 c = f2_0 c := by
  have a0 : ¬ c = (95 : Int32) := own_G hl (by decide)
  have a1 : ¬ c = (96 : Int32) := own_G hl (by decide)
  have a2 : ¬ c = (215 : Int32) := own_G hl (by decide)
  have a3 : ¬ c = (247 : Int32) := own_G hl (by decide)
  have a4 : ¬ c = (894 : Int32) := own_G hl (by decide)
  have a5 : (90 : Int32) < c := own_C hl (by decide)
  have a6 : (94 : Int32) < c := own_C hl (by decide)
  have a7 : (122 : Int32) < c := own_C hl (by decide)
  have a8 : (191 : Int32) < c := own_C hl (by decide)
  have a9 : (214 : Int32) < c := own_C hl (by decide)
  have a10 : (246 : Int32) < c := own_C hl (by decide)
  have a11 : (767 : Int32) < c := own_C hl (by decide)
  have a12 : (879 : Int32) < c := own_C hl (by decide)
  have a13 : (893 : Int32) < c := own_C hl (by decide)
  have a14 : (8191 : Int32) < c := own_C hl (by decide)
  have a15 : (8203 : Int32) < c := own_C hl (by decide)
  have a16 : (8205 : Int32) < c := own_C hl (by decide)
  have a17 : (8303 : Int32) < c := own_C hl (by decide)
  have a18 : (8591 : Int32) < c := own_C hl (by decide)
  have a19 : (11263 : Int32) < c := own_C hl (by decide)
  have a20 : (12271 : Int32) < c := own_C hl (by decide)
  have a21 : (12288 : Int32) < c := own_C hl (by decide)
  have a22 : (55295 : Int32) < c := own_C hl (by decide)
  have a23 : (63743 : Int32) < c := own_C hl (by decide)
  have a24 : ¬ (64975 : Int32) < c := own_D hu (by decide)
  have a25 : ¬ (65007 : Int32) < c := own_D hu (by decide)
  have a26 : ¬ (65533 : Int32) < c := own_D hu (by decide)
  have a27 : ¬ (65535 : Int32) < c := own_D hu (by decide)
  have a28 : ¬ (983039 : Int32) < c := own_D hu (by decide)
  have a29 : ¬ c < (65 : Int32) := own_B hl (by decide)
  have a30 : ¬ c < (91 : Int32) := own_B hl (by decide)
  have a31 : ¬ c < (97 : Int32) := own_B hl (by decide)
  have a32 : ¬ c < (123 : Int32) := own_B hl (by decide)
  have a33 : ¬ c < (192 : Int32) := own_B hl (by decide)
  have a34 : ¬ c < (216 : Int32) := own_B hl (by decide)
  have a35 : ¬ c < (248 : Int32) := own_B hl (by decide)
  have a36 : ¬ c < (768 : Int32) := own_B hl (by decide)
  have a37 : ¬ c < (880 : Int32) := own_B hl (by decide)
  have a38 : ¬ c < (895 : Int32) := own_B hl (by decide)
  have a39 : ¬ c < (8192 : Int32) := own_B hl (by decide)
  have a40 : ¬ c < (8204 : Int32) := own_B hl (by decide)
  have a41 : ¬ c < (8206 : Int32) := own_B hl (by decide)
  have a42 : ¬ c < (8304 : Int32) := own_B hl (by decide)
  have a43 : ¬ c < (8592 : Int32) := own_B hl (by decide)
  have a44 : ¬ c < (11264 : Int32) := own_B hl (by decide)
  have a45 : ¬ c < (12272 : Int32) := own_B hl (by decide)
  have a46 : ¬ c < (12289 : Int32) := own_B hl (by decide)
  have a47 : ¬ c < (55296 : Int32) := own_B hl (by decide)
  have a48 : ¬ c < (63744 : Int32) := own_B hl (by decide)
  have a49 : c < (64976 : Int32) := own_A hu (by decide)
  have a50 : c < (65008 : Int32) := own_A hu (by decide)
  have a51 : c < (65534 : Int32) := own_A hu (by decide)
  have a52 : c < (65536 : Int32) := own_A hu (by decide)
  simp only [f1_191, f1_195, f1_185, f1_179, f1_173, f1_167, f1_161, f1_155, f1_149, f1_142, f1_135, f1_128, f1_121, f1_114, f1_107, f1_100, f1_93, f1_86, f1_79, f1_72, f1_65, f1_58, f1_51, f1_44, f1_37, f1_30, f1_24, f1_18, f1_12, f1_6, f1_0, f2_12, f2_65, f2_198, f2_196, f2_190, f2_184, f2_182, f2_176, f2_170, f2_168, f2_162, f2_156, f2_154, f2_147, f2_140, f2_138, f2_131, f2_124, f2_122, f2_115, f2_108, f2_106, f2_99, f2_92, f2_90, f2_83, f2_81, f2_74, f2_67, f2_58, f2_51, f2_49, f2_42, f2_36, f2_34, f2_28, f2_26, f2_20, f2_14, f2_6, f2_0, a0, a1, a2, a3, a4, a5, a6, a7, a8, a9, a10, a11, a12, a13, a14, a15, a16, a17, a18, a19, a20, a21, a22, a23, a24, a25, a26, a27, a28, a29, a30, a31, a32, a33, a34, a35, a36, a37, a38, a39, a40, a41, a42, a43, a44, a45, a46, a47, a48, a49, a50, a51, a52, own_10, ↓reduceIte]
theorem own_i26 (c : Int32) (hl : ¬ c < (64976 : Int32)) (hu : c < (65008 : Int32)) : f1_0 c = f2_0 c := by
  have a0 : ¬ c = (95 : Int32) := own_G hl (by decide)
  have a1 : ¬ c = (96 : Int32) := own_G hl (by decide)
  have a2 : ¬ c = (215 : Int32) := own_G hl (by decide)
  have a3 : ¬ c = (247 : Int32) := own_G hl (by decide)
  have a4 : ¬ c = (894 : Int32) := own_G hl (by decide)
  have a5 : (90 : Int32) < c := own_C hl (by decide)
  have a6 : (94 : Int32) < c := own_C hl (by decide)
  have a7 : (122 : Int32) < c := own_C hl (by decide)
  have a8 : (191 : Int32) < c := own_C hl (by decide)
  have a9 : (214 : Int32) < c := own_C hl (by decide)
  have a10 : (246 : Int32) < c := own_C hl (by decide)
  have a11 : (767 : Int32) < c := own_C hl (by decide)
  have a12 : (879 : Int32) < c := own_C hl (by decide)
  have a13 : (893 : Int32) < c := own_C hl (by decide)
  have a14 : (8191 : Int32) < c := own_C hl (by decide)
  have a15 : (8203 : Int32) < c := own_C hl (by decide)
  have a16 : (8205 : Int32) < c := own_C hl (by decide)
  have a17 : (8303 : Int32) < c := own_C hl (by decide)
  have a18 : (8591 : Int32) < c := own_C hl (by decide)
  have a19 : (11263 : Int32) < c := own_C hl (by decide)
  have a20 : (12271 : Int32) < c := own_C hl (by decide)
  have a21 : (12288 : Int32) < c := own_C hl (by decide)
  have a22 : (55295 : Int32) < c := own_C hl (by decide)
  have a23 : (63743 : Int32) < c := own_C hl (by decide)
  have a24 : (64975 : Int32) < c := own_C hl (by decide)
  have a25 : ¬ (65007 : Int32) < c := own_D hu (by decide)
  have a26 : ¬ (65533 : Int32) < c := own_D hu (by decide)
  have a27 : ¬ (65535 : Int32) < c := own_D hu (by decide)
  have a28 : ¬ (983039 : Int32) < c := own_D hu (by decide)
  have a29 : ¬ c < (65 : Int32) := own_B hl (by decide)
  have a30 : ¬ c < (91 : Int32) := own_B hl (by decide)
  have a31 : ¬ c < (97 : Int32) := own_B hl (by decide)
  have a32 : ¬ c < (123 : Int32) := own_B hl (by decide)
  have a33 : ¬ c < (192 : Int32) := own_B hl (by decide)
  have a34 : ¬ c < (216 : Int32) := own_B hl (by decide)
  have a35 : ¬ c < (248 : Int32) := own_B hl (by decide)
  have a36 : ¬ c < (768 : Int32) := own_B hl (by decide)
  have a37 : ¬ c < (880 : Int32) := own_B hl (by decide)
  have a38 : ¬ c < (895 : Int32) := own_B hl (by decide)
  have a39 : ¬ c < (8192 : Int32) := own_B hl (by decide)
  have a40 : ¬ c < (8204 : Int32) := own_B hl (by decide)
  have a41 : ¬ c < (8206 : Int32) := own_B hl (by decide)
  have a42 : ¬ c < (8304 : Int32) := own_B hl (by decide)
  have a43 : ¬ c < (8592 : Int32) := own_B hl (by decide)
  have a44 : ¬ c < (11264 : Int32) := own_B hl (by decide)
  have a45 : ¬ c < (12272 : Int32) := own_B hl (by decide)
  have a46 : ¬ c < (12289 : Int32) := own_B hl (by decide)
  have a47 : ¬ c < (55296 : Int32) := own_B hl (by decide)
  have a48 : ¬ c < (63744 : Int32) := own_B hl (by decide)
  have a49 : ¬ c < (64976 : Int32) := own_B hl (by decide)
  have a50 : c < (65008 : Int32) := own_A hu (by decide)
  have a51 : c < (65534 : Int32) := own_A hu (by decide)
  have a52 : c < (65536 : Int32) := own_A hu (by decide)
  simp only [f1_191, f1_195, f1_185, f1_179, f1_173, f1_167, f1_161, f1_155, f1_149, f1_142, f1_135, f1_128, f1_121, f1_114, f1_107, f1_100, f1_93, f1_86, f1_79, f1_72, f1_65, f1_58, f1_51, f1_44, f1_37, f1_30, f1_24, f1_18, f1_12, f1_6, f1_0, f2_12, f2_65, f2_198, f2_196, f2_190, f2_184, f2_182, f2_176, f2_170, f2_168, f2_162, f2_156, f2_154, f2_147, f2_140, f2_138, f2_131, f2_124, f2_122, f2_115, f2_108, f2_106, f2_99, f2_92, f2_90, f2_83, f2_81, f2_74, f2_67, f2_58, f2_51, f2_49, f2_42, f2_36, f2_34, f2_28, f2_26, f2_20, f2_14, f2_6, f2_0, a0, a1, a2, a3, a4, a5, a6, a7, a8, a9, a10, a11, a12, a13, a14, a15, a16, a17, a18, a19, a20, a21, a22, a23, a24, a25, a26, a27, a28, a29, a30, a31, a32, a33, a34, a35, a36, a37, a38, a39, a40, a41, a42, a43, a44, a45, a46, a47, a48, a49, a50, a51, a52, own_10, ↓reduceIte]
theorem own_i27 (c : Int32) (hl : ¬ c < (65008 : Int32)) (hu : c < (65534 : Int32)) : f1_0 c = f2_0 c := by
  have a0 : ¬ c = (95 : Int32) := own_G hl (by decide)
  have a1 : ¬ c = (96 : Int32) := own_G hl (by decide)
  have a2 : ¬ c = (215 : Int32) := own_G hl (by decide)
  have a3 : ¬ c = (247 : Int32) := own_G hl (by decide)
  have a4 : ¬ c = (894 : Int32) := own_G hl (by decide)
  have a5 : (90 : Int32) < c := own_C hl (by decide)
  have a6 : (94 : Int32) < c := own_C hl (by decide)
  have a7 : (122 : Int32) < c := own_C hl (by decide)
  have a8 : (191 : Int32) < c := own_C hl (by decide)
  have a9 : (214 : Int32) < c := own_C hl (by decide)
  have a10 : (246 : Int32) < c := own_C hl (by decide)
  have a11 : (767 : Int32) < c := own_C hl (by decide)
  have a12 : (879 : Int32) < c := own_C hl (by decide)
  have a13 : (893 : Int32) < c := own_C hl (by decide)
  have a14 : (8191 : Int32) < c := own_C hl (by decide)
  have a15 : (8203 : Int32) < c := own_C hl (by decide)
  have a16 : (8205 : Int32) < c := own_C hl (by decide)
  have a17 : (8303 : Int32) < c := own_C hl (by decide)
  have a18 : (8591 : Int32) < c := own_C hl (by decide)
  have a19 : (11263 : Int32) < c := own_C hl (by decide)
  have a20 : (12271 : Int32) < c := own_C hl (by decide)
  have a21 : (12288 : Int32) < c := own_C hl (by decide)
  have a22 : (55295 : Int32) < c := own_C hl (by decide)
  have a23 : (63743 : Int32) < c := own_C hl (by decide)
  have a24 : (64975 : Int32) < c := own_C hl (by decide)
  have a25 : (65007 : Int32) < c := own_C hl (by decide)
  have a26 : ¬ (65533 : Int32) < c := own_D hu (by decide)
  have a27 : ¬ (65535 : Int32) < c := own_D hu (by decide)
  have a28 : ¬ (983039 : Int32) < c := own_D hu (by decide)
  have a29 : ¬ c < (65 : Int32) := own_B hl (by decide)
  have a30 : ¬ c < (91 : Int32) := own_B hl (by decide)
  have a31 : ¬ c < (97 : Int32) := own_B hl (by decide)
  have a32 : ¬ c < (123 : Int32) := own_B hl (by decide)
  have a33 : ¬ c < (192 : Int32) := own_B hl (by decide)
  have a34 : ¬ c < (216 : Int32) := own_B hl (by decide)
  have a35 : ¬ c < (248 : Int32) := own_B hl (by decide)
  have a36 : ¬ c < (768 : Int32) := own_B hl (by decide)
  have a37 : ¬ c < (880 : Int32) := own_B hl (by decide)
  have a38 : ¬ c < (895 : Int32) := own_B hl (by decide)
  have a39 : ¬ c < (8192 : Int32) := own_B hl (by decide)
  have a40 : ¬ c < (8204 : Int32) := own_B hl (by decide)
  have a41 : ¬ c < (8206 : Int32) := own_B hl (by decide)
  have a42 : ¬ c < (8304 : Int32) := own_B hl (by decide)
  have a43 : ¬ c < (8592 : Int32) := own_B hl (by decide)
  have a44 : ¬ c < (11264 : Int32) := own_B hl (by decide)
  have a45 : ¬ c < (12272 : Int32) := own_B hl (by decide)
  have a46 : ¬ c < (12289 : Int32) := own_B hl (by decide)
  have a47 : ¬ c < (55296 : Int32) := own_B hl (by decide)
  have a48 : ¬ c < (63744 : Int32) := own_B hl (by decide)
  have a49 : ¬ c < (64976 : Int32) := own_B hl (by decide)
  have a50 : ¬ c < (65008 : Int32) := own_B hl (by decide)
  have a51 : c < (65534 : Int32) := own_A hu (by decide)
  have a52 : c < (65536 : Int32) := own_A hu (by decide)
  simp only [f1_191, f1_195, f1_185, f1_179, f1_173, f1_167, f1_161, f1_155, f1_149, f1_142, f1_135, f1_128, f1_121, f1_114, f1_107, f1_100, f1_93, f1_86, f1_79, f1_72, f1_65, f1_58, f1_51, f1_44, f1_37, f1_30, f1_24, f1_18, f1_12, f1_6, f1_0, f2_12, f2_65, f2_198, f2_196, f2_190, f2_184, f2_182, f2_176, f2_170, f2_168, f2_162, f2_156, f2_154, f2_147, f2_140, f2_138, f2_131, f2_124, f2_122, f2_115, f2_108, f2_106, f2_99, f2_92, f2_90, f2_83, f2_81, f2_74, f2_67, f2_58, f2_51, f2_49, f2_42, f2_36, f2_34, f2_28, f2_26, f2_20, f2_14, f2_6, f2_0, a0, a1, a2, a3, a4, a5, a6, a7, a8, a9, a10, a11, a12, a13, a14, a15, a16, a17, a18, a19, a20, a21, a22, a23, a24, a25, a26, a27, a28, a29, a30, a31, a32, a33, a34, a35, a36, a37, a38, a39, a40, a41, a42, a43, a44, a45, a46, a47, a48, a49, a50, a51, a52, own_10, ↓reduceIte]
theorem own_i28 (c : Int32) (hl : ¬ c < (65534 : Int32)) (hu : c < (65536 : Int32)) : f1_0 c = f2_0 c := by
  have a0 : ¬ c = (95 : Int32) := own_G hl (by decide)
  have a1 : ¬ c = (96 : Int32) := own_G hl (by decide)
  have a2 : ¬ c = (215 : Int32) := own_G hl (by decide)
  have a3 : ¬ c = (247 : Int32) := own_G hl (by decide)
  have a4 : ¬ c = (894 : Int32) := own_G hl (by decide)
  have a5 : (90 : Int32) < c := own_C hl (by decide)
  have a6 : (94 : Int32) < c := own_C hl (by decide)
  have a7 : (122 : Int32) < c := own_C hl (by decide)
  have a8 : (191 : Int32) < c := own_C hl (by decide)
  have a9 : (214 : Int32) < c := own_C hl (by decide)
  have a10 : (246 : Int32) < c := own_C hl (by decide)
  have a11 : (767 : Int32) < c := own_C hl (by decide)
  have a12 : (879 : Int32) < c := own_C hl (by decide)
  have a13 : (893 : Int32) < c := own_C hl (by decide)
  have a14 : (8191 : Int32) < c := own_C hl (by decide)
  have a15 : (8203 : Int32) < c := own_C hl (by decide)
  have a16 : (8205 : Int32) < c := own_C hl (by decide)
  have a17 : (8303 : Int32) < c := own_C hl (by decide)
  have a18 : (8591 : Int32) < c := own_C hl (by decide)
  have a19 : (11263 : Int32) < c := own_C hl (by decide)
  have a20 : (12271 : Int32) < c := own_C hl (by decide)
  have a21 : (12288 : Int32) < c := own_C hl (by decide)
  have a22 : (55295 : Int32) < c := own_C hl (by decide)
  have a23 : (63743 : Int32) < c := own_C hl (by decide)
  have a24 : (64975 : Int32) < c := own_C hl (by decide)
  have a25 : (65007 : Int32) < c := own_C hl (by decide)
  have a26 : (65533 : Int32) < c := own_C hl (by decide)
  have a27 : ¬ (65535 : Int32) < c := own_D hu (by decide)
  have a28 : ¬ (983039 : Int32) < c := own_D hu (by decide)
  have a29 : ¬ c < (65 : Int32) := own_B hl (by decide)
  have a30 : ¬ c < (91 : Int32) := own_B hl (by decide)
  have a31 : ¬ c < (97 : Int32) := own_B hl (by decide)
  have a32 : ¬ c < (123 : Int32) := own_B hl (by decide)
  have a33 : ¬ c < (192 : Int32) := own_B hl (by decide)
  have a34 : ¬ c < (216 : Int32) := own_B hl (by decide)
  have a35 : ¬ c < (248 : Int32) := own_B hl (by decide)
  have a36 : ¬ c < (768 : Int32) := own_B hl (by decide)
  have a37 : ¬ c < (880 : Int32) := own_B hl (by decide)
  have a38 : ¬ c < (895 : Int32) := own_B hl (by decide)
  have a39 : ¬ c < (8192 : Int32) := own_B hl (by decide)
  have a40 : ¬ c < (8204 : Int32) := own_B hl (by decide)
  have a41 : ¬ c < (8206 : Int32) := own_B hl (by decide)
  have a42 : ¬ c < (8304 : Int32) := own_B hl (by decide)
  have a43 : ¬ c < (8592 : Int32) := own_B hl (by decide)
  have a44 : ¬ c < (11264 : Int32) := own_B hl (by decide)
  have a45 : ¬ c < (12272 : Int32) := own_B hl (by decide)
  have a46 : ¬ c < (12289 : Int32) := own_B hl (by decide)
  have a47 : ¬ c < (55296 : Int32) := own_B hl (by decide)
  have a48 : ¬ c < (63744 : Int32) := own_B hl (by decide)
  have a49 : ¬ c < (64976 : Int32) := own_B hl (by decide)
  have a50 : ¬ c < (65008 : Int32) := own_B hl (by decide)
  have a51 : ¬ c < (65534 : Int32) := own_B hl (by decide)
  have a52 : c < (65536 : Int32) := own_A hu (by decide)
  simp only [f1_191, f1_195, f1_185, f1_179, f1_173, f1_167, f1_161, f1_155, f1_149, f1_142, f1_135, f1_128, f1_121, f1_114, f1_107, f1_100, f1_93, f1_86, f1_79, f1_72, f1_65, f1_58, f1_51, f1_44, f1_37, f1_30, f1_24, f1_18, f1_12, f1_6, f1_0, f2_12, f2_65, f2_198, f2_196, f2_190, f2_184, f2_182, f2_176, f2_170, f2_168, f2_162, f2_156, f2_154, f2_147, f2_140, f2_138, f2_131, f2_124, f2_122, f2_115, f2_108, f2_106, f2_99, f2_92, f2_90, f2_83, f2_81, f2_74, f2_67, f2_58, f2_51, f2_49, f2_42, f2_36, f2_34, f2_28, f2_26, f2_20, f2_14, f2_6, f2_0, a0, a1, a2, a3, a4, a5, a6, a7, a8, a9, a10, a11, a12, a13, a14, a15, a16, a17, a18, a19, a20, a21, a22, a23, a24, a25, a26, a27, a28, a29, a30, a31, a32, a33, a34, a35, a36, a37, a38, a39, a40, a41, a42, a43, a44, a45, a46, a47, a48, a49, a50, a51, a52, own_10, ↓reduceIte]
theorem own_i29 (c : Int32) (hl : ¬ c < (65536 : Int32)) (hu : c < (983040 : Int32)) : f1_0 c = f2_0 c := by
  have a0 : ¬ c = (95 : Int32) := own_G hl (by decide)
  have a1 : ¬ c = (96 : Int32) := own_G hl (by decide)
  have a2 : ¬ c = (215 : Int32) := own_G hl (by decide)
  have a3 : ¬ c = (247 : Int32) := own_G hl (by decide)
  have a4 : ¬ c = (894 : Int32) := own_G hl (by decide)
  have a5 : (90 : Int32) < c := own_C hl (by decide)
  have a6 : (94 : Int32) < c := own_C hl (by decide)
  have a7 : (122 : Int32) < c := own_C hl (by decide)
  have a8 : (191 : Int32) < c := own_C hl (by decide)
  have a9 : (214 : Int32) < c := own_C hl (by decide)
  have a10 : (246 : Int32) < c := own_C hl (by decide)
  have a11 : (767 : Int32) < c := own_C hl (by decide)
  have a12 : (879 : Int32) < c := own_C hl (by decide)
  have a13 : (893 : Int32) < c := own_C hl (by decide)
  have a14 : (8191 : Int32) < c := own_C hl (by decide)
  have a15 : (8203 : Int32) < c := own_C hl (by decide)
  have a16 : (8205 : Int32) < c := own_C hl (by decide)
  have a17 : (8303 : Int32) < c := own_C hl (by decide)
  have a18 : (8591 : Int32) < c := own_C hl (by decide)
  have a19 : (11263 : Int32) < c := own_C hl (by decide)
  have a20 : (12271 : Int32) < c := own_C hl (by decide)
  have a21 : (12288 : Int32) < c := own_C hl (by decide)
  have a22 : (55295 : Int32) < c := own_C hl (by decide)
  have a23 : (63743 : Int32) < c := own_C hl (by decide)
  have a24 : (64975 : Int32) < c := own_C hl (by decide)
  have a25 : (65007 : Int32) < c := own_C hl (by decide)
  have a26 : (65533 : Int32) < c := own_C hl (by decide)
  have a27 : (65535 : Int32) < c := own_C hl (by decide)
  have a28 : ¬ (983039 : Int32) < c := own_D hu (by decide)
  have a29 : ¬ c < (65 : Int32) := own_B hl (by decide)
  have a30 : ¬ c < (91 : Int32) := own_B hl (by decide)
  have a31 : ¬ c < (97 : Int32) := own_B hl (by decide)
  have a32 : ¬ c < (123 : Int32) := own_B hl (by decide)
  have a33 : ¬ c < (192 : Int32) := own_B hl (by decide)
  have a34 : ¬ c < (216 : Int32) := own_B hl (by decide)
  have a35 : ¬ c < (248 : Int32) := own_B hl (by decide)
  have a36 : ¬ c < (768 : Int32) := own_B hl (by decide)
  have a37 : ¬ c < (880 : Int32) := own_B hl (by decide)
  have a38 : ¬ c < (895 : Int32) := own_B hl (by decide)
  have a39 : ¬ c < (8192 : Int32) := own_B hl (by decide)
  have a40 : ¬ c < (8204 : Int32) := own_B hl (by decide)
  have a41 : ¬ c < (8206 : Int32) := own_B hl (by decide)
  have a42 : ¬ c < (8304 : Int32) := own_B hl (by decide)
  have a43 : ¬ c < (8592 : Int32) := own_B hl (by decide)
  have a44 : ¬ c < (11264 : Int32) := own_B hl (by decide)
  have a45 : ¬ c < (12272 : Int32) := own_B hl (by decide)
  have a46 : ¬ c < (12289 : Int32) := own_B hl (by decide)
  have a47 : ¬ c < (55296 : Int32) := own_B hl (by decide)
  have a48 : ¬ c < (63744 : Int32) := own_B hl (by decide)
  have a49 : ¬ c < (64976 : Int32) := own_B hl (by decide)
  have a50 : ¬ c < (65008 : Int32) := own_B hl (by decide)
  have a51 : ¬ c < (65534 : Int32) := own_B hl (by decide)
  have a52 : ¬ c < (65536 : Int32) := own_B hl (by decide)
  simp only [f1_191, f1_195, f1_185, f1_179, f1_173, f1_167, f1_161, f1_155, f1_149, f1_142, f1_135, f1_128, f1_121, f1_114, f1_107, f1_100, f1_93, f1_86, f1_79, f1_72, f1_65, f1_58, f1_51, f1_44, f1_37, f1_30, f1_24, f1_18, f1_12, f1_6, f1_0, f2_12, f2_65, f2_198, f2_196, f2_190, f2_184, f2_182, f2_176, f2_170, f2_168, f2_162, f2_156, f2_154, f2_147, f2_140, f2_138, f2_131, f2_124, f2_122, f2_115, f2_108, f2_106, f2_99, f2_92, f2_90, f2_83, f2_81, f2_74, f2_67, f2_58, f2_51, f2_49, f2_42, f2_36, f2_34, f2_28, f2_26, f2_20, f2_14, f2_6, f2_0, a0, a1, a2, a3, a4, a5, a6, a7, a8, a9, a10, a11, a12, a13, a14, a15, a16, a17, a18, a19, a20, a21, a22, a23, a24, a25, a26, a27, a28, a29, a30, a31, a32, a33, a34, a35, a36, a37, a38, a39, a40, a41, a42, a43, a44, a45, a46, a47, a48, a49, a50, a51, a52, own_10, ↓reduceIte]
theorem own_i30 (c : Int32) (hl : ¬ c < (983040 : Int32)) : f1_0 c = f2_0 c := by
  have a0 : ¬ c = (95 : Int32) := own_G hl (by decide)
  have a1 : ¬ c = (96 : Int32) := own_G hl (by decide)
  have a2 : ¬ c = (215 : Int32) := own_G hl (by decide)
  have a3 : ¬ c = (247 : Int32) := own_G hl (by decide)
  have a4 : ¬ c = (894 : Int32) := own_G hl (by decide)
  have a5 : (90 : Int32) < c := own_C hl (by decide)
  have a6 : (94 : Int32) < c := own_C hl (by decide)
  have a7 : (122 : Int32) < c := own_C hl (by decide)
  have a8 : (191 : Int32) < c := own_C hl (by decide)
  have a9 : (214 : Int32) < c := own_C hl (by decide)
  have a10 : (246 : Int32) < c := own_C hl (by decide)
  have a11 : (767 : Int32) < c := own_C hl (by decide)
  have a12 : (879 : Int32) < c := own_C hl (by decide)
  have a13 : (893 : Int32) < c := own_C hl (by decide)
  have a14 : (8191 : Int32) < c := own_C hl (by decide)
  have a15 : (8203 : Int32) < c := own_C hl (by decide)
  have a16 : (8205 : Int32) < c := own_C hl (by decide)
  have a17 : (8303 : Int32) < c := own_C hl (by decide)
  have a18 : (8591 : Int32) < c := own_C hl (by decide)
  have a19 : (11263 : Int32) < c := own_C hl (by decide)
  have a20 : (12271 : Int32) < c := own_C hl (by decide)
  have a21 : (12288 : Int32) < c := own_C hl (by decide)
  have a22 : (55295 : Int32) < c := own_C hl (by decide)
  have a23 : (63743 : Int32) < c := own_C hl (by decide)
  have a24 : (64975 : Int32) < c := own_C hl (by decide)
  have a25 : (65007 : Int32) < c := own_C hl (by decide)
  have a26 : (65533 : Int32) < c := own_C hl (by decide)
  have a27 : (65535 : Int32) < c := own_C hl (by decide)
  have a28 : (983039 : Int32) < c := own_C hl (by decide)
  have a29 : ¬ c < (65 : Int32) := own_B hl (by decide)
  have a30 : ¬ c < (91 : Int32) := own_B hl (by decide)
  have a31 : ¬ c < (97 : Int32) := own_B hl (by decide)
  have a32 : ¬ c < (123 : Int32) := own_B hl (by decide)
  have a33 : ¬ c < (192 : Int32) := own_B hl (by decide)
  have a34 : ¬ c < (216 : Int32) := own_B hl (by decide)
  have a35 : ¬ c < (248 : Int32) := own_B hl (by decide)
  have a36 : ¬ c < (768 : Int32) := own_B hl (by decide)
  have a37 : ¬ c < (880 : Int32) := own_B hl (by decide)
  have a38 : ¬ c < (895 : Int32) := own_B hl (by decide)
  have a39 : ¬ c < (8192 : Int32) := own_B hl (by decide)
  have a40 : ¬ c < (8204 : Int32) := own_B hl (by decide)
  have a41 : ¬ c < (8206 : Int32) := own_B hl (by decide)
  have a42 : ¬ c < (8304 : Int32) := own_B hl (by decide)
  have a43 : ¬ c < (8592 : Int32) := own_B hl (by decide)
  have a44 : ¬ c < (11264 : Int32) := own_B hl (by decide)
  have a45 : ¬ c < (12272 : Int32) := own_B hl (by decide)
  have a46 : ¬ c < (12289 : Int32) := own_B hl (by decide)
  have a47 : ¬ c < (55296 : Int32) := own_B hl (by decide)
  have a48 : ¬ c < (63744 : Int32) := own_B hl (by decide)
  have a49 : ¬ c < (64976 : Int32) := own_B hl (by decide)
  have a50 : ¬ c < (65008 : Int32) := own_B hl (by decide)
  have a51 : ¬ c < (65534 : Int32) := own_B hl (by decide)
  have a52 : ¬ c < (65536 : Int32) := own_B hl (by decide)
  simp only [f1_191, f1_195, f1_185, f1_179, f1_173, f1_167, f1_161, f1_155, f1_149, f1_142, f1_135, f1_128, f1_121, f1_114, f1_107, f1_100, f1_93, f1_86, f1_79, f1_72, f1_65, f1_58, f1_51, f1_44, f1_37, f1_30, f1_24, f1_18, f1_12, f1_6, f1_0, f2_12, f2_65, f2_198, f2_196, f2_190, f2_184, f2_182, f2_176, f2_170, f2_168, f2_162, f2_156, f2_154, f2_147, f2_140, f2_138, f2_131, f2_124, f2_122, f2_115, f2_108, f2_106, f2_99, f2_92, f2_90, f2_83, f2_81, f2_74, f2_67, f2_58, f2_51, f2_49, f2_42, f2_36, f2_34, f2_28, f2_26, f2_20, f2_14, f2_6, f2_0, a0, a1, a2, a3, a4, a5, a6, a7, a8, a9, a10, a11, a12, a13, a14, a15, a16, a17, a18, a19, a20, a21, a22, a23, a24, a25, a26, a27, a28, a29, a30, a31, a32, a33, a34, a35, a36, a37, a38, a39, a40, a41, a42, a43, a44, a45, a46, a47, a48, a49, a50, a51, a52, own_10, ↓reduceIte]
theorem own_eq (c : Int32) : f1_0 c = f2_0 c := by
  by_cases h0 : c < (65 : Int32)
  · exact own_i0 c h0
  by_cases h1 : c < (91 : Int32)
  · exact own_i1 c h0 h1
  by_cases h2 : c < (95 : Int32)
  · exact own_i2 c h1 h2
  by_cases h3 : c < (96 : Int32)
  · exact own_i3 c h2 h3
  by_cases h4 : c < (97 : Int32)
  · exact own_i4 c h3 h4
  by_cases h5 : c < (123 : Int32)
  · exact own_i5 c h4 h5
  by_cases h6 : c < (192 : Int32)
  · exact own_i6 c h5 h6
  by_cases h7 : c < (215 : Int32)
  · exact own_i7 c h6 h7
  by_cases h8 : c < (216 : Int32)
  · exact own_i8 c h7 h8
  by_cases h9 : c < (247 : Int32)
  · exact own_i9 c h8 h9
  by_cases h10 : c < (248 : Int32)
  · exact own_i10 c h9 h10
  by_cases h11 : c < (768 : Int32)
  · exact own_i11 c h10 h11
  by_cases h12 : c < (880 : Int32)
  · exact own_i12 c h11 h12
  by_cases h13 : c < (894 : Int32)
  · exact own_i13 c h12 h13
  by_cases h14 : c < (895 : Int32)
  · exact own_i14 c h13 h14
  by_cases h15 : c < (8192 : Int32)
  · exact own_i15 c h14 h15
  by_cases h16 : c < (8204 : Int32)
  · exact own_i16 c h15 h16
  by_cases h17 : c < (8206 : Int32)
  · exact own_i17 c h16 h17
  by_cases h18 : c < (8304 : Int32)
  · exact own_i18 c h17 h18
  by_cases h19 : c < (8592 : Int32)
  · exact own_i19 c h18 h19
  by_cases h20 : c < (11264 : Int32)
  · exact own_i20 c h19 h20
  by_cases h21 : c < (12272 : Int32)
  · exact own_i21 c h20 h21
  by_cases h22 : c < (12289 : Int32)
  · exact own_i22 c h21 h22
  by_cases h23 : c < (55296 : Int32)
  · exact own_i23 c h22 h23
  by_cases h24 : c < (63744 : Int32)
  · exact own_i24 c h23 h24
  by_cases h25 : c < (64976 : Int32)
  · exact own_i25 c h24 h25
  by_cases h26 : c < (65008 : Int32)
  · exact own_i26 c h25 h26
  by_cases h27 : c < (65534 : Int32)
  · exact own_i27 c h26 h27
  by_cases h28 : c < (65536 : Int32)
  · exact own_i28 c h27 h28
  by_cases h29 : c < (983040 : Int32)
  · exact own_i29 c h28 h29
  exact own_i30 c h29
theorem own_ix (x : Int32) : ¬ ((x &&& (2147483647 : Int32)) % (30 : Int32)) < 0 ∧ ((x &&& (2147483647 : Int32)) % (30 : Int32)).toNatClampNeg < 30 := by
  have h1 := c_mask x (2147483647 : Int32) 31 (by decide) (by decide)
  have h2 := (c_irem (x &&& (2147483647 : Int32)) (30 : Int32) 30 (by decide)).1 (by omega)
  have h3 : ¬ ((x &&& (2147483647 : Int32)) % (30 : Int32)) < 0 := by rw [Int32.lt_iff_toInt_lt, show (0 : Int32).toInt = 0 from rfl]; omega
  have h4 := own_clamp h3
  exact ⟨h3, by omega⟩
set_option maxRecDepth 65536 in
set_option maxHeartbeats 40000000 in
theorem fl195 {p : Program} {l : Launch} {e : Env} {s : State} {m : MethodId} {args : Array Value} {below : List Frame} {meth : Method} {c : Code} {T0 : State} {locs : List Loc} {Z : State} {a0 : Array Value} {h0 : Heap} {n0 : Nat} {f : Nat → Int32} (x0 : Int32) (x1 : Int32) (x2 : Int32) (o : Addr) (X0 : Stand p l e room_1 s m args below meth c T0 locs 1 30) (hx : p.tables.exec = Jvm.exec) (hZ : Z.Warmed39 s.vm) (hw : ∀ d ∈ tables_1, d.before a0 Z = true) (hby : c.code = code) (hml : c.maxLocals = 7) (hown : s.vm.findClass "com/example/lehre/lehre/XmlNamesIsNameStartPinLaw" = some m.cls) (hret : meth.sig.returnType = some .boolean) (hlk : meth.locks = false) (e0 : T0.heap = h0) (Z0 : n0 ≤ h0.size) (N0 : Fr n0 locs) (g0 : n0 ≤ o) (V : own_Arr Z h0 o 30 f) (hone : ∀ w : Int32, f0_205 x0 x1 x2 w = 1) :
    own_Goes p e below s n0 room_1.cells room_1.slots own_one (T0.setTop (mkF m 195 #[.val (.int x0), .val (.int x1), .val (.int x2), .unset, .unset, .unset, .unset] [(.ref o)])) := by
  have hg := own_get X0 hx hZ e0 V (pc := 204) (Ls := #[.val (.int x0), .val (.int x1), .val (.int x2), .val (.ref o), .unset, .unset, .unset]) (rest := []) ((x1 &&& (2147483647 : Int32)) % (30 : Int32)) _ rfl (own_ix x1).1 (own_ix x1).2 (hb hby at_204)
  refine own_Goes.pre (fun t kt => ?_) (b0_205 x0 x1 x2 o (f (((x1 &&& (2147483647 : Int32)) % (30 : Int32))).toNatClampNeg) X0 hx hZ hw hby hml hown hret hlk e0 Z0 N0 (by rw [hone]; exact rfl))
  show Steps p.tables e below (T0.setTop (mkF m 195 #[.val (.int x0), .val (.int x1), .val (.int x2), .unset, .unset, .unset, .unset] [(.ref o)])) _
  refine XS.astoreN X0.here hx rfl (hb hby at_195) rfl rfl (l' := #[.val (.int x0), .val (.int x1), .val (.int x2), .val (.ref o), .unset, .unset, .unset]) rfl ?_
  show Steps p.tables e below (T0.setTop (mkF m 196 #[.val (.int x0), .val (.int x1), .val (.int x2), .val (.ref o), .unset, .unset, .unset] [])) _
  refine XS.aloadN X0.here hx rfl (hb hby at_196) rfl rfl ?_
  show Steps p.tables e below (T0.setTop (mkF m 197 #[.val (.int x0), .val (.int x1), .val (.int x2), .val (.ref o), .unset, .unset, .unset] [(.ref o)])) _
  refine XS.iloadN X0.here hx rfl (hb hby at_197) rfl ?_
  show Steps p.tables e below (T0.setTop (mkF m 198 #[.val (.int x0), .val (.int x1), .val (.int x2), .val (.ref o), .unset, .unset, .unset] [(.int x1), (.ref o)])) _
  refine X0.ldcInt hx hown (mvT hZ (hw _ (List.mem_of_getElem? (i := 8) rfl))) (g := (mkF m 198 #[.val (.int x0), .val (.int x1), .val (.int x2), .val (.ref o), .unset, .unset, .unset] [(.int x1), (.ref o)])) rfl (hb hby at_198) _ ?_
  show Steps p.tables e below (T0.setTop (mkF m 200 #[.val (.int x0), .val (.int x1), .val (.int x2), .val (.ref o), .unset, .unset, .unset] [(.int (2147483647 : Int32)), (.int x1), (.ref o)])) _
  refine XS.iand X0.here hx rfl (hb hby at_200) rfl ?_
  show Steps p.tables e below (T0.setTop (mkF m 201 #[.val (.int x0), .val (.int x1), .val (.int x2), .val (.ref o), .unset, .unset, .unset] [(.int (x1 &&& (2147483647 : Int32))), (.ref o)])) _
  refine XS.bipush X0.here hx rfl (hb hby at_201) ?_
  show Steps p.tables e below (T0.setTop (mkF m 203 #[.val (.int x0), .val (.int x1), .val (.int x2), .val (.ref o), .unset, .unset, .unset] [(.int (30 : Int32)), (.int (x1 &&& (2147483647 : Int32))), (.ref o)])) _
  refine iremM X0 hx rfl (hb hby at_203) rfl (by decide) ?_
  show Steps p.tables e below (T0.setTop (mkF m 204 #[.val (.int x0), .val (.int x1), .val (.int x2), .val (.ref o), .unset, .unset, .unset] [(.int ((x1 &&& (2147483647 : Int32)) % (30 : Int32))), (.ref o)])) _
  exact hg _ kt
set_option maxRecDepth 65536 in
set_option maxHeartbeats 40000000 in
theorem fl189 {p : Program} {l : Launch} {e : Env} {s : State} {m : MethodId} {args : Array Value} {below : List Frame} {meth : Method} {c : Code} {T0 : State} {locs : List Loc} {Z : State} {a0 : Array Value} {h0 : Heap} {n0 : Nat} {f : Nat → Int32} (x0 : Int32) (x1 : Int32) (x2 : Int32) (o : Addr) (X0 : Stand p l e room_1 s m args below meth c T0 locs 1 30) (hx : p.tables.exec = Jvm.exec) (hZ : Z.Warmed39 s.vm) (hw : ∀ d ∈ tables_1, d.before a0 Z = true) (hby : c.code = code) (hml : c.maxLocals = 7) (hown : s.vm.findClass "com/example/lehre/lehre/XmlNamesIsNameStartPinLaw" = some m.cls) (hret : meth.sig.returnType = some .boolean) (hlk : meth.locks = false) (e0 : T0.heap = h0) (Z0 : n0 ≤ h0.size) (N0 : Fr n0 locs) (g0 : n0 ≤ o) (V : own_Arr Z h0 o 30 f) (hone : ∀ w : Int32, f0_205 x0 x1 x2 w = 1) :
    own_Goes p e below s n0 room_1.cells room_1.slots own_one (T0.setTop (mkF m 189 #[.val (.int x0), .val (.int x1), .val (.int x2), .unset, .unset, .unset, .unset] [(.ref o)])) := by
  obtain ⟨T1, h1, L1, X1, e1, Z1, N1, V1, st1⟩ := own_put X0 hx hZ e0 V g0 N0 Z0 (pc := 194) (Ls := #[.val (.int x0), .val (.int x1), .val (.int x2), .unset, .unset, .unset, .unset]) (rest := [(.ref o)]) (29 : Int32) (983039 : Int32) 29 (by decide) (by decide) (by decide) (hb hby at_194)
  refine own_Goes.pre (fun t kt => ?_) (fl195 x0 x1 x2 o X1 hx hZ hw hby hml hown hret hlk e1 Z1 N1 g0 V1 hone)
  show Steps p.tables e below (T0.setTop (mkF m 189 #[.val (.int x0), .val (.int x1), .val (.int x2), .unset, .unset, .unset, .unset] [(.ref o)])) _
  refine XS.dup X0.here hx rfl (hb hby at_189) rfl rfl ?_
  show Steps p.tables e below (T0.setTop (mkF m 190 #[.val (.int x0), .val (.int x1), .val (.int x2), .unset, .unset, .unset, .unset] [(.ref o), (.ref o)])) _
  refine XS.bipush X0.here hx rfl (hb hby at_190) ?_
  show Steps p.tables e below (T0.setTop (mkF m 192 #[.val (.int x0), .val (.int x1), .val (.int x2), .unset, .unset, .unset, .unset] [(.int (29 : Int32)), (.ref o), (.ref o)])) _
  refine X0.ldcInt hx hown (mvT hZ (hw _ (List.mem_of_getElem? (i := 7) rfl))) (g := (mkF m 192 #[.val (.int x0), .val (.int x1), .val (.int x2), .unset, .unset, .unset, .unset] [(.int (29 : Int32)), (.ref o), (.ref o)])) rfl (hb hby at_192) _ ?_
  show Steps p.tables e below (T0.setTop (mkF m 194 #[.val (.int x0), .val (.int x1), .val (.int x2), .unset, .unset, .unset, .unset] [(.int (983039 : Int32)), (.int (29 : Int32)), (.ref o), (.ref o)])) _
  exact st1 _ kt
set_option maxRecDepth 65536 in
set_option maxHeartbeats 40000000 in
theorem fl183 {p : Program} {l : Launch} {e : Env} {s : State} {m : MethodId} {args : Array Value} {below : List Frame} {meth : Method} {c : Code} {T0 : State} {locs : List Loc} {Z : State} {a0 : Array Value} {h0 : Heap} {n0 : Nat} {f : Nat → Int32} (x0 : Int32) (x1 : Int32) (x2 : Int32) (o : Addr) (X0 : Stand p l e room_1 s m args below meth c T0 locs 1 30) (hx : p.tables.exec = Jvm.exec) (hZ : Z.Warmed39 s.vm) (hw : ∀ d ∈ tables_1, d.before a0 Z = true) (hby : c.code = code) (hml : c.maxLocals = 7) (hown : s.vm.findClass "com/example/lehre/lehre/XmlNamesIsNameStartPinLaw" = some m.cls) (hret : meth.sig.returnType = some .boolean) (hlk : meth.locks = false) (e0 : T0.heap = h0) (Z0 : n0 ≤ h0.size) (N0 : Fr n0 locs) (g0 : n0 ≤ o) (V : own_Arr Z h0 o 30 f) (hone : ∀ w : Int32, f0_205 x0 x1 x2 w = 1) :
    own_Goes p e below s n0 room_1.cells room_1.slots own_one (T0.setTop (mkF m 183 #[.val (.int x0), .val (.int x1), .val (.int x2), .unset, .unset, .unset, .unset] [(.ref o)])) := by
  obtain ⟨T1, h1, L1, X1, e1, Z1, N1, V1, st1⟩ := own_put X0 hx hZ e0 V g0 N0 Z0 (pc := 188) (Ls := #[.val (.int x0), .val (.int x1), .val (.int x2), .unset, .unset, .unset, .unset]) (rest := [(.ref o)]) (28 : Int32) (65536 : Int32) 28 (by decide) (by decide) (by decide) (hb hby at_188)
  refine own_Goes.pre (fun t kt => ?_) (fl189 x0 x1 x2 o X1 hx hZ hw hby hml hown hret hlk e1 Z1 N1 g0 V1 hone)
  show Steps p.tables e below (T0.setTop (mkF m 183 #[.val (.int x0), .val (.int x1), .val (.int x2), .unset, .unset, .unset, .unset] [(.ref o)])) _
  refine XS.dup X0.here hx rfl (hb hby at_183) rfl rfl ?_
  show Steps p.tables e below (T0.setTop (mkF m 184 #[.val (.int x0), .val (.int x1), .val (.int x2), .unset, .unset, .unset, .unset] [(.ref o), (.ref o)])) _
  refine XS.bipush X0.here hx rfl (hb hby at_184) ?_
  show Steps p.tables e below (T0.setTop (mkF m 186 #[.val (.int x0), .val (.int x1), .val (.int x2), .unset, .unset, .unset, .unset] [(.int (28 : Int32)), (.ref o), (.ref o)])) _
  refine X0.ldcInt hx hown (mvT hZ (hw _ (List.mem_of_getElem? (i := 6) rfl))) (g := (mkF m 186 #[.val (.int x0), .val (.int x1), .val (.int x2), .unset, .unset, .unset, .unset] [(.int (28 : Int32)), (.ref o), (.ref o)])) rfl (hb hby at_186) _ ?_
  show Steps p.tables e below (T0.setTop (mkF m 188 #[.val (.int x0), .val (.int x1), .val (.int x2), .unset, .unset, .unset, .unset] [(.int (65536 : Int32)), (.int (28 : Int32)), (.ref o), (.ref o)])) _
  exact st1 _ kt
set_option maxRecDepth 65536 in
set_option maxHeartbeats 40000000 in
theorem fl177 {p : Program} {l : Launch} {e : Env} {s : State} {m : MethodId} {args : Array Value} {below : List Frame} {meth : Method} {c : Code} {T0 : State} {locs : List Loc} {Z : State} {a0 : Array Value} {h0 : Heap} {n0 : Nat} {f : Nat → Int32} (x0 : Int32) (x1 : Int32) (x2 : Int32) (o : Addr) (X0 : Stand p l e room_1 s m args below meth c T0 locs 1 30) (hx : p.tables.exec = Jvm.exec) (hZ : Z.Warmed39 s.vm) (hw : ∀ d ∈ tables_1, d.before a0 Z = true) (hby : c.code = code) (hml : c.maxLocals = 7) (hown : s.vm.findClass "com/example/lehre/lehre/XmlNamesIsNameStartPinLaw" = some m.cls) (hret : meth.sig.returnType = some .boolean) (hlk : meth.locks = false) (e0 : T0.heap = h0) (Z0 : n0 ≤ h0.size) (N0 : Fr n0 locs) (g0 : n0 ≤ o) (V : own_Arr Z h0 o 30 f) (hone : ∀ w : Int32, f0_205 x0 x1 x2 w = 1) :
    own_Goes p e below s n0 room_1.cells room_1.slots own_one (T0.setTop (mkF m 177 #[.val (.int x0), .val (.int x1), .val (.int x2), .unset, .unset, .unset, .unset] [(.ref o)])) := by
  obtain ⟨T1, h1, L1, X1, e1, Z1, N1, V1, st1⟩ := own_put X0 hx hZ e0 V g0 N0 Z0 (pc := 182) (Ls := #[.val (.int x0), .val (.int x1), .val (.int x2), .unset, .unset, .unset, .unset]) (rest := [(.ref o)]) (27 : Int32) (65533 : Int32) 27 (by decide) (by decide) (by decide) (hb hby at_182)
  refine own_Goes.pre (fun t kt => ?_) (fl183 x0 x1 x2 o X1 hx hZ hw hby hml hown hret hlk e1 Z1 N1 g0 V1 hone)
  show Steps p.tables e below (T0.setTop (mkF m 177 #[.val (.int x0), .val (.int x1), .val (.int x2), .unset, .unset, .unset, .unset] [(.ref o)])) _
  refine XS.dup X0.here hx rfl (hb hby at_177) rfl rfl ?_
  show Steps p.tables e below (T0.setTop (mkF m 178 #[.val (.int x0), .val (.int x1), .val (.int x2), .unset, .unset, .unset, .unset] [(.ref o), (.ref o)])) _
  refine XS.bipush X0.here hx rfl (hb hby at_178) ?_
  show Steps p.tables e below (T0.setTop (mkF m 180 #[.val (.int x0), .val (.int x1), .val (.int x2), .unset, .unset, .unset, .unset] [(.int (27 : Int32)), (.ref o), (.ref o)])) _
  refine X0.ldcInt hx hown (mvT hZ (hw _ (List.mem_of_getElem? (i := 5) rfl))) (g := (mkF m 180 #[.val (.int x0), .val (.int x1), .val (.int x2), .unset, .unset, .unset, .unset] [(.int (27 : Int32)), (.ref o), (.ref o)])) rfl (hb hby at_180) _ ?_
  show Steps p.tables e below (T0.setTop (mkF m 182 #[.val (.int x0), .val (.int x1), .val (.int x2), .unset, .unset, .unset, .unset] [(.int (65533 : Int32)), (.int (27 : Int32)), (.ref o), (.ref o)])) _
  exact st1 _ kt
set_option maxRecDepth 65536 in
set_option maxHeartbeats 40000000 in
theorem fl171 {p : Program} {l : Launch} {e : Env} {s : State} {m : MethodId} {args : Array Value} {below : List Frame} {meth : Method} {c : Code} {T0 : State} {locs : List Loc} {Z : State} {a0 : Array Value} {h0 : Heap} {n0 : Nat} {f : Nat → Int32} (x0 : Int32) (x1 : Int32) (x2 : Int32) (o : Addr) (X0 : Stand p l e room_1 s m args below meth c T0 locs 1 30) (hx : p.tables.exec = Jvm.exec) (hZ : Z.Warmed39 s.vm) (hw : ∀ d ∈ tables_1, d.before a0 Z = true) (hby : c.code = code) (hml : c.maxLocals = 7) (hown : s.vm.findClass "com/example/lehre/lehre/XmlNamesIsNameStartPinLaw" = some m.cls) (hret : meth.sig.returnType = some .boolean) (hlk : meth.locks = false) (e0 : T0.heap = h0) (Z0 : n0 ≤ h0.size) (N0 : Fr n0 locs) (g0 : n0 ≤ o) (V : own_Arr Z h0 o 30 f) (hone : ∀ w : Int32, f0_205 x0 x1 x2 w = 1) :
    own_Goes p e below s n0 room_1.cells room_1.slots own_one (T0.setTop (mkF m 171 #[.val (.int x0), .val (.int x1), .val (.int x2), .unset, .unset, .unset, .unset] [(.ref o)])) := by
  obtain ⟨T1, h1, L1, X1, e1, Z1, N1, V1, st1⟩ := own_put X0 hx hZ e0 V g0 N0 Z0 (pc := 176) (Ls := #[.val (.int x0), .val (.int x1), .val (.int x2), .unset, .unset, .unset, .unset]) (rest := [(.ref o)]) (26 : Int32) (65008 : Int32) 26 (by decide) (by decide) (by decide) (hb hby at_176)
  refine own_Goes.pre (fun t kt => ?_) (fl177 x0 x1 x2 o X1 hx hZ hw hby hml hown hret hlk e1 Z1 N1 g0 V1 hone)
  show Steps p.tables e below (T0.setTop (mkF m 171 #[.val (.int x0), .val (.int x1), .val (.int x2), .unset, .unset, .unset, .unset] [(.ref o)])) _
  refine XS.dup X0.here hx rfl (hb hby at_171) rfl rfl ?_
  show Steps p.tables e below (T0.setTop (mkF m 172 #[.val (.int x0), .val (.int x1), .val (.int x2), .unset, .unset, .unset, .unset] [(.ref o), (.ref o)])) _
  refine XS.bipush X0.here hx rfl (hb hby at_172) ?_
  show Steps p.tables e below (T0.setTop (mkF m 174 #[.val (.int x0), .val (.int x1), .val (.int x2), .unset, .unset, .unset, .unset] [(.int (26 : Int32)), (.ref o), (.ref o)])) _
  refine X0.ldcInt hx hown (mvT hZ (hw _ (List.mem_of_getElem? (i := 4) rfl))) (g := (mkF m 174 #[.val (.int x0), .val (.int x1), .val (.int x2), .unset, .unset, .unset, .unset] [(.int (26 : Int32)), (.ref o), (.ref o)])) rfl (hb hby at_174) _ ?_
  show Steps p.tables e below (T0.setTop (mkF m 176 #[.val (.int x0), .val (.int x1), .val (.int x2), .unset, .unset, .unset, .unset] [(.int (65008 : Int32)), (.int (26 : Int32)), (.ref o), (.ref o)])) _
  exact st1 _ kt
set_option maxRecDepth 65536 in
set_option maxHeartbeats 40000000 in
theorem fl165 {p : Program} {l : Launch} {e : Env} {s : State} {m : MethodId} {args : Array Value} {below : List Frame} {meth : Method} {c : Code} {T0 : State} {locs : List Loc} {Z : State} {a0 : Array Value} {h0 : Heap} {n0 : Nat} {f : Nat → Int32} (x0 : Int32) (x1 : Int32) (x2 : Int32) (o : Addr) (X0 : Stand p l e room_1 s m args below meth c T0 locs 1 30) (hx : p.tables.exec = Jvm.exec) (hZ : Z.Warmed39 s.vm) (hw : ∀ d ∈ tables_1, d.before a0 Z = true) (hby : c.code = code) (hml : c.maxLocals = 7) (hown : s.vm.findClass "com/example/lehre/lehre/XmlNamesIsNameStartPinLaw" = some m.cls) (hret : meth.sig.returnType = some .boolean) (hlk : meth.locks = false) (e0 : T0.heap = h0) (Z0 : n0 ≤ h0.size) (N0 : Fr n0 locs) (g0 : n0 ≤ o) (V : own_Arr Z h0 o 30 f) (hone : ∀ w : Int32, f0_205 x0 x1 x2 w = 1) :
    own_Goes p e below s n0 room_1.cells room_1.slots own_one (T0.setTop (mkF m 165 #[.val (.int x0), .val (.int x1), .val (.int x2), .unset, .unset, .unset, .unset] [(.ref o)])) := by
  obtain ⟨T1, h1, L1, X1, e1, Z1, N1, V1, st1⟩ := own_put X0 hx hZ e0 V g0 N0 Z0 (pc := 170) (Ls := #[.val (.int x0), .val (.int x1), .val (.int x2), .unset, .unset, .unset, .unset]) (rest := [(.ref o)]) (25 : Int32) (64975 : Int32) 25 (by decide) (by decide) (by decide) (hb hby at_170)
  refine own_Goes.pre (fun t kt => ?_) (fl171 x0 x1 x2 o X1 hx hZ hw hby hml hown hret hlk e1 Z1 N1 g0 V1 hone)
  show Steps p.tables e below (T0.setTop (mkF m 165 #[.val (.int x0), .val (.int x1), .val (.int x2), .unset, .unset, .unset, .unset] [(.ref o)])) _
  refine XS.dup X0.here hx rfl (hb hby at_165) rfl rfl ?_
  show Steps p.tables e below (T0.setTop (mkF m 166 #[.val (.int x0), .val (.int x1), .val (.int x2), .unset, .unset, .unset, .unset] [(.ref o), (.ref o)])) _
  refine XS.bipush X0.here hx rfl (hb hby at_166) ?_
  show Steps p.tables e below (T0.setTop (mkF m 168 #[.val (.int x0), .val (.int x1), .val (.int x2), .unset, .unset, .unset, .unset] [(.int (25 : Int32)), (.ref o), (.ref o)])) _
  refine X0.ldcInt hx hown (mvT hZ (hw _ (List.mem_of_getElem? (i := 3) rfl))) (g := (mkF m 168 #[.val (.int x0), .val (.int x1), .val (.int x2), .unset, .unset, .unset, .unset] [(.int (25 : Int32)), (.ref o), (.ref o)])) rfl (hb hby at_168) _ ?_
  show Steps p.tables e below (T0.setTop (mkF m 170 #[.val (.int x0), .val (.int x1), .val (.int x2), .unset, .unset, .unset, .unset] [(.int (64975 : Int32)), (.int (25 : Int32)), (.ref o), (.ref o)])) _
  exact st1 _ kt
set_option maxRecDepth 65536 in
set_option maxHeartbeats 40000000 in
theorem fl159 {p : Program} {l : Launch} {e : Env} {s : State} {m : MethodId} {args : Array Value} {below : List Frame} {meth : Method} {c : Code} {T0 : State} {locs : List Loc} {Z : State} {a0 : Array Value} {h0 : Heap} {n0 : Nat} {f : Nat → Int32} (x0 : Int32) (x1 : Int32) (x2 : Int32) (o : Addr) (X0 : Stand p l e room_1 s m args below meth c T0 locs 1 30) (hx : p.tables.exec = Jvm.exec) (hZ : Z.Warmed39 s.vm) (hw : ∀ d ∈ tables_1, d.before a0 Z = true) (hby : c.code = code) (hml : c.maxLocals = 7) (hown : s.vm.findClass "com/example/lehre/lehre/XmlNamesIsNameStartPinLaw" = some m.cls) (hret : meth.sig.returnType = some .boolean) (hlk : meth.locks = false) (e0 : T0.heap = h0) (Z0 : n0 ≤ h0.size) (N0 : Fr n0 locs) (g0 : n0 ≤ o) (V : own_Arr Z h0 o 30 f) (hone : ∀ w : Int32, f0_205 x0 x1 x2 w = 1) :
    own_Goes p e below s n0 room_1.cells room_1.slots own_one (T0.setTop (mkF m 159 #[.val (.int x0), .val (.int x1), .val (.int x2), .unset, .unset, .unset, .unset] [(.ref o)])) := by
  obtain ⟨T1, h1, L1, X1, e1, Z1, N1, V1, st1⟩ := own_put X0 hx hZ e0 V g0 N0 Z0 (pc := 164) (Ls := #[.val (.int x0), .val (.int x1), .val (.int x2), .unset, .unset, .unset, .unset]) (rest := [(.ref o)]) (24 : Int32) (63744 : Int32) 24 (by decide) (by decide) (by decide) (hb hby at_164)
  refine own_Goes.pre (fun t kt => ?_) (fl165 x0 x1 x2 o X1 hx hZ hw hby hml hown hret hlk e1 Z1 N1 g0 V1 hone)
  show Steps p.tables e below (T0.setTop (mkF m 159 #[.val (.int x0), .val (.int x1), .val (.int x2), .unset, .unset, .unset, .unset] [(.ref o)])) _
  refine XS.dup X0.here hx rfl (hb hby at_159) rfl rfl ?_
  show Steps p.tables e below (T0.setTop (mkF m 160 #[.val (.int x0), .val (.int x1), .val (.int x2), .unset, .unset, .unset, .unset] [(.ref o), (.ref o)])) _
  refine XS.bipush X0.here hx rfl (hb hby at_160) ?_
  show Steps p.tables e below (T0.setTop (mkF m 162 #[.val (.int x0), .val (.int x1), .val (.int x2), .unset, .unset, .unset, .unset] [(.int (24 : Int32)), (.ref o), (.ref o)])) _
  refine X0.ldcInt hx hown (mvT hZ (hw _ (List.mem_of_getElem? (i := 2) rfl))) (g := (mkF m 162 #[.val (.int x0), .val (.int x1), .val (.int x2), .unset, .unset, .unset, .unset] [(.int (24 : Int32)), (.ref o), (.ref o)])) rfl (hb hby at_162) _ ?_
  show Steps p.tables e below (T0.setTop (mkF m 164 #[.val (.int x0), .val (.int x1), .val (.int x2), .unset, .unset, .unset, .unset] [(.int (63744 : Int32)), (.int (24 : Int32)), (.ref o), (.ref o)])) _
  exact st1 _ kt
set_option maxRecDepth 65536 in
set_option maxHeartbeats 40000000 in
theorem fl153 {p : Program} {l : Launch} {e : Env} {s : State} {m : MethodId} {args : Array Value} {below : List Frame} {meth : Method} {c : Code} {T0 : State} {locs : List Loc} {Z : State} {a0 : Array Value} {h0 : Heap} {n0 : Nat} {f : Nat → Int32} (x0 : Int32) (x1 : Int32) (x2 : Int32) (o : Addr) (X0 : Stand p l e room_1 s m args below meth c T0 locs 1 30) (hx : p.tables.exec = Jvm.exec) (hZ : Z.Warmed39 s.vm) (hw : ∀ d ∈ tables_1, d.before a0 Z = true) (hby : c.code = code) (hml : c.maxLocals = 7) (hown : s.vm.findClass "com/example/lehre/lehre/XmlNamesIsNameStartPinLaw" = some m.cls) (hret : meth.sig.returnType = some .boolean) (hlk : meth.locks = false) (e0 : T0.heap = h0) (Z0 : n0 ≤ h0.size) (N0 : Fr n0 locs) (g0 : n0 ≤ o) (V : own_Arr Z h0 o 30 f) (hone : ∀ w : Int32, f0_205 x0 x1 x2 w = 1) :
    own_Goes p e below s n0 room_1.cells room_1.slots own_one (T0.setTop (mkF m 153 #[.val (.int x0), .val (.int x1), .val (.int x2), .unset, .unset, .unset, .unset] [(.ref o)])) := by
  obtain ⟨T1, h1, L1, X1, e1, Z1, N1, V1, st1⟩ := own_put X0 hx hZ e0 V g0 N0 Z0 (pc := 158) (Ls := #[.val (.int x0), .val (.int x1), .val (.int x2), .unset, .unset, .unset, .unset]) (rest := [(.ref o)]) (23 : Int32) (55295 : Int32) 23 (by decide) (by decide) (by decide) (hb hby at_158)
  refine own_Goes.pre (fun t kt => ?_) (fl159 x0 x1 x2 o X1 hx hZ hw hby hml hown hret hlk e1 Z1 N1 g0 V1 hone)
  show Steps p.tables e below (T0.setTop (mkF m 153 #[.val (.int x0), .val (.int x1), .val (.int x2), .unset, .unset, .unset, .unset] [(.ref o)])) _
  refine XS.dup X0.here hx rfl (hb hby at_153) rfl rfl ?_
  show Steps p.tables e below (T0.setTop (mkF m 154 #[.val (.int x0), .val (.int x1), .val (.int x2), .unset, .unset, .unset, .unset] [(.ref o), (.ref o)])) _
  refine XS.bipush X0.here hx rfl (hb hby at_154) ?_
  show Steps p.tables e below (T0.setTop (mkF m 156 #[.val (.int x0), .val (.int x1), .val (.int x2), .unset, .unset, .unset, .unset] [(.int (23 : Int32)), (.ref o), (.ref o)])) _
  refine X0.ldcInt hx hown (mvT hZ (hw _ (List.mem_of_getElem? (i := 1) rfl))) (g := (mkF m 156 #[.val (.int x0), .val (.int x1), .val (.int x2), .unset, .unset, .unset, .unset] [(.int (23 : Int32)), (.ref o), (.ref o)])) rfl (hb hby at_156) _ ?_
  show Steps p.tables e below (T0.setTop (mkF m 158 #[.val (.int x0), .val (.int x1), .val (.int x2), .unset, .unset, .unset, .unset] [(.int (55295 : Int32)), (.int (23 : Int32)), (.ref o), (.ref o)])) _
  exact st1 _ kt
set_option maxRecDepth 65536 in
set_option maxHeartbeats 40000000 in
theorem fl146 {p : Program} {l : Launch} {e : Env} {s : State} {m : MethodId} {args : Array Value} {below : List Frame} {meth : Method} {c : Code} {T0 : State} {locs : List Loc} {Z : State} {a0 : Array Value} {h0 : Heap} {n0 : Nat} {f : Nat → Int32} (x0 : Int32) (x1 : Int32) (x2 : Int32) (o : Addr) (X0 : Stand p l e room_1 s m args below meth c T0 locs 1 30) (hx : p.tables.exec = Jvm.exec) (hZ : Z.Warmed39 s.vm) (hw : ∀ d ∈ tables_1, d.before a0 Z = true) (hby : c.code = code) (hml : c.maxLocals = 7) (hown : s.vm.findClass "com/example/lehre/lehre/XmlNamesIsNameStartPinLaw" = some m.cls) (hret : meth.sig.returnType = some .boolean) (hlk : meth.locks = false) (e0 : T0.heap = h0) (Z0 : n0 ≤ h0.size) (N0 : Fr n0 locs) (g0 : n0 ≤ o) (V : own_Arr Z h0 o 30 f) (hone : ∀ w : Int32, f0_205 x0 x1 x2 w = 1) :
    own_Goes p e below s n0 room_1.cells room_1.slots own_one (T0.setTop (mkF m 146 #[.val (.int x0), .val (.int x1), .val (.int x2), .unset, .unset, .unset, .unset] [(.ref o)])) := by
  obtain ⟨T1, h1, L1, X1, e1, Z1, N1, V1, st1⟩ := own_put X0 hx hZ e0 V g0 N0 Z0 (pc := 152) (Ls := #[.val (.int x0), .val (.int x1), .val (.int x2), .unset, .unset, .unset, .unset]) (rest := [(.ref o)]) (22 : Int32) (12289 : Int32) 22 (by decide) (by decide) (by decide) (hb hby at_152)
  refine own_Goes.pre (fun t kt => ?_) (fl153 x0 x1 x2 o X1 hx hZ hw hby hml hown hret hlk e1 Z1 N1 g0 V1 hone)
  show Steps p.tables e below (T0.setTop (mkF m 146 #[.val (.int x0), .val (.int x1), .val (.int x2), .unset, .unset, .unset, .unset] [(.ref o)])) _
  refine XS.dup X0.here hx rfl (hb hby at_146) rfl rfl ?_
  show Steps p.tables e below (T0.setTop (mkF m 147 #[.val (.int x0), .val (.int x1), .val (.int x2), .unset, .unset, .unset, .unset] [(.ref o), (.ref o)])) _
  refine XS.bipush X0.here hx rfl (hb hby at_147) ?_
  show Steps p.tables e below (T0.setTop (mkF m 149 #[.val (.int x0), .val (.int x1), .val (.int x2), .unset, .unset, .unset, .unset] [(.int (22 : Int32)), (.ref o), (.ref o)])) _
  refine XS.sipush X0.here hx rfl (hb hby at_149) ?_
  show Steps p.tables e below (T0.setTop (mkF m 152 #[.val (.int x0), .val (.int x1), .val (.int x2), .unset, .unset, .unset, .unset] [(.int (12289 : Int32)), (.int (22 : Int32)), (.ref o), (.ref o)])) _
  exact st1 _ kt
set_option maxRecDepth 65536 in
set_option maxHeartbeats 40000000 in
theorem fl139 {p : Program} {l : Launch} {e : Env} {s : State} {m : MethodId} {args : Array Value} {below : List Frame} {meth : Method} {c : Code} {T0 : State} {locs : List Loc} {Z : State} {a0 : Array Value} {h0 : Heap} {n0 : Nat} {f : Nat → Int32} (x0 : Int32) (x1 : Int32) (x2 : Int32) (o : Addr) (X0 : Stand p l e room_1 s m args below meth c T0 locs 1 30) (hx : p.tables.exec = Jvm.exec) (hZ : Z.Warmed39 s.vm) (hw : ∀ d ∈ tables_1, d.before a0 Z = true) (hby : c.code = code) (hml : c.maxLocals = 7) (hown : s.vm.findClass "com/example/lehre/lehre/XmlNamesIsNameStartPinLaw" = some m.cls) (hret : meth.sig.returnType = some .boolean) (hlk : meth.locks = false) (e0 : T0.heap = h0) (Z0 : n0 ≤ h0.size) (N0 : Fr n0 locs) (g0 : n0 ≤ o) (V : own_Arr Z h0 o 30 f) (hone : ∀ w : Int32, f0_205 x0 x1 x2 w = 1) :
    own_Goes p e below s n0 room_1.cells room_1.slots own_one (T0.setTop (mkF m 139 #[.val (.int x0), .val (.int x1), .val (.int x2), .unset, .unset, .unset, .unset] [(.ref o)])) := by
  obtain ⟨T1, h1, L1, X1, e1, Z1, N1, V1, st1⟩ := own_put X0 hx hZ e0 V g0 N0 Z0 (pc := 145) (Ls := #[.val (.int x0), .val (.int x1), .val (.int x2), .unset, .unset, .unset, .unset]) (rest := [(.ref o)]) (21 : Int32) (12271 : Int32) 21 (by decide) (by decide) (by decide) (hb hby at_145)
  refine own_Goes.pre (fun t kt => ?_) (fl146 x0 x1 x2 o X1 hx hZ hw hby hml hown hret hlk e1 Z1 N1 g0 V1 hone)
  show Steps p.tables e below (T0.setTop (mkF m 139 #[.val (.int x0), .val (.int x1), .val (.int x2), .unset, .unset, .unset, .unset] [(.ref o)])) _
  refine XS.dup X0.here hx rfl (hb hby at_139) rfl rfl ?_
  show Steps p.tables e below (T0.setTop (mkF m 140 #[.val (.int x0), .val (.int x1), .val (.int x2), .unset, .unset, .unset, .unset] [(.ref o), (.ref o)])) _
  refine XS.bipush X0.here hx rfl (hb hby at_140) ?_
  show Steps p.tables e below (T0.setTop (mkF m 142 #[.val (.int x0), .val (.int x1), .val (.int x2), .unset, .unset, .unset, .unset] [(.int (21 : Int32)), (.ref o), (.ref o)])) _
  refine XS.sipush X0.here hx rfl (hb hby at_142) ?_
  show Steps p.tables e below (T0.setTop (mkF m 145 #[.val (.int x0), .val (.int x1), .val (.int x2), .unset, .unset, .unset, .unset] [(.int (12271 : Int32)), (.int (21 : Int32)), (.ref o), (.ref o)])) _
  exact st1 _ kt
set_option maxRecDepth 65536 in
set_option maxHeartbeats 40000000 in
theorem fl132 {p : Program} {l : Launch} {e : Env} {s : State} {m : MethodId} {args : Array Value} {below : List Frame} {meth : Method} {c : Code} {T0 : State} {locs : List Loc} {Z : State} {a0 : Array Value} {h0 : Heap} {n0 : Nat} {f : Nat → Int32} (x0 : Int32) (x1 : Int32) (x2 : Int32) (o : Addr) (X0 : Stand p l e room_1 s m args below meth c T0 locs 1 30) (hx : p.tables.exec = Jvm.exec) (hZ : Z.Warmed39 s.vm) (hw : ∀ d ∈ tables_1, d.before a0 Z = true) (hby : c.code = code) (hml : c.maxLocals = 7) (hown : s.vm.findClass "com/example/lehre/lehre/XmlNamesIsNameStartPinLaw" = some m.cls) (hret : meth.sig.returnType = some .boolean) (hlk : meth.locks = false) (e0 : T0.heap = h0) (Z0 : n0 ≤ h0.size) (N0 : Fr n0 locs) (g0 : n0 ≤ o) (V : own_Arr Z h0 o 30 f) (hone : ∀ w : Int32, f0_205 x0 x1 x2 w = 1) :
    own_Goes p e below s n0 room_1.cells room_1.slots own_one (T0.setTop (mkF m 132 #[.val (.int x0), .val (.int x1), .val (.int x2), .unset, .unset, .unset, .unset] [(.ref o)])) := by
  obtain ⟨T1, h1, L1, X1, e1, Z1, N1, V1, st1⟩ := own_put X0 hx hZ e0 V g0 N0 Z0 (pc := 138) (Ls := #[.val (.int x0), .val (.int x1), .val (.int x2), .unset, .unset, .unset, .unset]) (rest := [(.ref o)]) (20 : Int32) (11264 : Int32) 20 (by decide) (by decide) (by decide) (hb hby at_138)
  refine own_Goes.pre (fun t kt => ?_) (fl139 x0 x1 x2 o X1 hx hZ hw hby hml hown hret hlk e1 Z1 N1 g0 V1 hone)
  show Steps p.tables e below (T0.setTop (mkF m 132 #[.val (.int x0), .val (.int x1), .val (.int x2), .unset, .unset, .unset, .unset] [(.ref o)])) _
  refine XS.dup X0.here hx rfl (hb hby at_132) rfl rfl ?_
  show Steps p.tables e below (T0.setTop (mkF m 133 #[.val (.int x0), .val (.int x1), .val (.int x2), .unset, .unset, .unset, .unset] [(.ref o), (.ref o)])) _
  refine XS.bipush X0.here hx rfl (hb hby at_133) ?_
  show Steps p.tables e below (T0.setTop (mkF m 135 #[.val (.int x0), .val (.int x1), .val (.int x2), .unset, .unset, .unset, .unset] [(.int (20 : Int32)), (.ref o), (.ref o)])) _
  refine XS.sipush X0.here hx rfl (hb hby at_135) ?_
  show Steps p.tables e below (T0.setTop (mkF m 138 #[.val (.int x0), .val (.int x1), .val (.int x2), .unset, .unset, .unset, .unset] [(.int (11264 : Int32)), (.int (20 : Int32)), (.ref o), (.ref o)])) _
  exact st1 _ kt
set_option maxRecDepth 65536 in
set_option maxHeartbeats 40000000 in
theorem fl125 {p : Program} {l : Launch} {e : Env} {s : State} {m : MethodId} {args : Array Value} {below : List Frame} {meth : Method} {c : Code} {T0 : State} {locs : List Loc} {Z : State} {a0 : Array Value} {h0 : Heap} {n0 : Nat} {f : Nat → Int32} (x0 : Int32) (x1 : Int32) (x2 : Int32) (o : Addr) (X0 : Stand p l e room_1 s m args below meth c T0 locs 1 30) (hx : p.tables.exec = Jvm.exec) (hZ : Z.Warmed39 s.vm) (hw : ∀ d ∈ tables_1, d.before a0 Z = true) (hby : c.code = code) (hml : c.maxLocals = 7) (hown : s.vm.findClass "com/example/lehre/lehre/XmlNamesIsNameStartPinLaw" = some m.cls) (hret : meth.sig.returnType = some .boolean) (hlk : meth.locks = false) (e0 : T0.heap = h0) (Z0 : n0 ≤ h0.size) (N0 : Fr n0 locs) (g0 : n0 ≤ o) (V : own_Arr Z h0 o 30 f) (hone : ∀ w : Int32, f0_205 x0 x1 x2 w = 1) :
    own_Goes p e below s n0 room_1.cells room_1.slots own_one (T0.setTop (mkF m 125 #[.val (.int x0), .val (.int x1), .val (.int x2), .unset, .unset, .unset, .unset] [(.ref o)])) := by
  obtain ⟨T1, h1, L1, X1, e1, Z1, N1, V1, st1⟩ := own_put X0 hx hZ e0 V g0 N0 Z0 (pc := 131) (Ls := #[.val (.int x0), .val (.int x1), .val (.int x2), .unset, .unset, .unset, .unset]) (rest := [(.ref o)]) (19 : Int32) (8591 : Int32) 19 (by decide) (by decide) (by decide) (hb hby at_131)
  refine own_Goes.pre (fun t kt => ?_) (fl132 x0 x1 x2 o X1 hx hZ hw hby hml hown hret hlk e1 Z1 N1 g0 V1 hone)
  show Steps p.tables e below (T0.setTop (mkF m 125 #[.val (.int x0), .val (.int x1), .val (.int x2), .unset, .unset, .unset, .unset] [(.ref o)])) _
  refine XS.dup X0.here hx rfl (hb hby at_125) rfl rfl ?_
  show Steps p.tables e below (T0.setTop (mkF m 126 #[.val (.int x0), .val (.int x1), .val (.int x2), .unset, .unset, .unset, .unset] [(.ref o), (.ref o)])) _
  refine XS.bipush X0.here hx rfl (hb hby at_126) ?_
  show Steps p.tables e below (T0.setTop (mkF m 128 #[.val (.int x0), .val (.int x1), .val (.int x2), .unset, .unset, .unset, .unset] [(.int (19 : Int32)), (.ref o), (.ref o)])) _
  refine XS.sipush X0.here hx rfl (hb hby at_128) ?_
  show Steps p.tables e below (T0.setTop (mkF m 131 #[.val (.int x0), .val (.int x1), .val (.int x2), .unset, .unset, .unset, .unset] [(.int (8591 : Int32)), (.int (19 : Int32)), (.ref o), (.ref o)])) _
  exact st1 _ kt
set_option maxRecDepth 65536 in
set_option maxHeartbeats 40000000 in
theorem fl118 {p : Program} {l : Launch} {e : Env} {s : State} {m : MethodId} {args : Array Value} {below : List Frame} {meth : Method} {c : Code} {T0 : State} {locs : List Loc} {Z : State} {a0 : Array Value} {h0 : Heap} {n0 : Nat} {f : Nat → Int32} (x0 : Int32) (x1 : Int32) (x2 : Int32) (o : Addr) (X0 : Stand p l e room_1 s m args below meth c T0 locs 1 30) (hx : p.tables.exec = Jvm.exec) (hZ : Z.Warmed39 s.vm) (hw : ∀ d ∈ tables_1, d.before a0 Z = true) (hby : c.code = code) (hml : c.maxLocals = 7) (hown : s.vm.findClass "com/example/lehre/lehre/XmlNamesIsNameStartPinLaw" = some m.cls) (hret : meth.sig.returnType = some .boolean) (hlk : meth.locks = false) (e0 : T0.heap = h0) (Z0 : n0 ≤ h0.size) (N0 : Fr n0 locs) (g0 : n0 ≤ o) (V : own_Arr Z h0 o 30 f) (hone : ∀ w : Int32, f0_205 x0 x1 x2 w = 1) :
    own_Goes p e below s n0 room_1.cells room_1.slots own_one (T0.setTop (mkF m 118 #[.val (.int x0), .val (.int x1), .val (.int x2), .unset, .unset, .unset, .unset] [(.ref o)])) := by
  obtain ⟨T1, h1, L1, X1, e1, Z1, N1, V1, st1⟩ := own_put X0 hx hZ e0 V g0 N0 Z0 (pc := 124) (Ls := #[.val (.int x0), .val (.int x1), .val (.int x2), .unset, .unset, .unset, .unset]) (rest := [(.ref o)]) (18 : Int32) (8304 : Int32) 18 (by decide) (by decide) (by decide) (hb hby at_124)
  refine own_Goes.pre (fun t kt => ?_) (fl125 x0 x1 x2 o X1 hx hZ hw hby hml hown hret hlk e1 Z1 N1 g0 V1 hone)
  show Steps p.tables e below (T0.setTop (mkF m 118 #[.val (.int x0), .val (.int x1), .val (.int x2), .unset, .unset, .unset, .unset] [(.ref o)])) _
  refine XS.dup X0.here hx rfl (hb hby at_118) rfl rfl ?_
  show Steps p.tables e below (T0.setTop (mkF m 119 #[.val (.int x0), .val (.int x1), .val (.int x2), .unset, .unset, .unset, .unset] [(.ref o), (.ref o)])) _
  refine XS.bipush X0.here hx rfl (hb hby at_119) ?_
  show Steps p.tables e below (T0.setTop (mkF m 121 #[.val (.int x0), .val (.int x1), .val (.int x2), .unset, .unset, .unset, .unset] [(.int (18 : Int32)), (.ref o), (.ref o)])) _
  refine XS.sipush X0.here hx rfl (hb hby at_121) ?_
  show Steps p.tables e below (T0.setTop (mkF m 124 #[.val (.int x0), .val (.int x1), .val (.int x2), .unset, .unset, .unset, .unset] [(.int (8304 : Int32)), (.int (18 : Int32)), (.ref o), (.ref o)])) _
  exact st1 _ kt
set_option maxRecDepth 65536 in
set_option maxHeartbeats 40000000 in
theorem fl111 {p : Program} {l : Launch} {e : Env} {s : State} {m : MethodId} {args : Array Value} {below : List Frame} {meth : Method} {c : Code} {T0 : State} {locs : List Loc} {Z : State} {a0 : Array Value} {h0 : Heap} {n0 : Nat} {f : Nat → Int32} (x0 : Int32) (x1 : Int32) (x2 : Int32) (o : Addr) (X0 : Stand p l e room_1 s m args below meth c T0 locs 1 30) (hx : p.tables.exec = Jvm.exec) (hZ : Z.Warmed39 s.vm) (hw : ∀ d ∈ tables_1, d.before a0 Z = true) (hby : c.code = code) (hml : c.maxLocals = 7) (hown : s.vm.findClass "com/example/lehre/lehre/XmlNamesIsNameStartPinLaw" = some m.cls) (hret : meth.sig.returnType = some .boolean) (hlk : meth.locks = false) (e0 : T0.heap = h0) (Z0 : n0 ≤ h0.size) (N0 : Fr n0 locs) (g0 : n0 ≤ o) (V : own_Arr Z h0 o 30 f) (hone : ∀ w : Int32, f0_205 x0 x1 x2 w = 1) :
    own_Goes p e below s n0 room_1.cells room_1.slots own_one (T0.setTop (mkF m 111 #[.val (.int x0), .val (.int x1), .val (.int x2), .unset, .unset, .unset, .unset] [(.ref o)])) := by
  obtain ⟨T1, h1, L1, X1, e1, Z1, N1, V1, st1⟩ := own_put X0 hx hZ e0 V g0 N0 Z0 (pc := 117) (Ls := #[.val (.int x0), .val (.int x1), .val (.int x2), .unset, .unset, .unset, .unset]) (rest := [(.ref o)]) (17 : Int32) (8205 : Int32) 17 (by decide) (by decide) (by decide) (hb hby at_117)
  refine own_Goes.pre (fun t kt => ?_) (fl118 x0 x1 x2 o X1 hx hZ hw hby hml hown hret hlk e1 Z1 N1 g0 V1 hone)
  show Steps p.tables e below (T0.setTop (mkF m 111 #[.val (.int x0), .val (.int x1), .val (.int x2), .unset, .unset, .unset, .unset] [(.ref o)])) _
  refine XS.dup X0.here hx rfl (hb hby at_111) rfl rfl ?_
  show Steps p.tables e below (T0.setTop (mkF m 112 #[.val (.int x0), .val (.int x1), .val (.int x2), .unset, .unset, .unset, .unset] [(.ref o), (.ref o)])) _
  refine XS.bipush X0.here hx rfl (hb hby at_112) ?_
  show Steps p.tables e below (T0.setTop (mkF m 114 #[.val (.int x0), .val (.int x1), .val (.int x2), .unset, .unset, .unset, .unset] [(.int (17 : Int32)), (.ref o), (.ref o)])) _
  refine XS.sipush X0.here hx rfl (hb hby at_114) ?_
  show Steps p.tables e below (T0.setTop (mkF m 117 #[.val (.int x0), .val (.int x1), .val (.int x2), .unset, .unset, .unset, .unset] [(.int (8205 : Int32)), (.int (17 : Int32)), (.ref o), (.ref o)])) _
  exact st1 _ kt
set_option maxRecDepth 65536 in
set_option maxHeartbeats 40000000 in
theorem fl104 {p : Program} {l : Launch} {e : Env} {s : State} {m : MethodId} {args : Array Value} {below : List Frame} {meth : Method} {c : Code} {T0 : State} {locs : List Loc} {Z : State} {a0 : Array Value} {h0 : Heap} {n0 : Nat} {f : Nat → Int32} (x0 : Int32) (x1 : Int32) (x2 : Int32) (o : Addr) (X0 : Stand p l e room_1 s m args below meth c T0 locs 1 30) (hx : p.tables.exec = Jvm.exec) (hZ : Z.Warmed39 s.vm) (hw : ∀ d ∈ tables_1, d.before a0 Z = true) (hby : c.code = code) (hml : c.maxLocals = 7) (hown : s.vm.findClass "com/example/lehre/lehre/XmlNamesIsNameStartPinLaw" = some m.cls) (hret : meth.sig.returnType = some .boolean) (hlk : meth.locks = false) (e0 : T0.heap = h0) (Z0 : n0 ≤ h0.size) (N0 : Fr n0 locs) (g0 : n0 ≤ o) (V : own_Arr Z h0 o 30 f) (hone : ∀ w : Int32, f0_205 x0 x1 x2 w = 1) :
    own_Goes p e below s n0 room_1.cells room_1.slots own_one (T0.setTop (mkF m 104 #[.val (.int x0), .val (.int x1), .val (.int x2), .unset, .unset, .unset, .unset] [(.ref o)])) := by
  obtain ⟨T1, h1, L1, X1, e1, Z1, N1, V1, st1⟩ := own_put X0 hx hZ e0 V g0 N0 Z0 (pc := 110) (Ls := #[.val (.int x0), .val (.int x1), .val (.int x2), .unset, .unset, .unset, .unset]) (rest := [(.ref o)]) (16 : Int32) (8204 : Int32) 16 (by decide) (by decide) (by decide) (hb hby at_110)
  refine own_Goes.pre (fun t kt => ?_) (fl111 x0 x1 x2 o X1 hx hZ hw hby hml hown hret hlk e1 Z1 N1 g0 V1 hone)
  show Steps p.tables e below (T0.setTop (mkF m 104 #[.val (.int x0), .val (.int x1), .val (.int x2), .unset, .unset, .unset, .unset] [(.ref o)])) _
  refine XS.dup X0.here hx rfl (hb hby at_104) rfl rfl ?_
  show Steps p.tables e below (T0.setTop (mkF m 105 #[.val (.int x0), .val (.int x1), .val (.int x2), .unset, .unset, .unset, .unset] [(.ref o), (.ref o)])) _
  refine XS.bipush X0.here hx rfl (hb hby at_105) ?_
  show Steps p.tables e below (T0.setTop (mkF m 107 #[.val (.int x0), .val (.int x1), .val (.int x2), .unset, .unset, .unset, .unset] [(.int (16 : Int32)), (.ref o), (.ref o)])) _
  refine XS.sipush X0.here hx rfl (hb hby at_107) ?_
  show Steps p.tables e below (T0.setTop (mkF m 110 #[.val (.int x0), .val (.int x1), .val (.int x2), .unset, .unset, .unset, .unset] [(.int (8204 : Int32)), (.int (16 : Int32)), (.ref o), (.ref o)])) _
  exact st1 _ kt
set_option maxRecDepth 65536 in
set_option maxHeartbeats 40000000 in
theorem fl97 {p : Program} {l : Launch} {e : Env} {s : State} {m : MethodId} {args : Array Value} {below : List Frame} {meth : Method} {c : Code} {T0 : State} {locs : List Loc} {Z : State} {a0 : Array Value} {h0 : Heap} {n0 : Nat} {f : Nat → Int32} (x0 : Int32) (x1 : Int32) (x2 : Int32) (o : Addr) (X0 : Stand p l e room_1 s m args below meth c T0 locs 1 30) (hx : p.tables.exec = Jvm.exec) (hZ : Z.Warmed39 s.vm) (hw : ∀ d ∈ tables_1, d.before a0 Z = true) (hby : c.code = code) (hml : c.maxLocals = 7) (hown : s.vm.findClass "com/example/lehre/lehre/XmlNamesIsNameStartPinLaw" = some m.cls) (hret : meth.sig.returnType = some .boolean) (hlk : meth.locks = false) (e0 : T0.heap = h0) (Z0 : n0 ≤ h0.size) (N0 : Fr n0 locs) (g0 : n0 ≤ o) (V : own_Arr Z h0 o 30 f) (hone : ∀ w : Int32, f0_205 x0 x1 x2 w = 1) :
    own_Goes p e below s n0 room_1.cells room_1.slots own_one (T0.setTop (mkF m 97 #[.val (.int x0), .val (.int x1), .val (.int x2), .unset, .unset, .unset, .unset] [(.ref o)])) := by
  obtain ⟨T1, h1, L1, X1, e1, Z1, N1, V1, st1⟩ := own_put X0 hx hZ e0 V g0 N0 Z0 (pc := 103) (Ls := #[.val (.int x0), .val (.int x1), .val (.int x2), .unset, .unset, .unset, .unset]) (rest := [(.ref o)]) (15 : Int32) (8191 : Int32) 15 (by decide) (by decide) (by decide) (hb hby at_103)
  refine own_Goes.pre (fun t kt => ?_) (fl104 x0 x1 x2 o X1 hx hZ hw hby hml hown hret hlk e1 Z1 N1 g0 V1 hone)
  show Steps p.tables e below (T0.setTop (mkF m 97 #[.val (.int x0), .val (.int x1), .val (.int x2), .unset, .unset, .unset, .unset] [(.ref o)])) _
  refine XS.dup X0.here hx rfl (hb hby at_97) rfl rfl ?_
  show Steps p.tables e below (T0.setTop (mkF m 98 #[.val (.int x0), .val (.int x1), .val (.int x2), .unset, .unset, .unset, .unset] [(.ref o), (.ref o)])) _
  refine XS.bipush X0.here hx rfl (hb hby at_98) ?_
  show Steps p.tables e below (T0.setTop (mkF m 100 #[.val (.int x0), .val (.int x1), .val (.int x2), .unset, .unset, .unset, .unset] [(.int (15 : Int32)), (.ref o), (.ref o)])) _
  refine XS.sipush X0.here hx rfl (hb hby at_100) ?_
  show Steps p.tables e below (T0.setTop (mkF m 103 #[.val (.int x0), .val (.int x1), .val (.int x2), .unset, .unset, .unset, .unset] [(.int (8191 : Int32)), (.int (15 : Int32)), (.ref o), (.ref o)])) _
  exact st1 _ kt
set_option maxRecDepth 65536 in
set_option maxHeartbeats 40000000 in
theorem fl90 {p : Program} {l : Launch} {e : Env} {s : State} {m : MethodId} {args : Array Value} {below : List Frame} {meth : Method} {c : Code} {T0 : State} {locs : List Loc} {Z : State} {a0 : Array Value} {h0 : Heap} {n0 : Nat} {f : Nat → Int32} (x0 : Int32) (x1 : Int32) (x2 : Int32) (o : Addr) (X0 : Stand p l e room_1 s m args below meth c T0 locs 1 30) (hx : p.tables.exec = Jvm.exec) (hZ : Z.Warmed39 s.vm) (hw : ∀ d ∈ tables_1, d.before a0 Z = true) (hby : c.code = code) (hml : c.maxLocals = 7) (hown : s.vm.findClass "com/example/lehre/lehre/XmlNamesIsNameStartPinLaw" = some m.cls) (hret : meth.sig.returnType = some .boolean) (hlk : meth.locks = false) (e0 : T0.heap = h0) (Z0 : n0 ≤ h0.size) (N0 : Fr n0 locs) (g0 : n0 ≤ o) (V : own_Arr Z h0 o 30 f) (hone : ∀ w : Int32, f0_205 x0 x1 x2 w = 1) :
    own_Goes p e below s n0 room_1.cells room_1.slots own_one (T0.setTop (mkF m 90 #[.val (.int x0), .val (.int x1), .val (.int x2), .unset, .unset, .unset, .unset] [(.ref o)])) := by
  obtain ⟨T1, h1, L1, X1, e1, Z1, N1, V1, st1⟩ := own_put X0 hx hZ e0 V g0 N0 Z0 (pc := 96) (Ls := #[.val (.int x0), .val (.int x1), .val (.int x2), .unset, .unset, .unset, .unset]) (rest := [(.ref o)]) (14 : Int32) (895 : Int32) 14 (by decide) (by decide) (by decide) (hb hby at_96)
  refine own_Goes.pre (fun t kt => ?_) (fl97 x0 x1 x2 o X1 hx hZ hw hby hml hown hret hlk e1 Z1 N1 g0 V1 hone)
  show Steps p.tables e below (T0.setTop (mkF m 90 #[.val (.int x0), .val (.int x1), .val (.int x2), .unset, .unset, .unset, .unset] [(.ref o)])) _
  refine XS.dup X0.here hx rfl (hb hby at_90) rfl rfl ?_
  show Steps p.tables e below (T0.setTop (mkF m 91 #[.val (.int x0), .val (.int x1), .val (.int x2), .unset, .unset, .unset, .unset] [(.ref o), (.ref o)])) _
  refine XS.bipush X0.here hx rfl (hb hby at_91) ?_
  show Steps p.tables e below (T0.setTop (mkF m 93 #[.val (.int x0), .val (.int x1), .val (.int x2), .unset, .unset, .unset, .unset] [(.int (14 : Int32)), (.ref o), (.ref o)])) _
  refine XS.sipush X0.here hx rfl (hb hby at_93) ?_
  show Steps p.tables e below (T0.setTop (mkF m 96 #[.val (.int x0), .val (.int x1), .val (.int x2), .unset, .unset, .unset, .unset] [(.int (895 : Int32)), (.int (14 : Int32)), (.ref o), (.ref o)])) _
  exact st1 _ kt
set_option maxRecDepth 65536 in
set_option maxHeartbeats 40000000 in
theorem fl83 {p : Program} {l : Launch} {e : Env} {s : State} {m : MethodId} {args : Array Value} {below : List Frame} {meth : Method} {c : Code} {T0 : State} {locs : List Loc} {Z : State} {a0 : Array Value} {h0 : Heap} {n0 : Nat} {f : Nat → Int32} (x0 : Int32) (x1 : Int32) (x2 : Int32) (o : Addr) (X0 : Stand p l e room_1 s m args below meth c T0 locs 1 30) (hx : p.tables.exec = Jvm.exec) (hZ : Z.Warmed39 s.vm) (hw : ∀ d ∈ tables_1, d.before a0 Z = true) (hby : c.code = code) (hml : c.maxLocals = 7) (hown : s.vm.findClass "com/example/lehre/lehre/XmlNamesIsNameStartPinLaw" = some m.cls) (hret : meth.sig.returnType = some .boolean) (hlk : meth.locks = false) (e0 : T0.heap = h0) (Z0 : n0 ≤ h0.size) (N0 : Fr n0 locs) (g0 : n0 ≤ o) (V : own_Arr Z h0 o 30 f) (hone : ∀ w : Int32, f0_205 x0 x1 x2 w = 1) :
    own_Goes p e below s n0 room_1.cells room_1.slots own_one (T0.setTop (mkF m 83 #[.val (.int x0), .val (.int x1), .val (.int x2), .unset, .unset, .unset, .unset] [(.ref o)])) := by
  obtain ⟨T1, h1, L1, X1, e1, Z1, N1, V1, st1⟩ := own_put X0 hx hZ e0 V g0 N0 Z0 (pc := 89) (Ls := #[.val (.int x0), .val (.int x1), .val (.int x2), .unset, .unset, .unset, .unset]) (rest := [(.ref o)]) (13 : Int32) (893 : Int32) 13 (by decide) (by decide) (by decide) (hb hby at_89)
  refine own_Goes.pre (fun t kt => ?_) (fl90 x0 x1 x2 o X1 hx hZ hw hby hml hown hret hlk e1 Z1 N1 g0 V1 hone)
  show Steps p.tables e below (T0.setTop (mkF m 83 #[.val (.int x0), .val (.int x1), .val (.int x2), .unset, .unset, .unset, .unset] [(.ref o)])) _
  refine XS.dup X0.here hx rfl (hb hby at_83) rfl rfl ?_
  show Steps p.tables e below (T0.setTop (mkF m 84 #[.val (.int x0), .val (.int x1), .val (.int x2), .unset, .unset, .unset, .unset] [(.ref o), (.ref o)])) _
  refine XS.bipush X0.here hx rfl (hb hby at_84) ?_
  show Steps p.tables e below (T0.setTop (mkF m 86 #[.val (.int x0), .val (.int x1), .val (.int x2), .unset, .unset, .unset, .unset] [(.int (13 : Int32)), (.ref o), (.ref o)])) _
  refine XS.sipush X0.here hx rfl (hb hby at_86) ?_
  show Steps p.tables e below (T0.setTop (mkF m 89 #[.val (.int x0), .val (.int x1), .val (.int x2), .unset, .unset, .unset, .unset] [(.int (893 : Int32)), (.int (13 : Int32)), (.ref o), (.ref o)])) _
  exact st1 _ kt
set_option maxRecDepth 65536 in
set_option maxHeartbeats 40000000 in
theorem fl76 {p : Program} {l : Launch} {e : Env} {s : State} {m : MethodId} {args : Array Value} {below : List Frame} {meth : Method} {c : Code} {T0 : State} {locs : List Loc} {Z : State} {a0 : Array Value} {h0 : Heap} {n0 : Nat} {f : Nat → Int32} (x0 : Int32) (x1 : Int32) (x2 : Int32) (o : Addr) (X0 : Stand p l e room_1 s m args below meth c T0 locs 1 30) (hx : p.tables.exec = Jvm.exec) (hZ : Z.Warmed39 s.vm) (hw : ∀ d ∈ tables_1, d.before a0 Z = true) (hby : c.code = code) (hml : c.maxLocals = 7) (hown : s.vm.findClass "com/example/lehre/lehre/XmlNamesIsNameStartPinLaw" = some m.cls) (hret : meth.sig.returnType = some .boolean) (hlk : meth.locks = false) (e0 : T0.heap = h0) (Z0 : n0 ≤ h0.size) (N0 : Fr n0 locs) (g0 : n0 ≤ o) (V : own_Arr Z h0 o 30 f) (hone : ∀ w : Int32, f0_205 x0 x1 x2 w = 1) :
    own_Goes p e below s n0 room_1.cells room_1.slots own_one (T0.setTop (mkF m 76 #[.val (.int x0), .val (.int x1), .val (.int x2), .unset, .unset, .unset, .unset] [(.ref o)])) := by
  obtain ⟨T1, h1, L1, X1, e1, Z1, N1, V1, st1⟩ := own_put X0 hx hZ e0 V g0 N0 Z0 (pc := 82) (Ls := #[.val (.int x0), .val (.int x1), .val (.int x2), .unset, .unset, .unset, .unset]) (rest := [(.ref o)]) (12 : Int32) (880 : Int32) 12 (by decide) (by decide) (by decide) (hb hby at_82)
  refine own_Goes.pre (fun t kt => ?_) (fl83 x0 x1 x2 o X1 hx hZ hw hby hml hown hret hlk e1 Z1 N1 g0 V1 hone)
  show Steps p.tables e below (T0.setTop (mkF m 76 #[.val (.int x0), .val (.int x1), .val (.int x2), .unset, .unset, .unset, .unset] [(.ref o)])) _
  refine XS.dup X0.here hx rfl (hb hby at_76) rfl rfl ?_
  show Steps p.tables e below (T0.setTop (mkF m 77 #[.val (.int x0), .val (.int x1), .val (.int x2), .unset, .unset, .unset, .unset] [(.ref o), (.ref o)])) _
  refine XS.bipush X0.here hx rfl (hb hby at_77) ?_
  show Steps p.tables e below (T0.setTop (mkF m 79 #[.val (.int x0), .val (.int x1), .val (.int x2), .unset, .unset, .unset, .unset] [(.int (12 : Int32)), (.ref o), (.ref o)])) _
  refine XS.sipush X0.here hx rfl (hb hby at_79) ?_
  show Steps p.tables e below (T0.setTop (mkF m 82 #[.val (.int x0), .val (.int x1), .val (.int x2), .unset, .unset, .unset, .unset] [(.int (880 : Int32)), (.int (12 : Int32)), (.ref o), (.ref o)])) _
  exact st1 _ kt
set_option maxRecDepth 65536 in
set_option maxHeartbeats 40000000 in
theorem fl69 {p : Program} {l : Launch} {e : Env} {s : State} {m : MethodId} {args : Array Value} {below : List Frame} {meth : Method} {c : Code} {T0 : State} {locs : List Loc} {Z : State} {a0 : Array Value} {h0 : Heap} {n0 : Nat} {f : Nat → Int32} (x0 : Int32) (x1 : Int32) (x2 : Int32) (o : Addr) (X0 : Stand p l e room_1 s m args below meth c T0 locs 1 30) (hx : p.tables.exec = Jvm.exec) (hZ : Z.Warmed39 s.vm) (hw : ∀ d ∈ tables_1, d.before a0 Z = true) (hby : c.code = code) (hml : c.maxLocals = 7) (hown : s.vm.findClass "com/example/lehre/lehre/XmlNamesIsNameStartPinLaw" = some m.cls) (hret : meth.sig.returnType = some .boolean) (hlk : meth.locks = false) (e0 : T0.heap = h0) (Z0 : n0 ≤ h0.size) (N0 : Fr n0 locs) (g0 : n0 ≤ o) (V : own_Arr Z h0 o 30 f) (hone : ∀ w : Int32, f0_205 x0 x1 x2 w = 1) :
    own_Goes p e below s n0 room_1.cells room_1.slots own_one (T0.setTop (mkF m 69 #[.val (.int x0), .val (.int x1), .val (.int x2), .unset, .unset, .unset, .unset] [(.ref o)])) := by
  obtain ⟨T1, h1, L1, X1, e1, Z1, N1, V1, st1⟩ := own_put X0 hx hZ e0 V g0 N0 Z0 (pc := 75) (Ls := #[.val (.int x0), .val (.int x1), .val (.int x2), .unset, .unset, .unset, .unset]) (rest := [(.ref o)]) (11 : Int32) (767 : Int32) 11 (by decide) (by decide) (by decide) (hb hby at_75)
  refine own_Goes.pre (fun t kt => ?_) (fl76 x0 x1 x2 o X1 hx hZ hw hby hml hown hret hlk e1 Z1 N1 g0 V1 hone)
  show Steps p.tables e below (T0.setTop (mkF m 69 #[.val (.int x0), .val (.int x1), .val (.int x2), .unset, .unset, .unset, .unset] [(.ref o)])) _
  refine XS.dup X0.here hx rfl (hb hby at_69) rfl rfl ?_
  show Steps p.tables e below (T0.setTop (mkF m 70 #[.val (.int x0), .val (.int x1), .val (.int x2), .unset, .unset, .unset, .unset] [(.ref o), (.ref o)])) _
  refine XS.bipush X0.here hx rfl (hb hby at_70) ?_
  show Steps p.tables e below (T0.setTop (mkF m 72 #[.val (.int x0), .val (.int x1), .val (.int x2), .unset, .unset, .unset, .unset] [(.int (11 : Int32)), (.ref o), (.ref o)])) _
  refine XS.sipush X0.here hx rfl (hb hby at_72) ?_
  show Steps p.tables e below (T0.setTop (mkF m 75 #[.val (.int x0), .val (.int x1), .val (.int x2), .unset, .unset, .unset, .unset] [(.int (767 : Int32)), (.int (11 : Int32)), (.ref o), (.ref o)])) _
  exact st1 _ kt
set_option maxRecDepth 65536 in
set_option maxHeartbeats 40000000 in
theorem fl62 {p : Program} {l : Launch} {e : Env} {s : State} {m : MethodId} {args : Array Value} {below : List Frame} {meth : Method} {c : Code} {T0 : State} {locs : List Loc} {Z : State} {a0 : Array Value} {h0 : Heap} {n0 : Nat} {f : Nat → Int32} (x0 : Int32) (x1 : Int32) (x2 : Int32) (o : Addr) (X0 : Stand p l e room_1 s m args below meth c T0 locs 1 30) (hx : p.tables.exec = Jvm.exec) (hZ : Z.Warmed39 s.vm) (hw : ∀ d ∈ tables_1, d.before a0 Z = true) (hby : c.code = code) (hml : c.maxLocals = 7) (hown : s.vm.findClass "com/example/lehre/lehre/XmlNamesIsNameStartPinLaw" = some m.cls) (hret : meth.sig.returnType = some .boolean) (hlk : meth.locks = false) (e0 : T0.heap = h0) (Z0 : n0 ≤ h0.size) (N0 : Fr n0 locs) (g0 : n0 ≤ o) (V : own_Arr Z h0 o 30 f) (hone : ∀ w : Int32, f0_205 x0 x1 x2 w = 1) :
    own_Goes p e below s n0 room_1.cells room_1.slots own_one (T0.setTop (mkF m 62 #[.val (.int x0), .val (.int x1), .val (.int x2), .unset, .unset, .unset, .unset] [(.ref o)])) := by
  obtain ⟨T1, h1, L1, X1, e1, Z1, N1, V1, st1⟩ := own_put X0 hx hZ e0 V g0 N0 Z0 (pc := 68) (Ls := #[.val (.int x0), .val (.int x1), .val (.int x2), .unset, .unset, .unset, .unset]) (rest := [(.ref o)]) (10 : Int32) (248 : Int32) 10 (by decide) (by decide) (by decide) (hb hby at_68)
  refine own_Goes.pre (fun t kt => ?_) (fl69 x0 x1 x2 o X1 hx hZ hw hby hml hown hret hlk e1 Z1 N1 g0 V1 hone)
  show Steps p.tables e below (T0.setTop (mkF m 62 #[.val (.int x0), .val (.int x1), .val (.int x2), .unset, .unset, .unset, .unset] [(.ref o)])) _
  refine XS.dup X0.here hx rfl (hb hby at_62) rfl rfl ?_
  show Steps p.tables e below (T0.setTop (mkF m 63 #[.val (.int x0), .val (.int x1), .val (.int x2), .unset, .unset, .unset, .unset] [(.ref o), (.ref o)])) _
  refine XS.bipush X0.here hx rfl (hb hby at_63) ?_
  show Steps p.tables e below (T0.setTop (mkF m 65 #[.val (.int x0), .val (.int x1), .val (.int x2), .unset, .unset, .unset, .unset] [(.int (10 : Int32)), (.ref o), (.ref o)])) _
  refine XS.sipush X0.here hx rfl (hb hby at_65) ?_
  show Steps p.tables e below (T0.setTop (mkF m 68 #[.val (.int x0), .val (.int x1), .val (.int x2), .unset, .unset, .unset, .unset] [(.int (248 : Int32)), (.int (10 : Int32)), (.ref o), (.ref o)])) _
  exact st1 _ kt
set_option maxRecDepth 65536 in
set_option maxHeartbeats 40000000 in
theorem fl55 {p : Program} {l : Launch} {e : Env} {s : State} {m : MethodId} {args : Array Value} {below : List Frame} {meth : Method} {c : Code} {T0 : State} {locs : List Loc} {Z : State} {a0 : Array Value} {h0 : Heap} {n0 : Nat} {f : Nat → Int32} (x0 : Int32) (x1 : Int32) (x2 : Int32) (o : Addr) (X0 : Stand p l e room_1 s m args below meth c T0 locs 1 30) (hx : p.tables.exec = Jvm.exec) (hZ : Z.Warmed39 s.vm) (hw : ∀ d ∈ tables_1, d.before a0 Z = true) (hby : c.code = code) (hml : c.maxLocals = 7) (hown : s.vm.findClass "com/example/lehre/lehre/XmlNamesIsNameStartPinLaw" = some m.cls) (hret : meth.sig.returnType = some .boolean) (hlk : meth.locks = false) (e0 : T0.heap = h0) (Z0 : n0 ≤ h0.size) (N0 : Fr n0 locs) (g0 : n0 ≤ o) (V : own_Arr Z h0 o 30 f) (hone : ∀ w : Int32, f0_205 x0 x1 x2 w = 1) :
    own_Goes p e below s n0 room_1.cells room_1.slots own_one (T0.setTop (mkF m 55 #[.val (.int x0), .val (.int x1), .val (.int x2), .unset, .unset, .unset, .unset] [(.ref o)])) := by
  obtain ⟨T1, h1, L1, X1, e1, Z1, N1, V1, st1⟩ := own_put X0 hx hZ e0 V g0 N0 Z0 (pc := 61) (Ls := #[.val (.int x0), .val (.int x1), .val (.int x2), .unset, .unset, .unset, .unset]) (rest := [(.ref o)]) (9 : Int32) (246 : Int32) 9 (by decide) (by decide) (by decide) (hb hby at_61)
  refine own_Goes.pre (fun t kt => ?_) (fl62 x0 x1 x2 o X1 hx hZ hw hby hml hown hret hlk e1 Z1 N1 g0 V1 hone)
  show Steps p.tables e below (T0.setTop (mkF m 55 #[.val (.int x0), .val (.int x1), .val (.int x2), .unset, .unset, .unset, .unset] [(.ref o)])) _
  refine XS.dup X0.here hx rfl (hb hby at_55) rfl rfl ?_
  show Steps p.tables e below (T0.setTop (mkF m 56 #[.val (.int x0), .val (.int x1), .val (.int x2), .unset, .unset, .unset, .unset] [(.ref o), (.ref o)])) _
  refine XS.bipush X0.here hx rfl (hb hby at_56) ?_
  show Steps p.tables e below (T0.setTop (mkF m 58 #[.val (.int x0), .val (.int x1), .val (.int x2), .unset, .unset, .unset, .unset] [(.int (9 : Int32)), (.ref o), (.ref o)])) _
  refine XS.sipush X0.here hx rfl (hb hby at_58) ?_
  show Steps p.tables e below (T0.setTop (mkF m 61 #[.val (.int x0), .val (.int x1), .val (.int x2), .unset, .unset, .unset, .unset] [(.int (246 : Int32)), (.int (9 : Int32)), (.ref o), (.ref o)])) _
  exact st1 _ kt
set_option maxRecDepth 65536 in
set_option maxHeartbeats 40000000 in
theorem fl48 {p : Program} {l : Launch} {e : Env} {s : State} {m : MethodId} {args : Array Value} {below : List Frame} {meth : Method} {c : Code} {T0 : State} {locs : List Loc} {Z : State} {a0 : Array Value} {h0 : Heap} {n0 : Nat} {f : Nat → Int32} (x0 : Int32) (x1 : Int32) (x2 : Int32) (o : Addr) (X0 : Stand p l e room_1 s m args below meth c T0 locs 1 30) (hx : p.tables.exec = Jvm.exec) (hZ : Z.Warmed39 s.vm) (hw : ∀ d ∈ tables_1, d.before a0 Z = true) (hby : c.code = code) (hml : c.maxLocals = 7) (hown : s.vm.findClass "com/example/lehre/lehre/XmlNamesIsNameStartPinLaw" = some m.cls) (hret : meth.sig.returnType = some .boolean) (hlk : meth.locks = false) (e0 : T0.heap = h0) (Z0 : n0 ≤ h0.size) (N0 : Fr n0 locs) (g0 : n0 ≤ o) (V : own_Arr Z h0 o 30 f) (hone : ∀ w : Int32, f0_205 x0 x1 x2 w = 1) :
    own_Goes p e below s n0 room_1.cells room_1.slots own_one (T0.setTop (mkF m 48 #[.val (.int x0), .val (.int x1), .val (.int x2), .unset, .unset, .unset, .unset] [(.ref o)])) := by
  obtain ⟨T1, h1, L1, X1, e1, Z1, N1, V1, st1⟩ := own_put X0 hx hZ e0 V g0 N0 Z0 (pc := 54) (Ls := #[.val (.int x0), .val (.int x1), .val (.int x2), .unset, .unset, .unset, .unset]) (rest := [(.ref o)]) (8 : Int32) (216 : Int32) 8 (by decide) (by decide) (by decide) (hb hby at_54)
  refine own_Goes.pre (fun t kt => ?_) (fl55 x0 x1 x2 o X1 hx hZ hw hby hml hown hret hlk e1 Z1 N1 g0 V1 hone)
  show Steps p.tables e below (T0.setTop (mkF m 48 #[.val (.int x0), .val (.int x1), .val (.int x2), .unset, .unset, .unset, .unset] [(.ref o)])) _
  refine XS.dup X0.here hx rfl (hb hby at_48) rfl rfl ?_
  show Steps p.tables e below (T0.setTop (mkF m 49 #[.val (.int x0), .val (.int x1), .val (.int x2), .unset, .unset, .unset, .unset] [(.ref o), (.ref o)])) _
  refine XS.bipush X0.here hx rfl (hb hby at_49) ?_
  show Steps p.tables e below (T0.setTop (mkF m 51 #[.val (.int x0), .val (.int x1), .val (.int x2), .unset, .unset, .unset, .unset] [(.int (8 : Int32)), (.ref o), (.ref o)])) _
  refine XS.sipush X0.here hx rfl (hb hby at_51) ?_
  show Steps p.tables e below (T0.setTop (mkF m 54 #[.val (.int x0), .val (.int x1), .val (.int x2), .unset, .unset, .unset, .unset] [(.int (216 : Int32)), (.int (8 : Int32)), (.ref o), (.ref o)])) _
  exact st1 _ kt
set_option maxRecDepth 65536 in
set_option maxHeartbeats 40000000 in
theorem fl41 {p : Program} {l : Launch} {e : Env} {s : State} {m : MethodId} {args : Array Value} {below : List Frame} {meth : Method} {c : Code} {T0 : State} {locs : List Loc} {Z : State} {a0 : Array Value} {h0 : Heap} {n0 : Nat} {f : Nat → Int32} (x0 : Int32) (x1 : Int32) (x2 : Int32) (o : Addr) (X0 : Stand p l e room_1 s m args below meth c T0 locs 1 30) (hx : p.tables.exec = Jvm.exec) (hZ : Z.Warmed39 s.vm) (hw : ∀ d ∈ tables_1, d.before a0 Z = true) (hby : c.code = code) (hml : c.maxLocals = 7) (hown : s.vm.findClass "com/example/lehre/lehre/XmlNamesIsNameStartPinLaw" = some m.cls) (hret : meth.sig.returnType = some .boolean) (hlk : meth.locks = false) (e0 : T0.heap = h0) (Z0 : n0 ≤ h0.size) (N0 : Fr n0 locs) (g0 : n0 ≤ o) (V : own_Arr Z h0 o 30 f) (hone : ∀ w : Int32, f0_205 x0 x1 x2 w = 1) :
    own_Goes p e below s n0 room_1.cells room_1.slots own_one (T0.setTop (mkF m 41 #[.val (.int x0), .val (.int x1), .val (.int x2), .unset, .unset, .unset, .unset] [(.ref o)])) := by
  obtain ⟨T1, h1, L1, X1, e1, Z1, N1, V1, st1⟩ := own_put X0 hx hZ e0 V g0 N0 Z0 (pc := 47) (Ls := #[.val (.int x0), .val (.int x1), .val (.int x2), .unset, .unset, .unset, .unset]) (rest := [(.ref o)]) (7 : Int32) (214 : Int32) 7 (by decide) (by decide) (by decide) (hb hby at_47)
  refine own_Goes.pre (fun t kt => ?_) (fl48 x0 x1 x2 o X1 hx hZ hw hby hml hown hret hlk e1 Z1 N1 g0 V1 hone)
  show Steps p.tables e below (T0.setTop (mkF m 41 #[.val (.int x0), .val (.int x1), .val (.int x2), .unset, .unset, .unset, .unset] [(.ref o)])) _
  refine XS.dup X0.here hx rfl (hb hby at_41) rfl rfl ?_
  show Steps p.tables e below (T0.setTop (mkF m 42 #[.val (.int x0), .val (.int x1), .val (.int x2), .unset, .unset, .unset, .unset] [(.ref o), (.ref o)])) _
  refine XS.bipush X0.here hx rfl (hb hby at_42) ?_
  show Steps p.tables e below (T0.setTop (mkF m 44 #[.val (.int x0), .val (.int x1), .val (.int x2), .unset, .unset, .unset, .unset] [(.int (7 : Int32)), (.ref o), (.ref o)])) _
  refine XS.sipush X0.here hx rfl (hb hby at_44) ?_
  show Steps p.tables e below (T0.setTop (mkF m 47 #[.val (.int x0), .val (.int x1), .val (.int x2), .unset, .unset, .unset, .unset] [(.int (214 : Int32)), (.int (7 : Int32)), (.ref o), (.ref o)])) _
  exact st1 _ kt
set_option maxRecDepth 65536 in
set_option maxHeartbeats 40000000 in
theorem fl34 {p : Program} {l : Launch} {e : Env} {s : State} {m : MethodId} {args : Array Value} {below : List Frame} {meth : Method} {c : Code} {T0 : State} {locs : List Loc} {Z : State} {a0 : Array Value} {h0 : Heap} {n0 : Nat} {f : Nat → Int32} (x0 : Int32) (x1 : Int32) (x2 : Int32) (o : Addr) (X0 : Stand p l e room_1 s m args below meth c T0 locs 1 30) (hx : p.tables.exec = Jvm.exec) (hZ : Z.Warmed39 s.vm) (hw : ∀ d ∈ tables_1, d.before a0 Z = true) (hby : c.code = code) (hml : c.maxLocals = 7) (hown : s.vm.findClass "com/example/lehre/lehre/XmlNamesIsNameStartPinLaw" = some m.cls) (hret : meth.sig.returnType = some .boolean) (hlk : meth.locks = false) (e0 : T0.heap = h0) (Z0 : n0 ≤ h0.size) (N0 : Fr n0 locs) (g0 : n0 ≤ o) (V : own_Arr Z h0 o 30 f) (hone : ∀ w : Int32, f0_205 x0 x1 x2 w = 1) :
    own_Goes p e below s n0 room_1.cells room_1.slots own_one (T0.setTop (mkF m 34 #[.val (.int x0), .val (.int x1), .val (.int x2), .unset, .unset, .unset, .unset] [(.ref o)])) := by
  obtain ⟨T1, h1, L1, X1, e1, Z1, N1, V1, st1⟩ := own_put X0 hx hZ e0 V g0 N0 Z0 (pc := 40) (Ls := #[.val (.int x0), .val (.int x1), .val (.int x2), .unset, .unset, .unset, .unset]) (rest := [(.ref o)]) (6 : Int32) (192 : Int32) 6 (by decide) (by decide) (by decide) (hb hby at_40)
  refine own_Goes.pre (fun t kt => ?_) (fl41 x0 x1 x2 o X1 hx hZ hw hby hml hown hret hlk e1 Z1 N1 g0 V1 hone)
  show Steps p.tables e below (T0.setTop (mkF m 34 #[.val (.int x0), .val (.int x1), .val (.int x2), .unset, .unset, .unset, .unset] [(.ref o)])) _
  refine XS.dup X0.here hx rfl (hb hby at_34) rfl rfl ?_
  show Steps p.tables e below (T0.setTop (mkF m 35 #[.val (.int x0), .val (.int x1), .val (.int x2), .unset, .unset, .unset, .unset] [(.ref o), (.ref o)])) _
  refine XS.bipush X0.here hx rfl (hb hby at_35) ?_
  show Steps p.tables e below (T0.setTop (mkF m 37 #[.val (.int x0), .val (.int x1), .val (.int x2), .unset, .unset, .unset, .unset] [(.int (6 : Int32)), (.ref o), (.ref o)])) _
  refine XS.sipush X0.here hx rfl (hb hby at_37) ?_
  show Steps p.tables e below (T0.setTop (mkF m 40 #[.val (.int x0), .val (.int x1), .val (.int x2), .unset, .unset, .unset, .unset] [(.int (192 : Int32)), (.int (6 : Int32)), (.ref o), (.ref o)])) _
  exact st1 _ kt
set_option maxRecDepth 65536 in
set_option maxHeartbeats 40000000 in
theorem fl29 {p : Program} {l : Launch} {e : Env} {s : State} {m : MethodId} {args : Array Value} {below : List Frame} {meth : Method} {c : Code} {T0 : State} {locs : List Loc} {Z : State} {a0 : Array Value} {h0 : Heap} {n0 : Nat} {f : Nat → Int32} (x0 : Int32) (x1 : Int32) (x2 : Int32) (o : Addr) (X0 : Stand p l e room_1 s m args below meth c T0 locs 1 30) (hx : p.tables.exec = Jvm.exec) (hZ : Z.Warmed39 s.vm) (hw : ∀ d ∈ tables_1, d.before a0 Z = true) (hby : c.code = code) (hml : c.maxLocals = 7) (hown : s.vm.findClass "com/example/lehre/lehre/XmlNamesIsNameStartPinLaw" = some m.cls) (hret : meth.sig.returnType = some .boolean) (hlk : meth.locks = false) (e0 : T0.heap = h0) (Z0 : n0 ≤ h0.size) (N0 : Fr n0 locs) (g0 : n0 ≤ o) (V : own_Arr Z h0 o 30 f) (hone : ∀ w : Int32, f0_205 x0 x1 x2 w = 1) :
    own_Goes p e below s n0 room_1.cells room_1.slots own_one (T0.setTop (mkF m 29 #[.val (.int x0), .val (.int x1), .val (.int x2), .unset, .unset, .unset, .unset] [(.ref o)])) := by
  obtain ⟨T1, h1, L1, X1, e1, Z1, N1, V1, st1⟩ := own_put X0 hx hZ e0 V g0 N0 Z0 (pc := 33) (Ls := #[.val (.int x0), .val (.int x1), .val (.int x2), .unset, .unset, .unset, .unset]) (rest := [(.ref o)]) (5 : Int32) (122 : Int32) 5 (by decide) (by decide) (by decide) (hb hby at_33)
  refine own_Goes.pre (fun t kt => ?_) (fl34 x0 x1 x2 o X1 hx hZ hw hby hml hown hret hlk e1 Z1 N1 g0 V1 hone)
  show Steps p.tables e below (T0.setTop (mkF m 29 #[.val (.int x0), .val (.int x1), .val (.int x2), .unset, .unset, .unset, .unset] [(.ref o)])) _
  refine XS.dup X0.here hx rfl (hb hby at_29) rfl rfl ?_
  show Steps p.tables e below (T0.setTop (mkF m 30 #[.val (.int x0), .val (.int x1), .val (.int x2), .unset, .unset, .unset, .unset] [(.ref o), (.ref o)])) _
  refine XS.iconst X0.here hx rfl (hb hby at_30) ?_
  show Steps p.tables e below (T0.setTop (mkF m 31 #[.val (.int x0), .val (.int x1), .val (.int x2), .unset, .unset, .unset, .unset] [(.int (5 : Int32)), (.ref o), (.ref o)])) _
  refine XS.bipush X0.here hx rfl (hb hby at_31) ?_
  show Steps p.tables e below (T0.setTop (mkF m 33 #[.val (.int x0), .val (.int x1), .val (.int x2), .unset, .unset, .unset, .unset] [(.int (122 : Int32)), (.int (5 : Int32)), (.ref o), (.ref o)])) _
  exact st1 _ kt
set_option maxRecDepth 65536 in
set_option maxHeartbeats 40000000 in
theorem fl24 {p : Program} {l : Launch} {e : Env} {s : State} {m : MethodId} {args : Array Value} {below : List Frame} {meth : Method} {c : Code} {T0 : State} {locs : List Loc} {Z : State} {a0 : Array Value} {h0 : Heap} {n0 : Nat} {f : Nat → Int32} (x0 : Int32) (x1 : Int32) (x2 : Int32) (o : Addr) (X0 : Stand p l e room_1 s m args below meth c T0 locs 1 30) (hx : p.tables.exec = Jvm.exec) (hZ : Z.Warmed39 s.vm) (hw : ∀ d ∈ tables_1, d.before a0 Z = true) (hby : c.code = code) (hml : c.maxLocals = 7) (hown : s.vm.findClass "com/example/lehre/lehre/XmlNamesIsNameStartPinLaw" = some m.cls) (hret : meth.sig.returnType = some .boolean) (hlk : meth.locks = false) (e0 : T0.heap = h0) (Z0 : n0 ≤ h0.size) (N0 : Fr n0 locs) (g0 : n0 ≤ o) (V : own_Arr Z h0 o 30 f) (hone : ∀ w : Int32, f0_205 x0 x1 x2 w = 1) :
    own_Goes p e below s n0 room_1.cells room_1.slots own_one (T0.setTop (mkF m 24 #[.val (.int x0), .val (.int x1), .val (.int x2), .unset, .unset, .unset, .unset] [(.ref o)])) := by
  obtain ⟨T1, h1, L1, X1, e1, Z1, N1, V1, st1⟩ := own_put X0 hx hZ e0 V g0 N0 Z0 (pc := 28) (Ls := #[.val (.int x0), .val (.int x1), .val (.int x2), .unset, .unset, .unset, .unset]) (rest := [(.ref o)]) (4 : Int32) (97 : Int32) 4 (by decide) (by decide) (by decide) (hb hby at_28)
  refine own_Goes.pre (fun t kt => ?_) (fl29 x0 x1 x2 o X1 hx hZ hw hby hml hown hret hlk e1 Z1 N1 g0 V1 hone)
  show Steps p.tables e below (T0.setTop (mkF m 24 #[.val (.int x0), .val (.int x1), .val (.int x2), .unset, .unset, .unset, .unset] [(.ref o)])) _
  refine XS.dup X0.here hx rfl (hb hby at_24) rfl rfl ?_
  show Steps p.tables e below (T0.setTop (mkF m 25 #[.val (.int x0), .val (.int x1), .val (.int x2), .unset, .unset, .unset, .unset] [(.ref o), (.ref o)])) _
  refine XS.iconst X0.here hx rfl (hb hby at_25) ?_
  show Steps p.tables e below (T0.setTop (mkF m 26 #[.val (.int x0), .val (.int x1), .val (.int x2), .unset, .unset, .unset, .unset] [(.int (4 : Int32)), (.ref o), (.ref o)])) _
  refine XS.bipush X0.here hx rfl (hb hby at_26) ?_
  show Steps p.tables e below (T0.setTop (mkF m 28 #[.val (.int x0), .val (.int x1), .val (.int x2), .unset, .unset, .unset, .unset] [(.int (97 : Int32)), (.int (4 : Int32)), (.ref o), (.ref o)])) _
  exact st1 _ kt
set_option maxRecDepth 65536 in
set_option maxHeartbeats 40000000 in
theorem fl19 {p : Program} {l : Launch} {e : Env} {s : State} {m : MethodId} {args : Array Value} {below : List Frame} {meth : Method} {c : Code} {T0 : State} {locs : List Loc} {Z : State} {a0 : Array Value} {h0 : Heap} {n0 : Nat} {f : Nat → Int32} (x0 : Int32) (x1 : Int32) (x2 : Int32) (o : Addr) (X0 : Stand p l e room_1 s m args below meth c T0 locs 1 30) (hx : p.tables.exec = Jvm.exec) (hZ : Z.Warmed39 s.vm) (hw : ∀ d ∈ tables_1, d.before a0 Z = true) (hby : c.code = code) (hml : c.maxLocals = 7) (hown : s.vm.findClass "com/example/lehre/lehre/XmlNamesIsNameStartPinLaw" = some m.cls) (hret : meth.sig.returnType = some .boolean) (hlk : meth.locks = false) (e0 : T0.heap = h0) (Z0 : n0 ≤ h0.size) (N0 : Fr n0 locs) (g0 : n0 ≤ o) (V : own_Arr Z h0 o 30 f) (hone : ∀ w : Int32, f0_205 x0 x1 x2 w = 1) :
    own_Goes p e below s n0 room_1.cells room_1.slots own_one (T0.setTop (mkF m 19 #[.val (.int x0), .val (.int x1), .val (.int x2), .unset, .unset, .unset, .unset] [(.ref o)])) := by
  obtain ⟨T1, h1, L1, X1, e1, Z1, N1, V1, st1⟩ := own_put X0 hx hZ e0 V g0 N0 Z0 (pc := 23) (Ls := #[.val (.int x0), .val (.int x1), .val (.int x2), .unset, .unset, .unset, .unset]) (rest := [(.ref o)]) (3 : Int32) (95 : Int32) 3 (by decide) (by decide) (by decide) (hb hby at_23)
  refine own_Goes.pre (fun t kt => ?_) (fl24 x0 x1 x2 o X1 hx hZ hw hby hml hown hret hlk e1 Z1 N1 g0 V1 hone)
  show Steps p.tables e below (T0.setTop (mkF m 19 #[.val (.int x0), .val (.int x1), .val (.int x2), .unset, .unset, .unset, .unset] [(.ref o)])) _
  refine XS.dup X0.here hx rfl (hb hby at_19) rfl rfl ?_
  show Steps p.tables e below (T0.setTop (mkF m 20 #[.val (.int x0), .val (.int x1), .val (.int x2), .unset, .unset, .unset, .unset] [(.ref o), (.ref o)])) _
  refine XS.iconst X0.here hx rfl (hb hby at_20) ?_
  show Steps p.tables e below (T0.setTop (mkF m 21 #[.val (.int x0), .val (.int x1), .val (.int x2), .unset, .unset, .unset, .unset] [(.int (3 : Int32)), (.ref o), (.ref o)])) _
  refine XS.bipush X0.here hx rfl (hb hby at_21) ?_
  show Steps p.tables e below (T0.setTop (mkF m 23 #[.val (.int x0), .val (.int x1), .val (.int x2), .unset, .unset, .unset, .unset] [(.int (95 : Int32)), (.int (3 : Int32)), (.ref o), (.ref o)])) _
  exact st1 _ kt
set_option maxRecDepth 65536 in
set_option maxHeartbeats 40000000 in
theorem fl14 {p : Program} {l : Launch} {e : Env} {s : State} {m : MethodId} {args : Array Value} {below : List Frame} {meth : Method} {c : Code} {T0 : State} {locs : List Loc} {Z : State} {a0 : Array Value} {h0 : Heap} {n0 : Nat} {f : Nat → Int32} (x0 : Int32) (x1 : Int32) (x2 : Int32) (o : Addr) (X0 : Stand p l e room_1 s m args below meth c T0 locs 1 30) (hx : p.tables.exec = Jvm.exec) (hZ : Z.Warmed39 s.vm) (hw : ∀ d ∈ tables_1, d.before a0 Z = true) (hby : c.code = code) (hml : c.maxLocals = 7) (hown : s.vm.findClass "com/example/lehre/lehre/XmlNamesIsNameStartPinLaw" = some m.cls) (hret : meth.sig.returnType = some .boolean) (hlk : meth.locks = false) (e0 : T0.heap = h0) (Z0 : n0 ≤ h0.size) (N0 : Fr n0 locs) (g0 : n0 ≤ o) (V : own_Arr Z h0 o 30 f) (hone : ∀ w : Int32, f0_205 x0 x1 x2 w = 1) :
    own_Goes p e below s n0 room_1.cells room_1.slots own_one (T0.setTop (mkF m 14 #[.val (.int x0), .val (.int x1), .val (.int x2), .unset, .unset, .unset, .unset] [(.ref o)])) := by
  obtain ⟨T1, h1, L1, X1, e1, Z1, N1, V1, st1⟩ := own_put X0 hx hZ e0 V g0 N0 Z0 (pc := 18) (Ls := #[.val (.int x0), .val (.int x1), .val (.int x2), .unset, .unset, .unset, .unset]) (rest := [(.ref o)]) (2 : Int32) (90 : Int32) 2 (by decide) (by decide) (by decide) (hb hby at_18)
  refine own_Goes.pre (fun t kt => ?_) (fl19 x0 x1 x2 o X1 hx hZ hw hby hml hown hret hlk e1 Z1 N1 g0 V1 hone)
  show Steps p.tables e below (T0.setTop (mkF m 14 #[.val (.int x0), .val (.int x1), .val (.int x2), .unset, .unset, .unset, .unset] [(.ref o)])) _
  refine XS.dup X0.here hx rfl (hb hby at_14) rfl rfl ?_
  show Steps p.tables e below (T0.setTop (mkF m 15 #[.val (.int x0), .val (.int x1), .val (.int x2), .unset, .unset, .unset, .unset] [(.ref o), (.ref o)])) _
  refine XS.iconst X0.here hx rfl (hb hby at_15) ?_
  show Steps p.tables e below (T0.setTop (mkF m 16 #[.val (.int x0), .val (.int x1), .val (.int x2), .unset, .unset, .unset, .unset] [(.int (2 : Int32)), (.ref o), (.ref o)])) _
  refine XS.bipush X0.here hx rfl (hb hby at_16) ?_
  show Steps p.tables e below (T0.setTop (mkF m 18 #[.val (.int x0), .val (.int x1), .val (.int x2), .unset, .unset, .unset, .unset] [(.int (90 : Int32)), (.int (2 : Int32)), (.ref o), (.ref o)])) _
  exact st1 _ kt
set_option maxRecDepth 65536 in
set_option maxHeartbeats 40000000 in
theorem fl9 {p : Program} {l : Launch} {e : Env} {s : State} {m : MethodId} {args : Array Value} {below : List Frame} {meth : Method} {c : Code} {T0 : State} {locs : List Loc} {Z : State} {a0 : Array Value} {h0 : Heap} {n0 : Nat} {f : Nat → Int32} (x0 : Int32) (x1 : Int32) (x2 : Int32) (o : Addr) (X0 : Stand p l e room_1 s m args below meth c T0 locs 1 30) (hx : p.tables.exec = Jvm.exec) (hZ : Z.Warmed39 s.vm) (hw : ∀ d ∈ tables_1, d.before a0 Z = true) (hby : c.code = code) (hml : c.maxLocals = 7) (hown : s.vm.findClass "com/example/lehre/lehre/XmlNamesIsNameStartPinLaw" = some m.cls) (hret : meth.sig.returnType = some .boolean) (hlk : meth.locks = false) (e0 : T0.heap = h0) (Z0 : n0 ≤ h0.size) (N0 : Fr n0 locs) (g0 : n0 ≤ o) (V : own_Arr Z h0 o 30 f) (hone : ∀ w : Int32, f0_205 x0 x1 x2 w = 1) :
    own_Goes p e below s n0 room_1.cells room_1.slots own_one (T0.setTop (mkF m 9 #[.val (.int x0), .val (.int x1), .val (.int x2), .unset, .unset, .unset, .unset] [(.ref o)])) := by
  obtain ⟨T1, h1, L1, X1, e1, Z1, N1, V1, st1⟩ := own_put X0 hx hZ e0 V g0 N0 Z0 (pc := 13) (Ls := #[.val (.int x0), .val (.int x1), .val (.int x2), .unset, .unset, .unset, .unset]) (rest := [(.ref o)]) (1 : Int32) (65 : Int32) 1 (by decide) (by decide) (by decide) (hb hby at_13)
  refine own_Goes.pre (fun t kt => ?_) (fl14 x0 x1 x2 o X1 hx hZ hw hby hml hown hret hlk e1 Z1 N1 g0 V1 hone)
  show Steps p.tables e below (T0.setTop (mkF m 9 #[.val (.int x0), .val (.int x1), .val (.int x2), .unset, .unset, .unset, .unset] [(.ref o)])) _
  refine XS.dup X0.here hx rfl (hb hby at_9) rfl rfl ?_
  show Steps p.tables e below (T0.setTop (mkF m 10 #[.val (.int x0), .val (.int x1), .val (.int x2), .unset, .unset, .unset, .unset] [(.ref o), (.ref o)])) _
  refine XS.iconst X0.here hx rfl (hb hby at_10) ?_
  show Steps p.tables e below (T0.setTop (mkF m 11 #[.val (.int x0), .val (.int x1), .val (.int x2), .unset, .unset, .unset, .unset] [(.int (1 : Int32)), (.ref o), (.ref o)])) _
  refine XS.bipush X0.here hx rfl (hb hby at_11) ?_
  show Steps p.tables e below (T0.setTop (mkF m 13 #[.val (.int x0), .val (.int x1), .val (.int x2), .unset, .unset, .unset, .unset] [(.int (65 : Int32)), (.int (1 : Int32)), (.ref o), (.ref o)])) _
  exact st1 _ kt
set_option maxRecDepth 65536 in
set_option maxHeartbeats 40000000 in
theorem fl4 {p : Program} {l : Launch} {e : Env} {s : State} {m : MethodId} {args : Array Value} {below : List Frame} {meth : Method} {c : Code} {T0 : State} {locs : List Loc} {Z : State} {a0 : Array Value} {h0 : Heap} {n0 : Nat} {f : Nat → Int32} (x0 : Int32) (x1 : Int32) (x2 : Int32) (o : Addr) (X0 : Stand p l e room_1 s m args below meth c T0 locs 1 30) (hx : p.tables.exec = Jvm.exec) (hZ : Z.Warmed39 s.vm) (hw : ∀ d ∈ tables_1, d.before a0 Z = true) (hby : c.code = code) (hml : c.maxLocals = 7) (hown : s.vm.findClass "com/example/lehre/lehre/XmlNamesIsNameStartPinLaw" = some m.cls) (hret : meth.sig.returnType = some .boolean) (hlk : meth.locks = false) (e0 : T0.heap = h0) (Z0 : n0 ≤ h0.size) (N0 : Fr n0 locs) (g0 : n0 ≤ o) (V : own_Arr Z h0 o 30 f) (hone : ∀ w : Int32, f0_205 x0 x1 x2 w = 1) :
    own_Goes p e below s n0 room_1.cells room_1.slots own_one (T0.setTop (mkF m 4 #[.val (.int x0), .val (.int x1), .val (.int x2), .unset, .unset, .unset, .unset] [(.ref o)])) := by
  obtain ⟨T1, h1, L1, X1, e1, Z1, N1, V1, st1⟩ := own_put X0 hx hZ e0 V g0 N0 Z0 (pc := 8) (Ls := #[.val (.int x0), .val (.int x1), .val (.int x2), .unset, .unset, .unset, .unset]) (rest := [(.ref o)]) (0 : Int32) (58 : Int32) 0 (by decide) (by decide) (by decide) (hb hby at_8)
  refine own_Goes.pre (fun t kt => ?_) (fl9 x0 x1 x2 o X1 hx hZ hw hby hml hown hret hlk e1 Z1 N1 g0 V1 hone)
  show Steps p.tables e below (T0.setTop (mkF m 4 #[.val (.int x0), .val (.int x1), .val (.int x2), .unset, .unset, .unset, .unset] [(.ref o)])) _
  refine XS.dup X0.here hx rfl (hb hby at_4) rfl rfl ?_
  show Steps p.tables e below (T0.setTop (mkF m 5 #[.val (.int x0), .val (.int x1), .val (.int x2), .unset, .unset, .unset, .unset] [(.ref o), (.ref o)])) _
  refine XS.iconst X0.here hx rfl (hb hby at_5) ?_
  show Steps p.tables e below (T0.setTop (mkF m 6 #[.val (.int x0), .val (.int x1), .val (.int x2), .unset, .unset, .unset, .unset] [(.int (0 : Int32)), (.ref o), (.ref o)])) _
  refine XS.bipush X0.here hx rfl (hb hby at_6) ?_
  show Steps p.tables e below (T0.setTop (mkF m 8 #[.val (.int x0), .val (.int x1), .val (.int x2), .unset, .unset, .unset, .unset] [(.int (58 : Int32)), (.int (0 : Int32)), (.ref o), (.ref o)])) _
  exact st1 _ kt
theorem ef0 (m : MethodId) (x0 : Int32) (x1 : Int32) (x2 : Int32) : entryFrame m #[(.int x0), (.int x1), (.int x2)] maxLocals = (mkF m 0 #[.val (.int x0), .val (.int x1), .val (.int x2), .unset, .unset, .unset, .unset] []) := by first | (simp [entryFrame, mkF, argsToLocals, Value.category, maxLocals]; done) | rfl
set_option maxRecDepth 65536 in
set_option maxHeartbeats 40000000 in
theorem rm0 (l : Launch) (Z : State) (a0 : Array Value) (hw : ∀ d ∈ tables_1, d.before a0 Z = true) (ws : List Jvm.Cond) (x0 : Int32) (x1 : Int32) (x2 : Int32) (h0 : Heap) (n0 : Nat) (Z0 : n0 ≤ h0.size) (hone : ∀ w : Int32, f0_205 x0 x1 x2 w = 1) :
    MetFree l x (head1 (Jvm.Cond.code x code maxLocals ret :: ws) room_1) (fun a U => a = #[(.int x0), (.int x1), (.int x2)] ∧ Z.Warmed39 U.vm ∧ U.heap = h0) (fun _ _ _ _ _ => True) (fun _ U o U' => ∃ v L, o = .returned v ∧ own_Q own_one n0 v U'.heap L ∧ FrameEnd U o U' L room_1.cells room_1.slots) := by
  refine MetFree.of_bodySF (plainFor_of_name pn1) hisR ?_
  intro p e s m args below meth c s₁ Bd hml0 hP hK
  obtain ⟨rfl, hZ, hh⟩ := hP
  have hx := Bd.exec
  have hby := Bd.bytes
  have hml : c.maxLocals = 7 := hml0
  have hown : s.vm.findClass "com/example/lehre/lehre/XmlNamesIsNameStartPinLaw" = some m.cls := findClass_of_methodNamed Bd.named
  have X0 : Stand p l e room_1 s m #[(.int x0), (.int x1), (.int x2)] below meth c s₁ [] 0 0 := Stand.of_body Bd
  have e0 : s₁.heap = h0 := by rw [← hh, Bd.state]; rfl
  obtain ⟨T1, h1, k1, X1, e1, E1, A1, st1⟩ := newP X0 hx hZ (hw _ (List.mem_of_getElem? (i := 0) rfl)) e0 (g := (mkF m 2 #[.val (.int x0), .val (.int x1), .val (.int x2), .unset, .unset, .unset, .unset] [(.int (30 : Int32))])) rfl (hb hby at_2) rfl (by decide) (cap := 30) (by decide) (by decide) (by decide) (by decide)
  obtain ⟨o, go⟩ : ∃ z, z = h0.size := ⟨_, rfl⟩
  rw [← go] at A1 st1
  have V1 := own_Arr.new A1 (n := 30) (by decide)
  refine own_Goes.pre (S' := T1.setTop (mkF m 4 #[.val (.int x0), .val (.int x1), .val (.int x2), .unset, .unset, .unset, .unset] [(.ref o)])) (P := own_one) (n0 := n0) (kc := room_1.cells) (ks := room_1.slots) (fun t kt => castTop (ef0 m x0 x1 x2) ?_) (fl4 x0 x1 x2 o X1 hx hZ hw hby hml hown Bd.returns Bd.notSynchronized e1 (Nat.le_trans Z0 E1.1) (Fr.nil n0) (by rw [go]; exact Z0) V1 hone)
  show Steps p.tables e below (s₁.setTop (mkF m 0 #[.val (.int x0), .val (.int x1), .val (.int x2), .unset, .unset, .unset, .unset] [])) _
  refine XS.bipush X0.here hx rfl (hb hby at_0) ?_
  show Steps p.tables e below (s₁.setTop (mkF m 2 #[.val (.int x0), .val (.int x1), .val (.int x2), .unset, .unset, .unset, .unset] [(.int (30 : Int32))])) _
  exact st1 _ kt
theorem own_law (x0 x1 x2 w : Int32) : f0_205 x0 x1 x2 w = 1 := by
  simp only [f0_268, f0_264, f0_259, f0_252, f0_251, f0_247, f0_232, f0_231, f0_227, f0_205, own_eq, own_10, ↓reduceIte]
set_option maxRecDepth 65536 in
set_option maxHeartbeats 40000000 in
theorem comes_1 {Post : Tables → Env → Array Value → State → Outcome → State → Prop} (hpost : ∀ tb e args s v u, (limb_1_1.after args s (.returned v) u = true ∧ limb_1_2.after args s (.returned v) u = true ∧ True) → FrameEnd s (.returned v) u (Jvm.fieldLocs frame_1_writes args s ++ Jvm.arrayLocs frame_1_arrays args s ++ Jvm.staticLocs frame_1_statics s) 16 128 → Post tb e args s (.returned v) u) :
    ArmFor flags0 classFile x code maxLocals ret World_1 tables_1 room_1 Calls_1 rest_1 Pre_1 Post := by
  intro l hfl _ _ p e ha hc hk s m args below hf hA hF happ hP
  obtain ⟨hcalls, hrest, hpre⟩ := hP
  obtain ⟨-, -, -, hnamed, -, -, -, hat⟩ := (Spec.applies_iff hf).mp happ
  obtain ⟨hg, hn⟩ := and_e (Cond.before_iff.mp (show (Jvm.Cond.and given_1 narrow_1).before args s = true from hpre))
  obtain ⟨gc, g0⟩ := and_e hg
  obtain ⟨q0, g1⟩ := and_e g0
  obtain ⟨q1, g2⟩ := and_e g1
  obtain ⟨w0, w1, w2, rfl⟩ : ∃ w0 w1 w2 : Value, args = #[w0, w1, w2] := by
    have hs : args.size = 3 := by simpa [Cond.value, given_1] using gc
    obtain ⟨L⟩ := args
    match L, hs with
    | [w0, w1, w2], _ => exact ⟨w0, w1, w2, rfl⟩
  have hw := fun d (hd : d ∈ tables_1) => atoms_spec (ws := Jvm.Cond.code x code maxLocals ret :: tables_1) hat d (List.mem_cons_of_mem _ hd)
  obtain ⟨i0, ei0⟩ := is_v q0
  obtain rfl : w0 = (.int i0) := Option.some.inj ei0
  obtain ⟨i1, ei1⟩ := is_v q1
  obtain rfl : w1 = (.int i1) := Option.some.inj ei1
  obtain ⟨i2, ei2⟩ := is_v g2
  obtain rfl : w2 = (.int i2) := Option.some.inj ei2
  obtain ⟨n, o, h1, h2, h3, _, L, rfl, ⟨rfl, N⟩, hq⟩ := rm0 l s _ hw tables_1 i0 i1 i2 s.heap s.heap.size (Nat.le_refl _) (own_law i0 i1 i2) p e ha hc hk s m _ below hf ((Spec.applies_iff_loose hf).mp happ).1 ⟨rfl, State.Warmed39.refl s, rfl⟩ trivial
  refine ⟨n, _, h1, h2, h3, hpost _ _ _ _ _ _ ⟨Cond.after_iff.mpr rfl, Cond.after_iff.mpr (eq_i res_at (Term.int_eval (1)) rfl), trivial⟩ ⟨hq.1, hq.2.1, (hq.2.2.sift fun y hy => Or.inr (N y hy)).mono (by decide) (by decide)⟩⟩
theorem main_1_1 : Claimed_1_1 := comes_1 fun _ _ _ _ _ _ h hF => ⟨h.1, hF⟩
theorem main_1_2 : Claimed_1_2 := comes_1 fun _ _ _ _ _ _ h hF => ⟨h.2.1, hF⟩
end Jvm.Pilot.@@N@@
namespace Jvm.Pilot.@@N@@
open Jvm Jvm.ClassFile Sem Op Lib Jvm.Free Jvm.Stand Jvm.Pilot.@@N@@.Jvm.D
/-! MADE BY PROGRAM (witnessworld.py) out of the Statement's table words and the real class files: 9 classes; the members and pool entries that the words name. The judged class is class 1, her method 2. -/
namespace start1
open Jvm.ClassFile
def u (s : String) : CpInfo := .utf8 (stringToUtf16 s)
/-- a pool by its gaps: so many unusable entries, then the entry; so many at the end -/
def gap : Nat → List CpInfo → List CpInfo
  | 0, r => r
  | n + 1, r => .unusable :: gap n r
def poolList (es : List (Nat × CpInfo)) (last : Nat) : List CpInfo := es.foldr (fun e r => gap e.1 (e.2 :: r)) (gap last [])
def pool (es : List (Nat × CpInfo)) (last : Nat) : Array CpInfo := ⟨poolList es last⟩
def fileOf (pool : Array CpInfo) (this : Nat) (attrs : Array Attribute := #[]) (ms : Array MethodInfo := #[]) (fl : Nat := 33) (sup : Nat := 0) (ifs : Array Nat := #[]) (fds : Array FieldInfo := #[]) : ClassFile where
  minorVersion := 0
  majorVersion := 65
  constantPool := pool
  accessFlags := fl
  thisClass := this
  superClass := sup
  interfaces := ifs
  fields := fds
  methods := ms
  attributes := attrs
def plain (name : String) (sup : Option ClassId) : Class where
  name := name
  kind := .ordinary
  loader := none
  accessFlags := 33
  super := sup
  interfaces := #[]
  cf := none
  fields := #[]
  methods := #[]
  instanceTypes := #[]
  staticTypes := #[]
  resolved := #[]
  callSites := []
  init := .initialized
  statics := none
  mirror := none

def pool0 : Array CpInfo := pool [(5, u "<init>"), (0, u "()V"), (1, .class_ 10), (1, u "java/lang/Object")] 113

def k0m0 : Method := { name := "<init>", desc := "()V", sig := { parameters := [], returnType := none }, accessFlags := 1, code := none }
/-- java/lang/Object -/
def k0 : Class := { plain "java/lang/Object" none with
  accessFlags := 33
  interfaces := #[]
  cf := some (fileOf pool0 8 #[] #[{ accessFlags := 1, nameIndex := 5, descriptorIndex := 6, attributes := #[] }] 33 0 #[] #[])
  fields := #[]
  methods := #[k0m0]
  instanceTypes := #[]
  staticTypes := #[]
  resolved := Array.replicate 124 none
  statics := none }

def pool1 : Array CpInfo := pool [(2, .class_ 4), (1, u "java/lang/Object"), (0, u "<init>"), (0, u "()V"), (0, .integer 983039), (0, .integer 55296), (0, .integer 63743), (0, .integer 64976), (0, .integer 65007), (0, .integer 65534), (0, .integer 65535), (0, .integer 55295), (0, .integer 63744), (0, .integer 64975), (0, .integer 65008), (0, .integer 65533), (0, .integer 65536), (0, .integer 2147483647), (0, .methodref 22 23), (0, .class_ 24), (0, .nameAndType 25 26), (0, u "com/example/lehre/lehre/XmlNames"), (0, u "isNameStart"), (0, u "(I)Z"), (0, .methodref 28 29), (0, .class_ 30), (0, .nameAndType 31 26), (0, u "com/example/lehre/lehre/XmlNamesIsNameStartPinLaw"), (0, u "expected"), (3, u "law"), (0, u "(III)Z")] 4

def k1m0 : Method := { name := "<init>", desc := "()V", sig := { parameters := [], returnType := none }, accessFlags := 2, code := none }
def k1c1 : Code := { maxStack := 2, maxLocals := 1, code := method_2_code, exceptionTable := #[], attributes := #[] }
def k1m1 : Method := { name := "expected", desc := "(I)Z", sig := { parameters := [.int], returnType := some .boolean }, accessFlags := 10, code := some k1c1 }
def k1c2 : Code := { maxStack := 4, maxLocals := 7, code := code, exceptionTable := #[], attributes := #[] }
def k1m2 : Method := { name := "law", desc := "(III)Z", sig := { parameters := [.int, .int, .int], returnType := some .boolean }, accessFlags := 9, code := some k1c2 }
/-- com/example/lehre/lehre/XmlNamesIsNameStartPinLaw -/
def k1 : Class := { plain "com/example/lehre/lehre/XmlNamesIsNameStartPinLaw" (some 0) with
  accessFlags := 49
  interfaces := #[]
  cf := some (fileOf pool1 28 #[] #[{ accessFlags := 2, nameIndex := 5, descriptorIndex := 6, attributes := #[] }, { accessFlags := 10, nameIndex := 31, descriptorIndex := 26, attributes := #[] }, { accessFlags := 9, nameIndex := 35, descriptorIndex := 36, attributes := #[] }] 49 2 #[] #[])
  fields := #[]
  methods := #[k1m0, k1m1, k1m2]
  instanceTypes := #[]
  staticTypes := #[]
  resolved := Array.replicate 41 none
  statics := none }

def pool2 : Array CpInfo := pool [(2, .class_ 4), (1, u "java/lang/Object"), (0, u "<init>"), (0, u "()V"), (1, .class_ 10), (1, u "com/example/lehre/lehre/XmlNames"), (40, u "isNameStart"), (0, u "(I)Z"), (62, .integer 55295), (0, .integer 63744), (0, .integer 64975), (0, .integer 65008), (0, .integer 65533), (0, .integer 65536), (0, .integer 983039), (2, u "ASCII_NAME_PARTS"), (0, u "[Z"), (4, u "NOT_A_QNAME"), (0, u "Ljava/lang/String;")] 34

def k2m0 : Method := { name := "<init>", desc := "()V", sig := { parameters := [], returnType := none }, accessFlags := 2, code := none }
def k2c1 : Code := { maxStack := 2, maxLocals := 1, code := prog_46_method_13_code, exceptionTable := #[], attributes := #[] }
def k2m1 : Method := { name := "isNameStart", desc := "(I)Z", sig := { parameters := [.int], returnType := some .boolean }, accessFlags := 8, code := some k2c1 }
/-- com/example/lehre/lehre/XmlNames -/
def k2 : Class := { plain "com/example/lehre/lehre/XmlNames" (some 0) with
  accessFlags := 32
  interfaces := #[]
  cf := some (fileOf pool2 8 #[] #[{ accessFlags := 2, nameIndex := 5, descriptorIndex := 6, attributes := #[] }, { accessFlags := 8, nameIndex := 51, descriptorIndex := 52, attributes := #[] }] 32 2 #[] #[{ accessFlags := 24, nameIndex := 130, descriptorIndex := 131, attributes := #[] }, { accessFlags := 26, nameIndex := 124, descriptorIndex := 125, attributes := #[] }])
  fields := #[{ name := "NOT_A_QNAME", type := (.object "java/lang/String"), accessFlags := 24, slot := 0, constantValue := 0 }, { name := "ASCII_NAME_PARTS", type := (.array .boolean), accessFlags := 26, slot := 1, constantValue := 0 }]
  methods := #[k2m0, k2m1]
  instanceTypes := #[]
  staticTypes := #[(.object "java/lang/String"), (.array .boolean)]
  resolved := Array.replicate 166 none
  statics := none }

def pool3 : Array CpInfo := pool [(1, u "java/lang/Cloneable"), (0, .class_ 1), (0, u "java/lang/Object"), (0, .class_ 3)] 3

/-- java/lang/Cloneable -/
def k3 : Class := { plain "java/lang/Cloneable" (some 0) with
  accessFlags := 1537
  interfaces := #[]
  cf := some (fileOf pool3 2 #[] #[] 1537 4 #[] #[])
  fields := #[]
  methods := #[]
  instanceTypes := #[]
  staticTypes := #[]
  resolved := Array.replicate 8 none
  statics := none }

def pool4 : Array CpInfo := pool [(1, u "java/io/Serializable"), (0, .class_ 1), (0, u "java/lang/Object"), (0, .class_ 3)] 3

/-- java/io/Serializable -/
def k4 : Class := { plain "java/io/Serializable" (some 0) with
  accessFlags := 1537
  interfaces := #[]
  cf := some (fileOf pool4 2 #[] #[] 1537 4 #[] #[])
  fields := #[]
  methods := #[]
  instanceTypes := #[]
  staticTypes := #[]
  resolved := Array.replicate 8 none
  statics := none }

/-- the primitive byte -/
def k5 : Class := { plain "byte" none with kind := .primitive 'B', accessFlags := 0x411 }
/-- [B -/
def k6 : Class := { plain "[B" (some 0) with kind := .array 5 .byte, interfaces := #[3, 4], accessFlags := 1041 }

/-- the primitive int -/
def k7 : Class := { plain "int" none with kind := .primitive 'I', accessFlags := 0x411 }
/-- [I -/
def k8 : Class := { plain "[I" (some 0) with kind := .array 7 .int, interfaces := #[3, 4], accessFlags := 1041 }

def heap : Heap := #[]
def classes : Array Class := #[k0, k1, k2, k3, k4, k5, k6, k7, k8]
def interned : List (Array UInt16 × Addr) := []
def slotsUsed : Nat := 0
def theMethod : MethodId := ⟨1, 2⟩
def args0 : Array Value := #[.int 5, .int 300, .int 2]
def aboutOver (below : List Frame) : State where
  vm := { classes := classes, interned := interned.toArray }
  heap := heap
  slotsUsed := slotsUsed
  threads := #[{ frames := .invoking theMethod args0 :: below }]
def below0 : List Frame := [.native { method := ⟨0, 0⟩, args := #[] }]
def about1 : State := aboutOver below0
def p0 : Program := .bare "" "" ""
def e0 : Env := launch0.env 0 0 0
theorem w_frames : about1.frames = Frame.invoking theMethod args0 :: below0 := rfl
set_option maxRecDepth 65536 in
theorem w_args : argsFit about1.vm theMethod args0 = true := by decide +kernel
set_option maxRecDepth 65536 in
theorem w_heap : heapFits about1 = true := by decide +kernel
set_option maxRecDepth 65536 in
theorem w_runnable : about1.curStatus? = some .runnable := by decide +kernel
set_option maxRecDepth 65536 in
theorem w_alone : about1.alone = true := by decide +kernel
set_option maxRecDepth 65536 in
theorem w_named : about1.methodNamed? x = some theMethod := by decide +kernel
set_option maxRecDepth 65536 in
theorem w_hears : about1.hears theMethod below0 = true := by decide +kernel
set_option maxRecDepth 65536 in
theorem w_ripe : about1.ripe theMethod args0 below0 = true := by decide +kernel
theorem w_running : about1.status = .running := rfl
set_option maxRecDepth 65536 in
theorem w_room : about1.hasRoom e0.platform room_1 = true :=
  launch0.hasRoom_least _ room_1 (by decide +kernel) (by decide +kernel) (by decide +kernel) (by decide +kernel) (by decide +kernel) (by decide +kernel)
theorem allAtoms_all (ts : List Jvm.Cond) (a : Array Jvm.Value) (st : Jvm.State) : (allAtoms ts).before a st = ts.all (fun c => c.before a st) := by
  induction ts with
  | nil => rfl
  | cons c t ih =>
    show (Jvm.Cond.and c (allAtoms t)).before a st = _
    rw [Jvm.Cond.before_and, ih, List.all_cons]
def words1 : List Jvm.Cond := Jvm.Cond.code x code maxLocals ret :: tables_1
/-- a 'code' word, met by the world's own term for the bytes: nothing is compared byte by byte -/
theorem code_word {y : MethodName} {bytes : ByteArray} {mx : Nat} {rt : Option FieldType} {a : Array Value} {s : State} {m : MethodId} {meth : Method} {c : Code} (h1 : s.methodNamed? y = some m) (h2 : s.vm.method? m = some meth) (h3 : meth.code = some c) (h4 : c.code = bytes)
    (h5 : (c.maxLocals == mx && c.exceptionTable.isEmpty && decide (c.maxStack ≤ mostOperands) && decide (meth.sig.returnType = rt) && !meth.locks && decide (parseMethodDescriptor y.desc = some meth.sig)) = true) : (Jvm.Cond.code y bytes mx rt).before a s = true := by
  simp only [Bool.and_eq_true, beq_iff_eq, Bool.not_eq_true', decide_eq_true_eq] at h5
  obtain ⟨⟨⟨⟨⟨g1, g2⟩, g3⟩, g4⟩, g5⟩, g6⟩ := h5
  simp [Cond.before, Cond.holds, Cond.value, h1, h2, h3, h4, g1, g2, g3, g4, g5, g6]
def isCode : Jvm.Cond → Bool
  | .code _ _ _ _ => true
  | _ => false
theorem all_split {L : List Jvm.Cond} {P : Jvm.Cond → Bool} (h1 : L.all (fun c => isCode c || P c) = true) (h2 : ∀ c ∈ L.filter isCode, P c = true) : L.all P = true := by
  refine List.all_eq_true.mpr fun c hc => ?_
  have h := List.all_eq_true.mp h1 c hc
  rcases Bool.eq_false_or_eq_true (isCode c) with hi | hi
  · exact h2 c (List.mem_filter.mpr ⟨hc, hi⟩)
  · simpa [hi] using h
set_option maxRecDepth 65536 in
theorem w_c0 : (Jvm.Cond.code x code maxLocals ret).before args0 about1 = true := code_word (m := ⟨1, 2⟩) (meth := k1m2) (c := k1c2) (by decide +kernel) rfl rfl rfl (by decide +kernel)
set_option maxRecDepth 65536 in
theorem w_c1 : (Jvm.Cond.code ({ cls := "com/example/lehre/lehre/XmlNames", name := "isNameStart", desc := "(I)Z" } : Jvm.MethodName) prog_46_method_13_code (1 : Nat) (Option.some Jvm.ClassFile.FieldType.boolean)).before args0 about1 = true := code_word (m := ⟨2, 1⟩) (meth := k2m1) (c := k2c1) (by decide +kernel) rfl rfl rfl (by decide +kernel)
set_option maxRecDepth 65536 in
theorem w_c2 : (Jvm.Cond.code ({ cls := "com/example/lehre/lehre/XmlNamesIsNameStartPinLaw", name := "expected", desc := "(I)Z" } : Jvm.MethodName) method_2_code (1 : Nat) (Option.some Jvm.ClassFile.FieldType.boolean)).before args0 about1 = true := code_word (m := ⟨1, 1⟩) (meth := k1m1) (c := k1c1) (by decide +kernel) rfl rfl rfl (by decide +kernel)
def codes1 : List Jvm.Cond := [Jvm.Cond.code x code maxLocals ret, Jvm.Cond.code ({ cls := "com/example/lehre/lehre/XmlNames", name := "isNameStart", desc := "(I)Z" } : Jvm.MethodName) prog_46_method_13_code (1 : Nat) (Option.some Jvm.ClassFile.FieldType.boolean), Jvm.Cond.code ({ cls := "com/example/lehre/lehre/XmlNamesIsNameStartPinLaw", name := "expected", desc := "(I)Z" } : Jvm.MethodName) method_2_code (1 : Nat) (Option.some Jvm.ClassFile.FieldType.boolean)]
set_option maxRecDepth 65536 in
theorem codes_eq : words1.filter isCode = codes1 := rfl
theorem w_codes : ∀ c ∈ words1.filter isCode, c.before args0 about1 = true := by
  rw [codes_eq]
  intro c hc
  simp only [codes1, List.mem_cons, List.not_mem_nil, or_false] at hc
  rcases hc with rfl | rfl | rfl
  · exact w_c0
  · exact w_c1
  · exact w_c2
set_option maxRecDepth 65536 in
theorem w_t1 : (words1.take 24).all (fun c => isCode c || c.before args0 about1) = true := by decide +kernel
set_option maxRecDepth 65536 in
theorem w_t2 : (words1.drop 24).all (fun c => isCode c || c.before args0 about1) = true := by decide +kernel
theorem w_tables : (allAtoms (Jvm.Cond.code x code maxLocals ret :: tables_1)).before args0 about1 = true := by
  rw [allAtoms_all]
  show words1.all (fun c => c.before args0 about1) = true
  refine all_split ?_ w_codes
  rw [← List.take_append_drop 24 words1, List.all_append, w_t1, w_t2]
  rfl
set_option maxRecDepth 65536 in
theorem w_case : (Jvm.Cond.and given_1 narrow_1).before args0 about1 = true := by decide +kernel
theorem w_applies : (headSpec (Jvm.Cond.code x code maxLocals ret :: tables_1) room_1).applies x e0.platform about1 = true :=
  (Spec.applies_iff w_frames).mpr ⟨w_running, w_runnable, w_alone, w_named, w_hears, w_ripe, w_room, w_tables⟩
theorem atStart : AtStart classFile x code maxLocals ret World_1 tables_1 room_1 Calls_1 rest_1 Pre_1 launch0 p0 e0 about1 theMethod args0 below0 :=
  ⟨lists_1, trivial, launch0.admits_env _ _ _, launch0.least_env, fairChoices_fair.cas, fairChoices_fair.clock, w_frames, w_args, w_heap, w_applies, trivial, trivial, w_case⟩
end start1
theorem witness_1 : WitnessClaimed_1 := ⟨start1.p0, start1.e0, start1.about1, start1.theMethod, start1.args0, start1.below0, start1.atStart⟩
end Jvm.Pilot.@@N@@
