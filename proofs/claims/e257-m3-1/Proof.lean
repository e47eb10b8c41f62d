import JvmDerived
import JvmDerived.Pilot.@@N@@Statement
import JvmDerived.Pilot.@@N@@Code
set_option linter.unusedVariables false
set_option linter.unusedSimpArgs false
namespace Jvm.Pilot.@@N@@
open Jvm Jvm.ClassFile Sem Op Lib Jvm.Free Jvm.Stand Jvm.LawKit Jvm.RoadKit Bundle Jvm.Pilot.@@N@@.Jvm.D
section Own
variable {p : Program} {l : Launch} {e : Env} {R : Room} {s : State} {m : MethodId} {args : Array Value} {below : List Frame} {meth : Method} {c : Code} {T : State} {locs : List Loc} {cells slots : Nat} {n0 kc ks : Nat} {P : Option Value → Heap → Prop}
/-- what a body leaves: P of its value and heap; nothing that stood at the start was written -/
def own_Q (P : Option Value → Heap → Prop) (n0 : Nat) (v : Option Value) (h : Heap) (L : List Loc) : Prop := P v h ∧ Fr n0 L
/-- the run comes from S to the end of this invocation -/
def own_Goes (p : Program) (e : Env) (below : List Frame) (s : State) (n0 kc ks : Nat) (P : Option Value → Heap → Prop) (S : State) : Prop :=
  ∃ s₂ o, Steps p.tables e below S s₂ ∧ s₂.status = .running ∧ Ended s₂ below o ∧ ∃ v L, o = .returned v ∧ own_Q P n0 v s₂.heap L ∧ FrameEnd s o s₂ L kc ks
theorem own_Goes.pre {S S' : State} (h : ∀ t, Steps p.tables e below S' t → Steps p.tables e below S t) (g : own_Goes p e below s n0 kc ks P S') : own_Goes p e below s n0 kc ks P S := by
  obtain ⟨t, o, st, r⟩ := g
  exact ⟨t, o, h t st, r⟩
theorem own_retW (X : Stand p l e R s m args below meth c T locs cells slots) (hx : p.tables.exec = Jvm.exec) (hlk : meth.locks = false) {pc : Nat} {Ls : Array Slot} {w : Value} {t : FieldType} {i : Instr} {rest : List Value} (hret : meth.sig.returnType = some t) (hn : narrow t w = w)
    (hi : (i = .ireturn ∧ (t = .int ∨ t = .boolean ∨ t = .byte ∨ t = .char ∨ t = .short) ∧ ∃ z, w = .int z) ∨ (i = .lreturn ∧ t = .long ∧ ∃ z, w = .long z) ∨ (i = .dreturn ∧ t = .double ∧ ∃ z, w = .double z) ∨ (i = .freturn ∧ t = .float ∧ ∃ z, w = .float z) ∨ (i = .areturn ∧ t.isReference = true ∧ w.isRef = true))
    (hd : decode c.code pc = .ok (i, 1)) (N : Fr n0 locs) (hP : P (some w) T.heap) (hc : cells ≤ kc) (hs : slots ≤ ks) : own_Goes p e below s n0 kc ks P (T.setTop (mkF m pc Ls (w :: rest))) := by
  obtain ⟨fs, hr, hrun, hended, hW, hsame⟩ := X.leave (v := some w) (fun h => by rw [hret] at h; cases h)
  exact ⟨_, _, retOut X hx hret hn hi hd hr, hrun, hended, _, _, rfl, ⟨hP, N⟩, ⟨_, rfl⟩, hW, hsame.mono hc hs⟩
theorem own_retI (X : Stand p l e R s m args below meth c T locs cells slots) (hx : p.tables.exec = Jvm.exec) (hlk : meth.locks = false) {pc : Nat} {Ls : Array Slot} {z : Int32} {rest : List Value} (hret : meth.sig.returnType = some .int)
    (hd : decode c.code pc = .ok (.ireturn, 1)) (N : Fr n0 locs) (hP : P (some (.int z)) T.heap) (hc : cells ≤ kc) (hs : slots ≤ ks) : own_Goes p e below s n0 kc ks P (T.setTop (mkF m pc Ls (.int z :: rest))) :=
  own_retW X hx hlk hret rfl (Or.inl ⟨rfl, Or.inl rfl, _, rfl⟩) hd N hP hc hs
theorem own_retJ (X : Stand p l e R s m args below meth c T locs cells slots) (hx : p.tables.exec = Jvm.exec) (hlk : meth.locks = false) {pc : Nat} {Ls : Array Slot} {z : Int64} {rest : List Value} (hret : meth.sig.returnType = some .long)
    (hd : decode c.code pc = .ok (.lreturn, 1)) (N : Fr n0 locs) (hP : P (some (.long z)) T.heap) (hc : cells ≤ kc) (hs : slots ≤ ks) : own_Goes p e below s n0 kc ks P (T.setTop (mkF m pc Ls (.long z :: rest))) :=
  own_retW X hx hlk hret rfl (Or.inr (Or.inl ⟨rfl, rfl, _, rfl⟩)) hd N hP hc hs
theorem own_retN (X : Stand p l e R s m args below meth c T locs cells slots) (hx : p.tables.exec = Jvm.exec) (hlk : meth.locks = false) {pc : Nat} {Ls : Array Slot} {z : Int32} {t : FieldType} {rest : List Value} (hret : meth.sig.returnType = some t) (ht : t = .boolean ∨ t = .byte ∨ t = .char ∨ t = .short)
    (hd : decode c.code pc = .ok (.ireturn, 1)) (N : Fr n0 locs) (hP : P (some (.int (nar t z))) T.heap) (hc : cells ≤ kc) (hs : slots ≤ ks) : own_Goes p e below s n0 kc ks P (T.setTop (mkF m pc Ls (.int z :: rest))) := by
  obtain ⟨fs, hr, hrun, hended, hW, hsame⟩ := X.leave (v := some (.int (nar t z))) (fun h => by rw [hret] at h; cases h)
  exact ⟨_, _, retN X hx hret ht hd hr, hrun, hended, _, _, rfl, ⟨hP, N⟩, ⟨_, rfl⟩, hW, hsame.mono hc hs⟩
theorem own_retV (X : Stand p l e R s m args below meth c T locs cells slots) (hx : p.tables.exec = Jvm.exec) (hlk : meth.locks = false) {pc : Nat} {Ls : Array Slot} (hret : meth.sig.returnType = none)
    (hd : decode c.code pc = .ok (.return_, 1)) (N : Fr n0 locs) (hP : P none T.heap) (hc : cells ≤ kc) (hs : slots ≤ ks) : own_Goes p e below s n0 kc ks P (T.setTop (mkF m pc Ls [])) := by
  obtain ⟨fs, hr, hrun, hended, hW, hsame⟩ := X.leave (v := none) (fun _ => rfl)
  exact ⟨_, _, X.returnOut hx hret hd hr, hrun, hended, _, _, rfl, ⟨hP, N⟩, ⟨_, rfl⟩, hW, hsame.mono hc hs⟩
/-- the value w comes back, the heap as it was -/
def own_val (w : Value) (h0 : Heap) (v : Option Value) (h : Heap) : Prop := v = some w ∧ h = h0
def own_one (v : Option Value) (_ : Heap) : Prop := v = some (.int (1 : Int32))
end Own
theorem d1_0 : decode method_2_code 0 = .ok (.iload_n 0, 1) := by decide +kernel
theorem d1_1 : decode method_2_code 1 = .ok (.bipush 7, 2) := by decide +kernel
theorem d1_3 : decode method_2_code 3 = .ok (.iand, 1) := by decide +kernel
theorem d1_4 : decode method_2_code 4 = .ok (.istore_n 1, 1) := by decide +kernel
theorem d1_5 : decode method_2_code 5 = .ok (.iload_n 1, 1) := by decide +kernel
theorem d1_6 : decode method_2_code 6 = .ok (.ifCond .ne 6, 3) := by decide +kernel
theorem d1_9 : decode method_2_code 9 = .ok (.bipush 10, 2) := by decide +kernel
theorem d1_11 : decode method_2_code 11 = .ok (.ireturn, 1) := by decide +kernel
theorem d1_12 : decode method_2_code 12 = .ok (.iload_n 1, 1) := by decide +kernel
theorem d1_13 : decode method_2_code 13 = .ok (.iconst 1, 1) := by decide +kernel
theorem d1_14 : decode method_2_code 14 = .ok (.if_icmp .ne 6, 3) := by decide +kernel
theorem d1_17 : decode method_2_code 17 = .ok (.bipush 13, 2) := by decide +kernel
theorem d1_19 : decode method_2_code 19 = .ok (.ireturn, 1) := by decide +kernel
theorem d1_20 : decode method_2_code 20 = .ok (.iload_n 1, 1) := by decide +kernel
theorem d1_21 : decode method_2_code 21 = .ok (.iconst 2, 1) := by decide +kernel
theorem d1_22 : decode method_2_code 22 = .ok (.if_icmp .ne 7, 3) := by decide +kernel
theorem d1_25 : decode method_2_code 25 = .ok (.sipush 133, 3) := by decide +kernel
theorem d1_28 : decode method_2_code 28 = .ok (.ireturn, 1) := by decide +kernel
theorem d1_29 : decode method_2_code 29 = .ok (.iload_n 1, 1) := by decide +kernel
theorem d1_30 : decode method_2_code 30 = .ok (.iconst 3, 1) := by decide +kernel
theorem d1_31 : decode method_2_code 31 = .ok (.if_icmp .ne 7, 3) := by decide +kernel
theorem d1_34 : decode method_2_code 34 = .ok (.sipush 8232, 3) := by decide +kernel
theorem d1_37 : decode method_2_code 37 = .ok (.ireturn, 1) := by decide +kernel
theorem d1_38 : decode method_2_code 38 = .ok (.iload_n 0, 1) := by decide +kernel
theorem d1_39 : decode method_2_code 39 = .ok (.iconst 3, 1) := by decide +kernel
theorem d1_40 : decode method_2_code 40 = .ok (.iushr, 1) := by decide +kernel
theorem d1_41 : decode method_2_code 41 = .ok (.i2c, 1) := by decide +kernel
theorem d1_42 : decode method_2_code 42 = .ok (.ireturn, 1) := by decide +kernel
def f1_38 (x0 : Int32) (x1 : Int32) : Int32 := (nar .char (((x0.toUInt32 >>> ((3 : Int32) &&& 31).toUInt32).toInt32).toUInt32.toUInt16.toUInt32.toInt32))
set_option maxRecDepth 65536 in
set_option maxHeartbeats 40000000 in
theorem b1_38 {p : Program} {l : Launch} {e : Env} {s : State} {m : MethodId} {args : Array Value} {below : List Frame} {meth : Method} {c : Code} {T0 : State} {locs : List Loc} {Z : State} {a0 : Array Value} {h0 : Heap} {n0 : Nat} {P : Option Value → Heap → Prop} (x0 : Int32) (x1 : Int32) (X0 : Stand p l e ({ frames := 0, cells := 0, slots := 0, locals := 0 } : Room) s m args below meth c T0 locs 0 0) (hx : p.tables.exec = Jvm.exec) (hZ : Z.Warmed39 s.vm) (hw : ∀ d ∈ tables_1, d.before a0 Z = true) (hby : c.code = method_2_code) (hml : c.maxLocals = 2) (hown : s.vm.findClass "com/example/lehre/lehre/TextPositionAdvancePinLaw" = some m.cls) (hret : meth.sig.returnType = some .char) (hlk : meth.locks = false) (e0 : T0.heap = h0) (Z0 : n0 ≤ h0.size) (N0 : Fr n0 locs) (hP : P (some (.int (f1_38 x0 x1))) h0) :
    own_Goes p e below s n0 0 0 P (T0.setTop (mkF m 38 #[.val (.int x0), .val (.int x1)] [])) := by
  rw [f1_38] at hP
  refine own_Goes.pre (fun t kt => ?_) (own_retN X0 hx hlk hret (by simp) (hb hby d1_42) N0 (by rw [e0]; exact hP) (by decide) (by decide) (Ls := #[.val (.int x0), .val (.int x1)]) (rest := []) (z := (((x0.toUInt32 >>> ((3 : Int32) &&& 31).toUInt32).toInt32).toUInt32.toUInt16.toUInt32.toInt32)))
  show Steps p.tables e below (T0.setTop (mkF m 38 #[.val (.int x0), .val (.int x1)] [])) _
  refine XS.iloadN X0.here hx rfl (hb hby d1_38) rfl ?_
  show Steps p.tables e below (T0.setTop (mkF m 39 #[.val (.int x0), .val (.int x1)] [(.int x0)])) _
  refine XS.iconst X0.here hx rfl (hb hby d1_39) ?_
  show Steps p.tables e below (T0.setTop (mkF m 40 #[.val (.int x0), .val (.int x1)] [(.int (3 : Int32)), (.int x0)])) _
  refine XS.iushr X0.here hx rfl (hb hby d1_40) rfl ?_
  show Steps p.tables e below (T0.setTop (mkF m 41 #[.val (.int x0), .val (.int x1)] [(.int ((x0.toUInt32 >>> ((3 : Int32) &&& 31).toUInt32).toInt32))])) _
  refine XS.i2c X0.here hx rfl (hb hby d1_41) rfl ?_
  exact kt
def f1_34 (x0 : Int32) (x1 : Int32) : Int32 := (8232 : Int32)
set_option maxRecDepth 65536 in
set_option maxHeartbeats 40000000 in
theorem b1_34 {p : Program} {l : Launch} {e : Env} {s : State} {m : MethodId} {args : Array Value} {below : List Frame} {meth : Method} {c : Code} {T0 : State} {locs : List Loc} {Z : State} {a0 : Array Value} {h0 : Heap} {n0 : Nat} {P : Option Value → Heap → Prop} (x0 : Int32) (x1 : Int32) (X0 : Stand p l e ({ frames := 0, cells := 0, slots := 0, locals := 0 } : Room) s m args below meth c T0 locs 0 0) (hx : p.tables.exec = Jvm.exec) (hZ : Z.Warmed39 s.vm) (hw : ∀ d ∈ tables_1, d.before a0 Z = true) (hby : c.code = method_2_code) (hml : c.maxLocals = 2) (hown : s.vm.findClass "com/example/lehre/lehre/TextPositionAdvancePinLaw" = some m.cls) (hret : meth.sig.returnType = some .char) (hlk : meth.locks = false) (e0 : T0.heap = h0) (Z0 : n0 ≤ h0.size) (N0 : Fr n0 locs) (hP : P (some (.int (f1_34 x0 x1))) h0) :
    own_Goes p e below s n0 0 0 P (T0.setTop (mkF m 34 #[.val (.int x0), .val (.int x1)] [])) := by
  rw [f1_34] at hP
  refine own_Goes.pre (fun t kt => ?_) (own_retN X0 hx hlk hret (by simp) (hb hby d1_37) N0 (by rw [e0]; exact hP) (by decide) (by decide) (Ls := #[.val (.int x0), .val (.int x1)]) (rest := []) (z := (8232 : Int32)))
  show Steps p.tables e below (T0.setTop (mkF m 34 #[.val (.int x0), .val (.int x1)] [])) _
  refine XS.sipush X0.here hx rfl (hb hby d1_34) ?_
  exact kt
def f1_29 (x0 : Int32) (x1 : Int32) : Int32 := if x1 = (3 : Int32) then (f1_34 x0 x1) else (f1_38 x0 x1)
set_option maxRecDepth 65536 in
set_option maxHeartbeats 40000000 in
theorem b1_29 {p : Program} {l : Launch} {e : Env} {s : State} {m : MethodId} {args : Array Value} {below : List Frame} {meth : Method} {c : Code} {T0 : State} {locs : List Loc} {Z : State} {a0 : Array Value} {h0 : Heap} {n0 : Nat} {P : Option Value → Heap → Prop} (x0 : Int32) (x1 : Int32) (X0 : Stand p l e ({ frames := 0, cells := 0, slots := 0, locals := 0 } : Room) s m args below meth c T0 locs 0 0) (hx : p.tables.exec = Jvm.exec) (hZ : Z.Warmed39 s.vm) (hw : ∀ d ∈ tables_1, d.before a0 Z = true) (hby : c.code = method_2_code) (hml : c.maxLocals = 2) (hown : s.vm.findClass "com/example/lehre/lehre/TextPositionAdvancePinLaw" = some m.cls) (hret : meth.sig.returnType = some .char) (hlk : meth.locks = false) (e0 : T0.heap = h0) (Z0 : n0 ≤ h0.size) (N0 : Fr n0 locs) (hP : P (some (.int (f1_29 x0 x1))) h0) :
    own_Goes p e below s n0 0 0 P (T0.setTop (mkF m 29 #[.val (.int x0), .val (.int x1)] [])) := by
  have pre1 : ∀ t, Steps p.tables e below (T0.setTop (mkF m 31 #[.val (.int x0), .val (.int x1)] [(.int (3 : Int32)), (.int x1)])) t → Steps p.tables e below (T0.setTop (mkF m 29 #[.val (.int x0), .val (.int x1)] [])) t := fun t kt => by
    show Steps p.tables e below (T0.setTop (mkF m 29 #[.val (.int x0), .val (.int x1)] [])) _
    refine XS.iloadN X0.here hx rfl (hb hby d1_29) rfl ?_
    show Steps p.tables e below (T0.setTop (mkF m 30 #[.val (.int x0), .val (.int x1)] [(.int x1)])) _
    refine XS.iconst X0.here hx rfl (hb hby d1_30) ?_
    exact kt
  refine own_Goes.pre pre1 ?_
  by_cases hc : x1 = (3 : Int32)
  · rw [f1_29, if_pos hc] at hP
    refine own_Goes.pre (fun t kt => ?_) (b1_34 x0 x1 X0 hx hZ hw hby hml hown hret hlk e0 Z0 N0 hP)
    show Steps p.tables e below (T0.setTop (mkF m 31 #[.val (.int x0), .val (.int x1)] [(.int (3 : Int32)), (.int x1)])) _
    refine XS.icmpNo X0.here hx rfl (hb hby d1_31) rfl (teq hc).2 ?_
    exact kt
  · rw [f1_29, if_neg hc] at hP
    refine own_Goes.pre (fun t kt => ?_) (b1_38 x0 x1 X0 hx hZ hw hby hml hown hret hlk e0 Z0 N0 hP)
    show Steps p.tables e below (T0.setTop (mkF m 31 #[.val (.int x0), .val (.int x1)] [(.int (3 : Int32)), (.int x1)])) _
    refine XS.icmpYes X0.here hx rfl (pc0 := 31) (pc' := 38) rfl (hb hby d1_31) rfl (feq hc).2 (by decide) (by decide) ?_
    exact kt
def f1_25 (x0 : Int32) (x1 : Int32) : Int32 := (133 : Int32)
set_option maxRecDepth 65536 in
set_option maxHeartbeats 40000000 in
theorem b1_25 {p : Program} {l : Launch} {e : Env} {s : State} {m : MethodId} {args : Array Value} {below : List Frame} {meth : Method} {c : Code} {T0 : State} {locs : List Loc} {Z : State} {a0 : Array Value} {h0 : Heap} {n0 : Nat} {P : Option Value → Heap → Prop} (x0 : Int32) (x1 : Int32) (X0 : Stand p l e ({ frames := 0, cells := 0, slots := 0, locals := 0 } : Room) s m args below meth c T0 locs 0 0) (hx : p.tables.exec = Jvm.exec) (hZ : Z.Warmed39 s.vm) (hw : ∀ d ∈ tables_1, d.before a0 Z = true) (hby : c.code = method_2_code) (hml : c.maxLocals = 2) (hown : s.vm.findClass "com/example/lehre/lehre/TextPositionAdvancePinLaw" = some m.cls) (hret : meth.sig.returnType = some .char) (hlk : meth.locks = false) (e0 : T0.heap = h0) (Z0 : n0 ≤ h0.size) (N0 : Fr n0 locs) (hP : P (some (.int (f1_25 x0 x1))) h0) :
    own_Goes p e below s n0 0 0 P (T0.setTop (mkF m 25 #[.val (.int x0), .val (.int x1)] [])) := by
  rw [f1_25] at hP
  refine own_Goes.pre (fun t kt => ?_) (own_retN X0 hx hlk hret (by simp) (hb hby d1_28) N0 (by rw [e0]; exact hP) (by decide) (by decide) (Ls := #[.val (.int x0), .val (.int x1)]) (rest := []) (z := (133 : Int32)))
  show Steps p.tables e below (T0.setTop (mkF m 25 #[.val (.int x0), .val (.int x1)] [])) _
  refine XS.sipush X0.here hx rfl (hb hby d1_25) ?_
  exact kt
def f1_20 (x0 : Int32) (x1 : Int32) : Int32 := if x1 = (2 : Int32) then (f1_25 x0 x1) else (f1_29 x0 x1)
set_option maxRecDepth 65536 in
set_option maxHeartbeats 40000000 in
theorem b1_20 {p : Program} {l : Launch} {e : Env} {s : State} {m : MethodId} {args : Array Value} {below : List Frame} {meth : Method} {c : Code} {T0 : State} {locs : List Loc} {Z : State} {a0 : Array Value} {h0 : Heap} {n0 : Nat} {P : Option Value → Heap → Prop} (x0 : Int32) (x1 : Int32) (X0 : Stand p l e ({ frames := 0, cells := 0, slots := 0, locals := 0 } : Room) s m args below meth c T0 locs 0 0) (hx : p.tables.exec = Jvm.exec) (hZ : Z.Warmed39 s.vm) (hw : ∀ d ∈ tables_1, d.before a0 Z = true) (hby : c.code = method_2_code) (hml : c.maxLocals = 2) (hown : s.vm.findClass "com/example/lehre/lehre/TextPositionAdvancePinLaw" = some m.cls) (hret : meth.sig.returnType = some .char) (hlk : meth.locks = false) (e0 : T0.heap = h0) (Z0 : n0 ≤ h0.size) (N0 : Fr n0 locs) (hP : P (some (.int (f1_20 x0 x1))) h0) :
    own_Goes p e below s n0 0 0 P (T0.setTop (mkF m 20 #[.val (.int x0), .val (.int x1)] [])) := by
  have pre1 : ∀ t, Steps p.tables e below (T0.setTop (mkF m 22 #[.val (.int x0), .val (.int x1)] [(.int (2 : Int32)), (.int x1)])) t → Steps p.tables e below (T0.setTop (mkF m 20 #[.val (.int x0), .val (.int x1)] [])) t := fun t kt => by
    show Steps p.tables e below (T0.setTop (mkF m 20 #[.val (.int x0), .val (.int x1)] [])) _
    refine XS.iloadN X0.here hx rfl (hb hby d1_20) rfl ?_
    show Steps p.tables e below (T0.setTop (mkF m 21 #[.val (.int x0), .val (.int x1)] [(.int x1)])) _
    refine XS.iconst X0.here hx rfl (hb hby d1_21) ?_
    exact kt
  refine own_Goes.pre pre1 ?_
  by_cases hc : x1 = (2 : Int32)
  · rw [f1_20, if_pos hc] at hP
    refine own_Goes.pre (fun t kt => ?_) (b1_25 x0 x1 X0 hx hZ hw hby hml hown hret hlk e0 Z0 N0 hP)
    show Steps p.tables e below (T0.setTop (mkF m 22 #[.val (.int x0), .val (.int x1)] [(.int (2 : Int32)), (.int x1)])) _
    refine XS.icmpNo X0.here hx rfl (hb hby d1_22) rfl (teq hc).2 ?_
    exact kt
  · rw [f1_20, if_neg hc] at hP
    refine own_Goes.pre (fun t kt => ?_) (b1_29 x0 x1 X0 hx hZ hw hby hml hown hret hlk e0 Z0 N0 hP)
    show Steps p.tables e below (T0.setTop (mkF m 22 #[.val (.int x0), .val (.int x1)] [(.int (2 : Int32)), (.int x1)])) _
    refine XS.icmpYes X0.here hx rfl (pc0 := 22) (pc' := 29) rfl (hb hby d1_22) rfl (feq hc).2 (by decide) (by decide) ?_
    exact kt
def f1_17 (x0 : Int32) (x1 : Int32) : Int32 := (13 : Int32)
set_option maxRecDepth 65536 in
set_option maxHeartbeats 40000000 in
theorem b1_17 {p : Program} {l : Launch} {e : Env} {s : State} {m : MethodId} {args : Array Value} {below : List Frame} {meth : Method} {c : Code} {T0 : State} {locs : List Loc} {Z : State} {a0 : Array Value} {h0 : Heap} {n0 : Nat} {P : Option Value → Heap → Prop} (x0 : Int32) (x1 : Int32) (X0 : Stand p l e ({ frames := 0, cells := 0, slots := 0, locals := 0 } : Room) s m args below meth c T0 locs 0 0) (hx : p.tables.exec = Jvm.exec) (hZ : Z.Warmed39 s.vm) (hw : ∀ d ∈ tables_1, d.before a0 Z = true) (hby : c.code = method_2_code) (hml : c.maxLocals = 2) (hown : s.vm.findClass "com/example/lehre/lehre/TextPositionAdvancePinLaw" = some m.cls) (hret : meth.sig.returnType = some .char) (hlk : meth.locks = false) (e0 : T0.heap = h0) (Z0 : n0 ≤ h0.size) (N0 : Fr n0 locs) (hP : P (some (.int (f1_17 x0 x1))) h0) :
    own_Goes p e below s n0 0 0 P (T0.setTop (mkF m 17 #[.val (.int x0), .val (.int x1)] [])) := by
  rw [f1_17] at hP
  refine own_Goes.pre (fun t kt => ?_) (own_retN X0 hx hlk hret (by simp) (hb hby d1_19) N0 (by rw [e0]; exact hP) (by decide) (by decide) (Ls := #[.val (.int x0), .val (.int x1)]) (rest := []) (z := (13 : Int32)))
  show Steps p.tables e below (T0.setTop (mkF m 17 #[.val (.int x0), .val (.int x1)] [])) _
  refine XS.bipush X0.here hx rfl (hb hby d1_17) ?_
  exact kt
def f1_12 (x0 : Int32) (x1 : Int32) : Int32 := if x1 = (1 : Int32) then (f1_17 x0 x1) else (f1_20 x0 x1)
set_option maxRecDepth 65536 in
set_option maxHeartbeats 40000000 in
theorem b1_12 {p : Program} {l : Launch} {e : Env} {s : State} {m : MethodId} {args : Array Value} {below : List Frame} {meth : Method} {c : Code} {T0 : State} {locs : List Loc} {Z : State} {a0 : Array Value} {h0 : Heap} {n0 : Nat} {P : Option Value → Heap → Prop} (x0 : Int32) (x1 : Int32) (X0 : Stand p l e ({ frames := 0, cells := 0, slots := 0, locals := 0 } : Room) s m args below meth c T0 locs 0 0) (hx : p.tables.exec = Jvm.exec) (hZ : Z.Warmed39 s.vm) (hw : ∀ d ∈ tables_1, d.before a0 Z = true) (hby : c.code = method_2_code) (hml : c.maxLocals = 2) (hown : s.vm.findClass "com/example/lehre/lehre/TextPositionAdvancePinLaw" = some m.cls) (hret : meth.sig.returnType = some .char) (hlk : meth.locks = false) (e0 : T0.heap = h0) (Z0 : n0 ≤ h0.size) (N0 : Fr n0 locs) (hP : P (some (.int (f1_12 x0 x1))) h0) :
    own_Goes p e below s n0 0 0 P (T0.setTop (mkF m 12 #[.val (.int x0), .val (.int x1)] [])) := by
  have pre1 : ∀ t, Steps p.tables e below (T0.setTop (mkF m 14 #[.val (.int x0), .val (.int x1)] [(.int (1 : Int32)), (.int x1)])) t → Steps p.tables e below (T0.setTop (mkF m 12 #[.val (.int x0), .val (.int x1)] [])) t := fun t kt => by
    show Steps p.tables e below (T0.setTop (mkF m 12 #[.val (.int x0), .val (.int x1)] [])) _
    refine XS.iloadN X0.here hx rfl (hb hby d1_12) rfl ?_
    show Steps p.tables e below (T0.setTop (mkF m 13 #[.val (.int x0), .val (.int x1)] [(.int x1)])) _
    refine XS.iconst X0.here hx rfl (hb hby d1_13) ?_
    exact kt
  refine own_Goes.pre pre1 ?_
  by_cases hc : x1 = (1 : Int32)
  · rw [f1_12, if_pos hc] at hP
    refine own_Goes.pre (fun t kt => ?_) (b1_17 x0 x1 X0 hx hZ hw hby hml hown hret hlk e0 Z0 N0 hP)
    show Steps p.tables e below (T0.setTop (mkF m 14 #[.val (.int x0), .val (.int x1)] [(.int (1 : Int32)), (.int x1)])) _
    refine XS.icmpNo X0.here hx rfl (hb hby d1_14) rfl (teq hc).2 ?_
    exact kt
  · rw [f1_12, if_neg hc] at hP
    refine own_Goes.pre (fun t kt => ?_) (b1_20 x0 x1 X0 hx hZ hw hby hml hown hret hlk e0 Z0 N0 hP)
    show Steps p.tables e below (T0.setTop (mkF m 14 #[.val (.int x0), .val (.int x1)] [(.int (1 : Int32)), (.int x1)])) _
    refine XS.icmpYes X0.here hx rfl (pc0 := 14) (pc' := 20) rfl (hb hby d1_14) rfl (feq hc).2 (by decide) (by decide) ?_
    exact kt
def f1_9 (x0 : Int32) (x1 : Int32) : Int32 := (10 : Int32)
set_option maxRecDepth 65536 in
set_option maxHeartbeats 40000000 in
theorem b1_9 {p : Program} {l : Launch} {e : Env} {s : State} {m : MethodId} {args : Array Value} {below : List Frame} {meth : Method} {c : Code} {T0 : State} {locs : List Loc} {Z : State} {a0 : Array Value} {h0 : Heap} {n0 : Nat} {P : Option Value → Heap → Prop} (x0 : Int32) (x1 : Int32) (X0 : Stand p l e ({ frames := 0, cells := 0, slots := 0, locals := 0 } : Room) s m args below meth c T0 locs 0 0) (hx : p.tables.exec = Jvm.exec) (hZ : Z.Warmed39 s.vm) (hw : ∀ d ∈ tables_1, d.before a0 Z = true) (hby : c.code = method_2_code) (hml : c.maxLocals = 2) (hown : s.vm.findClass "com/example/lehre/lehre/TextPositionAdvancePinLaw" = some m.cls) (hret : meth.sig.returnType = some .char) (hlk : meth.locks = false) (e0 : T0.heap = h0) (Z0 : n0 ≤ h0.size) (N0 : Fr n0 locs) (hP : P (some (.int (f1_9 x0 x1))) h0) :
    own_Goes p e below s n0 0 0 P (T0.setTop (mkF m 9 #[.val (.int x0), .val (.int x1)] [])) := by
  rw [f1_9] at hP
  refine own_Goes.pre (fun t kt => ?_) (own_retN X0 hx hlk hret (by simp) (hb hby d1_11) N0 (by rw [e0]; exact hP) (by decide) (by decide) (Ls := #[.val (.int x0), .val (.int x1)]) (rest := []) (z := (10 : Int32)))
  show Steps p.tables e below (T0.setTop (mkF m 9 #[.val (.int x0), .val (.int x1)] [])) _
  refine XS.bipush X0.here hx rfl (hb hby d1_9) ?_
  exact kt
def f1_0 (x0 : Int32) : Int32 := if (x0 &&& (7 : Int32)) = (0 : Int32) then (f1_9 x0 (x0 &&& (7 : Int32))) else (f1_12 x0 (x0 &&& (7 : Int32)))
set_option maxRecDepth 65536 in
set_option maxHeartbeats 40000000 in
theorem b1_0 {p : Program} {l : Launch} {e : Env} {s : State} {m : MethodId} {args : Array Value} {below : List Frame} {meth : Method} {c : Code} {T0 : State} {locs : List Loc} {Z : State} {a0 : Array Value} {h0 : Heap} {n0 : Nat} {P : Option Value → Heap → Prop} (x0 : Int32) (X0 : Stand p l e ({ frames := 0, cells := 0, slots := 0, locals := 0 } : Room) s m args below meth c T0 locs 0 0) (hx : p.tables.exec = Jvm.exec) (hZ : Z.Warmed39 s.vm) (hw : ∀ d ∈ tables_1, d.before a0 Z = true) (hby : c.code = method_2_code) (hml : c.maxLocals = 2) (hown : s.vm.findClass "com/example/lehre/lehre/TextPositionAdvancePinLaw" = some m.cls) (hret : meth.sig.returnType = some .char) (hlk : meth.locks = false) (e0 : T0.heap = h0) (Z0 : n0 ≤ h0.size) (N0 : Fr n0 locs) (hP : P (some (.int (f1_0 x0))) h0) :
    own_Goes p e below s n0 0 0 P (T0.setTop (mkF m 0 #[.val (.int x0), .unset] [])) := by
  have pre1 : ∀ t, Steps p.tables e below (T0.setTop (mkF m 6 #[.val (.int x0), .val (.int (x0 &&& (7 : Int32)))] [(.int (x0 &&& (7 : Int32)))])) t → Steps p.tables e below (T0.setTop (mkF m 0 #[.val (.int x0), .unset] [])) t := fun t kt => by
    show Steps p.tables e below (T0.setTop (mkF m 0 #[.val (.int x0), .unset] [])) _
    refine XS.iloadN X0.here hx rfl (hb hby d1_0) rfl ?_
    show Steps p.tables e below (T0.setTop (mkF m 1 #[.val (.int x0), .unset] [(.int x0)])) _
    refine XS.bipush X0.here hx rfl (hb hby d1_1) ?_
    show Steps p.tables e below (T0.setTop (mkF m 3 #[.val (.int x0), .unset] [(.int (7 : Int32)), (.int x0)])) _
    refine XS.iand X0.here hx rfl (hb hby d1_3) rfl ?_
    show Steps p.tables e below (T0.setTop (mkF m 4 #[.val (.int x0), .unset] [(.int (x0 &&& (7 : Int32)))])) _
    refine XS.istoreN X0.here hx rfl (hb hby d1_4) rfl (l' := #[.val (.int x0), .val (.int (x0 &&& (7 : Int32)))]) rfl ?_
    show Steps p.tables e below (T0.setTop (mkF m 5 #[.val (.int x0), .val (.int (x0 &&& (7 : Int32)))] [])) _
    refine XS.iloadN X0.here hx rfl (hb hby d1_5) rfl ?_
    exact kt
  refine own_Goes.pre pre1 ?_
  by_cases hc : (x0 &&& (7 : Int32)) = (0 : Int32)
  · rw [f1_0, if_pos hc] at hP
    refine own_Goes.pre (fun t kt => ?_) (b1_9 x0 (x0 &&& (7 : Int32)) X0 hx hZ hw hby hml hown hret hlk e0 Z0 N0 hP)
    show Steps p.tables e below (T0.setTop (mkF m 6 #[.val (.int x0), .val (.int (x0 &&& (7 : Int32)))] [(.int (x0 &&& (7 : Int32)))])) _
    refine XS.ifNo X0.here hx rfl (hb hby d1_6) rfl ((if0 _ _).trans (teq hc).2) ?_
    exact kt
  · rw [f1_0, if_neg hc] at hP
    refine own_Goes.pre (fun t kt => ?_) (b1_12 x0 (x0 &&& (7 : Int32)) X0 hx hZ hw hby hml hown hret hlk e0 Z0 N0 hP)
    show Steps p.tables e below (T0.setTop (mkF m 6 #[.val (.int x0), .val (.int (x0 &&& (7 : Int32)))] [(.int (x0 &&& (7 : Int32)))])) _
    refine XS.ifYes X0.here hx rfl (pc0 := 6) (pc' := 12) rfl (hb hby d1_6) rfl ((if0 _ _).trans (feq hc).2) (by decide) (by decide) ?_
    exact kt
theorem pn0 : plainName "com/example/lehre/lehre/TextPositionAdvancePinLaw" = true := by first | (simp [plainName, overriddenIn]; done) | decide +kernel
theorem ef1 (m : MethodId) (x0 : Int32) : entryFrame m #[(.int x0)] 2 = (mkF m 0 #[.val (.int x0), .unset] []) := by first | (simp [entryFrame, mkF, argsToLocals, Value.category]; done) | rfl
set_option maxRecDepth 65536 in
set_option maxHeartbeats 40000000 in
theorem rm1 (l : Launch) (Z : State) (a0 : Array Value) (hw : ∀ d ∈ tables_1, d.before a0 Z = true) (ws : List Jvm.Cond) (x0 : Int32) (h0 : Heap) (n0 : Nat) (Z0 : n0 ≤ h0.size) :
    MetFree l (⟨"com/example/lehre/lehre/TextPositionAdvancePinLaw", "pick", "(I)C"⟩ : MethodName) (head1 (Jvm.Cond.code (⟨"com/example/lehre/lehre/TextPositionAdvancePinLaw", "pick", "(I)C"⟩ : MethodName) method_2_code 2 (some .char) :: ws) ({ frames := 0, cells := 0, slots := 0, locals := 0 } : Room)) (fun a U => a = #[(.int x0)] ∧ Z.Warmed39 U.vm ∧ U.heap = h0) (fun _ _ _ _ _ => True) (fun _ U o U' => ∃ v L, o = .returned v ∧ own_Q (own_val (.int (f1_0 x0)) h0) n0 v U'.heap L ∧ FrameEnd U o U' L ({ frames := 0, cells := 0, slots := 0, locals := 0 } : Room).cells ({ frames := 0, cells := 0, slots := 0, locals := 0 } : Room).slots) := by
  refine MetFree.of_bodySF (plainFor_of_name pn0) hisR ?_
  intro p e s m args below meth c s₁ Bd hml0 hP hK
  obtain ⟨rfl, hZ, hh⟩ := hP
  have hx := Bd.exec
  have hby := Bd.bytes
  have hml : c.maxLocals = 2 := hml0
  have hown : s.vm.findClass "com/example/lehre/lehre/TextPositionAdvancePinLaw" = some m.cls := findClass_of_methodNamed Bd.named
  have X0 : Stand p l e ({ frames := 0, cells := 0, slots := 0, locals := 0 } : Room) s m #[(.int x0)] below meth c s₁ [] 0 0 := Stand.of_body Bd
  have e0 : s₁.heap = h0 := by rw [← hh, Bd.state]; rfl
  refine own_Goes.pre (S' := s₁.setTop (mkF m 0 #[.val (.int x0), .unset] [])) (P := (own_val (.int (f1_0 x0)) h0)) (n0 := n0) (kc := 0) (ks := 0) (fun t k => castTop (ef1 m x0) k) ?_
  exact b1_0 x0 X0 hx hZ hw hby hml hown Bd.returns Bd.notSynchronized e0 Z0 (Fr.nil n0) ⟨rfl, rfl⟩
theorem d2_0 : decode method_3_code 0 = .ok (.iload_n 0, 1) := by decide +kernel
theorem d2_1 : decode method_3_code 1 = .ok (.bipush 10, 2) := by decide +kernel
theorem d2_3 : decode method_3_code 3 = .ok (.if_icmp .eq 27, 3) := by decide +kernel
theorem d2_6 : decode method_3_code 6 = .ok (.iload_n 0, 1) := by decide +kernel
theorem d2_7 : decode method_3_code 7 = .ok (.bipush 13, 2) := by decide +kernel
theorem d2_9 : decode method_3_code 9 = .ok (.if_icmp .eq 21, 3) := by decide +kernel
theorem d2_12 : decode method_3_code 12 = .ok (.iload_n 1, 1) := by decide +kernel
theorem d2_13 : decode method_3_code 13 = .ok (.ifCond .eq 21, 3) := by decide +kernel
theorem d2_16 : decode method_3_code 16 = .ok (.iload_n 0, 1) := by decide +kernel
theorem d2_17 : decode method_3_code 17 = .ok (.sipush 133, 3) := by decide +kernel
theorem d2_20 : decode method_3_code 20 = .ok (.if_icmp .eq 10, 3) := by decide +kernel
theorem d2_23 : decode method_3_code 23 = .ok (.iload_n 0, 1) := by decide +kernel
theorem d2_24 : decode method_3_code 24 = .ok (.sipush 8232, 3) := by decide +kernel
theorem d2_27 : decode method_3_code 27 = .ok (.if_icmp .ne 7, 3) := by decide +kernel
theorem d2_30 : decode method_3_code 30 = .ok (.iconst 1, 1) := by decide +kernel
theorem d2_31 : decode method_3_code 31 = .ok (.goto 4, 3) := by decide +kernel
theorem d2_34 : decode method_3_code 34 = .ok (.iconst 0, 1) := by decide +kernel
theorem d2_35 : decode method_3_code 35 = .ok (.ireturn, 1) := by decide +kernel
def f2_30 (x0 : Int32) (x1 : Int32) : Int32 := (1 : Int32)
set_option maxRecDepth 65536 in
set_option maxHeartbeats 40000000 in
theorem b2_30 {p : Program} {l : Launch} {e : Env} {s : State} {m : MethodId} {args : Array Value} {below : List Frame} {meth : Method} {c : Code} {T0 : State} {locs : List Loc} {Z : State} {a0 : Array Value} {h0 : Heap} {n0 : Nat} {P : Option Value → Heap → Prop} (x0 : Int32) (x1 : Int32) (X0 : Stand p l e ({ frames := 0, cells := 0, slots := 0, locals := 0 } : Room) s m args below meth c T0 locs 0 0) (hx : p.tables.exec = Jvm.exec) (hZ : Z.Warmed39 s.vm) (hw : ∀ d ∈ tables_1, d.before a0 Z = true) (hby : c.code = method_3_code) (hml : c.maxLocals = 2) (hown : s.vm.findClass "com/example/lehre/lehre/TextPositionAdvancePinLaw" = some m.cls) (hret : meth.sig.returnType = some .boolean) (hlk : meth.locks = false) (e0 : T0.heap = h0) (Z0 : n0 ≤ h0.size) (N0 : Fr n0 locs) (hP : P (some (.int (f2_30 x0 x1))) h0) :
    own_Goes p e below s n0 0 0 P (T0.setTop (mkF m 30 #[.val (.int x0), .val (.int x1)] [])) := by
  rw [f2_30] at hP
  refine own_Goes.pre (fun t kt => ?_) (own_retN X0 hx hlk hret (by simp) (hb hby d2_35) N0 (by rw [e0]; exact hP) (by decide) (by decide) (Ls := #[.val (.int x0), .val (.int x1)]) (rest := []) (z := (1 : Int32)))
  show Steps p.tables e below (T0.setTop (mkF m 30 #[.val (.int x0), .val (.int x1)] [])) _
  refine XS.iconst X0.here hx rfl (hb hby d2_30) ?_
  show Steps p.tables e below (T0.setTop (mkF m 31 #[.val (.int x0), .val (.int x1)] [(.int (1 : Int32))])) _
  refine XS.goto X0.here hx rfl (pc0 := 31) (pc' := 35) rfl (hb hby d2_31) (by decide) (by decide) ?_
  exact kt
def f2_34 (x0 : Int32) (x1 : Int32) : Int32 := (0 : Int32)
set_option maxRecDepth 65536 in
set_option maxHeartbeats 40000000 in
theorem b2_34 {p : Program} {l : Launch} {e : Env} {s : State} {m : MethodId} {args : Array Value} {below : List Frame} {meth : Method} {c : Code} {T0 : State} {locs : List Loc} {Z : State} {a0 : Array Value} {h0 : Heap} {n0 : Nat} {P : Option Value → Heap → Prop} (x0 : Int32) (x1 : Int32) (X0 : Stand p l e ({ frames := 0, cells := 0, slots := 0, locals := 0 } : Room) s m args below meth c T0 locs 0 0) (hx : p.tables.exec = Jvm.exec) (hZ : Z.Warmed39 s.vm) (hw : ∀ d ∈ tables_1, d.before a0 Z = true) (hby : c.code = method_3_code) (hml : c.maxLocals = 2) (hown : s.vm.findClass "com/example/lehre/lehre/TextPositionAdvancePinLaw" = some m.cls) (hret : meth.sig.returnType = some .boolean) (hlk : meth.locks = false) (e0 : T0.heap = h0) (Z0 : n0 ≤ h0.size) (N0 : Fr n0 locs) (hP : P (some (.int (f2_34 x0 x1))) h0) :
    own_Goes p e below s n0 0 0 P (T0.setTop (mkF m 34 #[.val (.int x0), .val (.int x1)] [])) := by
  rw [f2_34] at hP
  refine own_Goes.pre (fun t kt => ?_) (own_retN X0 hx hlk hret (by simp) (hb hby d2_35) N0 (by rw [e0]; exact hP) (by decide) (by decide) (Ls := #[.val (.int x0), .val (.int x1)]) (rest := []) (z := (0 : Int32)))
  show Steps p.tables e below (T0.setTop (mkF m 34 #[.val (.int x0), .val (.int x1)] [])) _
  refine XS.iconst X0.here hx rfl (hb hby d2_34) ?_
  exact kt
def f2_23 (x0 : Int32) (x1 : Int32) : Int32 := if x0 = (8232 : Int32) then (f2_30 x0 x1) else (f2_34 x0 x1)
set_option maxRecDepth 65536 in
set_option maxHeartbeats 40000000 in
theorem b2_23 {p : Program} {l : Launch} {e : Env} {s : State} {m : MethodId} {args : Array Value} {below : List Frame} {meth : Method} {c : Code} {T0 : State} {locs : List Loc} {Z : State} {a0 : Array Value} {h0 : Heap} {n0 : Nat} {P : Option Value → Heap → Prop} (x0 : Int32) (x1 : Int32) (X0 : Stand p l e ({ frames := 0, cells := 0, slots := 0, locals := 0 } : Room) s m args below meth c T0 locs 0 0) (hx : p.tables.exec = Jvm.exec) (hZ : Z.Warmed39 s.vm) (hw : ∀ d ∈ tables_1, d.before a0 Z = true) (hby : c.code = method_3_code) (hml : c.maxLocals = 2) (hown : s.vm.findClass "com/example/lehre/lehre/TextPositionAdvancePinLaw" = some m.cls) (hret : meth.sig.returnType = some .boolean) (hlk : meth.locks = false) (e0 : T0.heap = h0) (Z0 : n0 ≤ h0.size) (N0 : Fr n0 locs) (hP : P (some (.int (f2_23 x0 x1))) h0) :
    own_Goes p e below s n0 0 0 P (T0.setTop (mkF m 23 #[.val (.int x0), .val (.int x1)] [])) := by
  have pre1 : ∀ t, Steps p.tables e below (T0.setTop (mkF m 27 #[.val (.int x0), .val (.int x1)] [(.int (8232 : Int32)), (.int x0)])) t → Steps p.tables e below (T0.setTop (mkF m 23 #[.val (.int x0), .val (.int x1)] [])) t := fun t kt => by
    show Steps p.tables e below (T0.setTop (mkF m 23 #[.val (.int x0), .val (.int x1)] [])) _
    refine XS.iloadN X0.here hx rfl (hb hby d2_23) rfl ?_
    show Steps p.tables e below (T0.setTop (mkF m 24 #[.val (.int x0), .val (.int x1)] [(.int x0)])) _
    refine XS.sipush X0.here hx rfl (hb hby d2_24) ?_
    exact kt
  refine own_Goes.pre pre1 ?_
  by_cases hc : x0 = (8232 : Int32)
  · rw [f2_23, if_pos hc] at hP
    refine own_Goes.pre (fun t kt => ?_) (b2_30 x0 x1 X0 hx hZ hw hby hml hown hret hlk e0 Z0 N0 hP)
    show Steps p.tables e below (T0.setTop (mkF m 27 #[.val (.int x0), .val (.int x1)] [(.int (8232 : Int32)), (.int x0)])) _
    refine XS.icmpNo X0.here hx rfl (hb hby d2_27) rfl (teq hc).2 ?_
    exact kt
  · rw [f2_23, if_neg hc] at hP
    refine own_Goes.pre (fun t kt => ?_) (b2_34 x0 x1 X0 hx hZ hw hby hml hown hret hlk e0 Z0 N0 hP)
    show Steps p.tables e below (T0.setTop (mkF m 27 #[.val (.int x0), .val (.int x1)] [(.int (8232 : Int32)), (.int x0)])) _
    refine XS.icmpYes X0.here hx rfl (pc0 := 27) (pc' := 34) rfl (hb hby d2_27) rfl (feq hc).2 (by decide) (by decide) ?_
    exact kt
def f2_16 (x0 : Int32) (x1 : Int32) : Int32 := if x0 = (133 : Int32) then (f2_30 x0 x1) else (f2_23 x0 x1)
set_option maxRecDepth 65536 in
set_option maxHeartbeats 40000000 in
theorem b2_16 {p : Program} {l : Launch} {e : Env} {s : State} {m : MethodId} {args : Array Value} {below : List Frame} {meth : Method} {c : Code} {T0 : State} {locs : List Loc} {Z : State} {a0 : Array Value} {h0 : Heap} {n0 : Nat} {P : Option Value → Heap → Prop} (x0 : Int32) (x1 : Int32) (X0 : Stand p l e ({ frames := 0, cells := 0, slots := 0, locals := 0 } : Room) s m args below meth c T0 locs 0 0) (hx : p.tables.exec = Jvm.exec) (hZ : Z.Warmed39 s.vm) (hw : ∀ d ∈ tables_1, d.before a0 Z = true) (hby : c.code = method_3_code) (hml : c.maxLocals = 2) (hown : s.vm.findClass "com/example/lehre/lehre/TextPositionAdvancePinLaw" = some m.cls) (hret : meth.sig.returnType = some .boolean) (hlk : meth.locks = false) (e0 : T0.heap = h0) (Z0 : n0 ≤ h0.size) (N0 : Fr n0 locs) (hP : P (some (.int (f2_16 x0 x1))) h0) :
    own_Goes p e below s n0 0 0 P (T0.setTop (mkF m 16 #[.val (.int x0), .val (.int x1)] [])) := by
  have pre1 : ∀ t, Steps p.tables e below (T0.setTop (mkF m 20 #[.val (.int x0), .val (.int x1)] [(.int (133 : Int32)), (.int x0)])) t → Steps p.tables e below (T0.setTop (mkF m 16 #[.val (.int x0), .val (.int x1)] [])) t := fun t kt => by
    show Steps p.tables e below (T0.setTop (mkF m 16 #[.val (.int x0), .val (.int x1)] [])) _
    refine XS.iloadN X0.here hx rfl (hb hby d2_16) rfl ?_
    show Steps p.tables e below (T0.setTop (mkF m 17 #[.val (.int x0), .val (.int x1)] [(.int x0)])) _
    refine XS.sipush X0.here hx rfl (hb hby d2_17) ?_
    exact kt
  refine own_Goes.pre pre1 ?_
  by_cases hc : x0 = (133 : Int32)
  · rw [f2_16, if_pos hc] at hP
    refine own_Goes.pre (fun t kt => ?_) (b2_30 x0 x1 X0 hx hZ hw hby hml hown hret hlk e0 Z0 N0 hP)
    show Steps p.tables e below (T0.setTop (mkF m 20 #[.val (.int x0), .val (.int x1)] [(.int (133 : Int32)), (.int x0)])) _
    refine XS.icmpYes X0.here hx rfl (pc0 := 20) (pc' := 30) rfl (hb hby d2_20) rfl (teq hc).1 (by decide) (by decide) ?_
    exact kt
  · rw [f2_16, if_neg hc] at hP
    refine own_Goes.pre (fun t kt => ?_) (b2_23 x0 x1 X0 hx hZ hw hby hml hown hret hlk e0 Z0 N0 hP)
    show Steps p.tables e below (T0.setTop (mkF m 20 #[.val (.int x0), .val (.int x1)] [(.int (133 : Int32)), (.int x0)])) _
    refine XS.icmpNo X0.here hx rfl (hb hby d2_20) rfl (feq hc).1 ?_
    exact kt
def f2_12 (x0 : Int32) (x1 : Int32) : Int32 := if x1 = (0 : Int32) then (f2_34 x0 x1) else (f2_16 x0 x1)
set_option maxRecDepth 65536 in
set_option maxHeartbeats 40000000 in
theorem b2_12 {p : Program} {l : Launch} {e : Env} {s : State} {m : MethodId} {args : Array Value} {below : List Frame} {meth : Method} {c : Code} {T0 : State} {locs : List Loc} {Z : State} {a0 : Array Value} {h0 : Heap} {n0 : Nat} {P : Option Value → Heap → Prop} (x0 : Int32) (x1 : Int32) (X0 : Stand p l e ({ frames := 0, cells := 0, slots := 0, locals := 0 } : Room) s m args below meth c T0 locs 0 0) (hx : p.tables.exec = Jvm.exec) (hZ : Z.Warmed39 s.vm) (hw : ∀ d ∈ tables_1, d.before a0 Z = true) (hby : c.code = method_3_code) (hml : c.maxLocals = 2) (hown : s.vm.findClass "com/example/lehre/lehre/TextPositionAdvancePinLaw" = some m.cls) (hret : meth.sig.returnType = some .boolean) (hlk : meth.locks = false) (e0 : T0.heap = h0) (Z0 : n0 ≤ h0.size) (N0 : Fr n0 locs) (hP : P (some (.int (f2_12 x0 x1))) h0) :
    own_Goes p e below s n0 0 0 P (T0.setTop (mkF m 12 #[.val (.int x0), .val (.int x1)] [])) := by
  have pre1 : ∀ t, Steps p.tables e below (T0.setTop (mkF m 13 #[.val (.int x0), .val (.int x1)] [(.int x1)])) t → Steps p.tables e below (T0.setTop (mkF m 12 #[.val (.int x0), .val (.int x1)] [])) t := fun t kt => by
    show Steps p.tables e below (T0.setTop (mkF m 12 #[.val (.int x0), .val (.int x1)] [])) _
    refine XS.iloadN X0.here hx rfl (hb hby d2_12) rfl ?_
    exact kt
  refine own_Goes.pre pre1 ?_
  by_cases hc : x1 = (0 : Int32)
  · rw [f2_12, if_pos hc] at hP
    refine own_Goes.pre (fun t kt => ?_) (b2_34 x0 x1 X0 hx hZ hw hby hml hown hret hlk e0 Z0 N0 hP)
    show Steps p.tables e below (T0.setTop (mkF m 13 #[.val (.int x0), .val (.int x1)] [(.int x1)])) _
    refine XS.ifYes X0.here hx rfl (pc0 := 13) (pc' := 34) rfl (hb hby d2_13) rfl ((if0 _ _).trans (teq hc).1) (by decide) (by decide) ?_
    exact kt
  · rw [f2_12, if_neg hc] at hP
    refine own_Goes.pre (fun t kt => ?_) (b2_16 x0 x1 X0 hx hZ hw hby hml hown hret hlk e0 Z0 N0 hP)
    show Steps p.tables e below (T0.setTop (mkF m 13 #[.val (.int x0), .val (.int x1)] [(.int x1)])) _
    refine XS.ifNo X0.here hx rfl (hb hby d2_13) rfl ((if0 _ _).trans (feq hc).1) ?_
    exact kt
def f2_6 (x0 : Int32) (x1 : Int32) : Int32 := if x0 = (13 : Int32) then (f2_30 x0 x1) else (f2_12 x0 x1)
set_option maxRecDepth 65536 in
set_option maxHeartbeats 40000000 in
theorem b2_6 {p : Program} {l : Launch} {e : Env} {s : State} {m : MethodId} {args : Array Value} {below : List Frame} {meth : Method} {c : Code} {T0 : State} {locs : List Loc} {Z : State} {a0 : Array Value} {h0 : Heap} {n0 : Nat} {P : Option Value → Heap → Prop} (x0 : Int32) (x1 : Int32) (X0 : Stand p l e ({ frames := 0, cells := 0, slots := 0, locals := 0 } : Room) s m args below meth c T0 locs 0 0) (hx : p.tables.exec = Jvm.exec) (hZ : Z.Warmed39 s.vm) (hw : ∀ d ∈ tables_1, d.before a0 Z = true) (hby : c.code = method_3_code) (hml : c.maxLocals = 2) (hown : s.vm.findClass "com/example/lehre/lehre/TextPositionAdvancePinLaw" = some m.cls) (hret : meth.sig.returnType = some .boolean) (hlk : meth.locks = false) (e0 : T0.heap = h0) (Z0 : n0 ≤ h0.size) (N0 : Fr n0 locs) (hP : P (some (.int (f2_6 x0 x1))) h0) :
    own_Goes p e below s n0 0 0 P (T0.setTop (mkF m 6 #[.val (.int x0), .val (.int x1)] [])) := by
  have pre1 : ∀ t, Steps p.tables e below (T0.setTop (mkF m 9 #[.val (.int x0), .val (.int x1)] [(.int (13 : Int32)), (.int x0)])) t → Steps p.tables e below (T0.setTop (mkF m 6 #[.val (.int x0), .val (.int x1)] [])) t := fun t kt => by
    show Steps p.tables e below (T0.setTop (mkF m 6 #[.val (.int x0), .val (.int x1)] [])) _
    refine XS.iloadN X0.here hx rfl (hb hby d2_6) rfl ?_
    show Steps p.tables e below (T0.setTop (mkF m 7 #[.val (.int x0), .val (.int x1)] [(.int x0)])) _
    refine XS.bipush X0.here hx rfl (hb hby d2_7) ?_
    exact kt
  refine own_Goes.pre pre1 ?_
  by_cases hc : x0 = (13 : Int32)
  · rw [f2_6, if_pos hc] at hP
    refine own_Goes.pre (fun t kt => ?_) (b2_30 x0 x1 X0 hx hZ hw hby hml hown hret hlk e0 Z0 N0 hP)
    show Steps p.tables e below (T0.setTop (mkF m 9 #[.val (.int x0), .val (.int x1)] [(.int (13 : Int32)), (.int x0)])) _
    refine XS.icmpYes X0.here hx rfl (pc0 := 9) (pc' := 30) rfl (hb hby d2_9) rfl (teq hc).1 (by decide) (by decide) ?_
    exact kt
  · rw [f2_6, if_neg hc] at hP
    refine own_Goes.pre (fun t kt => ?_) (b2_12 x0 x1 X0 hx hZ hw hby hml hown hret hlk e0 Z0 N0 hP)
    show Steps p.tables e below (T0.setTop (mkF m 9 #[.val (.int x0), .val (.int x1)] [(.int (13 : Int32)), (.int x0)])) _
    refine XS.icmpNo X0.here hx rfl (hb hby d2_9) rfl (feq hc).1 ?_
    exact kt
def f2_0 (x0 : Int32) (x1 : Int32) : Int32 := if x0 = (10 : Int32) then (f2_30 x0 x1) else (f2_6 x0 x1)
set_option maxRecDepth 65536 in
set_option maxHeartbeats 40000000 in
theorem b2_0 {p : Program} {l : Launch} {e : Env} {s : State} {m : MethodId} {args : Array Value} {below : List Frame} {meth : Method} {c : Code} {T0 : State} {locs : List Loc} {Z : State} {a0 : Array Value} {h0 : Heap} {n0 : Nat} {P : Option Value → Heap → Prop} (x0 : Int32) (x1 : Int32) (X0 : Stand p l e ({ frames := 0, cells := 0, slots := 0, locals := 0 } : Room) s m args below meth c T0 locs 0 0) (hx : p.tables.exec = Jvm.exec) (hZ : Z.Warmed39 s.vm) (hw : ∀ d ∈ tables_1, d.before a0 Z = true) (hby : c.code = method_3_code) (hml : c.maxLocals = 2) (hown : s.vm.findClass "com/example/lehre/lehre/TextPositionAdvancePinLaw" = some m.cls) (hret : meth.sig.returnType = some .boolean) (hlk : meth.locks = false) (e0 : T0.heap = h0) (Z0 : n0 ≤ h0.size) (N0 : Fr n0 locs) (hP : P (some (.int (f2_0 x0 x1))) h0) :
    own_Goes p e below s n0 0 0 P (T0.setTop (mkF m 0 #[.val (.int x0), .val (.int x1)] [])) := by
  have pre1 : ∀ t, Steps p.tables e below (T0.setTop (mkF m 3 #[.val (.int x0), .val (.int x1)] [(.int (10 : Int32)), (.int x0)])) t → Steps p.tables e below (T0.setTop (mkF m 0 #[.val (.int x0), .val (.int x1)] [])) t := fun t kt => by
    show Steps p.tables e below (T0.setTop (mkF m 0 #[.val (.int x0), .val (.int x1)] [])) _
    refine XS.iloadN X0.here hx rfl (hb hby d2_0) rfl ?_
    show Steps p.tables e below (T0.setTop (mkF m 1 #[.val (.int x0), .val (.int x1)] [(.int x0)])) _
    refine XS.bipush X0.here hx rfl (hb hby d2_1) ?_
    exact kt
  refine own_Goes.pre pre1 ?_
  by_cases hc : x0 = (10 : Int32)
  · rw [f2_0, if_pos hc] at hP
    refine own_Goes.pre (fun t kt => ?_) (b2_30 x0 x1 X0 hx hZ hw hby hml hown hret hlk e0 Z0 N0 hP)
    show Steps p.tables e below (T0.setTop (mkF m 3 #[.val (.int x0), .val (.int x1)] [(.int (10 : Int32)), (.int x0)])) _
    refine XS.icmpYes X0.here hx rfl (pc0 := 3) (pc' := 30) rfl (hb hby d2_3) rfl (teq hc).1 (by decide) (by decide) ?_
    exact kt
  · rw [f2_0, if_neg hc] at hP
    refine own_Goes.pre (fun t kt => ?_) (b2_6 x0 x1 X0 hx hZ hw hby hml hown hret hlk e0 Z0 N0 hP)
    show Steps p.tables e below (T0.setTop (mkF m 3 #[.val (.int x0), .val (.int x1)] [(.int (10 : Int32)), (.int x0)])) _
    refine XS.icmpNo X0.here hx rfl (hb hby d2_3) rfl (feq hc).1 ?_
    exact kt
theorem ef2 (m : MethodId) (x0 : Int32) (x1 : Int32) : entryFrame m #[(.int x0), (.int x1)] 2 = (mkF m 0 #[.val (.int x0), .val (.int x1)] []) := by first | (simp [entryFrame, mkF, argsToLocals, Value.category]; done) | rfl
set_option maxRecDepth 65536 in
set_option maxHeartbeats 40000000 in
theorem rm2 (l : Launch) (Z : State) (a0 : Array Value) (hw : ∀ d ∈ tables_1, d.before a0 Z = true) (ws : List Jvm.Cond) (x0 : Int32) (x1 : Int32) (h0 : Heap) (n0 : Nat) (Z0 : n0 ≤ h0.size) :
    MetFree l (⟨"com/example/lehre/lehre/TextPositionAdvancePinLaw", "isEnd", "(CZ)Z"⟩ : MethodName) (head1 (Jvm.Cond.code (⟨"com/example/lehre/lehre/TextPositionAdvancePinLaw", "isEnd", "(CZ)Z"⟩ : MethodName) method_3_code 2 (some .boolean) :: ws) ({ frames := 0, cells := 0, slots := 0, locals := 0 } : Room)) (fun a U => a = #[(.int x0), (.int x1)] ∧ Z.Warmed39 U.vm ∧ U.heap = h0) (fun _ _ _ _ _ => True) (fun _ U o U' => ∃ v L, o = .returned v ∧ own_Q (own_val (.int (f2_0 x0 x1)) h0) n0 v U'.heap L ∧ FrameEnd U o U' L ({ frames := 0, cells := 0, slots := 0, locals := 0 } : Room).cells ({ frames := 0, cells := 0, slots := 0, locals := 0 } : Room).slots) := by
  refine MetFree.of_bodySF (plainFor_of_name pn0) hisR ?_
  intro p e s m args below meth c s₁ Bd hml0 hP hK
  obtain ⟨rfl, hZ, hh⟩ := hP
  have hx := Bd.exec
  have hby := Bd.bytes
  have hml : c.maxLocals = 2 := hml0
  have hown : s.vm.findClass "com/example/lehre/lehre/TextPositionAdvancePinLaw" = some m.cls := findClass_of_methodNamed Bd.named
  have X0 : Stand p l e ({ frames := 0, cells := 0, slots := 0, locals := 0 } : Room) s m #[(.int x0), (.int x1)] below meth c s₁ [] 0 0 := Stand.of_body Bd
  have e0 : s₁.heap = h0 := by rw [← hh, Bd.state]; rfl
  refine own_Goes.pre (S' := s₁.setTop (mkF m 0 #[.val (.int x0), .val (.int x1)] [])) (P := (own_val (.int (f2_0 x0 x1)) h0)) (n0 := n0) (kc := 0) (ks := 0) (fun t k => castTop (ef2 m x0 x1) k) ?_
  exact b2_0 x0 x1 X0 hx hZ hw hby hml hown Bd.returns Bd.notSynchronized e0 Z0 (Fr.nil n0) ⟨rfl, rfl⟩
theorem d9_0 : decode method_4_code 0 = .ok (.iload_n 0, 1) := by decide +kernel
theorem d9_1 : decode method_4_code 1 = .ok (.bipush 10, 2) := by decide +kernel
theorem d9_3 : decode method_4_code 3 = .ok (.if_icmp .eq 14, 3) := by decide +kernel
theorem d9_6 : decode method_4_code 6 = .ok (.iload_n 1, 1) := by decide +kernel
theorem d9_7 : decode method_4_code 7 = .ok (.ifCond .eq 14, 3) := by decide +kernel
theorem d9_10 : decode method_4_code 10 = .ok (.iload_n 0, 1) := by decide +kernel
theorem d9_11 : decode method_4_code 11 = .ok (.sipush 133, 3) := by decide +kernel
theorem d9_14 : decode method_4_code 14 = .ok (.if_icmp .ne 7, 3) := by decide +kernel
theorem d9_17 : decode method_4_code 17 = .ok (.iconst 1, 1) := by decide +kernel
theorem d9_18 : decode method_4_code 18 = .ok (.goto 4, 3) := by decide +kernel
theorem d9_21 : decode method_4_code 21 = .ok (.iconst 0, 1) := by decide +kernel
theorem d9_22 : decode method_4_code 22 = .ok (.ireturn, 1) := by decide +kernel
def f9_17 (x0 : Int32) (x1 : Int32) : Int32 := (1 : Int32)
set_option maxRecDepth 65536 in
set_option maxHeartbeats 40000000 in
theorem b9_17 {p : Program} {l : Launch} {e : Env} {s : State} {m : MethodId} {args : Array Value} {below : List Frame} {meth : Method} {c : Code} {T0 : State} {locs : List Loc} {Z : State} {a0 : Array Value} {h0 : Heap} {n0 : Nat} {P : Option Value → Heap → Prop} (x0 : Int32) (x1 : Int32) (X0 : Stand p l e ({ frames := 0, cells := 0, slots := 0, locals := 0 } : Room) s m args below meth c T0 locs 0 0) (hx : p.tables.exec = Jvm.exec) (hZ : Z.Warmed39 s.vm) (hw : ∀ d ∈ tables_1, d.before a0 Z = true) (hby : c.code = method_4_code) (hml : c.maxLocals = 2) (hown : s.vm.findClass "com/example/lehre/lehre/TextPositionAdvancePinLaw" = some m.cls) (hret : meth.sig.returnType = some .boolean) (hlk : meth.locks = false) (e0 : T0.heap = h0) (Z0 : n0 ≤ h0.size) (N0 : Fr n0 locs) (hP : P (some (.int (f9_17 x0 x1))) h0) :
    own_Goes p e below s n0 0 0 P (T0.setTop (mkF m 17 #[.val (.int x0), .val (.int x1)] [])) := by
  rw [f9_17] at hP
  refine own_Goes.pre (fun t kt => ?_) (own_retN X0 hx hlk hret (by simp) (hb hby d9_22) N0 (by rw [e0]; exact hP) (by decide) (by decide) (Ls := #[.val (.int x0), .val (.int x1)]) (rest := []) (z := (1 : Int32)))
  show Steps p.tables e below (T0.setTop (mkF m 17 #[.val (.int x0), .val (.int x1)] [])) _
  refine XS.iconst X0.here hx rfl (hb hby d9_17) ?_
  show Steps p.tables e below (T0.setTop (mkF m 18 #[.val (.int x0), .val (.int x1)] [(.int (1 : Int32))])) _
  refine XS.goto X0.here hx rfl (pc0 := 18) (pc' := 22) rfl (hb hby d9_18) (by decide) (by decide) ?_
  exact kt
def f9_21 (x0 : Int32) (x1 : Int32) : Int32 := (0 : Int32)
set_option maxRecDepth 65536 in
set_option maxHeartbeats 40000000 in
theorem b9_21 {p : Program} {l : Launch} {e : Env} {s : State} {m : MethodId} {args : Array Value} {below : List Frame} {meth : Method} {c : Code} {T0 : State} {locs : List Loc} {Z : State} {a0 : Array Value} {h0 : Heap} {n0 : Nat} {P : Option Value → Heap → Prop} (x0 : Int32) (x1 : Int32) (X0 : Stand p l e ({ frames := 0, cells := 0, slots := 0, locals := 0 } : Room) s m args below meth c T0 locs 0 0) (hx : p.tables.exec = Jvm.exec) (hZ : Z.Warmed39 s.vm) (hw : ∀ d ∈ tables_1, d.before a0 Z = true) (hby : c.code = method_4_code) (hml : c.maxLocals = 2) (hown : s.vm.findClass "com/example/lehre/lehre/TextPositionAdvancePinLaw" = some m.cls) (hret : meth.sig.returnType = some .boolean) (hlk : meth.locks = false) (e0 : T0.heap = h0) (Z0 : n0 ≤ h0.size) (N0 : Fr n0 locs) (hP : P (some (.int (f9_21 x0 x1))) h0) :
    own_Goes p e below s n0 0 0 P (T0.setTop (mkF m 21 #[.val (.int x0), .val (.int x1)] [])) := by
  rw [f9_21] at hP
  refine own_Goes.pre (fun t kt => ?_) (own_retN X0 hx hlk hret (by simp) (hb hby d9_22) N0 (by rw [e0]; exact hP) (by decide) (by decide) (Ls := #[.val (.int x0), .val (.int x1)]) (rest := []) (z := (0 : Int32)))
  show Steps p.tables e below (T0.setTop (mkF m 21 #[.val (.int x0), .val (.int x1)] [])) _
  refine XS.iconst X0.here hx rfl (hb hby d9_21) ?_
  exact kt
def f9_10 (x0 : Int32) (x1 : Int32) : Int32 := if x0 = (133 : Int32) then (f9_17 x0 x1) else (f9_21 x0 x1)
set_option maxRecDepth 65536 in
set_option maxHeartbeats 40000000 in
theorem b9_10 {p : Program} {l : Launch} {e : Env} {s : State} {m : MethodId} {args : Array Value} {below : List Frame} {meth : Method} {c : Code} {T0 : State} {locs : List Loc} {Z : State} {a0 : Array Value} {h0 : Heap} {n0 : Nat} {P : Option Value → Heap → Prop} (x0 : Int32) (x1 : Int32) (X0 : Stand p l e ({ frames := 0, cells := 0, slots := 0, locals := 0 } : Room) s m args below meth c T0 locs 0 0) (hx : p.tables.exec = Jvm.exec) (hZ : Z.Warmed39 s.vm) (hw : ∀ d ∈ tables_1, d.before a0 Z = true) (hby : c.code = method_4_code) (hml : c.maxLocals = 2) (hown : s.vm.findClass "com/example/lehre/lehre/TextPositionAdvancePinLaw" = some m.cls) (hret : meth.sig.returnType = some .boolean) (hlk : meth.locks = false) (e0 : T0.heap = h0) (Z0 : n0 ≤ h0.size) (N0 : Fr n0 locs) (hP : P (some (.int (f9_10 x0 x1))) h0) :
    own_Goes p e below s n0 0 0 P (T0.setTop (mkF m 10 #[.val (.int x0), .val (.int x1)] [])) := by
  have pre1 : ∀ t, Steps p.tables e below (T0.setTop (mkF m 14 #[.val (.int x0), .val (.int x1)] [(.int (133 : Int32)), (.int x0)])) t → Steps p.tables e below (T0.setTop (mkF m 10 #[.val (.int x0), .val (.int x1)] [])) t := fun t kt => by
    show Steps p.tables e below (T0.setTop (mkF m 10 #[.val (.int x0), .val (.int x1)] [])) _
    refine XS.iloadN X0.here hx rfl (hb hby d9_10) rfl ?_
    show Steps p.tables e below (T0.setTop (mkF m 11 #[.val (.int x0), .val (.int x1)] [(.int x0)])) _
    refine XS.sipush X0.here hx rfl (hb hby d9_11) ?_
    exact kt
  refine own_Goes.pre pre1 ?_
  by_cases hc : x0 = (133 : Int32)
  · rw [f9_10, if_pos hc] at hP
    refine own_Goes.pre (fun t kt => ?_) (b9_17 x0 x1 X0 hx hZ hw hby hml hown hret hlk e0 Z0 N0 hP)
    show Steps p.tables e below (T0.setTop (mkF m 14 #[.val (.int x0), .val (.int x1)] [(.int (133 : Int32)), (.int x0)])) _
    refine XS.icmpNo X0.here hx rfl (hb hby d9_14) rfl (teq hc).2 ?_
    exact kt
  · rw [f9_10, if_neg hc] at hP
    refine own_Goes.pre (fun t kt => ?_) (b9_21 x0 x1 X0 hx hZ hw hby hml hown hret hlk e0 Z0 N0 hP)
    show Steps p.tables e below (T0.setTop (mkF m 14 #[.val (.int x0), .val (.int x1)] [(.int (133 : Int32)), (.int x0)])) _
    refine XS.icmpYes X0.here hx rfl (pc0 := 14) (pc' := 21) rfl (hb hby d9_14) rfl (feq hc).2 (by decide) (by decide) ?_
    exact kt
def f9_6 (x0 : Int32) (x1 : Int32) : Int32 := if x1 = (0 : Int32) then (f9_21 x0 x1) else (f9_10 x0 x1)
set_option maxRecDepth 65536 in
set_option maxHeartbeats 40000000 in
theorem b9_6 {p : Program} {l : Launch} {e : Env} {s : State} {m : MethodId} {args : Array Value} {below : List Frame} {meth : Method} {c : Code} {T0 : State} {locs : List Loc} {Z : State} {a0 : Array Value} {h0 : Heap} {n0 : Nat} {P : Option Value → Heap → Prop} (x0 : Int32) (x1 : Int32) (X0 : Stand p l e ({ frames := 0, cells := 0, slots := 0, locals := 0 } : Room) s m args below meth c T0 locs 0 0) (hx : p.tables.exec = Jvm.exec) (hZ : Z.Warmed39 s.vm) (hw : ∀ d ∈ tables_1, d.before a0 Z = true) (hby : c.code = method_4_code) (hml : c.maxLocals = 2) (hown : s.vm.findClass "com/example/lehre/lehre/TextPositionAdvancePinLaw" = some m.cls) (hret : meth.sig.returnType = some .boolean) (hlk : meth.locks = false) (e0 : T0.heap = h0) (Z0 : n0 ≤ h0.size) (N0 : Fr n0 locs) (hP : P (some (.int (f9_6 x0 x1))) h0) :
    own_Goes p e below s n0 0 0 P (T0.setTop (mkF m 6 #[.val (.int x0), .val (.int x1)] [])) := by
  have pre1 : ∀ t, Steps p.tables e below (T0.setTop (mkF m 7 #[.val (.int x0), .val (.int x1)] [(.int x1)])) t → Steps p.tables e below (T0.setTop (mkF m 6 #[.val (.int x0), .val (.int x1)] [])) t := fun t kt => by
    show Steps p.tables e below (T0.setTop (mkF m 6 #[.val (.int x0), .val (.int x1)] [])) _
    refine XS.iloadN X0.here hx rfl (hb hby d9_6) rfl ?_
    exact kt
  refine own_Goes.pre pre1 ?_
  by_cases hc : x1 = (0 : Int32)
  · rw [f9_6, if_pos hc] at hP
    refine own_Goes.pre (fun t kt => ?_) (b9_21 x0 x1 X0 hx hZ hw hby hml hown hret hlk e0 Z0 N0 hP)
    show Steps p.tables e below (T0.setTop (mkF m 7 #[.val (.int x0), .val (.int x1)] [(.int x1)])) _
    refine XS.ifYes X0.here hx rfl (pc0 := 7) (pc' := 21) rfl (hb hby d9_7) rfl ((if0 _ _).trans (teq hc).1) (by decide) (by decide) ?_
    exact kt
  · rw [f9_6, if_neg hc] at hP
    refine own_Goes.pre (fun t kt => ?_) (b9_10 x0 x1 X0 hx hZ hw hby hml hown hret hlk e0 Z0 N0 hP)
    show Steps p.tables e below (T0.setTop (mkF m 7 #[.val (.int x0), .val (.int x1)] [(.int x1)])) _
    refine XS.ifNo X0.here hx rfl (hb hby d9_7) rfl ((if0 _ _).trans (feq hc).1) ?_
    exact kt
def f9_0 (x0 : Int32) (x1 : Int32) : Int32 := if x0 = (10 : Int32) then (f9_17 x0 x1) else (f9_6 x0 x1)
set_option maxRecDepth 65536 in
set_option maxHeartbeats 40000000 in
theorem b9_0 {p : Program} {l : Launch} {e : Env} {s : State} {m : MethodId} {args : Array Value} {below : List Frame} {meth : Method} {c : Code} {T0 : State} {locs : List Loc} {Z : State} {a0 : Array Value} {h0 : Heap} {n0 : Nat} {P : Option Value → Heap → Prop} (x0 : Int32) (x1 : Int32) (X0 : Stand p l e ({ frames := 0, cells := 0, slots := 0, locals := 0 } : Room) s m args below meth c T0 locs 0 0) (hx : p.tables.exec = Jvm.exec) (hZ : Z.Warmed39 s.vm) (hw : ∀ d ∈ tables_1, d.before a0 Z = true) (hby : c.code = method_4_code) (hml : c.maxLocals = 2) (hown : s.vm.findClass "com/example/lehre/lehre/TextPositionAdvancePinLaw" = some m.cls) (hret : meth.sig.returnType = some .boolean) (hlk : meth.locks = false) (e0 : T0.heap = h0) (Z0 : n0 ≤ h0.size) (N0 : Fr n0 locs) (hP : P (some (.int (f9_0 x0 x1))) h0) :
    own_Goes p e below s n0 0 0 P (T0.setTop (mkF m 0 #[.val (.int x0), .val (.int x1)] [])) := by
  have pre1 : ∀ t, Steps p.tables e below (T0.setTop (mkF m 3 #[.val (.int x0), .val (.int x1)] [(.int (10 : Int32)), (.int x0)])) t → Steps p.tables e below (T0.setTop (mkF m 0 #[.val (.int x0), .val (.int x1)] [])) t := fun t kt => by
    show Steps p.tables e below (T0.setTop (mkF m 0 #[.val (.int x0), .val (.int x1)] [])) _
    refine XS.iloadN X0.here hx rfl (hb hby d9_0) rfl ?_
    show Steps p.tables e below (T0.setTop (mkF m 1 #[.val (.int x0), .val (.int x1)] [(.int x0)])) _
    refine XS.bipush X0.here hx rfl (hb hby d9_1) ?_
    exact kt
  refine own_Goes.pre pre1 ?_
  by_cases hc : x0 = (10 : Int32)
  · rw [f9_0, if_pos hc] at hP
    refine own_Goes.pre (fun t kt => ?_) (b9_17 x0 x1 X0 hx hZ hw hby hml hown hret hlk e0 Z0 N0 hP)
    show Steps p.tables e below (T0.setTop (mkF m 3 #[.val (.int x0), .val (.int x1)] [(.int (10 : Int32)), (.int x0)])) _
    refine XS.icmpYes X0.here hx rfl (pc0 := 3) (pc' := 17) rfl (hb hby d9_3) rfl (teq hc).1 (by decide) (by decide) ?_
    exact kt
  · rw [f9_0, if_neg hc] at hP
    refine own_Goes.pre (fun t kt => ?_) (b9_6 x0 x1 X0 hx hZ hw hby hml hown hret hlk e0 Z0 N0 hP)
    show Steps p.tables e below (T0.setTop (mkF m 3 #[.val (.int x0), .val (.int x1)] [(.int (10 : Int32)), (.int x0)])) _
    refine XS.icmpNo X0.here hx rfl (hb hby d9_3) rfl (feq hc).1 ?_
    exact kt
theorem ef9 (m : MethodId) (x0 : Int32) (x1 : Int32) : entryFrame m #[(.int x0), (.int x1)] 2 = (mkF m 0 #[.val (.int x0), .val (.int x1)] []) := by first | (simp [entryFrame, mkF, argsToLocals, Value.category]; done) | rfl
set_option maxRecDepth 65536 in
set_option maxHeartbeats 40000000 in
theorem rm9 (l : Launch) (Z : State) (a0 : Array Value) (hw : ∀ d ∈ tables_1, d.before a0 Z = true) (ws : List Jvm.Cond) (x0 : Int32) (x1 : Int32) (h0 : Heap) (n0 : Nat) (Z0 : n0 ≤ h0.size) :
    MetFree l (⟨"com/example/lehre/lehre/TextPositionAdvancePinLaw", "isFollower", "(CZ)Z"⟩ : MethodName) (head1 (Jvm.Cond.code (⟨"com/example/lehre/lehre/TextPositionAdvancePinLaw", "isFollower", "(CZ)Z"⟩ : MethodName) method_4_code 2 (some .boolean) :: ws) ({ frames := 0, cells := 0, slots := 0, locals := 0 } : Room)) (fun a U => a = #[(.int x0), (.int x1)] ∧ Z.Warmed39 U.vm ∧ U.heap = h0) (fun _ _ _ _ _ => True) (fun _ U o U' => ∃ v L, o = .returned v ∧ own_Q (own_val (.int (f9_0 x0 x1)) h0) n0 v U'.heap L ∧ FrameEnd U o U' L ({ frames := 0, cells := 0, slots := 0, locals := 0 } : Room).cells ({ frames := 0, cells := 0, slots := 0, locals := 0 } : Room).slots) := by
  refine MetFree.of_bodySF (plainFor_of_name pn0) hisR ?_
  intro p e s m args below meth c s₁ Bd hml0 hP hK
  obtain ⟨rfl, hZ, hh⟩ := hP
  have hx := Bd.exec
  have hby := Bd.bytes
  have hml : c.maxLocals = 2 := hml0
  have hown : s.vm.findClass "com/example/lehre/lehre/TextPositionAdvancePinLaw" = some m.cls := findClass_of_methodNamed Bd.named
  have X0 : Stand p l e ({ frames := 0, cells := 0, slots := 0, locals := 0 } : Room) s m #[(.int x0), (.int x1)] below meth c s₁ [] 0 0 := Stand.of_body Bd
  have e0 : s₁.heap = h0 := by rw [← hh, Bd.state]; rfl
  refine own_Goes.pre (S' := s₁.setTop (mkF m 0 #[.val (.int x0), .val (.int x1)] [])) (P := (own_val (.int (f9_0 x0 x1)) h0)) (n0 := n0) (kc := 0) (ks := 0) (fun t k => castTop (ef9 m x0 x1) k) ?_
  exact b9_0 x0 x1 X0 hx hZ hw hby hml hown Bd.returns Bd.notSynchronized e0 Z0 (Fr.nil n0) ⟨rfl, rfl⟩
theorem d3_0 : decode method_5_code 0 = .ok (.iload_n 2, 1) := by decide +kernel
theorem d3_1 : decode method_5_code 1 = .ok (.iload_n 3, 1) := by decide +kernel
theorem d3_2 : decode method_5_code 2 = .ok (.invokestatic 7, 3) := by decide +kernel
theorem d3_5 : decode method_5_code 5 = .ok (.ifCond .ne 5, 3) := by decide +kernel
theorem d3_8 : decode method_5_code 8 = .ok (.iconst 0, 1) := by decide +kernel
theorem d3_9 : decode method_5_code 9 = .ok (.ireturn, 1) := by decide +kernel
theorem d3_10 : decode method_5_code 10 = .ok (.iload_n 1, 1) := by decide +kernel
theorem d3_11 : decode method_5_code 11 = .ok (.ifCond .eq 19, 3) := by decide +kernel
theorem d3_14 : decode method_5_code 14 = .ok (.iload_n 0, 1) := by decide +kernel
theorem d3_15 : decode method_5_code 15 = .ok (.bipush 13, 2) := by decide +kernel
theorem d3_17 : decode method_5_code 17 = .ok (.if_icmp .ne 13, 3) := by decide +kernel
theorem d3_20 : decode method_5_code 20 = .ok (.iload_n 2, 1) := by decide +kernel
theorem d3_21 : decode method_5_code 21 = .ok (.iload_n 3, 1) := by decide +kernel
theorem d3_22 : decode method_5_code 22 = .ok (.invokestatic 13, 3) := by decide +kernel
theorem d3_25 : decode method_5_code 25 = .ok (.ifCond .eq 5, 3) := by decide +kernel
theorem d3_28 : decode method_5_code 28 = .ok (.iconst 0, 1) := by decide +kernel
theorem d3_29 : decode method_5_code 29 = .ok (.ireturn, 1) := by decide +kernel
theorem d3_30 : decode method_5_code 30 = .ok (.iconst 1, 1) := by decide +kernel
theorem d3_31 : decode method_5_code 31 = .ok (.ireturn, 1) := by decide +kernel
theorem pd0 : parseMethodDescriptor "(CZ)Z" = some ⟨[.char, .boolean], some .boolean⟩ := by decide +kernel
def f3_30 (x0 : Int32) (x1 : Int32) (x2 : Int32) (x3 : Int32) : Int32 := (1 : Int32)
set_option maxRecDepth 65536 in
set_option maxHeartbeats 40000000 in
theorem b3_30 {p : Program} {l : Launch} {e : Env} {s : State} {m : MethodId} {args : Array Value} {below : List Frame} {meth : Method} {c : Code} {T0 : State} {locs : List Loc} {Z : State} {a0 : Array Value} {h0 : Heap} {n0 : Nat} {P : Option Value → Heap → Prop} (x0 : Int32) (x1 : Int32) (x2 : Int32) (x3 : Int32) (X0 : Stand p l e ({ frames := 1, cells := 0, slots := 0, locals := 13 } : Room) s m args below meth c T0 locs 0 0) (hx : p.tables.exec = Jvm.exec) (hZ : Z.Warmed39 s.vm) (hw : ∀ d ∈ tables_1, d.before a0 Z = true) (hby : c.code = method_5_code) (hml : c.maxLocals = 4) (hown : s.vm.findClass "com/example/lehre/lehre/TextPositionAdvancePinLaw" = some m.cls) (hret : meth.sig.returnType = some .int) (hlk : meth.locks = false) (e0 : T0.heap = h0) (Z0 : n0 ≤ h0.size) (N0 : Fr n0 locs) (hP : P (some (.int (f3_30 x0 x1 x2 x3))) h0) :
    own_Goes p e below s n0 0 0 P (T0.setTop (mkF m 30 #[.val (.int x0), .val (.int x1), .val (.int x2), .val (.int x3)] [])) := by
  rw [f3_30] at hP
  refine own_Goes.pre (fun t kt => ?_) (own_retI X0 hx hlk hret (hb hby d3_31) N0 (by rw [e0]; exact hP) (by decide) (by decide) (Ls := #[.val (.int x0), .val (.int x1), .val (.int x2), .val (.int x3)]) (rest := []) (z := (1 : Int32)))
  show Steps p.tables e below (T0.setTop (mkF m 30 #[.val (.int x0), .val (.int x1), .val (.int x2), .val (.int x3)] [])) _
  refine XS.iconst X0.here hx rfl (hb hby d3_30) ?_
  exact kt
def f3_28 (x0 : Int32) (x1 : Int32) (x2 : Int32) (x3 : Int32) : Int32 := (0 : Int32)
set_option maxRecDepth 65536 in
set_option maxHeartbeats 40000000 in
theorem b3_28 {p : Program} {l : Launch} {e : Env} {s : State} {m : MethodId} {args : Array Value} {below : List Frame} {meth : Method} {c : Code} {T0 : State} {locs : List Loc} {Z : State} {a0 : Array Value} {h0 : Heap} {n0 : Nat} {P : Option Value → Heap → Prop} (x0 : Int32) (x1 : Int32) (x2 : Int32) (x3 : Int32) (X0 : Stand p l e ({ frames := 1, cells := 0, slots := 0, locals := 13 } : Room) s m args below meth c T0 locs 0 0) (hx : p.tables.exec = Jvm.exec) (hZ : Z.Warmed39 s.vm) (hw : ∀ d ∈ tables_1, d.before a0 Z = true) (hby : c.code = method_5_code) (hml : c.maxLocals = 4) (hown : s.vm.findClass "com/example/lehre/lehre/TextPositionAdvancePinLaw" = some m.cls) (hret : meth.sig.returnType = some .int) (hlk : meth.locks = false) (e0 : T0.heap = h0) (Z0 : n0 ≤ h0.size) (N0 : Fr n0 locs) (hP : P (some (.int (f3_28 x0 x1 x2 x3))) h0) :
    own_Goes p e below s n0 0 0 P (T0.setTop (mkF m 28 #[.val (.int x0), .val (.int x1), .val (.int x2), .val (.int x3)] [])) := by
  rw [f3_28] at hP
  refine own_Goes.pre (fun t kt => ?_) (own_retI X0 hx hlk hret (hb hby d3_29) N0 (by rw [e0]; exact hP) (by decide) (by decide) (Ls := #[.val (.int x0), .val (.int x1), .val (.int x2), .val (.int x3)]) (rest := []) (z := (0 : Int32)))
  show Steps p.tables e below (T0.setTop (mkF m 28 #[.val (.int x0), .val (.int x1), .val (.int x2), .val (.int x3)] [])) _
  refine XS.iconst X0.here hx rfl (hb hby d3_28) ?_
  exact kt
def f3_20 (x0 : Int32) (x1 : Int32) (x2 : Int32) (x3 : Int32) : Int32 := if (f9_0 x2 x3) = (0 : Int32) then (f3_30 x0 x1 x2 x3) else (f3_28 x0 x1 x2 x3)
set_option maxRecDepth 65536 in
set_option maxHeartbeats 40000000 in
theorem b3_20 {p : Program} {l : Launch} {e : Env} {s : State} {m : MethodId} {args : Array Value} {below : List Frame} {meth : Method} {c : Code} {T0 : State} {locs : List Loc} {Z : State} {a0 : Array Value} {h0 : Heap} {n0 : Nat} {P : Option Value → Heap → Prop} (x0 : Int32) (x1 : Int32) (x2 : Int32) (x3 : Int32) (X0 : Stand p l e ({ frames := 1, cells := 0, slots := 0, locals := 13 } : Room) s m args below meth c T0 locs 0 0) (hx : p.tables.exec = Jvm.exec) (hZ : Z.Warmed39 s.vm) (hw : ∀ d ∈ tables_1, d.before a0 Z = true) (hby : c.code = method_5_code) (hml : c.maxLocals = 4) (hown : s.vm.findClass "com/example/lehre/lehre/TextPositionAdvancePinLaw" = some m.cls) (hret : meth.sig.returnType = some .int) (hlk : meth.locks = false) (e0 : T0.heap = h0) (Z0 : n0 ≤ h0.size) (N0 : Fr n0 locs) (hP : P (some (.int (f3_20 x0 x1 x2 x3))) h0) :
    own_Goes p e below s n0 0 0 P (T0.setTop (mkF m 20 #[.val (.int x0), .val (.int x1), .val (.int x2), .val (.int x3)] [])) := by
  obtain ⟨_, _, ⟨T22, L22, k22, n22⟩, -, X22, ⟨Lc22, hQ22, l22, y22, z22⟩, st22⟩ := Jvm.LawKit.callS X0 hx (y := (⟨"com/example/lehre/lehre/TextPositionAdvancePinLaw", "isFollower", "(CZ)Z"⟩ : MethodName)) hown (mvT hZ (hw _ (List.mem_of_getElem? (i := 42) rfl))) (mvT hZ (hw _ (List.mem_of_getElem? (i := 43) rfl))) (mvT hZ (hw _ (List.mem_of_getElem? (i := 2) rfl))) (mvT hZ (hw _ (List.mem_of_getElem? (i := 44) rfl))) (by decide) (backOf (W := 0) (rm9 l Z a0 hw [] x2 x3 h0 n0 Z0) hZ (hw _ (List.mem_of_getElem? (i := 44) rfl)) (hw _ (List.mem_of_getElem? (i := 2) rfl)) (by decide) (by decide)) (g := (mkF m 22 #[.val (.int x0), .val (.int x1), .val (.int x2), .val (.int x3)] [(.int x3), (.int x2)])) rfl (by rw [hml]; rfl) (argsL := [(.int x2), (.int x3)]) (rest := []) (lenOf pd0 rfl) rfl (by show 2 * 0 + _ ≤ _; exact Nat.le_of_eq rfl) (hb hby d3_22) (fun _ _ => ⟨rfl, e0, (by decide : 0 + 0 ≤ _), (by decide : 0 + 0 ≤ _)⟩)
  dsimp only [Pt.U, Pt.locs, Pt.cells, Pt.slots] at X22 l22 y22 z22 st22 hQ22
  subst l22 y22 z22
  obtain ⟨⟨rfl, e22⟩, N22q⟩ := hQ22
  have N22 := Fr.app N0 N22q
  have pre1 : ∀ t, Steps p.tables e below (T22.setTop (mkF m 25 #[.val (.int x0), .val (.int x1), .val (.int x2), .val (.int x3)] [(.int (f9_0 x2 x3))])) t → Steps p.tables e below (T0.setTop (mkF m 20 #[.val (.int x0), .val (.int x1), .val (.int x2), .val (.int x3)] [])) t := fun t kt => by
    show Steps p.tables e below (T0.setTop (mkF m 20 #[.val (.int x0), .val (.int x1), .val (.int x2), .val (.int x3)] [])) _
    refine XS.iloadN X0.here hx rfl (hb hby d3_20) rfl ?_
    show Steps p.tables e below (T0.setTop (mkF m 21 #[.val (.int x0), .val (.int x1), .val (.int x2), .val (.int x3)] [(.int x2)])) _
    refine XS.iloadN X0.here hx rfl (hb hby d3_21) rfl ?_
    show Steps p.tables e below (T0.setTop (mkF m 22 #[.val (.int x0), .val (.int x1), .val (.int x2), .val (.int x3)] [(.int x3), (.int x2)])) _
    refine st22 _ ?_
    exact kt
  refine own_Goes.pre pre1 ?_
  by_cases hc : (f9_0 x2 x3) = (0 : Int32)
  · rw [f3_20, if_pos hc] at hP
    refine own_Goes.pre (fun t kt => ?_) (b3_30 x0 x1 x2 x3 X22 hx hZ hw hby hml hown hret hlk e22 Z0 N22 hP)
    show Steps p.tables e below (T22.setTop (mkF m 25 #[.val (.int x0), .val (.int x1), .val (.int x2), .val (.int x3)] [(.int (f9_0 x2 x3))])) _
    refine XS.ifYes X22.here hx rfl (pc0 := 25) (pc' := 30) rfl (hb hby d3_25) rfl ((if0 _ _).trans (teq hc).1) (by decide) (by decide) ?_
    exact kt
  · rw [f3_20, if_neg hc] at hP
    refine own_Goes.pre (fun t kt => ?_) (b3_28 x0 x1 x2 x3 X22 hx hZ hw hby hml hown hret hlk e22 Z0 N22 hP)
    show Steps p.tables e below (T22.setTop (mkF m 25 #[.val (.int x0), .val (.int x1), .val (.int x2), .val (.int x3)] [(.int (f9_0 x2 x3))])) _
    refine XS.ifNo X22.here hx rfl (hb hby d3_25) rfl ((if0 _ _).trans (feq hc).1) ?_
    exact kt
def f3_14 (x0 : Int32) (x1 : Int32) (x2 : Int32) (x3 : Int32) : Int32 := if x0 = (13 : Int32) then (f3_20 x0 x1 x2 x3) else (f3_30 x0 x1 x2 x3)
set_option maxRecDepth 65536 in
set_option maxHeartbeats 40000000 in
theorem b3_14 {p : Program} {l : Launch} {e : Env} {s : State} {m : MethodId} {args : Array Value} {below : List Frame} {meth : Method} {c : Code} {T0 : State} {locs : List Loc} {Z : State} {a0 : Array Value} {h0 : Heap} {n0 : Nat} {P : Option Value → Heap → Prop} (x0 : Int32) (x1 : Int32) (x2 : Int32) (x3 : Int32) (X0 : Stand p l e ({ frames := 1, cells := 0, slots := 0, locals := 13 } : Room) s m args below meth c T0 locs 0 0) (hx : p.tables.exec = Jvm.exec) (hZ : Z.Warmed39 s.vm) (hw : ∀ d ∈ tables_1, d.before a0 Z = true) (hby : c.code = method_5_code) (hml : c.maxLocals = 4) (hown : s.vm.findClass "com/example/lehre/lehre/TextPositionAdvancePinLaw" = some m.cls) (hret : meth.sig.returnType = some .int) (hlk : meth.locks = false) (e0 : T0.heap = h0) (Z0 : n0 ≤ h0.size) (N0 : Fr n0 locs) (hP : P (some (.int (f3_14 x0 x1 x2 x3))) h0) :
    own_Goes p e below s n0 0 0 P (T0.setTop (mkF m 14 #[.val (.int x0), .val (.int x1), .val (.int x2), .val (.int x3)] [])) := by
  have pre1 : ∀ t, Steps p.tables e below (T0.setTop (mkF m 17 #[.val (.int x0), .val (.int x1), .val (.int x2), .val (.int x3)] [(.int (13 : Int32)), (.int x0)])) t → Steps p.tables e below (T0.setTop (mkF m 14 #[.val (.int x0), .val (.int x1), .val (.int x2), .val (.int x3)] [])) t := fun t kt => by
    show Steps p.tables e below (T0.setTop (mkF m 14 #[.val (.int x0), .val (.int x1), .val (.int x2), .val (.int x3)] [])) _
    refine XS.iloadN X0.here hx rfl (hb hby d3_14) rfl ?_
    show Steps p.tables e below (T0.setTop (mkF m 15 #[.val (.int x0), .val (.int x1), .val (.int x2), .val (.int x3)] [(.int x0)])) _
    refine XS.bipush X0.here hx rfl (hb hby d3_15) ?_
    exact kt
  refine own_Goes.pre pre1 ?_
  by_cases hc : x0 = (13 : Int32)
  · rw [f3_14, if_pos hc] at hP
    refine own_Goes.pre (fun t kt => ?_) (b3_20 x0 x1 x2 x3 X0 hx hZ hw hby hml hown hret hlk e0 Z0 N0 hP)
    show Steps p.tables e below (T0.setTop (mkF m 17 #[.val (.int x0), .val (.int x1), .val (.int x2), .val (.int x3)] [(.int (13 : Int32)), (.int x0)])) _
    refine XS.icmpNo X0.here hx rfl (hb hby d3_17) rfl (teq hc).2 ?_
    exact kt
  · rw [f3_14, if_neg hc] at hP
    refine own_Goes.pre (fun t kt => ?_) (b3_30 x0 x1 x2 x3 X0 hx hZ hw hby hml hown hret hlk e0 Z0 N0 hP)
    show Steps p.tables e below (T0.setTop (mkF m 17 #[.val (.int x0), .val (.int x1), .val (.int x2), .val (.int x3)] [(.int (13 : Int32)), (.int x0)])) _
    refine XS.icmpYes X0.here hx rfl (pc0 := 17) (pc' := 30) rfl (hb hby d3_17) rfl (feq hc).2 (by decide) (by decide) ?_
    exact kt
def f3_10 (x0 : Int32) (x1 : Int32) (x2 : Int32) (x3 : Int32) : Int32 := if x1 = (0 : Int32) then (f3_30 x0 x1 x2 x3) else (f3_14 x0 x1 x2 x3)
set_option maxRecDepth 65536 in
set_option maxHeartbeats 40000000 in
theorem b3_10 {p : Program} {l : Launch} {e : Env} {s : State} {m : MethodId} {args : Array Value} {below : List Frame} {meth : Method} {c : Code} {T0 : State} {locs : List Loc} {Z : State} {a0 : Array Value} {h0 : Heap} {n0 : Nat} {P : Option Value → Heap → Prop} (x0 : Int32) (x1 : Int32) (x2 : Int32) (x3 : Int32) (X0 : Stand p l e ({ frames := 1, cells := 0, slots := 0, locals := 13 } : Room) s m args below meth c T0 locs 0 0) (hx : p.tables.exec = Jvm.exec) (hZ : Z.Warmed39 s.vm) (hw : ∀ d ∈ tables_1, d.before a0 Z = true) (hby : c.code = method_5_code) (hml : c.maxLocals = 4) (hown : s.vm.findClass "com/example/lehre/lehre/TextPositionAdvancePinLaw" = some m.cls) (hret : meth.sig.returnType = some .int) (hlk : meth.locks = false) (e0 : T0.heap = h0) (Z0 : n0 ≤ h0.size) (N0 : Fr n0 locs) (hP : P (some (.int (f3_10 x0 x1 x2 x3))) h0) :
    own_Goes p e below s n0 0 0 P (T0.setTop (mkF m 10 #[.val (.int x0), .val (.int x1), .val (.int x2), .val (.int x3)] [])) := by
  have pre1 : ∀ t, Steps p.tables e below (T0.setTop (mkF m 11 #[.val (.int x0), .val (.int x1), .val (.int x2), .val (.int x3)] [(.int x1)])) t → Steps p.tables e below (T0.setTop (mkF m 10 #[.val (.int x0), .val (.int x1), .val (.int x2), .val (.int x3)] [])) t := fun t kt => by
    show Steps p.tables e below (T0.setTop (mkF m 10 #[.val (.int x0), .val (.int x1), .val (.int x2), .val (.int x3)] [])) _
    refine XS.iloadN X0.here hx rfl (hb hby d3_10) rfl ?_
    exact kt
  refine own_Goes.pre pre1 ?_
  by_cases hc : x1 = (0 : Int32)
  · rw [f3_10, if_pos hc] at hP
    refine own_Goes.pre (fun t kt => ?_) (b3_30 x0 x1 x2 x3 X0 hx hZ hw hby hml hown hret hlk e0 Z0 N0 hP)
    show Steps p.tables e below (T0.setTop (mkF m 11 #[.val (.int x0), .val (.int x1), .val (.int x2), .val (.int x3)] [(.int x1)])) _
    refine XS.ifYes X0.here hx rfl (pc0 := 11) (pc' := 30) rfl (hb hby d3_11) rfl ((if0 _ _).trans (teq hc).1) (by decide) (by decide) ?_
    exact kt
  · rw [f3_10, if_neg hc] at hP
    refine own_Goes.pre (fun t kt => ?_) (b3_14 x0 x1 x2 x3 X0 hx hZ hw hby hml hown hret hlk e0 Z0 N0 hP)
    show Steps p.tables e below (T0.setTop (mkF m 11 #[.val (.int x0), .val (.int x1), .val (.int x2), .val (.int x3)] [(.int x1)])) _
    refine XS.ifNo X0.here hx rfl (hb hby d3_11) rfl ((if0 _ _).trans (feq hc).1) ?_
    exact kt
def f3_8 (x0 : Int32) (x1 : Int32) (x2 : Int32) (x3 : Int32) : Int32 := (0 : Int32)
set_option maxRecDepth 65536 in
set_option maxHeartbeats 40000000 in
theorem b3_8 {p : Program} {l : Launch} {e : Env} {s : State} {m : MethodId} {args : Array Value} {below : List Frame} {meth : Method} {c : Code} {T0 : State} {locs : List Loc} {Z : State} {a0 : Array Value} {h0 : Heap} {n0 : Nat} {P : Option Value → Heap → Prop} (x0 : Int32) (x1 : Int32) (x2 : Int32) (x3 : Int32) (X0 : Stand p l e ({ frames := 1, cells := 0, slots := 0, locals := 13 } : Room) s m args below meth c T0 locs 0 0) (hx : p.tables.exec = Jvm.exec) (hZ : Z.Warmed39 s.vm) (hw : ∀ d ∈ tables_1, d.before a0 Z = true) (hby : c.code = method_5_code) (hml : c.maxLocals = 4) (hown : s.vm.findClass "com/example/lehre/lehre/TextPositionAdvancePinLaw" = some m.cls) (hret : meth.sig.returnType = some .int) (hlk : meth.locks = false) (e0 : T0.heap = h0) (Z0 : n0 ≤ h0.size) (N0 : Fr n0 locs) (hP : P (some (.int (f3_8 x0 x1 x2 x3))) h0) :
    own_Goes p e below s n0 0 0 P (T0.setTop (mkF m 8 #[.val (.int x0), .val (.int x1), .val (.int x2), .val (.int x3)] [])) := by
  rw [f3_8] at hP
  refine own_Goes.pre (fun t kt => ?_) (own_retI X0 hx hlk hret (hb hby d3_9) N0 (by rw [e0]; exact hP) (by decide) (by decide) (Ls := #[.val (.int x0), .val (.int x1), .val (.int x2), .val (.int x3)]) (rest := []) (z := (0 : Int32)))
  show Steps p.tables e below (T0.setTop (mkF m 8 #[.val (.int x0), .val (.int x1), .val (.int x2), .val (.int x3)] [])) _
  refine XS.iconst X0.here hx rfl (hb hby d3_8) ?_
  exact kt
def f3_0 (x0 : Int32) (x1 : Int32) (x2 : Int32) (x3 : Int32) : Int32 := if (f2_0 x2 x3) = (0 : Int32) then (f3_8 x0 x1 x2 x3) else (f3_10 x0 x1 x2 x3)
set_option maxRecDepth 65536 in
set_option maxHeartbeats 40000000 in
theorem b3_0 {p : Program} {l : Launch} {e : Env} {s : State} {m : MethodId} {args : Array Value} {below : List Frame} {meth : Method} {c : Code} {T0 : State} {locs : List Loc} {Z : State} {a0 : Array Value} {h0 : Heap} {n0 : Nat} {P : Option Value → Heap → Prop} (x0 : Int32) (x1 : Int32) (x2 : Int32) (x3 : Int32) (X0 : Stand p l e ({ frames := 1, cells := 0, slots := 0, locals := 13 } : Room) s m args below meth c T0 locs 0 0) (hx : p.tables.exec = Jvm.exec) (hZ : Z.Warmed39 s.vm) (hw : ∀ d ∈ tables_1, d.before a0 Z = true) (hby : c.code = method_5_code) (hml : c.maxLocals = 4) (hown : s.vm.findClass "com/example/lehre/lehre/TextPositionAdvancePinLaw" = some m.cls) (hret : meth.sig.returnType = some .int) (hlk : meth.locks = false) (e0 : T0.heap = h0) (Z0 : n0 ≤ h0.size) (N0 : Fr n0 locs) (hP : P (some (.int (f3_0 x0 x1 x2 x3))) h0) :
    own_Goes p e below s n0 0 0 P (T0.setTop (mkF m 0 #[.val (.int x0), .val (.int x1), .val (.int x2), .val (.int x3)] [])) := by
  obtain ⟨_, _, ⟨T2, L2, k2, n2⟩, -, X2, ⟨Lc2, hQ2, l2, y2, z2⟩, st2⟩ := Jvm.LawKit.callS X0 hx (y := (⟨"com/example/lehre/lehre/TextPositionAdvancePinLaw", "isEnd", "(CZ)Z"⟩ : MethodName)) hown (mvT hZ (hw _ (List.mem_of_getElem? (i := 4) rfl))) (mvT hZ (hw _ (List.mem_of_getElem? (i := 5) rfl))) (mvT hZ (hw _ (List.mem_of_getElem? (i := 2) rfl))) (mvT hZ (hw _ (List.mem_of_getElem? (i := 6) rfl))) (by decide) (backOf (W := 0) (rm2 l Z a0 hw [] x2 x3 h0 n0 Z0) hZ (hw _ (List.mem_of_getElem? (i := 6) rfl)) (hw _ (List.mem_of_getElem? (i := 2) rfl)) (by decide) (by decide)) (g := (mkF m 2 #[.val (.int x0), .val (.int x1), .val (.int x2), .val (.int x3)] [(.int x3), (.int x2)])) rfl (by rw [hml]; rfl) (argsL := [(.int x2), (.int x3)]) (rest := []) (lenOf pd0 rfl) rfl (by show 2 * 0 + _ ≤ _; exact Nat.le_of_eq rfl) (hb hby d3_2) (fun _ _ => ⟨rfl, e0, (by decide : 0 + 0 ≤ _), (by decide : 0 + 0 ≤ _)⟩)
  dsimp only [Pt.U, Pt.locs, Pt.cells, Pt.slots] at X2 l2 y2 z2 st2 hQ2
  subst l2 y2 z2
  obtain ⟨⟨rfl, e2⟩, N2q⟩ := hQ2
  have N2 := Fr.app N0 N2q
  have pre1 : ∀ t, Steps p.tables e below (T2.setTop (mkF m 5 #[.val (.int x0), .val (.int x1), .val (.int x2), .val (.int x3)] [(.int (f2_0 x2 x3))])) t → Steps p.tables e below (T0.setTop (mkF m 0 #[.val (.int x0), .val (.int x1), .val (.int x2), .val (.int x3)] [])) t := fun t kt => by
    show Steps p.tables e below (T0.setTop (mkF m 0 #[.val (.int x0), .val (.int x1), .val (.int x2), .val (.int x3)] [])) _
    refine XS.iloadN X0.here hx rfl (hb hby d3_0) rfl ?_
    show Steps p.tables e below (T0.setTop (mkF m 1 #[.val (.int x0), .val (.int x1), .val (.int x2), .val (.int x3)] [(.int x2)])) _
    refine XS.iloadN X0.here hx rfl (hb hby d3_1) rfl ?_
    show Steps p.tables e below (T0.setTop (mkF m 2 #[.val (.int x0), .val (.int x1), .val (.int x2), .val (.int x3)] [(.int x3), (.int x2)])) _
    refine st2 _ ?_
    exact kt
  refine own_Goes.pre pre1 ?_
  by_cases hc : (f2_0 x2 x3) = (0 : Int32)
  · rw [f3_0, if_pos hc] at hP
    refine own_Goes.pre (fun t kt => ?_) (b3_8 x0 x1 x2 x3 X2 hx hZ hw hby hml hown hret hlk e2 Z0 N2 hP)
    show Steps p.tables e below (T2.setTop (mkF m 5 #[.val (.int x0), .val (.int x1), .val (.int x2), .val (.int x3)] [(.int (f2_0 x2 x3))])) _
    refine XS.ifNo X2.here hx rfl (hb hby d3_5) rfl ((if0 _ _).trans (teq hc).2) ?_
    exact kt
  · rw [f3_0, if_neg hc] at hP
    refine own_Goes.pre (fun t kt => ?_) (b3_10 x0 x1 x2 x3 X2 hx hZ hw hby hml hown hret hlk e2 Z0 N2 hP)
    show Steps p.tables e below (T2.setTop (mkF m 5 #[.val (.int x0), .val (.int x1), .val (.int x2), .val (.int x3)] [(.int (f2_0 x2 x3))])) _
    refine XS.ifYes X2.here hx rfl (pc0 := 5) (pc' := 10) rfl (hb hby d3_5) rfl ((if0 _ _).trans (feq hc).2) (by decide) (by decide) ?_
    exact kt
theorem ef3 (m : MethodId) (x0 : Int32) (x1 : Int32) (x2 : Int32) (x3 : Int32) : entryFrame m #[(.int x0), (.int x1), (.int x2), (.int x3)] 4 = (mkF m 0 #[.val (.int x0), .val (.int x1), .val (.int x2), .val (.int x3)] []) := by first | (simp [entryFrame, mkF, argsToLocals, Value.category]; done) | rfl
set_option maxRecDepth 65536 in
set_option maxHeartbeats 40000000 in
theorem rm3 (l : Launch) (Z : State) (a0 : Array Value) (hw : ∀ d ∈ tables_1, d.before a0 Z = true) (ws : List Jvm.Cond) (x0 : Int32) (x1 : Int32) (x2 : Int32) (x3 : Int32) (h0 : Heap) (n0 : Nat) (Z0 : n0 ≤ h0.size) :
    MetFree l (⟨"com/example/lehre/lehre/TextPositionAdvancePinLaw", "breaks", "(CZCZ)I"⟩ : MethodName) (head1 (Jvm.Cond.code (⟨"com/example/lehre/lehre/TextPositionAdvancePinLaw", "breaks", "(CZCZ)I"⟩ : MethodName) method_5_code 4 (some .int) :: ws) ({ frames := 1, cells := 0, slots := 0, locals := 13 } : Room)) (fun a U => a = #[(.int x0), (.int x1), (.int x2), (.int x3)] ∧ Z.Warmed39 U.vm ∧ U.heap = h0) (fun _ _ _ _ _ => True) (fun _ U o U' => ∃ v L, o = .returned v ∧ own_Q (own_val (.int (f3_0 x0 x1 x2 x3)) h0) n0 v U'.heap L ∧ FrameEnd U o U' L ({ frames := 1, cells := 0, slots := 0, locals := 13 } : Room).cells ({ frames := 1, cells := 0, slots := 0, locals := 13 } : Room).slots) := by
  refine MetFree.of_bodySF (plainFor_of_name pn0) hisR ?_
  intro p e s m args below meth c s₁ Bd hml0 hP hK
  obtain ⟨rfl, hZ, hh⟩ := hP
  have hx := Bd.exec
  have hby := Bd.bytes
  have hml : c.maxLocals = 4 := hml0
  have hown : s.vm.findClass "com/example/lehre/lehre/TextPositionAdvancePinLaw" = some m.cls := findClass_of_methodNamed Bd.named
  have X0 : Stand p l e ({ frames := 1, cells := 0, slots := 0, locals := 13 } : Room) s m #[(.int x0), (.int x1), (.int x2), (.int x3)] below meth c s₁ [] 0 0 := Stand.of_body Bd
  have e0 : s₁.heap = h0 := by rw [← hh, Bd.state]; rfl
  refine own_Goes.pre (S' := s₁.setTop (mkF m 0 #[.val (.int x0), .val (.int x1), .val (.int x2), .val (.int x3)] [])) (P := (own_val (.int (f3_0 x0 x1 x2 x3)) h0)) (n0 := n0) (kc := 0) (ks := 0) (fun t k => castTop (ef3 m x0 x1 x2 x3) k) ?_
  exact b3_0 x0 x1 x2 x3 X0 hx hZ hw hby hml hown Bd.returns Bd.notSynchronized e0 Z0 (Fr.nil n0) ⟨rfl, rfl⟩
/-- a TextPosition: line, column, xml11, previous -/
def own_TP (Z : State) (h : Heap) (o : Addr) (a b x q : Int32) : Prop := Exa Z h o "com/example/lehre/lehre/TextPosition" ∧ Fld Z h o "com/example/lehre/lehre/TextPosition" "line" "I" (.int a) ∧ Fld Z h o "com/example/lehre/lehre/TextPosition" "column" "I" (.int b) ∧ Fld Z h o "com/example/lehre/lehre/TextPosition" "xml11" "Z" (.int x) ∧ Fld Z h o "com/example/lehre/lehre/TextPosition" "previous" "C" (.int q)
def own_obj (Z : State) (o : Addr) (a b x q : Int32) (v : Option Value) (h : Heap) : Prop := v = none ∧ own_TP Z h o a b x q
section OwnTP
variable {p : Program} {l : Launch} {e : Env} {R : Room} {s : State} {m : MethodId} {args : Array Value} {below : List Frame} {meth : Method} {c : Code} {T : State} {locs : List Loc} {cells slots : Nat} {n0 : Nat} {Z : State} {a0 : Array Value} {h h' : Heap} {o : Addr} {a b x q v : Int32}
theorem own_laL (hw : ∀ d ∈ tables_1, d.before a0 Z = true) : Laid Z a0 "com/example/lehre/lehre/TextPosition" "com/example/lehre/lehre/TextPosition" "line" "I" := Or.inl (hw _ (List.mem_of_getElem? (i := 20) rfl))
theorem own_laC (hw : ∀ d ∈ tables_1, d.before a0 Z = true) : Laid Z a0 "com/example/lehre/lehre/TextPosition" "com/example/lehre/lehre/TextPosition" "column" "I" := Or.inl (hw _ (List.mem_of_getElem? (i := 22) rfl))
theorem own_laX (hw : ∀ d ∈ tables_1, d.before a0 Z = true) : Laid Z a0 "com/example/lehre/lehre/TextPosition" "com/example/lehre/lehre/TextPosition" "xml11" "Z" := Or.inr (hw _ (List.mem_of_getElem? (i := 24) rfl))
theorem own_laP (hw : ∀ d ∈ tables_1, d.before a0 Z = true) : Laid Z a0 "com/example/lehre/lehre/TextPosition" "com/example/lehre/lehre/TextPosition" "previous" "C" := Or.inl (hw _ (List.mem_of_getElem? (i := 41) rfl))
theorem own_wL (hw : ∀ d ∈ tables_1, d.before a0 Z = true) (W : Wr h h' o (Jvm.RoadKit.slotOf Z "com/example/lehre/lehre/TextPosition" "line" "I") (.int v)) (K : own_TP Z h o a b x q) : own_TP Z h' o v b x q := ⟨K.1.wr W, K.2.1.same W, K.2.2.1.other W (Or.inr (slot_ne (own_laC hw) (own_laL hw) (by decide) (t := .int) (t' := .int) (by decide) (by decide))), K.2.2.2.1.other W (Or.inr (slot_ne (own_laX hw) (own_laL hw) (by decide) (t := .boolean) (t' := .int) (by decide) (by decide))), K.2.2.2.2.other W (Or.inr (slot_ne (own_laP hw) (own_laL hw) (by decide) (t := .char) (t' := .int) (by decide) (by decide)))⟩
theorem own_wC (hw : ∀ d ∈ tables_1, d.before a0 Z = true) (W : Wr h h' o (Jvm.RoadKit.slotOf Z "com/example/lehre/lehre/TextPosition" "column" "I") (.int v)) (K : own_TP Z h o a b x q) : own_TP Z h' o a v x q := ⟨K.1.wr W, K.2.1.other W (Or.inr (slot_ne (own_laL hw) (own_laC hw) (by decide) (t := .int) (t' := .int) (by decide) (by decide))), K.2.2.1.same W, K.2.2.2.1.other W (Or.inr (slot_ne (own_laX hw) (own_laC hw) (by decide) (t := .boolean) (t' := .int) (by decide) (by decide))), K.2.2.2.2.other W (Or.inr (slot_ne (own_laP hw) (own_laC hw) (by decide) (t := .char) (t' := .int) (by decide) (by decide)))⟩
theorem own_wX (hw : ∀ d ∈ tables_1, d.before a0 Z = true) (W : Wr h h' o (Jvm.RoadKit.slotOf Z "com/example/lehre/lehre/TextPosition" "xml11" "Z") (.int v)) (K : own_TP Z h o a b x q) : own_TP Z h' o a b v q := ⟨K.1.wr W, K.2.1.other W (Or.inr (slot_ne (own_laL hw) (own_laX hw) (by decide) (t := .int) (t' := .boolean) (by decide) (by decide))), K.2.2.1.other W (Or.inr (slot_ne (own_laC hw) (own_laX hw) (by decide) (t := .int) (t' := .boolean) (by decide) (by decide))), K.2.2.2.1.same W, K.2.2.2.2.other W (Or.inr (slot_ne (own_laP hw) (own_laX hw) (by decide) (t := .char) (t' := .boolean) (by decide) (by decide)))⟩
theorem own_wP (hw : ∀ d ∈ tables_1, d.before a0 Z = true) (W : Wr h h' o (Jvm.RoadKit.slotOf Z "com/example/lehre/lehre/TextPosition" "previous" "C") (.int v)) (K : own_TP Z h o a b x q) : own_TP Z h' o a b x v := ⟨K.1.wr W, K.2.1.other W (Or.inr (slot_ne (own_laL hw) (own_laP hw) (by decide) (t := .int) (t' := .char) (by decide) (by decide))), K.2.2.1.other W (Or.inr (slot_ne (own_laC hw) (own_laP hw) (by decide) (t := .int) (t' := .char) (by decide) (by decide))), K.2.2.2.1.other W (Or.inr (slot_ne (own_laX hw) (own_laP hw) (by decide) (t := .boolean) (t' := .char) (by decide) (by decide))), K.2.2.2.2.same W⟩
theorem own_gL (X : Stand p l e R s m args below meth c T locs cells slots) (hx : p.tables.exec = Jvm.exec) (hZ : Z.Warmed39 s.vm) (hw : ∀ d ∈ tables_1, d.before a0 Z = true) (hown : s.vm.findClass "com/example/lehre/lehre/TextPosition" = some m.cls) (eT : T.heap = h) (K : own_TP Z h o a b x q) {pc : Nat} {Ls : Array Slot} {rest : List Value} (hd : decode c.code pc = .ok (.getfield 7, 3)) :
    ∃ T', Stand p l e R s m args below meth c T' locs cells slots ∧ T'.heap = h ∧ ∀ t, Steps p.tables e below (T'.setTop (mkF m (pc + 3) Ls (.int a :: rest))) t → Steps p.tables e below (T.setTop (mkF m pc Ls (.ref o :: rest))) t :=
  getF X hx hZ hown (host := "") (Or.inl (hw _ (List.mem_of_getElem? (i := 19) rfl))) Via.refl eT K.2.1 (g := mkF m pc Ls (.ref o :: rest)) rfl rfl hd
theorem own_sL (X : Stand p l e R s m args below meth c T locs cells slots) (hx : p.tables.exec = Jvm.exec) (hZ : Z.Warmed39 s.vm) (hw : ∀ d ∈ tables_1, d.before a0 Z = true) (hown : s.vm.findClass "com/example/lehre/lehre/TextPosition" = some m.cls) (eT : T.heap = h) (K : own_TP Z h o a b x q) (g0 : n0 ≤ o) (N : Fr n0 locs) {pc : Nat} {Ls : Array Slot} {rest : List Value} (v : Int32) (hd : decode c.code pc = .ok (.putfield 7, 3)) :
    ∃ (T' : State) (h' : Heap) (locs' : List Loc), Stand p l e R s m args below meth c T' locs' cells slots ∧ T'.heap = h' ∧ n0 ≤ h'.size ∧ Fr n0 locs' ∧ own_TP Z h' o v b x q ∧ ∀ t, Steps p.tables e below (T'.setTop (mkF m (pc + 3) Ls rest)) t → Steps p.tables e below (T.setTop (mkF m pc Ls (.int v :: .ref o :: rest))) t := by
  obtain ⟨T', h', X', e', W, st⟩ := putF X hx hZ hown (host := "") (Or.inl (hw _ (List.mem_of_getElem? (i := 19) rfl))) Via.refl eT K.2.1 K.1 (Or.inl (hw _ (List.mem_of_getElem? (i := 20) rfl))) (hw _ (List.mem_of_getElem? (i := 11) rfl)) (ty := .int) (by decide) rfl rfl (g := mkF m pc Ls (.int v :: .ref o :: rest)) rfl rfl hd
  have K' := own_wL hw W K
  exact ⟨T', h', _, X', e', Nat.le_of_lt (Nat.lt_of_le_of_lt g0 K'.1.lt), Fr.snoc X' N g0, K', st⟩
theorem own_gC (X : Stand p l e R s m args below meth c T locs cells slots) (hx : p.tables.exec = Jvm.exec) (hZ : Z.Warmed39 s.vm) (hw : ∀ d ∈ tables_1, d.before a0 Z = true) (hown : s.vm.findClass "com/example/lehre/lehre/TextPosition" = some m.cls) (eT : T.heap = h) (K : own_TP Z h o a b x q) {pc : Nat} {Ls : Array Slot} {rest : List Value} (hd : decode c.code pc = .ok (.getfield 13, 3)) :
    ∃ T', Stand p l e R s m args below meth c T' locs cells slots ∧ T'.heap = h ∧ ∀ t, Steps p.tables e below (T'.setTop (mkF m (pc + 3) Ls (.int b :: rest))) t → Steps p.tables e below (T.setTop (mkF m pc Ls (.ref o :: rest))) t :=
  getF X hx hZ hown (host := "") (Or.inl (hw _ (List.mem_of_getElem? (i := 21) rfl))) Via.refl eT K.2.2.1 (g := mkF m pc Ls (.ref o :: rest)) rfl rfl hd
theorem own_sC (X : Stand p l e R s m args below meth c T locs cells slots) (hx : p.tables.exec = Jvm.exec) (hZ : Z.Warmed39 s.vm) (hw : ∀ d ∈ tables_1, d.before a0 Z = true) (hown : s.vm.findClass "com/example/lehre/lehre/TextPosition" = some m.cls) (eT : T.heap = h) (K : own_TP Z h o a b x q) (g0 : n0 ≤ o) (N : Fr n0 locs) {pc : Nat} {Ls : Array Slot} {rest : List Value} (v : Int32) (hd : decode c.code pc = .ok (.putfield 13, 3)) :
    ∃ (T' : State) (h' : Heap) (locs' : List Loc), Stand p l e R s m args below meth c T' locs' cells slots ∧ T'.heap = h' ∧ n0 ≤ h'.size ∧ Fr n0 locs' ∧ own_TP Z h' o a v x q ∧ ∀ t, Steps p.tables e below (T'.setTop (mkF m (pc + 3) Ls rest)) t → Steps p.tables e below (T.setTop (mkF m pc Ls (.int v :: .ref o :: rest))) t := by
  obtain ⟨T', h', X', e', W, st⟩ := putF X hx hZ hown (host := "") (Or.inl (hw _ (List.mem_of_getElem? (i := 21) rfl))) Via.refl eT K.2.2.1 K.1 (Or.inl (hw _ (List.mem_of_getElem? (i := 22) rfl))) (hw _ (List.mem_of_getElem? (i := 11) rfl)) (ty := .int) (by decide) rfl rfl (g := mkF m pc Ls (.int v :: .ref o :: rest)) rfl rfl hd
  have K' := own_wC hw W K
  exact ⟨T', h', _, X', e', Nat.le_of_lt (Nat.lt_of_le_of_lt g0 K'.1.lt), Fr.snoc X' N g0, K', st⟩
theorem own_gX (X : Stand p l e R s m args below meth c T locs cells slots) (hx : p.tables.exec = Jvm.exec) (hZ : Z.Warmed39 s.vm) (hw : ∀ d ∈ tables_1, d.before a0 Z = true) (hown : s.vm.findClass "com/example/lehre/lehre/TextPosition" = some m.cls) (eT : T.heap = h) (K : own_TP Z h o a b x q) {pc : Nat} {Ls : Array Slot} {rest : List Value} (hd : decode c.code pc = .ok (.getfield 16, 3)) :
    ∃ T', Stand p l e R s m args below meth c T' locs cells slots ∧ T'.heap = h ∧ ∀ t, Steps p.tables e below (T'.setTop (mkF m (pc + 3) Ls (.int x :: rest))) t → Steps p.tables e below (T.setTop (mkF m pc Ls (.ref o :: rest))) t :=
  getF X hx hZ hown (host := "") (Or.inl (hw _ (List.mem_of_getElem? (i := 23) rfl))) Via.refl eT K.2.2.2.1 (g := mkF m pc Ls (.ref o :: rest)) rfl rfl hd
theorem own_sX (X : Stand p l e R s m args below meth c T locs cells slots) (hx : p.tables.exec = Jvm.exec) (hZ : Z.Warmed39 s.vm) (hw : ∀ d ∈ tables_1, d.before a0 Z = true) (hown : s.vm.findClass "com/example/lehre/lehre/TextPosition" = some m.cls) (eT : T.heap = h) (K : own_TP Z h o a b x q) (g0 : n0 ≤ o) (N : Fr n0 locs) (hnm : meth.name = "<init>") {pc : Nat} {Ls : Array Slot} {rest : List Value} (v : Int32) (hd : decode c.code pc = .ok (.putfield 16, 3)) :
    ∃ (T' : State) (h' : Heap) (locs' : List Loc), Stand p l e R s m args below meth c T' locs' cells slots ∧ T'.heap = h' ∧ n0 ≤ h'.size ∧ Fr n0 locs' ∧ own_TP Z h' o a b (nar .boolean v) q ∧ ∀ t, Steps p.tables e below (T'.setTop (mkF m (pc + 3) Ls rest)) t → Steps p.tables e below (T.setTop (mkF m pc Ls (.int v :: .ref o :: rest))) t := by
  obtain ⟨T', h', X', e', W, st⟩ := putFN X hx hZ hown (hw _ (List.mem_of_getElem? (i := 23) rfl)) Via.refl eT K.2.2.2.1 K.1 (Or.inr ⟨(hw _ (List.mem_of_getElem? (i := 24) rfl)), rfl, hnm⟩) (hw _ (List.mem_of_getElem? (i := 11) rfl)) (ty := .boolean) (v' := .int (nar .boolean v)) (by decide) rfl (fits_nar_bool _) (g := mkF m pc Ls (.int v :: .ref o :: rest)) rfl rfl hd
  have K' := own_wX hw W K
  exact ⟨T', h', _, X', e', Nat.le_of_lt (Nat.lt_of_le_of_lt g0 K'.1.lt), Fr.snoc X' N g0, K', st⟩
theorem own_gP (X : Stand p l e R s m args below meth c T locs cells slots) (hx : p.tables.exec = Jvm.exec) (hZ : Z.Warmed39 s.vm) (hw : ∀ d ∈ tables_1, d.before a0 Z = true) (hown : s.vm.findClass "com/example/lehre/lehre/TextPosition" = some m.cls) (eT : T.heap = h) (K : own_TP Z h o a b x q) {pc : Nat} {Ls : Array Slot} {rest : List Value} (hd : decode c.code pc = .ok (.getfield 20, 3)) :
    ∃ T', Stand p l e R s m args below meth c T' locs cells slots ∧ T'.heap = h ∧ ∀ t, Steps p.tables e below (T'.setTop (mkF m (pc + 3) Ls (.int q :: rest))) t → Steps p.tables e below (T.setTop (mkF m pc Ls (.ref o :: rest))) t :=
  getF X hx hZ hown (host := "") (Or.inl (hw _ (List.mem_of_getElem? (i := 40) rfl))) Via.refl eT K.2.2.2.2 (g := mkF m pc Ls (.ref o :: rest)) rfl rfl hd
theorem own_sP (X : Stand p l e R s m args below meth c T locs cells slots) (hx : p.tables.exec = Jvm.exec) (hZ : Z.Warmed39 s.vm) (hw : ∀ d ∈ tables_1, d.before a0 Z = true) (hown : s.vm.findClass "com/example/lehre/lehre/TextPosition" = some m.cls) (eT : T.heap = h) (K : own_TP Z h o a b x q) (g0 : n0 ≤ o) (N : Fr n0 locs) {pc : Nat} {Ls : Array Slot} {rest : List Value} (v : Int32) (hd : decode c.code pc = .ok (.putfield 20, 3)) :
    ∃ (T' : State) (h' : Heap) (locs' : List Loc), Stand p l e R s m args below meth c T' locs' cells slots ∧ T'.heap = h' ∧ n0 ≤ h'.size ∧ Fr n0 locs' ∧ own_TP Z h' o a b x (nar .char v) ∧ ∀ t, Steps p.tables e below (T'.setTop (mkF m (pc + 3) Ls rest)) t → Steps p.tables e below (T.setTop (mkF m pc Ls (.int v :: .ref o :: rest))) t := by
  obtain ⟨T', h', X', e', W, st⟩ := putFN X hx hZ hown (hw _ (List.mem_of_getElem? (i := 40) rfl)) Via.refl eT K.2.2.2.2 K.1 (Or.inl (hw _ (List.mem_of_getElem? (i := 41) rfl))) (hw _ (List.mem_of_getElem? (i := 11) rfl)) (ty := .char) (v' := .int (nar .char v)) (by decide) rfl (fits_nar_char _) (g := mkF m pc Ls (.int v :: .ref o :: rest)) rfl rfl hd
  have K' := own_wP hw W K
  exact ⟨T', h', _, X', e', Nat.le_of_lt (Nat.lt_of_le_of_lt g0 K'.1.lt), Fr.snoc X' N g0, K', st⟩
end OwnTP
theorem d6_0 : decode prog_42_method_2_code 0 = .ok (.aload_n 0, 1) := by decide +kernel
theorem d6_1 : decode prog_42_method_2_code 1 = .ok (.getfield 7, 3) := by decide +kernel
theorem d6_4 : decode prog_42_method_2_code 4 = .ok (.ireturn, 1) := by decide +kernel
def f6_0 (w0 : Int32) (w1 : Int32) (w2 : Int32) (w3 : Int32) : Int32 := w0
set_option maxRecDepth 65536 in
set_option maxHeartbeats 40000000 in
theorem b6_0 {p : Program} {l : Launch} {e : Env} {s : State} {m : MethodId} {args : Array Value} {below : List Frame} {meth : Method} {c : Code} {T0 : State} {locs : List Loc} {Z : State} {a0 : Array Value} {h0 : Heap} {n0 : Nat} {P : Option Value → Heap → Prop} (o0 : Addr) (w0 : Int32) (w1 : Int32) (w2 : Int32) (w3 : Int32) (X0 : Stand p l e ({ frames := 0, cells := 0, slots := 0, locals := 0 } : Room) s m args below meth c T0 locs 0 0) (hx : p.tables.exec = Jvm.exec) (hZ : Z.Warmed39 s.vm) (hw : ∀ d ∈ tables_1, d.before a0 Z = true) (hby : c.code = prog_42_method_2_code) (hml : c.maxLocals = 1) (hown : s.vm.findClass "com/example/lehre/lehre/TextPosition" = some m.cls) (hret : meth.sig.returnType = some .int) (hlk : meth.locks = false) (e0 : T0.heap = h0) (Z0 : n0 ≤ h0.size) (N0 : Fr n0 locs) (K0 : own_TP Z h0 o0 w0 w1 w2 w3) (g0 : n0 ≤ o0) (hP : P (some (.int (f6_0 w0 w1 w2 w3))) h0) :
    own_Goes p e below s n0 0 0 P (T0.setTop (mkF m 0 #[.val (.ref o0)] [])) := by
  obtain ⟨T1, X1, e1, st1⟩ := own_gL X0 hx hZ hw hown e0 K0 (pc := 1) (Ls := #[.val (.ref o0)]) (rest := []) (hb hby d6_1)
  rw [f6_0] at hP
  refine own_Goes.pre (fun t kt => ?_) (own_retI X1 hx hlk hret (hb hby d6_4) N0 (by rw [e1]; exact hP) (by decide) (by decide) (Ls := #[.val (.ref o0)]) (rest := []) (z := w0))
  show Steps p.tables e below (T0.setTop (mkF m 0 #[.val (.ref o0)] [])) _
  refine XS.aloadN X0.here hx rfl (hb hby d6_0) rfl rfl ?_
  show Steps p.tables e below (T0.setTop (mkF m 1 #[.val (.ref o0)] [(.ref o0)])) _
  refine st1 _ ?_
  exact kt
theorem pn1 : plainName "com/example/lehre/lehre/TextPosition" = true := by first | (simp [plainName, overriddenIn]; done) | decide +kernel
theorem ef6 (m : MethodId) (o0 : Addr) : entryFrame m #[(.ref o0)] 1 = (mkF m 0 #[.val (.ref o0)] []) := by first | (simp [entryFrame, mkF, argsToLocals, Value.category]; done) | rfl
set_option maxRecDepth 65536 in
set_option maxHeartbeats 40000000 in
theorem rm6 (l : Launch) (Z : State) (a0 : Array Value) (hw : ∀ d ∈ tables_1, d.before a0 Z = true) (ws : List Jvm.Cond) (o0 : Addr) (w0 : Int32) (w1 : Int32) (w2 : Int32) (w3 : Int32) (h0 : Heap) (n0 : Nat) (Z0 : n0 ≤ h0.size) (K0 : own_TP Z h0 o0 w0 w1 w2 w3) (g0 : n0 ≤ o0) :
    MetFree l (⟨"com/example/lehre/lehre/TextPosition", "line", "()I"⟩ : MethodName) (head1 (Jvm.Cond.code (⟨"com/example/lehre/lehre/TextPosition", "line", "()I"⟩ : MethodName) prog_42_method_2_code 1 (some .int) :: ws) ({ frames := 0, cells := 0, slots := 0, locals := 0 } : Room)) (fun a U => a = #[(.ref o0)] ∧ Z.Warmed39 U.vm ∧ U.heap = h0) (fun _ _ _ _ _ => True) (fun _ U o U' => ∃ v L, o = .returned v ∧ own_Q (own_val (.int (f6_0 w0 w1 w2 w3)) h0) n0 v U'.heap L ∧ FrameEnd U o U' L ({ frames := 0, cells := 0, slots := 0, locals := 0 } : Room).cells ({ frames := 0, cells := 0, slots := 0, locals := 0 } : Room).slots) := by
  refine MetFree.of_bodySF (plainFor_of_name pn1) hisR ?_
  intro p e s m args below meth c s₁ Bd hml0 hP hK
  obtain ⟨rfl, hZ, hh⟩ := hP
  have hx := Bd.exec
  have hby := Bd.bytes
  have hml : c.maxLocals = 1 := hml0
  have hown : s.vm.findClass "com/example/lehre/lehre/TextPosition" = some m.cls := findClass_of_methodNamed Bd.named
  have X0 : Stand p l e ({ frames := 0, cells := 0, slots := 0, locals := 0 } : Room) s m #[(.ref o0)] below meth c s₁ [] 0 0 := Stand.of_body Bd
  have e0 : s₁.heap = h0 := by rw [← hh, Bd.state]; rfl
  refine own_Goes.pre (S' := s₁.setTop (mkF m 0 #[.val (.ref o0)] [])) (P := (own_val (.int (f6_0 w0 w1 w2 w3)) h0)) (n0 := n0) (kc := 0) (ks := 0) (fun t k => castTop (ef6 m o0) k) ?_
  exact b6_0 o0 w0 w1 w2 w3 X0 hx hZ hw hby hml hown Bd.returns Bd.notSynchronized e0 Z0 (Fr.nil n0) K0 g0 ⟨rfl, rfl⟩
theorem d7_0 : decode prog_42_method_3_code 0 = .ok (.aload_n 0, 1) := by decide +kernel
theorem d7_1 : decode prog_42_method_3_code 1 = .ok (.getfield 13, 3) := by decide +kernel
theorem d7_4 : decode prog_42_method_3_code 4 = .ok (.ireturn, 1) := by decide +kernel
def f7_0 (w0 : Int32) (w1 : Int32) (w2 : Int32) (w3 : Int32) : Int32 := w1
set_option maxRecDepth 65536 in
set_option maxHeartbeats 40000000 in
theorem b7_0 {p : Program} {l : Launch} {e : Env} {s : State} {m : MethodId} {args : Array Value} {below : List Frame} {meth : Method} {c : Code} {T0 : State} {locs : List Loc} {Z : State} {a0 : Array Value} {h0 : Heap} {n0 : Nat} {P : Option Value → Heap → Prop} (o0 : Addr) (w0 : Int32) (w1 : Int32) (w2 : Int32) (w3 : Int32) (X0 : Stand p l e ({ frames := 0, cells := 0, slots := 0, locals := 0 } : Room) s m args below meth c T0 locs 0 0) (hx : p.tables.exec = Jvm.exec) (hZ : Z.Warmed39 s.vm) (hw : ∀ d ∈ tables_1, d.before a0 Z = true) (hby : c.code = prog_42_method_3_code) (hml : c.maxLocals = 1) (hown : s.vm.findClass "com/example/lehre/lehre/TextPosition" = some m.cls) (hret : meth.sig.returnType = some .int) (hlk : meth.locks = false) (e0 : T0.heap = h0) (Z0 : n0 ≤ h0.size) (N0 : Fr n0 locs) (K0 : own_TP Z h0 o0 w0 w1 w2 w3) (g0 : n0 ≤ o0) (hP : P (some (.int (f7_0 w0 w1 w2 w3))) h0) :
    own_Goes p e below s n0 0 0 P (T0.setTop (mkF m 0 #[.val (.ref o0)] [])) := by
  obtain ⟨T1, X1, e1, st1⟩ := own_gC X0 hx hZ hw hown e0 K0 (pc := 1) (Ls := #[.val (.ref o0)]) (rest := []) (hb hby d7_1)
  rw [f7_0] at hP
  refine own_Goes.pre (fun t kt => ?_) (own_retI X1 hx hlk hret (hb hby d7_4) N0 (by rw [e1]; exact hP) (by decide) (by decide) (Ls := #[.val (.ref o0)]) (rest := []) (z := w1))
  show Steps p.tables e below (T0.setTop (mkF m 0 #[.val (.ref o0)] [])) _
  refine XS.aloadN X0.here hx rfl (hb hby d7_0) rfl rfl ?_
  show Steps p.tables e below (T0.setTop (mkF m 1 #[.val (.ref o0)] [(.ref o0)])) _
  refine st1 _ ?_
  exact kt
theorem ef7 (m : MethodId) (o0 : Addr) : entryFrame m #[(.ref o0)] 1 = (mkF m 0 #[.val (.ref o0)] []) := by first | (simp [entryFrame, mkF, argsToLocals, Value.category]; done) | rfl
set_option maxRecDepth 65536 in
set_option maxHeartbeats 40000000 in
theorem rm7 (l : Launch) (Z : State) (a0 : Array Value) (hw : ∀ d ∈ tables_1, d.before a0 Z = true) (ws : List Jvm.Cond) (o0 : Addr) (w0 : Int32) (w1 : Int32) (w2 : Int32) (w3 : Int32) (h0 : Heap) (n0 : Nat) (Z0 : n0 ≤ h0.size) (K0 : own_TP Z h0 o0 w0 w1 w2 w3) (g0 : n0 ≤ o0) :
    MetFree l (⟨"com/example/lehre/lehre/TextPosition", "column", "()I"⟩ : MethodName) (head1 (Jvm.Cond.code (⟨"com/example/lehre/lehre/TextPosition", "column", "()I"⟩ : MethodName) prog_42_method_3_code 1 (some .int) :: ws) ({ frames := 0, cells := 0, slots := 0, locals := 0 } : Room)) (fun a U => a = #[(.ref o0)] ∧ Z.Warmed39 U.vm ∧ U.heap = h0) (fun _ _ _ _ _ => True) (fun _ U o U' => ∃ v L, o = .returned v ∧ own_Q (own_val (.int (f7_0 w0 w1 w2 w3)) h0) n0 v U'.heap L ∧ FrameEnd U o U' L ({ frames := 0, cells := 0, slots := 0, locals := 0 } : Room).cells ({ frames := 0, cells := 0, slots := 0, locals := 0 } : Room).slots) := by
  refine MetFree.of_bodySF (plainFor_of_name pn1) hisR ?_
  intro p e s m args below meth c s₁ Bd hml0 hP hK
  obtain ⟨rfl, hZ, hh⟩ := hP
  have hx := Bd.exec
  have hby := Bd.bytes
  have hml : c.maxLocals = 1 := hml0
  have hown : s.vm.findClass "com/example/lehre/lehre/TextPosition" = some m.cls := findClass_of_methodNamed Bd.named
  have X0 : Stand p l e ({ frames := 0, cells := 0, slots := 0, locals := 0 } : Room) s m #[(.ref o0)] below meth c s₁ [] 0 0 := Stand.of_body Bd
  have e0 : s₁.heap = h0 := by rw [← hh, Bd.state]; rfl
  refine own_Goes.pre (S' := s₁.setTop (mkF m 0 #[.val (.ref o0)] [])) (P := (own_val (.int (f7_0 w0 w1 w2 w3)) h0)) (n0 := n0) (kc := 0) (ks := 0) (fun t k => castTop (ef7 m o0) k) ?_
  exact b7_0 o0 w0 w1 w2 w3 X0 hx hZ hw hby hml hown Bd.returns Bd.notSynchronized e0 Z0 (Fr.nil n0) K0 g0 ⟨rfl, rfl⟩
theorem d4_0 : decode prog_42_method_1_code 0 = .ok (.aload_n 0, 1) := by decide +kernel
theorem d4_1 : decode prog_42_method_1_code 1 = .ok (.invokespecial 1, 3) := by decide +kernel
theorem d4_4 : decode prog_42_method_1_code 4 = .ok (.aload_n 0, 1) := by decide +kernel
theorem d4_5 : decode prog_42_method_1_code 5 = .ok (.iconst 1, 1) := by decide +kernel
theorem d4_6 : decode prog_42_method_1_code 6 = .ok (.putfield 7, 3) := by decide +kernel
theorem d4_9 : decode prog_42_method_1_code 9 = .ok (.aload_n 0, 1) := by decide +kernel
theorem d4_10 : decode prog_42_method_1_code 10 = .ok (.iconst 1, 1) := by decide +kernel
theorem d4_11 : decode prog_42_method_1_code 11 = .ok (.putfield 13, 3) := by decide +kernel
theorem d4_14 : decode prog_42_method_1_code 14 = .ok (.aload_n 0, 1) := by decide +kernel
theorem d4_15 : decode prog_42_method_1_code 15 = .ok (.iload_n 1, 1) := by decide +kernel
theorem d4_16 : decode prog_42_method_1_code 16 = .ok (.putfield 16, 3) := by decide +kernel
theorem d4_19 : decode prog_42_method_1_code 19 = .ok (.return_, 1) := by decide +kernel
def f4_0 (x1 : Int32) (w0 : Int32) (w1 : Int32) (w2 : Int32) (w3 : Int32) : Int32 × Int32 × Int32 × Int32 := ((1 : Int32), (1 : Int32), (nar .boolean x1), w3)
set_option maxRecDepth 65536 in
set_option maxHeartbeats 40000000 in
theorem b4_0 {p : Program} {l : Launch} {e : Env} {s : State} {m : MethodId} {args : Array Value} {below : List Frame} {meth : Method} {c : Code} {T0 : State} {locs : List Loc} {Z : State} {a0 : Array Value} {h0 : Heap} {n0 : Nat} {P : Option Value → Heap → Prop} (o0 : Addr) (x1 : Int32) (w0 : Int32) (w1 : Int32) (w2 : Int32) (w3 : Int32) (X0 : Stand p l e ({ frames := 1, cells := 0, slots := 0, locals := 12 } : Room) s m args below meth c T0 locs 0 0) (hx : p.tables.exec = Jvm.exec) (hZ : Z.Warmed39 s.vm) (hw : ∀ d ∈ tables_1, d.before a0 Z = true) (hby : c.code = prog_42_method_1_code) (hml : c.maxLocals = 2) (hown : s.vm.findClass "com/example/lehre/lehre/TextPosition" = some m.cls) (hret : meth.sig.returnType = none) (hlk : meth.locks = false) (e0 : T0.heap = h0) (Z0 : n0 ≤ h0.size) (N0 : Fr n0 locs) (K0 : own_TP Z h0 o0 w0 w1 w2 w3) (g0 : n0 ≤ o0) (hnm : meth.name = "<init>") (hP : ∀ h' : Heap, own_TP Z h' o0 (f4_0 x1 w0 w1 w2 w3).1 (f4_0 x1 w0 w1 w2 w3).2.1 (f4_0 x1 w0 w1 w2 w3).2.2.1 (f4_0 x1 w0 w1 w2 w3).2.2.2 → P none h') :
    own_Goes p e below s n0 0 0 P (T0.setTop (mkF m 0 #[.val (.ref o0), .val (.int x1)] [])) := by
  obtain ⟨T1, X1, e1, st1⟩ := initO X0 hx hZ hown (hw _ (List.mem_of_getElem? (i := 16) rfl)) (hw _ (List.mem_of_getElem? (i := 17) rfl)) (hw _ (List.mem_of_getElem? (i := 18) rfl)) e0 (g := (mkF m 1 #[.val (.ref o0), .val (.int x1)] [(.ref o0)])) rfl (by rw [hml]; rfl) rfl (hb hby d4_1) (by decide) (W := 0) (by show 2 * 0 + _ ≤ _; exact Nat.le_of_eq rfl) (by decide)
  obtain ⟨T6, h6, L6, X6, e6, Z6, N6, K6, st6⟩ := own_sL X1 hx hZ hw hown e1 K0 g0 N0 (pc := 6) (Ls := #[.val (.ref o0), .val (.int x1)]) (rest := []) (1 : Int32) (hb hby d4_6)
  obtain ⟨T11, h11, L11, X11, e11, Z11, N11, K11, st11⟩ := own_sC X6 hx hZ hw hown e6 K6 g0 N6 (pc := 11) (Ls := #[.val (.ref o0), .val (.int x1)]) (rest := []) (1 : Int32) (hb hby d4_11)
  obtain ⟨T16, h16, L16, X16, e16, Z16, N16, K16, st16⟩ := own_sX X11 hx hZ hw hown e11 K11 g0 N11 hnm (pc := 16) (Ls := #[.val (.ref o0), .val (.int x1)]) (rest := []) x1 (hb hby d4_16)
  rw [f4_0] at hP
  refine own_Goes.pre (fun t kt => ?_) (own_retV X16 hx hlk hret (hb hby d4_19) N16 (hP _ (by rw [e16]; exact K16)) (by decide) (by decide) (Ls := #[.val (.ref o0), .val (.int x1)]))
  show Steps p.tables e below (T0.setTop (mkF m 0 #[.val (.ref o0), .val (.int x1)] [])) _
  refine XS.aloadN X0.here hx rfl (hb hby d4_0) rfl rfl ?_
  show Steps p.tables e below (T0.setTop (mkF m 1 #[.val (.ref o0), .val (.int x1)] [(.ref o0)])) _
  refine st1 _ ?_
  show Steps p.tables e below (T1.setTop (mkF m 4 #[.val (.ref o0), .val (.int x1)] [])) _
  refine XS.aloadN X1.here hx rfl (hb hby d4_4) rfl rfl ?_
  show Steps p.tables e below (T1.setTop (mkF m 5 #[.val (.ref o0), .val (.int x1)] [(.ref o0)])) _
  refine XS.iconst X1.here hx rfl (hb hby d4_5) ?_
  show Steps p.tables e below (T1.setTop (mkF m 6 #[.val (.ref o0), .val (.int x1)] [(.int (1 : Int32)), (.ref o0)])) _
  refine st6 _ ?_
  show Steps p.tables e below (T6.setTop (mkF m 9 #[.val (.ref o0), .val (.int x1)] [])) _
  refine XS.aloadN X6.here hx rfl (hb hby d4_9) rfl rfl ?_
  show Steps p.tables e below (T6.setTop (mkF m 10 #[.val (.ref o0), .val (.int x1)] [(.ref o0)])) _
  refine XS.iconst X6.here hx rfl (hb hby d4_10) ?_
  show Steps p.tables e below (T6.setTop (mkF m 11 #[.val (.ref o0), .val (.int x1)] [(.int (1 : Int32)), (.ref o0)])) _
  refine st11 _ ?_
  show Steps p.tables e below (T11.setTop (mkF m 14 #[.val (.ref o0), .val (.int x1)] [])) _
  refine XS.aloadN X11.here hx rfl (hb hby d4_14) rfl rfl ?_
  show Steps p.tables e below (T11.setTop (mkF m 15 #[.val (.ref o0), .val (.int x1)] [(.ref o0)])) _
  refine XS.iloadN X11.here hx rfl (hb hby d4_15) rfl ?_
  show Steps p.tables e below (T11.setTop (mkF m 16 #[.val (.ref o0), .val (.int x1)] [(.int x1), (.ref o0)])) _
  refine st16 _ ?_
  exact kt
theorem ef4 (m : MethodId) (o0 : Addr) (x1 : Int32) : entryFrame m #[(.ref o0), (.int x1)] 2 = (mkF m 0 #[.val (.ref o0), .val (.int x1)] []) := by first | (simp [entryFrame, mkF, argsToLocals, Value.category]; done) | rfl
set_option maxRecDepth 65536 in
set_option maxHeartbeats 40000000 in
theorem rm4 (l : Launch) (Z : State) (a0 : Array Value) (hw : ∀ d ∈ tables_1, d.before a0 Z = true) (ws : List Jvm.Cond) (o0 : Addr) (x1 : Int32) (w0 : Int32) (w1 : Int32) (w2 : Int32) (w3 : Int32) (h0 : Heap) (n0 : Nat) (Z0 : n0 ≤ h0.size) (K0 : own_TP Z h0 o0 w0 w1 w2 w3) (g0 : n0 ≤ o0) :
    MetFree l (⟨"com/example/lehre/lehre/TextPosition", "<init>", "(Z)V"⟩ : MethodName) (head1 (Jvm.Cond.code (⟨"com/example/lehre/lehre/TextPosition", "<init>", "(Z)V"⟩ : MethodName) prog_42_method_1_code 2 none :: ws) ({ frames := 1, cells := 0, slots := 0, locals := 12 } : Room)) (fun a U => a = #[(.ref o0), (.int x1)] ∧ Z.Warmed39 U.vm ∧ U.heap = h0) (fun _ _ _ _ _ => True) (fun _ U o U' => ∃ v L, o = .returned v ∧ own_Q (own_obj Z o0 (f4_0 x1 w0 w1 w2 w3).1 (f4_0 x1 w0 w1 w2 w3).2.1 (f4_0 x1 w0 w1 w2 w3).2.2.1 (f4_0 x1 w0 w1 w2 w3).2.2.2) n0 v U'.heap L ∧ FrameEnd U o U' L ({ frames := 1, cells := 0, slots := 0, locals := 12 } : Room).cells ({ frames := 1, cells := 0, slots := 0, locals := 12 } : Room).slots) := by
  refine MetFree.of_bodySF (plainFor_of_name pn1) hisR ?_
  intro p e s m args below meth c s₁ Bd hml0 hP hK
  obtain ⟨rfl, hZ, hh⟩ := hP
  have hx := Bd.exec
  have hby := Bd.bytes
  have hml : c.maxLocals = 2 := hml0
  have hown : s.vm.findClass "com/example/lehre/lehre/TextPosition" = some m.cls := findClass_of_methodNamed Bd.named
  have X0 : Stand p l e ({ frames := 1, cells := 0, slots := 0, locals := 12 } : Room) s m #[(.ref o0), (.int x1)] below meth c s₁ [] 0 0 := Stand.of_body Bd
  have e0 : s₁.heap = h0 := by rw [← hh, Bd.state]; rfl
  have hnm := (name_of_methodNamed Bd.named Bd.method).1
  refine own_Goes.pre (S' := s₁.setTop (mkF m 0 #[.val (.ref o0), .val (.int x1)] [])) (P := (own_obj Z o0 (f4_0 x1 w0 w1 w2 w3).1 (f4_0 x1 w0 w1 w2 w3).2.1 (f4_0 x1 w0 w1 w2 w3).2.2.1 (f4_0 x1 w0 w1 w2 w3).2.2.2)) (n0 := n0) (kc := 0) (ks := 0) (fun t k => castTop (ef4 m o0 x1) k) ?_
  exact b4_0 o0 x1 w0 w1 w2 w3 X0 hx hZ hw hby hml hown Bd.returns Bd.notSynchronized e0 Z0 (Fr.nil n0) K0 g0 hnm (fun h' k => ⟨rfl, k⟩)
theorem d8_0 : decode prog_42_method_4_code 0 = .ok (.aload_n 0, 1) := by decide +kernel
theorem d8_1 : decode prog_42_method_4_code 1 = .ok (.getfield 20, 3) := by decide +kernel
theorem d8_4 : decode prog_42_method_4_code 4 = .ok (.bipush 13, 2) := by decide +kernel
theorem d8_6 : decode prog_42_method_4_code 6 = .ok (.if_icmp .ne 7, 3) := by decide +kernel
theorem d8_9 : decode prog_42_method_4_code 9 = .ok (.iconst 1, 1) := by decide +kernel
theorem d8_10 : decode prog_42_method_4_code 10 = .ok (.goto 4, 3) := by decide +kernel
theorem d8_13 : decode prog_42_method_4_code 13 = .ok (.iconst 0, 1) := by decide +kernel
theorem d8_14 : decode prog_42_method_4_code 14 = .ok (.istore_n 2, 1) := by decide +kernel
theorem d8_15 : decode prog_42_method_4_code 15 = .ok (.aload_n 0, 1) := by decide +kernel
theorem d8_16 : decode prog_42_method_4_code 16 = .ok (.iload_n 1, 1) := by decide +kernel
theorem d8_17 : decode prog_42_method_4_code 17 = .ok (.putfield 20, 3) := by decide +kernel
theorem d8_20 : decode prog_42_method_4_code 20 = .ok (.iload_n 1, 1) := by decide +kernel
theorem d8_21 : decode prog_42_method_4_code 21 = .ok (.bipush 10, 2) := by decide +kernel
theorem d8_23 : decode prog_42_method_4_code 23 = .ok (.if_icmp .eq 17, 3) := by decide +kernel
theorem d8_26 : decode prog_42_method_4_code 26 = .ok (.aload_n 0, 1) := by decide +kernel
theorem d8_27 : decode prog_42_method_4_code 27 = .ok (.getfield 16, 3) := by decide +kernel
theorem d8_30 : decode prog_42_method_4_code 30 = .ok (.ifCond .eq 32, 3) := by decide +kernel
theorem d8_33 : decode prog_42_method_4_code 33 = .ok (.iload_n 1, 1) := by decide +kernel
theorem d8_34 : decode prog_42_method_4_code 34 = .ok (.sipush 133, 3) := by decide +kernel
theorem d8_37 : decode prog_42_method_4_code 37 = .ok (.if_icmp .ne 25, 3) := by decide +kernel
theorem d8_40 : decode prog_42_method_4_code 40 = .ok (.iload_n 2, 1) := by decide +kernel
theorem d8_41 : decode prog_42_method_4_code 41 = .ok (.ifCond .ne 13, 3) := by decide +kernel
theorem d8_44 : decode prog_42_method_4_code 44 = .ok (.aload_n 0, 1) := by decide +kernel
theorem d8_45 : decode prog_42_method_4_code 45 = .ok (.dup, 1) := by decide +kernel
theorem d8_46 : decode prog_42_method_4_code 46 = .ok (.getfield 7, 3) := by decide +kernel
theorem d8_49 : decode prog_42_method_4_code 49 = .ok (.iconst 1, 1) := by decide +kernel
theorem d8_50 : decode prog_42_method_4_code 50 = .ok (.iadd, 1) := by decide +kernel
theorem d8_51 : decode prog_42_method_4_code 51 = .ok (.putfield 7, 3) := by decide +kernel
theorem d8_54 : decode prog_42_method_4_code 54 = .ok (.aload_n 0, 1) := by decide +kernel
theorem d8_55 : decode prog_42_method_4_code 55 = .ok (.iconst 1, 1) := by decide +kernel
theorem d8_56 : decode prog_42_method_4_code 56 = .ok (.putfield 13, 3) := by decide +kernel
theorem d8_59 : decode prog_42_method_4_code 59 = .ok (.goto 51, 3) := by decide +kernel
theorem d8_62 : decode prog_42_method_4_code 62 = .ok (.iload_n 1, 1) := by decide +kernel
theorem d8_63 : decode prog_42_method_4_code 63 = .ok (.bipush 13, 2) := by decide +kernel
theorem d8_65 : decode prog_42_method_4_code 65 = .ok (.if_icmp .eq 17, 3) := by decide +kernel
theorem d8_68 : decode prog_42_method_4_code 68 = .ok (.aload_n 0, 1) := by decide +kernel
theorem d8_69 : decode prog_42_method_4_code 69 = .ok (.getfield 16, 3) := by decide +kernel
theorem d8_72 : decode prog_42_method_4_code 72 = .ok (.ifCond .eq 28, 3) := by decide +kernel
theorem d8_75 : decode prog_42_method_4_code 75 = .ok (.iload_n 1, 1) := by decide +kernel
theorem d8_76 : decode prog_42_method_4_code 76 = .ok (.sipush 8232, 3) := by decide +kernel
theorem d8_79 : decode prog_42_method_4_code 79 = .ok (.if_icmp .ne 21, 3) := by decide +kernel
theorem d8_82 : decode prog_42_method_4_code 82 = .ok (.aload_n 0, 1) := by decide +kernel
theorem d8_83 : decode prog_42_method_4_code 83 = .ok (.dup, 1) := by decide +kernel
theorem d8_84 : decode prog_42_method_4_code 84 = .ok (.getfield 7, 3) := by decide +kernel
theorem d8_87 : decode prog_42_method_4_code 87 = .ok (.iconst 1, 1) := by decide +kernel
theorem d8_88 : decode prog_42_method_4_code 88 = .ok (.iadd, 1) := by decide +kernel
theorem d8_89 : decode prog_42_method_4_code 89 = .ok (.putfield 7, 3) := by decide +kernel
theorem d8_92 : decode prog_42_method_4_code 92 = .ok (.aload_n 0, 1) := by decide +kernel
theorem d8_93 : decode prog_42_method_4_code 93 = .ok (.iconst 1, 1) := by decide +kernel
theorem d8_94 : decode prog_42_method_4_code 94 = .ok (.putfield 13, 3) := by decide +kernel
theorem d8_97 : decode prog_42_method_4_code 97 = .ok (.goto 13, 3) := by decide +kernel
theorem d8_100 : decode prog_42_method_4_code 100 = .ok (.aload_n 0, 1) := by decide +kernel
theorem d8_101 : decode prog_42_method_4_code 101 = .ok (.dup, 1) := by decide +kernel
theorem d8_102 : decode prog_42_method_4_code 102 = .ok (.getfield 13, 3) := by decide +kernel
theorem d8_105 : decode prog_42_method_4_code 105 = .ok (.iconst 1, 1) := by decide +kernel
theorem d8_106 : decode prog_42_method_4_code 106 = .ok (.iadd, 1) := by decide +kernel
theorem d8_107 : decode prog_42_method_4_code 107 = .ok (.putfield 13, 3) := by decide +kernel
theorem d8_110 : decode prog_42_method_4_code 110 = .ok (.return_, 1) := by decide +kernel
def f8_54 (x1 : Int32) (x2 : Int32) (w0 : Int32) (w1 : Int32) (w2 : Int32) (w3 : Int32) : Int32 × Int32 × Int32 × Int32 := (w0, (1 : Int32), w2, w3)
set_option maxRecDepth 65536 in
set_option maxHeartbeats 40000000 in
theorem b8_54 {p : Program} {l : Launch} {e : Env} {s : State} {m : MethodId} {args : Array Value} {below : List Frame} {meth : Method} {c : Code} {T0 : State} {locs : List Loc} {Z : State} {a0 : Array Value} {h0 : Heap} {n0 : Nat} {P : Option Value → Heap → Prop} (o0 : Addr) (x1 : Int32) (x2 : Int32) (w0 : Int32) (w1 : Int32) (w2 : Int32) (w3 : Int32) (X0 : Stand p l e ({ frames := 0, cells := 0, slots := 0, locals := 0 } : Room) s m args below meth c T0 locs 0 0) (hx : p.tables.exec = Jvm.exec) (hZ : Z.Warmed39 s.vm) (hw : ∀ d ∈ tables_1, d.before a0 Z = true) (hby : c.code = prog_42_method_4_code) (hml : c.maxLocals = 3) (hown : s.vm.findClass "com/example/lehre/lehre/TextPosition" = some m.cls) (hret : meth.sig.returnType = none) (hlk : meth.locks = false) (e0 : T0.heap = h0) (Z0 : n0 ≤ h0.size) (N0 : Fr n0 locs) (K0 : own_TP Z h0 o0 w0 w1 w2 w3) (g0 : n0 ≤ o0) (hP : ∀ h' : Heap, own_TP Z h' o0 (f8_54 x1 x2 w0 w1 w2 w3).1 (f8_54 x1 x2 w0 w1 w2 w3).2.1 (f8_54 x1 x2 w0 w1 w2 w3).2.2.1 (f8_54 x1 x2 w0 w1 w2 w3).2.2.2 → P none h') :
    own_Goes p e below s n0 0 0 P (T0.setTop (mkF m 54 #[.val (.ref o0), .val (.int x1), .val (.int x2)] [])) := by
  obtain ⟨T56, h56, L56, X56, e56, Z56, N56, K56, st56⟩ := own_sC X0 hx hZ hw hown e0 K0 g0 N0 (pc := 56) (Ls := #[.val (.ref o0), .val (.int x1), .val (.int x2)]) (rest := []) (1 : Int32) (hb hby d8_56)
  rw [f8_54] at hP
  refine own_Goes.pre (fun t kt => ?_) (own_retV X56 hx hlk hret (hb hby d8_110) N56 (hP _ (by rw [e56]; exact K56)) (by decide) (by decide) (Ls := #[.val (.ref o0), .val (.int x1), .val (.int x2)]))
  show Steps p.tables e below (T0.setTop (mkF m 54 #[.val (.ref o0), .val (.int x1), .val (.int x2)] [])) _
  refine XS.aloadN X0.here hx rfl (hb hby d8_54) rfl rfl ?_
  show Steps p.tables e below (T0.setTop (mkF m 55 #[.val (.ref o0), .val (.int x1), .val (.int x2)] [(.ref o0)])) _
  refine XS.iconst X0.here hx rfl (hb hby d8_55) ?_
  show Steps p.tables e below (T0.setTop (mkF m 56 #[.val (.ref o0), .val (.int x1), .val (.int x2)] [(.int (1 : Int32)), (.ref o0)])) _
  refine st56 _ ?_
  show Steps p.tables e below (T56.setTop (mkF m 59 #[.val (.ref o0), .val (.int x1), .val (.int x2)] [])) _
  refine XS.goto X56.here hx rfl (pc0 := 59) (pc' := 110) rfl (hb hby d8_59) (by decide) (by decide) ?_
  exact kt
def f8_44 (x1 : Int32) (x2 : Int32) (w0 : Int32) (w1 : Int32) (w2 : Int32) (w3 : Int32) : Int32 × Int32 × Int32 × Int32 := (f8_54 x1 x2 (w0 + (1 : Int32)) w1 w2 w3)
set_option maxRecDepth 65536 in
set_option maxHeartbeats 40000000 in
theorem b8_44 {p : Program} {l : Launch} {e : Env} {s : State} {m : MethodId} {args : Array Value} {below : List Frame} {meth : Method} {c : Code} {T0 : State} {locs : List Loc} {Z : State} {a0 : Array Value} {h0 : Heap} {n0 : Nat} {P : Option Value → Heap → Prop} (o0 : Addr) (x1 : Int32) (x2 : Int32) (w0 : Int32) (w1 : Int32) (w2 : Int32) (w3 : Int32) (X0 : Stand p l e ({ frames := 0, cells := 0, slots := 0, locals := 0 } : Room) s m args below meth c T0 locs 0 0) (hx : p.tables.exec = Jvm.exec) (hZ : Z.Warmed39 s.vm) (hw : ∀ d ∈ tables_1, d.before a0 Z = true) (hby : c.code = prog_42_method_4_code) (hml : c.maxLocals = 3) (hown : s.vm.findClass "com/example/lehre/lehre/TextPosition" = some m.cls) (hret : meth.sig.returnType = none) (hlk : meth.locks = false) (e0 : T0.heap = h0) (Z0 : n0 ≤ h0.size) (N0 : Fr n0 locs) (K0 : own_TP Z h0 o0 w0 w1 w2 w3) (g0 : n0 ≤ o0) (hP : ∀ h' : Heap, own_TP Z h' o0 (f8_44 x1 x2 w0 w1 w2 w3).1 (f8_44 x1 x2 w0 w1 w2 w3).2.1 (f8_44 x1 x2 w0 w1 w2 w3).2.2.1 (f8_44 x1 x2 w0 w1 w2 w3).2.2.2 → P none h') :
    own_Goes p e below s n0 0 0 P (T0.setTop (mkF m 44 #[.val (.ref o0), .val (.int x1), .val (.int x2)] [])) := by
  obtain ⟨T46, X46, e46, st46⟩ := own_gL X0 hx hZ hw hown e0 K0 (pc := 46) (Ls := #[.val (.ref o0), .val (.int x1), .val (.int x2)]) (rest := [(.ref o0)]) (hb hby d8_46)
  obtain ⟨T51, h51, L51, X51, e51, Z51, N51, K51, st51⟩ := own_sL X46 hx hZ hw hown e46 K0 g0 N0 (pc := 51) (Ls := #[.val (.ref o0), .val (.int x1), .val (.int x2)]) (rest := []) (w0 + (1 : Int32)) (hb hby d8_51)
  rw [f8_44] at hP
  refine own_Goes.pre (fun t kt => ?_) (b8_54 o0 x1 x2 (w0 + (1 : Int32)) w1 w2 w3 X51 hx hZ hw hby hml hown hret hlk e51 Z51 N51 K51 g0 hP)
  show Steps p.tables e below (T0.setTop (mkF m 44 #[.val (.ref o0), .val (.int x1), .val (.int x2)] [])) _
  refine XS.aloadN X0.here hx rfl (hb hby d8_44) rfl rfl ?_
  show Steps p.tables e below (T0.setTop (mkF m 45 #[.val (.ref o0), .val (.int x1), .val (.int x2)] [(.ref o0)])) _
  refine XS.dup X0.here hx rfl (hb hby d8_45) rfl rfl ?_
  show Steps p.tables e below (T0.setTop (mkF m 46 #[.val (.ref o0), .val (.int x1), .val (.int x2)] [(.ref o0), (.ref o0)])) _
  refine st46 _ ?_
  show Steps p.tables e below (T46.setTop (mkF m 49 #[.val (.ref o0), .val (.int x1), .val (.int x2)] [(.int w0), (.ref o0)])) _
  refine XS.iconst X46.here hx rfl (hb hby d8_49) ?_
  show Steps p.tables e below (T46.setTop (mkF m 50 #[.val (.ref o0), .val (.int x1), .val (.int x2)] [(.int (1 : Int32)), (.int w0), (.ref o0)])) _
  refine XS.iadd X46.here hx rfl (hb hby d8_50) rfl ?_
  show Steps p.tables e below (T46.setTop (mkF m 51 #[.val (.ref o0), .val (.int x1), .val (.int x2)] [(.int (w0 + (1 : Int32))), (.ref o0)])) _
  refine st51 _ ?_
  exact kt
def f8_40 (x1 : Int32) (x2 : Int32) (w0 : Int32) (w1 : Int32) (w2 : Int32) (w3 : Int32) : Int32 × Int32 × Int32 × Int32 := if x2 = (0 : Int32) then (f8_44 x1 x2 w0 w1 w2 w3) else (f8_54 x1 x2 w0 w1 w2 w3)
set_option maxRecDepth 65536 in
set_option maxHeartbeats 40000000 in
theorem b8_40 {p : Program} {l : Launch} {e : Env} {s : State} {m : MethodId} {args : Array Value} {below : List Frame} {meth : Method} {c : Code} {T0 : State} {locs : List Loc} {Z : State} {a0 : Array Value} {h0 : Heap} {n0 : Nat} {P : Option Value → Heap → Prop} (o0 : Addr) (x1 : Int32) (x2 : Int32) (w0 : Int32) (w1 : Int32) (w2 : Int32) (w3 : Int32) (X0 : Stand p l e ({ frames := 0, cells := 0, slots := 0, locals := 0 } : Room) s m args below meth c T0 locs 0 0) (hx : p.tables.exec = Jvm.exec) (hZ : Z.Warmed39 s.vm) (hw : ∀ d ∈ tables_1, d.before a0 Z = true) (hby : c.code = prog_42_method_4_code) (hml : c.maxLocals = 3) (hown : s.vm.findClass "com/example/lehre/lehre/TextPosition" = some m.cls) (hret : meth.sig.returnType = none) (hlk : meth.locks = false) (e0 : T0.heap = h0) (Z0 : n0 ≤ h0.size) (N0 : Fr n0 locs) (K0 : own_TP Z h0 o0 w0 w1 w2 w3) (g0 : n0 ≤ o0) (hP : ∀ h' : Heap, own_TP Z h' o0 (f8_40 x1 x2 w0 w1 w2 w3).1 (f8_40 x1 x2 w0 w1 w2 w3).2.1 (f8_40 x1 x2 w0 w1 w2 w3).2.2.1 (f8_40 x1 x2 w0 w1 w2 w3).2.2.2 → P none h') :
    own_Goes p e below s n0 0 0 P (T0.setTop (mkF m 40 #[.val (.ref o0), .val (.int x1), .val (.int x2)] [])) := by
  have pre1 : ∀ t, Steps p.tables e below (T0.setTop (mkF m 41 #[.val (.ref o0), .val (.int x1), .val (.int x2)] [(.int x2)])) t → Steps p.tables e below (T0.setTop (mkF m 40 #[.val (.ref o0), .val (.int x1), .val (.int x2)] [])) t := fun t kt => by
    show Steps p.tables e below (T0.setTop (mkF m 40 #[.val (.ref o0), .val (.int x1), .val (.int x2)] [])) _
    refine XS.iloadN X0.here hx rfl (hb hby d8_40) rfl ?_
    exact kt
  refine own_Goes.pre pre1 ?_
  by_cases hc : x2 = (0 : Int32)
  · rw [f8_40, if_pos hc] at hP
    refine own_Goes.pre (fun t kt => ?_) (b8_44 o0 x1 x2 w0 w1 w2 w3 X0 hx hZ hw hby hml hown hret hlk e0 Z0 N0 K0 g0 hP)
    show Steps p.tables e below (T0.setTop (mkF m 41 #[.val (.ref o0), .val (.int x1), .val (.int x2)] [(.int x2)])) _
    refine XS.ifNo X0.here hx rfl (hb hby d8_41) rfl ((if0 _ _).trans (teq hc).2) ?_
    exact kt
  · rw [f8_40, if_neg hc] at hP
    refine own_Goes.pre (fun t kt => ?_) (b8_54 o0 x1 x2 w0 w1 w2 w3 X0 hx hZ hw hby hml hown hret hlk e0 Z0 N0 K0 g0 hP)
    show Steps p.tables e below (T0.setTop (mkF m 41 #[.val (.ref o0), .val (.int x1), .val (.int x2)] [(.int x2)])) _
    refine XS.ifYes X0.here hx rfl (pc0 := 41) (pc' := 54) rfl (hb hby d8_41) rfl ((if0 _ _).trans (feq hc).2) (by decide) (by decide) ?_
    exact kt
def f8_82 (x1 : Int32) (x2 : Int32) (w0 : Int32) (w1 : Int32) (w2 : Int32) (w3 : Int32) : Int32 × Int32 × Int32 × Int32 := ((w0 + (1 : Int32)), (1 : Int32), w2, w3)
set_option maxRecDepth 65536 in
set_option maxHeartbeats 40000000 in
theorem b8_82 {p : Program} {l : Launch} {e : Env} {s : State} {m : MethodId} {args : Array Value} {below : List Frame} {meth : Method} {c : Code} {T0 : State} {locs : List Loc} {Z : State} {a0 : Array Value} {h0 : Heap} {n0 : Nat} {P : Option Value → Heap → Prop} (o0 : Addr) (x1 : Int32) (x2 : Int32) (w0 : Int32) (w1 : Int32) (w2 : Int32) (w3 : Int32) (X0 : Stand p l e ({ frames := 0, cells := 0, slots := 0, locals := 0 } : Room) s m args below meth c T0 locs 0 0) (hx : p.tables.exec = Jvm.exec) (hZ : Z.Warmed39 s.vm) (hw : ∀ d ∈ tables_1, d.before a0 Z = true) (hby : c.code = prog_42_method_4_code) (hml : c.maxLocals = 3) (hown : s.vm.findClass "com/example/lehre/lehre/TextPosition" = some m.cls) (hret : meth.sig.returnType = none) (hlk : meth.locks = false) (e0 : T0.heap = h0) (Z0 : n0 ≤ h0.size) (N0 : Fr n0 locs) (K0 : own_TP Z h0 o0 w0 w1 w2 w3) (g0 : n0 ≤ o0) (hP : ∀ h' : Heap, own_TP Z h' o0 (f8_82 x1 x2 w0 w1 w2 w3).1 (f8_82 x1 x2 w0 w1 w2 w3).2.1 (f8_82 x1 x2 w0 w1 w2 w3).2.2.1 (f8_82 x1 x2 w0 w1 w2 w3).2.2.2 → P none h') :
    own_Goes p e below s n0 0 0 P (T0.setTop (mkF m 82 #[.val (.ref o0), .val (.int x1), .val (.int x2)] [])) := by
  obtain ⟨T84, X84, e84, st84⟩ := own_gL X0 hx hZ hw hown e0 K0 (pc := 84) (Ls := #[.val (.ref o0), .val (.int x1), .val (.int x2)]) (rest := [(.ref o0)]) (hb hby d8_84)
  obtain ⟨T89, h89, L89, X89, e89, Z89, N89, K89, st89⟩ := own_sL X84 hx hZ hw hown e84 K0 g0 N0 (pc := 89) (Ls := #[.val (.ref o0), .val (.int x1), .val (.int x2)]) (rest := []) (w0 + (1 : Int32)) (hb hby d8_89)
  obtain ⟨T94, h94, L94, X94, e94, Z94, N94, K94, st94⟩ := own_sC X89 hx hZ hw hown e89 K89 g0 N89 (pc := 94) (Ls := #[.val (.ref o0), .val (.int x1), .val (.int x2)]) (rest := []) (1 : Int32) (hb hby d8_94)
  rw [f8_82] at hP
  refine own_Goes.pre (fun t kt => ?_) (own_retV X94 hx hlk hret (hb hby d8_110) N94 (hP _ (by rw [e94]; exact K94)) (by decide) (by decide) (Ls := #[.val (.ref o0), .val (.int x1), .val (.int x2)]))
  show Steps p.tables e below (T0.setTop (mkF m 82 #[.val (.ref o0), .val (.int x1), .val (.int x2)] [])) _
  refine XS.aloadN X0.here hx rfl (hb hby d8_82) rfl rfl ?_
  show Steps p.tables e below (T0.setTop (mkF m 83 #[.val (.ref o0), .val (.int x1), .val (.int x2)] [(.ref o0)])) _
  refine XS.dup X0.here hx rfl (hb hby d8_83) rfl rfl ?_
  show Steps p.tables e below (T0.setTop (mkF m 84 #[.val (.ref o0), .val (.int x1), .val (.int x2)] [(.ref o0), (.ref o0)])) _
  refine st84 _ ?_
  show Steps p.tables e below (T84.setTop (mkF m 87 #[.val (.ref o0), .val (.int x1), .val (.int x2)] [(.int w0), (.ref o0)])) _
  refine XS.iconst X84.here hx rfl (hb hby d8_87) ?_
  show Steps p.tables e below (T84.setTop (mkF m 88 #[.val (.ref o0), .val (.int x1), .val (.int x2)] [(.int (1 : Int32)), (.int w0), (.ref o0)])) _
  refine XS.iadd X84.here hx rfl (hb hby d8_88) rfl ?_
  show Steps p.tables e below (T84.setTop (mkF m 89 #[.val (.ref o0), .val (.int x1), .val (.int x2)] [(.int (w0 + (1 : Int32))), (.ref o0)])) _
  refine st89 _ ?_
  show Steps p.tables e below (T89.setTop (mkF m 92 #[.val (.ref o0), .val (.int x1), .val (.int x2)] [])) _
  refine XS.aloadN X89.here hx rfl (hb hby d8_92) rfl rfl ?_
  show Steps p.tables e below (T89.setTop (mkF m 93 #[.val (.ref o0), .val (.int x1), .val (.int x2)] [(.ref o0)])) _
  refine XS.iconst X89.here hx rfl (hb hby d8_93) ?_
  show Steps p.tables e below (T89.setTop (mkF m 94 #[.val (.ref o0), .val (.int x1), .val (.int x2)] [(.int (1 : Int32)), (.ref o0)])) _
  refine st94 _ ?_
  show Steps p.tables e below (T94.setTop (mkF m 97 #[.val (.ref o0), .val (.int x1), .val (.int x2)] [])) _
  refine XS.goto X94.here hx rfl (pc0 := 97) (pc' := 110) rfl (hb hby d8_97) (by decide) (by decide) ?_
  exact kt
def f8_100 (x1 : Int32) (x2 : Int32) (w0 : Int32) (w1 : Int32) (w2 : Int32) (w3 : Int32) : Int32 × Int32 × Int32 × Int32 := (w0, (w1 + (1 : Int32)), w2, w3)
set_option maxRecDepth 65536 in
set_option maxHeartbeats 40000000 in
theorem b8_100 {p : Program} {l : Launch} {e : Env} {s : State} {m : MethodId} {args : Array Value} {below : List Frame} {meth : Method} {c : Code} {T0 : State} {locs : List Loc} {Z : State} {a0 : Array Value} {h0 : Heap} {n0 : Nat} {P : Option Value → Heap → Prop} (o0 : Addr) (x1 : Int32) (x2 : Int32) (w0 : Int32) (w1 : Int32) (w2 : Int32) (w3 : Int32) (X0 : Stand p l e ({ frames := 0, cells := 0, slots := 0, locals := 0 } : Room) s m args below meth c T0 locs 0 0) (hx : p.tables.exec = Jvm.exec) (hZ : Z.Warmed39 s.vm) (hw : ∀ d ∈ tables_1, d.before a0 Z = true) (hby : c.code = prog_42_method_4_code) (hml : c.maxLocals = 3) (hown : s.vm.findClass "com/example/lehre/lehre/TextPosition" = some m.cls) (hret : meth.sig.returnType = none) (hlk : meth.locks = false) (e0 : T0.heap = h0) (Z0 : n0 ≤ h0.size) (N0 : Fr n0 locs) (K0 : own_TP Z h0 o0 w0 w1 w2 w3) (g0 : n0 ≤ o0) (hP : ∀ h' : Heap, own_TP Z h' o0 (f8_100 x1 x2 w0 w1 w2 w3).1 (f8_100 x1 x2 w0 w1 w2 w3).2.1 (f8_100 x1 x2 w0 w1 w2 w3).2.2.1 (f8_100 x1 x2 w0 w1 w2 w3).2.2.2 → P none h') :
    own_Goes p e below s n0 0 0 P (T0.setTop (mkF m 100 #[.val (.ref o0), .val (.int x1), .val (.int x2)] [])) := by
  obtain ⟨T102, X102, e102, st102⟩ := own_gC X0 hx hZ hw hown e0 K0 (pc := 102) (Ls := #[.val (.ref o0), .val (.int x1), .val (.int x2)]) (rest := [(.ref o0)]) (hb hby d8_102)
  obtain ⟨T107, h107, L107, X107, e107, Z107, N107, K107, st107⟩ := own_sC X102 hx hZ hw hown e102 K0 g0 N0 (pc := 107) (Ls := #[.val (.ref o0), .val (.int x1), .val (.int x2)]) (rest := []) (w1 + (1 : Int32)) (hb hby d8_107)
  rw [f8_100] at hP
  refine own_Goes.pre (fun t kt => ?_) (own_retV X107 hx hlk hret (hb hby d8_110) N107 (hP _ (by rw [e107]; exact K107)) (by decide) (by decide) (Ls := #[.val (.ref o0), .val (.int x1), .val (.int x2)]))
  show Steps p.tables e below (T0.setTop (mkF m 100 #[.val (.ref o0), .val (.int x1), .val (.int x2)] [])) _
  refine XS.aloadN X0.here hx rfl (hb hby d8_100) rfl rfl ?_
  show Steps p.tables e below (T0.setTop (mkF m 101 #[.val (.ref o0), .val (.int x1), .val (.int x2)] [(.ref o0)])) _
  refine XS.dup X0.here hx rfl (hb hby d8_101) rfl rfl ?_
  show Steps p.tables e below (T0.setTop (mkF m 102 #[.val (.ref o0), .val (.int x1), .val (.int x2)] [(.ref o0), (.ref o0)])) _
  refine st102 _ ?_
  show Steps p.tables e below (T102.setTop (mkF m 105 #[.val (.ref o0), .val (.int x1), .val (.int x2)] [(.int w1), (.ref o0)])) _
  refine XS.iconst X102.here hx rfl (hb hby d8_105) ?_
  show Steps p.tables e below (T102.setTop (mkF m 106 #[.val (.ref o0), .val (.int x1), .val (.int x2)] [(.int (1 : Int32)), (.int w1), (.ref o0)])) _
  refine XS.iadd X102.here hx rfl (hb hby d8_106) rfl ?_
  show Steps p.tables e below (T102.setTop (mkF m 107 #[.val (.ref o0), .val (.int x1), .val (.int x2)] [(.int (w1 + (1 : Int32))), (.ref o0)])) _
  refine st107 _ ?_
  exact kt
def f8_75 (x1 : Int32) (x2 : Int32) (w0 : Int32) (w1 : Int32) (w2 : Int32) (w3 : Int32) : Int32 × Int32 × Int32 × Int32 := if x1 = (8232 : Int32) then (f8_82 x1 x2 w0 w1 w2 w3) else (f8_100 x1 x2 w0 w1 w2 w3)
set_option maxRecDepth 65536 in
set_option maxHeartbeats 40000000 in
theorem b8_75 {p : Program} {l : Launch} {e : Env} {s : State} {m : MethodId} {args : Array Value} {below : List Frame} {meth : Method} {c : Code} {T0 : State} {locs : List Loc} {Z : State} {a0 : Array Value} {h0 : Heap} {n0 : Nat} {P : Option Value → Heap → Prop} (o0 : Addr) (x1 : Int32) (x2 : Int32) (w0 : Int32) (w1 : Int32) (w2 : Int32) (w3 : Int32) (X0 : Stand p l e ({ frames := 0, cells := 0, slots := 0, locals := 0 } : Room) s m args below meth c T0 locs 0 0) (hx : p.tables.exec = Jvm.exec) (hZ : Z.Warmed39 s.vm) (hw : ∀ d ∈ tables_1, d.before a0 Z = true) (hby : c.code = prog_42_method_4_code) (hml : c.maxLocals = 3) (hown : s.vm.findClass "com/example/lehre/lehre/TextPosition" = some m.cls) (hret : meth.sig.returnType = none) (hlk : meth.locks = false) (e0 : T0.heap = h0) (Z0 : n0 ≤ h0.size) (N0 : Fr n0 locs) (K0 : own_TP Z h0 o0 w0 w1 w2 w3) (g0 : n0 ≤ o0) (hP : ∀ h' : Heap, own_TP Z h' o0 (f8_75 x1 x2 w0 w1 w2 w3).1 (f8_75 x1 x2 w0 w1 w2 w3).2.1 (f8_75 x1 x2 w0 w1 w2 w3).2.2.1 (f8_75 x1 x2 w0 w1 w2 w3).2.2.2 → P none h') :
    own_Goes p e below s n0 0 0 P (T0.setTop (mkF m 75 #[.val (.ref o0), .val (.int x1), .val (.int x2)] [])) := by
  have pre1 : ∀ t, Steps p.tables e below (T0.setTop (mkF m 79 #[.val (.ref o0), .val (.int x1), .val (.int x2)] [(.int (8232 : Int32)), (.int x1)])) t → Steps p.tables e below (T0.setTop (mkF m 75 #[.val (.ref o0), .val (.int x1), .val (.int x2)] [])) t := fun t kt => by
    show Steps p.tables e below (T0.setTop (mkF m 75 #[.val (.ref o0), .val (.int x1), .val (.int x2)] [])) _
    refine XS.iloadN X0.here hx rfl (hb hby d8_75) rfl ?_
    show Steps p.tables e below (T0.setTop (mkF m 76 #[.val (.ref o0), .val (.int x1), .val (.int x2)] [(.int x1)])) _
    refine XS.sipush X0.here hx rfl (hb hby d8_76) ?_
    exact kt
  refine own_Goes.pre pre1 ?_
  by_cases hc : x1 = (8232 : Int32)
  · rw [f8_75, if_pos hc] at hP
    refine own_Goes.pre (fun t kt => ?_) (b8_82 o0 x1 x2 w0 w1 w2 w3 X0 hx hZ hw hby hml hown hret hlk e0 Z0 N0 K0 g0 hP)
    show Steps p.tables e below (T0.setTop (mkF m 79 #[.val (.ref o0), .val (.int x1), .val (.int x2)] [(.int (8232 : Int32)), (.int x1)])) _
    refine XS.icmpNo X0.here hx rfl (hb hby d8_79) rfl (teq hc).2 ?_
    exact kt
  · rw [f8_75, if_neg hc] at hP
    refine own_Goes.pre (fun t kt => ?_) (b8_100 o0 x1 x2 w0 w1 w2 w3 X0 hx hZ hw hby hml hown hret hlk e0 Z0 N0 K0 g0 hP)
    show Steps p.tables e below (T0.setTop (mkF m 79 #[.val (.ref o0), .val (.int x1), .val (.int x2)] [(.int (8232 : Int32)), (.int x1)])) _
    refine XS.icmpYes X0.here hx rfl (pc0 := 79) (pc' := 100) rfl (hb hby d8_79) rfl (feq hc).2 (by decide) (by decide) ?_
    exact kt
def f8_68 (x1 : Int32) (x2 : Int32) (w0 : Int32) (w1 : Int32) (w2 : Int32) (w3 : Int32) : Int32 × Int32 × Int32 × Int32 := if w2 = (0 : Int32) then (f8_100 x1 x2 w0 w1 w2 w3) else (f8_75 x1 x2 w0 w1 w2 w3)
set_option maxRecDepth 65536 in
set_option maxHeartbeats 40000000 in
theorem b8_68 {p : Program} {l : Launch} {e : Env} {s : State} {m : MethodId} {args : Array Value} {below : List Frame} {meth : Method} {c : Code} {T0 : State} {locs : List Loc} {Z : State} {a0 : Array Value} {h0 : Heap} {n0 : Nat} {P : Option Value → Heap → Prop} (o0 : Addr) (x1 : Int32) (x2 : Int32) (w0 : Int32) (w1 : Int32) (w2 : Int32) (w3 : Int32) (X0 : Stand p l e ({ frames := 0, cells := 0, slots := 0, locals := 0 } : Room) s m args below meth c T0 locs 0 0) (hx : p.tables.exec = Jvm.exec) (hZ : Z.Warmed39 s.vm) (hw : ∀ d ∈ tables_1, d.before a0 Z = true) (hby : c.code = prog_42_method_4_code) (hml : c.maxLocals = 3) (hown : s.vm.findClass "com/example/lehre/lehre/TextPosition" = some m.cls) (hret : meth.sig.returnType = none) (hlk : meth.locks = false) (e0 : T0.heap = h0) (Z0 : n0 ≤ h0.size) (N0 : Fr n0 locs) (K0 : own_TP Z h0 o0 w0 w1 w2 w3) (g0 : n0 ≤ o0) (hP : ∀ h' : Heap, own_TP Z h' o0 (f8_68 x1 x2 w0 w1 w2 w3).1 (f8_68 x1 x2 w0 w1 w2 w3).2.1 (f8_68 x1 x2 w0 w1 w2 w3).2.2.1 (f8_68 x1 x2 w0 w1 w2 w3).2.2.2 → P none h') :
    own_Goes p e below s n0 0 0 P (T0.setTop (mkF m 68 #[.val (.ref o0), .val (.int x1), .val (.int x2)] [])) := by
  obtain ⟨T69, X69, e69, st69⟩ := own_gX X0 hx hZ hw hown e0 K0 (pc := 69) (Ls := #[.val (.ref o0), .val (.int x1), .val (.int x2)]) (rest := []) (hb hby d8_69)
  have pre1 : ∀ t, Steps p.tables e below (T69.setTop (mkF m 72 #[.val (.ref o0), .val (.int x1), .val (.int x2)] [(.int w2)])) t → Steps p.tables e below (T0.setTop (mkF m 68 #[.val (.ref o0), .val (.int x1), .val (.int x2)] [])) t := fun t kt => by
    show Steps p.tables e below (T0.setTop (mkF m 68 #[.val (.ref o0), .val (.int x1), .val (.int x2)] [])) _
    refine XS.aloadN X0.here hx rfl (hb hby d8_68) rfl rfl ?_
    show Steps p.tables e below (T0.setTop (mkF m 69 #[.val (.ref o0), .val (.int x1), .val (.int x2)] [(.ref o0)])) _
    refine st69 _ ?_
    exact kt
  refine own_Goes.pre pre1 ?_
  by_cases hc : w2 = (0 : Int32)
  · rw [f8_68, if_pos hc] at hP
    refine own_Goes.pre (fun t kt => ?_) (b8_100 o0 x1 x2 w0 w1 w2 w3 X69 hx hZ hw hby hml hown hret hlk e69 Z0 N0 K0 g0 hP)
    show Steps p.tables e below (T69.setTop (mkF m 72 #[.val (.ref o0), .val (.int x1), .val (.int x2)] [(.int w2)])) _
    refine XS.ifYes X69.here hx rfl (pc0 := 72) (pc' := 100) rfl (hb hby d8_72) rfl ((if0 _ _).trans (teq hc).1) (by decide) (by decide) ?_
    exact kt
  · rw [f8_68, if_neg hc] at hP
    refine own_Goes.pre (fun t kt => ?_) (b8_75 o0 x1 x2 w0 w1 w2 w3 X69 hx hZ hw hby hml hown hret hlk e69 Z0 N0 K0 g0 hP)
    show Steps p.tables e below (T69.setTop (mkF m 72 #[.val (.ref o0), .val (.int x1), .val (.int x2)] [(.int w2)])) _
    refine XS.ifNo X69.here hx rfl (hb hby d8_72) rfl ((if0 _ _).trans (feq hc).1) ?_
    exact kt
def f8_62 (x1 : Int32) (x2 : Int32) (w0 : Int32) (w1 : Int32) (w2 : Int32) (w3 : Int32) : Int32 × Int32 × Int32 × Int32 := if x1 = (13 : Int32) then (f8_82 x1 x2 w0 w1 w2 w3) else (f8_68 x1 x2 w0 w1 w2 w3)
set_option maxRecDepth 65536 in
set_option maxHeartbeats 40000000 in
theorem b8_62 {p : Program} {l : Launch} {e : Env} {s : State} {m : MethodId} {args : Array Value} {below : List Frame} {meth : Method} {c : Code} {T0 : State} {locs : List Loc} {Z : State} {a0 : Array Value} {h0 : Heap} {n0 : Nat} {P : Option Value → Heap → Prop} (o0 : Addr) (x1 : Int32) (x2 : Int32) (w0 : Int32) (w1 : Int32) (w2 : Int32) (w3 : Int32) (X0 : Stand p l e ({ frames := 0, cells := 0, slots := 0, locals := 0 } : Room) s m args below meth c T0 locs 0 0) (hx : p.tables.exec = Jvm.exec) (hZ : Z.Warmed39 s.vm) (hw : ∀ d ∈ tables_1, d.before a0 Z = true) (hby : c.code = prog_42_method_4_code) (hml : c.maxLocals = 3) (hown : s.vm.findClass "com/example/lehre/lehre/TextPosition" = some m.cls) (hret : meth.sig.returnType = none) (hlk : meth.locks = false) (e0 : T0.heap = h0) (Z0 : n0 ≤ h0.size) (N0 : Fr n0 locs) (K0 : own_TP Z h0 o0 w0 w1 w2 w3) (g0 : n0 ≤ o0) (hP : ∀ h' : Heap, own_TP Z h' o0 (f8_62 x1 x2 w0 w1 w2 w3).1 (f8_62 x1 x2 w0 w1 w2 w3).2.1 (f8_62 x1 x2 w0 w1 w2 w3).2.2.1 (f8_62 x1 x2 w0 w1 w2 w3).2.2.2 → P none h') :
    own_Goes p e below s n0 0 0 P (T0.setTop (mkF m 62 #[.val (.ref o0), .val (.int x1), .val (.int x2)] [])) := by
  have pre1 : ∀ t, Steps p.tables e below (T0.setTop (mkF m 65 #[.val (.ref o0), .val (.int x1), .val (.int x2)] [(.int (13 : Int32)), (.int x1)])) t → Steps p.tables e below (T0.setTop (mkF m 62 #[.val (.ref o0), .val (.int x1), .val (.int x2)] [])) t := fun t kt => by
    show Steps p.tables e below (T0.setTop (mkF m 62 #[.val (.ref o0), .val (.int x1), .val (.int x2)] [])) _
    refine XS.iloadN X0.here hx rfl (hb hby d8_62) rfl ?_
    show Steps p.tables e below (T0.setTop (mkF m 63 #[.val (.ref o0), .val (.int x1), .val (.int x2)] [(.int x1)])) _
    refine XS.bipush X0.here hx rfl (hb hby d8_63) ?_
    exact kt
  refine own_Goes.pre pre1 ?_
  by_cases hc : x1 = (13 : Int32)
  · rw [f8_62, if_pos hc] at hP
    refine own_Goes.pre (fun t kt => ?_) (b8_82 o0 x1 x2 w0 w1 w2 w3 X0 hx hZ hw hby hml hown hret hlk e0 Z0 N0 K0 g0 hP)
    show Steps p.tables e below (T0.setTop (mkF m 65 #[.val (.ref o0), .val (.int x1), .val (.int x2)] [(.int (13 : Int32)), (.int x1)])) _
    refine XS.icmpYes X0.here hx rfl (pc0 := 65) (pc' := 82) rfl (hb hby d8_65) rfl (teq hc).1 (by decide) (by decide) ?_
    exact kt
  · rw [f8_62, if_neg hc] at hP
    refine own_Goes.pre (fun t kt => ?_) (b8_68 o0 x1 x2 w0 w1 w2 w3 X0 hx hZ hw hby hml hown hret hlk e0 Z0 N0 K0 g0 hP)
    show Steps p.tables e below (T0.setTop (mkF m 65 #[.val (.ref o0), .val (.int x1), .val (.int x2)] [(.int (13 : Int32)), (.int x1)])) _
    refine XS.icmpNo X0.here hx rfl (hb hby d8_65) rfl (feq hc).1 ?_
    exact kt
def f8_33 (x1 : Int32) (x2 : Int32) (w0 : Int32) (w1 : Int32) (w2 : Int32) (w3 : Int32) : Int32 × Int32 × Int32 × Int32 := if x1 = (133 : Int32) then (f8_40 x1 x2 w0 w1 w2 w3) else (f8_62 x1 x2 w0 w1 w2 w3)
set_option maxRecDepth 65536 in
set_option maxHeartbeats 40000000 in
theorem b8_33 {p : Program} {l : Launch} {e : Env} {s : State} {m : MethodId} {args : Array Value} {below : List Frame} {meth : Method} {c : Code} {T0 : State} {locs : List Loc} {Z : State} {a0 : Array Value} {h0 : Heap} {n0 : Nat} {P : Option Value → Heap → Prop} (o0 : Addr) (x1 : Int32) (x2 : Int32) (w0 : Int32) (w1 : Int32) (w2 : Int32) (w3 : Int32) (X0 : Stand p l e ({ frames := 0, cells := 0, slots := 0, locals := 0 } : Room) s m args below meth c T0 locs 0 0) (hx : p.tables.exec = Jvm.exec) (hZ : Z.Warmed39 s.vm) (hw : ∀ d ∈ tables_1, d.before a0 Z = true) (hby : c.code = prog_42_method_4_code) (hml : c.maxLocals = 3) (hown : s.vm.findClass "com/example/lehre/lehre/TextPosition" = some m.cls) (hret : meth.sig.returnType = none) (hlk : meth.locks = false) (e0 : T0.heap = h0) (Z0 : n0 ≤ h0.size) (N0 : Fr n0 locs) (K0 : own_TP Z h0 o0 w0 w1 w2 w3) (g0 : n0 ≤ o0) (hP : ∀ h' : Heap, own_TP Z h' o0 (f8_33 x1 x2 w0 w1 w2 w3).1 (f8_33 x1 x2 w0 w1 w2 w3).2.1 (f8_33 x1 x2 w0 w1 w2 w3).2.2.1 (f8_33 x1 x2 w0 w1 w2 w3).2.2.2 → P none h') :
    own_Goes p e below s n0 0 0 P (T0.setTop (mkF m 33 #[.val (.ref o0), .val (.int x1), .val (.int x2)] [])) := by
  have pre1 : ∀ t, Steps p.tables e below (T0.setTop (mkF m 37 #[.val (.ref o0), .val (.int x1), .val (.int x2)] [(.int (133 : Int32)), (.int x1)])) t → Steps p.tables e below (T0.setTop (mkF m 33 #[.val (.ref o0), .val (.int x1), .val (.int x2)] [])) t := fun t kt => by
    show Steps p.tables e below (T0.setTop (mkF m 33 #[.val (.ref o0), .val (.int x1), .val (.int x2)] [])) _
    refine XS.iloadN X0.here hx rfl (hb hby d8_33) rfl ?_
    show Steps p.tables e below (T0.setTop (mkF m 34 #[.val (.ref o0), .val (.int x1), .val (.int x2)] [(.int x1)])) _
    refine XS.sipush X0.here hx rfl (hb hby d8_34) ?_
    exact kt
  refine own_Goes.pre pre1 ?_
  by_cases hc : x1 = (133 : Int32)
  · rw [f8_33, if_pos hc] at hP
    refine own_Goes.pre (fun t kt => ?_) (b8_40 o0 x1 x2 w0 w1 w2 w3 X0 hx hZ hw hby hml hown hret hlk e0 Z0 N0 K0 g0 hP)
    show Steps p.tables e below (T0.setTop (mkF m 37 #[.val (.ref o0), .val (.int x1), .val (.int x2)] [(.int (133 : Int32)), (.int x1)])) _
    refine XS.icmpNo X0.here hx rfl (hb hby d8_37) rfl (teq hc).2 ?_
    exact kt
  · rw [f8_33, if_neg hc] at hP
    refine own_Goes.pre (fun t kt => ?_) (b8_62 o0 x1 x2 w0 w1 w2 w3 X0 hx hZ hw hby hml hown hret hlk e0 Z0 N0 K0 g0 hP)
    show Steps p.tables e below (T0.setTop (mkF m 37 #[.val (.ref o0), .val (.int x1), .val (.int x2)] [(.int (133 : Int32)), (.int x1)])) _
    refine XS.icmpYes X0.here hx rfl (pc0 := 37) (pc' := 62) rfl (hb hby d8_37) rfl (feq hc).2 (by decide) (by decide) ?_
    exact kt
def f8_26 (x1 : Int32) (x2 : Int32) (w0 : Int32) (w1 : Int32) (w2 : Int32) (w3 : Int32) : Int32 × Int32 × Int32 × Int32 := if w2 = (0 : Int32) then (f8_62 x1 x2 w0 w1 w2 w3) else (f8_33 x1 x2 w0 w1 w2 w3)
set_option maxRecDepth 65536 in
set_option maxHeartbeats 40000000 in
theorem b8_26 {p : Program} {l : Launch} {e : Env} {s : State} {m : MethodId} {args : Array Value} {below : List Frame} {meth : Method} {c : Code} {T0 : State} {locs : List Loc} {Z : State} {a0 : Array Value} {h0 : Heap} {n0 : Nat} {P : Option Value → Heap → Prop} (o0 : Addr) (x1 : Int32) (x2 : Int32) (w0 : Int32) (w1 : Int32) (w2 : Int32) (w3 : Int32) (X0 : Stand p l e ({ frames := 0, cells := 0, slots := 0, locals := 0 } : Room) s m args below meth c T0 locs 0 0) (hx : p.tables.exec = Jvm.exec) (hZ : Z.Warmed39 s.vm) (hw : ∀ d ∈ tables_1, d.before a0 Z = true) (hby : c.code = prog_42_method_4_code) (hml : c.maxLocals = 3) (hown : s.vm.findClass "com/example/lehre/lehre/TextPosition" = some m.cls) (hret : meth.sig.returnType = none) (hlk : meth.locks = false) (e0 : T0.heap = h0) (Z0 : n0 ≤ h0.size) (N0 : Fr n0 locs) (K0 : own_TP Z h0 o0 w0 w1 w2 w3) (g0 : n0 ≤ o0) (hP : ∀ h' : Heap, own_TP Z h' o0 (f8_26 x1 x2 w0 w1 w2 w3).1 (f8_26 x1 x2 w0 w1 w2 w3).2.1 (f8_26 x1 x2 w0 w1 w2 w3).2.2.1 (f8_26 x1 x2 w0 w1 w2 w3).2.2.2 → P none h') :
    own_Goes p e below s n0 0 0 P (T0.setTop (mkF m 26 #[.val (.ref o0), .val (.int x1), .val (.int x2)] [])) := by
  obtain ⟨T27, X27, e27, st27⟩ := own_gX X0 hx hZ hw hown e0 K0 (pc := 27) (Ls := #[.val (.ref o0), .val (.int x1), .val (.int x2)]) (rest := []) (hb hby d8_27)
  have pre1 : ∀ t, Steps p.tables e below (T27.setTop (mkF m 30 #[.val (.ref o0), .val (.int x1), .val (.int x2)] [(.int w2)])) t → Steps p.tables e below (T0.setTop (mkF m 26 #[.val (.ref o0), .val (.int x1), .val (.int x2)] [])) t := fun t kt => by
    show Steps p.tables e below (T0.setTop (mkF m 26 #[.val (.ref o0), .val (.int x1), .val (.int x2)] [])) _
    refine XS.aloadN X0.here hx rfl (hb hby d8_26) rfl rfl ?_
    show Steps p.tables e below (T0.setTop (mkF m 27 #[.val (.ref o0), .val (.int x1), .val (.int x2)] [(.ref o0)])) _
    refine st27 _ ?_
    exact kt
  refine own_Goes.pre pre1 ?_
  by_cases hc : w2 = (0 : Int32)
  · rw [f8_26, if_pos hc] at hP
    refine own_Goes.pre (fun t kt => ?_) (b8_62 o0 x1 x2 w0 w1 w2 w3 X27 hx hZ hw hby hml hown hret hlk e27 Z0 N0 K0 g0 hP)
    show Steps p.tables e below (T27.setTop (mkF m 30 #[.val (.ref o0), .val (.int x1), .val (.int x2)] [(.int w2)])) _
    refine XS.ifYes X27.here hx rfl (pc0 := 30) (pc' := 62) rfl (hb hby d8_30) rfl ((if0 _ _).trans (teq hc).1) (by decide) (by decide) ?_
    exact kt
  · rw [f8_26, if_neg hc] at hP
    refine own_Goes.pre (fun t kt => ?_) (b8_33 o0 x1 x2 w0 w1 w2 w3 X27 hx hZ hw hby hml hown hret hlk e27 Z0 N0 K0 g0 hP)
    show Steps p.tables e below (T27.setTop (mkF m 30 #[.val (.ref o0), .val (.int x1), .val (.int x2)] [(.int w2)])) _
    refine XS.ifNo X27.here hx rfl (hb hby d8_30) rfl ((if0 _ _).trans (feq hc).1) ?_
    exact kt
def f8_14 (x1 : Int32) (w0 : Int32) (w1 : Int32) (w2 : Int32) (w3 : Int32) (y0 : Int32) : Int32 × Int32 × Int32 × Int32 := if x1 = (10 : Int32) then (f8_40 x1 y0 w0 w1 w2 (nar .char x1)) else (f8_26 x1 y0 w0 w1 w2 (nar .char x1))
set_option maxRecDepth 65536 in
set_option maxHeartbeats 40000000 in
theorem b8_14 {p : Program} {l : Launch} {e : Env} {s : State} {m : MethodId} {args : Array Value} {below : List Frame} {meth : Method} {c : Code} {T0 : State} {locs : List Loc} {Z : State} {a0 : Array Value} {h0 : Heap} {n0 : Nat} {P : Option Value → Heap → Prop} (o0 : Addr) (x1 : Int32) (w0 : Int32) (w1 : Int32) (w2 : Int32) (w3 : Int32) (y0 : Int32) (X0 : Stand p l e ({ frames := 0, cells := 0, slots := 0, locals := 0 } : Room) s m args below meth c T0 locs 0 0) (hx : p.tables.exec = Jvm.exec) (hZ : Z.Warmed39 s.vm) (hw : ∀ d ∈ tables_1, d.before a0 Z = true) (hby : c.code = prog_42_method_4_code) (hml : c.maxLocals = 3) (hown : s.vm.findClass "com/example/lehre/lehre/TextPosition" = some m.cls) (hret : meth.sig.returnType = none) (hlk : meth.locks = false) (e0 : T0.heap = h0) (Z0 : n0 ≤ h0.size) (N0 : Fr n0 locs) (K0 : own_TP Z h0 o0 w0 w1 w2 w3) (g0 : n0 ≤ o0) (hP : ∀ h' : Heap, own_TP Z h' o0 (f8_14 x1 w0 w1 w2 w3 y0).1 (f8_14 x1 w0 w1 w2 w3 y0).2.1 (f8_14 x1 w0 w1 w2 w3 y0).2.2.1 (f8_14 x1 w0 w1 w2 w3 y0).2.2.2 → P none h') :
    own_Goes p e below s n0 0 0 P (T0.setTop (mkF m 14 #[.val (.ref o0), .val (.int x1), .unset] [(.int y0)])) := by
  obtain ⟨T17, h17, L17, X17, e17, Z17, N17, K17, st17⟩ := own_sP X0 hx hZ hw hown e0 K0 g0 N0 (pc := 17) (Ls := #[.val (.ref o0), .val (.int x1), .val (.int y0)]) (rest := []) x1 (hb hby d8_17)
  have pre1 : ∀ t, Steps p.tables e below (T17.setTop (mkF m 23 #[.val (.ref o0), .val (.int x1), .val (.int y0)] [(.int (10 : Int32)), (.int x1)])) t → Steps p.tables e below (T0.setTop (mkF m 14 #[.val (.ref o0), .val (.int x1), .unset] [(.int y0)])) t := fun t kt => by
    show Steps p.tables e below (T0.setTop (mkF m 14 #[.val (.ref o0), .val (.int x1), .unset] [(.int y0)])) _
    refine XS.istoreN X0.here hx rfl (hb hby d8_14) rfl (l' := #[.val (.ref o0), .val (.int x1), .val (.int y0)]) rfl ?_
    show Steps p.tables e below (T0.setTop (mkF m 15 #[.val (.ref o0), .val (.int x1), .val (.int y0)] [])) _
    refine XS.aloadN X0.here hx rfl (hb hby d8_15) rfl rfl ?_
    show Steps p.tables e below (T0.setTop (mkF m 16 #[.val (.ref o0), .val (.int x1), .val (.int y0)] [(.ref o0)])) _
    refine XS.iloadN X0.here hx rfl (hb hby d8_16) rfl ?_
    show Steps p.tables e below (T0.setTop (mkF m 17 #[.val (.ref o0), .val (.int x1), .val (.int y0)] [(.int x1), (.ref o0)])) _
    refine st17 _ ?_
    show Steps p.tables e below (T17.setTop (mkF m 20 #[.val (.ref o0), .val (.int x1), .val (.int y0)] [])) _
    refine XS.iloadN X17.here hx rfl (hb hby d8_20) rfl ?_
    show Steps p.tables e below (T17.setTop (mkF m 21 #[.val (.ref o0), .val (.int x1), .val (.int y0)] [(.int x1)])) _
    refine XS.bipush X17.here hx rfl (hb hby d8_21) ?_
    exact kt
  refine own_Goes.pre pre1 ?_
  by_cases hc : x1 = (10 : Int32)
  · rw [f8_14, if_pos hc] at hP
    refine own_Goes.pre (fun t kt => ?_) (b8_40 o0 x1 y0 w0 w1 w2 (nar .char x1) X17 hx hZ hw hby hml hown hret hlk e17 Z17 N17 K17 g0 hP)
    show Steps p.tables e below (T17.setTop (mkF m 23 #[.val (.ref o0), .val (.int x1), .val (.int y0)] [(.int (10 : Int32)), (.int x1)])) _
    refine XS.icmpYes X17.here hx rfl (pc0 := 23) (pc' := 40) rfl (hb hby d8_23) rfl (teq hc).1 (by decide) (by decide) ?_
    exact kt
  · rw [f8_14, if_neg hc] at hP
    refine own_Goes.pre (fun t kt => ?_) (b8_26 o0 x1 y0 w0 w1 w2 (nar .char x1) X17 hx hZ hw hby hml hown hret hlk e17 Z17 N17 K17 g0 hP)
    show Steps p.tables e below (T17.setTop (mkF m 23 #[.val (.ref o0), .val (.int x1), .val (.int y0)] [(.int (10 : Int32)), (.int x1)])) _
    refine XS.icmpNo X17.here hx rfl (hb hby d8_23) rfl (feq hc).1 ?_
    exact kt
def f8_13 (x1 : Int32) (w0 : Int32) (w1 : Int32) (w2 : Int32) (w3 : Int32) : Int32 × Int32 × Int32 × Int32 := (f8_14 x1 w0 w1 w2 w3 (0 : Int32))
set_option maxRecDepth 65536 in
set_option maxHeartbeats 40000000 in
theorem b8_13 {p : Program} {l : Launch} {e : Env} {s : State} {m : MethodId} {args : Array Value} {below : List Frame} {meth : Method} {c : Code} {T0 : State} {locs : List Loc} {Z : State} {a0 : Array Value} {h0 : Heap} {n0 : Nat} {P : Option Value → Heap → Prop} (o0 : Addr) (x1 : Int32) (w0 : Int32) (w1 : Int32) (w2 : Int32) (w3 : Int32) (X0 : Stand p l e ({ frames := 0, cells := 0, slots := 0, locals := 0 } : Room) s m args below meth c T0 locs 0 0) (hx : p.tables.exec = Jvm.exec) (hZ : Z.Warmed39 s.vm) (hw : ∀ d ∈ tables_1, d.before a0 Z = true) (hby : c.code = prog_42_method_4_code) (hml : c.maxLocals = 3) (hown : s.vm.findClass "com/example/lehre/lehre/TextPosition" = some m.cls) (hret : meth.sig.returnType = none) (hlk : meth.locks = false) (e0 : T0.heap = h0) (Z0 : n0 ≤ h0.size) (N0 : Fr n0 locs) (K0 : own_TP Z h0 o0 w0 w1 w2 w3) (g0 : n0 ≤ o0) (hP : ∀ h' : Heap, own_TP Z h' o0 (f8_13 x1 w0 w1 w2 w3).1 (f8_13 x1 w0 w1 w2 w3).2.1 (f8_13 x1 w0 w1 w2 w3).2.2.1 (f8_13 x1 w0 w1 w2 w3).2.2.2 → P none h') :
    own_Goes p e below s n0 0 0 P (T0.setTop (mkF m 13 #[.val (.ref o0), .val (.int x1), .unset] [])) := by
  rw [f8_13] at hP
  refine own_Goes.pre (fun t kt => ?_) (b8_14 o0 x1 w0 w1 w2 w3 (0 : Int32) X0 hx hZ hw hby hml hown hret hlk e0 Z0 N0 K0 g0 hP)
  show Steps p.tables e below (T0.setTop (mkF m 13 #[.val (.ref o0), .val (.int x1), .unset] [])) _
  refine XS.iconst X0.here hx rfl (hb hby d8_13) ?_
  exact kt
def f8_9 (x1 : Int32) (w0 : Int32) (w1 : Int32) (w2 : Int32) (w3 : Int32) : Int32 × Int32 × Int32 × Int32 := (f8_14 x1 w0 w1 w2 w3 (1 : Int32))
set_option maxRecDepth 65536 in
set_option maxHeartbeats 40000000 in
theorem b8_9 {p : Program} {l : Launch} {e : Env} {s : State} {m : MethodId} {args : Array Value} {below : List Frame} {meth : Method} {c : Code} {T0 : State} {locs : List Loc} {Z : State} {a0 : Array Value} {h0 : Heap} {n0 : Nat} {P : Option Value → Heap → Prop} (o0 : Addr) (x1 : Int32) (w0 : Int32) (w1 : Int32) (w2 : Int32) (w3 : Int32) (X0 : Stand p l e ({ frames := 0, cells := 0, slots := 0, locals := 0 } : Room) s m args below meth c T0 locs 0 0) (hx : p.tables.exec = Jvm.exec) (hZ : Z.Warmed39 s.vm) (hw : ∀ d ∈ tables_1, d.before a0 Z = true) (hby : c.code = prog_42_method_4_code) (hml : c.maxLocals = 3) (hown : s.vm.findClass "com/example/lehre/lehre/TextPosition" = some m.cls) (hret : meth.sig.returnType = none) (hlk : meth.locks = false) (e0 : T0.heap = h0) (Z0 : n0 ≤ h0.size) (N0 : Fr n0 locs) (K0 : own_TP Z h0 o0 w0 w1 w2 w3) (g0 : n0 ≤ o0) (hP : ∀ h' : Heap, own_TP Z h' o0 (f8_9 x1 w0 w1 w2 w3).1 (f8_9 x1 w0 w1 w2 w3).2.1 (f8_9 x1 w0 w1 w2 w3).2.2.1 (f8_9 x1 w0 w1 w2 w3).2.2.2 → P none h') :
    own_Goes p e below s n0 0 0 P (T0.setTop (mkF m 9 #[.val (.ref o0), .val (.int x1), .unset] [])) := by
  rw [f8_9] at hP
  refine own_Goes.pre (fun t kt => ?_) (b8_14 o0 x1 w0 w1 w2 w3 (1 : Int32) X0 hx hZ hw hby hml hown hret hlk e0 Z0 N0 K0 g0 hP)
  show Steps p.tables e below (T0.setTop (mkF m 9 #[.val (.ref o0), .val (.int x1), .unset] [])) _
  refine XS.iconst X0.here hx rfl (hb hby d8_9) ?_
  show Steps p.tables e below (T0.setTop (mkF m 10 #[.val (.ref o0), .val (.int x1), .unset] [(.int (1 : Int32))])) _
  refine XS.goto X0.here hx rfl (pc0 := 10) (pc' := 14) rfl (hb hby d8_10) (by decide) (by decide) ?_
  exact kt
def f8_0 (x1 : Int32) (w0 : Int32) (w1 : Int32) (w2 : Int32) (w3 : Int32) : Int32 × Int32 × Int32 × Int32 := if w3 = (13 : Int32) then (f8_9 x1 w0 w1 w2 w3) else (f8_13 x1 w0 w1 w2 w3)
set_option maxRecDepth 65536 in
set_option maxHeartbeats 40000000 in
theorem b8_0 {p : Program} {l : Launch} {e : Env} {s : State} {m : MethodId} {args : Array Value} {below : List Frame} {meth : Method} {c : Code} {T0 : State} {locs : List Loc} {Z : State} {a0 : Array Value} {h0 : Heap} {n0 : Nat} {P : Option Value → Heap → Prop} (o0 : Addr) (x1 : Int32) (w0 : Int32) (w1 : Int32) (w2 : Int32) (w3 : Int32) (X0 : Stand p l e ({ frames := 0, cells := 0, slots := 0, locals := 0 } : Room) s m args below meth c T0 locs 0 0) (hx : p.tables.exec = Jvm.exec) (hZ : Z.Warmed39 s.vm) (hw : ∀ d ∈ tables_1, d.before a0 Z = true) (hby : c.code = prog_42_method_4_code) (hml : c.maxLocals = 3) (hown : s.vm.findClass "com/example/lehre/lehre/TextPosition" = some m.cls) (hret : meth.sig.returnType = none) (hlk : meth.locks = false) (e0 : T0.heap = h0) (Z0 : n0 ≤ h0.size) (N0 : Fr n0 locs) (K0 : own_TP Z h0 o0 w0 w1 w2 w3) (g0 : n0 ≤ o0) (hP : ∀ h' : Heap, own_TP Z h' o0 (f8_0 x1 w0 w1 w2 w3).1 (f8_0 x1 w0 w1 w2 w3).2.1 (f8_0 x1 w0 w1 w2 w3).2.2.1 (f8_0 x1 w0 w1 w2 w3).2.2.2 → P none h') :
    own_Goes p e below s n0 0 0 P (T0.setTop (mkF m 0 #[.val (.ref o0), .val (.int x1), .unset] [])) := by
  obtain ⟨T1, X1, e1, st1⟩ := own_gP X0 hx hZ hw hown e0 K0 (pc := 1) (Ls := #[.val (.ref o0), .val (.int x1), .unset]) (rest := []) (hb hby d8_1)
  have pre1 : ∀ t, Steps p.tables e below (T1.setTop (mkF m 6 #[.val (.ref o0), .val (.int x1), .unset] [(.int (13 : Int32)), (.int w3)])) t → Steps p.tables e below (T0.setTop (mkF m 0 #[.val (.ref o0), .val (.int x1), .unset] [])) t := fun t kt => by
    show Steps p.tables e below (T0.setTop (mkF m 0 #[.val (.ref o0), .val (.int x1), .unset] [])) _
    refine XS.aloadN X0.here hx rfl (hb hby d8_0) rfl rfl ?_
    show Steps p.tables e below (T0.setTop (mkF m 1 #[.val (.ref o0), .val (.int x1), .unset] [(.ref o0)])) _
    refine st1 _ ?_
    show Steps p.tables e below (T1.setTop (mkF m 4 #[.val (.ref o0), .val (.int x1), .unset] [(.int w3)])) _
    refine XS.bipush X1.here hx rfl (hb hby d8_4) ?_
    exact kt
  refine own_Goes.pre pre1 ?_
  by_cases hc : w3 = (13 : Int32)
  · rw [f8_0, if_pos hc] at hP
    refine own_Goes.pre (fun t kt => ?_) (b8_9 o0 x1 w0 w1 w2 w3 X1 hx hZ hw hby hml hown hret hlk e1 Z0 N0 K0 g0 hP)
    show Steps p.tables e below (T1.setTop (mkF m 6 #[.val (.ref o0), .val (.int x1), .unset] [(.int (13 : Int32)), (.int w3)])) _
    refine XS.icmpNo X1.here hx rfl (hb hby d8_6) rfl (teq hc).2 ?_
    exact kt
  · rw [f8_0, if_neg hc] at hP
    refine own_Goes.pre (fun t kt => ?_) (b8_13 o0 x1 w0 w1 w2 w3 X1 hx hZ hw hby hml hown hret hlk e1 Z0 N0 K0 g0 hP)
    show Steps p.tables e below (T1.setTop (mkF m 6 #[.val (.ref o0), .val (.int x1), .unset] [(.int (13 : Int32)), (.int w3)])) _
    refine XS.icmpYes X1.here hx rfl (pc0 := 6) (pc' := 13) rfl (hb hby d8_6) rfl (feq hc).2 (by decide) (by decide) ?_
    exact kt
theorem ef8 (m : MethodId) (o0 : Addr) (x1 : Int32) : entryFrame m #[(.ref o0), (.int x1)] 3 = (mkF m 0 #[.val (.ref o0), .val (.int x1), .unset] []) := by first | (simp [entryFrame, mkF, argsToLocals, Value.category]; done) | rfl
set_option maxRecDepth 65536 in
set_option maxHeartbeats 40000000 in
theorem rm8 (l : Launch) (Z : State) (a0 : Array Value) (hw : ∀ d ∈ tables_1, d.before a0 Z = true) (ws : List Jvm.Cond) (o0 : Addr) (x1 : Int32) (w0 : Int32) (w1 : Int32) (w2 : Int32) (w3 : Int32) (h0 : Heap) (n0 : Nat) (Z0 : n0 ≤ h0.size) (K0 : own_TP Z h0 o0 w0 w1 w2 w3) (g0 : n0 ≤ o0) :
    MetFree l (⟨"com/example/lehre/lehre/TextPosition", "advance", "(C)V"⟩ : MethodName) (head1 (Jvm.Cond.code (⟨"com/example/lehre/lehre/TextPosition", "advance", "(C)V"⟩ : MethodName) prog_42_method_4_code 3 none :: ws) ({ frames := 0, cells := 0, slots := 0, locals := 0 } : Room)) (fun a U => a = #[(.ref o0), (.int x1)] ∧ Z.Warmed39 U.vm ∧ U.heap = h0) (fun _ _ _ _ _ => True) (fun _ U o U' => ∃ v L, o = .returned v ∧ own_Q (own_obj Z o0 (f8_0 x1 w0 w1 w2 w3).1 (f8_0 x1 w0 w1 w2 w3).2.1 (f8_0 x1 w0 w1 w2 w3).2.2.1 (f8_0 x1 w0 w1 w2 w3).2.2.2) n0 v U'.heap L ∧ FrameEnd U o U' L ({ frames := 0, cells := 0, slots := 0, locals := 0 } : Room).cells ({ frames := 0, cells := 0, slots := 0, locals := 0 } : Room).slots) := by
  refine MetFree.of_bodySF (plainFor_of_name pn1) hisR ?_
  intro p e s m args below meth c s₁ Bd hml0 hP hK
  obtain ⟨rfl, hZ, hh⟩ := hP
  have hx := Bd.exec
  have hby := Bd.bytes
  have hml : c.maxLocals = 3 := hml0
  have hown : s.vm.findClass "com/example/lehre/lehre/TextPosition" = some m.cls := findClass_of_methodNamed Bd.named
  have X0 : Stand p l e ({ frames := 0, cells := 0, slots := 0, locals := 0 } : Room) s m #[(.ref o0), (.int x1)] below meth c s₁ [] 0 0 := Stand.of_body Bd
  have e0 : s₁.heap = h0 := by rw [← hh, Bd.state]; rfl
  refine own_Goes.pre (S' := s₁.setTop (mkF m 0 #[.val (.ref o0), .val (.int x1), .unset] [])) (P := (own_obj Z o0 (f8_0 x1 w0 w1 w2 w3).1 (f8_0 x1 w0 w1 w2 w3).2.1 (f8_0 x1 w0 w1 w2 w3).2.2.1 (f8_0 x1 w0 w1 w2 w3).2.2.2)) (n0 := n0) (kc := 0) (ks := 0) (fun t k => castTop (ef8 m o0 x1) k) ?_
  exact b8_0 o0 x1 w0 w1 w2 w3 X0 hx hZ hw hby hml hown Bd.returns Bd.notSynchronized e0 Z0 (Fr.nil n0) K0 g0 (fun h' k => ⟨rfl, k⟩)
theorem pd1 : parseMethodDescriptor "()I" = some ⟨[], some .int⟩ := by decide +kernel
theorem pd2 : parseMethodDescriptor "(C)V" = some ⟨[.char], none⟩ := by decide +kernel
def f0B_316 (x0 : Int32) (x1 : Int32) (x2 : Int32) (x3 : Int32) (x4 : Int32) (x5 : Int32) (x6 : Int32) (x7 : Int32) (x8 : Int32) (x9 : Int32) (x10 : Int32) (x11 : Int32) (x12 : Int32) (x13 : Int32) (x14 : Int32) (x15 : Int32) (x16 : Int32) (x18 : Int32) (w0 : Int32) (w1 : Int32) (w2 : Int32) (w3 : Int32) (y0 : Int32) : Int32 := (nar .boolean y0)
set_option maxRecDepth 65536 in
set_option maxHeartbeats 40000000 in
theorem b0B_316 {p : Program} {l : Launch} {e : Env} {s : State} {m : MethodId} {args : Array Value} {below : List Frame} {meth : Method} {c : Code} {T0 : State} {locs : List Loc} {Z : State} {a0 : Array Value} {h0 : Heap} {n0 : Nat} {P : Option Value → Heap → Prop} (x0 : Int32) (x1 : Int32) (x2 : Int32) (x3 : Int32) (x4 : Int32) (x5 : Int32) (x6 : Int32) (x7 : Int32) (x8 : Int32) (x9 : Int32) (x10 : Int32) (x11 : Int32) (x12 : Int32) (x13 : Int32) (x14 : Int32) (x15 : Int32) (x16 : Int32) (o17 : Addr) (x18 : Int32) (w0 : Int32) (w1 : Int32) (w2 : Int32) (w3 : Int32) (y0 : Int32) (X0 : Stand p l e room_1 s m args below meth c T0 locs 1 4) (hx : p.tables.exec = Jvm.exec) (hZ : Z.Warmed39 s.vm) (hw : ∀ d ∈ tables_1, d.before a0 Z = true) (hby : c.code = code) (hml : c.maxLocals = 19) (hown : s.vm.findClass "com/example/lehre/lehre/TextPositionAdvancePinLaw" = some m.cls) (hret : meth.sig.returnType = some .boolean) (hlk : meth.locks = false) (e0 : T0.heap = h0) (Z0 : n0 ≤ h0.size) (N0 : Fr n0 locs) (K0 : own_TP Z h0 o17 w0 w1 w2 w3) (g0 : n0 ≤ o17) (hP : ∀ h' : Heap, P (some (.int (f0B_316 x0 x1 x2 x3 x4 x5 x6 x7 x8 x9 x10 x11 x12 x13 x14 x15 x16 x18 w0 w1 w2 w3 y0))) h') :
    own_Goes p e below s n0 room_1.cells room_1.slots P (T0.setTop (mkF m 316 #[.val (.int x0), .val (.int x1), .val (.int x2), .val (.int x3), .val (.int x4), .val (.int x5), .val (.int x6), .val (.int x7), .val (.int x8), .val (.int x9), .val (.int x10), .val (.int x11), .val (.int x12), .val (.int x13), .val (.int x14), .val (.int x15), .val (.int x16), .val (.ref o17), .val (.int x18)] [(.int y0)])) := by
  rw [f0B_316] at hP
  refine own_Goes.pre (fun t kt => ?_) (own_retN X0 hx hlk hret (by simp) (hb hby at_320) N0 (hP _) (by decide) (by decide) (Ls := #[.val (.int x0), .val (.int x1), .val (.int x2), .val (.int x3), .val (.int x4), .val (.int x5), .val (.int x6), .val (.int x7), .val (.int x8), .val (.int x9), .val (.int x10), .val (.int x11), .val (.int x12), .val (.int x13), .val (.int x14), .val (.int x15), .val (.int x16), .val (.ref o17), .val (.int y0)]) (rest := []) (z := y0))
  show Steps p.tables e below (T0.setTop (mkF m 316 #[.val (.int x0), .val (.int x1), .val (.int x2), .val (.int x3), .val (.int x4), .val (.int x5), .val (.int x6), .val (.int x7), .val (.int x8), .val (.int x9), .val (.int x10), .val (.int x11), .val (.int x12), .val (.int x13), .val (.int x14), .val (.int x15), .val (.int x16), .val (.ref o17), .val (.int x18)] [(.int y0)])) _
  refine XS.istore X0.here hx rfl (hb hby at_316) rfl (l' := #[.val (.int x0), .val (.int x1), .val (.int x2), .val (.int x3), .val (.int x4), .val (.int x5), .val (.int x6), .val (.int x7), .val (.int x8), .val (.int x9), .val (.int x10), .val (.int x11), .val (.int x12), .val (.int x13), .val (.int x14), .val (.int x15), .val (.int x16), .val (.ref o17), .val (.int y0)]) rfl ?_
  show Steps p.tables e below (T0.setTop (mkF m 318 #[.val (.int x0), .val (.int x1), .val (.int x2), .val (.int x3), .val (.int x4), .val (.int x5), .val (.int x6), .val (.int x7), .val (.int x8), .val (.int x9), .val (.int x10), .val (.int x11), .val (.int x12), .val (.int x13), .val (.int x14), .val (.int x15), .val (.int x16), .val (.ref o17), .val (.int y0)] [])) _
  refine XS.iload X0.here hx rfl (hb hby at_318) rfl ?_
  exact kt
def f0B_315 (x0 : Int32) (x1 : Int32) (x2 : Int32) (x3 : Int32) (x4 : Int32) (x5 : Int32) (x6 : Int32) (x7 : Int32) (x8 : Int32) (x9 : Int32) (x10 : Int32) (x11 : Int32) (x12 : Int32) (x13 : Int32) (x14 : Int32) (x15 : Int32) (x16 : Int32) (x18 : Int32) (w0 : Int32) (w1 : Int32) (w2 : Int32) (w3 : Int32) : Int32 := (f0B_316 x0 x1 x2 x3 x4 x5 x6 x7 x8 x9 x10 x11 x12 x13 x14 x15 x16 x18 w0 w1 w2 w3 (0 : Int32))
set_option maxRecDepth 65536 in
set_option maxHeartbeats 40000000 in
theorem b0B_315 {p : Program} {l : Launch} {e : Env} {s : State} {m : MethodId} {args : Array Value} {below : List Frame} {meth : Method} {c : Code} {T0 : State} {locs : List Loc} {Z : State} {a0 : Array Value} {h0 : Heap} {n0 : Nat} {P : Option Value → Heap → Prop} (x0 : Int32) (x1 : Int32) (x2 : Int32) (x3 : Int32) (x4 : Int32) (x5 : Int32) (x6 : Int32) (x7 : Int32) (x8 : Int32) (x9 : Int32) (x10 : Int32) (x11 : Int32) (x12 : Int32) (x13 : Int32) (x14 : Int32) (x15 : Int32) (x16 : Int32) (o17 : Addr) (x18 : Int32) (w0 : Int32) (w1 : Int32) (w2 : Int32) (w3 : Int32) (X0 : Stand p l e room_1 s m args below meth c T0 locs 1 4) (hx : p.tables.exec = Jvm.exec) (hZ : Z.Warmed39 s.vm) (hw : ∀ d ∈ tables_1, d.before a0 Z = true) (hby : c.code = code) (hml : c.maxLocals = 19) (hown : s.vm.findClass "com/example/lehre/lehre/TextPositionAdvancePinLaw" = some m.cls) (hret : meth.sig.returnType = some .boolean) (hlk : meth.locks = false) (e0 : T0.heap = h0) (Z0 : n0 ≤ h0.size) (N0 : Fr n0 locs) (K0 : own_TP Z h0 o17 w0 w1 w2 w3) (g0 : n0 ≤ o17) (hP : ∀ h' : Heap, P (some (.int (f0B_315 x0 x1 x2 x3 x4 x5 x6 x7 x8 x9 x10 x11 x12 x13 x14 x15 x16 x18 w0 w1 w2 w3))) h') :
    own_Goes p e below s n0 room_1.cells room_1.slots P (T0.setTop (mkF m 315 #[.val (.int x0), .val (.int x1), .val (.int x2), .val (.int x3), .val (.int x4), .val (.int x5), .val (.int x6), .val (.int x7), .val (.int x8), .val (.int x9), .val (.int x10), .val (.int x11), .val (.int x12), .val (.int x13), .val (.int x14), .val (.int x15), .val (.int x16), .val (.ref o17), .val (.int x18)] [])) := by
  rw [f0B_315] at hP
  refine own_Goes.pre (fun t kt => ?_) (b0B_316 x0 x1 x2 x3 x4 x5 x6 x7 x8 x9 x10 x11 x12 x13 x14 x15 x16 o17 x18 w0 w1 w2 w3 (0 : Int32) X0 hx hZ hw hby hml hown hret hlk e0 Z0 N0 K0 g0 hP)
  show Steps p.tables e below (T0.setTop (mkF m 315 #[.val (.int x0), .val (.int x1), .val (.int x2), .val (.int x3), .val (.int x4), .val (.int x5), .val (.int x6), .val (.int x7), .val (.int x8), .val (.int x9), .val (.int x10), .val (.int x11), .val (.int x12), .val (.int x13), .val (.int x14), .val (.int x15), .val (.int x16), .val (.ref o17), .val (.int x18)] [])) _
  refine XS.iconst X0.here hx rfl (hb hby at_315) ?_
  exact kt
def f0B_311 (x0 : Int32) (x1 : Int32) (x2 : Int32) (x3 : Int32) (x4 : Int32) (x5 : Int32) (x6 : Int32) (x7 : Int32) (x8 : Int32) (x9 : Int32) (x10 : Int32) (x11 : Int32) (x12 : Int32) (x13 : Int32) (x14 : Int32) (x15 : Int32) (x16 : Int32) (x18 : Int32) (w0 : Int32) (w1 : Int32) (w2 : Int32) (w3 : Int32) : Int32 := (f0B_316 x0 x1 x2 x3 x4 x5 x6 x7 x8 x9 x10 x11 x12 x13 x14 x15 x16 x18 w0 w1 w2 w3 (1 : Int32))
set_option maxRecDepth 65536 in
set_option maxHeartbeats 40000000 in
theorem b0B_311 {p : Program} {l : Launch} {e : Env} {s : State} {m : MethodId} {args : Array Value} {below : List Frame} {meth : Method} {c : Code} {T0 : State} {locs : List Loc} {Z : State} {a0 : Array Value} {h0 : Heap} {n0 : Nat} {P : Option Value → Heap → Prop} (x0 : Int32) (x1 : Int32) (x2 : Int32) (x3 : Int32) (x4 : Int32) (x5 : Int32) (x6 : Int32) (x7 : Int32) (x8 : Int32) (x9 : Int32) (x10 : Int32) (x11 : Int32) (x12 : Int32) (x13 : Int32) (x14 : Int32) (x15 : Int32) (x16 : Int32) (o17 : Addr) (x18 : Int32) (w0 : Int32) (w1 : Int32) (w2 : Int32) (w3 : Int32) (X0 : Stand p l e room_1 s m args below meth c T0 locs 1 4) (hx : p.tables.exec = Jvm.exec) (hZ : Z.Warmed39 s.vm) (hw : ∀ d ∈ tables_1, d.before a0 Z = true) (hby : c.code = code) (hml : c.maxLocals = 19) (hown : s.vm.findClass "com/example/lehre/lehre/TextPositionAdvancePinLaw" = some m.cls) (hret : meth.sig.returnType = some .boolean) (hlk : meth.locks = false) (e0 : T0.heap = h0) (Z0 : n0 ≤ h0.size) (N0 : Fr n0 locs) (K0 : own_TP Z h0 o17 w0 w1 w2 w3) (g0 : n0 ≤ o17) (hP : ∀ h' : Heap, P (some (.int (f0B_311 x0 x1 x2 x3 x4 x5 x6 x7 x8 x9 x10 x11 x12 x13 x14 x15 x16 x18 w0 w1 w2 w3))) h') :
    own_Goes p e below s n0 room_1.cells room_1.slots P (T0.setTop (mkF m 311 #[.val (.int x0), .val (.int x1), .val (.int x2), .val (.int x3), .val (.int x4), .val (.int x5), .val (.int x6), .val (.int x7), .val (.int x8), .val (.int x9), .val (.int x10), .val (.int x11), .val (.int x12), .val (.int x13), .val (.int x14), .val (.int x15), .val (.int x16), .val (.ref o17), .val (.int x18)] [])) := by
  rw [f0B_311] at hP
  refine own_Goes.pre (fun t kt => ?_) (b0B_316 x0 x1 x2 x3 x4 x5 x6 x7 x8 x9 x10 x11 x12 x13 x14 x15 x16 o17 x18 w0 w1 w2 w3 (1 : Int32) X0 hx hZ hw hby hml hown hret hlk e0 Z0 N0 K0 g0 hP)
  show Steps p.tables e below (T0.setTop (mkF m 311 #[.val (.int x0), .val (.int x1), .val (.int x2), .val (.int x3), .val (.int x4), .val (.int x5), .val (.int x6), .val (.int x7), .val (.int x8), .val (.int x9), .val (.int x10), .val (.int x11), .val (.int x12), .val (.int x13), .val (.int x14), .val (.int x15), .val (.int x16), .val (.ref o17), .val (.int x18)] [])) _
  refine XS.iconst X0.here hx rfl (hb hby at_311) ?_
  show Steps p.tables e below (T0.setTop (mkF m 312 #[.val (.int x0), .val (.int x1), .val (.int x2), .val (.int x3), .val (.int x4), .val (.int x5), .val (.int x6), .val (.int x7), .val (.int x8), .val (.int x9), .val (.int x10), .val (.int x11), .val (.int x12), .val (.int x13), .val (.int x14), .val (.int x15), .val (.int x16), .val (.ref o17), .val (.int x18)] [(.int (1 : Int32))])) _
  refine XS.goto X0.here hx rfl (pc0 := 312) (pc' := 316) rfl (hb hby at_312) (by decide) (by decide) ?_
  exact kt
def f0B_301 (x0 : Int32) (x1 : Int32) (x2 : Int32) (x3 : Int32) (x4 : Int32) (x5 : Int32) (x6 : Int32) (x7 : Int32) (x8 : Int32) (x9 : Int32) (x10 : Int32) (x11 : Int32) (x12 : Int32) (x13 : Int32) (x14 : Int32) (x15 : Int32) (x16 : Int32) (x18 : Int32) (w0 : Int32) (w1 : Int32) (w2 : Int32) (w3 : Int32) : Int32 := if (f7_0 w0 w1 w2 w3) = x16 then (f0B_311 x0 x1 x2 x3 x4 x5 x6 x7 x8 x9 x10 x11 x12 x13 x14 x15 x16 x18 w0 w1 w2 w3) else (f0B_315 x0 x1 x2 x3 x4 x5 x6 x7 x8 x9 x10 x11 x12 x13 x14 x15 x16 x18 w0 w1 w2 w3)
set_option maxRecDepth 65536 in
set_option maxHeartbeats 40000000 in
theorem b0B_301 {p : Program} {l : Launch} {e : Env} {s : State} {m : MethodId} {args : Array Value} {below : List Frame} {meth : Method} {c : Code} {T0 : State} {locs : List Loc} {Z : State} {a0 : Array Value} {h0 : Heap} {n0 : Nat} {P : Option Value → Heap → Prop} (x0 : Int32) (x1 : Int32) (x2 : Int32) (x3 : Int32) (x4 : Int32) (x5 : Int32) (x6 : Int32) (x7 : Int32) (x8 : Int32) (x9 : Int32) (x10 : Int32) (x11 : Int32) (x12 : Int32) (x13 : Int32) (x14 : Int32) (x15 : Int32) (x16 : Int32) (o17 : Addr) (x18 : Int32) (w0 : Int32) (w1 : Int32) (w2 : Int32) (w3 : Int32) (X0 : Stand p l e room_1 s m args below meth c T0 locs 1 4) (hx : p.tables.exec = Jvm.exec) (hZ : Z.Warmed39 s.vm) (hw : ∀ d ∈ tables_1, d.before a0 Z = true) (hby : c.code = code) (hml : c.maxLocals = 19) (hown : s.vm.findClass "com/example/lehre/lehre/TextPositionAdvancePinLaw" = some m.cls) (hret : meth.sig.returnType = some .boolean) (hlk : meth.locks = false) (e0 : T0.heap = h0) (Z0 : n0 ≤ h0.size) (N0 : Fr n0 locs) (K0 : own_TP Z h0 o17 w0 w1 w2 w3) (g0 : n0 ≤ o17) (hP : ∀ h' : Heap, P (some (.int (f0B_301 x0 x1 x2 x3 x4 x5 x6 x7 x8 x9 x10 x11 x12 x13 x14 x15 x16 x18 w0 w1 w2 w3))) h') :
    own_Goes p e below s n0 room_1.cells room_1.slots P (T0.setTop (mkF m 301 #[.val (.int x0), .val (.int x1), .val (.int x2), .val (.int x3), .val (.int x4), .val (.int x5), .val (.int x6), .val (.int x7), .val (.int x8), .val (.int x9), .val (.int x10), .val (.int x11), .val (.int x12), .val (.int x13), .val (.int x14), .val (.int x15), .val (.int x16), .val (.ref o17), .val (.int x18)] [])) := by
  obtain ⟨cq303, kq303, qa303, qb303, qc303⟩ := isOf hZ e0 K0.1
  obtain ⟨_, _, ⟨T303, L303, k303, n303⟩, -, X303, ⟨Lc303, hQ303, l303, y303, z303⟩, st303⟩ := X0.virtualBack hx (y := (⟨"com/example/lehre/lehre/TextPosition", "column", "()I"⟩ : MethodName)) (z := (⟨"com/example/lehre/lehre/TextPosition", "column", "()I"⟩ : MethodName)) hown (mvT hZ (hw _ (List.mem_of_getElem? (i := 30) rfl))) (mvT hZ (hw _ (List.mem_of_getElem? (i := 31) rfl))) (notFace_of_selects (args := #[]) (mvT hZ (hw _ (List.mem_of_getElem? (i := 33) rfl)))) (mvT hZ (hw _ (List.mem_of_getElem? (i := 33) rfl))) (mvT hZ (hw _ (List.mem_of_getElem? (i := 32) rfl))) (by decide) (backOf (W := 0) (rm7 l Z a0 hw [] o17 w0 w1 w2 w3 h0 n0 Z0 K0 g0) hZ (hw _ (List.mem_of_getElem? (i := 34) rfl)) (hw _ (List.mem_of_getElem? (i := 12) rfl)) (by decide) (by decide)) qa303 qc303 (g := (mkF m 303 #[.val (.int x0), .val (.int x1), .val (.int x2), .val (.int x3), .val (.int x4), .val (.int x5), .val (.int x6), .val (.int x7), .val (.int x8), .val (.int x9), .val (.int x10), .val (.int x11), .val (.int x12), .val (.int x13), .val (.int x14), .val (.int x15), .val (.int x16), .val (.ref o17), .val (.int x18)] [(.ref o17)])) rfl (by rw [hml]; rfl) (Steps.refl _) (argsL := []) (rest := []) (lenOf pd1 rfl) rfl (by show 2 * 0 + _ ≤ _; exact Nat.le_of_eq rfl) (hb hby at_303) (fun _ _ => ⟨rfl, e0, (by decide : 1 + 0 ≤ _), (by decide : 4 + 0 ≤ _)⟩)
  dsimp only [Pt.U, Pt.locs, Pt.cells, Pt.slots] at X303 l303 y303 z303 st303 hQ303
  subst l303 y303 z303
  obtain ⟨⟨rfl, e303⟩, N303q⟩ := hQ303
  have N303 := Fr.app N0 N303q
  have pre1 : ∀ t, Steps p.tables e below (T303.setTop (mkF m 308 #[.val (.int x0), .val (.int x1), .val (.int x2), .val (.int x3), .val (.int x4), .val (.int x5), .val (.int x6), .val (.int x7), .val (.int x8), .val (.int x9), .val (.int x10), .val (.int x11), .val (.int x12), .val (.int x13), .val (.int x14), .val (.int x15), .val (.int x16), .val (.ref o17), .val (.int x18)] [(.int x16), (.int (f7_0 w0 w1 w2 w3))])) t → Steps p.tables e below (T0.setTop (mkF m 301 #[.val (.int x0), .val (.int x1), .val (.int x2), .val (.int x3), .val (.int x4), .val (.int x5), .val (.int x6), .val (.int x7), .val (.int x8), .val (.int x9), .val (.int x10), .val (.int x11), .val (.int x12), .val (.int x13), .val (.int x14), .val (.int x15), .val (.int x16), .val (.ref o17), .val (.int x18)] [])) t := fun t kt => by
    show Steps p.tables e below (T0.setTop (mkF m 301 #[.val (.int x0), .val (.int x1), .val (.int x2), .val (.int x3), .val (.int x4), .val (.int x5), .val (.int x6), .val (.int x7), .val (.int x8), .val (.int x9), .val (.int x10), .val (.int x11), .val (.int x12), .val (.int x13), .val (.int x14), .val (.int x15), .val (.int x16), .val (.ref o17), .val (.int x18)] [])) _
    refine XS.aload X0.here hx rfl (hb hby at_301) rfl rfl ?_
    show Steps p.tables e below (T0.setTop (mkF m 303 #[.val (.int x0), .val (.int x1), .val (.int x2), .val (.int x3), .val (.int x4), .val (.int x5), .val (.int x6), .val (.int x7), .val (.int x8), .val (.int x9), .val (.int x10), .val (.int x11), .val (.int x12), .val (.int x13), .val (.int x14), .val (.int x15), .val (.int x16), .val (.ref o17), .val (.int x18)] [(.ref o17)])) _
    refine st303.trans ?_
    show Steps p.tables e below (T303.setTop (mkF m 306 #[.val (.int x0), .val (.int x1), .val (.int x2), .val (.int x3), .val (.int x4), .val (.int x5), .val (.int x6), .val (.int x7), .val (.int x8), .val (.int x9), .val (.int x10), .val (.int x11), .val (.int x12), .val (.int x13), .val (.int x14), .val (.int x15), .val (.int x16), .val (.ref o17), .val (.int x18)] [(.int (f7_0 w0 w1 w2 w3))])) _
    refine XS.iload X303.here hx rfl (hb hby at_306) rfl ?_
    exact kt
  refine own_Goes.pre pre1 ?_
  by_cases hc : (f7_0 w0 w1 w2 w3) = x16
  · rw [f0B_301, if_pos hc] at hP
    refine own_Goes.pre (fun t kt => ?_) (b0B_311 x0 x1 x2 x3 x4 x5 x6 x7 x8 x9 x10 x11 x12 x13 x14 x15 x16 o17 x18 w0 w1 w2 w3 X303 hx hZ hw hby hml hown hret hlk e303 Z0 N303 K0 g0 hP)
    show Steps p.tables e below (T303.setTop (mkF m 308 #[.val (.int x0), .val (.int x1), .val (.int x2), .val (.int x3), .val (.int x4), .val (.int x5), .val (.int x6), .val (.int x7), .val (.int x8), .val (.int x9), .val (.int x10), .val (.int x11), .val (.int x12), .val (.int x13), .val (.int x14), .val (.int x15), .val (.int x16), .val (.ref o17), .val (.int x18)] [(.int x16), (.int (f7_0 w0 w1 w2 w3))])) _
    refine XS.icmpNo X303.here hx rfl (hb hby at_308) rfl (teq hc).2 ?_
    exact kt
  · rw [f0B_301, if_neg hc] at hP
    refine own_Goes.pre (fun t kt => ?_) (b0B_315 x0 x1 x2 x3 x4 x5 x6 x7 x8 x9 x10 x11 x12 x13 x14 x15 x16 o17 x18 w0 w1 w2 w3 X303 hx hZ hw hby hml hown hret hlk e303 Z0 N303 K0 g0 hP)
    show Steps p.tables e below (T303.setTop (mkF m 308 #[.val (.int x0), .val (.int x1), .val (.int x2), .val (.int x3), .val (.int x4), .val (.int x5), .val (.int x6), .val (.int x7), .val (.int x8), .val (.int x9), .val (.int x10), .val (.int x11), .val (.int x12), .val (.int x13), .val (.int x14), .val (.int x15), .val (.int x16), .val (.ref o17), .val (.int x18)] [(.int x16), (.int (f7_0 w0 w1 w2 w3))])) _
    refine XS.icmpYes X303.here hx rfl (pc0 := 308) (pc' := 315) rfl (hb hby at_308) rfl (feq hc).2 (by decide) (by decide) ?_
    exact kt
def f0B_291 (x0 : Int32) (x1 : Int32) (x2 : Int32) (x3 : Int32) (x4 : Int32) (x5 : Int32) (x6 : Int32) (x7 : Int32) (x8 : Int32) (x9 : Int32) (x10 : Int32) (x11 : Int32) (x12 : Int32) (x13 : Int32) (x14 : Int32) (x15 : Int32) (x16 : Int32) (x18 : Int32) (w0 : Int32) (w1 : Int32) (w2 : Int32) (w3 : Int32) : Int32 := if (f6_0 w0 w1 w2 w3) = x13 then (f0B_301 x0 x1 x2 x3 x4 x5 x6 x7 x8 x9 x10 x11 x12 x13 x14 x15 x16 x18 w0 w1 w2 w3) else (f0B_315 x0 x1 x2 x3 x4 x5 x6 x7 x8 x9 x10 x11 x12 x13 x14 x15 x16 x18 w0 w1 w2 w3)
set_option maxRecDepth 65536 in
set_option maxHeartbeats 40000000 in
theorem b0B_291 {p : Program} {l : Launch} {e : Env} {s : State} {m : MethodId} {args : Array Value} {below : List Frame} {meth : Method} {c : Code} {T0 : State} {locs : List Loc} {Z : State} {a0 : Array Value} {h0 : Heap} {n0 : Nat} {P : Option Value → Heap → Prop} (x0 : Int32) (x1 : Int32) (x2 : Int32) (x3 : Int32) (x4 : Int32) (x5 : Int32) (x6 : Int32) (x7 : Int32) (x8 : Int32) (x9 : Int32) (x10 : Int32) (x11 : Int32) (x12 : Int32) (x13 : Int32) (x14 : Int32) (x15 : Int32) (x16 : Int32) (o17 : Addr) (x18 : Int32) (w0 : Int32) (w1 : Int32) (w2 : Int32) (w3 : Int32) (X0 : Stand p l e room_1 s m args below meth c T0 locs 1 4) (hx : p.tables.exec = Jvm.exec) (hZ : Z.Warmed39 s.vm) (hw : ∀ d ∈ tables_1, d.before a0 Z = true) (hby : c.code = code) (hml : c.maxLocals = 19) (hown : s.vm.findClass "com/example/lehre/lehre/TextPositionAdvancePinLaw" = some m.cls) (hret : meth.sig.returnType = some .boolean) (hlk : meth.locks = false) (e0 : T0.heap = h0) (Z0 : n0 ≤ h0.size) (N0 : Fr n0 locs) (K0 : own_TP Z h0 o17 w0 w1 w2 w3) (g0 : n0 ≤ o17) (hP : ∀ h' : Heap, P (some (.int (f0B_291 x0 x1 x2 x3 x4 x5 x6 x7 x8 x9 x10 x11 x12 x13 x14 x15 x16 x18 w0 w1 w2 w3))) h') :
    own_Goes p e below s n0 room_1.cells room_1.slots P (T0.setTop (mkF m 291 #[.val (.int x0), .val (.int x1), .val (.int x2), .val (.int x3), .val (.int x4), .val (.int x5), .val (.int x6), .val (.int x7), .val (.int x8), .val (.int x9), .val (.int x10), .val (.int x11), .val (.int x12), .val (.int x13), .val (.int x14), .val (.int x15), .val (.int x16), .val (.ref o17), .val (.int x18)] [])) := by
  obtain ⟨cq293, kq293, qa293, qb293, qc293⟩ := isOf hZ e0 K0.1
  obtain ⟨_, _, ⟨T293, L293, k293, n293⟩, -, X293, ⟨Lc293, hQ293, l293, y293, z293⟩, st293⟩ := X0.virtualBack hx (y := (⟨"com/example/lehre/lehre/TextPosition", "line", "()I"⟩ : MethodName)) (z := (⟨"com/example/lehre/lehre/TextPosition", "line", "()I"⟩ : MethodName)) hown (mvT hZ (hw _ (List.mem_of_getElem? (i := 25) rfl))) (mvT hZ (hw _ (List.mem_of_getElem? (i := 26) rfl))) (notFace_of_selects (args := #[]) (mvT hZ (hw _ (List.mem_of_getElem? (i := 28) rfl)))) (mvT hZ (hw _ (List.mem_of_getElem? (i := 28) rfl))) (mvT hZ (hw _ (List.mem_of_getElem? (i := 27) rfl))) (by decide) (backOf (W := 0) (rm6 l Z a0 hw [] o17 w0 w1 w2 w3 h0 n0 Z0 K0 g0) hZ (hw _ (List.mem_of_getElem? (i := 29) rfl)) (hw _ (List.mem_of_getElem? (i := 12) rfl)) (by decide) (by decide)) qa293 qc293 (g := (mkF m 293 #[.val (.int x0), .val (.int x1), .val (.int x2), .val (.int x3), .val (.int x4), .val (.int x5), .val (.int x6), .val (.int x7), .val (.int x8), .val (.int x9), .val (.int x10), .val (.int x11), .val (.int x12), .val (.int x13), .val (.int x14), .val (.int x15), .val (.int x16), .val (.ref o17), .val (.int x18)] [(.ref o17)])) rfl (by rw [hml]; rfl) (Steps.refl _) (argsL := []) (rest := []) (lenOf pd1 rfl) rfl (by show 2 * 0 + _ ≤ _; exact Nat.le_of_eq rfl) (hb hby at_293) (fun _ _ => ⟨rfl, e0, (by decide : 1 + 0 ≤ _), (by decide : 4 + 0 ≤ _)⟩)
  dsimp only [Pt.U, Pt.locs, Pt.cells, Pt.slots] at X293 l293 y293 z293 st293 hQ293
  subst l293 y293 z293
  obtain ⟨⟨rfl, e293⟩, N293q⟩ := hQ293
  have N293 := Fr.app N0 N293q
  have pre1 : ∀ t, Steps p.tables e below (T293.setTop (mkF m 298 #[.val (.int x0), .val (.int x1), .val (.int x2), .val (.int x3), .val (.int x4), .val (.int x5), .val (.int x6), .val (.int x7), .val (.int x8), .val (.int x9), .val (.int x10), .val (.int x11), .val (.int x12), .val (.int x13), .val (.int x14), .val (.int x15), .val (.int x16), .val (.ref o17), .val (.int x18)] [(.int x13), (.int (f6_0 w0 w1 w2 w3))])) t → Steps p.tables e below (T0.setTop (mkF m 291 #[.val (.int x0), .val (.int x1), .val (.int x2), .val (.int x3), .val (.int x4), .val (.int x5), .val (.int x6), .val (.int x7), .val (.int x8), .val (.int x9), .val (.int x10), .val (.int x11), .val (.int x12), .val (.int x13), .val (.int x14), .val (.int x15), .val (.int x16), .val (.ref o17), .val (.int x18)] [])) t := fun t kt => by
    show Steps p.tables e below (T0.setTop (mkF m 291 #[.val (.int x0), .val (.int x1), .val (.int x2), .val (.int x3), .val (.int x4), .val (.int x5), .val (.int x6), .val (.int x7), .val (.int x8), .val (.int x9), .val (.int x10), .val (.int x11), .val (.int x12), .val (.int x13), .val (.int x14), .val (.int x15), .val (.int x16), .val (.ref o17), .val (.int x18)] [])) _
    refine XS.aload X0.here hx rfl (hb hby at_291) rfl rfl ?_
    show Steps p.tables e below (T0.setTop (mkF m 293 #[.val (.int x0), .val (.int x1), .val (.int x2), .val (.int x3), .val (.int x4), .val (.int x5), .val (.int x6), .val (.int x7), .val (.int x8), .val (.int x9), .val (.int x10), .val (.int x11), .val (.int x12), .val (.int x13), .val (.int x14), .val (.int x15), .val (.int x16), .val (.ref o17), .val (.int x18)] [(.ref o17)])) _
    refine st293.trans ?_
    show Steps p.tables e below (T293.setTop (mkF m 296 #[.val (.int x0), .val (.int x1), .val (.int x2), .val (.int x3), .val (.int x4), .val (.int x5), .val (.int x6), .val (.int x7), .val (.int x8), .val (.int x9), .val (.int x10), .val (.int x11), .val (.int x12), .val (.int x13), .val (.int x14), .val (.int x15), .val (.int x16), .val (.ref o17), .val (.int x18)] [(.int (f6_0 w0 w1 w2 w3))])) _
    refine XS.iload X293.here hx rfl (hb hby at_296) rfl ?_
    exact kt
  refine own_Goes.pre pre1 ?_
  by_cases hc : (f6_0 w0 w1 w2 w3) = x13
  · rw [f0B_291, if_pos hc] at hP
    refine own_Goes.pre (fun t kt => ?_) (b0B_301 x0 x1 x2 x3 x4 x5 x6 x7 x8 x9 x10 x11 x12 x13 x14 x15 x16 o17 x18 w0 w1 w2 w3 X293 hx hZ hw hby hml hown hret hlk e293 Z0 N293 K0 g0 hP)
    show Steps p.tables e below (T293.setTop (mkF m 298 #[.val (.int x0), .val (.int x1), .val (.int x2), .val (.int x3), .val (.int x4), .val (.int x5), .val (.int x6), .val (.int x7), .val (.int x8), .val (.int x9), .val (.int x10), .val (.int x11), .val (.int x12), .val (.int x13), .val (.int x14), .val (.int x15), .val (.int x16), .val (.ref o17), .val (.int x18)] [(.int x13), (.int (f6_0 w0 w1 w2 w3))])) _
    refine XS.icmpNo X293.here hx rfl (hb hby at_298) rfl (teq hc).2 ?_
    exact kt
  · rw [f0B_291, if_neg hc] at hP
    refine own_Goes.pre (fun t kt => ?_) (b0B_315 x0 x1 x2 x3 x4 x5 x6 x7 x8 x9 x10 x11 x12 x13 x14 x15 x16 o17 x18 w0 w1 w2 w3 X293 hx hZ hw hby hml hown hret hlk e293 Z0 N293 K0 g0 hP)
    show Steps p.tables e below (T293.setTop (mkF m 298 #[.val (.int x0), .val (.int x1), .val (.int x2), .val (.int x3), .val (.int x4), .val (.int x5), .val (.int x6), .val (.int x7), .val (.int x8), .val (.int x9), .val (.int x10), .val (.int x11), .val (.int x12), .val (.int x13), .val (.int x14), .val (.int x15), .val (.int x16), .val (.ref o17), .val (.int x18)] [(.int x13), (.int (f6_0 w0 w1 w2 w3))])) _
    refine XS.icmpYes X293.here hx rfl (pc0 := 298) (pc' := 315) rfl (hb hby at_298) rfl (feq hc).2 (by decide) (by decide) ?_
    exact kt
def f0B_277 (x0 : Int32) (x1 : Int32) (x2 : Int32) (x3 : Int32) (x4 : Int32) (x5 : Int32) (x6 : Int32) (x7 : Int32) (x8 : Int32) (x9 : Int32) (x10 : Int32) (x11 : Int32) (x12 : Int32) (x13 : Int32) (x14 : Int32) (x15 : Int32) (x16 : Int32) (x18 : Int32) (w0 : Int32) (w1 : Int32) (w2 : Int32) (w3 : Int32) (y0 : Int32) : Int32 := if y0 = (0 : Int32) then (f0B_315 x0 x1 x2 x3 x4 x5 x6 x7 x8 x9 x10 x11 x12 x13 x14 x15 x16 y0 (f8_0 x7 w0 w1 w2 w3).1 (f8_0 x7 w0 w1 w2 w3).2.1 (f8_0 x7 w0 w1 w2 w3).2.2.1 (f8_0 x7 w0 w1 w2 w3).2.2.2) else (f0B_291 x0 x1 x2 x3 x4 x5 x6 x7 x8 x9 x10 x11 x12 x13 x14 x15 x16 y0 (f8_0 x7 w0 w1 w2 w3).1 (f8_0 x7 w0 w1 w2 w3).2.1 (f8_0 x7 w0 w1 w2 w3).2.2.1 (f8_0 x7 w0 w1 w2 w3).2.2.2)
set_option maxRecDepth 65536 in
set_option maxHeartbeats 40000000 in
theorem b0B_277 {p : Program} {l : Launch} {e : Env} {s : State} {m : MethodId} {args : Array Value} {below : List Frame} {meth : Method} {c : Code} {T0 : State} {locs : List Loc} {Z : State} {a0 : Array Value} {h0 : Heap} {n0 : Nat} {P : Option Value → Heap → Prop} (x0 : Int32) (x1 : Int32) (x2 : Int32) (x3 : Int32) (x4 : Int32) (x5 : Int32) (x6 : Int32) (x7 : Int32) (x8 : Int32) (x9 : Int32) (x10 : Int32) (x11 : Int32) (x12 : Int32) (x13 : Int32) (x14 : Int32) (x15 : Int32) (x16 : Int32) (o17 : Addr) (x18 : Int32) (w0 : Int32) (w1 : Int32) (w2 : Int32) (w3 : Int32) (y0 : Int32) (X0 : Stand p l e room_1 s m args below meth c T0 locs 1 4) (hx : p.tables.exec = Jvm.exec) (hZ : Z.Warmed39 s.vm) (hw : ∀ d ∈ tables_1, d.before a0 Z = true) (hby : c.code = code) (hml : c.maxLocals = 19) (hown : s.vm.findClass "com/example/lehre/lehre/TextPositionAdvancePinLaw" = some m.cls) (hret : meth.sig.returnType = some .boolean) (hlk : meth.locks = false) (e0 : T0.heap = h0) (Z0 : n0 ≤ h0.size) (N0 : Fr n0 locs) (K0 : own_TP Z h0 o17 w0 w1 w2 w3) (g0 : n0 ≤ o17) (hP : ∀ h' : Heap, P (some (.int (f0B_277 x0 x1 x2 x3 x4 x5 x6 x7 x8 x9 x10 x11 x12 x13 x14 x15 x16 x18 w0 w1 w2 w3 y0))) h') :
    own_Goes p e below s n0 room_1.cells room_1.slots P (T0.setTop (mkF m 277 #[.val (.int x0), .val (.int x1), .val (.int x2), .val (.int x3), .val (.int x4), .val (.int x5), .val (.int x6), .val (.int x7), .val (.int x8), .val (.int x9), .val (.int x10), .val (.int x11), .val (.int x12), .val (.int x13), .val (.int x14), .val (.int x15), .val (.int x16), .val (.ref o17), .val (.int x18)] [(.int y0)])) := by
  obtain ⟨cq283, kq283, qa283, qb283, qc283⟩ := isOf hZ e0 K0.1
  obtain ⟨_, _, ⟨T283, L283, k283, n283⟩, -, X283, ⟨Lc283, hQ283, l283, y283, z283⟩, st283⟩ := X0.virtualBack hx (y := (⟨"com/example/lehre/lehre/TextPosition", "advance", "(C)V"⟩ : MethodName)) (z := (⟨"com/example/lehre/lehre/TextPosition", "advance", "(C)V"⟩ : MethodName)) hown (mvT hZ (hw _ (List.mem_of_getElem? (i := 35) rfl))) (mvT hZ (hw _ (List.mem_of_getElem? (i := 36) rfl))) (notFace_of_selects (args := #[]) (mvT hZ (hw _ (List.mem_of_getElem? (i := 38) rfl)))) (mvT hZ (hw _ (List.mem_of_getElem? (i := 38) rfl))) (mvT hZ (hw _ (List.mem_of_getElem? (i := 37) rfl))) (by decide) (backOf (W := 0) (rm8 l Z a0 hw [] o17 x7 w0 w1 w2 w3 h0 n0 Z0 K0 g0) hZ (hw _ (List.mem_of_getElem? (i := 39) rfl)) (hw _ (List.mem_of_getElem? (i := 12) rfl)) (by decide) (by decide)) qa283 qc283 (g := (mkF m 283 #[.val (.int x0), .val (.int x1), .val (.int x2), .val (.int x3), .val (.int x4), .val (.int x5), .val (.int x6), .val (.int x7), .val (.int x8), .val (.int x9), .val (.int x10), .val (.int x11), .val (.int x12), .val (.int x13), .val (.int x14), .val (.int x15), .val (.int x16), .val (.ref o17), .val (.int y0)] [(.int x7), (.ref o17)])) rfl (by rw [hml]; rfl) (Steps.refl _) (argsL := [(.int x7)]) (rest := []) (lenOf pd2 rfl) rfl (by show 2 * 0 + _ ≤ _; exact Nat.le_of_eq rfl) (hb hby at_283) (fun _ _ => ⟨rfl, e0, (by decide : 1 + 0 ≤ _), (by decide : 4 + 0 ≤ _)⟩)
  dsimp only [Pt.U, Pt.locs, Pt.cells, Pt.slots] at X283 l283 y283 z283 st283 hQ283
  subst l283 y283 z283
  obtain ⟨⟨rfl, K283⟩, N283q⟩ := hQ283
  have Z283 : n0 ≤ T283.heap.size := Nat.le_of_lt (Nat.lt_of_le_of_lt g0 K283.1.lt)
  have e283 : T283.heap = T283.heap := rfl
  have N283 := Fr.app N0 N283q
  have pre1 : ∀ t, Steps p.tables e below (T283.setTop (mkF m 288 #[.val (.int x0), .val (.int x1), .val (.int x2), .val (.int x3), .val (.int x4), .val (.int x5), .val (.int x6), .val (.int x7), .val (.int x8), .val (.int x9), .val (.int x10), .val (.int x11), .val (.int x12), .val (.int x13), .val (.int x14), .val (.int x15), .val (.int x16), .val (.ref o17), .val (.int y0)] [(.int y0)])) t → Steps p.tables e below (T0.setTop (mkF m 277 #[.val (.int x0), .val (.int x1), .val (.int x2), .val (.int x3), .val (.int x4), .val (.int x5), .val (.int x6), .val (.int x7), .val (.int x8), .val (.int x9), .val (.int x10), .val (.int x11), .val (.int x12), .val (.int x13), .val (.int x14), .val (.int x15), .val (.int x16), .val (.ref o17), .val (.int x18)] [(.int y0)])) t := fun t kt => by
    show Steps p.tables e below (T0.setTop (mkF m 277 #[.val (.int x0), .val (.int x1), .val (.int x2), .val (.int x3), .val (.int x4), .val (.int x5), .val (.int x6), .val (.int x7), .val (.int x8), .val (.int x9), .val (.int x10), .val (.int x11), .val (.int x12), .val (.int x13), .val (.int x14), .val (.int x15), .val (.int x16), .val (.ref o17), .val (.int x18)] [(.int y0)])) _
    refine XS.istore X0.here hx rfl (hb hby at_277) rfl (l' := #[.val (.int x0), .val (.int x1), .val (.int x2), .val (.int x3), .val (.int x4), .val (.int x5), .val (.int x6), .val (.int x7), .val (.int x8), .val (.int x9), .val (.int x10), .val (.int x11), .val (.int x12), .val (.int x13), .val (.int x14), .val (.int x15), .val (.int x16), .val (.ref o17), .val (.int y0)]) rfl ?_
    show Steps p.tables e below (T0.setTop (mkF m 279 #[.val (.int x0), .val (.int x1), .val (.int x2), .val (.int x3), .val (.int x4), .val (.int x5), .val (.int x6), .val (.int x7), .val (.int x8), .val (.int x9), .val (.int x10), .val (.int x11), .val (.int x12), .val (.int x13), .val (.int x14), .val (.int x15), .val (.int x16), .val (.ref o17), .val (.int y0)] [])) _
    refine XS.aload X0.here hx rfl (hb hby at_279) rfl rfl ?_
    show Steps p.tables e below (T0.setTop (mkF m 281 #[.val (.int x0), .val (.int x1), .val (.int x2), .val (.int x3), .val (.int x4), .val (.int x5), .val (.int x6), .val (.int x7), .val (.int x8), .val (.int x9), .val (.int x10), .val (.int x11), .val (.int x12), .val (.int x13), .val (.int x14), .val (.int x15), .val (.int x16), .val (.ref o17), .val (.int y0)] [(.ref o17)])) _
    refine XS.iload X0.here hx rfl (hb hby at_281) rfl ?_
    show Steps p.tables e below (T0.setTop (mkF m 283 #[.val (.int x0), .val (.int x1), .val (.int x2), .val (.int x3), .val (.int x4), .val (.int x5), .val (.int x6), .val (.int x7), .val (.int x8), .val (.int x9), .val (.int x10), .val (.int x11), .val (.int x12), .val (.int x13), .val (.int x14), .val (.int x15), .val (.int x16), .val (.ref o17), .val (.int y0)] [(.int x7), (.ref o17)])) _
    refine st283.trans ?_
    show Steps p.tables e below (T283.setTop (mkF m 286 #[.val (.int x0), .val (.int x1), .val (.int x2), .val (.int x3), .val (.int x4), .val (.int x5), .val (.int x6), .val (.int x7), .val (.int x8), .val (.int x9), .val (.int x10), .val (.int x11), .val (.int x12), .val (.int x13), .val (.int x14), .val (.int x15), .val (.int x16), .val (.ref o17), .val (.int y0)] [])) _
    refine XS.iload X283.here hx rfl (hb hby at_286) rfl ?_
    exact kt
  refine own_Goes.pre pre1 ?_
  by_cases hc : y0 = (0 : Int32)
  · rw [f0B_277, if_pos hc] at hP
    refine own_Goes.pre (fun t kt => ?_) (b0B_315 x0 x1 x2 x3 x4 x5 x6 x7 x8 x9 x10 x11 x12 x13 x14 x15 x16 o17 y0 (f8_0 x7 w0 w1 w2 w3).1 (f8_0 x7 w0 w1 w2 w3).2.1 (f8_0 x7 w0 w1 w2 w3).2.2.1 (f8_0 x7 w0 w1 w2 w3).2.2.2 X283 hx hZ hw hby hml hown hret hlk e283 Z283 N283 K283 g0 hP)
    show Steps p.tables e below (T283.setTop (mkF m 288 #[.val (.int x0), .val (.int x1), .val (.int x2), .val (.int x3), .val (.int x4), .val (.int x5), .val (.int x6), .val (.int x7), .val (.int x8), .val (.int x9), .val (.int x10), .val (.int x11), .val (.int x12), .val (.int x13), .val (.int x14), .val (.int x15), .val (.int x16), .val (.ref o17), .val (.int y0)] [(.int y0)])) _
    refine XS.ifYes X283.here hx rfl (pc0 := 288) (pc' := 315) rfl (hb hby at_288) rfl ((if0 _ _).trans (teq hc).1) (by decide) (by decide) ?_
    exact kt
  · rw [f0B_277, if_neg hc] at hP
    refine own_Goes.pre (fun t kt => ?_) (b0B_291 x0 x1 x2 x3 x4 x5 x6 x7 x8 x9 x10 x11 x12 x13 x14 x15 x16 o17 y0 (f8_0 x7 w0 w1 w2 w3).1 (f8_0 x7 w0 w1 w2 w3).2.1 (f8_0 x7 w0 w1 w2 w3).2.2.1 (f8_0 x7 w0 w1 w2 w3).2.2.2 X283 hx hZ hw hby hml hown hret hlk e283 Z283 N283 K283 g0 hP)
    show Steps p.tables e below (T283.setTop (mkF m 288 #[.val (.int x0), .val (.int x1), .val (.int x2), .val (.int x3), .val (.int x4), .val (.int x5), .val (.int x6), .val (.int x7), .val (.int x8), .val (.int x9), .val (.int x10), .val (.int x11), .val (.int x12), .val (.int x13), .val (.int x14), .val (.int x15), .val (.int x16), .val (.ref o17), .val (.int y0)] [(.int y0)])) _
    refine XS.ifNo X283.here hx rfl (hb hby at_288) rfl ((if0 _ _).trans (feq hc).1) ?_
    exact kt
def f0B_276 (x0 : Int32) (x1 : Int32) (x2 : Int32) (x3 : Int32) (x4 : Int32) (x5 : Int32) (x6 : Int32) (x7 : Int32) (x8 : Int32) (x9 : Int32) (x10 : Int32) (x11 : Int32) (x12 : Int32) (x13 : Int32) (x14 : Int32) (x15 : Int32) (x16 : Int32) (x18 : Int32) (w0 : Int32) (w1 : Int32) (w2 : Int32) (w3 : Int32) : Int32 := (f0B_277 x0 x1 x2 x3 x4 x5 x6 x7 x8 x9 x10 x11 x12 x13 x14 x15 x16 x18 w0 w1 w2 w3 (0 : Int32))
set_option maxRecDepth 65536 in
set_option maxHeartbeats 40000000 in
theorem b0B_276 {p : Program} {l : Launch} {e : Env} {s : State} {m : MethodId} {args : Array Value} {below : List Frame} {meth : Method} {c : Code} {T0 : State} {locs : List Loc} {Z : State} {a0 : Array Value} {h0 : Heap} {n0 : Nat} {P : Option Value → Heap → Prop} (x0 : Int32) (x1 : Int32) (x2 : Int32) (x3 : Int32) (x4 : Int32) (x5 : Int32) (x6 : Int32) (x7 : Int32) (x8 : Int32) (x9 : Int32) (x10 : Int32) (x11 : Int32) (x12 : Int32) (x13 : Int32) (x14 : Int32) (x15 : Int32) (x16 : Int32) (o17 : Addr) (x18 : Int32) (w0 : Int32) (w1 : Int32) (w2 : Int32) (w3 : Int32) (X0 : Stand p l e room_1 s m args below meth c T0 locs 1 4) (hx : p.tables.exec = Jvm.exec) (hZ : Z.Warmed39 s.vm) (hw : ∀ d ∈ tables_1, d.before a0 Z = true) (hby : c.code = code) (hml : c.maxLocals = 19) (hown : s.vm.findClass "com/example/lehre/lehre/TextPositionAdvancePinLaw" = some m.cls) (hret : meth.sig.returnType = some .boolean) (hlk : meth.locks = false) (e0 : T0.heap = h0) (Z0 : n0 ≤ h0.size) (N0 : Fr n0 locs) (K0 : own_TP Z h0 o17 w0 w1 w2 w3) (g0 : n0 ≤ o17) (hP : ∀ h' : Heap, P (some (.int (f0B_276 x0 x1 x2 x3 x4 x5 x6 x7 x8 x9 x10 x11 x12 x13 x14 x15 x16 x18 w0 w1 w2 w3))) h') :
    own_Goes p e below s n0 room_1.cells room_1.slots P (T0.setTop (mkF m 276 #[.val (.int x0), .val (.int x1), .val (.int x2), .val (.int x3), .val (.int x4), .val (.int x5), .val (.int x6), .val (.int x7), .val (.int x8), .val (.int x9), .val (.int x10), .val (.int x11), .val (.int x12), .val (.int x13), .val (.int x14), .val (.int x15), .val (.int x16), .val (.ref o17), .val (.int x18)] [])) := by
  rw [f0B_276] at hP
  refine own_Goes.pre (fun t kt => ?_) (b0B_277 x0 x1 x2 x3 x4 x5 x6 x7 x8 x9 x10 x11 x12 x13 x14 x15 x16 o17 x18 w0 w1 w2 w3 (0 : Int32) X0 hx hZ hw hby hml hown hret hlk e0 Z0 N0 K0 g0 hP)
  show Steps p.tables e below (T0.setTop (mkF m 276 #[.val (.int x0), .val (.int x1), .val (.int x2), .val (.int x3), .val (.int x4), .val (.int x5), .val (.int x6), .val (.int x7), .val (.int x8), .val (.int x9), .val (.int x10), .val (.int x11), .val (.int x12), .val (.int x13), .val (.int x14), .val (.int x15), .val (.int x16), .val (.ref o17), .val (.int x18)] [])) _
  refine XS.iconst X0.here hx rfl (hb hby at_276) ?_
  exact kt
def f0B_272 (x0 : Int32) (x1 : Int32) (x2 : Int32) (x3 : Int32) (x4 : Int32) (x5 : Int32) (x6 : Int32) (x7 : Int32) (x8 : Int32) (x9 : Int32) (x10 : Int32) (x11 : Int32) (x12 : Int32) (x13 : Int32) (x14 : Int32) (x15 : Int32) (x16 : Int32) (x18 : Int32) (w0 : Int32) (w1 : Int32) (w2 : Int32) (w3 : Int32) : Int32 := (f0B_277 x0 x1 x2 x3 x4 x5 x6 x7 x8 x9 x10 x11 x12 x13 x14 x15 x16 x18 w0 w1 w2 w3 (1 : Int32))
set_option maxRecDepth 65536 in
set_option maxHeartbeats 40000000 in
theorem b0B_272 {p : Program} {l : Launch} {e : Env} {s : State} {m : MethodId} {args : Array Value} {below : List Frame} {meth : Method} {c : Code} {T0 : State} {locs : List Loc} {Z : State} {a0 : Array Value} {h0 : Heap} {n0 : Nat} {P : Option Value → Heap → Prop} (x0 : Int32) (x1 : Int32) (x2 : Int32) (x3 : Int32) (x4 : Int32) (x5 : Int32) (x6 : Int32) (x7 : Int32) (x8 : Int32) (x9 : Int32) (x10 : Int32) (x11 : Int32) (x12 : Int32) (x13 : Int32) (x14 : Int32) (x15 : Int32) (x16 : Int32) (o17 : Addr) (x18 : Int32) (w0 : Int32) (w1 : Int32) (w2 : Int32) (w3 : Int32) (X0 : Stand p l e room_1 s m args below meth c T0 locs 1 4) (hx : p.tables.exec = Jvm.exec) (hZ : Z.Warmed39 s.vm) (hw : ∀ d ∈ tables_1, d.before a0 Z = true) (hby : c.code = code) (hml : c.maxLocals = 19) (hown : s.vm.findClass "com/example/lehre/lehre/TextPositionAdvancePinLaw" = some m.cls) (hret : meth.sig.returnType = some .boolean) (hlk : meth.locks = false) (e0 : T0.heap = h0) (Z0 : n0 ≤ h0.size) (N0 : Fr n0 locs) (K0 : own_TP Z h0 o17 w0 w1 w2 w3) (g0 : n0 ≤ o17) (hP : ∀ h' : Heap, P (some (.int (f0B_272 x0 x1 x2 x3 x4 x5 x6 x7 x8 x9 x10 x11 x12 x13 x14 x15 x16 x18 w0 w1 w2 w3))) h') :
    own_Goes p e below s n0 room_1.cells room_1.slots P (T0.setTop (mkF m 272 #[.val (.int x0), .val (.int x1), .val (.int x2), .val (.int x3), .val (.int x4), .val (.int x5), .val (.int x6), .val (.int x7), .val (.int x8), .val (.int x9), .val (.int x10), .val (.int x11), .val (.int x12), .val (.int x13), .val (.int x14), .val (.int x15), .val (.int x16), .val (.ref o17), .val (.int x18)] [])) := by
  rw [f0B_272] at hP
  refine own_Goes.pre (fun t kt => ?_) (b0B_277 x0 x1 x2 x3 x4 x5 x6 x7 x8 x9 x10 x11 x12 x13 x14 x15 x16 o17 x18 w0 w1 w2 w3 (1 : Int32) X0 hx hZ hw hby hml hown hret hlk e0 Z0 N0 K0 g0 hP)
  show Steps p.tables e below (T0.setTop (mkF m 272 #[.val (.int x0), .val (.int x1), .val (.int x2), .val (.int x3), .val (.int x4), .val (.int x5), .val (.int x6), .val (.int x7), .val (.int x8), .val (.int x9), .val (.int x10), .val (.int x11), .val (.int x12), .val (.int x13), .val (.int x14), .val (.int x15), .val (.int x16), .val (.ref o17), .val (.int x18)] [])) _
  refine XS.iconst X0.here hx rfl (hb hby at_272) ?_
  show Steps p.tables e below (T0.setTop (mkF m 273 #[.val (.int x0), .val (.int x1), .val (.int x2), .val (.int x3), .val (.int x4), .val (.int x5), .val (.int x6), .val (.int x7), .val (.int x8), .val (.int x9), .val (.int x10), .val (.int x11), .val (.int x12), .val (.int x13), .val (.int x14), .val (.int x15), .val (.int x16), .val (.ref o17), .val (.int x18)] [(.int (1 : Int32))])) _
  refine XS.goto X0.here hx rfl (pc0 := 273) (pc' := 277) rfl (hb hby at_273) (by decide) (by decide) ?_
  exact kt
def f0B_262 (x0 : Int32) (x1 : Int32) (x2 : Int32) (x3 : Int32) (x4 : Int32) (x5 : Int32) (x6 : Int32) (x7 : Int32) (x8 : Int32) (x9 : Int32) (x10 : Int32) (x11 : Int32) (x12 : Int32) (x13 : Int32) (x14 : Int32) (x15 : Int32) (x16 : Int32) (x18 : Int32) (w0 : Int32) (w1 : Int32) (w2 : Int32) (w3 : Int32) : Int32 := if (f7_0 w0 w1 w2 w3) = x15 then (f0B_272 x0 x1 x2 x3 x4 x5 x6 x7 x8 x9 x10 x11 x12 x13 x14 x15 x16 x18 w0 w1 w2 w3) else (f0B_276 x0 x1 x2 x3 x4 x5 x6 x7 x8 x9 x10 x11 x12 x13 x14 x15 x16 x18 w0 w1 w2 w3)
set_option maxRecDepth 65536 in
set_option maxHeartbeats 40000000 in
theorem b0B_262 {p : Program} {l : Launch} {e : Env} {s : State} {m : MethodId} {args : Array Value} {below : List Frame} {meth : Method} {c : Code} {T0 : State} {locs : List Loc} {Z : State} {a0 : Array Value} {h0 : Heap} {n0 : Nat} {P : Option Value → Heap → Prop} (x0 : Int32) (x1 : Int32) (x2 : Int32) (x3 : Int32) (x4 : Int32) (x5 : Int32) (x6 : Int32) (x7 : Int32) (x8 : Int32) (x9 : Int32) (x10 : Int32) (x11 : Int32) (x12 : Int32) (x13 : Int32) (x14 : Int32) (x15 : Int32) (x16 : Int32) (o17 : Addr) (x18 : Int32) (w0 : Int32) (w1 : Int32) (w2 : Int32) (w3 : Int32) (X0 : Stand p l e room_1 s m args below meth c T0 locs 1 4) (hx : p.tables.exec = Jvm.exec) (hZ : Z.Warmed39 s.vm) (hw : ∀ d ∈ tables_1, d.before a0 Z = true) (hby : c.code = code) (hml : c.maxLocals = 19) (hown : s.vm.findClass "com/example/lehre/lehre/TextPositionAdvancePinLaw" = some m.cls) (hret : meth.sig.returnType = some .boolean) (hlk : meth.locks = false) (e0 : T0.heap = h0) (Z0 : n0 ≤ h0.size) (N0 : Fr n0 locs) (K0 : own_TP Z h0 o17 w0 w1 w2 w3) (g0 : n0 ≤ o17) (hP : ∀ h' : Heap, P (some (.int (f0B_262 x0 x1 x2 x3 x4 x5 x6 x7 x8 x9 x10 x11 x12 x13 x14 x15 x16 x18 w0 w1 w2 w3))) h') :
    own_Goes p e below s n0 room_1.cells room_1.slots P (T0.setTop (mkF m 262 #[.val (.int x0), .val (.int x1), .val (.int x2), .val (.int x3), .val (.int x4), .val (.int x5), .val (.int x6), .val (.int x7), .val (.int x8), .val (.int x9), .val (.int x10), .val (.int x11), .val (.int x12), .val (.int x13), .val (.int x14), .val (.int x15), .val (.int x16), .val (.ref o17), .val (.int x18)] [])) := by
  obtain ⟨cq264, kq264, qa264, qb264, qc264⟩ := isOf hZ e0 K0.1
  obtain ⟨_, _, ⟨T264, L264, k264, n264⟩, -, X264, ⟨Lc264, hQ264, l264, y264, z264⟩, st264⟩ := X0.virtualBack hx (y := (⟨"com/example/lehre/lehre/TextPosition", "column", "()I"⟩ : MethodName)) (z := (⟨"com/example/lehre/lehre/TextPosition", "column", "()I"⟩ : MethodName)) hown (mvT hZ (hw _ (List.mem_of_getElem? (i := 30) rfl))) (mvT hZ (hw _ (List.mem_of_getElem? (i := 31) rfl))) (notFace_of_selects (args := #[]) (mvT hZ (hw _ (List.mem_of_getElem? (i := 33) rfl)))) (mvT hZ (hw _ (List.mem_of_getElem? (i := 33) rfl))) (mvT hZ (hw _ (List.mem_of_getElem? (i := 32) rfl))) (by decide) (backOf (W := 0) (rm7 l Z a0 hw [] o17 w0 w1 w2 w3 h0 n0 Z0 K0 g0) hZ (hw _ (List.mem_of_getElem? (i := 34) rfl)) (hw _ (List.mem_of_getElem? (i := 12) rfl)) (by decide) (by decide)) qa264 qc264 (g := (mkF m 264 #[.val (.int x0), .val (.int x1), .val (.int x2), .val (.int x3), .val (.int x4), .val (.int x5), .val (.int x6), .val (.int x7), .val (.int x8), .val (.int x9), .val (.int x10), .val (.int x11), .val (.int x12), .val (.int x13), .val (.int x14), .val (.int x15), .val (.int x16), .val (.ref o17), .val (.int x18)] [(.ref o17)])) rfl (by rw [hml]; rfl) (Steps.refl _) (argsL := []) (rest := []) (lenOf pd1 rfl) rfl (by show 2 * 0 + _ ≤ _; exact Nat.le_of_eq rfl) (hb hby at_264) (fun _ _ => ⟨rfl, e0, (by decide : 1 + 0 ≤ _), (by decide : 4 + 0 ≤ _)⟩)
  dsimp only [Pt.U, Pt.locs, Pt.cells, Pt.slots] at X264 l264 y264 z264 st264 hQ264
  subst l264 y264 z264
  obtain ⟨⟨rfl, e264⟩, N264q⟩ := hQ264
  have N264 := Fr.app N0 N264q
  have pre1 : ∀ t, Steps p.tables e below (T264.setTop (mkF m 269 #[.val (.int x0), .val (.int x1), .val (.int x2), .val (.int x3), .val (.int x4), .val (.int x5), .val (.int x6), .val (.int x7), .val (.int x8), .val (.int x9), .val (.int x10), .val (.int x11), .val (.int x12), .val (.int x13), .val (.int x14), .val (.int x15), .val (.int x16), .val (.ref o17), .val (.int x18)] [(.int x15), (.int (f7_0 w0 w1 w2 w3))])) t → Steps p.tables e below (T0.setTop (mkF m 262 #[.val (.int x0), .val (.int x1), .val (.int x2), .val (.int x3), .val (.int x4), .val (.int x5), .val (.int x6), .val (.int x7), .val (.int x8), .val (.int x9), .val (.int x10), .val (.int x11), .val (.int x12), .val (.int x13), .val (.int x14), .val (.int x15), .val (.int x16), .val (.ref o17), .val (.int x18)] [])) t := fun t kt => by
    show Steps p.tables e below (T0.setTop (mkF m 262 #[.val (.int x0), .val (.int x1), .val (.int x2), .val (.int x3), .val (.int x4), .val (.int x5), .val (.int x6), .val (.int x7), .val (.int x8), .val (.int x9), .val (.int x10), .val (.int x11), .val (.int x12), .val (.int x13), .val (.int x14), .val (.int x15), .val (.int x16), .val (.ref o17), .val (.int x18)] [])) _
    refine XS.aload X0.here hx rfl (hb hby at_262) rfl rfl ?_
    show Steps p.tables e below (T0.setTop (mkF m 264 #[.val (.int x0), .val (.int x1), .val (.int x2), .val (.int x3), .val (.int x4), .val (.int x5), .val (.int x6), .val (.int x7), .val (.int x8), .val (.int x9), .val (.int x10), .val (.int x11), .val (.int x12), .val (.int x13), .val (.int x14), .val (.int x15), .val (.int x16), .val (.ref o17), .val (.int x18)] [(.ref o17)])) _
    refine st264.trans ?_
    show Steps p.tables e below (T264.setTop (mkF m 267 #[.val (.int x0), .val (.int x1), .val (.int x2), .val (.int x3), .val (.int x4), .val (.int x5), .val (.int x6), .val (.int x7), .val (.int x8), .val (.int x9), .val (.int x10), .val (.int x11), .val (.int x12), .val (.int x13), .val (.int x14), .val (.int x15), .val (.int x16), .val (.ref o17), .val (.int x18)] [(.int (f7_0 w0 w1 w2 w3))])) _
    refine XS.iload X264.here hx rfl (hb hby at_267) rfl ?_
    exact kt
  refine own_Goes.pre pre1 ?_
  by_cases hc : (f7_0 w0 w1 w2 w3) = x15
  · rw [f0B_262, if_pos hc] at hP
    refine own_Goes.pre (fun t kt => ?_) (b0B_272 x0 x1 x2 x3 x4 x5 x6 x7 x8 x9 x10 x11 x12 x13 x14 x15 x16 o17 x18 w0 w1 w2 w3 X264 hx hZ hw hby hml hown hret hlk e264 Z0 N264 K0 g0 hP)
    show Steps p.tables e below (T264.setTop (mkF m 269 #[.val (.int x0), .val (.int x1), .val (.int x2), .val (.int x3), .val (.int x4), .val (.int x5), .val (.int x6), .val (.int x7), .val (.int x8), .val (.int x9), .val (.int x10), .val (.int x11), .val (.int x12), .val (.int x13), .val (.int x14), .val (.int x15), .val (.int x16), .val (.ref o17), .val (.int x18)] [(.int x15), (.int (f7_0 w0 w1 w2 w3))])) _
    refine XS.icmpNo X264.here hx rfl (hb hby at_269) rfl (teq hc).2 ?_
    exact kt
  · rw [f0B_262, if_neg hc] at hP
    refine own_Goes.pre (fun t kt => ?_) (b0B_276 x0 x1 x2 x3 x4 x5 x6 x7 x8 x9 x10 x11 x12 x13 x14 x15 x16 o17 x18 w0 w1 w2 w3 X264 hx hZ hw hby hml hown hret hlk e264 Z0 N264 K0 g0 hP)
    show Steps p.tables e below (T264.setTop (mkF m 269 #[.val (.int x0), .val (.int x1), .val (.int x2), .val (.int x3), .val (.int x4), .val (.int x5), .val (.int x6), .val (.int x7), .val (.int x8), .val (.int x9), .val (.int x10), .val (.int x11), .val (.int x12), .val (.int x13), .val (.int x14), .val (.int x15), .val (.int x16), .val (.ref o17), .val (.int x18)] [(.int x15), (.int (f7_0 w0 w1 w2 w3))])) _
    refine XS.icmpYes X264.here hx rfl (pc0 := 269) (pc' := 276) rfl (hb hby at_269) rfl (feq hc).2 (by decide) (by decide) ?_
    exact kt
def f0B_252 (x0 : Int32) (x1 : Int32) (x2 : Int32) (x3 : Int32) (x4 : Int32) (x5 : Int32) (x6 : Int32) (x7 : Int32) (x8 : Int32) (x9 : Int32) (x10 : Int32) (x11 : Int32) (x12 : Int32) (x13 : Int32) (x14 : Int32) (x15 : Int32) (x16 : Int32) (x18 : Int32) (w0 : Int32) (w1 : Int32) (w2 : Int32) (w3 : Int32) : Int32 := if (f6_0 w0 w1 w2 w3) = x12 then (f0B_262 x0 x1 x2 x3 x4 x5 x6 x7 x8 x9 x10 x11 x12 x13 x14 x15 x16 x18 w0 w1 w2 w3) else (f0B_276 x0 x1 x2 x3 x4 x5 x6 x7 x8 x9 x10 x11 x12 x13 x14 x15 x16 x18 w0 w1 w2 w3)
set_option maxRecDepth 65536 in
set_option maxHeartbeats 40000000 in
theorem b0B_252 {p : Program} {l : Launch} {e : Env} {s : State} {m : MethodId} {args : Array Value} {below : List Frame} {meth : Method} {c : Code} {T0 : State} {locs : List Loc} {Z : State} {a0 : Array Value} {h0 : Heap} {n0 : Nat} {P : Option Value → Heap → Prop} (x0 : Int32) (x1 : Int32) (x2 : Int32) (x3 : Int32) (x4 : Int32) (x5 : Int32) (x6 : Int32) (x7 : Int32) (x8 : Int32) (x9 : Int32) (x10 : Int32) (x11 : Int32) (x12 : Int32) (x13 : Int32) (x14 : Int32) (x15 : Int32) (x16 : Int32) (o17 : Addr) (x18 : Int32) (w0 : Int32) (w1 : Int32) (w2 : Int32) (w3 : Int32) (X0 : Stand p l e room_1 s m args below meth c T0 locs 1 4) (hx : p.tables.exec = Jvm.exec) (hZ : Z.Warmed39 s.vm) (hw : ∀ d ∈ tables_1, d.before a0 Z = true) (hby : c.code = code) (hml : c.maxLocals = 19) (hown : s.vm.findClass "com/example/lehre/lehre/TextPositionAdvancePinLaw" = some m.cls) (hret : meth.sig.returnType = some .boolean) (hlk : meth.locks = false) (e0 : T0.heap = h0) (Z0 : n0 ≤ h0.size) (N0 : Fr n0 locs) (K0 : own_TP Z h0 o17 w0 w1 w2 w3) (g0 : n0 ≤ o17) (hP : ∀ h' : Heap, P (some (.int (f0B_252 x0 x1 x2 x3 x4 x5 x6 x7 x8 x9 x10 x11 x12 x13 x14 x15 x16 x18 w0 w1 w2 w3))) h') :
    own_Goes p e below s n0 room_1.cells room_1.slots P (T0.setTop (mkF m 252 #[.val (.int x0), .val (.int x1), .val (.int x2), .val (.int x3), .val (.int x4), .val (.int x5), .val (.int x6), .val (.int x7), .val (.int x8), .val (.int x9), .val (.int x10), .val (.int x11), .val (.int x12), .val (.int x13), .val (.int x14), .val (.int x15), .val (.int x16), .val (.ref o17), .val (.int x18)] [])) := by
  obtain ⟨cq254, kq254, qa254, qb254, qc254⟩ := isOf hZ e0 K0.1
  obtain ⟨_, _, ⟨T254, L254, k254, n254⟩, -, X254, ⟨Lc254, hQ254, l254, y254, z254⟩, st254⟩ := X0.virtualBack hx (y := (⟨"com/example/lehre/lehre/TextPosition", "line", "()I"⟩ : MethodName)) (z := (⟨"com/example/lehre/lehre/TextPosition", "line", "()I"⟩ : MethodName)) hown (mvT hZ (hw _ (List.mem_of_getElem? (i := 25) rfl))) (mvT hZ (hw _ (List.mem_of_getElem? (i := 26) rfl))) (notFace_of_selects (args := #[]) (mvT hZ (hw _ (List.mem_of_getElem? (i := 28) rfl)))) (mvT hZ (hw _ (List.mem_of_getElem? (i := 28) rfl))) (mvT hZ (hw _ (List.mem_of_getElem? (i := 27) rfl))) (by decide) (backOf (W := 0) (rm6 l Z a0 hw [] o17 w0 w1 w2 w3 h0 n0 Z0 K0 g0) hZ (hw _ (List.mem_of_getElem? (i := 29) rfl)) (hw _ (List.mem_of_getElem? (i := 12) rfl)) (by decide) (by decide)) qa254 qc254 (g := (mkF m 254 #[.val (.int x0), .val (.int x1), .val (.int x2), .val (.int x3), .val (.int x4), .val (.int x5), .val (.int x6), .val (.int x7), .val (.int x8), .val (.int x9), .val (.int x10), .val (.int x11), .val (.int x12), .val (.int x13), .val (.int x14), .val (.int x15), .val (.int x16), .val (.ref o17), .val (.int x18)] [(.ref o17)])) rfl (by rw [hml]; rfl) (Steps.refl _) (argsL := []) (rest := []) (lenOf pd1 rfl) rfl (by show 2 * 0 + _ ≤ _; exact Nat.le_of_eq rfl) (hb hby at_254) (fun _ _ => ⟨rfl, e0, (by decide : 1 + 0 ≤ _), (by decide : 4 + 0 ≤ _)⟩)
  dsimp only [Pt.U, Pt.locs, Pt.cells, Pt.slots] at X254 l254 y254 z254 st254 hQ254
  subst l254 y254 z254
  obtain ⟨⟨rfl, e254⟩, N254q⟩ := hQ254
  have N254 := Fr.app N0 N254q
  have pre1 : ∀ t, Steps p.tables e below (T254.setTop (mkF m 259 #[.val (.int x0), .val (.int x1), .val (.int x2), .val (.int x3), .val (.int x4), .val (.int x5), .val (.int x6), .val (.int x7), .val (.int x8), .val (.int x9), .val (.int x10), .val (.int x11), .val (.int x12), .val (.int x13), .val (.int x14), .val (.int x15), .val (.int x16), .val (.ref o17), .val (.int x18)] [(.int x12), (.int (f6_0 w0 w1 w2 w3))])) t → Steps p.tables e below (T0.setTop (mkF m 252 #[.val (.int x0), .val (.int x1), .val (.int x2), .val (.int x3), .val (.int x4), .val (.int x5), .val (.int x6), .val (.int x7), .val (.int x8), .val (.int x9), .val (.int x10), .val (.int x11), .val (.int x12), .val (.int x13), .val (.int x14), .val (.int x15), .val (.int x16), .val (.ref o17), .val (.int x18)] [])) t := fun t kt => by
    show Steps p.tables e below (T0.setTop (mkF m 252 #[.val (.int x0), .val (.int x1), .val (.int x2), .val (.int x3), .val (.int x4), .val (.int x5), .val (.int x6), .val (.int x7), .val (.int x8), .val (.int x9), .val (.int x10), .val (.int x11), .val (.int x12), .val (.int x13), .val (.int x14), .val (.int x15), .val (.int x16), .val (.ref o17), .val (.int x18)] [])) _
    refine XS.aload X0.here hx rfl (hb hby at_252) rfl rfl ?_
    show Steps p.tables e below (T0.setTop (mkF m 254 #[.val (.int x0), .val (.int x1), .val (.int x2), .val (.int x3), .val (.int x4), .val (.int x5), .val (.int x6), .val (.int x7), .val (.int x8), .val (.int x9), .val (.int x10), .val (.int x11), .val (.int x12), .val (.int x13), .val (.int x14), .val (.int x15), .val (.int x16), .val (.ref o17), .val (.int x18)] [(.ref o17)])) _
    refine st254.trans ?_
    show Steps p.tables e below (T254.setTop (mkF m 257 #[.val (.int x0), .val (.int x1), .val (.int x2), .val (.int x3), .val (.int x4), .val (.int x5), .val (.int x6), .val (.int x7), .val (.int x8), .val (.int x9), .val (.int x10), .val (.int x11), .val (.int x12), .val (.int x13), .val (.int x14), .val (.int x15), .val (.int x16), .val (.ref o17), .val (.int x18)] [(.int (f6_0 w0 w1 w2 w3))])) _
    refine XS.iload X254.here hx rfl (hb hby at_257) rfl ?_
    exact kt
  refine own_Goes.pre pre1 ?_
  by_cases hc : (f6_0 w0 w1 w2 w3) = x12
  · rw [f0B_252, if_pos hc] at hP
    refine own_Goes.pre (fun t kt => ?_) (b0B_262 x0 x1 x2 x3 x4 x5 x6 x7 x8 x9 x10 x11 x12 x13 x14 x15 x16 o17 x18 w0 w1 w2 w3 X254 hx hZ hw hby hml hown hret hlk e254 Z0 N254 K0 g0 hP)
    show Steps p.tables e below (T254.setTop (mkF m 259 #[.val (.int x0), .val (.int x1), .val (.int x2), .val (.int x3), .val (.int x4), .val (.int x5), .val (.int x6), .val (.int x7), .val (.int x8), .val (.int x9), .val (.int x10), .val (.int x11), .val (.int x12), .val (.int x13), .val (.int x14), .val (.int x15), .val (.int x16), .val (.ref o17), .val (.int x18)] [(.int x12), (.int (f6_0 w0 w1 w2 w3))])) _
    refine XS.icmpNo X254.here hx rfl (hb hby at_259) rfl (teq hc).2 ?_
    exact kt
  · rw [f0B_252, if_neg hc] at hP
    refine own_Goes.pre (fun t kt => ?_) (b0B_276 x0 x1 x2 x3 x4 x5 x6 x7 x8 x9 x10 x11 x12 x13 x14 x15 x16 o17 x18 w0 w1 w2 w3 X254 hx hZ hw hby hml hown hret hlk e254 Z0 N254 K0 g0 hP)
    show Steps p.tables e below (T254.setTop (mkF m 259 #[.val (.int x0), .val (.int x1), .val (.int x2), .val (.int x3), .val (.int x4), .val (.int x5), .val (.int x6), .val (.int x7), .val (.int x8), .val (.int x9), .val (.int x10), .val (.int x11), .val (.int x12), .val (.int x13), .val (.int x14), .val (.int x15), .val (.int x16), .val (.ref o17), .val (.int x18)] [(.int x12), (.int (f6_0 w0 w1 w2 w3))])) _
    refine XS.icmpYes X254.here hx rfl (pc0 := 259) (pc' := 276) rfl (hb hby at_259) rfl (feq hc).2 (by decide) (by decide) ?_
    exact kt
def f0B_238 (x0 : Int32) (x1 : Int32) (x2 : Int32) (x3 : Int32) (x4 : Int32) (x5 : Int32) (x6 : Int32) (x7 : Int32) (x8 : Int32) (x9 : Int32) (x10 : Int32) (x11 : Int32) (x12 : Int32) (x13 : Int32) (x14 : Int32) (x15 : Int32) (x16 : Int32) (x18 : Int32) (w0 : Int32) (w1 : Int32) (w2 : Int32) (w3 : Int32) (y0 : Int32) : Int32 := if y0 = (0 : Int32) then (f0B_276 x0 x1 x2 x3 x4 x5 x6 x7 x8 x9 x10 x11 x12 x13 x14 x15 x16 y0 (f8_0 x6 w0 w1 w2 w3).1 (f8_0 x6 w0 w1 w2 w3).2.1 (f8_0 x6 w0 w1 w2 w3).2.2.1 (f8_0 x6 w0 w1 w2 w3).2.2.2) else (f0B_252 x0 x1 x2 x3 x4 x5 x6 x7 x8 x9 x10 x11 x12 x13 x14 x15 x16 y0 (f8_0 x6 w0 w1 w2 w3).1 (f8_0 x6 w0 w1 w2 w3).2.1 (f8_0 x6 w0 w1 w2 w3).2.2.1 (f8_0 x6 w0 w1 w2 w3).2.2.2)
set_option maxRecDepth 65536 in
set_option maxHeartbeats 40000000 in
theorem b0B_238 {p : Program} {l : Launch} {e : Env} {s : State} {m : MethodId} {args : Array Value} {below : List Frame} {meth : Method} {c : Code} {T0 : State} {locs : List Loc} {Z : State} {a0 : Array Value} {h0 : Heap} {n0 : Nat} {P : Option Value → Heap → Prop} (x0 : Int32) (x1 : Int32) (x2 : Int32) (x3 : Int32) (x4 : Int32) (x5 : Int32) (x6 : Int32) (x7 : Int32) (x8 : Int32) (x9 : Int32) (x10 : Int32) (x11 : Int32) (x12 : Int32) (x13 : Int32) (x14 : Int32) (x15 : Int32) (x16 : Int32) (o17 : Addr) (x18 : Int32) (w0 : Int32) (w1 : Int32) (w2 : Int32) (w3 : Int32) (y0 : Int32) (X0 : Stand p l e room_1 s m args below meth c T0 locs 1 4) (hx : p.tables.exec = Jvm.exec) (hZ : Z.Warmed39 s.vm) (hw : ∀ d ∈ tables_1, d.before a0 Z = true) (hby : c.code = code) (hml : c.maxLocals = 19) (hown : s.vm.findClass "com/example/lehre/lehre/TextPositionAdvancePinLaw" = some m.cls) (hret : meth.sig.returnType = some .boolean) (hlk : meth.locks = false) (e0 : T0.heap = h0) (Z0 : n0 ≤ h0.size) (N0 : Fr n0 locs) (K0 : own_TP Z h0 o17 w0 w1 w2 w3) (g0 : n0 ≤ o17) (hP : ∀ h' : Heap, P (some (.int (f0B_238 x0 x1 x2 x3 x4 x5 x6 x7 x8 x9 x10 x11 x12 x13 x14 x15 x16 x18 w0 w1 w2 w3 y0))) h') :
    own_Goes p e below s n0 room_1.cells room_1.slots P (T0.setTop (mkF m 238 #[.val (.int x0), .val (.int x1), .val (.int x2), .val (.int x3), .val (.int x4), .val (.int x5), .val (.int x6), .val (.int x7), .val (.int x8), .val (.int x9), .val (.int x10), .val (.int x11), .val (.int x12), .val (.int x13), .val (.int x14), .val (.int x15), .val (.int x16), .val (.ref o17), .val (.int x18)] [(.int y0)])) := by
  obtain ⟨cq244, kq244, qa244, qb244, qc244⟩ := isOf hZ e0 K0.1
  obtain ⟨_, _, ⟨T244, L244, k244, n244⟩, -, X244, ⟨Lc244, hQ244, l244, y244, z244⟩, st244⟩ := X0.virtualBack hx (y := (⟨"com/example/lehre/lehre/TextPosition", "advance", "(C)V"⟩ : MethodName)) (z := (⟨"com/example/lehre/lehre/TextPosition", "advance", "(C)V"⟩ : MethodName)) hown (mvT hZ (hw _ (List.mem_of_getElem? (i := 35) rfl))) (mvT hZ (hw _ (List.mem_of_getElem? (i := 36) rfl))) (notFace_of_selects (args := #[]) (mvT hZ (hw _ (List.mem_of_getElem? (i := 38) rfl)))) (mvT hZ (hw _ (List.mem_of_getElem? (i := 38) rfl))) (mvT hZ (hw _ (List.mem_of_getElem? (i := 37) rfl))) (by decide) (backOf (W := 0) (rm8 l Z a0 hw [] o17 x6 w0 w1 w2 w3 h0 n0 Z0 K0 g0) hZ (hw _ (List.mem_of_getElem? (i := 39) rfl)) (hw _ (List.mem_of_getElem? (i := 12) rfl)) (by decide) (by decide)) qa244 qc244 (g := (mkF m 244 #[.val (.int x0), .val (.int x1), .val (.int x2), .val (.int x3), .val (.int x4), .val (.int x5), .val (.int x6), .val (.int x7), .val (.int x8), .val (.int x9), .val (.int x10), .val (.int x11), .val (.int x12), .val (.int x13), .val (.int x14), .val (.int x15), .val (.int x16), .val (.ref o17), .val (.int y0)] [(.int x6), (.ref o17)])) rfl (by rw [hml]; rfl) (Steps.refl _) (argsL := [(.int x6)]) (rest := []) (lenOf pd2 rfl) rfl (by show 2 * 0 + _ ≤ _; exact Nat.le_of_eq rfl) (hb hby at_244) (fun _ _ => ⟨rfl, e0, (by decide : 1 + 0 ≤ _), (by decide : 4 + 0 ≤ _)⟩)
  dsimp only [Pt.U, Pt.locs, Pt.cells, Pt.slots] at X244 l244 y244 z244 st244 hQ244
  subst l244 y244 z244
  obtain ⟨⟨rfl, K244⟩, N244q⟩ := hQ244
  have Z244 : n0 ≤ T244.heap.size := Nat.le_of_lt (Nat.lt_of_le_of_lt g0 K244.1.lt)
  have e244 : T244.heap = T244.heap := rfl
  have N244 := Fr.app N0 N244q
  have pre1 : ∀ t, Steps p.tables e below (T244.setTop (mkF m 249 #[.val (.int x0), .val (.int x1), .val (.int x2), .val (.int x3), .val (.int x4), .val (.int x5), .val (.int x6), .val (.int x7), .val (.int x8), .val (.int x9), .val (.int x10), .val (.int x11), .val (.int x12), .val (.int x13), .val (.int x14), .val (.int x15), .val (.int x16), .val (.ref o17), .val (.int y0)] [(.int y0)])) t → Steps p.tables e below (T0.setTop (mkF m 238 #[.val (.int x0), .val (.int x1), .val (.int x2), .val (.int x3), .val (.int x4), .val (.int x5), .val (.int x6), .val (.int x7), .val (.int x8), .val (.int x9), .val (.int x10), .val (.int x11), .val (.int x12), .val (.int x13), .val (.int x14), .val (.int x15), .val (.int x16), .val (.ref o17), .val (.int x18)] [(.int y0)])) t := fun t kt => by
    show Steps p.tables e below (T0.setTop (mkF m 238 #[.val (.int x0), .val (.int x1), .val (.int x2), .val (.int x3), .val (.int x4), .val (.int x5), .val (.int x6), .val (.int x7), .val (.int x8), .val (.int x9), .val (.int x10), .val (.int x11), .val (.int x12), .val (.int x13), .val (.int x14), .val (.int x15), .val (.int x16), .val (.ref o17), .val (.int x18)] [(.int y0)])) _
    refine XS.istore X0.here hx rfl (hb hby at_238) rfl (l' := #[.val (.int x0), .val (.int x1), .val (.int x2), .val (.int x3), .val (.int x4), .val (.int x5), .val (.int x6), .val (.int x7), .val (.int x8), .val (.int x9), .val (.int x10), .val (.int x11), .val (.int x12), .val (.int x13), .val (.int x14), .val (.int x15), .val (.int x16), .val (.ref o17), .val (.int y0)]) rfl ?_
    show Steps p.tables e below (T0.setTop (mkF m 240 #[.val (.int x0), .val (.int x1), .val (.int x2), .val (.int x3), .val (.int x4), .val (.int x5), .val (.int x6), .val (.int x7), .val (.int x8), .val (.int x9), .val (.int x10), .val (.int x11), .val (.int x12), .val (.int x13), .val (.int x14), .val (.int x15), .val (.int x16), .val (.ref o17), .val (.int y0)] [])) _
    refine XS.aload X0.here hx rfl (hb hby at_240) rfl rfl ?_
    show Steps p.tables e below (T0.setTop (mkF m 242 #[.val (.int x0), .val (.int x1), .val (.int x2), .val (.int x3), .val (.int x4), .val (.int x5), .val (.int x6), .val (.int x7), .val (.int x8), .val (.int x9), .val (.int x10), .val (.int x11), .val (.int x12), .val (.int x13), .val (.int x14), .val (.int x15), .val (.int x16), .val (.ref o17), .val (.int y0)] [(.ref o17)])) _
    refine XS.iload X0.here hx rfl (hb hby at_242) rfl ?_
    show Steps p.tables e below (T0.setTop (mkF m 244 #[.val (.int x0), .val (.int x1), .val (.int x2), .val (.int x3), .val (.int x4), .val (.int x5), .val (.int x6), .val (.int x7), .val (.int x8), .val (.int x9), .val (.int x10), .val (.int x11), .val (.int x12), .val (.int x13), .val (.int x14), .val (.int x15), .val (.int x16), .val (.ref o17), .val (.int y0)] [(.int x6), (.ref o17)])) _
    refine st244.trans ?_
    show Steps p.tables e below (T244.setTop (mkF m 247 #[.val (.int x0), .val (.int x1), .val (.int x2), .val (.int x3), .val (.int x4), .val (.int x5), .val (.int x6), .val (.int x7), .val (.int x8), .val (.int x9), .val (.int x10), .val (.int x11), .val (.int x12), .val (.int x13), .val (.int x14), .val (.int x15), .val (.int x16), .val (.ref o17), .val (.int y0)] [])) _
    refine XS.iload X244.here hx rfl (hb hby at_247) rfl ?_
    exact kt
  refine own_Goes.pre pre1 ?_
  by_cases hc : y0 = (0 : Int32)
  · rw [f0B_238, if_pos hc] at hP
    refine own_Goes.pre (fun t kt => ?_) (b0B_276 x0 x1 x2 x3 x4 x5 x6 x7 x8 x9 x10 x11 x12 x13 x14 x15 x16 o17 y0 (f8_0 x6 w0 w1 w2 w3).1 (f8_0 x6 w0 w1 w2 w3).2.1 (f8_0 x6 w0 w1 w2 w3).2.2.1 (f8_0 x6 w0 w1 w2 w3).2.2.2 X244 hx hZ hw hby hml hown hret hlk e244 Z244 N244 K244 g0 hP)
    show Steps p.tables e below (T244.setTop (mkF m 249 #[.val (.int x0), .val (.int x1), .val (.int x2), .val (.int x3), .val (.int x4), .val (.int x5), .val (.int x6), .val (.int x7), .val (.int x8), .val (.int x9), .val (.int x10), .val (.int x11), .val (.int x12), .val (.int x13), .val (.int x14), .val (.int x15), .val (.int x16), .val (.ref o17), .val (.int y0)] [(.int y0)])) _
    refine XS.ifYes X244.here hx rfl (pc0 := 249) (pc' := 276) rfl (hb hby at_249) rfl ((if0 _ _).trans (teq hc).1) (by decide) (by decide) ?_
    exact kt
  · rw [f0B_238, if_neg hc] at hP
    refine own_Goes.pre (fun t kt => ?_) (b0B_252 x0 x1 x2 x3 x4 x5 x6 x7 x8 x9 x10 x11 x12 x13 x14 x15 x16 o17 y0 (f8_0 x6 w0 w1 w2 w3).1 (f8_0 x6 w0 w1 w2 w3).2.1 (f8_0 x6 w0 w1 w2 w3).2.2.1 (f8_0 x6 w0 w1 w2 w3).2.2.2 X244 hx hZ hw hby hml hown hret hlk e244 Z244 N244 K244 g0 hP)
    show Steps p.tables e below (T244.setTop (mkF m 249 #[.val (.int x0), .val (.int x1), .val (.int x2), .val (.int x3), .val (.int x4), .val (.int x5), .val (.int x6), .val (.int x7), .val (.int x8), .val (.int x9), .val (.int x10), .val (.int x11), .val (.int x12), .val (.int x13), .val (.int x14), .val (.int x15), .val (.int x16), .val (.ref o17), .val (.int y0)] [(.int y0)])) _
    refine XS.ifNo X244.here hx rfl (hb hby at_249) rfl ((if0 _ _).trans (feq hc).1) ?_
    exact kt
def f0B_237 (x0 : Int32) (x1 : Int32) (x2 : Int32) (x3 : Int32) (x4 : Int32) (x5 : Int32) (x6 : Int32) (x7 : Int32) (x8 : Int32) (x9 : Int32) (x10 : Int32) (x11 : Int32) (x12 : Int32) (x13 : Int32) (x14 : Int32) (x15 : Int32) (x16 : Int32) (x18 : Int32) (w0 : Int32) (w1 : Int32) (w2 : Int32) (w3 : Int32) : Int32 := (f0B_238 x0 x1 x2 x3 x4 x5 x6 x7 x8 x9 x10 x11 x12 x13 x14 x15 x16 x18 w0 w1 w2 w3 (0 : Int32))
set_option maxRecDepth 65536 in
set_option maxHeartbeats 40000000 in
theorem b0B_237 {p : Program} {l : Launch} {e : Env} {s : State} {m : MethodId} {args : Array Value} {below : List Frame} {meth : Method} {c : Code} {T0 : State} {locs : List Loc} {Z : State} {a0 : Array Value} {h0 : Heap} {n0 : Nat} {P : Option Value → Heap → Prop} (x0 : Int32) (x1 : Int32) (x2 : Int32) (x3 : Int32) (x4 : Int32) (x5 : Int32) (x6 : Int32) (x7 : Int32) (x8 : Int32) (x9 : Int32) (x10 : Int32) (x11 : Int32) (x12 : Int32) (x13 : Int32) (x14 : Int32) (x15 : Int32) (x16 : Int32) (o17 : Addr) (x18 : Int32) (w0 : Int32) (w1 : Int32) (w2 : Int32) (w3 : Int32) (X0 : Stand p l e room_1 s m args below meth c T0 locs 1 4) (hx : p.tables.exec = Jvm.exec) (hZ : Z.Warmed39 s.vm) (hw : ∀ d ∈ tables_1, d.before a0 Z = true) (hby : c.code = code) (hml : c.maxLocals = 19) (hown : s.vm.findClass "com/example/lehre/lehre/TextPositionAdvancePinLaw" = some m.cls) (hret : meth.sig.returnType = some .boolean) (hlk : meth.locks = false) (e0 : T0.heap = h0) (Z0 : n0 ≤ h0.size) (N0 : Fr n0 locs) (K0 : own_TP Z h0 o17 w0 w1 w2 w3) (g0 : n0 ≤ o17) (hP : ∀ h' : Heap, P (some (.int (f0B_237 x0 x1 x2 x3 x4 x5 x6 x7 x8 x9 x10 x11 x12 x13 x14 x15 x16 x18 w0 w1 w2 w3))) h') :
    own_Goes p e below s n0 room_1.cells room_1.slots P (T0.setTop (mkF m 237 #[.val (.int x0), .val (.int x1), .val (.int x2), .val (.int x3), .val (.int x4), .val (.int x5), .val (.int x6), .val (.int x7), .val (.int x8), .val (.int x9), .val (.int x10), .val (.int x11), .val (.int x12), .val (.int x13), .val (.int x14), .val (.int x15), .val (.int x16), .val (.ref o17), .val (.int x18)] [])) := by
  rw [f0B_237] at hP
  refine own_Goes.pre (fun t kt => ?_) (b0B_238 x0 x1 x2 x3 x4 x5 x6 x7 x8 x9 x10 x11 x12 x13 x14 x15 x16 o17 x18 w0 w1 w2 w3 (0 : Int32) X0 hx hZ hw hby hml hown hret hlk e0 Z0 N0 K0 g0 hP)
  show Steps p.tables e below (T0.setTop (mkF m 237 #[.val (.int x0), .val (.int x1), .val (.int x2), .val (.int x3), .val (.int x4), .val (.int x5), .val (.int x6), .val (.int x7), .val (.int x8), .val (.int x9), .val (.int x10), .val (.int x11), .val (.int x12), .val (.int x13), .val (.int x14), .val (.int x15), .val (.int x16), .val (.ref o17), .val (.int x18)] [])) _
  refine XS.iconst X0.here hx rfl (hb hby at_237) ?_
  exact kt
def f0B_233 (x0 : Int32) (x1 : Int32) (x2 : Int32) (x3 : Int32) (x4 : Int32) (x5 : Int32) (x6 : Int32) (x7 : Int32) (x8 : Int32) (x9 : Int32) (x10 : Int32) (x11 : Int32) (x12 : Int32) (x13 : Int32) (x14 : Int32) (x15 : Int32) (x16 : Int32) (x18 : Int32) (w0 : Int32) (w1 : Int32) (w2 : Int32) (w3 : Int32) : Int32 := (f0B_238 x0 x1 x2 x3 x4 x5 x6 x7 x8 x9 x10 x11 x12 x13 x14 x15 x16 x18 w0 w1 w2 w3 (1 : Int32))
set_option maxRecDepth 65536 in
set_option maxHeartbeats 40000000 in
theorem b0B_233 {p : Program} {l : Launch} {e : Env} {s : State} {m : MethodId} {args : Array Value} {below : List Frame} {meth : Method} {c : Code} {T0 : State} {locs : List Loc} {Z : State} {a0 : Array Value} {h0 : Heap} {n0 : Nat} {P : Option Value → Heap → Prop} (x0 : Int32) (x1 : Int32) (x2 : Int32) (x3 : Int32) (x4 : Int32) (x5 : Int32) (x6 : Int32) (x7 : Int32) (x8 : Int32) (x9 : Int32) (x10 : Int32) (x11 : Int32) (x12 : Int32) (x13 : Int32) (x14 : Int32) (x15 : Int32) (x16 : Int32) (o17 : Addr) (x18 : Int32) (w0 : Int32) (w1 : Int32) (w2 : Int32) (w3 : Int32) (X0 : Stand p l e room_1 s m args below meth c T0 locs 1 4) (hx : p.tables.exec = Jvm.exec) (hZ : Z.Warmed39 s.vm) (hw : ∀ d ∈ tables_1, d.before a0 Z = true) (hby : c.code = code) (hml : c.maxLocals = 19) (hown : s.vm.findClass "com/example/lehre/lehre/TextPositionAdvancePinLaw" = some m.cls) (hret : meth.sig.returnType = some .boolean) (hlk : meth.locks = false) (e0 : T0.heap = h0) (Z0 : n0 ≤ h0.size) (N0 : Fr n0 locs) (K0 : own_TP Z h0 o17 w0 w1 w2 w3) (g0 : n0 ≤ o17) (hP : ∀ h' : Heap, P (some (.int (f0B_233 x0 x1 x2 x3 x4 x5 x6 x7 x8 x9 x10 x11 x12 x13 x14 x15 x16 x18 w0 w1 w2 w3))) h') :
    own_Goes p e below s n0 room_1.cells room_1.slots P (T0.setTop (mkF m 233 #[.val (.int x0), .val (.int x1), .val (.int x2), .val (.int x3), .val (.int x4), .val (.int x5), .val (.int x6), .val (.int x7), .val (.int x8), .val (.int x9), .val (.int x10), .val (.int x11), .val (.int x12), .val (.int x13), .val (.int x14), .val (.int x15), .val (.int x16), .val (.ref o17), .val (.int x18)] [])) := by
  rw [f0B_233] at hP
  refine own_Goes.pre (fun t kt => ?_) (b0B_238 x0 x1 x2 x3 x4 x5 x6 x7 x8 x9 x10 x11 x12 x13 x14 x15 x16 o17 x18 w0 w1 w2 w3 (1 : Int32) X0 hx hZ hw hby hml hown hret hlk e0 Z0 N0 K0 g0 hP)
  show Steps p.tables e below (T0.setTop (mkF m 233 #[.val (.int x0), .val (.int x1), .val (.int x2), .val (.int x3), .val (.int x4), .val (.int x5), .val (.int x6), .val (.int x7), .val (.int x8), .val (.int x9), .val (.int x10), .val (.int x11), .val (.int x12), .val (.int x13), .val (.int x14), .val (.int x15), .val (.int x16), .val (.ref o17), .val (.int x18)] [])) _
  refine XS.iconst X0.here hx rfl (hb hby at_233) ?_
  show Steps p.tables e below (T0.setTop (mkF m 234 #[.val (.int x0), .val (.int x1), .val (.int x2), .val (.int x3), .val (.int x4), .val (.int x5), .val (.int x6), .val (.int x7), .val (.int x8), .val (.int x9), .val (.int x10), .val (.int x11), .val (.int x12), .val (.int x13), .val (.int x14), .val (.int x15), .val (.int x16), .val (.ref o17), .val (.int x18)] [(.int (1 : Int32))])) _
  refine XS.goto X0.here hx rfl (pc0 := 234) (pc' := 238) rfl (hb hby at_234) (by decide) (by decide) ?_
  exact kt
def f0B_223 (x0 : Int32) (x1 : Int32) (x2 : Int32) (x3 : Int32) (x4 : Int32) (x5 : Int32) (x6 : Int32) (x7 : Int32) (x8 : Int32) (x9 : Int32) (x10 : Int32) (x11 : Int32) (x12 : Int32) (x13 : Int32) (x14 : Int32) (x15 : Int32) (x16 : Int32) (x18 : Int32) (w0 : Int32) (w1 : Int32) (w2 : Int32) (w3 : Int32) : Int32 := if (f7_0 w0 w1 w2 w3) = x14 then (f0B_233 x0 x1 x2 x3 x4 x5 x6 x7 x8 x9 x10 x11 x12 x13 x14 x15 x16 x18 w0 w1 w2 w3) else (f0B_237 x0 x1 x2 x3 x4 x5 x6 x7 x8 x9 x10 x11 x12 x13 x14 x15 x16 x18 w0 w1 w2 w3)
set_option maxRecDepth 65536 in
set_option maxHeartbeats 40000000 in
theorem b0B_223 {p : Program} {l : Launch} {e : Env} {s : State} {m : MethodId} {args : Array Value} {below : List Frame} {meth : Method} {c : Code} {T0 : State} {locs : List Loc} {Z : State} {a0 : Array Value} {h0 : Heap} {n0 : Nat} {P : Option Value → Heap → Prop} (x0 : Int32) (x1 : Int32) (x2 : Int32) (x3 : Int32) (x4 : Int32) (x5 : Int32) (x6 : Int32) (x7 : Int32) (x8 : Int32) (x9 : Int32) (x10 : Int32) (x11 : Int32) (x12 : Int32) (x13 : Int32) (x14 : Int32) (x15 : Int32) (x16 : Int32) (o17 : Addr) (x18 : Int32) (w0 : Int32) (w1 : Int32) (w2 : Int32) (w3 : Int32) (X0 : Stand p l e room_1 s m args below meth c T0 locs 1 4) (hx : p.tables.exec = Jvm.exec) (hZ : Z.Warmed39 s.vm) (hw : ∀ d ∈ tables_1, d.before a0 Z = true) (hby : c.code = code) (hml : c.maxLocals = 19) (hown : s.vm.findClass "com/example/lehre/lehre/TextPositionAdvancePinLaw" = some m.cls) (hret : meth.sig.returnType = some .boolean) (hlk : meth.locks = false) (e0 : T0.heap = h0) (Z0 : n0 ≤ h0.size) (N0 : Fr n0 locs) (K0 : own_TP Z h0 o17 w0 w1 w2 w3) (g0 : n0 ≤ o17) (hP : ∀ h' : Heap, P (some (.int (f0B_223 x0 x1 x2 x3 x4 x5 x6 x7 x8 x9 x10 x11 x12 x13 x14 x15 x16 x18 w0 w1 w2 w3))) h') :
    own_Goes p e below s n0 room_1.cells room_1.slots P (T0.setTop (mkF m 223 #[.val (.int x0), .val (.int x1), .val (.int x2), .val (.int x3), .val (.int x4), .val (.int x5), .val (.int x6), .val (.int x7), .val (.int x8), .val (.int x9), .val (.int x10), .val (.int x11), .val (.int x12), .val (.int x13), .val (.int x14), .val (.int x15), .val (.int x16), .val (.ref o17), .val (.int x18)] [])) := by
  obtain ⟨cq225, kq225, qa225, qb225, qc225⟩ := isOf hZ e0 K0.1
  obtain ⟨_, _, ⟨T225, L225, k225, n225⟩, -, X225, ⟨Lc225, hQ225, l225, y225, z225⟩, st225⟩ := X0.virtualBack hx (y := (⟨"com/example/lehre/lehre/TextPosition", "column", "()I"⟩ : MethodName)) (z := (⟨"com/example/lehre/lehre/TextPosition", "column", "()I"⟩ : MethodName)) hown (mvT hZ (hw _ (List.mem_of_getElem? (i := 30) rfl))) (mvT hZ (hw _ (List.mem_of_getElem? (i := 31) rfl))) (notFace_of_selects (args := #[]) (mvT hZ (hw _ (List.mem_of_getElem? (i := 33) rfl)))) (mvT hZ (hw _ (List.mem_of_getElem? (i := 33) rfl))) (mvT hZ (hw _ (List.mem_of_getElem? (i := 32) rfl))) (by decide) (backOf (W := 0) (rm7 l Z a0 hw [] o17 w0 w1 w2 w3 h0 n0 Z0 K0 g0) hZ (hw _ (List.mem_of_getElem? (i := 34) rfl)) (hw _ (List.mem_of_getElem? (i := 12) rfl)) (by decide) (by decide)) qa225 qc225 (g := (mkF m 225 #[.val (.int x0), .val (.int x1), .val (.int x2), .val (.int x3), .val (.int x4), .val (.int x5), .val (.int x6), .val (.int x7), .val (.int x8), .val (.int x9), .val (.int x10), .val (.int x11), .val (.int x12), .val (.int x13), .val (.int x14), .val (.int x15), .val (.int x16), .val (.ref o17), .val (.int x18)] [(.ref o17)])) rfl (by rw [hml]; rfl) (Steps.refl _) (argsL := []) (rest := []) (lenOf pd1 rfl) rfl (by show 2 * 0 + _ ≤ _; exact Nat.le_of_eq rfl) (hb hby at_225) (fun _ _ => ⟨rfl, e0, (by decide : 1 + 0 ≤ _), (by decide : 4 + 0 ≤ _)⟩)
  dsimp only [Pt.U, Pt.locs, Pt.cells, Pt.slots] at X225 l225 y225 z225 st225 hQ225
  subst l225 y225 z225
  obtain ⟨⟨rfl, e225⟩, N225q⟩ := hQ225
  have N225 := Fr.app N0 N225q
  have pre1 : ∀ t, Steps p.tables e below (T225.setTop (mkF m 230 #[.val (.int x0), .val (.int x1), .val (.int x2), .val (.int x3), .val (.int x4), .val (.int x5), .val (.int x6), .val (.int x7), .val (.int x8), .val (.int x9), .val (.int x10), .val (.int x11), .val (.int x12), .val (.int x13), .val (.int x14), .val (.int x15), .val (.int x16), .val (.ref o17), .val (.int x18)] [(.int x14), (.int (f7_0 w0 w1 w2 w3))])) t → Steps p.tables e below (T0.setTop (mkF m 223 #[.val (.int x0), .val (.int x1), .val (.int x2), .val (.int x3), .val (.int x4), .val (.int x5), .val (.int x6), .val (.int x7), .val (.int x8), .val (.int x9), .val (.int x10), .val (.int x11), .val (.int x12), .val (.int x13), .val (.int x14), .val (.int x15), .val (.int x16), .val (.ref o17), .val (.int x18)] [])) t := fun t kt => by
    show Steps p.tables e below (T0.setTop (mkF m 223 #[.val (.int x0), .val (.int x1), .val (.int x2), .val (.int x3), .val (.int x4), .val (.int x5), .val (.int x6), .val (.int x7), .val (.int x8), .val (.int x9), .val (.int x10), .val (.int x11), .val (.int x12), .val (.int x13), .val (.int x14), .val (.int x15), .val (.int x16), .val (.ref o17), .val (.int x18)] [])) _
    refine XS.aload X0.here hx rfl (hb hby at_223) rfl rfl ?_
    show Steps p.tables e below (T0.setTop (mkF m 225 #[.val (.int x0), .val (.int x1), .val (.int x2), .val (.int x3), .val (.int x4), .val (.int x5), .val (.int x6), .val (.int x7), .val (.int x8), .val (.int x9), .val (.int x10), .val (.int x11), .val (.int x12), .val (.int x13), .val (.int x14), .val (.int x15), .val (.int x16), .val (.ref o17), .val (.int x18)] [(.ref o17)])) _
    refine st225.trans ?_
    show Steps p.tables e below (T225.setTop (mkF m 228 #[.val (.int x0), .val (.int x1), .val (.int x2), .val (.int x3), .val (.int x4), .val (.int x5), .val (.int x6), .val (.int x7), .val (.int x8), .val (.int x9), .val (.int x10), .val (.int x11), .val (.int x12), .val (.int x13), .val (.int x14), .val (.int x15), .val (.int x16), .val (.ref o17), .val (.int x18)] [(.int (f7_0 w0 w1 w2 w3))])) _
    refine XS.iload X225.here hx rfl (hb hby at_228) rfl ?_
    exact kt
  refine own_Goes.pre pre1 ?_
  by_cases hc : (f7_0 w0 w1 w2 w3) = x14
  · rw [f0B_223, if_pos hc] at hP
    refine own_Goes.pre (fun t kt => ?_) (b0B_233 x0 x1 x2 x3 x4 x5 x6 x7 x8 x9 x10 x11 x12 x13 x14 x15 x16 o17 x18 w0 w1 w2 w3 X225 hx hZ hw hby hml hown hret hlk e225 Z0 N225 K0 g0 hP)
    show Steps p.tables e below (T225.setTop (mkF m 230 #[.val (.int x0), .val (.int x1), .val (.int x2), .val (.int x3), .val (.int x4), .val (.int x5), .val (.int x6), .val (.int x7), .val (.int x8), .val (.int x9), .val (.int x10), .val (.int x11), .val (.int x12), .val (.int x13), .val (.int x14), .val (.int x15), .val (.int x16), .val (.ref o17), .val (.int x18)] [(.int x14), (.int (f7_0 w0 w1 w2 w3))])) _
    refine XS.icmpNo X225.here hx rfl (hb hby at_230) rfl (teq hc).2 ?_
    exact kt
  · rw [f0B_223, if_neg hc] at hP
    refine own_Goes.pre (fun t kt => ?_) (b0B_237 x0 x1 x2 x3 x4 x5 x6 x7 x8 x9 x10 x11 x12 x13 x14 x15 x16 o17 x18 w0 w1 w2 w3 X225 hx hZ hw hby hml hown hret hlk e225 Z0 N225 K0 g0 hP)
    show Steps p.tables e below (T225.setTop (mkF m 230 #[.val (.int x0), .val (.int x1), .val (.int x2), .val (.int x3), .val (.int x4), .val (.int x5), .val (.int x6), .val (.int x7), .val (.int x8), .val (.int x9), .val (.int x10), .val (.int x11), .val (.int x12), .val (.int x13), .val (.int x14), .val (.int x15), .val (.int x16), .val (.ref o17), .val (.int x18)] [(.int x14), (.int (f7_0 w0 w1 w2 w3))])) _
    refine XS.icmpYes X225.here hx rfl (pc0 := 230) (pc' := 237) rfl (hb hby at_230) rfl (feq hc).2 (by decide) (by decide) ?_
    exact kt
def f0B_213 (x0 : Int32) (x1 : Int32) (x2 : Int32) (x3 : Int32) (x4 : Int32) (x5 : Int32) (x6 : Int32) (x7 : Int32) (x8 : Int32) (x9 : Int32) (x10 : Int32) (x11 : Int32) (x12 : Int32) (x13 : Int32) (x14 : Int32) (x15 : Int32) (x16 : Int32) (x18 : Int32) (w0 : Int32) (w1 : Int32) (w2 : Int32) (w3 : Int32) : Int32 := if (f6_0 w0 w1 w2 w3) = x11 then (f0B_223 x0 x1 x2 x3 x4 x5 x6 x7 x8 x9 x10 x11 x12 x13 x14 x15 x16 x18 w0 w1 w2 w3) else (f0B_237 x0 x1 x2 x3 x4 x5 x6 x7 x8 x9 x10 x11 x12 x13 x14 x15 x16 x18 w0 w1 w2 w3)
set_option maxRecDepth 65536 in
set_option maxHeartbeats 40000000 in
theorem b0B_213 {p : Program} {l : Launch} {e : Env} {s : State} {m : MethodId} {args : Array Value} {below : List Frame} {meth : Method} {c : Code} {T0 : State} {locs : List Loc} {Z : State} {a0 : Array Value} {h0 : Heap} {n0 : Nat} {P : Option Value → Heap → Prop} (x0 : Int32) (x1 : Int32) (x2 : Int32) (x3 : Int32) (x4 : Int32) (x5 : Int32) (x6 : Int32) (x7 : Int32) (x8 : Int32) (x9 : Int32) (x10 : Int32) (x11 : Int32) (x12 : Int32) (x13 : Int32) (x14 : Int32) (x15 : Int32) (x16 : Int32) (o17 : Addr) (x18 : Int32) (w0 : Int32) (w1 : Int32) (w2 : Int32) (w3 : Int32) (X0 : Stand p l e room_1 s m args below meth c T0 locs 1 4) (hx : p.tables.exec = Jvm.exec) (hZ : Z.Warmed39 s.vm) (hw : ∀ d ∈ tables_1, d.before a0 Z = true) (hby : c.code = code) (hml : c.maxLocals = 19) (hown : s.vm.findClass "com/example/lehre/lehre/TextPositionAdvancePinLaw" = some m.cls) (hret : meth.sig.returnType = some .boolean) (hlk : meth.locks = false) (e0 : T0.heap = h0) (Z0 : n0 ≤ h0.size) (N0 : Fr n0 locs) (K0 : own_TP Z h0 o17 w0 w1 w2 w3) (g0 : n0 ≤ o17) (hP : ∀ h' : Heap, P (some (.int (f0B_213 x0 x1 x2 x3 x4 x5 x6 x7 x8 x9 x10 x11 x12 x13 x14 x15 x16 x18 w0 w1 w2 w3))) h') :
    own_Goes p e below s n0 room_1.cells room_1.slots P (T0.setTop (mkF m 213 #[.val (.int x0), .val (.int x1), .val (.int x2), .val (.int x3), .val (.int x4), .val (.int x5), .val (.int x6), .val (.int x7), .val (.int x8), .val (.int x9), .val (.int x10), .val (.int x11), .val (.int x12), .val (.int x13), .val (.int x14), .val (.int x15), .val (.int x16), .val (.ref o17), .val (.int x18)] [])) := by
  obtain ⟨cq215, kq215, qa215, qb215, qc215⟩ := isOf hZ e0 K0.1
  obtain ⟨_, _, ⟨T215, L215, k215, n215⟩, -, X215, ⟨Lc215, hQ215, l215, y215, z215⟩, st215⟩ := X0.virtualBack hx (y := (⟨"com/example/lehre/lehre/TextPosition", "line", "()I"⟩ : MethodName)) (z := (⟨"com/example/lehre/lehre/TextPosition", "line", "()I"⟩ : MethodName)) hown (mvT hZ (hw _ (List.mem_of_getElem? (i := 25) rfl))) (mvT hZ (hw _ (List.mem_of_getElem? (i := 26) rfl))) (notFace_of_selects (args := #[]) (mvT hZ (hw _ (List.mem_of_getElem? (i := 28) rfl)))) (mvT hZ (hw _ (List.mem_of_getElem? (i := 28) rfl))) (mvT hZ (hw _ (List.mem_of_getElem? (i := 27) rfl))) (by decide) (backOf (W := 0) (rm6 l Z a0 hw [] o17 w0 w1 w2 w3 h0 n0 Z0 K0 g0) hZ (hw _ (List.mem_of_getElem? (i := 29) rfl)) (hw _ (List.mem_of_getElem? (i := 12) rfl)) (by decide) (by decide)) qa215 qc215 (g := (mkF m 215 #[.val (.int x0), .val (.int x1), .val (.int x2), .val (.int x3), .val (.int x4), .val (.int x5), .val (.int x6), .val (.int x7), .val (.int x8), .val (.int x9), .val (.int x10), .val (.int x11), .val (.int x12), .val (.int x13), .val (.int x14), .val (.int x15), .val (.int x16), .val (.ref o17), .val (.int x18)] [(.ref o17)])) rfl (by rw [hml]; rfl) (Steps.refl _) (argsL := []) (rest := []) (lenOf pd1 rfl) rfl (by show 2 * 0 + _ ≤ _; exact Nat.le_of_eq rfl) (hb hby at_215) (fun _ _ => ⟨rfl, e0, (by decide : 1 + 0 ≤ _), (by decide : 4 + 0 ≤ _)⟩)
  dsimp only [Pt.U, Pt.locs, Pt.cells, Pt.slots] at X215 l215 y215 z215 st215 hQ215
  subst l215 y215 z215
  obtain ⟨⟨rfl, e215⟩, N215q⟩ := hQ215
  have N215 := Fr.app N0 N215q
  have pre1 : ∀ t, Steps p.tables e below (T215.setTop (mkF m 220 #[.val (.int x0), .val (.int x1), .val (.int x2), .val (.int x3), .val (.int x4), .val (.int x5), .val (.int x6), .val (.int x7), .val (.int x8), .val (.int x9), .val (.int x10), .val (.int x11), .val (.int x12), .val (.int x13), .val (.int x14), .val (.int x15), .val (.int x16), .val (.ref o17), .val (.int x18)] [(.int x11), (.int (f6_0 w0 w1 w2 w3))])) t → Steps p.tables e below (T0.setTop (mkF m 213 #[.val (.int x0), .val (.int x1), .val (.int x2), .val (.int x3), .val (.int x4), .val (.int x5), .val (.int x6), .val (.int x7), .val (.int x8), .val (.int x9), .val (.int x10), .val (.int x11), .val (.int x12), .val (.int x13), .val (.int x14), .val (.int x15), .val (.int x16), .val (.ref o17), .val (.int x18)] [])) t := fun t kt => by
    show Steps p.tables e below (T0.setTop (mkF m 213 #[.val (.int x0), .val (.int x1), .val (.int x2), .val (.int x3), .val (.int x4), .val (.int x5), .val (.int x6), .val (.int x7), .val (.int x8), .val (.int x9), .val (.int x10), .val (.int x11), .val (.int x12), .val (.int x13), .val (.int x14), .val (.int x15), .val (.int x16), .val (.ref o17), .val (.int x18)] [])) _
    refine XS.aload X0.here hx rfl (hb hby at_213) rfl rfl ?_
    show Steps p.tables e below (T0.setTop (mkF m 215 #[.val (.int x0), .val (.int x1), .val (.int x2), .val (.int x3), .val (.int x4), .val (.int x5), .val (.int x6), .val (.int x7), .val (.int x8), .val (.int x9), .val (.int x10), .val (.int x11), .val (.int x12), .val (.int x13), .val (.int x14), .val (.int x15), .val (.int x16), .val (.ref o17), .val (.int x18)] [(.ref o17)])) _
    refine st215.trans ?_
    show Steps p.tables e below (T215.setTop (mkF m 218 #[.val (.int x0), .val (.int x1), .val (.int x2), .val (.int x3), .val (.int x4), .val (.int x5), .val (.int x6), .val (.int x7), .val (.int x8), .val (.int x9), .val (.int x10), .val (.int x11), .val (.int x12), .val (.int x13), .val (.int x14), .val (.int x15), .val (.int x16), .val (.ref o17), .val (.int x18)] [(.int (f6_0 w0 w1 w2 w3))])) _
    refine XS.iload X215.here hx rfl (hb hby at_218) rfl ?_
    exact kt
  refine own_Goes.pre pre1 ?_
  by_cases hc : (f6_0 w0 w1 w2 w3) = x11
  · rw [f0B_213, if_pos hc] at hP
    refine own_Goes.pre (fun t kt => ?_) (b0B_223 x0 x1 x2 x3 x4 x5 x6 x7 x8 x9 x10 x11 x12 x13 x14 x15 x16 o17 x18 w0 w1 w2 w3 X215 hx hZ hw hby hml hown hret hlk e215 Z0 N215 K0 g0 hP)
    show Steps p.tables e below (T215.setTop (mkF m 220 #[.val (.int x0), .val (.int x1), .val (.int x2), .val (.int x3), .val (.int x4), .val (.int x5), .val (.int x6), .val (.int x7), .val (.int x8), .val (.int x9), .val (.int x10), .val (.int x11), .val (.int x12), .val (.int x13), .val (.int x14), .val (.int x15), .val (.int x16), .val (.ref o17), .val (.int x18)] [(.int x11), (.int (f6_0 w0 w1 w2 w3))])) _
    refine XS.icmpNo X215.here hx rfl (hb hby at_220) rfl (teq hc).2 ?_
    exact kt
  · rw [f0B_213, if_neg hc] at hP
    refine own_Goes.pre (fun t kt => ?_) (b0B_237 x0 x1 x2 x3 x4 x5 x6 x7 x8 x9 x10 x11 x12 x13 x14 x15 x16 o17 x18 w0 w1 w2 w3 X215 hx hZ hw hby hml hown hret hlk e215 Z0 N215 K0 g0 hP)
    show Steps p.tables e below (T215.setTop (mkF m 220 #[.val (.int x0), .val (.int x1), .val (.int x2), .val (.int x3), .val (.int x4), .val (.int x5), .val (.int x6), .val (.int x7), .val (.int x8), .val (.int x9), .val (.int x10), .val (.int x11), .val (.int x12), .val (.int x13), .val (.int x14), .val (.int x15), .val (.int x16), .val (.ref o17), .val (.int x18)] [(.int x11), (.int (f6_0 w0 w1 w2 w3))])) _
    refine XS.icmpYes X215.here hx rfl (pc0 := 220) (pc' := 237) rfl (hb hby at_220) rfl (feq hc).2 (by decide) (by decide) ?_
    exact kt
def f0B_199 (x0 : Int32) (x1 : Int32) (x2 : Int32) (x3 : Int32) (x4 : Int32) (x5 : Int32) (x6 : Int32) (x7 : Int32) (x8 : Int32) (x9 : Int32) (x10 : Int32) (x11 : Int32) (x12 : Int32) (x13 : Int32) (x14 : Int32) (x15 : Int32) (x16 : Int32) (w0 : Int32) (w1 : Int32) (w2 : Int32) (w3 : Int32) (y0 : Int32) : Int32 := if y0 = (0 : Int32) then (f0B_237 x0 x1 x2 x3 x4 x5 x6 x7 x8 x9 x10 x11 x12 x13 x14 x15 x16 y0 (f8_0 x5 w0 w1 w2 w3).1 (f8_0 x5 w0 w1 w2 w3).2.1 (f8_0 x5 w0 w1 w2 w3).2.2.1 (f8_0 x5 w0 w1 w2 w3).2.2.2) else (f0B_213 x0 x1 x2 x3 x4 x5 x6 x7 x8 x9 x10 x11 x12 x13 x14 x15 x16 y0 (f8_0 x5 w0 w1 w2 w3).1 (f8_0 x5 w0 w1 w2 w3).2.1 (f8_0 x5 w0 w1 w2 w3).2.2.1 (f8_0 x5 w0 w1 w2 w3).2.2.2)
set_option maxRecDepth 65536 in
set_option maxHeartbeats 40000000 in
theorem b0B_199 {p : Program} {l : Launch} {e : Env} {s : State} {m : MethodId} {args : Array Value} {below : List Frame} {meth : Method} {c : Code} {T0 : State} {locs : List Loc} {Z : State} {a0 : Array Value} {h0 : Heap} {n0 : Nat} {P : Option Value → Heap → Prop} (x0 : Int32) (x1 : Int32) (x2 : Int32) (x3 : Int32) (x4 : Int32) (x5 : Int32) (x6 : Int32) (x7 : Int32) (x8 : Int32) (x9 : Int32) (x10 : Int32) (x11 : Int32) (x12 : Int32) (x13 : Int32) (x14 : Int32) (x15 : Int32) (x16 : Int32) (o17 : Addr) (w0 : Int32) (w1 : Int32) (w2 : Int32) (w3 : Int32) (y0 : Int32) (X0 : Stand p l e room_1 s m args below meth c T0 locs 1 4) (hx : p.tables.exec = Jvm.exec) (hZ : Z.Warmed39 s.vm) (hw : ∀ d ∈ tables_1, d.before a0 Z = true) (hby : c.code = code) (hml : c.maxLocals = 19) (hown : s.vm.findClass "com/example/lehre/lehre/TextPositionAdvancePinLaw" = some m.cls) (hret : meth.sig.returnType = some .boolean) (hlk : meth.locks = false) (e0 : T0.heap = h0) (Z0 : n0 ≤ h0.size) (N0 : Fr n0 locs) (K0 : own_TP Z h0 o17 w0 w1 w2 w3) (g0 : n0 ≤ o17) (hP : ∀ h' : Heap, P (some (.int (f0B_199 x0 x1 x2 x3 x4 x5 x6 x7 x8 x9 x10 x11 x12 x13 x14 x15 x16 w0 w1 w2 w3 y0))) h') :
    own_Goes p e below s n0 room_1.cells room_1.slots P (T0.setTop (mkF m 199 #[.val (.int x0), .val (.int x1), .val (.int x2), .val (.int x3), .val (.int x4), .val (.int x5), .val (.int x6), .val (.int x7), .val (.int x8), .val (.int x9), .val (.int x10), .val (.int x11), .val (.int x12), .val (.int x13), .val (.int x14), .val (.int x15), .val (.int x16), .val (.ref o17), .unset] [(.int y0)])) := by
  obtain ⟨cq205, kq205, qa205, qb205, qc205⟩ := isOf hZ e0 K0.1
  obtain ⟨_, _, ⟨T205, L205, k205, n205⟩, -, X205, ⟨Lc205, hQ205, l205, y205, z205⟩, st205⟩ := X0.virtualBack hx (y := (⟨"com/example/lehre/lehre/TextPosition", "advance", "(C)V"⟩ : MethodName)) (z := (⟨"com/example/lehre/lehre/TextPosition", "advance", "(C)V"⟩ : MethodName)) hown (mvT hZ (hw _ (List.mem_of_getElem? (i := 35) rfl))) (mvT hZ (hw _ (List.mem_of_getElem? (i := 36) rfl))) (notFace_of_selects (args := #[]) (mvT hZ (hw _ (List.mem_of_getElem? (i := 38) rfl)))) (mvT hZ (hw _ (List.mem_of_getElem? (i := 38) rfl))) (mvT hZ (hw _ (List.mem_of_getElem? (i := 37) rfl))) (by decide) (backOf (W := 0) (rm8 l Z a0 hw [] o17 x5 w0 w1 w2 w3 h0 n0 Z0 K0 g0) hZ (hw _ (List.mem_of_getElem? (i := 39) rfl)) (hw _ (List.mem_of_getElem? (i := 12) rfl)) (by decide) (by decide)) qa205 qc205 (g := (mkF m 205 #[.val (.int x0), .val (.int x1), .val (.int x2), .val (.int x3), .val (.int x4), .val (.int x5), .val (.int x6), .val (.int x7), .val (.int x8), .val (.int x9), .val (.int x10), .val (.int x11), .val (.int x12), .val (.int x13), .val (.int x14), .val (.int x15), .val (.int x16), .val (.ref o17), .val (.int y0)] [(.int x5), (.ref o17)])) rfl (by rw [hml]; rfl) (Steps.refl _) (argsL := [(.int x5)]) (rest := []) (lenOf pd2 rfl) rfl (by show 2 * 0 + _ ≤ _; exact Nat.le_of_eq rfl) (hb hby at_205) (fun _ _ => ⟨rfl, e0, (by decide : 1 + 0 ≤ _), (by decide : 4 + 0 ≤ _)⟩)
  dsimp only [Pt.U, Pt.locs, Pt.cells, Pt.slots] at X205 l205 y205 z205 st205 hQ205
  subst l205 y205 z205
  obtain ⟨⟨rfl, K205⟩, N205q⟩ := hQ205
  have Z205 : n0 ≤ T205.heap.size := Nat.le_of_lt (Nat.lt_of_le_of_lt g0 K205.1.lt)
  have e205 : T205.heap = T205.heap := rfl
  have N205 := Fr.app N0 N205q
  have pre1 : ∀ t, Steps p.tables e below (T205.setTop (mkF m 210 #[.val (.int x0), .val (.int x1), .val (.int x2), .val (.int x3), .val (.int x4), .val (.int x5), .val (.int x6), .val (.int x7), .val (.int x8), .val (.int x9), .val (.int x10), .val (.int x11), .val (.int x12), .val (.int x13), .val (.int x14), .val (.int x15), .val (.int x16), .val (.ref o17), .val (.int y0)] [(.int y0)])) t → Steps p.tables e below (T0.setTop (mkF m 199 #[.val (.int x0), .val (.int x1), .val (.int x2), .val (.int x3), .val (.int x4), .val (.int x5), .val (.int x6), .val (.int x7), .val (.int x8), .val (.int x9), .val (.int x10), .val (.int x11), .val (.int x12), .val (.int x13), .val (.int x14), .val (.int x15), .val (.int x16), .val (.ref o17), .unset] [(.int y0)])) t := fun t kt => by
    show Steps p.tables e below (T0.setTop (mkF m 199 #[.val (.int x0), .val (.int x1), .val (.int x2), .val (.int x3), .val (.int x4), .val (.int x5), .val (.int x6), .val (.int x7), .val (.int x8), .val (.int x9), .val (.int x10), .val (.int x11), .val (.int x12), .val (.int x13), .val (.int x14), .val (.int x15), .val (.int x16), .val (.ref o17), .unset] [(.int y0)])) _
    refine XS.istore X0.here hx rfl (hb hby at_199) rfl (l' := #[.val (.int x0), .val (.int x1), .val (.int x2), .val (.int x3), .val (.int x4), .val (.int x5), .val (.int x6), .val (.int x7), .val (.int x8), .val (.int x9), .val (.int x10), .val (.int x11), .val (.int x12), .val (.int x13), .val (.int x14), .val (.int x15), .val (.int x16), .val (.ref o17), .val (.int y0)]) rfl ?_
    show Steps p.tables e below (T0.setTop (mkF m 201 #[.val (.int x0), .val (.int x1), .val (.int x2), .val (.int x3), .val (.int x4), .val (.int x5), .val (.int x6), .val (.int x7), .val (.int x8), .val (.int x9), .val (.int x10), .val (.int x11), .val (.int x12), .val (.int x13), .val (.int x14), .val (.int x15), .val (.int x16), .val (.ref o17), .val (.int y0)] [])) _
    refine XS.aload X0.here hx rfl (hb hby at_201) rfl rfl ?_
    show Steps p.tables e below (T0.setTop (mkF m 203 #[.val (.int x0), .val (.int x1), .val (.int x2), .val (.int x3), .val (.int x4), .val (.int x5), .val (.int x6), .val (.int x7), .val (.int x8), .val (.int x9), .val (.int x10), .val (.int x11), .val (.int x12), .val (.int x13), .val (.int x14), .val (.int x15), .val (.int x16), .val (.ref o17), .val (.int y0)] [(.ref o17)])) _
    refine XS.iload X0.here hx rfl (hb hby at_203) rfl ?_
    show Steps p.tables e below (T0.setTop (mkF m 205 #[.val (.int x0), .val (.int x1), .val (.int x2), .val (.int x3), .val (.int x4), .val (.int x5), .val (.int x6), .val (.int x7), .val (.int x8), .val (.int x9), .val (.int x10), .val (.int x11), .val (.int x12), .val (.int x13), .val (.int x14), .val (.int x15), .val (.int x16), .val (.ref o17), .val (.int y0)] [(.int x5), (.ref o17)])) _
    refine st205.trans ?_
    show Steps p.tables e below (T205.setTop (mkF m 208 #[.val (.int x0), .val (.int x1), .val (.int x2), .val (.int x3), .val (.int x4), .val (.int x5), .val (.int x6), .val (.int x7), .val (.int x8), .val (.int x9), .val (.int x10), .val (.int x11), .val (.int x12), .val (.int x13), .val (.int x14), .val (.int x15), .val (.int x16), .val (.ref o17), .val (.int y0)] [])) _
    refine XS.iload X205.here hx rfl (hb hby at_208) rfl ?_
    exact kt
  refine own_Goes.pre pre1 ?_
  by_cases hc : y0 = (0 : Int32)
  · rw [f0B_199, if_pos hc] at hP
    refine own_Goes.pre (fun t kt => ?_) (b0B_237 x0 x1 x2 x3 x4 x5 x6 x7 x8 x9 x10 x11 x12 x13 x14 x15 x16 o17 y0 (f8_0 x5 w0 w1 w2 w3).1 (f8_0 x5 w0 w1 w2 w3).2.1 (f8_0 x5 w0 w1 w2 w3).2.2.1 (f8_0 x5 w0 w1 w2 w3).2.2.2 X205 hx hZ hw hby hml hown hret hlk e205 Z205 N205 K205 g0 hP)
    show Steps p.tables e below (T205.setTop (mkF m 210 #[.val (.int x0), .val (.int x1), .val (.int x2), .val (.int x3), .val (.int x4), .val (.int x5), .val (.int x6), .val (.int x7), .val (.int x8), .val (.int x9), .val (.int x10), .val (.int x11), .val (.int x12), .val (.int x13), .val (.int x14), .val (.int x15), .val (.int x16), .val (.ref o17), .val (.int y0)] [(.int y0)])) _
    refine XS.ifYes X205.here hx rfl (pc0 := 210) (pc' := 237) rfl (hb hby at_210) rfl ((if0 _ _).trans (teq hc).1) (by decide) (by decide) ?_
    exact kt
  · rw [f0B_199, if_neg hc] at hP
    refine own_Goes.pre (fun t kt => ?_) (b0B_213 x0 x1 x2 x3 x4 x5 x6 x7 x8 x9 x10 x11 x12 x13 x14 x15 x16 o17 y0 (f8_0 x5 w0 w1 w2 w3).1 (f8_0 x5 w0 w1 w2 w3).2.1 (f8_0 x5 w0 w1 w2 w3).2.2.1 (f8_0 x5 w0 w1 w2 w3).2.2.2 X205 hx hZ hw hby hml hown hret hlk e205 Z205 N205 K205 g0 hP)
    show Steps p.tables e below (T205.setTop (mkF m 210 #[.val (.int x0), .val (.int x1), .val (.int x2), .val (.int x3), .val (.int x4), .val (.int x5), .val (.int x6), .val (.int x7), .val (.int x8), .val (.int x9), .val (.int x10), .val (.int x11), .val (.int x12), .val (.int x13), .val (.int x14), .val (.int x15), .val (.int x16), .val (.ref o17), .val (.int y0)] [(.int y0)])) _
    refine XS.ifNo X205.here hx rfl (hb hby at_210) rfl ((if0 _ _).trans (feq hc).1) ?_
    exact kt
def f0B_198 (x0 : Int32) (x1 : Int32) (x2 : Int32) (x3 : Int32) (x4 : Int32) (x5 : Int32) (x6 : Int32) (x7 : Int32) (x8 : Int32) (x9 : Int32) (x10 : Int32) (x11 : Int32) (x12 : Int32) (x13 : Int32) (x14 : Int32) (x15 : Int32) (x16 : Int32) (w0 : Int32) (w1 : Int32) (w2 : Int32) (w3 : Int32) : Int32 := (f0B_199 x0 x1 x2 x3 x4 x5 x6 x7 x8 x9 x10 x11 x12 x13 x14 x15 x16 w0 w1 w2 w3 (0 : Int32))
set_option maxRecDepth 65536 in
set_option maxHeartbeats 40000000 in
theorem b0B_198 {p : Program} {l : Launch} {e : Env} {s : State} {m : MethodId} {args : Array Value} {below : List Frame} {meth : Method} {c : Code} {T0 : State} {locs : List Loc} {Z : State} {a0 : Array Value} {h0 : Heap} {n0 : Nat} {P : Option Value → Heap → Prop} (x0 : Int32) (x1 : Int32) (x2 : Int32) (x3 : Int32) (x4 : Int32) (x5 : Int32) (x6 : Int32) (x7 : Int32) (x8 : Int32) (x9 : Int32) (x10 : Int32) (x11 : Int32) (x12 : Int32) (x13 : Int32) (x14 : Int32) (x15 : Int32) (x16 : Int32) (o17 : Addr) (w0 : Int32) (w1 : Int32) (w2 : Int32) (w3 : Int32) (X0 : Stand p l e room_1 s m args below meth c T0 locs 1 4) (hx : p.tables.exec = Jvm.exec) (hZ : Z.Warmed39 s.vm) (hw : ∀ d ∈ tables_1, d.before a0 Z = true) (hby : c.code = code) (hml : c.maxLocals = 19) (hown : s.vm.findClass "com/example/lehre/lehre/TextPositionAdvancePinLaw" = some m.cls) (hret : meth.sig.returnType = some .boolean) (hlk : meth.locks = false) (e0 : T0.heap = h0) (Z0 : n0 ≤ h0.size) (N0 : Fr n0 locs) (K0 : own_TP Z h0 o17 w0 w1 w2 w3) (g0 : n0 ≤ o17) (hP : ∀ h' : Heap, P (some (.int (f0B_198 x0 x1 x2 x3 x4 x5 x6 x7 x8 x9 x10 x11 x12 x13 x14 x15 x16 w0 w1 w2 w3))) h') :
    own_Goes p e below s n0 room_1.cells room_1.slots P (T0.setTop (mkF m 198 #[.val (.int x0), .val (.int x1), .val (.int x2), .val (.int x3), .val (.int x4), .val (.int x5), .val (.int x6), .val (.int x7), .val (.int x8), .val (.int x9), .val (.int x10), .val (.int x11), .val (.int x12), .val (.int x13), .val (.int x14), .val (.int x15), .val (.int x16), .val (.ref o17), .unset] [])) := by
  rw [f0B_198] at hP
  refine own_Goes.pre (fun t kt => ?_) (b0B_199 x0 x1 x2 x3 x4 x5 x6 x7 x8 x9 x10 x11 x12 x13 x14 x15 x16 o17 w0 w1 w2 w3 (0 : Int32) X0 hx hZ hw hby hml hown hret hlk e0 Z0 N0 K0 g0 hP)
  show Steps p.tables e below (T0.setTop (mkF m 198 #[.val (.int x0), .val (.int x1), .val (.int x2), .val (.int x3), .val (.int x4), .val (.int x5), .val (.int x6), .val (.int x7), .val (.int x8), .val (.int x9), .val (.int x10), .val (.int x11), .val (.int x12), .val (.int x13), .val (.int x14), .val (.int x15), .val (.int x16), .val (.ref o17), .unset] [])) _
  refine XS.iconst X0.here hx rfl (hb hby at_198) ?_
  exact kt
def f0B_194 (x0 : Int32) (x1 : Int32) (x2 : Int32) (x3 : Int32) (x4 : Int32) (x5 : Int32) (x6 : Int32) (x7 : Int32) (x8 : Int32) (x9 : Int32) (x10 : Int32) (x11 : Int32) (x12 : Int32) (x13 : Int32) (x14 : Int32) (x15 : Int32) (x16 : Int32) (w0 : Int32) (w1 : Int32) (w2 : Int32) (w3 : Int32) : Int32 := (f0B_199 x0 x1 x2 x3 x4 x5 x6 x7 x8 x9 x10 x11 x12 x13 x14 x15 x16 w0 w1 w2 w3 (1 : Int32))
set_option maxRecDepth 65536 in
set_option maxHeartbeats 40000000 in
theorem b0B_194 {p : Program} {l : Launch} {e : Env} {s : State} {m : MethodId} {args : Array Value} {below : List Frame} {meth : Method} {c : Code} {T0 : State} {locs : List Loc} {Z : State} {a0 : Array Value} {h0 : Heap} {n0 : Nat} {P : Option Value → Heap → Prop} (x0 : Int32) (x1 : Int32) (x2 : Int32) (x3 : Int32) (x4 : Int32) (x5 : Int32) (x6 : Int32) (x7 : Int32) (x8 : Int32) (x9 : Int32) (x10 : Int32) (x11 : Int32) (x12 : Int32) (x13 : Int32) (x14 : Int32) (x15 : Int32) (x16 : Int32) (o17 : Addr) (w0 : Int32) (w1 : Int32) (w2 : Int32) (w3 : Int32) (X0 : Stand p l e room_1 s m args below meth c T0 locs 1 4) (hx : p.tables.exec = Jvm.exec) (hZ : Z.Warmed39 s.vm) (hw : ∀ d ∈ tables_1, d.before a0 Z = true) (hby : c.code = code) (hml : c.maxLocals = 19) (hown : s.vm.findClass "com/example/lehre/lehre/TextPositionAdvancePinLaw" = some m.cls) (hret : meth.sig.returnType = some .boolean) (hlk : meth.locks = false) (e0 : T0.heap = h0) (Z0 : n0 ≤ h0.size) (N0 : Fr n0 locs) (K0 : own_TP Z h0 o17 w0 w1 w2 w3) (g0 : n0 ≤ o17) (hP : ∀ h' : Heap, P (some (.int (f0B_194 x0 x1 x2 x3 x4 x5 x6 x7 x8 x9 x10 x11 x12 x13 x14 x15 x16 w0 w1 w2 w3))) h') :
    own_Goes p e below s n0 room_1.cells room_1.slots P (T0.setTop (mkF m 194 #[.val (.int x0), .val (.int x1), .val (.int x2), .val (.int x3), .val (.int x4), .val (.int x5), .val (.int x6), .val (.int x7), .val (.int x8), .val (.int x9), .val (.int x10), .val (.int x11), .val (.int x12), .val (.int x13), .val (.int x14), .val (.int x15), .val (.int x16), .val (.ref o17), .unset] [])) := by
  rw [f0B_194] at hP
  refine own_Goes.pre (fun t kt => ?_) (b0B_199 x0 x1 x2 x3 x4 x5 x6 x7 x8 x9 x10 x11 x12 x13 x14 x15 x16 o17 w0 w1 w2 w3 (1 : Int32) X0 hx hZ hw hby hml hown hret hlk e0 Z0 N0 K0 g0 hP)
  show Steps p.tables e below (T0.setTop (mkF m 194 #[.val (.int x0), .val (.int x1), .val (.int x2), .val (.int x3), .val (.int x4), .val (.int x5), .val (.int x6), .val (.int x7), .val (.int x8), .val (.int x9), .val (.int x10), .val (.int x11), .val (.int x12), .val (.int x13), .val (.int x14), .val (.int x15), .val (.int x16), .val (.ref o17), .unset] [])) _
  refine XS.iconst X0.here hx rfl (hb hby at_194) ?_
  show Steps p.tables e below (T0.setTop (mkF m 195 #[.val (.int x0), .val (.int x1), .val (.int x2), .val (.int x3), .val (.int x4), .val (.int x5), .val (.int x6), .val (.int x7), .val (.int x8), .val (.int x9), .val (.int x10), .val (.int x11), .val (.int x12), .val (.int x13), .val (.int x14), .val (.int x15), .val (.int x16), .val (.ref o17), .unset] [(.int (1 : Int32))])) _
  refine XS.goto X0.here hx rfl (pc0 := 195) (pc' := 199) rfl (hb hby at_195) (by decide) (by decide) ?_
  exact kt
def f0B_185 (x0 : Int32) (x1 : Int32) (x2 : Int32) (x3 : Int32) (x4 : Int32) (x5 : Int32) (x6 : Int32) (x7 : Int32) (x8 : Int32) (x9 : Int32) (x10 : Int32) (x11 : Int32) (x12 : Int32) (x13 : Int32) (x14 : Int32) (x15 : Int32) (x16 : Int32) (w0 : Int32) (w1 : Int32) (w2 : Int32) (w3 : Int32) : Int32 := if (f7_0 w0 w1 w2 w3) = (1 : Int32) then (f0B_194 x0 x1 x2 x3 x4 x5 x6 x7 x8 x9 x10 x11 x12 x13 x14 x15 x16 w0 w1 w2 w3) else (f0B_198 x0 x1 x2 x3 x4 x5 x6 x7 x8 x9 x10 x11 x12 x13 x14 x15 x16 w0 w1 w2 w3)
set_option maxRecDepth 65536 in
set_option maxHeartbeats 40000000 in
theorem b0B_185 {p : Program} {l : Launch} {e : Env} {s : State} {m : MethodId} {args : Array Value} {below : List Frame} {meth : Method} {c : Code} {T0 : State} {locs : List Loc} {Z : State} {a0 : Array Value} {h0 : Heap} {n0 : Nat} {P : Option Value → Heap → Prop} (x0 : Int32) (x1 : Int32) (x2 : Int32) (x3 : Int32) (x4 : Int32) (x5 : Int32) (x6 : Int32) (x7 : Int32) (x8 : Int32) (x9 : Int32) (x10 : Int32) (x11 : Int32) (x12 : Int32) (x13 : Int32) (x14 : Int32) (x15 : Int32) (x16 : Int32) (o17 : Addr) (w0 : Int32) (w1 : Int32) (w2 : Int32) (w3 : Int32) (X0 : Stand p l e room_1 s m args below meth c T0 locs 1 4) (hx : p.tables.exec = Jvm.exec) (hZ : Z.Warmed39 s.vm) (hw : ∀ d ∈ tables_1, d.before a0 Z = true) (hby : c.code = code) (hml : c.maxLocals = 19) (hown : s.vm.findClass "com/example/lehre/lehre/TextPositionAdvancePinLaw" = some m.cls) (hret : meth.sig.returnType = some .boolean) (hlk : meth.locks = false) (e0 : T0.heap = h0) (Z0 : n0 ≤ h0.size) (N0 : Fr n0 locs) (K0 : own_TP Z h0 o17 w0 w1 w2 w3) (g0 : n0 ≤ o17) (hP : ∀ h' : Heap, P (some (.int (f0B_185 x0 x1 x2 x3 x4 x5 x6 x7 x8 x9 x10 x11 x12 x13 x14 x15 x16 w0 w1 w2 w3))) h') :
    own_Goes p e below s n0 room_1.cells room_1.slots P (T0.setTop (mkF m 185 #[.val (.int x0), .val (.int x1), .val (.int x2), .val (.int x3), .val (.int x4), .val (.int x5), .val (.int x6), .val (.int x7), .val (.int x8), .val (.int x9), .val (.int x10), .val (.int x11), .val (.int x12), .val (.int x13), .val (.int x14), .val (.int x15), .val (.int x16), .val (.ref o17), .unset] [])) := by
  obtain ⟨cq187, kq187, qa187, qb187, qc187⟩ := isOf hZ e0 K0.1
  obtain ⟨_, _, ⟨T187, L187, k187, n187⟩, -, X187, ⟨Lc187, hQ187, l187, y187, z187⟩, st187⟩ := X0.virtualBack hx (y := (⟨"com/example/lehre/lehre/TextPosition", "column", "()I"⟩ : MethodName)) (z := (⟨"com/example/lehre/lehre/TextPosition", "column", "()I"⟩ : MethodName)) hown (mvT hZ (hw _ (List.mem_of_getElem? (i := 30) rfl))) (mvT hZ (hw _ (List.mem_of_getElem? (i := 31) rfl))) (notFace_of_selects (args := #[]) (mvT hZ (hw _ (List.mem_of_getElem? (i := 33) rfl)))) (mvT hZ (hw _ (List.mem_of_getElem? (i := 33) rfl))) (mvT hZ (hw _ (List.mem_of_getElem? (i := 32) rfl))) (by decide) (backOf (W := 0) (rm7 l Z a0 hw [] o17 w0 w1 w2 w3 h0 n0 Z0 K0 g0) hZ (hw _ (List.mem_of_getElem? (i := 34) rfl)) (hw _ (List.mem_of_getElem? (i := 12) rfl)) (by decide) (by decide)) qa187 qc187 (g := (mkF m 187 #[.val (.int x0), .val (.int x1), .val (.int x2), .val (.int x3), .val (.int x4), .val (.int x5), .val (.int x6), .val (.int x7), .val (.int x8), .val (.int x9), .val (.int x10), .val (.int x11), .val (.int x12), .val (.int x13), .val (.int x14), .val (.int x15), .val (.int x16), .val (.ref o17), .unset] [(.ref o17)])) rfl (by rw [hml]; rfl) (Steps.refl _) (argsL := []) (rest := []) (lenOf pd1 rfl) rfl (by show 2 * 0 + _ ≤ _; exact Nat.le_of_eq rfl) (hb hby at_187) (fun _ _ => ⟨rfl, e0, (by decide : 1 + 0 ≤ _), (by decide : 4 + 0 ≤ _)⟩)
  dsimp only [Pt.U, Pt.locs, Pt.cells, Pt.slots] at X187 l187 y187 z187 st187 hQ187
  subst l187 y187 z187
  obtain ⟨⟨rfl, e187⟩, N187q⟩ := hQ187
  have N187 := Fr.app N0 N187q
  have pre1 : ∀ t, Steps p.tables e below (T187.setTop (mkF m 191 #[.val (.int x0), .val (.int x1), .val (.int x2), .val (.int x3), .val (.int x4), .val (.int x5), .val (.int x6), .val (.int x7), .val (.int x8), .val (.int x9), .val (.int x10), .val (.int x11), .val (.int x12), .val (.int x13), .val (.int x14), .val (.int x15), .val (.int x16), .val (.ref o17), .unset] [(.int (1 : Int32)), (.int (f7_0 w0 w1 w2 w3))])) t → Steps p.tables e below (T0.setTop (mkF m 185 #[.val (.int x0), .val (.int x1), .val (.int x2), .val (.int x3), .val (.int x4), .val (.int x5), .val (.int x6), .val (.int x7), .val (.int x8), .val (.int x9), .val (.int x10), .val (.int x11), .val (.int x12), .val (.int x13), .val (.int x14), .val (.int x15), .val (.int x16), .val (.ref o17), .unset] [])) t := fun t kt => by
    show Steps p.tables e below (T0.setTop (mkF m 185 #[.val (.int x0), .val (.int x1), .val (.int x2), .val (.int x3), .val (.int x4), .val (.int x5), .val (.int x6), .val (.int x7), .val (.int x8), .val (.int x9), .val (.int x10), .val (.int x11), .val (.int x12), .val (.int x13), .val (.int x14), .val (.int x15), .val (.int x16), .val (.ref o17), .unset] [])) _
    refine XS.aload X0.here hx rfl (hb hby at_185) rfl rfl ?_
    show Steps p.tables e below (T0.setTop (mkF m 187 #[.val (.int x0), .val (.int x1), .val (.int x2), .val (.int x3), .val (.int x4), .val (.int x5), .val (.int x6), .val (.int x7), .val (.int x8), .val (.int x9), .val (.int x10), .val (.int x11), .val (.int x12), .val (.int x13), .val (.int x14), .val (.int x15), .val (.int x16), .val (.ref o17), .unset] [(.ref o17)])) _
    refine st187.trans ?_
    show Steps p.tables e below (T187.setTop (mkF m 190 #[.val (.int x0), .val (.int x1), .val (.int x2), .val (.int x3), .val (.int x4), .val (.int x5), .val (.int x6), .val (.int x7), .val (.int x8), .val (.int x9), .val (.int x10), .val (.int x11), .val (.int x12), .val (.int x13), .val (.int x14), .val (.int x15), .val (.int x16), .val (.ref o17), .unset] [(.int (f7_0 w0 w1 w2 w3))])) _
    refine XS.iconst X187.here hx rfl (hb hby at_190) ?_
    exact kt
  refine own_Goes.pre pre1 ?_
  by_cases hc : (f7_0 w0 w1 w2 w3) = (1 : Int32)
  · rw [f0B_185, if_pos hc] at hP
    refine own_Goes.pre (fun t kt => ?_) (b0B_194 x0 x1 x2 x3 x4 x5 x6 x7 x8 x9 x10 x11 x12 x13 x14 x15 x16 o17 w0 w1 w2 w3 X187 hx hZ hw hby hml hown hret hlk e187 Z0 N187 K0 g0 hP)
    show Steps p.tables e below (T187.setTop (mkF m 191 #[.val (.int x0), .val (.int x1), .val (.int x2), .val (.int x3), .val (.int x4), .val (.int x5), .val (.int x6), .val (.int x7), .val (.int x8), .val (.int x9), .val (.int x10), .val (.int x11), .val (.int x12), .val (.int x13), .val (.int x14), .val (.int x15), .val (.int x16), .val (.ref o17), .unset] [(.int (1 : Int32)), (.int (f7_0 w0 w1 w2 w3))])) _
    refine XS.icmpNo X187.here hx rfl (hb hby at_191) rfl (teq hc).2 ?_
    exact kt
  · rw [f0B_185, if_neg hc] at hP
    refine own_Goes.pre (fun t kt => ?_) (b0B_198 x0 x1 x2 x3 x4 x5 x6 x7 x8 x9 x10 x11 x12 x13 x14 x15 x16 o17 w0 w1 w2 w3 X187 hx hZ hw hby hml hown hret hlk e187 Z0 N187 K0 g0 hP)
    show Steps p.tables e below (T187.setTop (mkF m 191 #[.val (.int x0), .val (.int x1), .val (.int x2), .val (.int x3), .val (.int x4), .val (.int x5), .val (.int x6), .val (.int x7), .val (.int x8), .val (.int x9), .val (.int x10), .val (.int x11), .val (.int x12), .val (.int x13), .val (.int x14), .val (.int x15), .val (.int x16), .val (.ref o17), .unset] [(.int (1 : Int32)), (.int (f7_0 w0 w1 w2 w3))])) _
    refine XS.icmpYes X187.here hx rfl (pc0 := 191) (pc' := 198) rfl (hb hby at_191) rfl (feq hc).2 (by decide) (by decide) ?_
    exact kt
def f0B_176 (x0 : Int32) (x1 : Int32) (x2 : Int32) (x3 : Int32) (x4 : Int32) (x5 : Int32) (x6 : Int32) (x7 : Int32) (x8 : Int32) (x9 : Int32) (x10 : Int32) (x11 : Int32) (x12 : Int32) (x13 : Int32) (x14 : Int32) (x15 : Int32) (x16 : Int32) (w0 : Int32) (w1 : Int32) (w2 : Int32) (w3 : Int32) : Int32 := if (f6_0 w0 w1 w2 w3) = (1 : Int32) then (f0B_185 x0 x1 x2 x3 x4 x5 x6 x7 x8 x9 x10 x11 x12 x13 x14 x15 x16 w0 w1 w2 w3) else (f0B_198 x0 x1 x2 x3 x4 x5 x6 x7 x8 x9 x10 x11 x12 x13 x14 x15 x16 w0 w1 w2 w3)
set_option maxRecDepth 65536 in
set_option maxHeartbeats 40000000 in
theorem b0B_176 {p : Program} {l : Launch} {e : Env} {s : State} {m : MethodId} {args : Array Value} {below : List Frame} {meth : Method} {c : Code} {T0 : State} {locs : List Loc} {Z : State} {a0 : Array Value} {h0 : Heap} {n0 : Nat} {P : Option Value → Heap → Prop} (x0 : Int32) (x1 : Int32) (x2 : Int32) (x3 : Int32) (x4 : Int32) (x5 : Int32) (x6 : Int32) (x7 : Int32) (x8 : Int32) (x9 : Int32) (x10 : Int32) (x11 : Int32) (x12 : Int32) (x13 : Int32) (x14 : Int32) (x15 : Int32) (x16 : Int32) (o17 : Addr) (w0 : Int32) (w1 : Int32) (w2 : Int32) (w3 : Int32) (X0 : Stand p l e room_1 s m args below meth c T0 locs 1 4) (hx : p.tables.exec = Jvm.exec) (hZ : Z.Warmed39 s.vm) (hw : ∀ d ∈ tables_1, d.before a0 Z = true) (hby : c.code = code) (hml : c.maxLocals = 19) (hown : s.vm.findClass "com/example/lehre/lehre/TextPositionAdvancePinLaw" = some m.cls) (hret : meth.sig.returnType = some .boolean) (hlk : meth.locks = false) (e0 : T0.heap = h0) (Z0 : n0 ≤ h0.size) (N0 : Fr n0 locs) (K0 : own_TP Z h0 o17 w0 w1 w2 w3) (g0 : n0 ≤ o17) (hP : ∀ h' : Heap, P (some (.int (f0B_176 x0 x1 x2 x3 x4 x5 x6 x7 x8 x9 x10 x11 x12 x13 x14 x15 x16 w0 w1 w2 w3))) h') :
    own_Goes p e below s n0 room_1.cells room_1.slots P (T0.setTop (mkF m 176 #[.val (.int x0), .val (.int x1), .val (.int x2), .val (.int x3), .val (.int x4), .val (.int x5), .val (.int x6), .val (.int x7), .val (.int x8), .val (.int x9), .val (.int x10), .val (.int x11), .val (.int x12), .val (.int x13), .val (.int x14), .val (.int x15), .val (.int x16), .val (.ref o17), .unset] [])) := by
  obtain ⟨cq178, kq178, qa178, qb178, qc178⟩ := isOf hZ e0 K0.1
  obtain ⟨_, _, ⟨T178, L178, k178, n178⟩, -, X178, ⟨Lc178, hQ178, l178, y178, z178⟩, st178⟩ := X0.virtualBack hx (y := (⟨"com/example/lehre/lehre/TextPosition", "line", "()I"⟩ : MethodName)) (z := (⟨"com/example/lehre/lehre/TextPosition", "line", "()I"⟩ : MethodName)) hown (mvT hZ (hw _ (List.mem_of_getElem? (i := 25) rfl))) (mvT hZ (hw _ (List.mem_of_getElem? (i := 26) rfl))) (notFace_of_selects (args := #[]) (mvT hZ (hw _ (List.mem_of_getElem? (i := 28) rfl)))) (mvT hZ (hw _ (List.mem_of_getElem? (i := 28) rfl))) (mvT hZ (hw _ (List.mem_of_getElem? (i := 27) rfl))) (by decide) (backOf (W := 0) (rm6 l Z a0 hw [] o17 w0 w1 w2 w3 h0 n0 Z0 K0 g0) hZ (hw _ (List.mem_of_getElem? (i := 29) rfl)) (hw _ (List.mem_of_getElem? (i := 12) rfl)) (by decide) (by decide)) qa178 qc178 (g := (mkF m 178 #[.val (.int x0), .val (.int x1), .val (.int x2), .val (.int x3), .val (.int x4), .val (.int x5), .val (.int x6), .val (.int x7), .val (.int x8), .val (.int x9), .val (.int x10), .val (.int x11), .val (.int x12), .val (.int x13), .val (.int x14), .val (.int x15), .val (.int x16), .val (.ref o17), .unset] [(.ref o17)])) rfl (by rw [hml]; rfl) (Steps.refl _) (argsL := []) (rest := []) (lenOf pd1 rfl) rfl (by show 2 * 0 + _ ≤ _; exact Nat.le_of_eq rfl) (hb hby at_178) (fun _ _ => ⟨rfl, e0, (by decide : 1 + 0 ≤ _), (by decide : 4 + 0 ≤ _)⟩)
  dsimp only [Pt.U, Pt.locs, Pt.cells, Pt.slots] at X178 l178 y178 z178 st178 hQ178
  subst l178 y178 z178
  obtain ⟨⟨rfl, e178⟩, N178q⟩ := hQ178
  have N178 := Fr.app N0 N178q
  have pre1 : ∀ t, Steps p.tables e below (T178.setTop (mkF m 182 #[.val (.int x0), .val (.int x1), .val (.int x2), .val (.int x3), .val (.int x4), .val (.int x5), .val (.int x6), .val (.int x7), .val (.int x8), .val (.int x9), .val (.int x10), .val (.int x11), .val (.int x12), .val (.int x13), .val (.int x14), .val (.int x15), .val (.int x16), .val (.ref o17), .unset] [(.int (1 : Int32)), (.int (f6_0 w0 w1 w2 w3))])) t → Steps p.tables e below (T0.setTop (mkF m 176 #[.val (.int x0), .val (.int x1), .val (.int x2), .val (.int x3), .val (.int x4), .val (.int x5), .val (.int x6), .val (.int x7), .val (.int x8), .val (.int x9), .val (.int x10), .val (.int x11), .val (.int x12), .val (.int x13), .val (.int x14), .val (.int x15), .val (.int x16), .val (.ref o17), .unset] [])) t := fun t kt => by
    show Steps p.tables e below (T0.setTop (mkF m 176 #[.val (.int x0), .val (.int x1), .val (.int x2), .val (.int x3), .val (.int x4), .val (.int x5), .val (.int x6), .val (.int x7), .val (.int x8), .val (.int x9), .val (.int x10), .val (.int x11), .val (.int x12), .val (.int x13), .val (.int x14), .val (.int x15), .val (.int x16), .val (.ref o17), .unset] [])) _
    refine XS.aload X0.here hx rfl (hb hby at_176) rfl rfl ?_
    show Steps p.tables e below (T0.setTop (mkF m 178 #[.val (.int x0), .val (.int x1), .val (.int x2), .val (.int x3), .val (.int x4), .val (.int x5), .val (.int x6), .val (.int x7), .val (.int x8), .val (.int x9), .val (.int x10), .val (.int x11), .val (.int x12), .val (.int x13), .val (.int x14), .val (.int x15), .val (.int x16), .val (.ref o17), .unset] [(.ref o17)])) _
    refine st178.trans ?_
    show Steps p.tables e below (T178.setTop (mkF m 181 #[.val (.int x0), .val (.int x1), .val (.int x2), .val (.int x3), .val (.int x4), .val (.int x5), .val (.int x6), .val (.int x7), .val (.int x8), .val (.int x9), .val (.int x10), .val (.int x11), .val (.int x12), .val (.int x13), .val (.int x14), .val (.int x15), .val (.int x16), .val (.ref o17), .unset] [(.int (f6_0 w0 w1 w2 w3))])) _
    refine XS.iconst X178.here hx rfl (hb hby at_181) ?_
    exact kt
  refine own_Goes.pre pre1 ?_
  by_cases hc : (f6_0 w0 w1 w2 w3) = (1 : Int32)
  · rw [f0B_176, if_pos hc] at hP
    refine own_Goes.pre (fun t kt => ?_) (b0B_185 x0 x1 x2 x3 x4 x5 x6 x7 x8 x9 x10 x11 x12 x13 x14 x15 x16 o17 w0 w1 w2 w3 X178 hx hZ hw hby hml hown hret hlk e178 Z0 N178 K0 g0 hP)
    show Steps p.tables e below (T178.setTop (mkF m 182 #[.val (.int x0), .val (.int x1), .val (.int x2), .val (.int x3), .val (.int x4), .val (.int x5), .val (.int x6), .val (.int x7), .val (.int x8), .val (.int x9), .val (.int x10), .val (.int x11), .val (.int x12), .val (.int x13), .val (.int x14), .val (.int x15), .val (.int x16), .val (.ref o17), .unset] [(.int (1 : Int32)), (.int (f6_0 w0 w1 w2 w3))])) _
    refine XS.icmpNo X178.here hx rfl (hb hby at_182) rfl (teq hc).2 ?_
    exact kt
  · rw [f0B_176, if_neg hc] at hP
    refine own_Goes.pre (fun t kt => ?_) (b0B_198 x0 x1 x2 x3 x4 x5 x6 x7 x8 x9 x10 x11 x12 x13 x14 x15 x16 o17 w0 w1 w2 w3 X178 hx hZ hw hby hml hown hret hlk e178 Z0 N178 K0 g0 hP)
    show Steps p.tables e below (T178.setTop (mkF m 182 #[.val (.int x0), .val (.int x1), .val (.int x2), .val (.int x3), .val (.int x4), .val (.int x5), .val (.int x6), .val (.int x7), .val (.int x8), .val (.int x9), .val (.int x10), .val (.int x11), .val (.int x12), .val (.int x13), .val (.int x14), .val (.int x15), .val (.int x16), .val (.ref o17), .unset] [(.int (1 : Int32)), (.int (f6_0 w0 w1 w2 w3))])) _
    refine XS.icmpYes X178.here hx rfl (pc0 := 182) (pc' := 198) rfl (hb hby at_182) rfl (feq hc).2 (by decide) (by decide) ?_
    exact kt
theorem pd3 : parseMethodDescriptor "(Z)V" = some ⟨[.boolean], none⟩ := by decide +kernel
def f0_165 (x0 : Int32) (x1 : Int32) (x2 : Int32) (x3 : Int32) (x4 : Int32) (x5 : Int32) (x6 : Int32) (x7 : Int32) (x8 : Int32) (x9 : Int32) (x10 : Int32) (x11 : Int32) (x12 : Int32) (x13 : Int32) (x14 : Int32) (x15 : Int32) (x16 : Int32) : Int32 := f0B_176 x0 x1 x2 x3 x4 x5 x6 x7 x8 x9 x10 x11 x12 x13 x14 x15 x16 1 1 (nar .boolean x4) 0
set_option maxRecDepth 65536 in
set_option maxHeartbeats 40000000 in
theorem b0_165 {p : Program} {l : Launch} {e : Env} {s : State} {m : MethodId} {args : Array Value} {below : List Frame} {meth : Method} {c : Code} {T0 : State} {locs : List Loc} {Z : State} {a0 : Array Value} {h0 : Heap} {n0 : Nat} {P : Option Value → Heap → Prop} (x0 : Int32) (x1 : Int32) (x2 : Int32) (x3 : Int32) (x4 : Int32) (x5 : Int32) (x6 : Int32) (x7 : Int32) (x8 : Int32) (x9 : Int32) (x10 : Int32) (x11 : Int32) (x12 : Int32) (x13 : Int32) (x14 : Int32) (x15 : Int32) (x16 : Int32) (X0 : Stand p l e room_1 s m args below meth c T0 locs 0 0) (hx : p.tables.exec = Jvm.exec) (hZ : Z.Warmed39 s.vm) (hw : ∀ d ∈ tables_1, d.before a0 Z = true) (hby : c.code = code) (hml : c.maxLocals = 19) (hown : s.vm.findClass "com/example/lehre/lehre/TextPositionAdvancePinLaw" = some m.cls) (hret : meth.sig.returnType = some .boolean) (hlk : meth.locks = false) (e0 : T0.heap = h0) (Z0 : n0 ≤ h0.size) (N0 : Fr n0 locs) (hP : ∀ h' : Heap, P (some (.int (f0_165 x0 x1 x2 x3 x4 x5 x6 x7 x8 x9 x10 x11 x12 x13 x14 x15 x16))) h') :
    own_Goes p e below s n0 room_1.cells room_1.slots P (T0.setTop (mkF m 165 #[.val (.int x0), .val (.int x1), .val (.int x2), .val (.int x3), .val (.int x4), .val (.int x5), .val (.int x6), .val (.int x7), .val (.int x8), .val (.int x9), .val (.int x10), .val (.int x11), .val (.int x12), .val (.int x13), .val (.int x14), .val (.int x15), .val (.int x16), .unset, .unset] [])) := by
  rw [f0_165] at hP
  obtain ⟨T1, h1, X1, e1, E1, A1, D1, -, st1⟩ := newO X0 hx hZ hown (hw _ (List.mem_of_getElem? (i := 10) rfl)) (hw _ (List.mem_of_getElem? (i := 11) rfl)) (hw _ (List.mem_of_getElem? (i := 12) rfl)) e0 (g := (mkF m 165 #[.val (.int x0), .val (.int x1), .val (.int x2), .val (.int x3), .val (.int x4), .val (.int x5), .val (.int x6), .val (.int x7), .val (.int x8), .val (.int x9), .val (.int x10), .val (.int x11), .val (.int x12), .val (.int x13), .val (.int x14), .val (.int x15), .val (.int x16), .unset, .unset] [])) rfl (hb hby at_165) (by decide) (by decide)
  obtain ⟨o17, go⟩ : ∃ z, z = h0.size := ⟨_, rfl⟩
  rw [← go] at A1 D1 st1
  have g0 : n0 ≤ o17 := by rw [go]; exact Z0
  have K1 : own_TP Z h1 o17 0 0 0 0 := ⟨A1, D1 (own_laL hw) (ty := .int) (by decide), D1 (own_laC hw) (ty := .int) (by decide), D1 (own_laX hw) (ty := .boolean) (by decide), D1 (own_laP hw) (ty := .char) (by decide)⟩
  have Z1 : n0 ≤ h1.size := Nat.le_trans Z0 E1.1
  obtain ⟨_, _, ⟨T2, L2, k2, n2⟩, -, X2, ⟨Lc2, hQ2, l2, y2, z2⟩, st2⟩ := X1.specialBack hx (y := (⟨"com/example/lehre/lehre/TextPosition", "<init>", "(Z)V"⟩ : MethodName)) rfl hown (mvT hZ (hw _ (List.mem_of_getElem? (i := 13) rfl))) (mvT hZ (hw _ (List.mem_of_getElem? (i := 14) rfl))) (mvT hZ (hw _ (List.mem_of_getElem? (i := 15) rfl))) (by decide) (backOf (W := 1) (rm4 l Z a0 hw [] o17 x4 0 0 0 0 h1 n0 Z1 K1 g0) hZ (hw _ (List.mem_of_getElem? (i := 15) rfl)) (hw _ (List.mem_of_getElem? (i := 12) rfl)) (by decide) (by decide)) (g := (mkF m 171 #[.val (.int x0), .val (.int x1), .val (.int x2), .val (.int x3), .val (.int x4), .val (.int x5), .val (.int x6), .val (.int x7), .val (.int x8), .val (.int x9), .val (.int x10), .val (.int x11), .val (.int x12), .val (.int x13), .val (.int x14), .val (.int x15), .val (.int x16), .unset, .unset] [(.int x4), (.ref o17), (.ref o17)])) rfl (by rw [hml]; rfl) (Steps.refl _) (a := o17) (argsL := [(.int x4)]) (rest := [(.ref o17)]) (lenOf pd3 rfl) rfl (by show 2 * 0 + _ ≤ _; exact Nat.le_of_eq rfl) (hb hby at_171) (fun _ _ => ⟨rfl, e1, (by decide : 1 + 0 ≤ _), (by decide : 4 + 0 ≤ _)⟩)
  dsimp only [Pt.U, Pt.locs, Pt.cells, Pt.slots] at X2 l2 y2 z2 st2 hQ2
  subst l2 y2 z2
  obtain ⟨⟨rfl, K2⟩, N2q⟩ := hQ2
  have N2 := Fr.app N0 N2q
  have K2' : own_TP Z T2.heap o17 1 1 (nar .boolean x4) 0 := K2
  refine own_Goes.pre (fun t kt => ?_) (b0B_176 x0 x1 x2 x3 x4 x5 x6 x7 x8 x9 x10 x11 x12 x13 x14 x15 x16 o17 1 1 (nar .boolean x4) 0 X2 hx hZ hw hby hml hown hret hlk rfl (Nat.le_of_lt (Nat.lt_of_le_of_lt g0 K2.1.lt)) N2 K2' g0 hP)
  show Steps p.tables e below (T0.setTop (mkF m 165 #[.val (.int x0), .val (.int x1), .val (.int x2), .val (.int x3), .val (.int x4), .val (.int x5), .val (.int x6), .val (.int x7), .val (.int x8), .val (.int x9), .val (.int x10), .val (.int x11), .val (.int x12), .val (.int x13), .val (.int x14), .val (.int x15), .val (.int x16), .unset, .unset] [])) _
  refine st1 _ ?_
  show Steps p.tables e below (T1.setTop (mkF m 168 #[.val (.int x0), .val (.int x1), .val (.int x2), .val (.int x3), .val (.int x4), .val (.int x5), .val (.int x6), .val (.int x7), .val (.int x8), .val (.int x9), .val (.int x10), .val (.int x11), .val (.int x12), .val (.int x13), .val (.int x14), .val (.int x15), .val (.int x16), .unset, .unset] [(.ref o17)])) _
  refine XS.dup X1.here hx rfl (hb hby at_168) rfl rfl ?_
  show Steps p.tables e below (T1.setTop (mkF m 169 #[.val (.int x0), .val (.int x1), .val (.int x2), .val (.int x3), .val (.int x4), .val (.int x5), .val (.int x6), .val (.int x7), .val (.int x8), .val (.int x9), .val (.int x10), .val (.int x11), .val (.int x12), .val (.int x13), .val (.int x14), .val (.int x15), .val (.int x16), .unset, .unset] [(.ref o17), (.ref o17)])) _
  refine XS.iload X1.here hx rfl (hb hby at_169) rfl ?_
  show Steps p.tables e below (T1.setTop (mkF m 171 #[.val (.int x0), .val (.int x1), .val (.int x2), .val (.int x3), .val (.int x4), .val (.int x5), .val (.int x6), .val (.int x7), .val (.int x8), .val (.int x9), .val (.int x10), .val (.int x11), .val (.int x12), .val (.int x13), .val (.int x14), .val (.int x15), .val (.int x16), .unset, .unset] [(.int x4), (.ref o17), (.ref o17)])) _
  refine st2.trans ?_
  show Steps p.tables e below (T2.setTop (mkF m 174 #[.val (.int x0), .val (.int x1), .val (.int x2), .val (.int x3), .val (.int x4), .val (.int x5), .val (.int x6), .val (.int x7), .val (.int x8), .val (.int x9), .val (.int x10), .val (.int x11), .val (.int x12), .val (.int x13), .val (.int x14), .val (.int x15), .val (.int x16), .unset, .unset] [(.ref o17)])) _
  refine XS.astore X2.here hx rfl (hb hby at_174) rfl rfl (l' := #[.val (.int x0), .val (.int x1), .val (.int x2), .val (.int x3), .val (.int x4), .val (.int x5), .val (.int x6), .val (.int x7), .val (.int x8), .val (.int x9), .val (.int x10), .val (.int x11), .val (.int x12), .val (.int x13), .val (.int x14), .val (.int x15), .val (.int x16), .val (.ref o17), .unset]) rfl ?_
  exact kt
theorem pd4 : parseMethodDescriptor "(I)C" = some ⟨[.int], some .char⟩ := by decide +kernel
theorem pd5 : parseMethodDescriptor "(CZCZ)I" = some ⟨[.char, .boolean, .char, .boolean], some .int⟩ := by decide +kernel
def f0_163 (x0 : Int32) (x1 : Int32) (x2 : Int32) (x3 : Int32) (x4 : Int32) (x5 : Int32) (x6 : Int32) (x7 : Int32) (x8 : Int32) (x9 : Int32) (x10 : Int32) (x11 : Int32) (x12 : Int32) (x13 : Int32) (x14 : Int32) (x15 : Int32) (y0 : Int32) : Int32 := (f0_165 x0 x1 x2 x3 x4 x5 x6 x7 x8 x9 x10 x11 x12 x13 x14 x15 y0)
set_option maxRecDepth 65536 in
set_option maxHeartbeats 40000000 in
theorem b0_163 {p : Program} {l : Launch} {e : Env} {s : State} {m : MethodId} {args : Array Value} {below : List Frame} {meth : Method} {c : Code} {T0 : State} {locs : List Loc} {Z : State} {a0 : Array Value} {h0 : Heap} {n0 : Nat} {P : Option Value → Heap → Prop} (x0 : Int32) (x1 : Int32) (x2 : Int32) (x3 : Int32) (x4 : Int32) (x5 : Int32) (x6 : Int32) (x7 : Int32) (x8 : Int32) (x9 : Int32) (x10 : Int32) (x11 : Int32) (x12 : Int32) (x13 : Int32) (x14 : Int32) (x15 : Int32) (y0 : Int32) (X0 : Stand p l e room_1 s m args below meth c T0 locs 0 0) (hx : p.tables.exec = Jvm.exec) (hZ : Z.Warmed39 s.vm) (hw : ∀ d ∈ tables_1, d.before a0 Z = true) (hby : c.code = code) (hml : c.maxLocals = 19) (hown : s.vm.findClass "com/example/lehre/lehre/TextPositionAdvancePinLaw" = some m.cls) (hret : meth.sig.returnType = some .boolean) (hlk : meth.locks = false) (e0 : T0.heap = h0) (Z0 : n0 ≤ h0.size) (N0 : Fr n0 locs) (hP : ∀ h' : Heap, P (some (.int (f0_163 x0 x1 x2 x3 x4 x5 x6 x7 x8 x9 x10 x11 x12 x13 x14 x15 y0))) h') :
    own_Goes p e below s n0 room_1.cells room_1.slots P (T0.setTop (mkF m 163 #[.val (.int x0), .val (.int x1), .val (.int x2), .val (.int x3), .val (.int x4), .val (.int x5), .val (.int x6), .val (.int x7), .val (.int x8), .val (.int x9), .val (.int x10), .val (.int x11), .val (.int x12), .val (.int x13), .val (.int x14), .val (.int x15), .unset, .unset, .unset] [(.int y0)])) := by
  rw [f0_163] at hP
  refine own_Goes.pre (fun t kt => ?_) (b0_165 x0 x1 x2 x3 x4 x5 x6 x7 x8 x9 x10 x11 x12 x13 x14 x15 y0 X0 hx hZ hw hby hml hown hret hlk e0 Z0 N0 hP)
  show Steps p.tables e below (T0.setTop (mkF m 163 #[.val (.int x0), .val (.int x1), .val (.int x2), .val (.int x3), .val (.int x4), .val (.int x5), .val (.int x6), .val (.int x7), .val (.int x8), .val (.int x9), .val (.int x10), .val (.int x11), .val (.int x12), .val (.int x13), .val (.int x14), .val (.int x15), .unset, .unset, .unset] [(.int y0)])) _
  refine XS.istore X0.here hx rfl (hb hby at_163) rfl (l' := #[.val (.int x0), .val (.int x1), .val (.int x2), .val (.int x3), .val (.int x4), .val (.int x5), .val (.int x6), .val (.int x7), .val (.int x8), .val (.int x9), .val (.int x10), .val (.int x11), .val (.int x12), .val (.int x13), .val (.int x14), .val (.int x15), .val (.int y0), .unset, .unset]) rfl ?_
  exact kt
def f0_162 (x0 : Int32) (x1 : Int32) (x2 : Int32) (x3 : Int32) (x4 : Int32) (x5 : Int32) (x6 : Int32) (x7 : Int32) (x8 : Int32) (x9 : Int32) (x10 : Int32) (x11 : Int32) (x12 : Int32) (x13 : Int32) (x14 : Int32) (x15 : Int32) : Int32 := (f0_163 x0 x1 x2 x3 x4 x5 x6 x7 x8 x9 x10 x11 x12 x13 x14 x15 (4 : Int32))
set_option maxRecDepth 65536 in
set_option maxHeartbeats 40000000 in
theorem b0_162 {p : Program} {l : Launch} {e : Env} {s : State} {m : MethodId} {args : Array Value} {below : List Frame} {meth : Method} {c : Code} {T0 : State} {locs : List Loc} {Z : State} {a0 : Array Value} {h0 : Heap} {n0 : Nat} {P : Option Value → Heap → Prop} (x0 : Int32) (x1 : Int32) (x2 : Int32) (x3 : Int32) (x4 : Int32) (x5 : Int32) (x6 : Int32) (x7 : Int32) (x8 : Int32) (x9 : Int32) (x10 : Int32) (x11 : Int32) (x12 : Int32) (x13 : Int32) (x14 : Int32) (x15 : Int32) (X0 : Stand p l e room_1 s m args below meth c T0 locs 0 0) (hx : p.tables.exec = Jvm.exec) (hZ : Z.Warmed39 s.vm) (hw : ∀ d ∈ tables_1, d.before a0 Z = true) (hby : c.code = code) (hml : c.maxLocals = 19) (hown : s.vm.findClass "com/example/lehre/lehre/TextPositionAdvancePinLaw" = some m.cls) (hret : meth.sig.returnType = some .boolean) (hlk : meth.locks = false) (e0 : T0.heap = h0) (Z0 : n0 ≤ h0.size) (N0 : Fr n0 locs) (hP : ∀ h' : Heap, P (some (.int (f0_162 x0 x1 x2 x3 x4 x5 x6 x7 x8 x9 x10 x11 x12 x13 x14 x15))) h') :
    own_Goes p e below s n0 room_1.cells room_1.slots P (T0.setTop (mkF m 162 #[.val (.int x0), .val (.int x1), .val (.int x2), .val (.int x3), .val (.int x4), .val (.int x5), .val (.int x6), .val (.int x7), .val (.int x8), .val (.int x9), .val (.int x10), .val (.int x11), .val (.int x12), .val (.int x13), .val (.int x14), .val (.int x15), .unset, .unset, .unset] [])) := by
  rw [f0_162] at hP
  refine own_Goes.pre (fun t kt => ?_) (b0_163 x0 x1 x2 x3 x4 x5 x6 x7 x8 x9 x10 x11 x12 x13 x14 x15 (4 : Int32) X0 hx hZ hw hby hml hown hret hlk e0 Z0 N0 hP)
  show Steps p.tables e below (T0.setTop (mkF m 162 #[.val (.int x0), .val (.int x1), .val (.int x2), .val (.int x3), .val (.int x4), .val (.int x5), .val (.int x6), .val (.int x7), .val (.int x8), .val (.int x9), .val (.int x10), .val (.int x11), .val (.int x12), .val (.int x13), .val (.int x14), .val (.int x15), .unset, .unset, .unset] [])) _
  refine XS.iconst X0.here hx rfl (hb hby at_162) ?_
  exact kt
def f0_158 (x0 : Int32) (x1 : Int32) (x2 : Int32) (x3 : Int32) (x4 : Int32) (x5 : Int32) (x6 : Int32) (x7 : Int32) (x8 : Int32) (x9 : Int32) (x10 : Int32) (x11 : Int32) (x12 : Int32) (x13 : Int32) (x14 : Int32) (x15 : Int32) : Int32 := (f0_163 x0 x1 x2 x3 x4 x5 x6 x7 x8 x9 x10 x11 x12 x13 x14 x15 (3 : Int32))
set_option maxRecDepth 65536 in
set_option maxHeartbeats 40000000 in
theorem b0_158 {p : Program} {l : Launch} {e : Env} {s : State} {m : MethodId} {args : Array Value} {below : List Frame} {meth : Method} {c : Code} {T0 : State} {locs : List Loc} {Z : State} {a0 : Array Value} {h0 : Heap} {n0 : Nat} {P : Option Value → Heap → Prop} (x0 : Int32) (x1 : Int32) (x2 : Int32) (x3 : Int32) (x4 : Int32) (x5 : Int32) (x6 : Int32) (x7 : Int32) (x8 : Int32) (x9 : Int32) (x10 : Int32) (x11 : Int32) (x12 : Int32) (x13 : Int32) (x14 : Int32) (x15 : Int32) (X0 : Stand p l e room_1 s m args below meth c T0 locs 0 0) (hx : p.tables.exec = Jvm.exec) (hZ : Z.Warmed39 s.vm) (hw : ∀ d ∈ tables_1, d.before a0 Z = true) (hby : c.code = code) (hml : c.maxLocals = 19) (hown : s.vm.findClass "com/example/lehre/lehre/TextPositionAdvancePinLaw" = some m.cls) (hret : meth.sig.returnType = some .boolean) (hlk : meth.locks = false) (e0 : T0.heap = h0) (Z0 : n0 ≤ h0.size) (N0 : Fr n0 locs) (hP : ∀ h' : Heap, P (some (.int (f0_158 x0 x1 x2 x3 x4 x5 x6 x7 x8 x9 x10 x11 x12 x13 x14 x15))) h') :
    own_Goes p e below s n0 room_1.cells room_1.slots P (T0.setTop (mkF m 158 #[.val (.int x0), .val (.int x1), .val (.int x2), .val (.int x3), .val (.int x4), .val (.int x5), .val (.int x6), .val (.int x7), .val (.int x8), .val (.int x9), .val (.int x10), .val (.int x11), .val (.int x12), .val (.int x13), .val (.int x14), .val (.int x15), .unset, .unset, .unset] [])) := by
  rw [f0_158] at hP
  refine own_Goes.pre (fun t kt => ?_) (b0_163 x0 x1 x2 x3 x4 x5 x6 x7 x8 x9 x10 x11 x12 x13 x14 x15 (3 : Int32) X0 hx hZ hw hby hml hown hret hlk e0 Z0 N0 hP)
  show Steps p.tables e below (T0.setTop (mkF m 158 #[.val (.int x0), .val (.int x1), .val (.int x2), .val (.int x3), .val (.int x4), .val (.int x5), .val (.int x6), .val (.int x7), .val (.int x8), .val (.int x9), .val (.int x10), .val (.int x11), .val (.int x12), .val (.int x13), .val (.int x14), .val (.int x15), .unset, .unset, .unset] [])) _
  refine XS.iconst X0.here hx rfl (hb hby at_158) ?_
  show Steps p.tables e below (T0.setTop (mkF m 159 #[.val (.int x0), .val (.int x1), .val (.int x2), .val (.int x3), .val (.int x4), .val (.int x5), .val (.int x6), .val (.int x7), .val (.int x8), .val (.int x9), .val (.int x10), .val (.int x11), .val (.int x12), .val (.int x13), .val (.int x14), .val (.int x15), .unset, .unset, .unset] [(.int (3 : Int32))])) _
  refine XS.goto X0.here hx rfl (pc0 := 159) (pc' := 163) rfl (hb hby at_159) (by decide) (by decide) ?_
  exact kt
def f0_153 (x0 : Int32) (x1 : Int32) (x2 : Int32) (x3 : Int32) (x4 : Int32) (x5 : Int32) (x6 : Int32) (x7 : Int32) (x8 : Int32) (x9 : Int32) (x10 : Int32) (x11 : Int32) (x12 : Int32) (x13 : Int32) (x14 : Int32) (x15 : Int32) : Int32 := if x8 = (0 : Int32) then (f0_162 x0 x1 x2 x3 x4 x5 x6 x7 x8 x9 x10 x11 x12 x13 x14 x15) else (f0_158 x0 x1 x2 x3 x4 x5 x6 x7 x8 x9 x10 x11 x12 x13 x14 x15)
set_option maxRecDepth 65536 in
set_option maxHeartbeats 40000000 in
theorem b0_153 {p : Program} {l : Launch} {e : Env} {s : State} {m : MethodId} {args : Array Value} {below : List Frame} {meth : Method} {c : Code} {T0 : State} {locs : List Loc} {Z : State} {a0 : Array Value} {h0 : Heap} {n0 : Nat} {P : Option Value → Heap → Prop} (x0 : Int32) (x1 : Int32) (x2 : Int32) (x3 : Int32) (x4 : Int32) (x5 : Int32) (x6 : Int32) (x7 : Int32) (x8 : Int32) (x9 : Int32) (x10 : Int32) (x11 : Int32) (x12 : Int32) (x13 : Int32) (x14 : Int32) (x15 : Int32) (X0 : Stand p l e room_1 s m args below meth c T0 locs 0 0) (hx : p.tables.exec = Jvm.exec) (hZ : Z.Warmed39 s.vm) (hw : ∀ d ∈ tables_1, d.before a0 Z = true) (hby : c.code = code) (hml : c.maxLocals = 19) (hown : s.vm.findClass "com/example/lehre/lehre/TextPositionAdvancePinLaw" = some m.cls) (hret : meth.sig.returnType = some .boolean) (hlk : meth.locks = false) (e0 : T0.heap = h0) (Z0 : n0 ≤ h0.size) (N0 : Fr n0 locs) (hP : ∀ h' : Heap, P (some (.int (f0_153 x0 x1 x2 x3 x4 x5 x6 x7 x8 x9 x10 x11 x12 x13 x14 x15))) h') :
    own_Goes p e below s n0 room_1.cells room_1.slots P (T0.setTop (mkF m 153 #[.val (.int x0), .val (.int x1), .val (.int x2), .val (.int x3), .val (.int x4), .val (.int x5), .val (.int x6), .val (.int x7), .val (.int x8), .val (.int x9), .val (.int x10), .val (.int x11), .val (.int x12), .val (.int x13), .val (.int x14), .val (.int x15), .unset, .unset, .unset] [])) := by
  have pre1 : ∀ t, Steps p.tables e below (T0.setTop (mkF m 155 #[.val (.int x0), .val (.int x1), .val (.int x2), .val (.int x3), .val (.int x4), .val (.int x5), .val (.int x6), .val (.int x7), .val (.int x8), .val (.int x9), .val (.int x10), .val (.int x11), .val (.int x12), .val (.int x13), .val (.int x14), .val (.int x15), .unset, .unset, .unset] [(.int x8)])) t → Steps p.tables e below (T0.setTop (mkF m 153 #[.val (.int x0), .val (.int x1), .val (.int x2), .val (.int x3), .val (.int x4), .val (.int x5), .val (.int x6), .val (.int x7), .val (.int x8), .val (.int x9), .val (.int x10), .val (.int x11), .val (.int x12), .val (.int x13), .val (.int x14), .val (.int x15), .unset, .unset, .unset] [])) t := fun t kt => by
    show Steps p.tables e below (T0.setTop (mkF m 153 #[.val (.int x0), .val (.int x1), .val (.int x2), .val (.int x3), .val (.int x4), .val (.int x5), .val (.int x6), .val (.int x7), .val (.int x8), .val (.int x9), .val (.int x10), .val (.int x11), .val (.int x12), .val (.int x13), .val (.int x14), .val (.int x15), .unset, .unset, .unset] [])) _
    refine XS.iload X0.here hx rfl (hb hby at_153) rfl ?_
    exact kt
  refine own_Goes.pre pre1 ?_
  by_cases hc : x8 = (0 : Int32)
  · rw [f0_153, if_pos hc] at hP
    refine own_Goes.pre (fun t kt => ?_) (b0_162 x0 x1 x2 x3 x4 x5 x6 x7 x8 x9 x10 x11 x12 x13 x14 x15 X0 hx hZ hw hby hml hown hret hlk e0 Z0 N0 hP)
    show Steps p.tables e below (T0.setTop (mkF m 155 #[.val (.int x0), .val (.int x1), .val (.int x2), .val (.int x3), .val (.int x4), .val (.int x5), .val (.int x6), .val (.int x7), .val (.int x8), .val (.int x9), .val (.int x10), .val (.int x11), .val (.int x12), .val (.int x13), .val (.int x14), .val (.int x15), .unset, .unset, .unset] [(.int x8)])) _
    refine XS.ifYes X0.here hx rfl (pc0 := 155) (pc' := 162) rfl (hb hby at_155) rfl ((if0 _ _).trans (teq hc).1) (by decide) (by decide) ?_
    exact kt
  · rw [f0_153, if_neg hc] at hP
    refine own_Goes.pre (fun t kt => ?_) (b0_158 x0 x1 x2 x3 x4 x5 x6 x7 x8 x9 x10 x11 x12 x13 x14 x15 X0 hx hZ hw hby hml hown hret hlk e0 Z0 N0 hP)
    show Steps p.tables e below (T0.setTop (mkF m 155 #[.val (.int x0), .val (.int x1), .val (.int x2), .val (.int x3), .val (.int x4), .val (.int x5), .val (.int x6), .val (.int x7), .val (.int x8), .val (.int x9), .val (.int x10), .val (.int x11), .val (.int x12), .val (.int x13), .val (.int x14), .val (.int x15), .unset, .unset, .unset] [(.int x8)])) _
    refine XS.ifNo X0.here hx rfl (hb hby at_155) rfl ((if0 _ _).trans (feq hc).1) ?_
    exact kt
def f0_149 (x0 : Int32) (x1 : Int32) (x2 : Int32) (x3 : Int32) (x4 : Int32) (x5 : Int32) (x6 : Int32) (x7 : Int32) (x8 : Int32) (x9 : Int32) (x10 : Int32) (x11 : Int32) (x12 : Int32) (x13 : Int32) (x14 : Int32) (x15 : Int32) : Int32 := (f0_163 x0 x1 x2 x3 x4 x5 x6 x7 x8 x9 x10 x11 x12 x13 x14 x15 (2 : Int32))
set_option maxRecDepth 65536 in
set_option maxHeartbeats 40000000 in
theorem b0_149 {p : Program} {l : Launch} {e : Env} {s : State} {m : MethodId} {args : Array Value} {below : List Frame} {meth : Method} {c : Code} {T0 : State} {locs : List Loc} {Z : State} {a0 : Array Value} {h0 : Heap} {n0 : Nat} {P : Option Value → Heap → Prop} (x0 : Int32) (x1 : Int32) (x2 : Int32) (x3 : Int32) (x4 : Int32) (x5 : Int32) (x6 : Int32) (x7 : Int32) (x8 : Int32) (x9 : Int32) (x10 : Int32) (x11 : Int32) (x12 : Int32) (x13 : Int32) (x14 : Int32) (x15 : Int32) (X0 : Stand p l e room_1 s m args below meth c T0 locs 0 0) (hx : p.tables.exec = Jvm.exec) (hZ : Z.Warmed39 s.vm) (hw : ∀ d ∈ tables_1, d.before a0 Z = true) (hby : c.code = code) (hml : c.maxLocals = 19) (hown : s.vm.findClass "com/example/lehre/lehre/TextPositionAdvancePinLaw" = some m.cls) (hret : meth.sig.returnType = some .boolean) (hlk : meth.locks = false) (e0 : T0.heap = h0) (Z0 : n0 ≤ h0.size) (N0 : Fr n0 locs) (hP : ∀ h' : Heap, P (some (.int (f0_149 x0 x1 x2 x3 x4 x5 x6 x7 x8 x9 x10 x11 x12 x13 x14 x15))) h') :
    own_Goes p e below s n0 room_1.cells room_1.slots P (T0.setTop (mkF m 149 #[.val (.int x0), .val (.int x1), .val (.int x2), .val (.int x3), .val (.int x4), .val (.int x5), .val (.int x6), .val (.int x7), .val (.int x8), .val (.int x9), .val (.int x10), .val (.int x11), .val (.int x12), .val (.int x13), .val (.int x14), .val (.int x15), .unset, .unset, .unset] [])) := by
  rw [f0_149] at hP
  refine own_Goes.pre (fun t kt => ?_) (b0_163 x0 x1 x2 x3 x4 x5 x6 x7 x8 x9 x10 x11 x12 x13 x14 x15 (2 : Int32) X0 hx hZ hw hby hml hown hret hlk e0 Z0 N0 hP)
  show Steps p.tables e below (T0.setTop (mkF m 149 #[.val (.int x0), .val (.int x1), .val (.int x2), .val (.int x3), .val (.int x4), .val (.int x5), .val (.int x6), .val (.int x7), .val (.int x8), .val (.int x9), .val (.int x10), .val (.int x11), .val (.int x12), .val (.int x13), .val (.int x14), .val (.int x15), .unset, .unset, .unset] [])) _
  refine XS.iconst X0.here hx rfl (hb hby at_149) ?_
  show Steps p.tables e below (T0.setTop (mkF m 150 #[.val (.int x0), .val (.int x1), .val (.int x2), .val (.int x3), .val (.int x4), .val (.int x5), .val (.int x6), .val (.int x7), .val (.int x8), .val (.int x9), .val (.int x10), .val (.int x11), .val (.int x12), .val (.int x13), .val (.int x14), .val (.int x15), .unset, .unset, .unset] [(.int (2 : Int32))])) _
  refine XS.goto X0.here hx rfl (pc0 := 150) (pc' := 163) rfl (hb hby at_150) (by decide) (by decide) ?_
  exact kt
def f0_144 (x0 : Int32) (x1 : Int32) (x2 : Int32) (x3 : Int32) (x4 : Int32) (x5 : Int32) (x6 : Int32) (x7 : Int32) (x8 : Int32) (x9 : Int32) (x10 : Int32) (x11 : Int32) (x12 : Int32) (x13 : Int32) (x14 : Int32) (x15 : Int32) : Int32 := if x9 = (0 : Int32) then (f0_153 x0 x1 x2 x3 x4 x5 x6 x7 x8 x9 x10 x11 x12 x13 x14 x15) else (f0_149 x0 x1 x2 x3 x4 x5 x6 x7 x8 x9 x10 x11 x12 x13 x14 x15)
set_option maxRecDepth 65536 in
set_option maxHeartbeats 40000000 in
theorem b0_144 {p : Program} {l : Launch} {e : Env} {s : State} {m : MethodId} {args : Array Value} {below : List Frame} {meth : Method} {c : Code} {T0 : State} {locs : List Loc} {Z : State} {a0 : Array Value} {h0 : Heap} {n0 : Nat} {P : Option Value → Heap → Prop} (x0 : Int32) (x1 : Int32) (x2 : Int32) (x3 : Int32) (x4 : Int32) (x5 : Int32) (x6 : Int32) (x7 : Int32) (x8 : Int32) (x9 : Int32) (x10 : Int32) (x11 : Int32) (x12 : Int32) (x13 : Int32) (x14 : Int32) (x15 : Int32) (X0 : Stand p l e room_1 s m args below meth c T0 locs 0 0) (hx : p.tables.exec = Jvm.exec) (hZ : Z.Warmed39 s.vm) (hw : ∀ d ∈ tables_1, d.before a0 Z = true) (hby : c.code = code) (hml : c.maxLocals = 19) (hown : s.vm.findClass "com/example/lehre/lehre/TextPositionAdvancePinLaw" = some m.cls) (hret : meth.sig.returnType = some .boolean) (hlk : meth.locks = false) (e0 : T0.heap = h0) (Z0 : n0 ≤ h0.size) (N0 : Fr n0 locs) (hP : ∀ h' : Heap, P (some (.int (f0_144 x0 x1 x2 x3 x4 x5 x6 x7 x8 x9 x10 x11 x12 x13 x14 x15))) h') :
    own_Goes p e below s n0 room_1.cells room_1.slots P (T0.setTop (mkF m 144 #[.val (.int x0), .val (.int x1), .val (.int x2), .val (.int x3), .val (.int x4), .val (.int x5), .val (.int x6), .val (.int x7), .val (.int x8), .val (.int x9), .val (.int x10), .val (.int x11), .val (.int x12), .val (.int x13), .val (.int x14), .val (.int x15), .unset, .unset, .unset] [])) := by
  have pre1 : ∀ t, Steps p.tables e below (T0.setTop (mkF m 146 #[.val (.int x0), .val (.int x1), .val (.int x2), .val (.int x3), .val (.int x4), .val (.int x5), .val (.int x6), .val (.int x7), .val (.int x8), .val (.int x9), .val (.int x10), .val (.int x11), .val (.int x12), .val (.int x13), .val (.int x14), .val (.int x15), .unset, .unset, .unset] [(.int x9)])) t → Steps p.tables e below (T0.setTop (mkF m 144 #[.val (.int x0), .val (.int x1), .val (.int x2), .val (.int x3), .val (.int x4), .val (.int x5), .val (.int x6), .val (.int x7), .val (.int x8), .val (.int x9), .val (.int x10), .val (.int x11), .val (.int x12), .val (.int x13), .val (.int x14), .val (.int x15), .unset, .unset, .unset] [])) t := fun t kt => by
    show Steps p.tables e below (T0.setTop (mkF m 144 #[.val (.int x0), .val (.int x1), .val (.int x2), .val (.int x3), .val (.int x4), .val (.int x5), .val (.int x6), .val (.int x7), .val (.int x8), .val (.int x9), .val (.int x10), .val (.int x11), .val (.int x12), .val (.int x13), .val (.int x14), .val (.int x15), .unset, .unset, .unset] [])) _
    refine XS.iload X0.here hx rfl (hb hby at_144) rfl ?_
    exact kt
  refine own_Goes.pre pre1 ?_
  by_cases hc : x9 = (0 : Int32)
  · rw [f0_144, if_pos hc] at hP
    refine own_Goes.pre (fun t kt => ?_) (b0_153 x0 x1 x2 x3 x4 x5 x6 x7 x8 x9 x10 x11 x12 x13 x14 x15 X0 hx hZ hw hby hml hown hret hlk e0 Z0 N0 hP)
    show Steps p.tables e below (T0.setTop (mkF m 146 #[.val (.int x0), .val (.int x1), .val (.int x2), .val (.int x3), .val (.int x4), .val (.int x5), .val (.int x6), .val (.int x7), .val (.int x8), .val (.int x9), .val (.int x10), .val (.int x11), .val (.int x12), .val (.int x13), .val (.int x14), .val (.int x15), .unset, .unset, .unset] [(.int x9)])) _
    refine XS.ifYes X0.here hx rfl (pc0 := 146) (pc' := 153) rfl (hb hby at_146) rfl ((if0 _ _).trans (teq hc).1) (by decide) (by decide) ?_
    exact kt
  · rw [f0_144, if_neg hc] at hP
    refine own_Goes.pre (fun t kt => ?_) (b0_149 x0 x1 x2 x3 x4 x5 x6 x7 x8 x9 x10 x11 x12 x13 x14 x15 X0 hx hZ hw hby hml hown hret hlk e0 Z0 N0 hP)
    show Steps p.tables e below (T0.setTop (mkF m 146 #[.val (.int x0), .val (.int x1), .val (.int x2), .val (.int x3), .val (.int x4), .val (.int x5), .val (.int x6), .val (.int x7), .val (.int x8), .val (.int x9), .val (.int x10), .val (.int x11), .val (.int x12), .val (.int x13), .val (.int x14), .val (.int x15), .unset, .unset, .unset] [(.int x9)])) _
    refine XS.ifNo X0.here hx rfl (hb hby at_146) rfl ((if0 _ _).trans (feq hc).1) ?_
    exact kt
def f0_140 (x0 : Int32) (x1 : Int32) (x2 : Int32) (x3 : Int32) (x4 : Int32) (x5 : Int32) (x6 : Int32) (x7 : Int32) (x8 : Int32) (x9 : Int32) (x10 : Int32) (x11 : Int32) (x12 : Int32) (x13 : Int32) (x14 : Int32) (x15 : Int32) : Int32 := (f0_163 x0 x1 x2 x3 x4 x5 x6 x7 x8 x9 x10 x11 x12 x13 x14 x15 (1 : Int32))
set_option maxRecDepth 65536 in
set_option maxHeartbeats 40000000 in
theorem b0_140 {p : Program} {l : Launch} {e : Env} {s : State} {m : MethodId} {args : Array Value} {below : List Frame} {meth : Method} {c : Code} {T0 : State} {locs : List Loc} {Z : State} {a0 : Array Value} {h0 : Heap} {n0 : Nat} {P : Option Value → Heap → Prop} (x0 : Int32) (x1 : Int32) (x2 : Int32) (x3 : Int32) (x4 : Int32) (x5 : Int32) (x6 : Int32) (x7 : Int32) (x8 : Int32) (x9 : Int32) (x10 : Int32) (x11 : Int32) (x12 : Int32) (x13 : Int32) (x14 : Int32) (x15 : Int32) (X0 : Stand p l e room_1 s m args below meth c T0 locs 0 0) (hx : p.tables.exec = Jvm.exec) (hZ : Z.Warmed39 s.vm) (hw : ∀ d ∈ tables_1, d.before a0 Z = true) (hby : c.code = code) (hml : c.maxLocals = 19) (hown : s.vm.findClass "com/example/lehre/lehre/TextPositionAdvancePinLaw" = some m.cls) (hret : meth.sig.returnType = some .boolean) (hlk : meth.locks = false) (e0 : T0.heap = h0) (Z0 : n0 ≤ h0.size) (N0 : Fr n0 locs) (hP : ∀ h' : Heap, P (some (.int (f0_140 x0 x1 x2 x3 x4 x5 x6 x7 x8 x9 x10 x11 x12 x13 x14 x15))) h') :
    own_Goes p e below s n0 room_1.cells room_1.slots P (T0.setTop (mkF m 140 #[.val (.int x0), .val (.int x1), .val (.int x2), .val (.int x3), .val (.int x4), .val (.int x5), .val (.int x6), .val (.int x7), .val (.int x8), .val (.int x9), .val (.int x10), .val (.int x11), .val (.int x12), .val (.int x13), .val (.int x14), .val (.int x15), .unset, .unset, .unset] [])) := by
  rw [f0_140] at hP
  refine own_Goes.pre (fun t kt => ?_) (b0_163 x0 x1 x2 x3 x4 x5 x6 x7 x8 x9 x10 x11 x12 x13 x14 x15 (1 : Int32) X0 hx hZ hw hby hml hown hret hlk e0 Z0 N0 hP)
  show Steps p.tables e below (T0.setTop (mkF m 140 #[.val (.int x0), .val (.int x1), .val (.int x2), .val (.int x3), .val (.int x4), .val (.int x5), .val (.int x6), .val (.int x7), .val (.int x8), .val (.int x9), .val (.int x10), .val (.int x11), .val (.int x12), .val (.int x13), .val (.int x14), .val (.int x15), .unset, .unset, .unset] [])) _
  refine XS.iconst X0.here hx rfl (hb hby at_140) ?_
  show Steps p.tables e below (T0.setTop (mkF m 141 #[.val (.int x0), .val (.int x1), .val (.int x2), .val (.int x3), .val (.int x4), .val (.int x5), .val (.int x6), .val (.int x7), .val (.int x8), .val (.int x9), .val (.int x10), .val (.int x11), .val (.int x12), .val (.int x13), .val (.int x14), .val (.int x15), .unset, .unset, .unset] [(.int (1 : Int32))])) _
  refine XS.goto X0.here hx rfl (pc0 := 141) (pc' := 163) rfl (hb hby at_141) (by decide) (by decide) ?_
  exact kt
def f0_133 (x0 : Int32) (x1 : Int32) (x2 : Int32) (x3 : Int32) (x4 : Int32) (x5 : Int32) (x6 : Int32) (x7 : Int32) (x8 : Int32) (x9 : Int32) (x10 : Int32) (x11 : Int32) (x12 : Int32) (x13 : Int32) (x14 : Int32) (y0 : Int32) : Int32 := if x10 = (0 : Int32) then (f0_144 x0 x1 x2 x3 x4 x5 x6 x7 x8 x9 x10 x11 x12 x13 x14 y0) else (f0_140 x0 x1 x2 x3 x4 x5 x6 x7 x8 x9 x10 x11 x12 x13 x14 y0)
set_option maxRecDepth 65536 in
set_option maxHeartbeats 40000000 in
theorem b0_133 {p : Program} {l : Launch} {e : Env} {s : State} {m : MethodId} {args : Array Value} {below : List Frame} {meth : Method} {c : Code} {T0 : State} {locs : List Loc} {Z : State} {a0 : Array Value} {h0 : Heap} {n0 : Nat} {P : Option Value → Heap → Prop} (x0 : Int32) (x1 : Int32) (x2 : Int32) (x3 : Int32) (x4 : Int32) (x5 : Int32) (x6 : Int32) (x7 : Int32) (x8 : Int32) (x9 : Int32) (x10 : Int32) (x11 : Int32) (x12 : Int32) (x13 : Int32) (x14 : Int32) (y0 : Int32) (X0 : Stand p l e room_1 s m args below meth c T0 locs 0 0) (hx : p.tables.exec = Jvm.exec) (hZ : Z.Warmed39 s.vm) (hw : ∀ d ∈ tables_1, d.before a0 Z = true) (hby : c.code = code) (hml : c.maxLocals = 19) (hown : s.vm.findClass "com/example/lehre/lehre/TextPositionAdvancePinLaw" = some m.cls) (hret : meth.sig.returnType = some .boolean) (hlk : meth.locks = false) (e0 : T0.heap = h0) (Z0 : n0 ≤ h0.size) (N0 : Fr n0 locs) (hP : ∀ h' : Heap, P (some (.int (f0_133 x0 x1 x2 x3 x4 x5 x6 x7 x8 x9 x10 x11 x12 x13 x14 y0))) h') :
    own_Goes p e below s n0 room_1.cells room_1.slots P (T0.setTop (mkF m 133 #[.val (.int x0), .val (.int x1), .val (.int x2), .val (.int x3), .val (.int x4), .val (.int x5), .val (.int x6), .val (.int x7), .val (.int x8), .val (.int x9), .val (.int x10), .val (.int x11), .val (.int x12), .val (.int x13), .val (.int x14), .unset, .unset, .unset, .unset] [(.int y0)])) := by
  have pre1 : ∀ t, Steps p.tables e below (T0.setTop (mkF m 137 #[.val (.int x0), .val (.int x1), .val (.int x2), .val (.int x3), .val (.int x4), .val (.int x5), .val (.int x6), .val (.int x7), .val (.int x8), .val (.int x9), .val (.int x10), .val (.int x11), .val (.int x12), .val (.int x13), .val (.int x14), .val (.int y0), .unset, .unset, .unset] [(.int x10)])) t → Steps p.tables e below (T0.setTop (mkF m 133 #[.val (.int x0), .val (.int x1), .val (.int x2), .val (.int x3), .val (.int x4), .val (.int x5), .val (.int x6), .val (.int x7), .val (.int x8), .val (.int x9), .val (.int x10), .val (.int x11), .val (.int x12), .val (.int x13), .val (.int x14), .unset, .unset, .unset, .unset] [(.int y0)])) t := fun t kt => by
    show Steps p.tables e below (T0.setTop (mkF m 133 #[.val (.int x0), .val (.int x1), .val (.int x2), .val (.int x3), .val (.int x4), .val (.int x5), .val (.int x6), .val (.int x7), .val (.int x8), .val (.int x9), .val (.int x10), .val (.int x11), .val (.int x12), .val (.int x13), .val (.int x14), .unset, .unset, .unset, .unset] [(.int y0)])) _
    refine XS.istore X0.here hx rfl (hb hby at_133) rfl (l' := #[.val (.int x0), .val (.int x1), .val (.int x2), .val (.int x3), .val (.int x4), .val (.int x5), .val (.int x6), .val (.int x7), .val (.int x8), .val (.int x9), .val (.int x10), .val (.int x11), .val (.int x12), .val (.int x13), .val (.int x14), .val (.int y0), .unset, .unset, .unset]) rfl ?_
    show Steps p.tables e below (T0.setTop (mkF m 135 #[.val (.int x0), .val (.int x1), .val (.int x2), .val (.int x3), .val (.int x4), .val (.int x5), .val (.int x6), .val (.int x7), .val (.int x8), .val (.int x9), .val (.int x10), .val (.int x11), .val (.int x12), .val (.int x13), .val (.int x14), .val (.int y0), .unset, .unset, .unset] [])) _
    refine XS.iload X0.here hx rfl (hb hby at_135) rfl ?_
    exact kt
  refine own_Goes.pre pre1 ?_
  by_cases hc : x10 = (0 : Int32)
  · rw [f0_133, if_pos hc] at hP
    refine own_Goes.pre (fun t kt => ?_) (b0_144 x0 x1 x2 x3 x4 x5 x6 x7 x8 x9 x10 x11 x12 x13 x14 y0 X0 hx hZ hw hby hml hown hret hlk e0 Z0 N0 hP)
    show Steps p.tables e below (T0.setTop (mkF m 137 #[.val (.int x0), .val (.int x1), .val (.int x2), .val (.int x3), .val (.int x4), .val (.int x5), .val (.int x6), .val (.int x7), .val (.int x8), .val (.int x9), .val (.int x10), .val (.int x11), .val (.int x12), .val (.int x13), .val (.int x14), .val (.int y0), .unset, .unset, .unset] [(.int x10)])) _
    refine XS.ifYes X0.here hx rfl (pc0 := 137) (pc' := 144) rfl (hb hby at_137) rfl ((if0 _ _).trans (teq hc).1) (by decide) (by decide) ?_
    exact kt
  · rw [f0_133, if_neg hc] at hP
    refine own_Goes.pre (fun t kt => ?_) (b0_140 x0 x1 x2 x3 x4 x5 x6 x7 x8 x9 x10 x11 x12 x13 x14 y0 X0 hx hZ hw hby hml hown hret hlk e0 Z0 N0 hP)
    show Steps p.tables e below (T0.setTop (mkF m 137 #[.val (.int x0), .val (.int x1), .val (.int x2), .val (.int x3), .val (.int x4), .val (.int x5), .val (.int x6), .val (.int x7), .val (.int x8), .val (.int x9), .val (.int x10), .val (.int x11), .val (.int x12), .val (.int x13), .val (.int x14), .val (.int y0), .unset, .unset, .unset] [(.int x10)])) _
    refine XS.ifNo X0.here hx rfl (hb hby at_137) rfl ((if0 _ _).trans (feq hc).1) ?_
    exact kt
def f0_132 (x0 : Int32) (x1 : Int32) (x2 : Int32) (x3 : Int32) (x4 : Int32) (x5 : Int32) (x6 : Int32) (x7 : Int32) (x8 : Int32) (x9 : Int32) (x10 : Int32) (x11 : Int32) (x12 : Int32) (x13 : Int32) (x14 : Int32) : Int32 := (f0_133 x0 x1 x2 x3 x4 x5 x6 x7 x8 x9 x10 x11 x12 x13 x14 (3 : Int32))
set_option maxRecDepth 65536 in
set_option maxHeartbeats 40000000 in
theorem b0_132 {p : Program} {l : Launch} {e : Env} {s : State} {m : MethodId} {args : Array Value} {below : List Frame} {meth : Method} {c : Code} {T0 : State} {locs : List Loc} {Z : State} {a0 : Array Value} {h0 : Heap} {n0 : Nat} {P : Option Value → Heap → Prop} (x0 : Int32) (x1 : Int32) (x2 : Int32) (x3 : Int32) (x4 : Int32) (x5 : Int32) (x6 : Int32) (x7 : Int32) (x8 : Int32) (x9 : Int32) (x10 : Int32) (x11 : Int32) (x12 : Int32) (x13 : Int32) (x14 : Int32) (X0 : Stand p l e room_1 s m args below meth c T0 locs 0 0) (hx : p.tables.exec = Jvm.exec) (hZ : Z.Warmed39 s.vm) (hw : ∀ d ∈ tables_1, d.before a0 Z = true) (hby : c.code = code) (hml : c.maxLocals = 19) (hown : s.vm.findClass "com/example/lehre/lehre/TextPositionAdvancePinLaw" = some m.cls) (hret : meth.sig.returnType = some .boolean) (hlk : meth.locks = false) (e0 : T0.heap = h0) (Z0 : n0 ≤ h0.size) (N0 : Fr n0 locs) (hP : ∀ h' : Heap, P (some (.int (f0_132 x0 x1 x2 x3 x4 x5 x6 x7 x8 x9 x10 x11 x12 x13 x14))) h') :
    own_Goes p e below s n0 room_1.cells room_1.slots P (T0.setTop (mkF m 132 #[.val (.int x0), .val (.int x1), .val (.int x2), .val (.int x3), .val (.int x4), .val (.int x5), .val (.int x6), .val (.int x7), .val (.int x8), .val (.int x9), .val (.int x10), .val (.int x11), .val (.int x12), .val (.int x13), .val (.int x14), .unset, .unset, .unset, .unset] [])) := by
  rw [f0_132] at hP
  refine own_Goes.pre (fun t kt => ?_) (b0_133 x0 x1 x2 x3 x4 x5 x6 x7 x8 x9 x10 x11 x12 x13 x14 (3 : Int32) X0 hx hZ hw hby hml hown hret hlk e0 Z0 N0 hP)
  show Steps p.tables e below (T0.setTop (mkF m 132 #[.val (.int x0), .val (.int x1), .val (.int x2), .val (.int x3), .val (.int x4), .val (.int x5), .val (.int x6), .val (.int x7), .val (.int x8), .val (.int x9), .val (.int x10), .val (.int x11), .val (.int x12), .val (.int x13), .val (.int x14), .unset, .unset, .unset, .unset] [])) _
  refine XS.iconst X0.here hx rfl (hb hby at_132) ?_
  exact kt
def f0_128 (x0 : Int32) (x1 : Int32) (x2 : Int32) (x3 : Int32) (x4 : Int32) (x5 : Int32) (x6 : Int32) (x7 : Int32) (x8 : Int32) (x9 : Int32) (x10 : Int32) (x11 : Int32) (x12 : Int32) (x13 : Int32) (x14 : Int32) : Int32 := (f0_133 x0 x1 x2 x3 x4 x5 x6 x7 x8 x9 x10 x11 x12 x13 x14 (2 : Int32))
set_option maxRecDepth 65536 in
set_option maxHeartbeats 40000000 in
theorem b0_128 {p : Program} {l : Launch} {e : Env} {s : State} {m : MethodId} {args : Array Value} {below : List Frame} {meth : Method} {c : Code} {T0 : State} {locs : List Loc} {Z : State} {a0 : Array Value} {h0 : Heap} {n0 : Nat} {P : Option Value → Heap → Prop} (x0 : Int32) (x1 : Int32) (x2 : Int32) (x3 : Int32) (x4 : Int32) (x5 : Int32) (x6 : Int32) (x7 : Int32) (x8 : Int32) (x9 : Int32) (x10 : Int32) (x11 : Int32) (x12 : Int32) (x13 : Int32) (x14 : Int32) (X0 : Stand p l e room_1 s m args below meth c T0 locs 0 0) (hx : p.tables.exec = Jvm.exec) (hZ : Z.Warmed39 s.vm) (hw : ∀ d ∈ tables_1, d.before a0 Z = true) (hby : c.code = code) (hml : c.maxLocals = 19) (hown : s.vm.findClass "com/example/lehre/lehre/TextPositionAdvancePinLaw" = some m.cls) (hret : meth.sig.returnType = some .boolean) (hlk : meth.locks = false) (e0 : T0.heap = h0) (Z0 : n0 ≤ h0.size) (N0 : Fr n0 locs) (hP : ∀ h' : Heap, P (some (.int (f0_128 x0 x1 x2 x3 x4 x5 x6 x7 x8 x9 x10 x11 x12 x13 x14))) h') :
    own_Goes p e below s n0 room_1.cells room_1.slots P (T0.setTop (mkF m 128 #[.val (.int x0), .val (.int x1), .val (.int x2), .val (.int x3), .val (.int x4), .val (.int x5), .val (.int x6), .val (.int x7), .val (.int x8), .val (.int x9), .val (.int x10), .val (.int x11), .val (.int x12), .val (.int x13), .val (.int x14), .unset, .unset, .unset, .unset] [])) := by
  rw [f0_128] at hP
  refine own_Goes.pre (fun t kt => ?_) (b0_133 x0 x1 x2 x3 x4 x5 x6 x7 x8 x9 x10 x11 x12 x13 x14 (2 : Int32) X0 hx hZ hw hby hml hown hret hlk e0 Z0 N0 hP)
  show Steps p.tables e below (T0.setTop (mkF m 128 #[.val (.int x0), .val (.int x1), .val (.int x2), .val (.int x3), .val (.int x4), .val (.int x5), .val (.int x6), .val (.int x7), .val (.int x8), .val (.int x9), .val (.int x10), .val (.int x11), .val (.int x12), .val (.int x13), .val (.int x14), .unset, .unset, .unset, .unset] [])) _
  refine XS.iconst X0.here hx rfl (hb hby at_128) ?_
  show Steps p.tables e below (T0.setTop (mkF m 129 #[.val (.int x0), .val (.int x1), .val (.int x2), .val (.int x3), .val (.int x4), .val (.int x5), .val (.int x6), .val (.int x7), .val (.int x8), .val (.int x9), .val (.int x10), .val (.int x11), .val (.int x12), .val (.int x13), .val (.int x14), .unset, .unset, .unset, .unset] [(.int (2 : Int32))])) _
  refine XS.goto X0.here hx rfl (pc0 := 129) (pc' := 133) rfl (hb hby at_129) (by decide) (by decide) ?_
  exact kt
def f0_123 (x0 : Int32) (x1 : Int32) (x2 : Int32) (x3 : Int32) (x4 : Int32) (x5 : Int32) (x6 : Int32) (x7 : Int32) (x8 : Int32) (x9 : Int32) (x10 : Int32) (x11 : Int32) (x12 : Int32) (x13 : Int32) (x14 : Int32) : Int32 := if x8 = (0 : Int32) then (f0_132 x0 x1 x2 x3 x4 x5 x6 x7 x8 x9 x10 x11 x12 x13 x14) else (f0_128 x0 x1 x2 x3 x4 x5 x6 x7 x8 x9 x10 x11 x12 x13 x14)
set_option maxRecDepth 65536 in
set_option maxHeartbeats 40000000 in
theorem b0_123 {p : Program} {l : Launch} {e : Env} {s : State} {m : MethodId} {args : Array Value} {below : List Frame} {meth : Method} {c : Code} {T0 : State} {locs : List Loc} {Z : State} {a0 : Array Value} {h0 : Heap} {n0 : Nat} {P : Option Value → Heap → Prop} (x0 : Int32) (x1 : Int32) (x2 : Int32) (x3 : Int32) (x4 : Int32) (x5 : Int32) (x6 : Int32) (x7 : Int32) (x8 : Int32) (x9 : Int32) (x10 : Int32) (x11 : Int32) (x12 : Int32) (x13 : Int32) (x14 : Int32) (X0 : Stand p l e room_1 s m args below meth c T0 locs 0 0) (hx : p.tables.exec = Jvm.exec) (hZ : Z.Warmed39 s.vm) (hw : ∀ d ∈ tables_1, d.before a0 Z = true) (hby : c.code = code) (hml : c.maxLocals = 19) (hown : s.vm.findClass "com/example/lehre/lehre/TextPositionAdvancePinLaw" = some m.cls) (hret : meth.sig.returnType = some .boolean) (hlk : meth.locks = false) (e0 : T0.heap = h0) (Z0 : n0 ≤ h0.size) (N0 : Fr n0 locs) (hP : ∀ h' : Heap, P (some (.int (f0_123 x0 x1 x2 x3 x4 x5 x6 x7 x8 x9 x10 x11 x12 x13 x14))) h') :
    own_Goes p e below s n0 room_1.cells room_1.slots P (T0.setTop (mkF m 123 #[.val (.int x0), .val (.int x1), .val (.int x2), .val (.int x3), .val (.int x4), .val (.int x5), .val (.int x6), .val (.int x7), .val (.int x8), .val (.int x9), .val (.int x10), .val (.int x11), .val (.int x12), .val (.int x13), .val (.int x14), .unset, .unset, .unset, .unset] [])) := by
  have pre1 : ∀ t, Steps p.tables e below (T0.setTop (mkF m 125 #[.val (.int x0), .val (.int x1), .val (.int x2), .val (.int x3), .val (.int x4), .val (.int x5), .val (.int x6), .val (.int x7), .val (.int x8), .val (.int x9), .val (.int x10), .val (.int x11), .val (.int x12), .val (.int x13), .val (.int x14), .unset, .unset, .unset, .unset] [(.int x8)])) t → Steps p.tables e below (T0.setTop (mkF m 123 #[.val (.int x0), .val (.int x1), .val (.int x2), .val (.int x3), .val (.int x4), .val (.int x5), .val (.int x6), .val (.int x7), .val (.int x8), .val (.int x9), .val (.int x10), .val (.int x11), .val (.int x12), .val (.int x13), .val (.int x14), .unset, .unset, .unset, .unset] [])) t := fun t kt => by
    show Steps p.tables e below (T0.setTop (mkF m 123 #[.val (.int x0), .val (.int x1), .val (.int x2), .val (.int x3), .val (.int x4), .val (.int x5), .val (.int x6), .val (.int x7), .val (.int x8), .val (.int x9), .val (.int x10), .val (.int x11), .val (.int x12), .val (.int x13), .val (.int x14), .unset, .unset, .unset, .unset] [])) _
    refine XS.iload X0.here hx rfl (hb hby at_123) rfl ?_
    exact kt
  refine own_Goes.pre pre1 ?_
  by_cases hc : x8 = (0 : Int32)
  · rw [f0_123, if_pos hc] at hP
    refine own_Goes.pre (fun t kt => ?_) (b0_132 x0 x1 x2 x3 x4 x5 x6 x7 x8 x9 x10 x11 x12 x13 x14 X0 hx hZ hw hby hml hown hret hlk e0 Z0 N0 hP)
    show Steps p.tables e below (T0.setTop (mkF m 125 #[.val (.int x0), .val (.int x1), .val (.int x2), .val (.int x3), .val (.int x4), .val (.int x5), .val (.int x6), .val (.int x7), .val (.int x8), .val (.int x9), .val (.int x10), .val (.int x11), .val (.int x12), .val (.int x13), .val (.int x14), .unset, .unset, .unset, .unset] [(.int x8)])) _
    refine XS.ifYes X0.here hx rfl (pc0 := 125) (pc' := 132) rfl (hb hby at_125) rfl ((if0 _ _).trans (teq hc).1) (by decide) (by decide) ?_
    exact kt
  · rw [f0_123, if_neg hc] at hP
    refine own_Goes.pre (fun t kt => ?_) (b0_128 x0 x1 x2 x3 x4 x5 x6 x7 x8 x9 x10 x11 x12 x13 x14 X0 hx hZ hw hby hml hown hret hlk e0 Z0 N0 hP)
    show Steps p.tables e below (T0.setTop (mkF m 125 #[.val (.int x0), .val (.int x1), .val (.int x2), .val (.int x3), .val (.int x4), .val (.int x5), .val (.int x6), .val (.int x7), .val (.int x8), .val (.int x9), .val (.int x10), .val (.int x11), .val (.int x12), .val (.int x13), .val (.int x14), .unset, .unset, .unset, .unset] [(.int x8)])) _
    refine XS.ifNo X0.here hx rfl (hb hby at_125) rfl ((if0 _ _).trans (feq hc).1) ?_
    exact kt
def f0_119 (x0 : Int32) (x1 : Int32) (x2 : Int32) (x3 : Int32) (x4 : Int32) (x5 : Int32) (x6 : Int32) (x7 : Int32) (x8 : Int32) (x9 : Int32) (x10 : Int32) (x11 : Int32) (x12 : Int32) (x13 : Int32) (x14 : Int32) : Int32 := (f0_133 x0 x1 x2 x3 x4 x5 x6 x7 x8 x9 x10 x11 x12 x13 x14 (1 : Int32))
set_option maxRecDepth 65536 in
set_option maxHeartbeats 40000000 in
theorem b0_119 {p : Program} {l : Launch} {e : Env} {s : State} {m : MethodId} {args : Array Value} {below : List Frame} {meth : Method} {c : Code} {T0 : State} {locs : List Loc} {Z : State} {a0 : Array Value} {h0 : Heap} {n0 : Nat} {P : Option Value → Heap → Prop} (x0 : Int32) (x1 : Int32) (x2 : Int32) (x3 : Int32) (x4 : Int32) (x5 : Int32) (x6 : Int32) (x7 : Int32) (x8 : Int32) (x9 : Int32) (x10 : Int32) (x11 : Int32) (x12 : Int32) (x13 : Int32) (x14 : Int32) (X0 : Stand p l e room_1 s m args below meth c T0 locs 0 0) (hx : p.tables.exec = Jvm.exec) (hZ : Z.Warmed39 s.vm) (hw : ∀ d ∈ tables_1, d.before a0 Z = true) (hby : c.code = code) (hml : c.maxLocals = 19) (hown : s.vm.findClass "com/example/lehre/lehre/TextPositionAdvancePinLaw" = some m.cls) (hret : meth.sig.returnType = some .boolean) (hlk : meth.locks = false) (e0 : T0.heap = h0) (Z0 : n0 ≤ h0.size) (N0 : Fr n0 locs) (hP : ∀ h' : Heap, P (some (.int (f0_119 x0 x1 x2 x3 x4 x5 x6 x7 x8 x9 x10 x11 x12 x13 x14))) h') :
    own_Goes p e below s n0 room_1.cells room_1.slots P (T0.setTop (mkF m 119 #[.val (.int x0), .val (.int x1), .val (.int x2), .val (.int x3), .val (.int x4), .val (.int x5), .val (.int x6), .val (.int x7), .val (.int x8), .val (.int x9), .val (.int x10), .val (.int x11), .val (.int x12), .val (.int x13), .val (.int x14), .unset, .unset, .unset, .unset] [])) := by
  rw [f0_119] at hP
  refine own_Goes.pre (fun t kt => ?_) (b0_133 x0 x1 x2 x3 x4 x5 x6 x7 x8 x9 x10 x11 x12 x13 x14 (1 : Int32) X0 hx hZ hw hby hml hown hret hlk e0 Z0 N0 hP)
  show Steps p.tables e below (T0.setTop (mkF m 119 #[.val (.int x0), .val (.int x1), .val (.int x2), .val (.int x3), .val (.int x4), .val (.int x5), .val (.int x6), .val (.int x7), .val (.int x8), .val (.int x9), .val (.int x10), .val (.int x11), .val (.int x12), .val (.int x13), .val (.int x14), .unset, .unset, .unset, .unset] [])) _
  refine XS.iconst X0.here hx rfl (hb hby at_119) ?_
  show Steps p.tables e below (T0.setTop (mkF m 120 #[.val (.int x0), .val (.int x1), .val (.int x2), .val (.int x3), .val (.int x4), .val (.int x5), .val (.int x6), .val (.int x7), .val (.int x8), .val (.int x9), .val (.int x10), .val (.int x11), .val (.int x12), .val (.int x13), .val (.int x14), .unset, .unset, .unset, .unset] [(.int (1 : Int32))])) _
  refine XS.goto X0.here hx rfl (pc0 := 120) (pc' := 133) rfl (hb hby at_120) (by decide) (by decide) ?_
  exact kt
def f0_112 (x0 : Int32) (x1 : Int32) (x2 : Int32) (x3 : Int32) (x4 : Int32) (x5 : Int32) (x6 : Int32) (x7 : Int32) (x8 : Int32) (x9 : Int32) (x10 : Int32) (x11 : Int32) (x12 : Int32) (x13 : Int32) (y0 : Int32) : Int32 := if x9 = (0 : Int32) then (f0_123 x0 x1 x2 x3 x4 x5 x6 x7 x8 x9 x10 x11 x12 x13 y0) else (f0_119 x0 x1 x2 x3 x4 x5 x6 x7 x8 x9 x10 x11 x12 x13 y0)
set_option maxRecDepth 65536 in
set_option maxHeartbeats 40000000 in
theorem b0_112 {p : Program} {l : Launch} {e : Env} {s : State} {m : MethodId} {args : Array Value} {below : List Frame} {meth : Method} {c : Code} {T0 : State} {locs : List Loc} {Z : State} {a0 : Array Value} {h0 : Heap} {n0 : Nat} {P : Option Value → Heap → Prop} (x0 : Int32) (x1 : Int32) (x2 : Int32) (x3 : Int32) (x4 : Int32) (x5 : Int32) (x6 : Int32) (x7 : Int32) (x8 : Int32) (x9 : Int32) (x10 : Int32) (x11 : Int32) (x12 : Int32) (x13 : Int32) (y0 : Int32) (X0 : Stand p l e room_1 s m args below meth c T0 locs 0 0) (hx : p.tables.exec = Jvm.exec) (hZ : Z.Warmed39 s.vm) (hw : ∀ d ∈ tables_1, d.before a0 Z = true) (hby : c.code = code) (hml : c.maxLocals = 19) (hown : s.vm.findClass "com/example/lehre/lehre/TextPositionAdvancePinLaw" = some m.cls) (hret : meth.sig.returnType = some .boolean) (hlk : meth.locks = false) (e0 : T0.heap = h0) (Z0 : n0 ≤ h0.size) (N0 : Fr n0 locs) (hP : ∀ h' : Heap, P (some (.int (f0_112 x0 x1 x2 x3 x4 x5 x6 x7 x8 x9 x10 x11 x12 x13 y0))) h') :
    own_Goes p e below s n0 room_1.cells room_1.slots P (T0.setTop (mkF m 112 #[.val (.int x0), .val (.int x1), .val (.int x2), .val (.int x3), .val (.int x4), .val (.int x5), .val (.int x6), .val (.int x7), .val (.int x8), .val (.int x9), .val (.int x10), .val (.int x11), .val (.int x12), .val (.int x13), .unset, .unset, .unset, .unset, .unset] [(.int y0)])) := by
  have pre1 : ∀ t, Steps p.tables e below (T0.setTop (mkF m 116 #[.val (.int x0), .val (.int x1), .val (.int x2), .val (.int x3), .val (.int x4), .val (.int x5), .val (.int x6), .val (.int x7), .val (.int x8), .val (.int x9), .val (.int x10), .val (.int x11), .val (.int x12), .val (.int x13), .val (.int y0), .unset, .unset, .unset, .unset] [(.int x9)])) t → Steps p.tables e below (T0.setTop (mkF m 112 #[.val (.int x0), .val (.int x1), .val (.int x2), .val (.int x3), .val (.int x4), .val (.int x5), .val (.int x6), .val (.int x7), .val (.int x8), .val (.int x9), .val (.int x10), .val (.int x11), .val (.int x12), .val (.int x13), .unset, .unset, .unset, .unset, .unset] [(.int y0)])) t := fun t kt => by
    show Steps p.tables e below (T0.setTop (mkF m 112 #[.val (.int x0), .val (.int x1), .val (.int x2), .val (.int x3), .val (.int x4), .val (.int x5), .val (.int x6), .val (.int x7), .val (.int x8), .val (.int x9), .val (.int x10), .val (.int x11), .val (.int x12), .val (.int x13), .unset, .unset, .unset, .unset, .unset] [(.int y0)])) _
    refine XS.istore X0.here hx rfl (hb hby at_112) rfl (l' := #[.val (.int x0), .val (.int x1), .val (.int x2), .val (.int x3), .val (.int x4), .val (.int x5), .val (.int x6), .val (.int x7), .val (.int x8), .val (.int x9), .val (.int x10), .val (.int x11), .val (.int x12), .val (.int x13), .val (.int y0), .unset, .unset, .unset, .unset]) rfl ?_
    show Steps p.tables e below (T0.setTop (mkF m 114 #[.val (.int x0), .val (.int x1), .val (.int x2), .val (.int x3), .val (.int x4), .val (.int x5), .val (.int x6), .val (.int x7), .val (.int x8), .val (.int x9), .val (.int x10), .val (.int x11), .val (.int x12), .val (.int x13), .val (.int y0), .unset, .unset, .unset, .unset] [])) _
    refine XS.iload X0.here hx rfl (hb hby at_114) rfl ?_
    exact kt
  refine own_Goes.pre pre1 ?_
  by_cases hc : x9 = (0 : Int32)
  · rw [f0_112, if_pos hc] at hP
    refine own_Goes.pre (fun t kt => ?_) (b0_123 x0 x1 x2 x3 x4 x5 x6 x7 x8 x9 x10 x11 x12 x13 y0 X0 hx hZ hw hby hml hown hret hlk e0 Z0 N0 hP)
    show Steps p.tables e below (T0.setTop (mkF m 116 #[.val (.int x0), .val (.int x1), .val (.int x2), .val (.int x3), .val (.int x4), .val (.int x5), .val (.int x6), .val (.int x7), .val (.int x8), .val (.int x9), .val (.int x10), .val (.int x11), .val (.int x12), .val (.int x13), .val (.int y0), .unset, .unset, .unset, .unset] [(.int x9)])) _
    refine XS.ifYes X0.here hx rfl (pc0 := 116) (pc' := 123) rfl (hb hby at_116) rfl ((if0 _ _).trans (teq hc).1) (by decide) (by decide) ?_
    exact kt
  · rw [f0_112, if_neg hc] at hP
    refine own_Goes.pre (fun t kt => ?_) (b0_119 x0 x1 x2 x3 x4 x5 x6 x7 x8 x9 x10 x11 x12 x13 y0 X0 hx hZ hw hby hml hown hret hlk e0 Z0 N0 hP)
    show Steps p.tables e below (T0.setTop (mkF m 116 #[.val (.int x0), .val (.int x1), .val (.int x2), .val (.int x3), .val (.int x4), .val (.int x5), .val (.int x6), .val (.int x7), .val (.int x8), .val (.int x9), .val (.int x10), .val (.int x11), .val (.int x12), .val (.int x13), .val (.int y0), .unset, .unset, .unset, .unset] [(.int x9)])) _
    refine XS.ifNo X0.here hx rfl (hb hby at_116) rfl ((if0 _ _).trans (feq hc).1) ?_
    exact kt
def f0_111 (x0 : Int32) (x1 : Int32) (x2 : Int32) (x3 : Int32) (x4 : Int32) (x5 : Int32) (x6 : Int32) (x7 : Int32) (x8 : Int32) (x9 : Int32) (x10 : Int32) (x11 : Int32) (x12 : Int32) (x13 : Int32) : Int32 := (f0_112 x0 x1 x2 x3 x4 x5 x6 x7 x8 x9 x10 x11 x12 x13 (2 : Int32))
set_option maxRecDepth 65536 in
set_option maxHeartbeats 40000000 in
theorem b0_111 {p : Program} {l : Launch} {e : Env} {s : State} {m : MethodId} {args : Array Value} {below : List Frame} {meth : Method} {c : Code} {T0 : State} {locs : List Loc} {Z : State} {a0 : Array Value} {h0 : Heap} {n0 : Nat} {P : Option Value → Heap → Prop} (x0 : Int32) (x1 : Int32) (x2 : Int32) (x3 : Int32) (x4 : Int32) (x5 : Int32) (x6 : Int32) (x7 : Int32) (x8 : Int32) (x9 : Int32) (x10 : Int32) (x11 : Int32) (x12 : Int32) (x13 : Int32) (X0 : Stand p l e room_1 s m args below meth c T0 locs 0 0) (hx : p.tables.exec = Jvm.exec) (hZ : Z.Warmed39 s.vm) (hw : ∀ d ∈ tables_1, d.before a0 Z = true) (hby : c.code = code) (hml : c.maxLocals = 19) (hown : s.vm.findClass "com/example/lehre/lehre/TextPositionAdvancePinLaw" = some m.cls) (hret : meth.sig.returnType = some .boolean) (hlk : meth.locks = false) (e0 : T0.heap = h0) (Z0 : n0 ≤ h0.size) (N0 : Fr n0 locs) (hP : ∀ h' : Heap, P (some (.int (f0_111 x0 x1 x2 x3 x4 x5 x6 x7 x8 x9 x10 x11 x12 x13))) h') :
    own_Goes p e below s n0 room_1.cells room_1.slots P (T0.setTop (mkF m 111 #[.val (.int x0), .val (.int x1), .val (.int x2), .val (.int x3), .val (.int x4), .val (.int x5), .val (.int x6), .val (.int x7), .val (.int x8), .val (.int x9), .val (.int x10), .val (.int x11), .val (.int x12), .val (.int x13), .unset, .unset, .unset, .unset, .unset] [])) := by
  rw [f0_111] at hP
  refine own_Goes.pre (fun t kt => ?_) (b0_112 x0 x1 x2 x3 x4 x5 x6 x7 x8 x9 x10 x11 x12 x13 (2 : Int32) X0 hx hZ hw hby hml hown hret hlk e0 Z0 N0 hP)
  show Steps p.tables e below (T0.setTop (mkF m 111 #[.val (.int x0), .val (.int x1), .val (.int x2), .val (.int x3), .val (.int x4), .val (.int x5), .val (.int x6), .val (.int x7), .val (.int x8), .val (.int x9), .val (.int x10), .val (.int x11), .val (.int x12), .val (.int x13), .unset, .unset, .unset, .unset, .unset] [])) _
  refine XS.iconst X0.here hx rfl (hb hby at_111) ?_
  exact kt
def f0_107 (x0 : Int32) (x1 : Int32) (x2 : Int32) (x3 : Int32) (x4 : Int32) (x5 : Int32) (x6 : Int32) (x7 : Int32) (x8 : Int32) (x9 : Int32) (x10 : Int32) (x11 : Int32) (x12 : Int32) (x13 : Int32) : Int32 := (f0_112 x0 x1 x2 x3 x4 x5 x6 x7 x8 x9 x10 x11 x12 x13 (1 : Int32))
set_option maxRecDepth 65536 in
set_option maxHeartbeats 40000000 in
theorem b0_107 {p : Program} {l : Launch} {e : Env} {s : State} {m : MethodId} {args : Array Value} {below : List Frame} {meth : Method} {c : Code} {T0 : State} {locs : List Loc} {Z : State} {a0 : Array Value} {h0 : Heap} {n0 : Nat} {P : Option Value → Heap → Prop} (x0 : Int32) (x1 : Int32) (x2 : Int32) (x3 : Int32) (x4 : Int32) (x5 : Int32) (x6 : Int32) (x7 : Int32) (x8 : Int32) (x9 : Int32) (x10 : Int32) (x11 : Int32) (x12 : Int32) (x13 : Int32) (X0 : Stand p l e room_1 s m args below meth c T0 locs 0 0) (hx : p.tables.exec = Jvm.exec) (hZ : Z.Warmed39 s.vm) (hw : ∀ d ∈ tables_1, d.before a0 Z = true) (hby : c.code = code) (hml : c.maxLocals = 19) (hown : s.vm.findClass "com/example/lehre/lehre/TextPositionAdvancePinLaw" = some m.cls) (hret : meth.sig.returnType = some .boolean) (hlk : meth.locks = false) (e0 : T0.heap = h0) (Z0 : n0 ≤ h0.size) (N0 : Fr n0 locs) (hP : ∀ h' : Heap, P (some (.int (f0_107 x0 x1 x2 x3 x4 x5 x6 x7 x8 x9 x10 x11 x12 x13))) h') :
    own_Goes p e below s n0 room_1.cells room_1.slots P (T0.setTop (mkF m 107 #[.val (.int x0), .val (.int x1), .val (.int x2), .val (.int x3), .val (.int x4), .val (.int x5), .val (.int x6), .val (.int x7), .val (.int x8), .val (.int x9), .val (.int x10), .val (.int x11), .val (.int x12), .val (.int x13), .unset, .unset, .unset, .unset, .unset] [])) := by
  rw [f0_107] at hP
  refine own_Goes.pre (fun t kt => ?_) (b0_112 x0 x1 x2 x3 x4 x5 x6 x7 x8 x9 x10 x11 x12 x13 (1 : Int32) X0 hx hZ hw hby hml hown hret hlk e0 Z0 N0 hP)
  show Steps p.tables e below (T0.setTop (mkF m 107 #[.val (.int x0), .val (.int x1), .val (.int x2), .val (.int x3), .val (.int x4), .val (.int x5), .val (.int x6), .val (.int x7), .val (.int x8), .val (.int x9), .val (.int x10), .val (.int x11), .val (.int x12), .val (.int x13), .unset, .unset, .unset, .unset, .unset] [])) _
  refine XS.iconst X0.here hx rfl (hb hby at_107) ?_
  show Steps p.tables e below (T0.setTop (mkF m 108 #[.val (.int x0), .val (.int x1), .val (.int x2), .val (.int x3), .val (.int x4), .val (.int x5), .val (.int x6), .val (.int x7), .val (.int x8), .val (.int x9), .val (.int x10), .val (.int x11), .val (.int x12), .val (.int x13), .unset, .unset, .unset, .unset, .unset] [(.int (1 : Int32))])) _
  refine XS.goto X0.here hx rfl (pc0 := 108) (pc' := 112) rfl (hb hby at_108) (by decide) (by decide) ?_
  exact kt
def f0_102 (x0 : Int32) (x1 : Int32) (x2 : Int32) (x3 : Int32) (x4 : Int32) (x5 : Int32) (x6 : Int32) (x7 : Int32) (x8 : Int32) (x9 : Int32) (x10 : Int32) (x11 : Int32) (x12 : Int32) (x13 : Int32) : Int32 := if x8 = (0 : Int32) then (f0_111 x0 x1 x2 x3 x4 x5 x6 x7 x8 x9 x10 x11 x12 x13) else (f0_107 x0 x1 x2 x3 x4 x5 x6 x7 x8 x9 x10 x11 x12 x13)
set_option maxRecDepth 65536 in
set_option maxHeartbeats 40000000 in
theorem b0_102 {p : Program} {l : Launch} {e : Env} {s : State} {m : MethodId} {args : Array Value} {below : List Frame} {meth : Method} {c : Code} {T0 : State} {locs : List Loc} {Z : State} {a0 : Array Value} {h0 : Heap} {n0 : Nat} {P : Option Value → Heap → Prop} (x0 : Int32) (x1 : Int32) (x2 : Int32) (x3 : Int32) (x4 : Int32) (x5 : Int32) (x6 : Int32) (x7 : Int32) (x8 : Int32) (x9 : Int32) (x10 : Int32) (x11 : Int32) (x12 : Int32) (x13 : Int32) (X0 : Stand p l e room_1 s m args below meth c T0 locs 0 0) (hx : p.tables.exec = Jvm.exec) (hZ : Z.Warmed39 s.vm) (hw : ∀ d ∈ tables_1, d.before a0 Z = true) (hby : c.code = code) (hml : c.maxLocals = 19) (hown : s.vm.findClass "com/example/lehre/lehre/TextPositionAdvancePinLaw" = some m.cls) (hret : meth.sig.returnType = some .boolean) (hlk : meth.locks = false) (e0 : T0.heap = h0) (Z0 : n0 ≤ h0.size) (N0 : Fr n0 locs) (hP : ∀ h' : Heap, P (some (.int (f0_102 x0 x1 x2 x3 x4 x5 x6 x7 x8 x9 x10 x11 x12 x13))) h') :
    own_Goes p e below s n0 room_1.cells room_1.slots P (T0.setTop (mkF m 102 #[.val (.int x0), .val (.int x1), .val (.int x2), .val (.int x3), .val (.int x4), .val (.int x5), .val (.int x6), .val (.int x7), .val (.int x8), .val (.int x9), .val (.int x10), .val (.int x11), .val (.int x12), .val (.int x13), .unset, .unset, .unset, .unset, .unset] [])) := by
  have pre1 : ∀ t, Steps p.tables e below (T0.setTop (mkF m 104 #[.val (.int x0), .val (.int x1), .val (.int x2), .val (.int x3), .val (.int x4), .val (.int x5), .val (.int x6), .val (.int x7), .val (.int x8), .val (.int x9), .val (.int x10), .val (.int x11), .val (.int x12), .val (.int x13), .unset, .unset, .unset, .unset, .unset] [(.int x8)])) t → Steps p.tables e below (T0.setTop (mkF m 102 #[.val (.int x0), .val (.int x1), .val (.int x2), .val (.int x3), .val (.int x4), .val (.int x5), .val (.int x6), .val (.int x7), .val (.int x8), .val (.int x9), .val (.int x10), .val (.int x11), .val (.int x12), .val (.int x13), .unset, .unset, .unset, .unset, .unset] [])) t := fun t kt => by
    show Steps p.tables e below (T0.setTop (mkF m 102 #[.val (.int x0), .val (.int x1), .val (.int x2), .val (.int x3), .val (.int x4), .val (.int x5), .val (.int x6), .val (.int x7), .val (.int x8), .val (.int x9), .val (.int x10), .val (.int x11), .val (.int x12), .val (.int x13), .unset, .unset, .unset, .unset, .unset] [])) _
    refine XS.iload X0.here hx rfl (hb hby at_102) rfl ?_
    exact kt
  refine own_Goes.pre pre1 ?_
  by_cases hc : x8 = (0 : Int32)
  · rw [f0_102, if_pos hc] at hP
    refine own_Goes.pre (fun t kt => ?_) (b0_111 x0 x1 x2 x3 x4 x5 x6 x7 x8 x9 x10 x11 x12 x13 X0 hx hZ hw hby hml hown hret hlk e0 Z0 N0 hP)
    show Steps p.tables e below (T0.setTop (mkF m 104 #[.val (.int x0), .val (.int x1), .val (.int x2), .val (.int x3), .val (.int x4), .val (.int x5), .val (.int x6), .val (.int x7), .val (.int x8), .val (.int x9), .val (.int x10), .val (.int x11), .val (.int x12), .val (.int x13), .unset, .unset, .unset, .unset, .unset] [(.int x8)])) _
    refine XS.ifYes X0.here hx rfl (pc0 := 104) (pc' := 111) rfl (hb hby at_104) rfl ((if0 _ _).trans (teq hc).1) (by decide) (by decide) ?_
    exact kt
  · rw [f0_102, if_neg hc] at hP
    refine own_Goes.pre (fun t kt => ?_) (b0_107 x0 x1 x2 x3 x4 x5 x6 x7 x8 x9 x10 x11 x12 x13 X0 hx hZ hw hby hml hown hret hlk e0 Z0 N0 hP)
    show Steps p.tables e below (T0.setTop (mkF m 104 #[.val (.int x0), .val (.int x1), .val (.int x2), .val (.int x3), .val (.int x4), .val (.int x5), .val (.int x6), .val (.int x7), .val (.int x8), .val (.int x9), .val (.int x10), .val (.int x11), .val (.int x12), .val (.int x13), .unset, .unset, .unset, .unset, .unset] [(.int x8)])) _
    refine XS.ifNo X0.here hx rfl (hb hby at_104) rfl ((if0 _ _).trans (feq hc).1) ?_
    exact kt
def f0_58 (x0 : Int32) (x1 : Int32) (x2 : Int32) (x3 : Int32) (x4 : Int32) (x5 : Int32) (x6 : Int32) (x7 : Int32) (x8 : Int32) (x9 : Int32) (x10 : Int32) : Int32 := (f0_102 x0 x1 x2 x3 x4 x5 x6 x7 x8 x9 x10 ((1 : Int32) + (f3_0 (32 : Int32) (0 : Int32) x5 x4)) (((1 : Int32) + (f3_0 (32 : Int32) (0 : Int32) x5 x4)) + (f3_0 x5 (1 : Int32) x6 x4)) ((((1 : Int32) + (f3_0 (32 : Int32) (0 : Int32) x5 x4)) + (f3_0 x5 (1 : Int32) x6 x4)) + (f3_0 x6 (1 : Int32) x7 x4)))
set_option maxRecDepth 65536 in
set_option maxHeartbeats 40000000 in
theorem b0_58 {p : Program} {l : Launch} {e : Env} {s : State} {m : MethodId} {args : Array Value} {below : List Frame} {meth : Method} {c : Code} {T0 : State} {locs : List Loc} {Z : State} {a0 : Array Value} {h0 : Heap} {n0 : Nat} {P : Option Value → Heap → Prop} (x0 : Int32) (x1 : Int32) (x2 : Int32) (x3 : Int32) (x4 : Int32) (x5 : Int32) (x6 : Int32) (x7 : Int32) (x8 : Int32) (x9 : Int32) (x10 : Int32) (X0 : Stand p l e room_1 s m args below meth c T0 locs 0 0) (hx : p.tables.exec = Jvm.exec) (hZ : Z.Warmed39 s.vm) (hw : ∀ d ∈ tables_1, d.before a0 Z = true) (hby : c.code = code) (hml : c.maxLocals = 19) (hown : s.vm.findClass "com/example/lehre/lehre/TextPositionAdvancePinLaw" = some m.cls) (hret : meth.sig.returnType = some .boolean) (hlk : meth.locks = false) (e0 : T0.heap = h0) (Z0 : n0 ≤ h0.size) (N0 : Fr n0 locs) (hP : ∀ h' : Heap, P (some (.int (f0_58 x0 x1 x2 x3 x4 x5 x6 x7 x8 x9 x10))) h') :
    own_Goes p e below s n0 room_1.cells room_1.slots P (T0.setTop (mkF m 58 #[.val (.int x0), .val (.int x1), .val (.int x2), .val (.int x3), .val (.int x4), .val (.int x5), .val (.int x6), .val (.int x7), .val (.int x8), .val (.int x9), .val (.int x10), .unset, .unset, .unset, .unset, .unset, .unset, .unset, .unset] [])) := by
  obtain ⟨_, _, ⟨T66, L66, k66, n66⟩, -, X66, ⟨Lc66, hQ66, l66, y66, z66⟩, st66⟩ := Jvm.LawKit.callS X0 hx (y := (⟨"com/example/lehre/lehre/TextPositionAdvancePinLaw", "breaks", "(CZCZ)I"⟩ : MethodName)) hown (mvT hZ (hw _ (List.mem_of_getElem? (i := 7) rfl))) (mvT hZ (hw _ (List.mem_of_getElem? (i := 8) rfl))) (mvT hZ (hw _ (List.mem_of_getElem? (i := 2) rfl))) (mvT hZ (hw _ (List.mem_of_getElem? (i := 9) rfl))) (by decide) (backOf (W := 1) (rm3 l Z a0 hw [] (32 : Int32) (0 : Int32) x5 x4 h0 n0 Z0) hZ (hw _ (List.mem_of_getElem? (i := 9) rfl)) (hw _ (List.mem_of_getElem? (i := 2) rfl)) (by decide) (by decide)) (g := (mkF m 66 #[.val (.int x0), .val (.int x1), .val (.int x2), .val (.int x3), .val (.int x4), .val (.int x5), .val (.int x6), .val (.int x7), .val (.int x8), .val (.int x9), .val (.int x10), .unset, .unset, .unset, .unset, .unset, .unset, .unset, .unset] [(.int x4), (.int x5), (.int (0 : Int32)), (.int (32 : Int32)), (.int (1 : Int32))])) rfl (by rw [hml]; rfl) (argsL := [(.int (32 : Int32)), (.int (0 : Int32)), (.int x5), (.int x4)]) (rest := [(.int (1 : Int32))]) (lenOf pd5 rfl) rfl (by show 2 * 0 + _ ≤ _; exact Nat.le_of_eq rfl) (hb hby at_66) (fun _ _ => ⟨rfl, e0, (by decide : 0 + 0 ≤ _), (by decide : 0 + 0 ≤ _)⟩)
  dsimp only [Pt.U, Pt.locs, Pt.cells, Pt.slots] at X66 l66 y66 z66 st66 hQ66
  subst l66 y66 z66
  obtain ⟨⟨rfl, e66⟩, N66q⟩ := hQ66
  have N66 := Fr.app N0 N66q
  obtain ⟨_, _, ⟨T81, L81, k81, n81⟩, -, X81, ⟨Lc81, hQ81, l81, y81, z81⟩, st81⟩ := Jvm.LawKit.callS X66 hx (y := (⟨"com/example/lehre/lehre/TextPositionAdvancePinLaw", "breaks", "(CZCZ)I"⟩ : MethodName)) hown (mvT hZ (hw _ (List.mem_of_getElem? (i := 7) rfl))) (mvT hZ (hw _ (List.mem_of_getElem? (i := 8) rfl))) (mvT hZ (hw _ (List.mem_of_getElem? (i := 2) rfl))) (mvT hZ (hw _ (List.mem_of_getElem? (i := 9) rfl))) (by decide) (backOf (W := 1) (rm3 l Z a0 hw [] x5 (1 : Int32) x6 x4 h0 n0 Z0) hZ (hw _ (List.mem_of_getElem? (i := 9) rfl)) (hw _ (List.mem_of_getElem? (i := 2) rfl)) (by decide) (by decide)) (g := (mkF m 81 #[.val (.int x0), .val (.int x1), .val (.int x2), .val (.int x3), .val (.int x4), .val (.int x5), .val (.int x6), .val (.int x7), .val (.int x8), .val (.int x9), .val (.int x10), .val (.int ((1 : Int32) + (f3_0 (32 : Int32) (0 : Int32) x5 x4))), .unset, .unset, .unset, .unset, .unset, .unset, .unset] [(.int x4), (.int x6), (.int (1 : Int32)), (.int x5), (.int ((1 : Int32) + (f3_0 (32 : Int32) (0 : Int32) x5 x4)))])) rfl (by rw [hml]; rfl) (argsL := [(.int x5), (.int (1 : Int32)), (.int x6), (.int x4)]) (rest := [(.int ((1 : Int32) + (f3_0 (32 : Int32) (0 : Int32) x5 x4)))]) (lenOf pd5 rfl) rfl (by show 2 * 0 + _ ≤ _; exact Nat.le_of_eq rfl) (hb hby at_81) (fun _ _ => ⟨rfl, e66, (by decide : 0 + 0 ≤ _), (by decide : 0 + 0 ≤ _)⟩)
  dsimp only [Pt.U, Pt.locs, Pt.cells, Pt.slots] at X81 l81 y81 z81 st81 hQ81
  subst l81 y81 z81
  obtain ⟨⟨rfl, e81⟩, N81q⟩ := hQ81
  have N81 := Fr.app N66 N81q
  obtain ⟨_, _, ⟨T96, L96, k96, n96⟩, -, X96, ⟨Lc96, hQ96, l96, y96, z96⟩, st96⟩ := Jvm.LawKit.callS X81 hx (y := (⟨"com/example/lehre/lehre/TextPositionAdvancePinLaw", "breaks", "(CZCZ)I"⟩ : MethodName)) hown (mvT hZ (hw _ (List.mem_of_getElem? (i := 7) rfl))) (mvT hZ (hw _ (List.mem_of_getElem? (i := 8) rfl))) (mvT hZ (hw _ (List.mem_of_getElem? (i := 2) rfl))) (mvT hZ (hw _ (List.mem_of_getElem? (i := 9) rfl))) (by decide) (backOf (W := 1) (rm3 l Z a0 hw [] x6 (1 : Int32) x7 x4 h0 n0 Z0) hZ (hw _ (List.mem_of_getElem? (i := 9) rfl)) (hw _ (List.mem_of_getElem? (i := 2) rfl)) (by decide) (by decide)) (g := (mkF m 96 #[.val (.int x0), .val (.int x1), .val (.int x2), .val (.int x3), .val (.int x4), .val (.int x5), .val (.int x6), .val (.int x7), .val (.int x8), .val (.int x9), .val (.int x10), .val (.int ((1 : Int32) + (f3_0 (32 : Int32) (0 : Int32) x5 x4))), .val (.int (((1 : Int32) + (f3_0 (32 : Int32) (0 : Int32) x5 x4)) + (f3_0 x5 (1 : Int32) x6 x4))), .unset, .unset, .unset, .unset, .unset, .unset] [(.int x4), (.int x7), (.int (1 : Int32)), (.int x6), (.int (((1 : Int32) + (f3_0 (32 : Int32) (0 : Int32) x5 x4)) + (f3_0 x5 (1 : Int32) x6 x4)))])) rfl (by rw [hml]; rfl) (argsL := [(.int x6), (.int (1 : Int32)), (.int x7), (.int x4)]) (rest := [(.int (((1 : Int32) + (f3_0 (32 : Int32) (0 : Int32) x5 x4)) + (f3_0 x5 (1 : Int32) x6 x4)))]) (lenOf pd5 rfl) rfl (by show 2 * 0 + _ ≤ _; exact Nat.le_of_eq rfl) (hb hby at_96) (fun _ _ => ⟨rfl, e81, (by decide : 0 + 0 ≤ _), (by decide : 0 + 0 ≤ _)⟩)
  dsimp only [Pt.U, Pt.locs, Pt.cells, Pt.slots] at X96 l96 y96 z96 st96 hQ96
  subst l96 y96 z96
  obtain ⟨⟨rfl, e96⟩, N96q⟩ := hQ96
  have N96 := Fr.app N81 N96q
  rw [f0_58] at hP
  refine own_Goes.pre (fun t kt => ?_) (b0_102 x0 x1 x2 x3 x4 x5 x6 x7 x8 x9 x10 ((1 : Int32) + (f3_0 (32 : Int32) (0 : Int32) x5 x4)) (((1 : Int32) + (f3_0 (32 : Int32) (0 : Int32) x5 x4)) + (f3_0 x5 (1 : Int32) x6 x4)) ((((1 : Int32) + (f3_0 (32 : Int32) (0 : Int32) x5 x4)) + (f3_0 x5 (1 : Int32) x6 x4)) + (f3_0 x6 (1 : Int32) x7 x4)) X96 hx hZ hw hby hml hown hret hlk e96 Z0 N96 hP)
  show Steps p.tables e below (T0.setTop (mkF m 58 #[.val (.int x0), .val (.int x1), .val (.int x2), .val (.int x3), .val (.int x4), .val (.int x5), .val (.int x6), .val (.int x7), .val (.int x8), .val (.int x9), .val (.int x10), .unset, .unset, .unset, .unset, .unset, .unset, .unset, .unset] [])) _
  refine XS.iconst X0.here hx rfl (hb hby at_58) ?_
  show Steps p.tables e below (T0.setTop (mkF m 59 #[.val (.int x0), .val (.int x1), .val (.int x2), .val (.int x3), .val (.int x4), .val (.int x5), .val (.int x6), .val (.int x7), .val (.int x8), .val (.int x9), .val (.int x10), .unset, .unset, .unset, .unset, .unset, .unset, .unset, .unset] [(.int (1 : Int32))])) _
  refine XS.bipush X0.here hx rfl (hb hby at_59) ?_
  show Steps p.tables e below (T0.setTop (mkF m 61 #[.val (.int x0), .val (.int x1), .val (.int x2), .val (.int x3), .val (.int x4), .val (.int x5), .val (.int x6), .val (.int x7), .val (.int x8), .val (.int x9), .val (.int x10), .unset, .unset, .unset, .unset, .unset, .unset, .unset, .unset] [(.int (32 : Int32)), (.int (1 : Int32))])) _
  refine XS.iconst X0.here hx rfl (hb hby at_61) ?_
  show Steps p.tables e below (T0.setTop (mkF m 62 #[.val (.int x0), .val (.int x1), .val (.int x2), .val (.int x3), .val (.int x4), .val (.int x5), .val (.int x6), .val (.int x7), .val (.int x8), .val (.int x9), .val (.int x10), .unset, .unset, .unset, .unset, .unset, .unset, .unset, .unset] [(.int (0 : Int32)), (.int (32 : Int32)), (.int (1 : Int32))])) _
  refine XS.iload X0.here hx rfl (hb hby at_62) rfl ?_
  show Steps p.tables e below (T0.setTop (mkF m 64 #[.val (.int x0), .val (.int x1), .val (.int x2), .val (.int x3), .val (.int x4), .val (.int x5), .val (.int x6), .val (.int x7), .val (.int x8), .val (.int x9), .val (.int x10), .unset, .unset, .unset, .unset, .unset, .unset, .unset, .unset] [(.int x5), (.int (0 : Int32)), (.int (32 : Int32)), (.int (1 : Int32))])) _
  refine XS.iload X0.here hx rfl (hb hby at_64) rfl ?_
  show Steps p.tables e below (T0.setTop (mkF m 66 #[.val (.int x0), .val (.int x1), .val (.int x2), .val (.int x3), .val (.int x4), .val (.int x5), .val (.int x6), .val (.int x7), .val (.int x8), .val (.int x9), .val (.int x10), .unset, .unset, .unset, .unset, .unset, .unset, .unset, .unset] [(.int x4), (.int x5), (.int (0 : Int32)), (.int (32 : Int32)), (.int (1 : Int32))])) _
  refine st66 _ ?_
  show Steps p.tables e below (T66.setTop (mkF m 69 #[.val (.int x0), .val (.int x1), .val (.int x2), .val (.int x3), .val (.int x4), .val (.int x5), .val (.int x6), .val (.int x7), .val (.int x8), .val (.int x9), .val (.int x10), .unset, .unset, .unset, .unset, .unset, .unset, .unset, .unset] [(.int (f3_0 (32 : Int32) (0 : Int32) x5 x4)), (.int (1 : Int32))])) _
  refine XS.iadd X66.here hx rfl (hb hby at_69) rfl ?_
  show Steps p.tables e below (T66.setTop (mkF m 70 #[.val (.int x0), .val (.int x1), .val (.int x2), .val (.int x3), .val (.int x4), .val (.int x5), .val (.int x6), .val (.int x7), .val (.int x8), .val (.int x9), .val (.int x10), .unset, .unset, .unset, .unset, .unset, .unset, .unset, .unset] [(.int ((1 : Int32) + (f3_0 (32 : Int32) (0 : Int32) x5 x4)))])) _
  refine XS.istore X66.here hx rfl (hb hby at_70) rfl (l' := #[.val (.int x0), .val (.int x1), .val (.int x2), .val (.int x3), .val (.int x4), .val (.int x5), .val (.int x6), .val (.int x7), .val (.int x8), .val (.int x9), .val (.int x10), .val (.int ((1 : Int32) + (f3_0 (32 : Int32) (0 : Int32) x5 x4))), .unset, .unset, .unset, .unset, .unset, .unset, .unset]) rfl ?_
  show Steps p.tables e below (T66.setTop (mkF m 72 #[.val (.int x0), .val (.int x1), .val (.int x2), .val (.int x3), .val (.int x4), .val (.int x5), .val (.int x6), .val (.int x7), .val (.int x8), .val (.int x9), .val (.int x10), .val (.int ((1 : Int32) + (f3_0 (32 : Int32) (0 : Int32) x5 x4))), .unset, .unset, .unset, .unset, .unset, .unset, .unset] [])) _
  refine XS.iload X66.here hx rfl (hb hby at_72) rfl ?_
  show Steps p.tables e below (T66.setTop (mkF m 74 #[.val (.int x0), .val (.int x1), .val (.int x2), .val (.int x3), .val (.int x4), .val (.int x5), .val (.int x6), .val (.int x7), .val (.int x8), .val (.int x9), .val (.int x10), .val (.int ((1 : Int32) + (f3_0 (32 : Int32) (0 : Int32) x5 x4))), .unset, .unset, .unset, .unset, .unset, .unset, .unset] [(.int ((1 : Int32) + (f3_0 (32 : Int32) (0 : Int32) x5 x4)))])) _
  refine XS.iload X66.here hx rfl (hb hby at_74) rfl ?_
  show Steps p.tables e below (T66.setTop (mkF m 76 #[.val (.int x0), .val (.int x1), .val (.int x2), .val (.int x3), .val (.int x4), .val (.int x5), .val (.int x6), .val (.int x7), .val (.int x8), .val (.int x9), .val (.int x10), .val (.int ((1 : Int32) + (f3_0 (32 : Int32) (0 : Int32) x5 x4))), .unset, .unset, .unset, .unset, .unset, .unset, .unset] [(.int x5), (.int ((1 : Int32) + (f3_0 (32 : Int32) (0 : Int32) x5 x4)))])) _
  refine XS.iconst X66.here hx rfl (hb hby at_76) ?_
  show Steps p.tables e below (T66.setTop (mkF m 77 #[.val (.int x0), .val (.int x1), .val (.int x2), .val (.int x3), .val (.int x4), .val (.int x5), .val (.int x6), .val (.int x7), .val (.int x8), .val (.int x9), .val (.int x10), .val (.int ((1 : Int32) + (f3_0 (32 : Int32) (0 : Int32) x5 x4))), .unset, .unset, .unset, .unset, .unset, .unset, .unset] [(.int (1 : Int32)), (.int x5), (.int ((1 : Int32) + (f3_0 (32 : Int32) (0 : Int32) x5 x4)))])) _
  refine XS.iload X66.here hx rfl (hb hby at_77) rfl ?_
  show Steps p.tables e below (T66.setTop (mkF m 79 #[.val (.int x0), .val (.int x1), .val (.int x2), .val (.int x3), .val (.int x4), .val (.int x5), .val (.int x6), .val (.int x7), .val (.int x8), .val (.int x9), .val (.int x10), .val (.int ((1 : Int32) + (f3_0 (32 : Int32) (0 : Int32) x5 x4))), .unset, .unset, .unset, .unset, .unset, .unset, .unset] [(.int x6), (.int (1 : Int32)), (.int x5), (.int ((1 : Int32) + (f3_0 (32 : Int32) (0 : Int32) x5 x4)))])) _
  refine XS.iload X66.here hx rfl (hb hby at_79) rfl ?_
  show Steps p.tables e below (T66.setTop (mkF m 81 #[.val (.int x0), .val (.int x1), .val (.int x2), .val (.int x3), .val (.int x4), .val (.int x5), .val (.int x6), .val (.int x7), .val (.int x8), .val (.int x9), .val (.int x10), .val (.int ((1 : Int32) + (f3_0 (32 : Int32) (0 : Int32) x5 x4))), .unset, .unset, .unset, .unset, .unset, .unset, .unset] [(.int x4), (.int x6), (.int (1 : Int32)), (.int x5), (.int ((1 : Int32) + (f3_0 (32 : Int32) (0 : Int32) x5 x4)))])) _
  refine st81 _ ?_
  show Steps p.tables e below (T81.setTop (mkF m 84 #[.val (.int x0), .val (.int x1), .val (.int x2), .val (.int x3), .val (.int x4), .val (.int x5), .val (.int x6), .val (.int x7), .val (.int x8), .val (.int x9), .val (.int x10), .val (.int ((1 : Int32) + (f3_0 (32 : Int32) (0 : Int32) x5 x4))), .unset, .unset, .unset, .unset, .unset, .unset, .unset] [(.int (f3_0 x5 (1 : Int32) x6 x4)), (.int ((1 : Int32) + (f3_0 (32 : Int32) (0 : Int32) x5 x4)))])) _
  refine XS.iadd X81.here hx rfl (hb hby at_84) rfl ?_
  show Steps p.tables e below (T81.setTop (mkF m 85 #[.val (.int x0), .val (.int x1), .val (.int x2), .val (.int x3), .val (.int x4), .val (.int x5), .val (.int x6), .val (.int x7), .val (.int x8), .val (.int x9), .val (.int x10), .val (.int ((1 : Int32) + (f3_0 (32 : Int32) (0 : Int32) x5 x4))), .unset, .unset, .unset, .unset, .unset, .unset, .unset] [(.int (((1 : Int32) + (f3_0 (32 : Int32) (0 : Int32) x5 x4)) + (f3_0 x5 (1 : Int32) x6 x4)))])) _
  refine XS.istore X81.here hx rfl (hb hby at_85) rfl (l' := #[.val (.int x0), .val (.int x1), .val (.int x2), .val (.int x3), .val (.int x4), .val (.int x5), .val (.int x6), .val (.int x7), .val (.int x8), .val (.int x9), .val (.int x10), .val (.int ((1 : Int32) + (f3_0 (32 : Int32) (0 : Int32) x5 x4))), .val (.int (((1 : Int32) + (f3_0 (32 : Int32) (0 : Int32) x5 x4)) + (f3_0 x5 (1 : Int32) x6 x4))), .unset, .unset, .unset, .unset, .unset, .unset]) rfl ?_
  show Steps p.tables e below (T81.setTop (mkF m 87 #[.val (.int x0), .val (.int x1), .val (.int x2), .val (.int x3), .val (.int x4), .val (.int x5), .val (.int x6), .val (.int x7), .val (.int x8), .val (.int x9), .val (.int x10), .val (.int ((1 : Int32) + (f3_0 (32 : Int32) (0 : Int32) x5 x4))), .val (.int (((1 : Int32) + (f3_0 (32 : Int32) (0 : Int32) x5 x4)) + (f3_0 x5 (1 : Int32) x6 x4))), .unset, .unset, .unset, .unset, .unset, .unset] [])) _
  refine XS.iload X81.here hx rfl (hb hby at_87) rfl ?_
  show Steps p.tables e below (T81.setTop (mkF m 89 #[.val (.int x0), .val (.int x1), .val (.int x2), .val (.int x3), .val (.int x4), .val (.int x5), .val (.int x6), .val (.int x7), .val (.int x8), .val (.int x9), .val (.int x10), .val (.int ((1 : Int32) + (f3_0 (32 : Int32) (0 : Int32) x5 x4))), .val (.int (((1 : Int32) + (f3_0 (32 : Int32) (0 : Int32) x5 x4)) + (f3_0 x5 (1 : Int32) x6 x4))), .unset, .unset, .unset, .unset, .unset, .unset] [(.int (((1 : Int32) + (f3_0 (32 : Int32) (0 : Int32) x5 x4)) + (f3_0 x5 (1 : Int32) x6 x4)))])) _
  refine XS.iload X81.here hx rfl (hb hby at_89) rfl ?_
  show Steps p.tables e below (T81.setTop (mkF m 91 #[.val (.int x0), .val (.int x1), .val (.int x2), .val (.int x3), .val (.int x4), .val (.int x5), .val (.int x6), .val (.int x7), .val (.int x8), .val (.int x9), .val (.int x10), .val (.int ((1 : Int32) + (f3_0 (32 : Int32) (0 : Int32) x5 x4))), .val (.int (((1 : Int32) + (f3_0 (32 : Int32) (0 : Int32) x5 x4)) + (f3_0 x5 (1 : Int32) x6 x4))), .unset, .unset, .unset, .unset, .unset, .unset] [(.int x6), (.int (((1 : Int32) + (f3_0 (32 : Int32) (0 : Int32) x5 x4)) + (f3_0 x5 (1 : Int32) x6 x4)))])) _
  refine XS.iconst X81.here hx rfl (hb hby at_91) ?_
  show Steps p.tables e below (T81.setTop (mkF m 92 #[.val (.int x0), .val (.int x1), .val (.int x2), .val (.int x3), .val (.int x4), .val (.int x5), .val (.int x6), .val (.int x7), .val (.int x8), .val (.int x9), .val (.int x10), .val (.int ((1 : Int32) + (f3_0 (32 : Int32) (0 : Int32) x5 x4))), .val (.int (((1 : Int32) + (f3_0 (32 : Int32) (0 : Int32) x5 x4)) + (f3_0 x5 (1 : Int32) x6 x4))), .unset, .unset, .unset, .unset, .unset, .unset] [(.int (1 : Int32)), (.int x6), (.int (((1 : Int32) + (f3_0 (32 : Int32) (0 : Int32) x5 x4)) + (f3_0 x5 (1 : Int32) x6 x4)))])) _
  refine XS.iload X81.here hx rfl (hb hby at_92) rfl ?_
  show Steps p.tables e below (T81.setTop (mkF m 94 #[.val (.int x0), .val (.int x1), .val (.int x2), .val (.int x3), .val (.int x4), .val (.int x5), .val (.int x6), .val (.int x7), .val (.int x8), .val (.int x9), .val (.int x10), .val (.int ((1 : Int32) + (f3_0 (32 : Int32) (0 : Int32) x5 x4))), .val (.int (((1 : Int32) + (f3_0 (32 : Int32) (0 : Int32) x5 x4)) + (f3_0 x5 (1 : Int32) x6 x4))), .unset, .unset, .unset, .unset, .unset, .unset] [(.int x7), (.int (1 : Int32)), (.int x6), (.int (((1 : Int32) + (f3_0 (32 : Int32) (0 : Int32) x5 x4)) + (f3_0 x5 (1 : Int32) x6 x4)))])) _
  refine XS.iload X81.here hx rfl (hb hby at_94) rfl ?_
  show Steps p.tables e below (T81.setTop (mkF m 96 #[.val (.int x0), .val (.int x1), .val (.int x2), .val (.int x3), .val (.int x4), .val (.int x5), .val (.int x6), .val (.int x7), .val (.int x8), .val (.int x9), .val (.int x10), .val (.int ((1 : Int32) + (f3_0 (32 : Int32) (0 : Int32) x5 x4))), .val (.int (((1 : Int32) + (f3_0 (32 : Int32) (0 : Int32) x5 x4)) + (f3_0 x5 (1 : Int32) x6 x4))), .unset, .unset, .unset, .unset, .unset, .unset] [(.int x4), (.int x7), (.int (1 : Int32)), (.int x6), (.int (((1 : Int32) + (f3_0 (32 : Int32) (0 : Int32) x5 x4)) + (f3_0 x5 (1 : Int32) x6 x4)))])) _
  refine st96 _ ?_
  show Steps p.tables e below (T96.setTop (mkF m 99 #[.val (.int x0), .val (.int x1), .val (.int x2), .val (.int x3), .val (.int x4), .val (.int x5), .val (.int x6), .val (.int x7), .val (.int x8), .val (.int x9), .val (.int x10), .val (.int ((1 : Int32) + (f3_0 (32 : Int32) (0 : Int32) x5 x4))), .val (.int (((1 : Int32) + (f3_0 (32 : Int32) (0 : Int32) x5 x4)) + (f3_0 x5 (1 : Int32) x6 x4))), .unset, .unset, .unset, .unset, .unset, .unset] [(.int (f3_0 x6 (1 : Int32) x7 x4)), (.int (((1 : Int32) + (f3_0 (32 : Int32) (0 : Int32) x5 x4)) + (f3_0 x5 (1 : Int32) x6 x4)))])) _
  refine XS.iadd X96.here hx rfl (hb hby at_99) rfl ?_
  show Steps p.tables e below (T96.setTop (mkF m 100 #[.val (.int x0), .val (.int x1), .val (.int x2), .val (.int x3), .val (.int x4), .val (.int x5), .val (.int x6), .val (.int x7), .val (.int x8), .val (.int x9), .val (.int x10), .val (.int ((1 : Int32) + (f3_0 (32 : Int32) (0 : Int32) x5 x4))), .val (.int (((1 : Int32) + (f3_0 (32 : Int32) (0 : Int32) x5 x4)) + (f3_0 x5 (1 : Int32) x6 x4))), .unset, .unset, .unset, .unset, .unset, .unset] [(.int ((((1 : Int32) + (f3_0 (32 : Int32) (0 : Int32) x5 x4)) + (f3_0 x5 (1 : Int32) x6 x4)) + (f3_0 x6 (1 : Int32) x7 x4)))])) _
  refine XS.istore X96.here hx rfl (hb hby at_100) rfl (l' := #[.val (.int x0), .val (.int x1), .val (.int x2), .val (.int x3), .val (.int x4), .val (.int x5), .val (.int x6), .val (.int x7), .val (.int x8), .val (.int x9), .val (.int x10), .val (.int ((1 : Int32) + (f3_0 (32 : Int32) (0 : Int32) x5 x4))), .val (.int (((1 : Int32) + (f3_0 (32 : Int32) (0 : Int32) x5 x4)) + (f3_0 x5 (1 : Int32) x6 x4))), .val (.int ((((1 : Int32) + (f3_0 (32 : Int32) (0 : Int32) x5 x4)) + (f3_0 x5 (1 : Int32) x6 x4)) + (f3_0 x6 (1 : Int32) x7 x4))), .unset, .unset, .unset, .unset, .unset]) rfl ?_
  exact kt
def f0_31 (x0 : Int32) (x1 : Int32) (x2 : Int32) (x3 : Int32) (x4 : Int32) (x5 : Int32) (x6 : Int32) (x7 : Int32) : Int32 := (f0_58 x0 x1 x2 x3 x4 x5 x6 x7 (f2_0 x5 x4) (f2_0 x6 x4) (f2_0 x7 x4))
set_option maxRecDepth 65536 in
set_option maxHeartbeats 40000000 in
theorem b0_31 {p : Program} {l : Launch} {e : Env} {s : State} {m : MethodId} {args : Array Value} {below : List Frame} {meth : Method} {c : Code} {T0 : State} {locs : List Loc} {Z : State} {a0 : Array Value} {h0 : Heap} {n0 : Nat} {P : Option Value → Heap → Prop} (x0 : Int32) (x1 : Int32) (x2 : Int32) (x3 : Int32) (x4 : Int32) (x5 : Int32) (x6 : Int32) (x7 : Int32) (X0 : Stand p l e room_1 s m args below meth c T0 locs 0 0) (hx : p.tables.exec = Jvm.exec) (hZ : Z.Warmed39 s.vm) (hw : ∀ d ∈ tables_1, d.before a0 Z = true) (hby : c.code = code) (hml : c.maxLocals = 19) (hown : s.vm.findClass "com/example/lehre/lehre/TextPositionAdvancePinLaw" = some m.cls) (hret : meth.sig.returnType = some .boolean) (hlk : meth.locks = false) (e0 : T0.heap = h0) (Z0 : n0 ≤ h0.size) (N0 : Fr n0 locs) (hP : ∀ h' : Heap, P (some (.int (f0_31 x0 x1 x2 x3 x4 x5 x6 x7))) h') :
    own_Goes p e below s n0 room_1.cells room_1.slots P (T0.setTop (mkF m 31 #[.val (.int x0), .val (.int x1), .val (.int x2), .val (.int x3), .val (.int x4), .val (.int x5), .val (.int x6), .val (.int x7), .unset, .unset, .unset, .unset, .unset, .unset, .unset, .unset, .unset, .unset, .unset] [])) := by
  obtain ⟨_, _, ⟨T35, L35, k35, n35⟩, -, X35, ⟨Lc35, hQ35, l35, y35, z35⟩, st35⟩ := Jvm.LawKit.callS X0 hx (y := (⟨"com/example/lehre/lehre/TextPositionAdvancePinLaw", "isEnd", "(CZ)Z"⟩ : MethodName)) hown (mvT hZ (hw _ (List.mem_of_getElem? (i := 4) rfl))) (mvT hZ (hw _ (List.mem_of_getElem? (i := 5) rfl))) (mvT hZ (hw _ (List.mem_of_getElem? (i := 2) rfl))) (mvT hZ (hw _ (List.mem_of_getElem? (i := 6) rfl))) (by decide) (backOf (W := 0) (rm2 l Z a0 hw [] x5 x4 h0 n0 Z0) hZ (hw _ (List.mem_of_getElem? (i := 6) rfl)) (hw _ (List.mem_of_getElem? (i := 2) rfl)) (by decide) (by decide)) (g := (mkF m 35 #[.val (.int x0), .val (.int x1), .val (.int x2), .val (.int x3), .val (.int x4), .val (.int x5), .val (.int x6), .val (.int x7), .unset, .unset, .unset, .unset, .unset, .unset, .unset, .unset, .unset, .unset, .unset] [(.int x4), (.int x5)])) rfl (by rw [hml]; rfl) (argsL := [(.int x5), (.int x4)]) (rest := []) (lenOf pd0 rfl) rfl (by show 2 * 0 + _ ≤ _; exact Nat.le_of_eq rfl) (hb hby at_35) (fun _ _ => ⟨rfl, e0, (by decide : 0 + 0 ≤ _), (by decide : 0 + 0 ≤ _)⟩)
  dsimp only [Pt.U, Pt.locs, Pt.cells, Pt.slots] at X35 l35 y35 z35 st35 hQ35
  subst l35 y35 z35
  obtain ⟨⟨rfl, e35⟩, N35q⟩ := hQ35
  have N35 := Fr.app N0 N35q
  obtain ⟨_, _, ⟨T44, L44, k44, n44⟩, -, X44, ⟨Lc44, hQ44, l44, y44, z44⟩, st44⟩ := Jvm.LawKit.callS X35 hx (y := (⟨"com/example/lehre/lehre/TextPositionAdvancePinLaw", "isEnd", "(CZ)Z"⟩ : MethodName)) hown (mvT hZ (hw _ (List.mem_of_getElem? (i := 4) rfl))) (mvT hZ (hw _ (List.mem_of_getElem? (i := 5) rfl))) (mvT hZ (hw _ (List.mem_of_getElem? (i := 2) rfl))) (mvT hZ (hw _ (List.mem_of_getElem? (i := 6) rfl))) (by decide) (backOf (W := 0) (rm2 l Z a0 hw [] x6 x4 h0 n0 Z0) hZ (hw _ (List.mem_of_getElem? (i := 6) rfl)) (hw _ (List.mem_of_getElem? (i := 2) rfl)) (by decide) (by decide)) (g := (mkF m 44 #[.val (.int x0), .val (.int x1), .val (.int x2), .val (.int x3), .val (.int x4), .val (.int x5), .val (.int x6), .val (.int x7), .val (.int (f2_0 x5 x4)), .unset, .unset, .unset, .unset, .unset, .unset, .unset, .unset, .unset, .unset] [(.int x4), (.int x6)])) rfl (by rw [hml]; rfl) (argsL := [(.int x6), (.int x4)]) (rest := []) (lenOf pd0 rfl) rfl (by show 2 * 0 + _ ≤ _; exact Nat.le_of_eq rfl) (hb hby at_44) (fun _ _ => ⟨rfl, e35, (by decide : 0 + 0 ≤ _), (by decide : 0 + 0 ≤ _)⟩)
  dsimp only [Pt.U, Pt.locs, Pt.cells, Pt.slots] at X44 l44 y44 z44 st44 hQ44
  subst l44 y44 z44
  obtain ⟨⟨rfl, e44⟩, N44q⟩ := hQ44
  have N44 := Fr.app N35 N44q
  obtain ⟨_, _, ⟨T53, L53, k53, n53⟩, -, X53, ⟨Lc53, hQ53, l53, y53, z53⟩, st53⟩ := Jvm.LawKit.callS X44 hx (y := (⟨"com/example/lehre/lehre/TextPositionAdvancePinLaw", "isEnd", "(CZ)Z"⟩ : MethodName)) hown (mvT hZ (hw _ (List.mem_of_getElem? (i := 4) rfl))) (mvT hZ (hw _ (List.mem_of_getElem? (i := 5) rfl))) (mvT hZ (hw _ (List.mem_of_getElem? (i := 2) rfl))) (mvT hZ (hw _ (List.mem_of_getElem? (i := 6) rfl))) (by decide) (backOf (W := 0) (rm2 l Z a0 hw [] x7 x4 h0 n0 Z0) hZ (hw _ (List.mem_of_getElem? (i := 6) rfl)) (hw _ (List.mem_of_getElem? (i := 2) rfl)) (by decide) (by decide)) (g := (mkF m 53 #[.val (.int x0), .val (.int x1), .val (.int x2), .val (.int x3), .val (.int x4), .val (.int x5), .val (.int x6), .val (.int x7), .val (.int (f2_0 x5 x4)), .val (.int (f2_0 x6 x4)), .unset, .unset, .unset, .unset, .unset, .unset, .unset, .unset, .unset] [(.int x4), (.int x7)])) rfl (by rw [hml]; rfl) (argsL := [(.int x7), (.int x4)]) (rest := []) (lenOf pd0 rfl) rfl (by show 2 * 0 + _ ≤ _; exact Nat.le_of_eq rfl) (hb hby at_53) (fun _ _ => ⟨rfl, e44, (by decide : 0 + 0 ≤ _), (by decide : 0 + 0 ≤ _)⟩)
  dsimp only [Pt.U, Pt.locs, Pt.cells, Pt.slots] at X53 l53 y53 z53 st53 hQ53
  subst l53 y53 z53
  obtain ⟨⟨rfl, e53⟩, N53q⟩ := hQ53
  have N53 := Fr.app N44 N53q
  rw [f0_31] at hP
  refine own_Goes.pre (fun t kt => ?_) (b0_58 x0 x1 x2 x3 x4 x5 x6 x7 (f2_0 x5 x4) (f2_0 x6 x4) (f2_0 x7 x4) X53 hx hZ hw hby hml hown hret hlk e53 Z0 N53 hP)
  show Steps p.tables e below (T0.setTop (mkF m 31 #[.val (.int x0), .val (.int x1), .val (.int x2), .val (.int x3), .val (.int x4), .val (.int x5), .val (.int x6), .val (.int x7), .unset, .unset, .unset, .unset, .unset, .unset, .unset, .unset, .unset, .unset, .unset] [])) _
  refine XS.iload X0.here hx rfl (hb hby at_31) rfl ?_
  show Steps p.tables e below (T0.setTop (mkF m 33 #[.val (.int x0), .val (.int x1), .val (.int x2), .val (.int x3), .val (.int x4), .val (.int x5), .val (.int x6), .val (.int x7), .unset, .unset, .unset, .unset, .unset, .unset, .unset, .unset, .unset, .unset, .unset] [(.int x5)])) _
  refine XS.iload X0.here hx rfl (hb hby at_33) rfl ?_
  show Steps p.tables e below (T0.setTop (mkF m 35 #[.val (.int x0), .val (.int x1), .val (.int x2), .val (.int x3), .val (.int x4), .val (.int x5), .val (.int x6), .val (.int x7), .unset, .unset, .unset, .unset, .unset, .unset, .unset, .unset, .unset, .unset, .unset] [(.int x4), (.int x5)])) _
  refine st35 _ ?_
  show Steps p.tables e below (T35.setTop (mkF m 38 #[.val (.int x0), .val (.int x1), .val (.int x2), .val (.int x3), .val (.int x4), .val (.int x5), .val (.int x6), .val (.int x7), .unset, .unset, .unset, .unset, .unset, .unset, .unset, .unset, .unset, .unset, .unset] [(.int (f2_0 x5 x4))])) _
  refine XS.istore X35.here hx rfl (hb hby at_38) rfl (l' := #[.val (.int x0), .val (.int x1), .val (.int x2), .val (.int x3), .val (.int x4), .val (.int x5), .val (.int x6), .val (.int x7), .val (.int (f2_0 x5 x4)), .unset, .unset, .unset, .unset, .unset, .unset, .unset, .unset, .unset, .unset]) rfl ?_
  show Steps p.tables e below (T35.setTop (mkF m 40 #[.val (.int x0), .val (.int x1), .val (.int x2), .val (.int x3), .val (.int x4), .val (.int x5), .val (.int x6), .val (.int x7), .val (.int (f2_0 x5 x4)), .unset, .unset, .unset, .unset, .unset, .unset, .unset, .unset, .unset, .unset] [])) _
  refine XS.iload X35.here hx rfl (hb hby at_40) rfl ?_
  show Steps p.tables e below (T35.setTop (mkF m 42 #[.val (.int x0), .val (.int x1), .val (.int x2), .val (.int x3), .val (.int x4), .val (.int x5), .val (.int x6), .val (.int x7), .val (.int (f2_0 x5 x4)), .unset, .unset, .unset, .unset, .unset, .unset, .unset, .unset, .unset, .unset] [(.int x6)])) _
  refine XS.iload X35.here hx rfl (hb hby at_42) rfl ?_
  show Steps p.tables e below (T35.setTop (mkF m 44 #[.val (.int x0), .val (.int x1), .val (.int x2), .val (.int x3), .val (.int x4), .val (.int x5), .val (.int x6), .val (.int x7), .val (.int (f2_0 x5 x4)), .unset, .unset, .unset, .unset, .unset, .unset, .unset, .unset, .unset, .unset] [(.int x4), (.int x6)])) _
  refine st44 _ ?_
  show Steps p.tables e below (T44.setTop (mkF m 47 #[.val (.int x0), .val (.int x1), .val (.int x2), .val (.int x3), .val (.int x4), .val (.int x5), .val (.int x6), .val (.int x7), .val (.int (f2_0 x5 x4)), .unset, .unset, .unset, .unset, .unset, .unset, .unset, .unset, .unset, .unset] [(.int (f2_0 x6 x4))])) _
  refine XS.istore X44.here hx rfl (hb hby at_47) rfl (l' := #[.val (.int x0), .val (.int x1), .val (.int x2), .val (.int x3), .val (.int x4), .val (.int x5), .val (.int x6), .val (.int x7), .val (.int (f2_0 x5 x4)), .val (.int (f2_0 x6 x4)), .unset, .unset, .unset, .unset, .unset, .unset, .unset, .unset, .unset]) rfl ?_
  show Steps p.tables e below (T44.setTop (mkF m 49 #[.val (.int x0), .val (.int x1), .val (.int x2), .val (.int x3), .val (.int x4), .val (.int x5), .val (.int x6), .val (.int x7), .val (.int (f2_0 x5 x4)), .val (.int (f2_0 x6 x4)), .unset, .unset, .unset, .unset, .unset, .unset, .unset, .unset, .unset] [])) _
  refine XS.iload X44.here hx rfl (hb hby at_49) rfl ?_
  show Steps p.tables e below (T44.setTop (mkF m 51 #[.val (.int x0), .val (.int x1), .val (.int x2), .val (.int x3), .val (.int x4), .val (.int x5), .val (.int x6), .val (.int x7), .val (.int (f2_0 x5 x4)), .val (.int (f2_0 x6 x4)), .unset, .unset, .unset, .unset, .unset, .unset, .unset, .unset, .unset] [(.int x7)])) _
  refine XS.iload X44.here hx rfl (hb hby at_51) rfl ?_
  show Steps p.tables e below (T44.setTop (mkF m 53 #[.val (.int x0), .val (.int x1), .val (.int x2), .val (.int x3), .val (.int x4), .val (.int x5), .val (.int x6), .val (.int x7), .val (.int (f2_0 x5 x4)), .val (.int (f2_0 x6 x4)), .unset, .unset, .unset, .unset, .unset, .unset, .unset, .unset, .unset] [(.int x4), (.int x7)])) _
  refine st53 _ ?_
  show Steps p.tables e below (T53.setTop (mkF m 56 #[.val (.int x0), .val (.int x1), .val (.int x2), .val (.int x3), .val (.int x4), .val (.int x5), .val (.int x6), .val (.int x7), .val (.int (f2_0 x5 x4)), .val (.int (f2_0 x6 x4)), .unset, .unset, .unset, .unset, .unset, .unset, .unset, .unset, .unset] [(.int (f2_0 x7 x4))])) _
  refine XS.istore X53.here hx rfl (hb hby at_56) rfl (l' := #[.val (.int x0), .val (.int x1), .val (.int x2), .val (.int x3), .val (.int x4), .val (.int x5), .val (.int x6), .val (.int x7), .val (.int (f2_0 x5 x4)), .val (.int (f2_0 x6 x4)), .val (.int (f2_0 x7 x4)), .unset, .unset, .unset, .unset, .unset, .unset, .unset, .unset]) rfl ?_
  exact kt
def f0_11 (x0 : Int32) (x1 : Int32) (x2 : Int32) (x3 : Int32) (y0 : Int32) : Int32 := (f0_31 x0 x1 x2 x3 y0 (f1_0 x1) (f1_0 x2) (f1_0 x3))
set_option maxRecDepth 65536 in
set_option maxHeartbeats 40000000 in
theorem b0_11 {p : Program} {l : Launch} {e : Env} {s : State} {m : MethodId} {args : Array Value} {below : List Frame} {meth : Method} {c : Code} {T0 : State} {locs : List Loc} {Z : State} {a0 : Array Value} {h0 : Heap} {n0 : Nat} {P : Option Value → Heap → Prop} (x0 : Int32) (x1 : Int32) (x2 : Int32) (x3 : Int32) (y0 : Int32) (X0 : Stand p l e room_1 s m args below meth c T0 locs 0 0) (hx : p.tables.exec = Jvm.exec) (hZ : Z.Warmed39 s.vm) (hw : ∀ d ∈ tables_1, d.before a0 Z = true) (hby : c.code = code) (hml : c.maxLocals = 19) (hown : s.vm.findClass "com/example/lehre/lehre/TextPositionAdvancePinLaw" = some m.cls) (hret : meth.sig.returnType = some .boolean) (hlk : meth.locks = false) (e0 : T0.heap = h0) (Z0 : n0 ≤ h0.size) (N0 : Fr n0 locs) (hP : ∀ h' : Heap, P (some (.int (f0_11 x0 x1 x2 x3 y0))) h') :
    own_Goes p e below s n0 room_1.cells room_1.slots P (T0.setTop (mkF m 11 #[.val (.int x0), .val (.int x1), .val (.int x2), .val (.int x3), .unset, .unset, .unset, .unset, .unset, .unset, .unset, .unset, .unset, .unset, .unset, .unset, .unset, .unset, .unset] [(.int y0)])) := by
  obtain ⟨_, _, ⟨T14, L14, k14, n14⟩, -, X14, ⟨Lc14, hQ14, l14, y14, z14⟩, st14⟩ := Jvm.LawKit.callS X0 hx (y := (⟨"com/example/lehre/lehre/TextPositionAdvancePinLaw", "pick", "(I)C"⟩ : MethodName)) hown (mvT hZ (hw _ (List.mem_of_getElem? (i := 0) rfl))) (mvT hZ (hw _ (List.mem_of_getElem? (i := 1) rfl))) (mvT hZ (hw _ (List.mem_of_getElem? (i := 2) rfl))) (mvT hZ (hw _ (List.mem_of_getElem? (i := 3) rfl))) (by decide) (backOf (W := 0) (rm1 l Z a0 hw [] x1 h0 n0 Z0) hZ (hw _ (List.mem_of_getElem? (i := 3) rfl)) (hw _ (List.mem_of_getElem? (i := 2) rfl)) (by decide) (by decide)) (g := (mkF m 14 #[.val (.int x0), .val (.int x1), .val (.int x2), .val (.int x3), .val (.int y0), .unset, .unset, .unset, .unset, .unset, .unset, .unset, .unset, .unset, .unset, .unset, .unset, .unset, .unset] [(.int x1)])) rfl (by rw [hml]; rfl) (argsL := [(.int x1)]) (rest := []) (lenOf pd4 rfl) rfl (by show 2 * 0 + _ ≤ _; exact Nat.le_of_eq rfl) (hb hby at_14) (fun _ _ => ⟨rfl, e0, (by decide : 0 + 0 ≤ _), (by decide : 0 + 0 ≤ _)⟩)
  dsimp only [Pt.U, Pt.locs, Pt.cells, Pt.slots] at X14 l14 y14 z14 st14 hQ14
  subst l14 y14 z14
  obtain ⟨⟨rfl, e14⟩, N14q⟩ := hQ14
  have N14 := Fr.app N0 N14q
  obtain ⟨_, _, ⟨T20, L20, k20, n20⟩, -, X20, ⟨Lc20, hQ20, l20, y20, z20⟩, st20⟩ := Jvm.LawKit.callS X14 hx (y := (⟨"com/example/lehre/lehre/TextPositionAdvancePinLaw", "pick", "(I)C"⟩ : MethodName)) hown (mvT hZ (hw _ (List.mem_of_getElem? (i := 0) rfl))) (mvT hZ (hw _ (List.mem_of_getElem? (i := 1) rfl))) (mvT hZ (hw _ (List.mem_of_getElem? (i := 2) rfl))) (mvT hZ (hw _ (List.mem_of_getElem? (i := 3) rfl))) (by decide) (backOf (W := 0) (rm1 l Z a0 hw [] x2 h0 n0 Z0) hZ (hw _ (List.mem_of_getElem? (i := 3) rfl)) (hw _ (List.mem_of_getElem? (i := 2) rfl)) (by decide) (by decide)) (g := (mkF m 20 #[.val (.int x0), .val (.int x1), .val (.int x2), .val (.int x3), .val (.int y0), .val (.int (f1_0 x1)), .unset, .unset, .unset, .unset, .unset, .unset, .unset, .unset, .unset, .unset, .unset, .unset, .unset] [(.int x2)])) rfl (by rw [hml]; rfl) (argsL := [(.int x2)]) (rest := []) (lenOf pd4 rfl) rfl (by show 2 * 0 + _ ≤ _; exact Nat.le_of_eq rfl) (hb hby at_20) (fun _ _ => ⟨rfl, e14, (by decide : 0 + 0 ≤ _), (by decide : 0 + 0 ≤ _)⟩)
  dsimp only [Pt.U, Pt.locs, Pt.cells, Pt.slots] at X20 l20 y20 z20 st20 hQ20
  subst l20 y20 z20
  obtain ⟨⟨rfl, e20⟩, N20q⟩ := hQ20
  have N20 := Fr.app N14 N20q
  obtain ⟨_, _, ⟨T26, L26, k26, n26⟩, -, X26, ⟨Lc26, hQ26, l26, y26, z26⟩, st26⟩ := Jvm.LawKit.callS X20 hx (y := (⟨"com/example/lehre/lehre/TextPositionAdvancePinLaw", "pick", "(I)C"⟩ : MethodName)) hown (mvT hZ (hw _ (List.mem_of_getElem? (i := 0) rfl))) (mvT hZ (hw _ (List.mem_of_getElem? (i := 1) rfl))) (mvT hZ (hw _ (List.mem_of_getElem? (i := 2) rfl))) (mvT hZ (hw _ (List.mem_of_getElem? (i := 3) rfl))) (by decide) (backOf (W := 0) (rm1 l Z a0 hw [] x3 h0 n0 Z0) hZ (hw _ (List.mem_of_getElem? (i := 3) rfl)) (hw _ (List.mem_of_getElem? (i := 2) rfl)) (by decide) (by decide)) (g := (mkF m 26 #[.val (.int x0), .val (.int x1), .val (.int x2), .val (.int x3), .val (.int y0), .val (.int (f1_0 x1)), .val (.int (f1_0 x2)), .unset, .unset, .unset, .unset, .unset, .unset, .unset, .unset, .unset, .unset, .unset, .unset] [(.int x3)])) rfl (by rw [hml]; rfl) (argsL := [(.int x3)]) (rest := []) (lenOf pd4 rfl) rfl (by show 2 * 0 + _ ≤ _; exact Nat.le_of_eq rfl) (hb hby at_26) (fun _ _ => ⟨rfl, e20, (by decide : 0 + 0 ≤ _), (by decide : 0 + 0 ≤ _)⟩)
  dsimp only [Pt.U, Pt.locs, Pt.cells, Pt.slots] at X26 l26 y26 z26 st26 hQ26
  subst l26 y26 z26
  obtain ⟨⟨rfl, e26⟩, N26q⟩ := hQ26
  have N26 := Fr.app N20 N26q
  rw [f0_11] at hP
  refine own_Goes.pre (fun t kt => ?_) (b0_31 x0 x1 x2 x3 y0 (f1_0 x1) (f1_0 x2) (f1_0 x3) X26 hx hZ hw hby hml hown hret hlk e26 Z0 N26 hP)
  show Steps p.tables e below (T0.setTop (mkF m 11 #[.val (.int x0), .val (.int x1), .val (.int x2), .val (.int x3), .unset, .unset, .unset, .unset, .unset, .unset, .unset, .unset, .unset, .unset, .unset, .unset, .unset, .unset, .unset] [(.int y0)])) _
  refine XS.istore X0.here hx rfl (hb hby at_11) rfl (l' := #[.val (.int x0), .val (.int x1), .val (.int x2), .val (.int x3), .val (.int y0), .unset, .unset, .unset, .unset, .unset, .unset, .unset, .unset, .unset, .unset, .unset, .unset, .unset, .unset]) rfl ?_
  show Steps p.tables e below (T0.setTop (mkF m 13 #[.val (.int x0), .val (.int x1), .val (.int x2), .val (.int x3), .val (.int y0), .unset, .unset, .unset, .unset, .unset, .unset, .unset, .unset, .unset, .unset, .unset, .unset, .unset, .unset] [])) _
  refine XS.iloadN X0.here hx rfl (hb hby at_13) rfl ?_
  show Steps p.tables e below (T0.setTop (mkF m 14 #[.val (.int x0), .val (.int x1), .val (.int x2), .val (.int x3), .val (.int y0), .unset, .unset, .unset, .unset, .unset, .unset, .unset, .unset, .unset, .unset, .unset, .unset, .unset, .unset] [(.int x1)])) _
  refine st14 _ ?_
  show Steps p.tables e below (T14.setTop (mkF m 17 #[.val (.int x0), .val (.int x1), .val (.int x2), .val (.int x3), .val (.int y0), .unset, .unset, .unset, .unset, .unset, .unset, .unset, .unset, .unset, .unset, .unset, .unset, .unset, .unset] [(.int (f1_0 x1))])) _
  refine XS.istore X14.here hx rfl (hb hby at_17) rfl (l' := #[.val (.int x0), .val (.int x1), .val (.int x2), .val (.int x3), .val (.int y0), .val (.int (f1_0 x1)), .unset, .unset, .unset, .unset, .unset, .unset, .unset, .unset, .unset, .unset, .unset, .unset, .unset]) rfl ?_
  show Steps p.tables e below (T14.setTop (mkF m 19 #[.val (.int x0), .val (.int x1), .val (.int x2), .val (.int x3), .val (.int y0), .val (.int (f1_0 x1)), .unset, .unset, .unset, .unset, .unset, .unset, .unset, .unset, .unset, .unset, .unset, .unset, .unset] [])) _
  refine XS.iloadN X14.here hx rfl (hb hby at_19) rfl ?_
  show Steps p.tables e below (T14.setTop (mkF m 20 #[.val (.int x0), .val (.int x1), .val (.int x2), .val (.int x3), .val (.int y0), .val (.int (f1_0 x1)), .unset, .unset, .unset, .unset, .unset, .unset, .unset, .unset, .unset, .unset, .unset, .unset, .unset] [(.int x2)])) _
  refine st20 _ ?_
  show Steps p.tables e below (T20.setTop (mkF m 23 #[.val (.int x0), .val (.int x1), .val (.int x2), .val (.int x3), .val (.int y0), .val (.int (f1_0 x1)), .unset, .unset, .unset, .unset, .unset, .unset, .unset, .unset, .unset, .unset, .unset, .unset, .unset] [(.int (f1_0 x2))])) _
  refine XS.istore X20.here hx rfl (hb hby at_23) rfl (l' := #[.val (.int x0), .val (.int x1), .val (.int x2), .val (.int x3), .val (.int y0), .val (.int (f1_0 x1)), .val (.int (f1_0 x2)), .unset, .unset, .unset, .unset, .unset, .unset, .unset, .unset, .unset, .unset, .unset, .unset]) rfl ?_
  show Steps p.tables e below (T20.setTop (mkF m 25 #[.val (.int x0), .val (.int x1), .val (.int x2), .val (.int x3), .val (.int y0), .val (.int (f1_0 x1)), .val (.int (f1_0 x2)), .unset, .unset, .unset, .unset, .unset, .unset, .unset, .unset, .unset, .unset, .unset, .unset] [])) _
  refine XS.iloadN X20.here hx rfl (hb hby at_25) rfl ?_
  show Steps p.tables e below (T20.setTop (mkF m 26 #[.val (.int x0), .val (.int x1), .val (.int x2), .val (.int x3), .val (.int y0), .val (.int (f1_0 x1)), .val (.int (f1_0 x2)), .unset, .unset, .unset, .unset, .unset, .unset, .unset, .unset, .unset, .unset, .unset, .unset] [(.int x3)])) _
  refine st26 _ ?_
  show Steps p.tables e below (T26.setTop (mkF m 29 #[.val (.int x0), .val (.int x1), .val (.int x2), .val (.int x3), .val (.int y0), .val (.int (f1_0 x1)), .val (.int (f1_0 x2)), .unset, .unset, .unset, .unset, .unset, .unset, .unset, .unset, .unset, .unset, .unset, .unset] [(.int (f1_0 x3))])) _
  refine XS.istore X26.here hx rfl (hb hby at_29) rfl (l' := #[.val (.int x0), .val (.int x1), .val (.int x2), .val (.int x3), .val (.int y0), .val (.int (f1_0 x1)), .val (.int (f1_0 x2)), .val (.int (f1_0 x3)), .unset, .unset, .unset, .unset, .unset, .unset, .unset, .unset, .unset, .unset, .unset]) rfl ?_
  exact kt
def f0_10 (x0 : Int32) (x1 : Int32) (x2 : Int32) (x3 : Int32) : Int32 := (f0_11 x0 x1 x2 x3 (0 : Int32))
set_option maxRecDepth 65536 in
set_option maxHeartbeats 40000000 in
theorem b0_10 {p : Program} {l : Launch} {e : Env} {s : State} {m : MethodId} {args : Array Value} {below : List Frame} {meth : Method} {c : Code} {T0 : State} {locs : List Loc} {Z : State} {a0 : Array Value} {h0 : Heap} {n0 : Nat} {P : Option Value → Heap → Prop} (x0 : Int32) (x1 : Int32) (x2 : Int32) (x3 : Int32) (X0 : Stand p l e room_1 s m args below meth c T0 locs 0 0) (hx : p.tables.exec = Jvm.exec) (hZ : Z.Warmed39 s.vm) (hw : ∀ d ∈ tables_1, d.before a0 Z = true) (hby : c.code = code) (hml : c.maxLocals = 19) (hown : s.vm.findClass "com/example/lehre/lehre/TextPositionAdvancePinLaw" = some m.cls) (hret : meth.sig.returnType = some .boolean) (hlk : meth.locks = false) (e0 : T0.heap = h0) (Z0 : n0 ≤ h0.size) (N0 : Fr n0 locs) (hP : ∀ h' : Heap, P (some (.int (f0_10 x0 x1 x2 x3))) h') :
    own_Goes p e below s n0 room_1.cells room_1.slots P (T0.setTop (mkF m 10 #[.val (.int x0), .val (.int x1), .val (.int x2), .val (.int x3), .unset, .unset, .unset, .unset, .unset, .unset, .unset, .unset, .unset, .unset, .unset, .unset, .unset, .unset, .unset] [])) := by
  rw [f0_10] at hP
  refine own_Goes.pre (fun t kt => ?_) (b0_11 x0 x1 x2 x3 (0 : Int32) X0 hx hZ hw hby hml hown hret hlk e0 Z0 N0 hP)
  show Steps p.tables e below (T0.setTop (mkF m 10 #[.val (.int x0), .val (.int x1), .val (.int x2), .val (.int x3), .unset, .unset, .unset, .unset, .unset, .unset, .unset, .unset, .unset, .unset, .unset, .unset, .unset, .unset, .unset] [])) _
  refine XS.iconst X0.here hx rfl (hb hby at_10) ?_
  exact kt
def f0_6 (x0 : Int32) (x1 : Int32) (x2 : Int32) (x3 : Int32) : Int32 := (f0_11 x0 x1 x2 x3 (1 : Int32))
set_option maxRecDepth 65536 in
set_option maxHeartbeats 40000000 in
theorem b0_6 {p : Program} {l : Launch} {e : Env} {s : State} {m : MethodId} {args : Array Value} {below : List Frame} {meth : Method} {c : Code} {T0 : State} {locs : List Loc} {Z : State} {a0 : Array Value} {h0 : Heap} {n0 : Nat} {P : Option Value → Heap → Prop} (x0 : Int32) (x1 : Int32) (x2 : Int32) (x3 : Int32) (X0 : Stand p l e room_1 s m args below meth c T0 locs 0 0) (hx : p.tables.exec = Jvm.exec) (hZ : Z.Warmed39 s.vm) (hw : ∀ d ∈ tables_1, d.before a0 Z = true) (hby : c.code = code) (hml : c.maxLocals = 19) (hown : s.vm.findClass "com/example/lehre/lehre/TextPositionAdvancePinLaw" = some m.cls) (hret : meth.sig.returnType = some .boolean) (hlk : meth.locks = false) (e0 : T0.heap = h0) (Z0 : n0 ≤ h0.size) (N0 : Fr n0 locs) (hP : ∀ h' : Heap, P (some (.int (f0_6 x0 x1 x2 x3))) h') :
    own_Goes p e below s n0 room_1.cells room_1.slots P (T0.setTop (mkF m 6 #[.val (.int x0), .val (.int x1), .val (.int x2), .val (.int x3), .unset, .unset, .unset, .unset, .unset, .unset, .unset, .unset, .unset, .unset, .unset, .unset, .unset, .unset, .unset] [])) := by
  rw [f0_6] at hP
  refine own_Goes.pre (fun t kt => ?_) (b0_11 x0 x1 x2 x3 (1 : Int32) X0 hx hZ hw hby hml hown hret hlk e0 Z0 N0 hP)
  show Steps p.tables e below (T0.setTop (mkF m 6 #[.val (.int x0), .val (.int x1), .val (.int x2), .val (.int x3), .unset, .unset, .unset, .unset, .unset, .unset, .unset, .unset, .unset, .unset, .unset, .unset, .unset, .unset, .unset] [])) _
  refine XS.iconst X0.here hx rfl (hb hby at_6) ?_
  show Steps p.tables e below (T0.setTop (mkF m 7 #[.val (.int x0), .val (.int x1), .val (.int x2), .val (.int x3), .unset, .unset, .unset, .unset, .unset, .unset, .unset, .unset, .unset, .unset, .unset, .unset, .unset, .unset, .unset] [(.int (1 : Int32))])) _
  refine XS.goto X0.here hx rfl (pc0 := 7) (pc' := 11) rfl (hb hby at_7) (by decide) (by decide) ?_
  exact kt
def f0_0 (x0 : Int32) (x1 : Int32) (x2 : Int32) (x3 : Int32) : Int32 := if (x0 &&& (1 : Int32)) = (0 : Int32) then (f0_10 x0 x1 x2 x3) else (f0_6 x0 x1 x2 x3)
set_option maxRecDepth 65536 in
set_option maxHeartbeats 40000000 in
theorem b0_0 {p : Program} {l : Launch} {e : Env} {s : State} {m : MethodId} {args : Array Value} {below : List Frame} {meth : Method} {c : Code} {T0 : State} {locs : List Loc} {Z : State} {a0 : Array Value} {h0 : Heap} {n0 : Nat} {P : Option Value → Heap → Prop} (x0 : Int32) (x1 : Int32) (x2 : Int32) (x3 : Int32) (X0 : Stand p l e room_1 s m args below meth c T0 locs 0 0) (hx : p.tables.exec = Jvm.exec) (hZ : Z.Warmed39 s.vm) (hw : ∀ d ∈ tables_1, d.before a0 Z = true) (hby : c.code = code) (hml : c.maxLocals = 19) (hown : s.vm.findClass "com/example/lehre/lehre/TextPositionAdvancePinLaw" = some m.cls) (hret : meth.sig.returnType = some .boolean) (hlk : meth.locks = false) (e0 : T0.heap = h0) (Z0 : n0 ≤ h0.size) (N0 : Fr n0 locs) (hP : ∀ h' : Heap, P (some (.int (f0_0 x0 x1 x2 x3))) h') :
    own_Goes p e below s n0 room_1.cells room_1.slots P (T0.setTop (mkF m 0 #[.val (.int x0), .val (.int x1), .val (.int x2), .val (.int x3), .unset, .unset, .unset, .unset, .unset, .unset, .unset, .unset, .unset, .unset, .unset, .unset, .unset, .unset, .unset] [])) := by
  have pre1 : ∀ t, Steps p.tables e below (T0.setTop (mkF m 3 #[.val (.int x0), .val (.int x1), .val (.int x2), .val (.int x3), .unset, .unset, .unset, .unset, .unset, .unset, .unset, .unset, .unset, .unset, .unset, .unset, .unset, .unset, .unset] [(.int (x0 &&& (1 : Int32)))])) t → Steps p.tables e below (T0.setTop (mkF m 0 #[.val (.int x0), .val (.int x1), .val (.int x2), .val (.int x3), .unset, .unset, .unset, .unset, .unset, .unset, .unset, .unset, .unset, .unset, .unset, .unset, .unset, .unset, .unset] [])) t := fun t kt => by
    show Steps p.tables e below (T0.setTop (mkF m 0 #[.val (.int x0), .val (.int x1), .val (.int x2), .val (.int x3), .unset, .unset, .unset, .unset, .unset, .unset, .unset, .unset, .unset, .unset, .unset, .unset, .unset, .unset, .unset] [])) _
    refine XS.iloadN X0.here hx rfl (hb hby at_0) rfl ?_
    show Steps p.tables e below (T0.setTop (mkF m 1 #[.val (.int x0), .val (.int x1), .val (.int x2), .val (.int x3), .unset, .unset, .unset, .unset, .unset, .unset, .unset, .unset, .unset, .unset, .unset, .unset, .unset, .unset, .unset] [(.int x0)])) _
    refine XS.iconst X0.here hx rfl (hb hby at_1) ?_
    show Steps p.tables e below (T0.setTop (mkF m 2 #[.val (.int x0), .val (.int x1), .val (.int x2), .val (.int x3), .unset, .unset, .unset, .unset, .unset, .unset, .unset, .unset, .unset, .unset, .unset, .unset, .unset, .unset, .unset] [(.int (1 : Int32)), (.int x0)])) _
    refine XS.iand X0.here hx rfl (hb hby at_2) rfl ?_
    exact kt
  refine own_Goes.pre pre1 ?_
  by_cases hc : (x0 &&& (1 : Int32)) = (0 : Int32)
  · rw [f0_0, if_pos hc] at hP
    refine own_Goes.pre (fun t kt => ?_) (b0_10 x0 x1 x2 x3 X0 hx hZ hw hby hml hown hret hlk e0 Z0 N0 hP)
    show Steps p.tables e below (T0.setTop (mkF m 3 #[.val (.int x0), .val (.int x1), .val (.int x2), .val (.int x3), .unset, .unset, .unset, .unset, .unset, .unset, .unset, .unset, .unset, .unset, .unset, .unset, .unset, .unset, .unset] [(.int (x0 &&& (1 : Int32)))])) _
    refine XS.ifYes X0.here hx rfl (pc0 := 3) (pc' := 10) rfl (hb hby at_3) rfl ((if0 _ _).trans (teq hc).1) (by decide) (by decide) ?_
    exact kt
  · rw [f0_0, if_neg hc] at hP
    refine own_Goes.pre (fun t kt => ?_) (b0_6 x0 x1 x2 x3 X0 hx hZ hw hby hml hown hret hlk e0 Z0 N0 hP)
    show Steps p.tables e below (T0.setTop (mkF m 3 #[.val (.int x0), .val (.int x1), .val (.int x2), .val (.int x3), .unset, .unset, .unset, .unset, .unset, .unset, .unset, .unset, .unset, .unset, .unset, .unset, .unset, .unset, .unset] [(.int (x0 &&& (1 : Int32)))])) _
    refine XS.ifNo X0.here hx rfl (hb hby at_3) rfl ((if0 _ _).trans (feq hc).1) ?_
    exact kt
theorem ef0 (m : MethodId) (x0 : Int32) (x1 : Int32) (x2 : Int32) (x3 : Int32) : entryFrame m #[(.int x0), (.int x1), (.int x2), (.int x3)] maxLocals = (mkF m 0 #[.val (.int x0), .val (.int x1), .val (.int x2), .val (.int x3), .unset, .unset, .unset, .unset, .unset, .unset, .unset, .unset, .unset, .unset, .unset, .unset, .unset, .unset, .unset] []) := by first | (simp [entryFrame, mkF, argsToLocals, Value.category, maxLocals]; done) | rfl
set_option maxRecDepth 65536 in
set_option maxHeartbeats 40000000 in
theorem rm0 (l : Launch) (Z : State) (a0 : Array Value) (hw : ∀ d ∈ tables_1, d.before a0 Z = true) (ws : List Jvm.Cond) (x0 : Int32) (x1 : Int32) (x2 : Int32) (x3 : Int32) (h0 : Heap) (n0 : Nat) (Z0 : n0 ≤ h0.size) (hone : (f0_0 x0 x1 x2 x3) = 1) :
    MetFree l x (head1 (Jvm.Cond.code x code maxLocals ret :: ws) room_1) (fun a U => a = #[(.int x0), (.int x1), (.int x2), (.int x3)] ∧ Z.Warmed39 U.vm ∧ U.heap = h0) (fun _ _ _ _ _ => True) (fun _ U o U' => ∃ v L, o = .returned v ∧ own_Q own_one n0 v U'.heap L ∧ FrameEnd U o U' L room_1.cells room_1.slots) := by
  refine MetFree.of_bodySF (plainFor_of_name pn0) hisR ?_
  intro p e s m args below meth c s₁ Bd hml0 hP hK
  obtain ⟨rfl, hZ, hh⟩ := hP
  have hx := Bd.exec
  have hby := Bd.bytes
  have hml : c.maxLocals = 19 := hml0
  have hown : s.vm.findClass "com/example/lehre/lehre/TextPositionAdvancePinLaw" = some m.cls := findClass_of_methodNamed Bd.named
  have X0 : Stand p l e room_1 s m #[(.int x0), (.int x1), (.int x2), (.int x3)] below meth c s₁ [] 0 0 := Stand.of_body Bd
  have e0 : s₁.heap = h0 := by rw [← hh, Bd.state]; rfl
  refine own_Goes.pre (S' := s₁.setTop (mkF m 0 #[.val (.int x0), .val (.int x1), .val (.int x2), .val (.int x3), .unset, .unset, .unset, .unset, .unset, .unset, .unset, .unset, .unset, .unset, .unset, .unset, .unset, .unset, .unset] [])) (P := own_one) (n0 := n0) (kc := room_1.cells) (ks := room_1.slots) (fun t k => castTop (ef0 m x0 x1 x2 x3) k) ?_
  exact b0_0 x0 x1 x2 x3 X0 hx hZ hw hby hml hown Bd.returns Bd.notSynchronized e0 Z0 (Fr.nil n0) (by rw [hone]; exact fun _ => rfl)
theorem own_nn (z : Int32) : nar .char (nar .char z) = nar .char z := by
  simp only [nar, UInt32.toUInt32_toInt32, UInt16.toUInt16_toUInt32]
theorem own_pick (x : Int32) : nar .char (f1_0 x) = f1_0 x := by
  simp only [f1_38, f1_34, f1_29, f1_25, f1_20, f1_17, f1_12, f1_9, f1_0]
  split
  · decide
  · split
    · decide
    · split
      · decide
      · split
        · decide
        · exact own_nn _
theorem own_nb0 : nar .boolean (0 : Int32) = 0 := by decide
theorem own_nb1 : nar .boolean (1 : Int32) = 1 := by decide
theorem own_10 : ((1 : Int32) = 0) = False := eq_false (by decide)
theorem own_013 : ((0 : Int32) = 13) = False := eq_false (by decide)
theorem own_a1 : (1 : Int32) + 1 = 2 := by decide
theorem own_a2 : (2 : Int32) + 1 = 3 := by decide
theorem own_a3 : (3 : Int32) + 1 = 4 := by decide
theorem own_z1 : (1 : Int32) + 0 = 1 := by decide
theorem own_z2 : (2 : Int32) + 0 = 2 := by decide
theorem own_z3 : (3 : Int32) + 0 = 3 := by decide
/-- the four kinds of a char: no end; a follower; another end; CR -/
theorem own_kinds (c x : Int32) : (f2_0 c x = 0 ∧ f9_0 c x = 0 ∧ (c = 13) = False) ∨ (f2_0 c x = 1 ∧ f9_0 c x = 1 ∧ (c = 13) = False) ∨ (f2_0 c x = 1 ∧ f9_0 c x = 0 ∧ (c = 13) = False) ∨ (f2_0 c x = 1 ∧ f9_0 c x = 0 ∧ (c = 13) = True) := by
  by_cases h1 : c = 10
  · refine Or.inr (Or.inl ⟨?_, ?_, eq_false (fun q => absurd (h1.symm.trans q) (by decide))⟩) <;> simp only [f2_30, f2_34, f2_23, f2_16, f2_12, f2_6, f2_0, f9_17, f9_21, f9_10, f9_6, f9_0, eq_true h1, ↓reduceIte]
  · by_cases h2 : c = 13
    · have h3 : ¬ c = 133 := fun q => absurd (h2.symm.trans q) (by decide)
      refine Or.inr (Or.inr (Or.inr ⟨?_, ?_, eq_true h2⟩))
      · simp only [f2_30, f2_34, f2_23, f2_16, f2_12, f2_6, f2_0, eq_false h1, eq_true h2, ↓reduceIte]
      · by_cases h4 : x = 0
        · simp only [f9_17, f9_21, f9_10, f9_6, f9_0, eq_false h1, eq_true h4, ↓reduceIte]
        · simp only [f9_17, f9_21, f9_10, f9_6, f9_0, eq_false h1, eq_false h4, eq_false h3, ↓reduceIte]
    · by_cases h4 : x = 0
      · refine Or.inl ⟨?_, ?_, eq_false h2⟩ <;> simp only [f2_30, f2_34, f2_23, f2_16, f2_12, f2_6, f2_0, f9_17, f9_21, f9_10, f9_6, f9_0, eq_false h1, eq_false h2, eq_true h4, ↓reduceIte]
      · by_cases h3 : c = 133
        · refine Or.inr (Or.inl ⟨?_, ?_, eq_false h2⟩) <;> simp only [f2_30, f2_34, f2_23, f2_16, f2_12, f2_6, f2_0, f9_17, f9_21, f9_10, f9_6, f9_0, eq_false h1, eq_false h2, eq_false h4, eq_true h3, ↓reduceIte]
        · by_cases h5 : c = 8232
          · refine Or.inr (Or.inr (Or.inl ⟨?_, ?_, eq_false h2⟩)) <;> simp only [f2_30, f2_34, f2_23, f2_16, f2_12, f2_6, f2_0, f9_17, f9_21, f9_10, f9_6, f9_0, eq_false h1, eq_false h2, eq_false h4, eq_false h3, eq_true h5, ↓reduceIte]
          · refine Or.inl ⟨?_, ?_, eq_false h2⟩ <;> simp only [f2_30, f2_34, f2_23, f2_16, f2_12, f2_6, f2_0, f9_17, f9_21, f9_10, f9_6, f9_0, eq_false h1, eq_false h2, eq_false h4, eq_false h3, eq_false h5, ↓reduceIte]
/-- what advance does, by the law's own words -/
theorem own_f8 (c w0 w1 w2 w3 : Int32) : f8_0 c w0 w1 w2 w3 = if f9_0 c w2 = 0 then (if f2_0 c w2 = 0 then (w0, w1 + 1, w2, nar .char c) else (w0 + 1, 1, w2, nar .char c)) else (if w3 = 13 then (w0, 1, w2, nar .char c) else (w0 + 1, 1, w2, nar .char c)) := by
  by_cases h6 : w3 = 13 <;> by_cases h1 : c = 10
  · simp only [f8_54, f8_44, f8_40, f8_82, f8_100, f8_75, f8_68, f8_62, f8_33, f8_26, f8_14, f8_13, f8_9, f8_0, f2_30, f2_34, f2_23, f2_16, f2_12, f2_6, f2_0, f9_17, f9_21, f9_10, f9_6, f9_0, eq_true h6, eq_true h1, own_10, ↓reduceIte]
  · by_cases h4 : w2 = 0 <;> by_cases h2 : c = 13
    · simp only [f8_54, f8_44, f8_40, f8_82, f8_100, f8_75, f8_68, f8_62, f8_33, f8_26, f8_14, f8_13, f8_9, f8_0, f2_30, f2_34, f2_23, f2_16, f2_12, f2_6, f2_0, f9_17, f9_21, f9_10, f9_6, f9_0, eq_true h6, eq_false h1, eq_true h4, eq_true h2, own_10, ↓reduceIte]
    · simp only [f8_54, f8_44, f8_40, f8_82, f8_100, f8_75, f8_68, f8_62, f8_33, f8_26, f8_14, f8_13, f8_9, f8_0, f2_30, f2_34, f2_23, f2_16, f2_12, f2_6, f2_0, f9_17, f9_21, f9_10, f9_6, f9_0, eq_true h6, eq_false h1, eq_true h4, eq_false h2, own_10, ↓reduceIte]
    · have h3 : ¬ c = 133 := fun q => absurd (h2.symm.trans q) (by decide)
      simp only [f8_54, f8_44, f8_40, f8_82, f8_100, f8_75, f8_68, f8_62, f8_33, f8_26, f8_14, f8_13, f8_9, f8_0, f2_30, f2_34, f2_23, f2_16, f2_12, f2_6, f2_0, f9_17, f9_21, f9_10, f9_6, f9_0, eq_true h6, eq_false h1, eq_false h4, eq_true h2, eq_false h3, own_10, ↓reduceIte]
    · by_cases h3 : c = 133 <;> by_cases h5 : c = 8232
      · exact absurd (h3.symm.trans h5) (by decide)
      · simp only [f8_54, f8_44, f8_40, f8_82, f8_100, f8_75, f8_68, f8_62, f8_33, f8_26, f8_14, f8_13, f8_9, f8_0, f2_30, f2_34, f2_23, f2_16, f2_12, f2_6, f2_0, f9_17, f9_21, f9_10, f9_6, f9_0, eq_true h6, eq_false h1, eq_false h4, eq_false h2, eq_true h3, own_10, ↓reduceIte]
      · simp only [f8_54, f8_44, f8_40, f8_82, f8_100, f8_75, f8_68, f8_62, f8_33, f8_26, f8_14, f8_13, f8_9, f8_0, f2_30, f2_34, f2_23, f2_16, f2_12, f2_6, f2_0, f9_17, f9_21, f9_10, f9_6, f9_0, eq_true h6, eq_false h1, eq_false h4, eq_false h2, eq_false h3, eq_true h5, own_10, ↓reduceIte]
      · simp only [f8_54, f8_44, f8_40, f8_82, f8_100, f8_75, f8_68, f8_62, f8_33, f8_26, f8_14, f8_13, f8_9, f8_0, f2_30, f2_34, f2_23, f2_16, f2_12, f2_6, f2_0, f9_17, f9_21, f9_10, f9_6, f9_0, eq_true h6, eq_false h1, eq_false h4, eq_false h2, eq_false h3, eq_false h5, own_10, ↓reduceIte]
  · simp only [f8_54, f8_44, f8_40, f8_82, f8_100, f8_75, f8_68, f8_62, f8_33, f8_26, f8_14, f8_13, f8_9, f8_0, f2_30, f2_34, f2_23, f2_16, f2_12, f2_6, f2_0, f9_17, f9_21, f9_10, f9_6, f9_0, eq_false h6, eq_true h1, own_10, ↓reduceIte]
  · by_cases h4 : w2 = 0 <;> by_cases h2 : c = 13
    · simp only [f8_54, f8_44, f8_40, f8_82, f8_100, f8_75, f8_68, f8_62, f8_33, f8_26, f8_14, f8_13, f8_9, f8_0, f2_30, f2_34, f2_23, f2_16, f2_12, f2_6, f2_0, f9_17, f9_21, f9_10, f9_6, f9_0, eq_false h6, eq_false h1, eq_true h4, eq_true h2, own_10, ↓reduceIte]
    · simp only [f8_54, f8_44, f8_40, f8_82, f8_100, f8_75, f8_68, f8_62, f8_33, f8_26, f8_14, f8_13, f8_9, f8_0, f2_30, f2_34, f2_23, f2_16, f2_12, f2_6, f2_0, f9_17, f9_21, f9_10, f9_6, f9_0, eq_false h6, eq_false h1, eq_true h4, eq_false h2, own_10, ↓reduceIte]
    · have h3 : ¬ c = 133 := fun q => absurd (h2.symm.trans q) (by decide)
      simp only [f8_54, f8_44, f8_40, f8_82, f8_100, f8_75, f8_68, f8_62, f8_33, f8_26, f8_14, f8_13, f8_9, f8_0, f2_30, f2_34, f2_23, f2_16, f2_12, f2_6, f2_0, f9_17, f9_21, f9_10, f9_6, f9_0, eq_false h6, eq_false h1, eq_false h4, eq_true h2, eq_false h3, own_10, ↓reduceIte]
    · by_cases h3 : c = 133 <;> by_cases h5 : c = 8232
      · exact absurd (h3.symm.trans h5) (by decide)
      · simp only [f8_54, f8_44, f8_40, f8_82, f8_100, f8_75, f8_68, f8_62, f8_33, f8_26, f8_14, f8_13, f8_9, f8_0, f2_30, f2_34, f2_23, f2_16, f2_12, f2_6, f2_0, f9_17, f9_21, f9_10, f9_6, f9_0, eq_false h6, eq_false h1, eq_false h4, eq_false h2, eq_true h3, own_10, ↓reduceIte]
      · simp only [f8_54, f8_44, f8_40, f8_82, f8_100, f8_75, f8_68, f8_62, f8_33, f8_26, f8_14, f8_13, f8_9, f8_0, f2_30, f2_34, f2_23, f2_16, f2_12, f2_6, f2_0, f9_17, f9_21, f9_10, f9_6, f9_0, eq_false h6, eq_false h1, eq_false h4, eq_false h2, eq_false h3, eq_true h5, own_10, ↓reduceIte]
      · simp only [f8_54, f8_44, f8_40, f8_82, f8_100, f8_75, f8_68, f8_62, f8_33, f8_26, f8_14, f8_13, f8_9, f8_0, f2_30, f2_34, f2_23, f2_16, f2_12, f2_6, f2_0, f9_17, f9_21, f9_10, f9_6, f9_0, eq_false h6, eq_false h1, eq_false h4, eq_false h2, eq_false h3, eq_false h5, own_10, ↓reduceIte]
set_option maxHeartbeats 40000000 in
theorem own_law31 (x0 x1 x2 x3 x4 c0 c1 c2 : Int32) (hx : nar .boolean x4 = x4) (h0 : nar .char c0 = c0) (h1 : nar .char c1 = c1) (h2 : nar .char c2 = c2) : f0_31 x0 x1 x2 x3 x4 c0 c1 c2 = 1 := by
  rcases own_kinds c0 x4 with ⟨a0, b0, r0⟩ | ⟨a0, b0, r0⟩ | ⟨a0, b0, r0⟩ | ⟨a0, b0, r0⟩ <;>
  rcases own_kinds c1 x4 with ⟨a1, b1, r1⟩ | ⟨a1, b1, r1⟩ | ⟨a1, b1, r1⟩ | ⟨a1, b1, r1⟩ <;>
  rcases own_kinds c2 x4 with ⟨a2, b2, r2⟩ | ⟨a2, b2, r2⟩ | ⟨a2, b2, r2⟩ | ⟨a2, b2, r2⟩ <;>
  simp only [f0B_316, f0B_315, f0B_311, f0B_301, f0B_291, f0B_277, f0B_276, f0B_272, f0B_262, f0B_252, f0B_238, f0B_237, f0B_233, f0B_223, f0B_213, f0B_199, f0B_198, f0B_194, f0B_185, f0B_176, f0_165, f0_163, f0_162, f0_158, f0_153, f0_149, f0_144, f0_140, f0_133, f0_132, f0_128, f0_123, f0_119, f0_112, f0_111, f0_107, f0_102, f0_58, f0_31, f0_11, f0_10, f0_6, f3_30, f3_28, f3_20, f3_14, f3_10, f3_8, f3_0, f6_0, f7_0, own_f8, hx, h0, h1, h2, a0, b0, r0, a1, b1, r1, a2, b2, r2, own_nb1, own_10, own_013, own_a1, own_a2, own_a3, own_z1, own_z2, own_z3, ↓reduceIte]
theorem own_law (i0 i1 i2 i3 : Int32) : f0_0 i0 i1 i2 i3 = 1 := by
  rw [f0_0]
  split
  · rw [f0_10, f0_11]; exact own_law31 _ _ _ _ _ _ _ _ own_nb0 (own_pick _) (own_pick _) (own_pick _)
  · rw [f0_6, f0_11]; exact own_law31 _ _ _ _ _ _ _ _ own_nb1 (own_pick _) (own_pick _) (own_pick _)
set_option maxRecDepth 65536 in
set_option maxHeartbeats 40000000 in
theorem comes_1 {Post : Tables → Env → Array Value → State → Outcome → State → Prop} (hpost : ∀ tb e args s v u, (limb_1_1.after args s (.returned v) u = true ∧ limb_1_2.after args s (.returned v) u = true ∧ True) → FrameEnd s (.returned v) u (Jvm.fieldLocs frame_1_writes args s ++ Jvm.arrayLocs frame_1_arrays args s ++ Jvm.staticLocs frame_1_statics s) 16 128 → Post tb e args s (.returned v) u) :
    ArmFor flags0 classFile x code maxLocals ret World_1 tables_1 room_1 Calls_1 rest_1 Pre_1 Post := by
  intro l hfl _ _ p e ha hc hk s m args below hf hA hF happ hP
  obtain ⟨hcalls, hrest, hpre⟩ := hP
  obtain ⟨-, -, -, hnamed, -, -, -, hat⟩ := (Spec.applies_iff hf).mp happ
  obtain ⟨hg, hn⟩ := and_e (Cond.before_iff.mp (show (Jvm.Cond.and given_1 narrow_1).before args s = true from hpre))
  obtain ⟨gc, g0⟩ := and_e hg
  obtain ⟨q0, g1⟩ := and_e g0
  obtain ⟨q1, g2⟩ := and_e g1
  obtain ⟨q2, g3⟩ := and_e g2
  obtain ⟨w0, w1, w2, w3, rfl⟩ : ∃ w0 w1 w2 w3 : Value, args = #[w0, w1, w2, w3] := by
    have hs : args.size = 4 := by simpa [Cond.value, given_1] using gc
    obtain ⟨L⟩ := args
    match L, hs with
    | [w0, w1, w2, w3], _ => exact ⟨w0, w1, w2, w3, rfl⟩
  have hw := fun d (hd : d ∈ tables_1) => atoms_spec (ws := Jvm.Cond.code x code maxLocals ret :: tables_1) hat d (List.mem_cons_of_mem _ hd)
  obtain ⟨i0, ei0⟩ := is_v q0
  obtain rfl : w0 = (.int i0) := Option.some.inj ei0
  obtain ⟨i1, ei1⟩ := is_v q1
  obtain rfl : w1 = (.int i1) := Option.some.inj ei1
  obtain ⟨i2, ei2⟩ := is_v q2
  obtain rfl : w2 = (.int i2) := Option.some.inj ei2
  obtain ⟨i3, ei3⟩ := is_v g3
  obtain rfl : w3 = (.int i3) := Option.some.inj ei3
  obtain ⟨n, o, h1, h2, h3, _, L, rfl, ⟨rfl, N⟩, hq⟩ := rm0 l s _ hw tables_1 i0 i1 i2 i3 s.heap s.heap.size (Nat.le_refl _) (own_law i0 i1 i2 i3) p e ha hc hk s m _ below hf ((Spec.applies_iff_loose hf).mp happ).1 ⟨rfl, State.Warmed39.refl s, rfl⟩ trivial
  refine ⟨n, _, h1, h2, h3, hpost _ _ _ _ _ _ ⟨Cond.after_iff.mpr rfl, Cond.after_iff.mpr (eq_i res_at (Term.int_eval (1)) rfl), trivial⟩ ⟨hq.1, hq.2.1, (hq.2.2.sift fun y hy => Or.inr (N y hy)).mono (by decide) (by decide)⟩⟩
theorem main_1_1 : Claimed_1_1 := comes_1 fun _ _ _ _ _ _ h hF => ⟨h.1, hF⟩
theorem main_1_2 : Claimed_1_2 := comes_1 fun _ _ _ _ _ _ h hF => ⟨h.2.1, hF⟩
end Jvm.Pilot.@@N@@
namespace Jvm.Pilot.@@N@@
open Jvm Jvm.ClassFile Sem Op Lib Jvm.Free Jvm.Stand Jvm.Pilot.@@N@@.Jvm.D
/-! MADE BY PROGRAM (witnessworld.py) out of the Statement's table words and the real class files: 9 classes; the members and pool entries that the words name. The judged class is class 1, her method 5. -/
namespace start1
open Jvm.ClassFile
def u (s : String) : CpInfo := .utf8 (stringToUtf16 s)
/-- a pool by its gaps: so many unusable entries, then the entry; so many at the end -/
def gap : Nat → List CpInfo → List CpInfo
  | 0, r => r
  | n + 1, r => .unusable :: gap n r
def poolList (es : List (Nat × CpInfo)) (last : Nat) : List CpInfo := es.foldr (fun e r => gap e.1 (e.2 :: r)) (gap last [])
def pool (es : List (Nat × CpInfo)) (last : Nat) : Array CpInfo := ⟨poolList es last⟩
def fileOf (pool : Array CpInfo) (this : Nat) (attrs : Array Attribute := #[]) (ms : Array MethodInfo := #[]) (fl : Nat := 33) (sup : Nat := 0) (ifs : Array Nat := #[]) (fds : Array FieldInfo := #[]) : ClassFile where
  minorVersion := 0
  majorVersion := 65
  constantPool := pool
  accessFlags := fl
  thisClass := this
  superClass := sup
  interfaces := ifs
  fields := fds
  methods := ms
  attributes := attrs
def plain (name : String) (sup : Option ClassId) : Class where
  name := name
  kind := .ordinary
  loader := none
  accessFlags := 33
  super := sup
  interfaces := #[]
  cf := none
  fields := #[]
  methods := #[]
  instanceTypes := #[]
  staticTypes := #[]
  resolved := #[]
  callSites := []
  init := .initialized
  statics := none
  mirror := none

def pool0 : Array CpInfo := pool [(5, u "<init>"), (0, u "()V"), (1, .class_ 10), (1, u "java/lang/Object")] 113

def k0c0 : Code := { maxStack := 0, maxLocals := 1, code := object_method_1_code, exceptionTable := #[], attributes := #[] }
def k0m0 : Method := { name := "<init>", desc := "()V", sig := { parameters := [], returnType := none }, accessFlags := 1, code := some k0c0 }
/-- java/lang/Object -/
def k0 : Class := { plain "java/lang/Object" none with
  accessFlags := 33
  interfaces := #[]
  cf := some (fileOf pool0 8 #[] #[{ accessFlags := 1, nameIndex := 5, descriptorIndex := 6, attributes := #[] }] 33 0 #[] #[])
  fields := #[]
  methods := #[k0m0]
  instanceTypes := #[]
  staticTypes := #[]
  resolved := Array.replicate 124 none
  statics := none }

def pool1 : Array CpInfo := pool [(2, .class_ 4), (1, u "java/lang/Object"), (0, u "<init>"), (0, u "()V"), (0, .methodref 8 9), (0, .class_ 10), (0, .nameAndType 11 12), (0, u "com/example/lehre/lehre/TextPositionAdvancePinLaw"), (0, u "isEnd"), (0, u "(CZ)Z"), (0, .methodref 8 14), (0, .nameAndType 15 12), (0, u "isFollower"), (0, .methodref 8 17), (0, .nameAndType 18 19), (0, u "pick"), (0, u "(I)C"), (0, .methodref 8 21), (0, .nameAndType 22 23), (0, u "breaks"), (0, u "(CZCZ)I"), (0, .class_ 25), (0, u "com/example/lehre/lehre/TextPosition"), (0, .methodref 24 27), (0, .nameAndType 5 28), (0, u "(Z)V"), (0, .methodref 24 30), (0, .nameAndType 31 32), (0, u "line"), (0, u "()I"), (0, .methodref 24 34), (0, .nameAndType 35 32), (0, u "column"), (0, .methodref 24 37), (0, .nameAndType 38 39), (0, u "advance"), (0, u "(C)V"), (3, u "law"), (0, u "(IIII)Z")] 2

def k1m0 : Method := { name := "<init>", desc := "()V", sig := { parameters := [], returnType := none }, accessFlags := 1, code := none }
def k1c1 : Code := { maxStack := 2, maxLocals := 2, code := method_2_code, exceptionTable := #[], attributes := #[] }
def k1m1 : Method := { name := "pick", desc := "(I)C", sig := { parameters := [.int], returnType := some .char }, accessFlags := 10, code := some k1c1 }
def k1c2 : Code := { maxStack := 2, maxLocals := 2, code := method_3_code, exceptionTable := #[], attributes := #[] }
def k1m2 : Method := { name := "isEnd", desc := "(CZ)Z", sig := { parameters := [.char, .boolean], returnType := some .boolean }, accessFlags := 10, code := some k1c2 }
def k1c3 : Code := { maxStack := 2, maxLocals := 2, code := method_4_code, exceptionTable := #[], attributes := #[] }
def k1m3 : Method := { name := "isFollower", desc := "(CZ)Z", sig := { parameters := [.char, .boolean], returnType := some .boolean }, accessFlags := 10, code := some k1c3 }
def k1c4 : Code := { maxStack := 2, maxLocals := 4, code := method_5_code, exceptionTable := #[], attributes := #[] }
def k1m4 : Method := { name := "breaks", desc := "(CZCZ)I", sig := { parameters := [.char, .boolean, .char, .boolean], returnType := some .int }, accessFlags := 10, code := some k1c4 }
def k1c5 : Code := { maxStack := 5, maxLocals := 19, code := code, exceptionTable := #[], attributes := #[] }
def k1m5 : Method := { name := "law", desc := "(IIII)Z", sig := { parameters := [.int, .int, .int, .int], returnType := some .boolean }, accessFlags := 9, code := some k1c5 }
/-- com/example/lehre/lehre/TextPositionAdvancePinLaw -/
def k1 : Class := { plain "com/example/lehre/lehre/TextPositionAdvancePinLaw" (some 0) with
  accessFlags := 49
  interfaces := #[]
  cf := some (fileOf pool1 8 #[] #[{ accessFlags := 1, nameIndex := 5, descriptorIndex := 6, attributes := #[] }, { accessFlags := 10, nameIndex := 18, descriptorIndex := 19, attributes := #[] }, { accessFlags := 10, nameIndex := 11, descriptorIndex := 12, attributes := #[] }, { accessFlags := 10, nameIndex := 15, descriptorIndex := 12, attributes := #[] }, { accessFlags := 10, nameIndex := 22, descriptorIndex := 23, attributes := #[] }, { accessFlags := 9, nameIndex := 43, descriptorIndex := 44, attributes := #[] }] 49 2 #[] #[])
  fields := #[]
  methods := #[k1m0, k1m1, k1m2, k1m3, k1m4, k1m5]
  instanceTypes := #[]
  staticTypes := #[]
  resolved := Array.replicate 47 none
  statics := none }

def pool2 : Array CpInfo := pool [(1, .methodref 2 3), (0, .class_ 4), (0, .nameAndType 5 6), (0, u "java/lang/Object"), (0, u "<init>"), (0, u "()V"), (0, .fieldref 8 9), (0, .class_ 10), (0, .nameAndType 11 12), (0, u "com/example/lehre/lehre/TextPosition"), (0, u "line"), (0, u "I"), (0, .fieldref 8 14), (0, .nameAndType 15 12), (0, u "column"), (0, .fieldref 8 17), (0, .nameAndType 18 19), (0, u "xml11"), (0, u "Z"), (0, .fieldref 8 21), (0, .nameAndType 22 23), (0, u "previous"), (0, u "C"), (0, u "BYTE_ORDER_MARK"), (2, u "NEXT_LINE"), (1, u "LINE_SEPARATOR"), (1, u "(Z)V"), (2, u "()I"), (0, u "advance"), (0, u "(C)V")] 3

def k2c0 : Code := { maxStack := 2, maxLocals := 2, code := prog_42_method_1_code, exceptionTable := #[], attributes := #[] }
def k2m0 : Method := { name := "<init>", desc := "(Z)V", sig := { parameters := [.boolean], returnType := none }, accessFlags := 0, code := some k2c0 }
def k2c1 : Code := { maxStack := 1, maxLocals := 1, code := prog_42_method_2_code, exceptionTable := #[], attributes := #[] }
def k2m1 : Method := { name := "line", desc := "()I", sig := { parameters := [], returnType := some .int }, accessFlags := 0, code := some k2c1 }
def k2c2 : Code := { maxStack := 1, maxLocals := 1, code := prog_42_method_3_code, exceptionTable := #[], attributes := #[] }
def k2m2 : Method := { name := "column", desc := "()I", sig := { parameters := [], returnType := some .int }, accessFlags := 0, code := some k2c2 }
def k2c3 : Code := { maxStack := 3, maxLocals := 3, code := prog_42_method_4_code, exceptionTable := #[], attributes := #[] }
def k2m3 : Method := { name := "advance", desc := "(C)V", sig := { parameters := [.char], returnType := none }, accessFlags := 0, code := some k2c3 }
/-- com/example/lehre/lehre/TextPosition -/
def k2 : Class := { plain "com/example/lehre/lehre/TextPosition" (some 0) with
  accessFlags := 32
  interfaces := #[]
  cf := some (fileOf pool2 8 #[] #[{ accessFlags := 0, nameIndex := 5, descriptorIndex := 31, attributes := #[] }, { accessFlags := 0, nameIndex := 11, descriptorIndex := 34, attributes := #[] }, { accessFlags := 0, nameIndex := 15, descriptorIndex := 34, attributes := #[] }, { accessFlags := 0, nameIndex := 35, descriptorIndex := 36, attributes := #[] }] 32 2 #[] #[{ accessFlags := 24, nameIndex := 24, descriptorIndex := 23, attributes := #[] }, { accessFlags := 26, nameIndex := 27, descriptorIndex := 23, attributes := #[] }, { accessFlags := 26, nameIndex := 29, descriptorIndex := 23, attributes := #[] }, { accessFlags := 18, nameIndex := 18, descriptorIndex := 19, attributes := #[] }, { accessFlags := 2, nameIndex := 11, descriptorIndex := 12, attributes := #[] }, { accessFlags := 2, nameIndex := 15, descriptorIndex := 12, attributes := #[] }, { accessFlags := 2, nameIndex := 22, descriptorIndex := 23, attributes := #[] }])
  fields := #[{ name := "BYTE_ORDER_MARK", type := .char, accessFlags := 24, slot := 0, constantValue := 0 }, { name := "NEXT_LINE", type := .char, accessFlags := 26, slot := 1, constantValue := 0 }, { name := "LINE_SEPARATOR", type := .char, accessFlags := 26, slot := 2, constantValue := 0 }, { name := "xml11", type := .boolean, accessFlags := 18, slot := 0, constantValue := 0 }, { name := "line", type := .int, accessFlags := 2, slot := 1, constantValue := 0 }, { name := "column", type := .int, accessFlags := 2, slot := 2, constantValue := 0 }, { name := "previous", type := .char, accessFlags := 2, slot := 3, constantValue := 0 }]
  methods := #[k2m0, k2m1, k2m2, k2m3]
  instanceTypes := #[.boolean, .int, .int, .char]
  staticTypes := #[.char, .char, .char]
  resolved := Array.replicate 40 none
  statics := none }

def pool3 : Array CpInfo := pool [(1, u "java/lang/Cloneable"), (0, .class_ 1), (0, u "java/lang/Object"), (0, .class_ 3)] 3

/-- java/lang/Cloneable -/
def k3 : Class := { plain "java/lang/Cloneable" (some 0) with
  accessFlags := 1537
  interfaces := #[]
  cf := some (fileOf pool3 2 #[] #[] 1537 4 #[] #[])
  fields := #[]
  methods := #[]
  instanceTypes := #[]
  staticTypes := #[]
  resolved := Array.replicate 8 none
  statics := none }

def pool4 : Array CpInfo := pool [(1, u "java/io/Serializable"), (0, .class_ 1), (0, u "java/lang/Object"), (0, .class_ 3)] 3

/-- java/io/Serializable -/
def k4 : Class := { plain "java/io/Serializable" (some 0) with
  accessFlags := 1537
  interfaces := #[]
  cf := some (fileOf pool4 2 #[] #[] 1537 4 #[] #[])
  fields := #[]
  methods := #[]
  instanceTypes := #[]
  staticTypes := #[]
  resolved := Array.replicate 8 none
  statics := none }

/-- the primitive byte -/
def k5 : Class := { plain "byte" none with kind := .primitive 'B', accessFlags := 0x411 }
/-- [B -/
def k6 : Class := { plain "[B" (some 0) with kind := .array 5 .byte, interfaces := #[3, 4], accessFlags := 1041 }

/-- the primitive int -/
def k7 : Class := { plain "int" none with kind := .primitive 'I', accessFlags := 0x411 }
/-- [I -/
def k8 : Class := { plain "[I" (some 0) with kind := .array 7 .int, interfaces := #[3, 4], accessFlags := 1041 }

def heap : Heap := #[]
def classes : Array Class := #[k0, k1, k2, k3, k4, k5, k6, k7, k8]
def interned : List (Array UInt16 × Addr) := []
def slotsUsed : Nat := 0
def theMethod : MethodId := ⟨1, 5⟩
def args0 : Array Value := #[.int 1, .int 300, .int 2, .int 9]
def aboutOver (below : List Frame) : State where
  vm := { classes := classes, interned := interned.toArray }
  heap := heap
  slotsUsed := slotsUsed
  threads := #[{ frames := .invoking theMethod args0 :: below }]
def below0 : List Frame := [.native { method := ⟨0, 0⟩, args := #[] }]
def about1 : State := aboutOver below0
def p0 : Program := .bare "" "" ""
def e0 : Env := launch0.env 0 0 0
theorem w_frames : about1.frames = Frame.invoking theMethod args0 :: below0 := rfl
set_option maxRecDepth 65536 in
theorem w_args : argsFit about1.vm theMethod args0 = true := by decide +kernel
set_option maxRecDepth 65536 in
theorem w_heap : heapFits about1 = true := by decide +kernel
set_option maxRecDepth 65536 in
theorem w_runnable : about1.curStatus? = some .runnable := by decide +kernel
set_option maxRecDepth 65536 in
theorem w_alone : about1.alone = true := by decide +kernel
set_option maxRecDepth 65536 in
theorem w_named : about1.methodNamed? x = some theMethod := by decide +kernel
set_option maxRecDepth 65536 in
theorem w_hears : about1.hears theMethod below0 = true := by decide +kernel
set_option maxRecDepth 65536 in
theorem w_ripe : about1.ripe theMethod args0 below0 = true := by decide +kernel
theorem w_running : about1.status = .running := rfl
set_option maxRecDepth 65536 in
theorem w_room : about1.hasRoom e0.platform room_1 = true :=
  launch0.hasRoom_least _ room_1 (by decide +kernel) (by decide +kernel) (by decide +kernel) (by decide +kernel) (by decide +kernel) (by decide +kernel)
theorem allAtoms_all (ts : List Jvm.Cond) (a : Array Jvm.Value) (st : Jvm.State) : (allAtoms ts).before a st = ts.all (fun c => c.before a st) := by
  induction ts with
  | nil => rfl
  | cons c t ih =>
    show (Jvm.Cond.and c (allAtoms t)).before a st = _
    rw [Jvm.Cond.before_and, ih, List.all_cons]
def words1 : List Jvm.Cond := Jvm.Cond.code x code maxLocals ret :: tables_1
/-- a 'code' word, met by the world's own term for the bytes: nothing is compared byte by byte -/
theorem code_word {y : MethodName} {bytes : ByteArray} {mx : Nat} {rt : Option FieldType} {a : Array Value} {s : State} {m : MethodId} {meth : Method} {c : Code} (h1 : s.methodNamed? y = some m) (h2 : s.vm.method? m = some meth) (h3 : meth.code = some c) (h4 : c.code = bytes)
    (h5 : (c.maxLocals == mx && c.exceptionTable.isEmpty && decide (c.maxStack ≤ mostOperands) && decide (meth.sig.returnType = rt) && !meth.locks && decide (parseMethodDescriptor y.desc = some meth.sig)) = true) : (Jvm.Cond.code y bytes mx rt).before a s = true := by
  simp only [Bool.and_eq_true, beq_iff_eq, Bool.not_eq_true', decide_eq_true_eq] at h5
  obtain ⟨⟨⟨⟨⟨g1, g2⟩, g3⟩, g4⟩, g5⟩, g6⟩ := h5
  simp [Cond.before, Cond.holds, Cond.value, h1, h2, h3, h4, g1, g2, g3, g4, g5, g6]
def isCode : Jvm.Cond → Bool
  | .code _ _ _ _ => true
  | _ => false
theorem all_split {L : List Jvm.Cond} {P : Jvm.Cond → Bool} (h1 : L.all (fun c => isCode c || P c) = true) (h2 : ∀ c ∈ L.filter isCode, P c = true) : L.all P = true := by
  refine List.all_eq_true.mpr fun c hc => ?_
  have h := List.all_eq_true.mp h1 c hc
  rcases Bool.eq_false_or_eq_true (isCode c) with hi | hi
  · exact h2 c (List.mem_filter.mpr ⟨hc, hi⟩)
  · simpa [hi] using h
set_option maxRecDepth 65536 in
theorem w_c0 : (Jvm.Cond.code x code maxLocals ret).before args0 about1 = true := code_word (m := ⟨1, 5⟩) (meth := k1m5) (c := k1c5) (by decide +kernel) rfl rfl rfl (by decide +kernel)
set_option maxRecDepth 65536 in
theorem w_c1 : (Jvm.Cond.code ({ cls := "com/example/lehre/lehre/TextPositionAdvancePinLaw", name := "pick", desc := "(I)C" } : Jvm.MethodName) method_2_code (2 : Nat) (Option.some Jvm.ClassFile.FieldType.char)).before args0 about1 = true := code_word (m := ⟨1, 1⟩) (meth := k1m1) (c := k1c1) (by decide +kernel) rfl rfl rfl (by decide +kernel)
set_option maxRecDepth 65536 in
theorem w_c2 : (Jvm.Cond.code ({ cls := "com/example/lehre/lehre/TextPositionAdvancePinLaw", name := "isEnd", desc := "(CZ)Z" } : Jvm.MethodName) method_3_code (2 : Nat) (Option.some Jvm.ClassFile.FieldType.boolean)).before args0 about1 = true := code_word (m := ⟨1, 2⟩) (meth := k1m2) (c := k1c2) (by decide +kernel) rfl rfl rfl (by decide +kernel)
set_option maxRecDepth 65536 in
theorem w_c3 : (Jvm.Cond.code ({ cls := "com/example/lehre/lehre/TextPositionAdvancePinLaw", name := "breaks", desc := "(CZCZ)I" } : Jvm.MethodName) method_5_code (4 : Nat) (Option.some Jvm.ClassFile.FieldType.int)).before args0 about1 = true := code_word (m := ⟨1, 4⟩) (meth := k1m4) (c := k1c4) (by decide +kernel) rfl rfl rfl (by decide +kernel)
set_option maxRecDepth 65536 in
theorem w_c4 : (Jvm.Cond.code ({ cls := "com/example/lehre/lehre/TextPosition", name := "<init>", desc := "(Z)V" } : Jvm.MethodName) prog_42_method_1_code (2 : Nat) (Option.none : Option Jvm.ClassFile.FieldType)).before args0 about1 = true := code_word (m := ⟨2, 0⟩) (meth := k2m0) (c := k2c0) (by decide +kernel) rfl rfl rfl (by decide +kernel)
set_option maxRecDepth 65536 in
theorem w_c5 : (Jvm.Cond.code ({ cls := "java/lang/Object", name := "<init>", desc := "()V" } : Jvm.MethodName) object_method_1_code (1 : Nat) (Option.none : Option Jvm.ClassFile.FieldType)).before args0 about1 = true := code_word (m := ⟨0, 0⟩) (meth := k0m0) (c := k0c0) (by decide +kernel) rfl rfl rfl (by decide +kernel)
set_option maxRecDepth 65536 in
theorem w_c6 : (Jvm.Cond.code ({ cls := "com/example/lehre/lehre/TextPosition", name := "line", desc := "()I" } : Jvm.MethodName) prog_42_method_2_code (1 : Nat) (Option.some Jvm.ClassFile.FieldType.int)).before args0 about1 = true := code_word (m := ⟨2, 1⟩) (meth := k2m1) (c := k2c1) (by decide +kernel) rfl rfl rfl (by decide +kernel)
set_option maxRecDepth 65536 in
theorem w_c7 : (Jvm.Cond.code ({ cls := "com/example/lehre/lehre/TextPosition", name := "column", desc := "()I" } : Jvm.MethodName) prog_42_method_3_code (1 : Nat) (Option.some Jvm.ClassFile.FieldType.int)).before args0 about1 = true := code_word (m := ⟨2, 2⟩) (meth := k2m2) (c := k2c2) (by decide +kernel) rfl rfl rfl (by decide +kernel)
set_option maxRecDepth 65536 in
theorem w_c8 : (Jvm.Cond.code ({ cls := "com/example/lehre/lehre/TextPosition", name := "advance", desc := "(C)V" } : Jvm.MethodName) prog_42_method_4_code (3 : Nat) (Option.none : Option Jvm.ClassFile.FieldType)).before args0 about1 = true := code_word (m := ⟨2, 3⟩) (meth := k2m3) (c := k2c3) (by decide +kernel) rfl rfl rfl (by decide +kernel)
set_option maxRecDepth 65536 in
theorem w_c9 : (Jvm.Cond.code ({ cls := "com/example/lehre/lehre/TextPositionAdvancePinLaw", name := "isFollower", desc := "(CZ)Z" } : Jvm.MethodName) method_4_code (2 : Nat) (Option.some Jvm.ClassFile.FieldType.boolean)).before args0 about1 = true := code_word (m := ⟨1, 3⟩) (meth := k1m3) (c := k1c3) (by decide +kernel) rfl rfl rfl (by decide +kernel)
def codes1 : List Jvm.Cond := [Jvm.Cond.code x code maxLocals ret, Jvm.Cond.code ({ cls := "com/example/lehre/lehre/TextPositionAdvancePinLaw", name := "pick", desc := "(I)C" } : Jvm.MethodName) method_2_code (2 : Nat) (Option.some Jvm.ClassFile.FieldType.char), Jvm.Cond.code ({ cls := "com/example/lehre/lehre/TextPositionAdvancePinLaw", name := "isEnd", desc := "(CZ)Z" } : Jvm.MethodName) method_3_code (2 : Nat) (Option.some Jvm.ClassFile.FieldType.boolean), Jvm.Cond.code ({ cls := "com/example/lehre/lehre/TextPositionAdvancePinLaw", name := "breaks", desc := "(CZCZ)I" } : Jvm.MethodName) method_5_code (4 : Nat) (Option.some Jvm.ClassFile.FieldType.int), Jvm.Cond.code ({ cls := "com/example/lehre/lehre/TextPosition", name := "<init>", desc := "(Z)V" } : Jvm.MethodName) prog_42_method_1_code (2 : Nat) (Option.none : Option Jvm.ClassFile.FieldType), Jvm.Cond.code ({ cls := "java/lang/Object", name := "<init>", desc := "()V" } : Jvm.MethodName) object_method_1_code (1 : Nat) (Option.none : Option Jvm.ClassFile.FieldType), Jvm.Cond.code ({ cls := "com/example/lehre/lehre/TextPosition", name := "line", desc := "()I" } : Jvm.MethodName) prog_42_method_2_code (1 : Nat) (Option.some Jvm.ClassFile.FieldType.int), Jvm.Cond.code ({ cls := "com/example/lehre/lehre/TextPosition", name := "column", desc := "()I" } : Jvm.MethodName) prog_42_method_3_code (1 : Nat) (Option.some Jvm.ClassFile.FieldType.int), Jvm.Cond.code ({ cls := "com/example/lehre/lehre/TextPosition", name := "advance", desc := "(C)V" } : Jvm.MethodName) prog_42_method_4_code (3 : Nat) (Option.none : Option Jvm.ClassFile.FieldType), Jvm.Cond.code ({ cls := "com/example/lehre/lehre/TextPositionAdvancePinLaw", name := "isFollower", desc := "(CZ)Z" } : Jvm.MethodName) method_4_code (2 : Nat) (Option.some Jvm.ClassFile.FieldType.boolean)]
set_option maxRecDepth 65536 in
theorem codes_eq : words1.filter isCode = codes1 := rfl
theorem w_codes : ∀ c ∈ words1.filter isCode, c.before args0 about1 = true := by
  rw [codes_eq]
  intro c hc
  simp only [codes1, List.mem_cons, List.not_mem_nil, or_false] at hc
  rcases hc with rfl | rfl | rfl | rfl | rfl | rfl | rfl | rfl | rfl | rfl
  · exact w_c0
  · exact w_c1
  · exact w_c2
  · exact w_c3
  · exact w_c4
  · exact w_c5
  · exact w_c6
  · exact w_c7
  · exact w_c8
  · exact w_c9
set_option maxRecDepth 65536 in
theorem w_t1 : (words1.take 24).all (fun c => isCode c || c.before args0 about1) = true := by decide +kernel
set_option maxRecDepth 65536 in
theorem w_t2 : (words1.drop 24).all (fun c => isCode c || c.before args0 about1) = true := by decide +kernel
theorem w_tables : (allAtoms (Jvm.Cond.code x code maxLocals ret :: tables_1)).before args0 about1 = true := by
  rw [allAtoms_all]
  show words1.all (fun c => c.before args0 about1) = true
  refine all_split ?_ w_codes
  rw [← List.take_append_drop 24 words1, List.all_append, w_t1, w_t2]
  rfl
set_option maxRecDepth 65536 in
theorem w_case : (Jvm.Cond.and given_1 narrow_1).before args0 about1 = true := by decide +kernel
theorem w_applies : (headSpec (Jvm.Cond.code x code maxLocals ret :: tables_1) room_1).applies x e0.platform about1 = true :=
  (Spec.applies_iff w_frames).mpr ⟨w_running, w_runnable, w_alone, w_named, w_hears, w_ripe, w_room, w_tables⟩
theorem atStart : AtStart classFile x code maxLocals ret World_1 tables_1 room_1 Calls_1 rest_1 Pre_1 launch0 p0 e0 about1 theMethod args0 below0 :=
  ⟨lists_1, trivial, launch0.admits_env _ _ _, launch0.least_env, fairChoices_fair.cas, fairChoices_fair.clock, w_frames, w_args, w_heap, w_applies, trivial, trivial, w_case⟩
end start1
theorem witness_1 : WitnessClaimed_1 := ⟨start1.p0, start1.e0, start1.about1, start1.theMethod, start1.args0, start1.below0, start1.atStart⟩
end Jvm.Pilot.@@N@@
