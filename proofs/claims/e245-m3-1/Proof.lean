import JvmDerived
import JvmDerived.Pilot.@@N@@Statement
import JvmDerived.Pilot.@@N@@Code
set_option linter.unusedVariables false
set_option linter.unusedSimpArgs false
namespace Jvm.Pilot.@@N@@
open Jvm Jvm.ClassFile Sem Op Lib Jvm.Free Jvm.Stand Jvm.LawKit Jvm.RoadKit Bundle Jvm.Pilot.@@N@@.Jvm.D
section Own
variable {p : Program} {l : Launch} {e : Env} {R : Room} {s : State} {m : MethodId} {args : Array Value} {below : List Frame} {meth : Method} {c : Code} {T : State} {locs : List Loc} {cells slots : Nat} {n0 kc ks : Nat} {P : Option Value → Heap → Prop}
/-- what a body leaves: P of its value and heap; nothing that stood at the start was written -/
def own_Q (P : Option Value → Heap → Prop) (n0 : Nat) (v : Option Value) (h : Heap) (L : List Loc) : Prop := P v h ∧ Fr n0 L
/-- the run comes from S to the end of this invocation -/
def own_Goes (p : Program) (e : Env) (below : List Frame) (s : State) (n0 kc ks : Nat) (P : Option Value → Heap → Prop) (S : State) : Prop :=
  ∃ s₂ o, Steps p.tables e below S s₂ ∧ s₂.status = .running ∧ Ended s₂ below o ∧ ∃ v L, o = .returned v ∧ own_Q P n0 v s₂.heap L ∧ FrameEnd s o s₂ L kc ks
theorem own_Goes.pre {S S' : State} (h : ∀ t, Steps p.tables e below S' t → Steps p.tables e below S t) (g : own_Goes p e below s n0 kc ks P S') : own_Goes p e below s n0 kc ks P S := by
  obtain ⟨t, o, st, r⟩ := g
  exact ⟨t, o, h t st, r⟩
theorem own_retW (X : Stand p l e R s m args below meth c T locs cells slots) (hx : p.tables.exec = Jvm.exec) (hlk : meth.locks = false) {pc : Nat} {Ls : Array Slot} {w : Value} {t : FieldType} {i : Instr} {rest : List Value} (hret : meth.sig.returnType = some t) (hn : narrow t w = w)
    (hi : (i = .ireturn ∧ (t = .int ∨ t = .boolean ∨ t = .byte ∨ t = .char ∨ t = .short) ∧ ∃ z, w = .int z) ∨ (i = .lreturn ∧ t = .long ∧ ∃ z, w = .long z) ∨ (i = .dreturn ∧ t = .double ∧ ∃ z, w = .double z) ∨ (i = .freturn ∧ t = .float ∧ ∃ z, w = .float z) ∨ (i = .areturn ∧ t.isReference = true ∧ w.isRef = true))
    (hd : decode c.code pc = .ok (i, 1)) (N : Fr n0 locs) (hP : P (some w) T.heap) (hc : cells ≤ kc) (hs : slots ≤ ks) : own_Goes p e below s n0 kc ks P (T.setTop (mkF m pc Ls (w :: rest))) := by
  obtain ⟨fs, hr, hrun, hended, hW, hsame⟩ := X.leave (v := some w) (fun h => by rw [hret] at h; cases h)
  exact ⟨_, _, retOut X hx hret hn hi hd hr, hrun, hended, _, _, rfl, ⟨hP, N⟩, ⟨_, rfl⟩, hW, hsame.mono hc hs⟩
theorem own_retI (X : Stand p l e R s m args below meth c T locs cells slots) (hx : p.tables.exec = Jvm.exec) (hlk : meth.locks = false) {pc : Nat} {Ls : Array Slot} {z : Int32} {rest : List Value} (hret : meth.sig.returnType = some .int)
    (hd : decode c.code pc = .ok (.ireturn, 1)) (N : Fr n0 locs) (hP : P (some (.int z)) T.heap) (hc : cells ≤ kc) (hs : slots ≤ ks) : own_Goes p e below s n0 kc ks P (T.setTop (mkF m pc Ls (.int z :: rest))) :=
  own_retW X hx hlk hret rfl (Or.inl ⟨rfl, Or.inl rfl, _, rfl⟩) hd N hP hc hs
theorem own_retJ (X : Stand p l e R s m args below meth c T locs cells slots) (hx : p.tables.exec = Jvm.exec) (hlk : meth.locks = false) {pc : Nat} {Ls : Array Slot} {z : Int64} {rest : List Value} (hret : meth.sig.returnType = some .long)
    (hd : decode c.code pc = .ok (.lreturn, 1)) (N : Fr n0 locs) (hP : P (some (.long z)) T.heap) (hc : cells ≤ kc) (hs : slots ≤ ks) : own_Goes p e below s n0 kc ks P (T.setTop (mkF m pc Ls (.long z :: rest))) :=
  own_retW X hx hlk hret rfl (Or.inr (Or.inl ⟨rfl, rfl, _, rfl⟩)) hd N hP hc hs
theorem own_retN (X : Stand p l e R s m args below meth c T locs cells slots) (hx : p.tables.exec = Jvm.exec) (hlk : meth.locks = false) {pc : Nat} {Ls : Array Slot} {z : Int32} {t : FieldType} {rest : List Value} (hret : meth.sig.returnType = some t) (ht : t = .boolean ∨ t = .byte ∨ t = .char ∨ t = .short)
    (hd : decode c.code pc = .ok (.ireturn, 1)) (N : Fr n0 locs) (hP : P (some (.int (nar t z))) T.heap) (hc : cells ≤ kc) (hs : slots ≤ ks) : own_Goes p e below s n0 kc ks P (T.setTop (mkF m pc Ls (.int z :: rest))) := by
  obtain ⟨fs, hr, hrun, hended, hW, hsame⟩ := X.leave (v := some (.int (nar t z))) (fun h => by rw [hret] at h; cases h)
  exact ⟨_, _, retN X hx hret ht hd hr, hrun, hended, _, _, rfl, ⟨hP, N⟩, ⟨_, rfl⟩, hW, hsame.mono hc hs⟩
theorem own_retV (X : Stand p l e R s m args below meth c T locs cells slots) (hx : p.tables.exec = Jvm.exec) (hlk : meth.locks = false) {pc : Nat} {Ls : Array Slot} (hret : meth.sig.returnType = none)
    (hd : decode c.code pc = .ok (.return_, 1)) (N : Fr n0 locs) (hP : P none T.heap) (hc : cells ≤ kc) (hs : slots ≤ ks) : own_Goes p e below s n0 kc ks P (T.setTop (mkF m pc Ls [])) := by
  obtain ⟨fs, hr, hrun, hended, hW, hsame⟩ := X.leave (v := none) (fun _ => rfl)
  exact ⟨_, _, X.returnOut hx hret hd hr, hrun, hended, _, _, rfl, ⟨hP, N⟩, ⟨_, rfl⟩, hW, hsame.mono hc hs⟩
/-- the value w comes back, the heap as it was -/
def own_val (w : Value) (h0 : Heap) (v : Option Value) (h : Heap) : Prop := v = some w ∧ h = h0
def own_one (v : Option Value) (_ : Heap) : Prop := v = some (.int (1 : Int32))
end Own
theorem d1_0 : decode prog_173_method_5_code 0 = .ok (.iload_n 0, 1) := by decide +kernel
theorem d1_1 : decode prog_173_method_5_code 1 = .ok (.bipush 32, 2) := by decide +kernel
theorem d1_3 : decode prog_173_method_5_code 3 = .ok (.if_icmp .eq 21, 3) := by decide +kernel
theorem d1_6 : decode prog_173_method_5_code 6 = .ok (.iload_n 0, 1) := by decide +kernel
theorem d1_7 : decode prog_173_method_5_code 7 = .ok (.bipush 9, 2) := by decide +kernel
theorem d1_9 : decode prog_173_method_5_code 9 = .ok (.if_icmp .eq 15, 3) := by decide +kernel
theorem d1_12 : decode prog_173_method_5_code 12 = .ok (.iload_n 0, 1) := by decide +kernel
theorem d1_13 : decode prog_173_method_5_code 13 = .ok (.bipush 13, 2) := by decide +kernel
theorem d1_15 : decode prog_173_method_5_code 15 = .ok (.if_icmp .eq 9, 3) := by decide +kernel
theorem d1_18 : decode prog_173_method_5_code 18 = .ok (.iload_n 0, 1) := by decide +kernel
theorem d1_19 : decode prog_173_method_5_code 19 = .ok (.bipush 10, 2) := by decide +kernel
theorem d1_21 : decode prog_173_method_5_code 21 = .ok (.if_icmp .ne 7, 3) := by decide +kernel
theorem d1_24 : decode prog_173_method_5_code 24 = .ok (.iconst 1, 1) := by decide +kernel
theorem d1_25 : decode prog_173_method_5_code 25 = .ok (.goto 4, 3) := by decide +kernel
theorem d1_28 : decode prog_173_method_5_code 28 = .ok (.iconst 0, 1) := by decide +kernel
theorem d1_29 : decode prog_173_method_5_code 29 = .ok (.ireturn, 1) := by decide +kernel
def f1_24 (x0 : Int32) : Int32 := (1 : Int32)
set_option maxRecDepth 65536 in
set_option maxHeartbeats 40000000 in
theorem b1_24 {p : Program} {l : Launch} {e : Env} {s : State} {m : MethodId} {args : Array Value} {below : List Frame} {meth : Method} {c : Code} {T0 : State} {locs : List Loc} {Z : State} {a0 : Array Value} {h0 : Heap} {n0 : Nat} {P : Option Value → Heap → Prop} (x0 : Int32) (X0 : Stand p l e ({ frames := 0, cells := 0, slots := 0, locals := 0 } : Room) s m args below meth c T0 locs 0 0) (hx : p.tables.exec = Jvm.exec) (hZ : Z.Warmed39 s.vm) (hw : ∀ d ∈ tables_1, d.before a0 Z = true) (hby : c.code = prog_173_method_5_code) (hml : c.maxLocals = 1) (hown : s.vm.findClass "com/example/shape_trees/shapetrees/xpath/tree/XmlNames" = some m.cls) (hret : meth.sig.returnType = some .boolean) (hlk : meth.locks = false) (e0 : T0.heap = h0) (Z0 : n0 ≤ h0.size) (N0 : Fr n0 locs) (hP : P (some (.int (f1_24 x0))) h0) :
    own_Goes p e below s n0 0 0 P (T0.setTop (mkF m 24 #[.val (.int x0)] [])) := by
  rw [f1_24] at hP
  refine own_Goes.pre (fun t kt => ?_) (own_retN X0 hx hlk hret (by simp) (hb hby d1_29) N0 (by rw [e0]; exact hP) (by decide) (by decide) (Ls := #[.val (.int x0)]) (rest := []) (z := (1 : Int32)))
  show Steps p.tables e below (T0.setTop (mkF m 24 #[.val (.int x0)] [])) _
  refine XS.iconst X0.here hx rfl (hb hby d1_24) ?_
  show Steps p.tables e below (T0.setTop (mkF m 25 #[.val (.int x0)] [(.int (1 : Int32))])) _
  refine XS.goto X0.here hx rfl (pc0 := 25) (pc' := 29) rfl (hb hby d1_25) (by decide) (by decide) ?_
  exact kt
def f1_28 (x0 : Int32) : Int32 := (0 : Int32)
set_option maxRecDepth 65536 in
set_option maxHeartbeats 40000000 in
theorem b1_28 {p : Program} {l : Launch} {e : Env} {s : State} {m : MethodId} {args : Array Value} {below : List Frame} {meth : Method} {c : Code} {T0 : State} {locs : List Loc} {Z : State} {a0 : Array Value} {h0 : Heap} {n0 : Nat} {P : Option Value → Heap → Prop} (x0 : Int32) (X0 : Stand p l e ({ frames := 0, cells := 0, slots := 0, locals := 0 } : Room) s m args below meth c T0 locs 0 0) (hx : p.tables.exec = Jvm.exec) (hZ : Z.Warmed39 s.vm) (hw : ∀ d ∈ tables_1, d.before a0 Z = true) (hby : c.code = prog_173_method_5_code) (hml : c.maxLocals = 1) (hown : s.vm.findClass "com/example/shape_trees/shapetrees/xpath/tree/XmlNames" = some m.cls) (hret : meth.sig.returnType = some .boolean) (hlk : meth.locks = false) (e0 : T0.heap = h0) (Z0 : n0 ≤ h0.size) (N0 : Fr n0 locs) (hP : P (some (.int (f1_28 x0))) h0) :
    own_Goes p e below s n0 0 0 P (T0.setTop (mkF m 28 #[.val (.int x0)] [])) := by
  rw [f1_28] at hP
  refine own_Goes.pre (fun t kt => ?_) (own_retN X0 hx hlk hret (by simp) (hb hby d1_29) N0 (by rw [e0]; exact hP) (by decide) (by decide) (Ls := #[.val (.int x0)]) (rest := []) (z := (0 : Int32)))
  show Steps p.tables e below (T0.setTop (mkF m 28 #[.val (.int x0)] [])) _
  refine XS.iconst X0.here hx rfl (hb hby d1_28) ?_
  exact kt
def f1_18 (x0 : Int32) : Int32 := if x0 = (10 : Int32) then (f1_24 x0) else (f1_28 x0)
set_option maxRecDepth 65536 in
set_option maxHeartbeats 40000000 in
theorem b1_18 {p : Program} {l : Launch} {e : Env} {s : State} {m : MethodId} {args : Array Value} {below : List Frame} {meth : Method} {c : Code} {T0 : State} {locs : List Loc} {Z : State} {a0 : Array Value} {h0 : Heap} {n0 : Nat} {P : Option Value → Heap → Prop} (x0 : Int32) (X0 : Stand p l e ({ frames := 0, cells := 0, slots := 0, locals := 0 } : Room) s m args below meth c T0 locs 0 0) (hx : p.tables.exec = Jvm.exec) (hZ : Z.Warmed39 s.vm) (hw : ∀ d ∈ tables_1, d.before a0 Z = true) (hby : c.code = prog_173_method_5_code) (hml : c.maxLocals = 1) (hown : s.vm.findClass "com/example/shape_trees/shapetrees/xpath/tree/XmlNames" = some m.cls) (hret : meth.sig.returnType = some .boolean) (hlk : meth.locks = false) (e0 : T0.heap = h0) (Z0 : n0 ≤ h0.size) (N0 : Fr n0 locs) (hP : P (some (.int (f1_18 x0))) h0) :
    own_Goes p e below s n0 0 0 P (T0.setTop (mkF m 18 #[.val (.int x0)] [])) := by
  have pre1 : ∀ t, Steps p.tables e below (T0.setTop (mkF m 21 #[.val (.int x0)] [(.int (10 : Int32)), (.int x0)])) t → Steps p.tables e below (T0.setTop (mkF m 18 #[.val (.int x0)] [])) t := fun t kt => by
    show Steps p.tables e below (T0.setTop (mkF m 18 #[.val (.int x0)] [])) _
    refine XS.iloadN X0.here hx rfl (hb hby d1_18) rfl ?_
    show Steps p.tables e below (T0.setTop (mkF m 19 #[.val (.int x0)] [(.int x0)])) _
    refine XS.bipush X0.here hx rfl (hb hby d1_19) ?_
    exact kt
  refine own_Goes.pre pre1 ?_
  by_cases hc : x0 = (10 : Int32)
  · rw [f1_18, if_pos hc] at hP
    refine own_Goes.pre (fun t kt => ?_) (b1_24 x0 X0 hx hZ hw hby hml hown hret hlk e0 Z0 N0 hP)
    show Steps p.tables e below (T0.setTop (mkF m 21 #[.val (.int x0)] [(.int (10 : Int32)), (.int x0)])) _
    refine XS.icmpNo X0.here hx rfl (hb hby d1_21) rfl (teq hc).2 ?_
    exact kt
  · rw [f1_18, if_neg hc] at hP
    refine own_Goes.pre (fun t kt => ?_) (b1_28 x0 X0 hx hZ hw hby hml hown hret hlk e0 Z0 N0 hP)
    show Steps p.tables e below (T0.setTop (mkF m 21 #[.val (.int x0)] [(.int (10 : Int32)), (.int x0)])) _
    refine XS.icmpYes X0.here hx rfl (pc0 := 21) (pc' := 28) rfl (hb hby d1_21) rfl (feq hc).2 (by decide) (by decide) ?_
    exact kt
def f1_12 (x0 : Int32) : Int32 := if x0 = (13 : Int32) then (f1_24 x0) else (f1_18 x0)
set_option maxRecDepth 65536 in
set_option maxHeartbeats 40000000 in
theorem b1_12 {p : Program} {l : Launch} {e : Env} {s : State} {m : MethodId} {args : Array Value} {below : List Frame} {meth : Method} {c : Code} {T0 : State} {locs : List Loc} {Z : State} {a0 : Array Value} {h0 : Heap} {n0 : Nat} {P : Option Value → Heap → Prop} (x0 : Int32) (X0 : Stand p l e ({ frames := 0, cells := 0, slots := 0, locals := 0 } : Room) s m args below meth c T0 locs 0 0) (hx : p.tables.exec = Jvm.exec) (hZ : Z.Warmed39 s.vm) (hw : ∀ d ∈ tables_1, d.before a0 Z = true) (hby : c.code = prog_173_method_5_code) (hml : c.maxLocals = 1) (hown : s.vm.findClass "com/example/shape_trees/shapetrees/xpath/tree/XmlNames" = some m.cls) (hret : meth.sig.returnType = some .boolean) (hlk : meth.locks = false) (e0 : T0.heap = h0) (Z0 : n0 ≤ h0.size) (N0 : Fr n0 locs) (hP : P (some (.int (f1_12 x0))) h0) :
    own_Goes p e below s n0 0 0 P (T0.setTop (mkF m 12 #[.val (.int x0)] [])) := by
  have pre1 : ∀ t, Steps p.tables e below (T0.setTop (mkF m 15 #[.val (.int x0)] [(.int (13 : Int32)), (.int x0)])) t → Steps p.tables e below (T0.setTop (mkF m 12 #[.val (.int x0)] [])) t := fun t kt => by
    show Steps p.tables e below (T0.setTop (mkF m 12 #[.val (.int x0)] [])) _
    refine XS.iloadN X0.here hx rfl (hb hby d1_12) rfl ?_
    show Steps p.tables e below (T0.setTop (mkF m 13 #[.val (.int x0)] [(.int x0)])) _
    refine XS.bipush X0.here hx rfl (hb hby d1_13) ?_
    exact kt
  refine own_Goes.pre pre1 ?_
  by_cases hc : x0 = (13 : Int32)
  · rw [f1_12, if_pos hc] at hP
    refine own_Goes.pre (fun t kt => ?_) (b1_24 x0 X0 hx hZ hw hby hml hown hret hlk e0 Z0 N0 hP)
    show Steps p.tables e below (T0.setTop (mkF m 15 #[.val (.int x0)] [(.int (13 : Int32)), (.int x0)])) _
    refine XS.icmpYes X0.here hx rfl (pc0 := 15) (pc' := 24) rfl (hb hby d1_15) rfl (teq hc).1 (by decide) (by decide) ?_
    exact kt
  · rw [f1_12, if_neg hc] at hP
    refine own_Goes.pre (fun t kt => ?_) (b1_18 x0 X0 hx hZ hw hby hml hown hret hlk e0 Z0 N0 hP)
    show Steps p.tables e below (T0.setTop (mkF m 15 #[.val (.int x0)] [(.int (13 : Int32)), (.int x0)])) _
    refine XS.icmpNo X0.here hx rfl (hb hby d1_15) rfl (feq hc).1 ?_
    exact kt
def f1_6 (x0 : Int32) : Int32 := if x0 = (9 : Int32) then (f1_24 x0) else (f1_12 x0)
set_option maxRecDepth 65536 in
set_option maxHeartbeats 40000000 in
theorem b1_6 {p : Program} {l : Launch} {e : Env} {s : State} {m : MethodId} {args : Array Value} {below : List Frame} {meth : Method} {c : Code} {T0 : State} {locs : List Loc} {Z : State} {a0 : Array Value} {h0 : Heap} {n0 : Nat} {P : Option Value → Heap → Prop} (x0 : Int32) (X0 : Stand p l e ({ frames := 0, cells := 0, slots := 0, locals := 0 } : Room) s m args below meth c T0 locs 0 0) (hx : p.tables.exec = Jvm.exec) (hZ : Z.Warmed39 s.vm) (hw : ∀ d ∈ tables_1, d.before a0 Z = true) (hby : c.code = prog_173_method_5_code) (hml : c.maxLocals = 1) (hown : s.vm.findClass "com/example/shape_trees/shapetrees/xpath/tree/XmlNames" = some m.cls) (hret : meth.sig.returnType = some .boolean) (hlk : meth.locks = false) (e0 : T0.heap = h0) (Z0 : n0 ≤ h0.size) (N0 : Fr n0 locs) (hP : P (some (.int (f1_6 x0))) h0) :
    own_Goes p e below s n0 0 0 P (T0.setTop (mkF m 6 #[.val (.int x0)] [])) := by
  have pre1 : ∀ t, Steps p.tables e below (T0.setTop (mkF m 9 #[.val (.int x0)] [(.int (9 : Int32)), (.int x0)])) t → Steps p.tables e below (T0.setTop (mkF m 6 #[.val (.int x0)] [])) t := fun t kt => by
    show Steps p.tables e below (T0.setTop (mkF m 6 #[.val (.int x0)] [])) _
    refine XS.iloadN X0.here hx rfl (hb hby d1_6) rfl ?_
    show Steps p.tables e below (T0.setTop (mkF m 7 #[.val (.int x0)] [(.int x0)])) _
    refine XS.bipush X0.here hx rfl (hb hby d1_7) ?_
    exact kt
  refine own_Goes.pre pre1 ?_
  by_cases hc : x0 = (9 : Int32)
  · rw [f1_6, if_pos hc] at hP
    refine own_Goes.pre (fun t kt => ?_) (b1_24 x0 X0 hx hZ hw hby hml hown hret hlk e0 Z0 N0 hP)
    show Steps p.tables e below (T0.setTop (mkF m 9 #[.val (.int x0)] [(.int (9 : Int32)), (.int x0)])) _
    refine XS.icmpYes X0.here hx rfl (pc0 := 9) (pc' := 24) rfl (hb hby d1_9) rfl (teq hc).1 (by decide) (by decide) ?_
    exact kt
  · rw [f1_6, if_neg hc] at hP
    refine own_Goes.pre (fun t kt => ?_) (b1_12 x0 X0 hx hZ hw hby hml hown hret hlk e0 Z0 N0 hP)
    show Steps p.tables e below (T0.setTop (mkF m 9 #[.val (.int x0)] [(.int (9 : Int32)), (.int x0)])) _
    refine XS.icmpNo X0.here hx rfl (hb hby d1_9) rfl (feq hc).1 ?_
    exact kt
def f1_0 (x0 : Int32) : Int32 := if x0 = (32 : Int32) then (f1_24 x0) else (f1_6 x0)
set_option maxRecDepth 65536 in
set_option maxHeartbeats 40000000 in
theorem b1_0 {p : Program} {l : Launch} {e : Env} {s : State} {m : MethodId} {args : Array Value} {below : List Frame} {meth : Method} {c : Code} {T0 : State} {locs : List Loc} {Z : State} {a0 : Array Value} {h0 : Heap} {n0 : Nat} {P : Option Value → Heap → Prop} (x0 : Int32) (X0 : Stand p l e ({ frames := 0, cells := 0, slots := 0, locals := 0 } : Room) s m args below meth c T0 locs 0 0) (hx : p.tables.exec = Jvm.exec) (hZ : Z.Warmed39 s.vm) (hw : ∀ d ∈ tables_1, d.before a0 Z = true) (hby : c.code = prog_173_method_5_code) (hml : c.maxLocals = 1) (hown : s.vm.findClass "com/example/shape_trees/shapetrees/xpath/tree/XmlNames" = some m.cls) (hret : meth.sig.returnType = some .boolean) (hlk : meth.locks = false) (e0 : T0.heap = h0) (Z0 : n0 ≤ h0.size) (N0 : Fr n0 locs) (hP : P (some (.int (f1_0 x0))) h0) :
    own_Goes p e below s n0 0 0 P (T0.setTop (mkF m 0 #[.val (.int x0)] [])) := by
  have pre1 : ∀ t, Steps p.tables e below (T0.setTop (mkF m 3 #[.val (.int x0)] [(.int (32 : Int32)), (.int x0)])) t → Steps p.tables e below (T0.setTop (mkF m 0 #[.val (.int x0)] [])) t := fun t kt => by
    show Steps p.tables e below (T0.setTop (mkF m 0 #[.val (.int x0)] [])) _
    refine XS.iloadN X0.here hx rfl (hb hby d1_0) rfl ?_
    show Steps p.tables e below (T0.setTop (mkF m 1 #[.val (.int x0)] [(.int x0)])) _
    refine XS.bipush X0.here hx rfl (hb hby d1_1) ?_
    exact kt
  refine own_Goes.pre pre1 ?_
  by_cases hc : x0 = (32 : Int32)
  · rw [f1_0, if_pos hc] at hP
    refine own_Goes.pre (fun t kt => ?_) (b1_24 x0 X0 hx hZ hw hby hml hown hret hlk e0 Z0 N0 hP)
    show Steps p.tables e below (T0.setTop (mkF m 3 #[.val (.int x0)] [(.int (32 : Int32)), (.int x0)])) _
    refine XS.icmpYes X0.here hx rfl (pc0 := 3) (pc' := 24) rfl (hb hby d1_3) rfl (teq hc).1 (by decide) (by decide) ?_
    exact kt
  · rw [f1_0, if_neg hc] at hP
    refine own_Goes.pre (fun t kt => ?_) (b1_6 x0 X0 hx hZ hw hby hml hown hret hlk e0 Z0 N0 hP)
    show Steps p.tables e below (T0.setTop (mkF m 3 #[.val (.int x0)] [(.int (32 : Int32)), (.int x0)])) _
    refine XS.icmpNo X0.here hx rfl (hb hby d1_3) rfl (feq hc).1 ?_
    exact kt
theorem pn0 : plainName "com/example/shape_trees/shapetrees/xpath/tree/XmlNames" = true := by first | (simp [plainName, overriddenIn]; done) | decide +kernel
theorem ef1 (m : MethodId) (x0 : Int32) : entryFrame m #[(.int x0)] 1 = (mkF m 0 #[.val (.int x0)] []) := by first | (simp [entryFrame, mkF, argsToLocals, Value.category]; done) | rfl
set_option maxRecDepth 65536 in
set_option maxHeartbeats 40000000 in
theorem rm1 (l : Launch) (Z : State) (a0 : Array Value) (hw : ∀ d ∈ tables_1, d.before a0 Z = true) (ws : List Jvm.Cond) (x0 : Int32) (h0 : Heap) (n0 : Nat) (Z0 : n0 ≤ h0.size) :
    MetFree l (⟨"com/example/shape_trees/shapetrees/xpath/tree/XmlNames", "isWhitespace", "(C)Z"⟩ : MethodName) (head1 (Jvm.Cond.code (⟨"com/example/shape_trees/shapetrees/xpath/tree/XmlNames", "isWhitespace", "(C)Z"⟩ : MethodName) prog_173_method_5_code 1 (some .boolean) :: ws) ({ frames := 0, cells := 0, slots := 0, locals := 0 } : Room)) (fun a U => a = #[(.int x0)] ∧ Z.Warmed39 U.vm ∧ U.heap = h0) (fun _ _ _ _ _ => True) (fun _ U o U' => ∃ v L, o = .returned v ∧ own_Q (own_val (.int (f1_0 x0)) h0) n0 v U'.heap L ∧ FrameEnd U o U' L ({ frames := 0, cells := 0, slots := 0, locals := 0 } : Room).cells ({ frames := 0, cells := 0, slots := 0, locals := 0 } : Room).slots) := by
  refine MetFree.of_bodySF (plainFor_of_name pn0) hisR ?_
  intro p e s m args below meth c s₁ Bd hml0 hP hK
  obtain ⟨rfl, hZ, hh⟩ := hP
  have hx := Bd.exec
  have hby := Bd.bytes
  have hml : c.maxLocals = 1 := hml0
  have hown : s.vm.findClass "com/example/shape_trees/shapetrees/xpath/tree/XmlNames" = some m.cls := findClass_of_methodNamed Bd.named
  have X0 : Stand p l e ({ frames := 0, cells := 0, slots := 0, locals := 0 } : Room) s m #[(.int x0)] below meth c s₁ [] 0 0 := Stand.of_body Bd
  have e0 : s₁.heap = h0 := by rw [← hh, Bd.state]; rfl
  refine own_Goes.pre (S' := s₁.setTop (mkF m 0 #[.val (.int x0)] [])) (P := (own_val (.int (f1_0 x0)) h0)) (n0 := n0) (kc := 0) (ks := 0) (fun t k => castTop (ef1 m x0) k) ?_
  exact b1_0 x0 X0 hx hZ hw hby hml hown Bd.returns Bd.notSynchronized e0 Z0 (Fr.nil n0) ⟨rfl, rfl⟩
theorem pd0 : parseMethodDescriptor "(C)Z" = some ⟨[.char], some .boolean⟩ := by decide +kernel
def f0_39 (x0 : Int32) (x1 : Int32) (x2 : Int32) : Int32 := (0 : Int32)
set_option maxRecDepth 65536 in
set_option maxHeartbeats 40000000 in
theorem b0_39 {p : Program} {l : Launch} {e : Env} {s : State} {m : MethodId} {args : Array Value} {below : List Frame} {meth : Method} {c : Code} {T0 : State} {locs : List Loc} {Z : State} {a0 : Array Value} {h0 : Heap} {n0 : Nat} {P : Option Value → Heap → Prop} (x0 : Int32) (x1 : Int32) (x2 : Int32) (X0 : Stand p l e room_1 s m args below meth c T0 locs 0 0) (hx : p.tables.exec = Jvm.exec) (hZ : Z.Warmed39 s.vm) (hw : ∀ d ∈ tables_1, d.before a0 Z = true) (hby : c.code = code) (hml : c.maxLocals = 3) (hown : s.vm.findClass "com/example/shape_trees/shapetrees/xpath/tree/XmlNamesIsWhitespacePinLaw" = some m.cls) (hret : meth.sig.returnType = some .boolean) (hlk : meth.locks = false) (e0 : T0.heap = h0) (Z0 : n0 ≤ h0.size) (N0 : Fr n0 locs) (hP : P (some (.int (f0_39 x0 x1 x2))) h0) :
    own_Goes p e below s n0 room_1.cells room_1.slots P (T0.setTop (mkF m 39 #[.val (.int x0), .val (.int x1), .val (.int x2)] [])) := by
  rw [f0_39] at hP
  refine own_Goes.pre (fun t kt => ?_) (own_retN X0 hx hlk hret (by simp) (hb hby at_40) N0 (by rw [e0]; exact hP) (by decide) (by decide) (Ls := #[.val (.int x0), .val (.int x1), .val (.int x2)]) (rest := []) (z := (0 : Int32)))
  show Steps p.tables e below (T0.setTop (mkF m 39 #[.val (.int x0), .val (.int x1), .val (.int x2)] [])) _
  refine XS.iconst X0.here hx rfl (hb hby at_39) ?_
  exact kt
def f0_35 (x0 : Int32) (x1 : Int32) (x2 : Int32) : Int32 := (1 : Int32)
set_option maxRecDepth 65536 in
set_option maxHeartbeats 40000000 in
theorem b0_35 {p : Program} {l : Launch} {e : Env} {s : State} {m : MethodId} {args : Array Value} {below : List Frame} {meth : Method} {c : Code} {T0 : State} {locs : List Loc} {Z : State} {a0 : Array Value} {h0 : Heap} {n0 : Nat} {P : Option Value → Heap → Prop} (x0 : Int32) (x1 : Int32) (x2 : Int32) (X0 : Stand p l e room_1 s m args below meth c T0 locs 0 0) (hx : p.tables.exec = Jvm.exec) (hZ : Z.Warmed39 s.vm) (hw : ∀ d ∈ tables_1, d.before a0 Z = true) (hby : c.code = code) (hml : c.maxLocals = 3) (hown : s.vm.findClass "com/example/shape_trees/shapetrees/xpath/tree/XmlNamesIsWhitespacePinLaw" = some m.cls) (hret : meth.sig.returnType = some .boolean) (hlk : meth.locks = false) (e0 : T0.heap = h0) (Z0 : n0 ≤ h0.size) (N0 : Fr n0 locs) (hP : P (some (.int (f0_35 x0 x1 x2))) h0) :
    own_Goes p e below s n0 room_1.cells room_1.slots P (T0.setTop (mkF m 35 #[.val (.int x0), .val (.int x1), .val (.int x2)] [])) := by
  rw [f0_35] at hP
  refine own_Goes.pre (fun t kt => ?_) (own_retN X0 hx hlk hret (by simp) (hb hby at_40) N0 (by rw [e0]; exact hP) (by decide) (by decide) (Ls := #[.val (.int x0), .val (.int x1), .val (.int x2)]) (rest := []) (z := (1 : Int32)))
  show Steps p.tables e below (T0.setTop (mkF m 35 #[.val (.int x0), .val (.int x1), .val (.int x2)] [])) _
  refine XS.iconst X0.here hx rfl (hb hby at_35) ?_
  show Steps p.tables e below (T0.setTop (mkF m 36 #[.val (.int x0), .val (.int x1), .val (.int x2)] [(.int (1 : Int32))])) _
  refine XS.goto X0.here hx rfl (pc0 := 36) (pc' := 40) rfl (hb hby at_36) (by decide) (by decide) ?_
  exact kt
def f0_26 (x0 : Int32) (x1 : Int32) (y0 : Int32) : Int32 := if (f1_0 x1) = y0 then (f0_35 x0 x1 y0) else (f0_39 x0 x1 y0)
set_option maxRecDepth 65536 in
set_option maxHeartbeats 40000000 in
theorem b0_26 {p : Program} {l : Launch} {e : Env} {s : State} {m : MethodId} {args : Array Value} {below : List Frame} {meth : Method} {c : Code} {T0 : State} {locs : List Loc} {Z : State} {a0 : Array Value} {h0 : Heap} {n0 : Nat} {P : Option Value → Heap → Prop} (x0 : Int32) (x1 : Int32) (y0 : Int32) (X0 : Stand p l e room_1 s m args below meth c T0 locs 0 0) (hx : p.tables.exec = Jvm.exec) (hZ : Z.Warmed39 s.vm) (hw : ∀ d ∈ tables_1, d.before a0 Z = true) (hby : c.code = code) (hml : c.maxLocals = 3) (hown : s.vm.findClass "com/example/shape_trees/shapetrees/xpath/tree/XmlNamesIsWhitespacePinLaw" = some m.cls) (hret : meth.sig.returnType = some .boolean) (hlk : meth.locks = false) (e0 : T0.heap = h0) (Z0 : n0 ≤ h0.size) (N0 : Fr n0 locs) (hP : P (some (.int (f0_26 x0 x1 y0))) h0) :
    own_Goes p e below s n0 room_1.cells room_1.slots P (T0.setTop (mkF m 26 #[.val (.int x0), .val (.int x1), .unset] [(.int y0)])) := by
  obtain ⟨_, _, ⟨T28, L28, k28, n28⟩, -, X28, ⟨Lc28, hQ28, l28, y28, z28⟩, st28⟩ := Jvm.LawKit.callS X0 hx (y := (⟨"com/example/shape_trees/shapetrees/xpath/tree/XmlNames", "isWhitespace", "(C)Z"⟩ : MethodName)) hown (mvT hZ (hw _ (List.mem_of_getElem? (i := 1) rfl))) (mvT hZ (hw _ (List.mem_of_getElem? (i := 2) rfl))) (mvT hZ (hw _ (List.mem_of_getElem? (i := 3) rfl))) (mvT hZ (hw _ (List.mem_of_getElem? (i := 4) rfl))) (by decide) (backOf (W := 0) (rm1 l Z a0 hw [] x1 h0 n0 Z0) hZ (hw _ (List.mem_of_getElem? (i := 4) rfl)) (hw _ (List.mem_of_getElem? (i := 3) rfl)) (by decide) (by decide)) (g := (mkF m 28 #[.val (.int x0), .val (.int x1), .val (.int y0)] [(.int x1)])) rfl (by rw [hml]; rfl) (argsL := [(.int x1)]) (rest := []) (lenOf pd0 rfl) rfl (by show 2 * 0 + _ ≤ _; exact Nat.le_of_eq rfl) (hb hby at_28) (fun _ _ => ⟨rfl, e0, (by decide : 0 + 0 ≤ _), (by decide : 0 + 0 ≤ _)⟩)
  dsimp only [Pt.U, Pt.locs, Pt.cells, Pt.slots] at X28 l28 y28 z28 st28 hQ28
  subst l28 y28 z28
  obtain ⟨⟨rfl, e28⟩, N28q⟩ := hQ28
  have N28 := Fr.app N0 N28q
  have pre1 : ∀ t, Steps p.tables e below (T28.setTop (mkF m 32 #[.val (.int x0), .val (.int x1), .val (.int y0)] [(.int y0), (.int (f1_0 x1))])) t → Steps p.tables e below (T0.setTop (mkF m 26 #[.val (.int x0), .val (.int x1), .unset] [(.int y0)])) t := fun t kt => by
    show Steps p.tables e below (T0.setTop (mkF m 26 #[.val (.int x0), .val (.int x1), .unset] [(.int y0)])) _
    refine XS.istoreN X0.here hx rfl (hb hby at_26) rfl (l' := #[.val (.int x0), .val (.int x1), .val (.int y0)]) rfl ?_
    show Steps p.tables e below (T0.setTop (mkF m 27 #[.val (.int x0), .val (.int x1), .val (.int y0)] [])) _
    refine XS.iloadN X0.here hx rfl (hb hby at_27) rfl ?_
    show Steps p.tables e below (T0.setTop (mkF m 28 #[.val (.int x0), .val (.int x1), .val (.int y0)] [(.int x1)])) _
    refine st28 _ ?_
    show Steps p.tables e below (T28.setTop (mkF m 31 #[.val (.int x0), .val (.int x1), .val (.int y0)] [(.int (f1_0 x1))])) _
    refine XS.iloadN X28.here hx rfl (hb hby at_31) rfl ?_
    exact kt
  refine own_Goes.pre pre1 ?_
  by_cases hc : (f1_0 x1) = y0
  · rw [f0_26, if_pos hc] at hP
    refine own_Goes.pre (fun t kt => ?_) (b0_35 x0 x1 y0 X28 hx hZ hw hby hml hown hret hlk e28 Z0 N28 hP)
    show Steps p.tables e below (T28.setTop (mkF m 32 #[.val (.int x0), .val (.int x1), .val (.int y0)] [(.int y0), (.int (f1_0 x1))])) _
    refine XS.icmpNo X28.here hx rfl (hb hby at_32) rfl (teq hc).2 ?_
    exact kt
  · rw [f0_26, if_neg hc] at hP
    refine own_Goes.pre (fun t kt => ?_) (b0_39 x0 x1 y0 X28 hx hZ hw hby hml hown hret hlk e28 Z0 N28 hP)
    show Steps p.tables e below (T28.setTop (mkF m 32 #[.val (.int x0), .val (.int x1), .val (.int y0)] [(.int y0), (.int (f1_0 x1))])) _
    refine XS.icmpYes X28.here hx rfl (pc0 := 32) (pc' := 39) rfl (hb hby at_32) rfl (feq hc).2 (by decide) (by decide) ?_
    exact kt
def f0_25 (x0 : Int32) (x1 : Int32) : Int32 := (f0_26 x0 x1 (0 : Int32))
set_option maxRecDepth 65536 in
set_option maxHeartbeats 40000000 in
theorem b0_25 {p : Program} {l : Launch} {e : Env} {s : State} {m : MethodId} {args : Array Value} {below : List Frame} {meth : Method} {c : Code} {T0 : State} {locs : List Loc} {Z : State} {a0 : Array Value} {h0 : Heap} {n0 : Nat} {P : Option Value → Heap → Prop} (x0 : Int32) (x1 : Int32) (X0 : Stand p l e room_1 s m args below meth c T0 locs 0 0) (hx : p.tables.exec = Jvm.exec) (hZ : Z.Warmed39 s.vm) (hw : ∀ d ∈ tables_1, d.before a0 Z = true) (hby : c.code = code) (hml : c.maxLocals = 3) (hown : s.vm.findClass "com/example/shape_trees/shapetrees/xpath/tree/XmlNamesIsWhitespacePinLaw" = some m.cls) (hret : meth.sig.returnType = some .boolean) (hlk : meth.locks = false) (e0 : T0.heap = h0) (Z0 : n0 ≤ h0.size) (N0 : Fr n0 locs) (hP : P (some (.int (f0_25 x0 x1))) h0) :
    own_Goes p e below s n0 room_1.cells room_1.slots P (T0.setTop (mkF m 25 #[.val (.int x0), .val (.int x1), .unset] [])) := by
  rw [f0_25] at hP
  refine own_Goes.pre (fun t kt => ?_) (b0_26 x0 x1 (0 : Int32) X0 hx hZ hw hby hml hown hret hlk e0 Z0 N0 hP)
  show Steps p.tables e below (T0.setTop (mkF m 25 #[.val (.int x0), .val (.int x1), .unset] [])) _
  refine XS.iconst X0.here hx rfl (hb hby at_25) ?_
  exact kt
def f0_21 (x0 : Int32) (x1 : Int32) : Int32 := (f0_26 x0 x1 (1 : Int32))
set_option maxRecDepth 65536 in
set_option maxHeartbeats 40000000 in
theorem b0_21 {p : Program} {l : Launch} {e : Env} {s : State} {m : MethodId} {args : Array Value} {below : List Frame} {meth : Method} {c : Code} {T0 : State} {locs : List Loc} {Z : State} {a0 : Array Value} {h0 : Heap} {n0 : Nat} {P : Option Value → Heap → Prop} (x0 : Int32) (x1 : Int32) (X0 : Stand p l e room_1 s m args below meth c T0 locs 0 0) (hx : p.tables.exec = Jvm.exec) (hZ : Z.Warmed39 s.vm) (hw : ∀ d ∈ tables_1, d.before a0 Z = true) (hby : c.code = code) (hml : c.maxLocals = 3) (hown : s.vm.findClass "com/example/shape_trees/shapetrees/xpath/tree/XmlNamesIsWhitespacePinLaw" = some m.cls) (hret : meth.sig.returnType = some .boolean) (hlk : meth.locks = false) (e0 : T0.heap = h0) (Z0 : n0 ≤ h0.size) (N0 : Fr n0 locs) (hP : P (some (.int (f0_21 x0 x1))) h0) :
    own_Goes p e below s n0 room_1.cells room_1.slots P (T0.setTop (mkF m 21 #[.val (.int x0), .val (.int x1), .unset] [])) := by
  rw [f0_21] at hP
  refine own_Goes.pre (fun t kt => ?_) (b0_26 x0 x1 (1 : Int32) X0 hx hZ hw hby hml hown hret hlk e0 Z0 N0 hP)
  show Steps p.tables e below (T0.setTop (mkF m 21 #[.val (.int x0), .val (.int x1), .unset] [])) _
  refine XS.iconst X0.here hx rfl (hb hby at_21) ?_
  show Steps p.tables e below (T0.setTop (mkF m 22 #[.val (.int x0), .val (.int x1), .unset] [(.int (1 : Int32))])) _
  refine XS.goto X0.here hx rfl (pc0 := 22) (pc' := 26) rfl (hb hby at_22) (by decide) (by decide) ?_
  exact kt
def f0_9 (x0 : Int32) (x1 : Int32) : Int32 := if (lcmpW ((((4294977024 : Int64).toUInt64 >>> (x1 &&& 0x3f).toInt64.toUInt64).toInt64) &&& (1 : Int64)) (0 : Int64)) = (0 : Int32) then (f0_25 x0 x1) else (f0_21 x0 x1)
set_option maxRecDepth 65536 in
set_option maxHeartbeats 40000000 in
theorem b0_9 {p : Program} {l : Launch} {e : Env} {s : State} {m : MethodId} {args : Array Value} {below : List Frame} {meth : Method} {c : Code} {T0 : State} {locs : List Loc} {Z : State} {a0 : Array Value} {h0 : Heap} {n0 : Nat} {P : Option Value → Heap → Prop} (x0 : Int32) (x1 : Int32) (X0 : Stand p l e room_1 s m args below meth c T0 locs 0 0) (hx : p.tables.exec = Jvm.exec) (hZ : Z.Warmed39 s.vm) (hw : ∀ d ∈ tables_1, d.before a0 Z = true) (hby : c.code = code) (hml : c.maxLocals = 3) (hown : s.vm.findClass "com/example/shape_trees/shapetrees/xpath/tree/XmlNamesIsWhitespacePinLaw" = some m.cls) (hret : meth.sig.returnType = some .boolean) (hlk : meth.locks = false) (e0 : T0.heap = h0) (Z0 : n0 ≤ h0.size) (N0 : Fr n0 locs) (hP : P (some (.int (f0_9 x0 x1))) h0) :
    own_Goes p e below s n0 room_1.cells room_1.slots P (T0.setTop (mkF m 9 #[.val (.int x0), .val (.int x1), .unset] [])) := by
  have pre1 : ∀ t, Steps p.tables e below (T0.setTop (mkF m 18 #[.val (.int x0), .val (.int x1), .unset] [(.int (lcmpW ((((4294977024 : Int64).toUInt64 >>> (x1 &&& 0x3f).toInt64.toUInt64).toInt64) &&& (1 : Int64)) (0 : Int64)))])) t → Steps p.tables e below (T0.setTop (mkF m 9 #[.val (.int x0), .val (.int x1), .unset] [])) t := fun t kt => by
    show Steps p.tables e below (T0.setTop (mkF m 9 #[.val (.int x0), .val (.int x1), .unset] [])) _
    refine X0.ldc2Long hx hown (mvT hZ (hw _ (List.mem_of_getElem? (i := 0) rfl))) (g := (mkF m 9 #[.val (.int x0), .val (.int x1), .unset] [])) rfl (hb hby at_9) _ ?_
    show Steps p.tables e below (T0.setTop (mkF m 12 #[.val (.int x0), .val (.int x1), .unset] [(.long (4294977024 : Int64))])) _
    refine XS.iloadN X0.here hx rfl (hb hby at_12) rfl ?_
    show Steps p.tables e below (T0.setTop (mkF m 13 #[.val (.int x0), .val (.int x1), .unset] [(.int x1), (.long (4294977024 : Int64))])) _
    refine XS.lushr X0.here hx rfl (hb hby at_13) rfl ?_
    show Steps p.tables e below (T0.setTop (mkF m 14 #[.val (.int x0), .val (.int x1), .unset] [(.long (((4294977024 : Int64).toUInt64 >>> (x1 &&& 0x3f).toInt64.toUInt64).toInt64))])) _
    refine XS.lconst X0.here hx rfl (hb hby at_14) ?_
    show Steps p.tables e below (T0.setTop (mkF m 15 #[.val (.int x0), .val (.int x1), .unset] [(.long (1 : Int64)), (.long (((4294977024 : Int64).toUInt64 >>> (x1 &&& 0x3f).toInt64.toUInt64).toInt64))])) _
    refine XS.land X0.here hx rfl (hb hby at_15) rfl ?_
    show Steps p.tables e below (T0.setTop (mkF m 16 #[.val (.int x0), .val (.int x1), .unset] [(.long ((((4294977024 : Int64).toUInt64 >>> (x1 &&& 0x3f).toInt64.toUInt64).toInt64) &&& (1 : Int64)))])) _
    refine XS.lconst X0.here hx rfl (hb hby at_16) ?_
    show Steps p.tables e below (T0.setTop (mkF m 17 #[.val (.int x0), .val (.int x1), .unset] [(.long (0 : Int64)), (.long ((((4294977024 : Int64).toUInt64 >>> (x1 &&& 0x3f).toInt64.toUInt64).toInt64) &&& (1 : Int64)))])) _
    refine XS.lcmp X0.here hx rfl (hb hby at_17) rfl ?_
    exact kt
  refine own_Goes.pre pre1 ?_
  by_cases hc : (lcmpW ((((4294977024 : Int64).toUInt64 >>> (x1 &&& 0x3f).toInt64.toUInt64).toInt64) &&& (1 : Int64)) (0 : Int64)) = (0 : Int32)
  · rw [f0_9, if_pos hc] at hP
    refine own_Goes.pre (fun t kt => ?_) (b0_25 x0 x1 X0 hx hZ hw hby hml hown hret hlk e0 Z0 N0 hP)
    show Steps p.tables e below (T0.setTop (mkF m 18 #[.val (.int x0), .val (.int x1), .unset] [(.int (lcmpW ((((4294977024 : Int64).toUInt64 >>> (x1 &&& 0x3f).toInt64.toUInt64).toInt64) &&& (1 : Int64)) (0 : Int64)))])) _
    refine XS.ifYes X0.here hx rfl (pc0 := 18) (pc' := 25) rfl (hb hby at_18) rfl ((if0 _ _).trans (teq hc).1) (by decide) (by decide) ?_
    exact kt
  · rw [f0_9, if_neg hc] at hP
    refine own_Goes.pre (fun t kt => ?_) (b0_21 x0 x1 X0 hx hZ hw hby hml hown hret hlk e0 Z0 N0 hP)
    show Steps p.tables e below (T0.setTop (mkF m 18 #[.val (.int x0), .val (.int x1), .unset] [(.int (lcmpW ((((4294977024 : Int64).toUInt64 >>> (x1 &&& 0x3f).toInt64.toUInt64).toInt64) &&& (1 : Int64)) (0 : Int64)))])) _
    refine XS.ifNo X0.here hx rfl (hb hby at_18) rfl ((if0 _ _).trans (feq hc).1) ?_
    exact kt
def f0_0 (x0 : Int32) : Int32 := if (32 : Int32) < (x0.toUInt32.toUInt16.toUInt32.toInt32) then (f0_25 x0 (x0.toUInt32.toUInt16.toUInt32.toInt32)) else (f0_9 x0 (x0.toUInt32.toUInt16.toUInt32.toInt32))
set_option maxRecDepth 65536 in
set_option maxHeartbeats 40000000 in
theorem b0_0 {p : Program} {l : Launch} {e : Env} {s : State} {m : MethodId} {args : Array Value} {below : List Frame} {meth : Method} {c : Code} {T0 : State} {locs : List Loc} {Z : State} {a0 : Array Value} {h0 : Heap} {n0 : Nat} {P : Option Value → Heap → Prop} (x0 : Int32) (X0 : Stand p l e room_1 s m args below meth c T0 locs 0 0) (hx : p.tables.exec = Jvm.exec) (hZ : Z.Warmed39 s.vm) (hw : ∀ d ∈ tables_1, d.before a0 Z = true) (hby : c.code = code) (hml : c.maxLocals = 3) (hown : s.vm.findClass "com/example/shape_trees/shapetrees/xpath/tree/XmlNamesIsWhitespacePinLaw" = some m.cls) (hret : meth.sig.returnType = some .boolean) (hlk : meth.locks = false) (e0 : T0.heap = h0) (Z0 : n0 ≤ h0.size) (N0 : Fr n0 locs) (hP : P (some (.int (f0_0 x0))) h0) :
    own_Goes p e below s n0 room_1.cells room_1.slots P (T0.setTop (mkF m 0 #[.val (.int x0), .unset, .unset] [])) := by
  have pre1 : ∀ t, Steps p.tables e below (T0.setTop (mkF m 6 #[.val (.int x0), .val (.int (x0.toUInt32.toUInt16.toUInt32.toInt32)), .unset] [(.int (32 : Int32)), (.int (x0.toUInt32.toUInt16.toUInt32.toInt32))])) t → Steps p.tables e below (T0.setTop (mkF m 0 #[.val (.int x0), .unset, .unset] [])) t := fun t kt => by
    show Steps p.tables e below (T0.setTop (mkF m 0 #[.val (.int x0), .unset, .unset] [])) _
    refine XS.iloadN X0.here hx rfl (hb hby at_0) rfl ?_
    show Steps p.tables e below (T0.setTop (mkF m 1 #[.val (.int x0), .unset, .unset] [(.int x0)])) _
    refine XS.i2c X0.here hx rfl (hb hby at_1) rfl ?_
    show Steps p.tables e below (T0.setTop (mkF m 2 #[.val (.int x0), .unset, .unset] [(.int (x0.toUInt32.toUInt16.toUInt32.toInt32))])) _
    refine XS.istoreN X0.here hx rfl (hb hby at_2) rfl (l' := #[.val (.int x0), .val (.int (x0.toUInt32.toUInt16.toUInt32.toInt32)), .unset]) rfl ?_
    show Steps p.tables e below (T0.setTop (mkF m 3 #[.val (.int x0), .val (.int (x0.toUInt32.toUInt16.toUInt32.toInt32)), .unset] [])) _
    refine XS.iloadN X0.here hx rfl (hb hby at_3) rfl ?_
    show Steps p.tables e below (T0.setTop (mkF m 4 #[.val (.int x0), .val (.int (x0.toUInt32.toUInt16.toUInt32.toInt32)), .unset] [(.int (x0.toUInt32.toUInt16.toUInt32.toInt32))])) _
    refine XS.bipush X0.here hx rfl (hb hby at_4) ?_
    exact kt
  refine own_Goes.pre pre1 ?_
  by_cases hc : (32 : Int32) < (x0.toUInt32.toUInt16.toUInt32.toInt32)
  · rw [f0_0, if_pos hc] at hP
    refine own_Goes.pre (fun t kt => ?_) (b0_25 x0 (x0.toUInt32.toUInt16.toUInt32.toInt32) X0 hx hZ hw hby hml hown hret hlk e0 Z0 N0 hP)
    show Steps p.tables e below (T0.setTop (mkF m 6 #[.val (.int x0), .val (.int (x0.toUInt32.toUInt16.toUInt32.toInt32)), .unset] [(.int (32 : Int32)), (.int (x0.toUInt32.toUInt16.toUInt32.toInt32))])) _
    refine XS.icmpYes X0.here hx rfl (pc0 := 6) (pc' := 25) rfl (hb hby at_6) rfl (tlt hc).2.2.1 (by decide) (by decide) ?_
    exact kt
  · rw [f0_0, if_neg hc] at hP
    refine own_Goes.pre (fun t kt => ?_) (b0_9 x0 (x0.toUInt32.toUInt16.toUInt32.toInt32) X0 hx hZ hw hby hml hown hret hlk e0 Z0 N0 hP)
    show Steps p.tables e below (T0.setTop (mkF m 6 #[.val (.int x0), .val (.int (x0.toUInt32.toUInt16.toUInt32.toInt32)), .unset] [(.int (32 : Int32)), (.int (x0.toUInt32.toUInt16.toUInt32.toInt32))])) _
    refine XS.icmpNo X0.here hx rfl (hb hby at_6) rfl (flt hc).2.2.1 ?_
    exact kt
theorem pn1 : plainName "com/example/shape_trees/shapetrees/xpath/tree/XmlNamesIsWhitespacePinLaw" = true := by first | (simp [plainName, overriddenIn]; done) | decide +kernel
theorem ef0 (m : MethodId) (x0 : Int32) : entryFrame m #[(.int x0)] maxLocals = (mkF m 0 #[.val (.int x0), .unset, .unset] []) := by first | (simp [entryFrame, mkF, argsToLocals, Value.category, maxLocals]; done) | rfl
set_option maxRecDepth 65536 in
set_option maxHeartbeats 40000000 in
theorem rm0 (l : Launch) (Z : State) (a0 : Array Value) (hw : ∀ d ∈ tables_1, d.before a0 Z = true) (ws : List Jvm.Cond) (x0 : Int32) (h0 : Heap) (n0 : Nat) (Z0 : n0 ≤ h0.size) (hone : (f0_0 x0) = 1) :
    MetFree l x (head1 (Jvm.Cond.code x code maxLocals ret :: ws) room_1) (fun a U => a = #[(.int x0)] ∧ Z.Warmed39 U.vm ∧ U.heap = h0) (fun _ _ _ _ _ => True) (fun _ U o U' => ∃ v L, o = .returned v ∧ own_Q own_one n0 v U'.heap L ∧ FrameEnd U o U' L room_1.cells room_1.slots) := by
  refine MetFree.of_bodySF (plainFor_of_name pn1) hisR ?_
  intro p e s m args below meth c s₁ Bd hml0 hP hK
  obtain ⟨rfl, hZ, hh⟩ := hP
  have hx := Bd.exec
  have hby := Bd.bytes
  have hml : c.maxLocals = 3 := hml0
  have hown : s.vm.findClass "com/example/shape_trees/shapetrees/xpath/tree/XmlNamesIsWhitespacePinLaw" = some m.cls := findClass_of_methodNamed Bd.named
  have X0 : Stand p l e room_1 s m #[(.int x0)] below meth c s₁ [] 0 0 := Stand.of_body Bd
  have e0 : s₁.heap = h0 := by rw [← hh, Bd.state]; rfl
  refine own_Goes.pre (S' := s₁.setTop (mkF m 0 #[.val (.int x0), .unset, .unset] [])) (P := own_one) (n0 := n0) (kc := room_1.cells) (ks := room_1.slots) (fun t k => castTop (ef0 m x0) k) ?_
  exact b0_0 x0 X0 hx hZ hw hby hml hown Bd.returns Bd.notSynchronized e0 Z0 (Fr.nil n0) (by rw [hone]; exact rfl)
theorem own_small : ∀ i : Fin 33, f0_9 0 (Int32.ofNat i.1) = 1 := by decide +kernel
theorem own_law (i0 : Int32) : f0_0 i0 = 1 := by
  obtain ⟨-, h0, h1⟩ := c_i2c i0
  rw [f0_0]
  generalize i0.toUInt32.toUInt16.toUInt32.toInt32 = c at *
  have h32 : (32 : Int32).toInt = 32 := by decide
  by_cases hc : (32 : Int32) < c
  · rw [if_pos hc]
    rw [Int32.lt_iff_toInt_lt, h32] at hc
    have e : ∀ k : Int32, k.toInt ≤ 32 → ¬ c = k := fun k hk q => by subst q; omega
    simp only [f0_25, f0_26, f1_0, f1_6, f1_12, f1_18, f1_24, f1_28, f0_35, f0_39, if_neg (e 32 (by decide)), if_neg (e 9 (by decide)), if_neg (e 13 (by decide)), if_neg (e 10 (by decide)), if_pos]
  · rw [if_neg hc]
    rw [Int32.lt_iff_toInt_lt, h32] at hc
    have q := own_small ⟨c.toInt.toNat, by omega⟩
    have e : Int32.ofNat c.toInt.toNat = c := by
      apply Int32.toInt_inj.mp
      rw [Int32.toInt_ofNat_of_lt (by omega)]
      omega
    simp only [e] at q
    exact q
set_option maxRecDepth 65536 in
set_option maxHeartbeats 40000000 in
theorem comes_1 {Post : Tables → Env → Array Value → State → Outcome → State → Prop} (hpost : ∀ tb e args s v u, (limb_1_1.after args s (.returned v) u = true ∧ limb_1_2.after args s (.returned v) u = true ∧ True) → FrameEnd s (.returned v) u (Jvm.fieldLocs frame_1_writes args s ++ Jvm.arrayLocs frame_1_arrays args s ++ Jvm.staticLocs frame_1_statics s) 0 0 → Post tb e args s (.returned v) u) :
    ArmFor flags0 classFile x code maxLocals ret World_1 tables_1 room_1 Calls_1 rest_1 Pre_1 Post := by
  intro l hfl _ _ p e ha hc hk s m args below hf hA hF happ hP
  obtain ⟨hcalls, hrest, hpre⟩ := hP
  obtain ⟨-, -, -, hnamed, -, -, -, hat⟩ := (Spec.applies_iff hf).mp happ
  obtain ⟨hg, hn⟩ := and_e (Cond.before_iff.mp (show (Jvm.Cond.and given_1 narrow_1).before args s = true from hpre))
  obtain ⟨gc, g0⟩ := and_e hg
  obtain ⟨w0, rfl⟩ : ∃ w0 : Value, args = #[w0] := by
    have hs : args.size = 1 := by simpa [Cond.value, given_1] using gc
    obtain ⟨L⟩ := args
    match L, hs with
    | [w0], _ => exact ⟨w0, rfl⟩
  have hw := fun d (hd : d ∈ tables_1) => atoms_spec (ws := Jvm.Cond.code x code maxLocals ret :: tables_1) hat d (List.mem_cons_of_mem _ hd)
  obtain ⟨i0, ei0⟩ := is_v g0
  obtain rfl : w0 = (.int i0) := Option.some.inj ei0
  obtain ⟨n, o, h1, h2, h3, _, L, rfl, ⟨rfl, N⟩, hq⟩ := rm0 l s _ hw tables_1 i0 s.heap s.heap.size (Nat.le_refl _) (own_law i0) p e ha hc hk s m _ below hf ((Spec.applies_iff_loose hf).mp happ).1 ⟨rfl, State.Warmed39.refl s, rfl⟩ trivial
  refine ⟨n, _, h1, h2, h3, hpost _ _ _ _ _ _ ⟨Cond.after_iff.mpr rfl, Cond.after_iff.mpr (eq_i res_at (Term.int_eval (1)) rfl), trivial⟩ ⟨hq.1, hq.2.1, (hq.2.2.sift fun y hy => Or.inr (N y hy)).mono (by decide) (by decide)⟩⟩
theorem main_1_1 : Claimed_1_1 := comes_1 fun _ _ _ _ _ _ h hF => ⟨h.1, hF⟩
theorem main_1_2 : Claimed_1_2 := comes_1 fun _ _ _ _ _ _ h hF => ⟨h.2.1, hF⟩
end Jvm.Pilot.@@N@@
namespace Jvm.Pilot.@@N@@
open Jvm Jvm.ClassFile Sem Op Lib Jvm.Free Jvm.Stand Jvm.Pilot.@@N@@.Jvm.D
/-! MADE BY PROGRAM (witnessworld.py) out of the Statement's table words and the real class files: 9 classes; the members and pool entries that the words name. The judged class is class 1, her method 1. -/
namespace start1
open Jvm.ClassFile
def u (s : String) : CpInfo := .utf8 (stringToUtf16 s)
/-- a pool by its gaps: so many unusable entries, then the entry; so many at the end -/
def gap : Nat → List CpInfo → List CpInfo
  | 0, r => r
  | n + 1, r => .unusable :: gap n r
def poolList (es : List (Nat × CpInfo)) (last : Nat) : List CpInfo := es.foldr (fun e r => gap e.1 (e.2 :: r)) (gap last [])
def pool (es : List (Nat × CpInfo)) (last : Nat) : Array CpInfo := ⟨poolList es last⟩
def fileOf (pool : Array CpInfo) (this : Nat) (attrs : Array Attribute := #[]) (ms : Array MethodInfo := #[]) (fl : Nat := 33) (sup : Nat := 0) (ifs : Array Nat := #[]) (fds : Array FieldInfo := #[]) : ClassFile where
  minorVersion := 0
  majorVersion := 65
  constantPool := pool
  accessFlags := fl
  thisClass := this
  superClass := sup
  interfaces := ifs
  fields := fds
  methods := ms
  attributes := attrs
def plain (name : String) (sup : Option ClassId) : Class where
  name := name
  kind := .ordinary
  loader := none
  accessFlags := 33
  super := sup
  interfaces := #[]
  cf := none
  fields := #[]
  methods := #[]
  instanceTypes := #[]
  staticTypes := #[]
  resolved := #[]
  callSites := []
  init := .initialized
  statics := none
  mirror := none

def pool0 : Array CpInfo := pool [(5, u "<init>"), (0, u "()V"), (1, .class_ 10), (1, u "java/lang/Object")] 113

def k0m0 : Method := { name := "<init>", desc := "()V", sig := { parameters := [], returnType := none }, accessFlags := 1, code := none }
/-- java/lang/Object -/
def k0 : Class := { plain "java/lang/Object" none with
  accessFlags := 33
  interfaces := #[]
  cf := some (fileOf pool0 8 #[] #[{ accessFlags := 1, nameIndex := 5, descriptorIndex := 6, attributes := #[] }] 33 0 #[] #[])
  fields := #[]
  methods := #[k0m0]
  instanceTypes := #[]
  staticTypes := #[]
  resolved := Array.replicate 124 none
  statics := none }

def pool1 : Array CpInfo := pool [(2, .class_ 4), (1, u "java/lang/Object"), (0, u "<init>"), (0, u "()V"), (0, .class_ 8), (0, u "com/example/shape_trees/shapetrees/xpath/tree/XmlNamesIsWhitespacePinLaw"), (0, .long 4294977024), (1, .methodref 12 13), (0, .class_ 14), (0, .nameAndType 15 16), (0, u "com/example/shape_trees/shapetrees/xpath/tree/XmlNames"), (0, u "isWhitespace"), (0, u "(C)Z"), (0, u "XML_SPACE_MASK"), (0, u "J"), (3, u "law"), (0, u "(I)Z")] 3

def k1m0 : Method := { name := "<init>", desc := "()V", sig := { parameters := [], returnType := none }, accessFlags := 2, code := none }
def k1c1 : Code := { maxStack := 4, maxLocals := 3, code := code, exceptionTable := #[], attributes := #[] }
def k1m1 : Method := { name := "law", desc := "(I)Z", sig := { parameters := [.int], returnType := some .boolean }, accessFlags := 9, code := some k1c1 }
/-- com/example/shape_trees/shapetrees/xpath/tree/XmlNamesIsWhitespacePinLaw -/
def k1 : Class := { plain "com/example/shape_trees/shapetrees/xpath/tree/XmlNamesIsWhitespacePinLaw" (some 0) with
  accessFlags := 49
  interfaces := #[]
  cf := some (fileOf pool1 7 #[] #[{ accessFlags := 2, nameIndex := 5, descriptorIndex := 6, attributes := #[] }, { accessFlags := 9, nameIndex := 22, descriptorIndex := 23, attributes := #[] }] 49 2 #[] #[{ accessFlags := 26, nameIndex := 17, descriptorIndex := 18, attributes := #[] }])
  fields := #[{ name := "XML_SPACE_MASK", type := .long, accessFlags := 26, slot := 0, constantValue := 0 }]
  methods := #[k1m0, k1m1]
  instanceTypes := #[]
  staticTypes := #[.long]
  resolved := Array.replicate 27 none
  statics := none }

def pool2 : Array CpInfo := pool [(2, .class_ 4), (1, u "java/lang/Object"), (0, u "<init>"), (0, u "()V"), (8, .class_ 17), (1, u "com/example/shape_trees/shapetrees/xpath/tree/XmlNames"), (33, u "isWhitespace"), (0, u "(C)Z"), (0, u "XML_NAMESPACE"), (0, u "Ljava/lang/String;"), (3, u "XML_PREFIX")] 10

def k2m0 : Method := { name := "<init>", desc := "()V", sig := { parameters := [], returnType := none }, accessFlags := 2, code := none }
def k2c1 : Code := { maxStack := 2, maxLocals := 1, code := prog_173_method_5_code, exceptionTable := #[], attributes := #[] }
def k2m1 : Method := { name := "isWhitespace", desc := "(C)Z", sig := { parameters := [.char], returnType := some .boolean }, accessFlags := 9, code := some k2c1 }
/-- com/example/shape_trees/shapetrees/xpath/tree/XmlNames -/
def k2 : Class := { plain "com/example/shape_trees/shapetrees/xpath/tree/XmlNames" (some 0) with
  accessFlags := 49
  interfaces := #[]
  cf := some (fileOf pool2 15 #[] #[{ accessFlags := 2, nameIndex := 5, descriptorIndex := 6, attributes := #[] }, { accessFlags := 9, nameIndex := 51, descriptorIndex := 52, attributes := #[] }] 49 2 #[] #[{ accessFlags := 25, nameIndex := 53, descriptorIndex := 54, attributes := #[] }, { accessFlags := 25, nameIndex := 58, descriptorIndex := 54, attributes := #[] }])
  fields := #[{ name := "XML_NAMESPACE", type := (.object "java/lang/String"), accessFlags := 25, slot := 0, constantValue := 0 }, { name := "XML_PREFIX", type := (.object "java/lang/String"), accessFlags := 25, slot := 1, constantValue := 0 }]
  methods := #[k2m0, k2m1]
  instanceTypes := #[]
  staticTypes := #[(.object "java/lang/String"), (.object "java/lang/String")]
  resolved := Array.replicate 69 none
  statics := none }

def pool3 : Array CpInfo := pool [(1, u "java/lang/Cloneable"), (0, .class_ 1), (0, u "java/lang/Object"), (0, .class_ 3)] 3

/-- java/lang/Cloneable -/
def k3 : Class := { plain "java/lang/Cloneable" (some 0) with
  accessFlags := 1537
  interfaces := #[]
  cf := some (fileOf pool3 2 #[] #[] 1537 4 #[] #[])
  fields := #[]
  methods := #[]
  instanceTypes := #[]
  staticTypes := #[]
  resolved := Array.replicate 8 none
  statics := none }

def pool4 : Array CpInfo := pool [(1, u "java/io/Serializable"), (0, .class_ 1), (0, u "java/lang/Object"), (0, .class_ 3)] 3

/-- java/io/Serializable -/
def k4 : Class := { plain "java/io/Serializable" (some 0) with
  accessFlags := 1537
  interfaces := #[]
  cf := some (fileOf pool4 2 #[] #[] 1537 4 #[] #[])
  fields := #[]
  methods := #[]
  instanceTypes := #[]
  staticTypes := #[]
  resolved := Array.replicate 8 none
  statics := none }

/-- the primitive byte -/
def k5 : Class := { plain "byte" none with kind := .primitive 'B', accessFlags := 0x411 }
/-- [B -/
def k6 : Class := { plain "[B" (some 0) with kind := .array 5 .byte, interfaces := #[3, 4], accessFlags := 1041 }

/-- the primitive int -/
def k7 : Class := { plain "int" none with kind := .primitive 'I', accessFlags := 0x411 }
/-- [I -/
def k8 : Class := { plain "[I" (some 0) with kind := .array 7 .int, interfaces := #[3, 4], accessFlags := 1041 }

def heap : Heap := #[]
def classes : Array Class := #[k0, k1, k2, k3, k4, k5, k6, k7, k8]
def interned : List (Array UInt16 × Addr) := []
def slotsUsed : Nat := 0
def theMethod : MethodId := ⟨1, 1⟩
def args0 : Array Value := #[.int 5]
def aboutOver (below : List Frame) : State where
  vm := { classes := classes, interned := interned.toArray }
  heap := heap
  slotsUsed := slotsUsed
  threads := #[{ frames := .invoking theMethod args0 :: below }]
def below0 : List Frame := [.native { method := ⟨0, 0⟩, args := #[] }]
def about1 : State := aboutOver below0
def p0 : Program := .bare "" "" ""
def e0 : Env := launch0.env 0 0 0
theorem w_frames : about1.frames = Frame.invoking theMethod args0 :: below0 := rfl
set_option maxRecDepth 65536 in
theorem w_args : argsFit about1.vm theMethod args0 = true := by decide +kernel
set_option maxRecDepth 65536 in
theorem w_heap : heapFits about1 = true := by decide +kernel
set_option maxRecDepth 65536 in
theorem w_runnable : about1.curStatus? = some .runnable := by decide +kernel
set_option maxRecDepth 65536 in
theorem w_alone : about1.alone = true := by decide +kernel
set_option maxRecDepth 65536 in
theorem w_named : about1.methodNamed? x = some theMethod := by decide +kernel
set_option maxRecDepth 65536 in
theorem w_hears : about1.hears theMethod below0 = true := by decide +kernel
set_option maxRecDepth 65536 in
theorem w_ripe : about1.ripe theMethod args0 below0 = true := by decide +kernel
theorem w_running : about1.status = .running := rfl
set_option maxRecDepth 65536 in
theorem w_room : about1.hasRoom e0.platform room_1 = true :=
  launch0.hasRoom_least _ room_1 (by decide +kernel) (by decide +kernel) (by decide +kernel) (by decide +kernel) (by decide +kernel) (by decide +kernel)
theorem allAtoms_all (ts : List Jvm.Cond) (a : Array Jvm.Value) (st : Jvm.State) : (allAtoms ts).before a st = ts.all (fun c => c.before a st) := by
  induction ts with
  | nil => rfl
  | cons c t ih =>
    show (Jvm.Cond.and c (allAtoms t)).before a st = _
    rw [Jvm.Cond.before_and, ih, List.all_cons]
def words1 : List Jvm.Cond := Jvm.Cond.code x code maxLocals ret :: tables_1
/-- a 'code' word, met by the world's own term for the bytes: nothing is compared byte by byte -/
theorem code_word {y : MethodName} {bytes : ByteArray} {mx : Nat} {rt : Option FieldType} {a : Array Value} {s : State} {m : MethodId} {meth : Method} {c : Code} (h1 : s.methodNamed? y = some m) (h2 : s.vm.method? m = some meth) (h3 : meth.code = some c) (h4 : c.code = bytes)
    (h5 : (c.maxLocals == mx && c.exceptionTable.isEmpty && decide (c.maxStack ≤ mostOperands) && decide (meth.sig.returnType = rt) && !meth.locks && decide (parseMethodDescriptor y.desc = some meth.sig)) = true) : (Jvm.Cond.code y bytes mx rt).before a s = true := by
  simp only [Bool.and_eq_true, beq_iff_eq, Bool.not_eq_true', decide_eq_true_eq] at h5
  obtain ⟨⟨⟨⟨⟨g1, g2⟩, g3⟩, g4⟩, g5⟩, g6⟩ := h5
  simp [Cond.before, Cond.holds, Cond.value, h1, h2, h3, h4, g1, g2, g3, g4, g5, g6]
def isCode : Jvm.Cond → Bool
  | .code _ _ _ _ => true
  | _ => false
theorem all_split {L : List Jvm.Cond} {P : Jvm.Cond → Bool} (h1 : L.all (fun c => isCode c || P c) = true) (h2 : ∀ c ∈ L.filter isCode, P c = true) : L.all P = true := by
  refine List.all_eq_true.mpr fun c hc => ?_
  have h := List.all_eq_true.mp h1 c hc
  rcases Bool.eq_false_or_eq_true (isCode c) with hi | hi
  · exact h2 c (List.mem_filter.mpr ⟨hc, hi⟩)
  · simpa [hi] using h
set_option maxRecDepth 65536 in
theorem w_c0 : (Jvm.Cond.code x code maxLocals ret).before args0 about1 = true := code_word (m := ⟨1, 1⟩) (meth := k1m1) (c := k1c1) (by decide +kernel) rfl rfl rfl (by decide +kernel)
set_option maxRecDepth 65536 in
theorem w_c1 : (Jvm.Cond.code ({ cls := "com/example/shape_trees/shapetrees/xpath/tree/XmlNames", name := "isWhitespace", desc := "(C)Z" } : Jvm.MethodName) prog_173_method_5_code (1 : Nat) (Option.some Jvm.ClassFile.FieldType.boolean)).before args0 about1 = true := code_word (m := ⟨2, 1⟩) (meth := k2m1) (c := k2c1) (by decide +kernel) rfl rfl rfl (by decide +kernel)
def codes1 : List Jvm.Cond := [Jvm.Cond.code x code maxLocals ret, Jvm.Cond.code ({ cls := "com/example/shape_trees/shapetrees/xpath/tree/XmlNames", name := "isWhitespace", desc := "(C)Z" } : Jvm.MethodName) prog_173_method_5_code (1 : Nat) (Option.some Jvm.ClassFile.FieldType.boolean)]
set_option maxRecDepth 65536 in
theorem codes_eq : words1.filter isCode = codes1 := rfl
theorem w_codes : ∀ c ∈ words1.filter isCode, c.before args0 about1 = true := by
  rw [codes_eq]
  intro c hc
  simp only [codes1, List.mem_cons, List.not_mem_nil, or_false] at hc
  rcases hc with rfl | rfl
  · exact w_c0
  · exact w_c1
set_option maxRecDepth 65536 in
theorem w_t1 : words1.all (fun c => isCode c || c.before args0 about1) = true := by decide +kernel
theorem w_tables : (allAtoms (Jvm.Cond.code x code maxLocals ret :: tables_1)).before args0 about1 = true := by
  rw [allAtoms_all]
  show words1.all (fun c => c.before args0 about1) = true
  refine all_split ?_ w_codes
  rw [w_t1]
set_option maxRecDepth 65536 in
theorem w_case : (Jvm.Cond.and given_1 narrow_1).before args0 about1 = true := by decide +kernel
theorem w_applies : (headSpec (Jvm.Cond.code x code maxLocals ret :: tables_1) room_1).applies x e0.platform about1 = true :=
  (Spec.applies_iff w_frames).mpr ⟨w_running, w_runnable, w_alone, w_named, w_hears, w_ripe, w_room, w_tables⟩
theorem atStart : AtStart classFile x code maxLocals ret World_1 tables_1 room_1 Calls_1 rest_1 Pre_1 launch0 p0 e0 about1 theMethod args0 below0 :=
  ⟨lists_1, trivial, launch0.admits_env _ _ _, launch0.least_env, fairChoices_fair.cas, fairChoices_fair.clock, w_frames, w_args, w_heap, w_applies, trivial, trivial, w_case⟩
end start1
theorem witness_1 : WitnessClaimed_1 := ⟨start1.p0, start1.e0, start1.about1, start1.theMethod, start1.args0, start1.below0, start1.atStart⟩
end Jvm.Pilot.@@N@@
