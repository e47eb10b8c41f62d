import JvmDerived
import JvmDerived.Pilot.@@N@@Statement
import JvmDerived.Pilot.@@N@@Code
set_option linter.unusedVariables false
set_option linter.unusedSimpArgs false
namespace Jvm.Pilot.@@N@@
open Jvm Jvm.ClassFile Sem Op Lib Jvm.Free Jvm.Stand Jvm.LawKit Jvm.RoadKit Bundle Jvm.Pilot.@@N@@.Jvm.D
section Own
variable {p : Program} {l : Launch} {e : Env} {R : Room} {s : State} {m : MethodId} {args : Array Value} {below : List Frame} {meth : Method} {c : Code} {T : State} {locs : List Loc} {cells slots : Nat} {n0 kc ks : Nat} {P : Option Value → Heap → Prop}
/-- what a body leaves: P of its value and heap; nothing that stood at the start was written -/
def own_Q (P : Option Value → Heap → Prop) (n0 : Nat) (v : Option Value) (h : Heap) (L : List Loc) : Prop := P v h ∧ Fr n0 L
/-- the run comes from S to the end of this invocation -/
def own_Goes (p : Program) (e : Env) (below : List Frame) (s : State) (n0 kc ks : Nat) (P : Option Value → Heap → Prop) (S : State) : Prop :=
  ∃ s₂ o, Steps p.tables e below S s₂ ∧ s₂.status = .running ∧ Ended s₂ below o ∧ ∃ v L, o = .returned v ∧ own_Q P n0 v s₂.heap L ∧ FrameEnd s o s₂ L kc ks
theorem own_Goes.pre {S S' : State} (h : ∀ t, Steps p.tables e below S' t → Steps p.tables e below S t) (g : own_Goes p e below s n0 kc ks P S') : own_Goes p e below s n0 kc ks P S := by
  obtain ⟨t, o, st, r⟩ := g
  exact ⟨t, o, h t st, r⟩
theorem own_retW (X : Stand p l e R s m args below meth c T locs cells slots) (hx : p.tables.exec = Jvm.exec) (hlk : meth.locks = false) {pc : Nat} {Ls : Array Slot} {w : Value} {t : FieldType} {i : Instr} {rest : List Value} (hret : meth.sig.returnType = some t) (hn : narrow t w = w)
    (hi : (i = .ireturn ∧ (t = .int ∨ t = .boolean ∨ t = .byte ∨ t = .char ∨ t = .short) ∧ ∃ z, w = .int z) ∨ (i = .lreturn ∧ t = .long ∧ ∃ z, w = .long z) ∨ (i = .dreturn ∧ t = .double ∧ ∃ z, w = .double z) ∨ (i = .freturn ∧ t = .float ∧ ∃ z, w = .float z) ∨ (i = .areturn ∧ t.isReference = true ∧ w.isRef = true))
    (hd : decode c.code pc = .ok (i, 1)) (N : Fr n0 locs) (hP : P (some w) T.heap) (hc : cells ≤ kc) (hs : slots ≤ ks) : own_Goes p e below s n0 kc ks P (T.setTop (mkF m pc Ls (w :: rest))) := by
  obtain ⟨fs, hr, hrun, hended, hW, hsame⟩ := X.leave (v := some w) (fun h => by rw [hret] at h; cases h)
  exact ⟨_, _, retOut X hx hret hn hi hd hr, hrun, hended, _, _, rfl, ⟨hP, N⟩, ⟨_, rfl⟩, hW, hsame.mono hc hs⟩
theorem own_retI (X : Stand p l e R s m args below meth c T locs cells slots) (hx : p.tables.exec = Jvm.exec) (hlk : meth.locks = false) {pc : Nat} {Ls : Array Slot} {z : Int32} {rest : List Value} (hret : meth.sig.returnType = some .int)
    (hd : decode c.code pc = .ok (.ireturn, 1)) (N : Fr n0 locs) (hP : P (some (.int z)) T.heap) (hc : cells ≤ kc) (hs : slots ≤ ks) : own_Goes p e below s n0 kc ks P (T.setTop (mkF m pc Ls (.int z :: rest))) :=
  own_retW X hx hlk hret rfl (Or.inl ⟨rfl, Or.inl rfl, _, rfl⟩) hd N hP hc hs
theorem own_retJ (X : Stand p l e R s m args below meth c T locs cells slots) (hx : p.tables.exec = Jvm.exec) (hlk : meth.locks = false) {pc : Nat} {Ls : Array Slot} {z : Int64} {rest : List Value} (hret : meth.sig.returnType = some .long)
    (hd : decode c.code pc = .ok (.lreturn, 1)) (N : Fr n0 locs) (hP : P (some (.long z)) T.heap) (hc : cells ≤ kc) (hs : slots ≤ ks) : own_Goes p e below s n0 kc ks P (T.setTop (mkF m pc Ls (.long z :: rest))) :=
  own_retW X hx hlk hret rfl (Or.inr (Or.inl ⟨rfl, rfl, _, rfl⟩)) hd N hP hc hs
theorem own_retN (X : Stand p l e R s m args below meth c T locs cells slots) (hx : p.tables.exec = Jvm.exec) (hlk : meth.locks = false) {pc : Nat} {Ls : Array Slot} {z : Int32} {t : FieldType} {rest : List Value} (hret : meth.sig.returnType = some t) (ht : t = .boolean ∨ t = .byte ∨ t = .char ∨ t = .short)
    (hd : decode c.code pc = .ok (.ireturn, 1)) (N : Fr n0 locs) (hP : P (some (.int (nar t z))) T.heap) (hc : cells ≤ kc) (hs : slots ≤ ks) : own_Goes p e below s n0 kc ks P (T.setTop (mkF m pc Ls (.int z :: rest))) := by
  obtain ⟨fs, hr, hrun, hended, hW, hsame⟩ := X.leave (v := some (.int (nar t z))) (fun h => by rw [hret] at h; cases h)
  exact ⟨_, _, retN X hx hret ht hd hr, hrun, hended, _, _, rfl, ⟨hP, N⟩, ⟨_, rfl⟩, hW, hsame.mono hc hs⟩
theorem own_retV (X : Stand p l e R s m args below meth c T locs cells slots) (hx : p.tables.exec = Jvm.exec) (hlk : meth.locks = false) {pc : Nat} {Ls : Array Slot} (hret : meth.sig.returnType = none)
    (hd : decode c.code pc = .ok (.return_, 1)) (N : Fr n0 locs) (hP : P none T.heap) (hc : cells ≤ kc) (hs : slots ≤ ks) : own_Goes p e below s n0 kc ks P (T.setTop (mkF m pc Ls [])) := by
  obtain ⟨fs, hr, hrun, hended, hW, hsame⟩ := X.leave (v := none) (fun _ => rfl)
  exact ⟨_, _, X.returnOut hx hret hd hr, hrun, hended, _, _, rfl, ⟨hP, N⟩, ⟨_, rfl⟩, hW, hsame.mono hc hs⟩
/-- the value w comes back, the heap as it was -/
def own_val (w : Value) (h0 : Heap) (v : Option Value) (h : Heap) : Prop := v = some w ∧ h = h0
def own_one (v : Option Value) (_ : Heap) : Prop := v = some (.int (1 : Int32))
end Own
theorem d1_0 : decode jdk_29_method_70_code 0 = .ok (.lload_n 0, 1) := by decide +kernel
theorem d1_1 : decode jdk_29_method_70_code 1 = .ok (.lload_n 2, 1) := by decide +kernel
theorem d1_2 : decode jdk_29_method_70_code 2 = .ok (.lcmp, 1) := by decide +kernel
theorem d1_3 : decode jdk_29_method_70_code 3 = .ok (.ifCond .gt 7, 3) := by decide +kernel
theorem d1_6 : decode jdk_29_method_70_code 6 = .ok (.lload_n 0, 1) := by decide +kernel
theorem d1_7 : decode jdk_29_method_70_code 7 = .ok (.goto 4, 3) := by decide +kernel
theorem d1_10 : decode jdk_29_method_70_code 10 = .ok (.lload_n 2, 1) := by decide +kernel
theorem d1_11 : decode jdk_29_method_70_code 11 = .ok (.lreturn, 1) := by decide +kernel
def f1_10 (j0 : Int64) (j2 : Int64) : Int64 := j2
set_option maxRecDepth 65536 in
set_option maxHeartbeats 40000000 in
theorem b1_10 {p : Program} {l : Launch} {e : Env} {s : State} {m : MethodId} {args : Array Value} {below : List Frame} {meth : Method} {c : Code} {T0 : State} {locs : List Loc} {Z : State} {a0 : Array Value} {h0 : Heap} {n0 : Nat} {P : Option Value → Heap → Prop} (j0 : Int64) (j2 : Int64) (X0 : Stand p l e ({ frames := 0, cells := 0, slots := 0, locals := 0 } : Room) s m args below meth c T0 locs 0 0) (hx : p.tables.exec = Jvm.exec) (hZ : Z.Warmed39 s.vm) (hw : ∀ d ∈ tables_1, d.before a0 Z = true) (hby : c.code = jdk_29_method_70_code) (hml : c.maxLocals = 4) (hown : s.vm.findClass "java/lang/Math" = some m.cls) (hret : meth.sig.returnType = some .long) (hlk : meth.locks = false) (e0 : T0.heap = h0) (Z0 : n0 ≤ h0.size) (N0 : Fr n0 locs) (hP : P (some (.long (f1_10 j0 j2))) h0) :
    own_Goes p e below s n0 0 0 P (T0.setTop (mkF m 10 #[.val (.long j0), .second, .val (.long j2), .second] [])) := by
  rw [f1_10] at hP
  refine own_Goes.pre (fun t kt => ?_) (own_retJ X0 hx hlk hret (hb hby d1_11) N0 (by rw [e0]; exact hP) (by decide) (by decide) (Ls := #[.val (.long j0), .second, .val (.long j2), .second]) (rest := []) (z := j2))
  show Steps p.tables e below (T0.setTop (mkF m 10 #[.val (.long j0), .second, .val (.long j2), .second] [])) _
  refine XS.lloadN X0.here hx rfl (hb hby d1_10) rfl ?_
  exact kt
def f1_6 (j0 : Int64) (j2 : Int64) : Int64 := j0
set_option maxRecDepth 65536 in
set_option maxHeartbeats 40000000 in
theorem b1_6 {p : Program} {l : Launch} {e : Env} {s : State} {m : MethodId} {args : Array Value} {below : List Frame} {meth : Method} {c : Code} {T0 : State} {locs : List Loc} {Z : State} {a0 : Array Value} {h0 : Heap} {n0 : Nat} {P : Option Value → Heap → Prop} (j0 : Int64) (j2 : Int64) (X0 : Stand p l e ({ frames := 0, cells := 0, slots := 0, locals := 0 } : Room) s m args below meth c T0 locs 0 0) (hx : p.tables.exec = Jvm.exec) (hZ : Z.Warmed39 s.vm) (hw : ∀ d ∈ tables_1, d.before a0 Z = true) (hby : c.code = jdk_29_method_70_code) (hml : c.maxLocals = 4) (hown : s.vm.findClass "java/lang/Math" = some m.cls) (hret : meth.sig.returnType = some .long) (hlk : meth.locks = false) (e0 : T0.heap = h0) (Z0 : n0 ≤ h0.size) (N0 : Fr n0 locs) (hP : P (some (.long (f1_6 j0 j2))) h0) :
    own_Goes p e below s n0 0 0 P (T0.setTop (mkF m 6 #[.val (.long j0), .second, .val (.long j2), .second] [])) := by
  rw [f1_6] at hP
  refine own_Goes.pre (fun t kt => ?_) (own_retJ X0 hx hlk hret (hb hby d1_11) N0 (by rw [e0]; exact hP) (by decide) (by decide) (Ls := #[.val (.long j0), .second, .val (.long j2), .second]) (rest := []) (z := j0))
  show Steps p.tables e below (T0.setTop (mkF m 6 #[.val (.long j0), .second, .val (.long j2), .second] [])) _
  refine XS.lloadN X0.here hx rfl (hb hby d1_6) rfl ?_
  show Steps p.tables e below (T0.setTop (mkF m 7 #[.val (.long j0), .second, .val (.long j2), .second] [(.long j0)])) _
  refine XS.goto X0.here hx rfl (pc0 := 7) (pc' := 11) rfl (hb hby d1_7) (by decide) (by decide) ?_
  exact kt
def f1_0 (j0 : Int64) (j2 : Int64) : Int64 := if (0 : Int32) < (lcmpW j0 j2) then (f1_10 j0 j2) else (f1_6 j0 j2)
set_option maxRecDepth 65536 in
set_option maxHeartbeats 40000000 in
theorem b1_0 {p : Program} {l : Launch} {e : Env} {s : State} {m : MethodId} {args : Array Value} {below : List Frame} {meth : Method} {c : Code} {T0 : State} {locs : List Loc} {Z : State} {a0 : Array Value} {h0 : Heap} {n0 : Nat} {P : Option Value → Heap → Prop} (j0 : Int64) (j2 : Int64) (X0 : Stand p l e ({ frames := 0, cells := 0, slots := 0, locals := 0 } : Room) s m args below meth c T0 locs 0 0) (hx : p.tables.exec = Jvm.exec) (hZ : Z.Warmed39 s.vm) (hw : ∀ d ∈ tables_1, d.before a0 Z = true) (hby : c.code = jdk_29_method_70_code) (hml : c.maxLocals = 4) (hown : s.vm.findClass "java/lang/Math" = some m.cls) (hret : meth.sig.returnType = some .long) (hlk : meth.locks = false) (e0 : T0.heap = h0) (Z0 : n0 ≤ h0.size) (N0 : Fr n0 locs) (hP : P (some (.long (f1_0 j0 j2))) h0) :
    own_Goes p e below s n0 0 0 P (T0.setTop (mkF m 0 #[.val (.long j0), .second, .val (.long j2), .second] [])) := by
  have pre1 : ∀ t, Steps p.tables e below (T0.setTop (mkF m 3 #[.val (.long j0), .second, .val (.long j2), .second] [(.int (lcmpW j0 j2))])) t → Steps p.tables e below (T0.setTop (mkF m 0 #[.val (.long j0), .second, .val (.long j2), .second] [])) t := fun t kt => by
    show Steps p.tables e below (T0.setTop (mkF m 0 #[.val (.long j0), .second, .val (.long j2), .second] [])) _
    refine XS.lloadN X0.here hx rfl (hb hby d1_0) rfl ?_
    show Steps p.tables e below (T0.setTop (mkF m 1 #[.val (.long j0), .second, .val (.long j2), .second] [(.long j0)])) _
    refine XS.lloadN X0.here hx rfl (hb hby d1_1) rfl ?_
    show Steps p.tables e below (T0.setTop (mkF m 2 #[.val (.long j0), .second, .val (.long j2), .second] [(.long j2), (.long j0)])) _
    refine XS.lcmp X0.here hx rfl (hb hby d1_2) rfl ?_
    exact kt
  refine own_Goes.pre pre1 ?_
  by_cases hc : (0 : Int32) < (lcmpW j0 j2)
  · rw [f1_0, if_pos hc] at hP
    refine own_Goes.pre (fun t kt => ?_) (b1_10 j0 j2 X0 hx hZ hw hby hml hown hret hlk e0 Z0 N0 hP)
    show Steps p.tables e below (T0.setTop (mkF m 3 #[.val (.long j0), .second, .val (.long j2), .second] [(.int (lcmpW j0 j2))])) _
    refine XS.ifYes X0.here hx rfl (pc0 := 3) (pc' := 10) rfl (hb hby d1_3) rfl ((if0 _ _).trans (tlt hc).2.2.1) (by decide) (by decide) ?_
    exact kt
  · rw [f1_0, if_neg hc] at hP
    refine own_Goes.pre (fun t kt => ?_) (b1_6 j0 j2 X0 hx hZ hw hby hml hown hret hlk e0 Z0 N0 hP)
    show Steps p.tables e below (T0.setTop (mkF m 3 #[.val (.long j0), .second, .val (.long j2), .second] [(.int (lcmpW j0 j2))])) _
    refine XS.ifNo X0.here hx rfl (hb hby d1_3) rfl ((if0 _ _).trans (flt hc).2.2.1) ?_
    exact kt
theorem ef1 (m : MethodId) (j0 : Int64) (j2 : Int64) : entryFrame m #[(.long j0), (.long j2)] 4 = (mkF m 0 #[.val (.long j0), .second, .val (.long j2), .second] []) := by first | (simp [entryFrame, mkF, argsToLocals, Value.category]; done) | rfl
set_option maxRecDepth 65536 in
set_option maxHeartbeats 40000000 in
theorem rm1 (l : Launch) (Z : State) (a0 : Array Value) (hw : ∀ d ∈ tables_1, d.before a0 Z = true) (ws : List Jvm.Cond) (j0 : Int64) (j2 : Int64) (h0 : Heap) (n0 : Nat) (Z0 : n0 ≤ h0.size) :
    MetFree l (⟨"java/lang/Math", "min", "(JJ)J"⟩ : MethodName) (head1 (Jvm.Cond.code (⟨"java/lang/Math", "min", "(JJ)J"⟩ : MethodName) jdk_29_method_70_code 4 (some .long) :: ws) ({ frames := 0, cells := 0, slots := 0, locals := 0 } : Room)) (fun a U => a = #[(.long j0), (.long j2)] ∧ Z.Warmed39 U.vm ∧ U.heap = h0) (fun _ _ _ _ _ => True) (fun _ U o U' => ∃ v L, o = .returned v ∧ own_Q (own_val (.long (f1_0 j0 j2)) h0) n0 v U'.heap L ∧ FrameEnd U o U' L ({ frames := 0, cells := 0, slots := 0, locals := 0 } : Room).cells ({ frames := 0, cells := 0, slots := 0, locals := 0 } : Room).slots) := by
  refine MetFree.of_bodySF (Jvm.Free.JP.mathPlain rfl (by decide +kernel)) hisR ?_
  intro p e s m args below meth c s₁ Bd hml0 hP hK
  obtain ⟨rfl, hZ, hh⟩ := hP
  have hx := Bd.exec
  have hby := Bd.bytes
  have hml : c.maxLocals = 4 := hml0
  have hown : s.vm.findClass "java/lang/Math" = some m.cls := findClass_of_methodNamed Bd.named
  have X0 : Stand p l e ({ frames := 0, cells := 0, slots := 0, locals := 0 } : Room) s m #[(.long j0), (.long j2)] below meth c s₁ [] 0 0 := Stand.of_body Bd
  have e0 : s₁.heap = h0 := by rw [← hh, Bd.state]; rfl
  refine own_Goes.pre (S' := s₁.setTop (mkF m 0 #[.val (.long j0), .second, .val (.long j2), .second] [])) (P := (own_val (.long (f1_0 j0 j2)) h0)) (n0 := n0) (kc := 0) (ks := 0) (fun t k => castTop (ef1 m j0 j2) k) ?_
  exact b1_0 j0 j2 X0 hx hZ hw hby hml hown Bd.returns Bd.notSynchronized e0 Z0 (Fr.nil n0) ⟨rfl, rfl⟩
theorem d2_0 : decode method_2_code 0 = .ok (.iload_n 0, 1) := by decide +kernel
theorem d2_1 : decode method_2_code 1 = .ok (.iload_n 1, 1) := by decide +kernel
theorem d2_2 : decode method_2_code 2 = .ok (.if_icmp .lt 18, 3) := by decide +kernel
theorem d2_5 : decode method_2_code 5 = .ok (.iload_n 0, 1) := by decide +kernel
theorem d2_6 : decode method_2_code 6 = .ok (.iload_n 2, 1) := by decide +kernel
theorem d2_7 : decode method_2_code 7 = .ok (.if_icmp .ge 13, 3) := by decide +kernel
theorem d2_10 : decode method_2_code 10 = .ok (.iload_n 3, 1) := by decide +kernel
theorem d2_11 : decode method_2_code 11 = .ok (.iload 4, 2) := by decide +kernel
theorem d2_13 : decode method_2_code 13 = .ok (.if_icmp .ge 7, 3) := by decide +kernel
theorem d2_16 : decode method_2_code 16 = .ok (.iconst 1, 1) := by decide +kernel
theorem d2_17 : decode method_2_code 17 = .ok (.goto 4, 3) := by decide +kernel
theorem d2_20 : decode method_2_code 20 = .ok (.iconst 0, 1) := by decide +kernel
theorem d2_21 : decode method_2_code 21 = .ok (.ireturn, 1) := by decide +kernel
def f2_20 (x0 : Int32) (x1 : Int32) (x2 : Int32) (x3 : Int32) (x4 : Int32) : Int32 := (0 : Int32)
set_option maxRecDepth 65536 in
set_option maxHeartbeats 40000000 in
theorem b2_20 {p : Program} {l : Launch} {e : Env} {s : State} {m : MethodId} {args : Array Value} {below : List Frame} {meth : Method} {c : Code} {T0 : State} {locs : List Loc} {Z : State} {a0 : Array Value} {h0 : Heap} {n0 : Nat} {P : Option Value → Heap → Prop} (x0 : Int32) (x1 : Int32) (x2 : Int32) (x3 : Int32) (x4 : Int32) (X0 : Stand p l e ({ frames := 0, cells := 0, slots := 0, locals := 0 } : Room) s m args below meth c T0 locs 0 0) (hx : p.tables.exec = Jvm.exec) (hZ : Z.Warmed39 s.vm) (hw : ∀ d ∈ tables_1, d.before a0 Z = true) (hby : c.code = method_2_code) (hml : c.maxLocals = 5) (hown : s.vm.findClass "com/example/shape_trees/shapetrees/xslt/ImportOrderFirstAtLeastPinLaw" = some m.cls) (hret : meth.sig.returnType = some .int) (hlk : meth.locks = false) (e0 : T0.heap = h0) (Z0 : n0 ≤ h0.size) (N0 : Fr n0 locs) (hP : P (some (.int (f2_20 x0 x1 x2 x3 x4))) h0) :
    own_Goes p e below s n0 0 0 P (T0.setTop (mkF m 20 #[.val (.int x0), .val (.int x1), .val (.int x2), .val (.int x3), .val (.int x4)] [])) := by
  rw [f2_20] at hP
  refine own_Goes.pre (fun t kt => ?_) (own_retI X0 hx hlk hret (hb hby d2_21) N0 (by rw [e0]; exact hP) (by decide) (by decide) (Ls := #[.val (.int x0), .val (.int x1), .val (.int x2), .val (.int x3), .val (.int x4)]) (rest := []) (z := (0 : Int32)))
  show Steps p.tables e below (T0.setTop (mkF m 20 #[.val (.int x0), .val (.int x1), .val (.int x2), .val (.int x3), .val (.int x4)] [])) _
  refine XS.iconst X0.here hx rfl (hb hby d2_20) ?_
  exact kt
def f2_16 (x0 : Int32) (x1 : Int32) (x2 : Int32) (x3 : Int32) (x4 : Int32) : Int32 := (1 : Int32)
set_option maxRecDepth 65536 in
set_option maxHeartbeats 40000000 in
theorem b2_16 {p : Program} {l : Launch} {e : Env} {s : State} {m : MethodId} {args : Array Value} {below : List Frame} {meth : Method} {c : Code} {T0 : State} {locs : List Loc} {Z : State} {a0 : Array Value} {h0 : Heap} {n0 : Nat} {P : Option Value → Heap → Prop} (x0 : Int32) (x1 : Int32) (x2 : Int32) (x3 : Int32) (x4 : Int32) (X0 : Stand p l e ({ frames := 0, cells := 0, slots := 0, locals := 0 } : Room) s m args below meth c T0 locs 0 0) (hx : p.tables.exec = Jvm.exec) (hZ : Z.Warmed39 s.vm) (hw : ∀ d ∈ tables_1, d.before a0 Z = true) (hby : c.code = method_2_code) (hml : c.maxLocals = 5) (hown : s.vm.findClass "com/example/shape_trees/shapetrees/xslt/ImportOrderFirstAtLeastPinLaw" = some m.cls) (hret : meth.sig.returnType = some .int) (hlk : meth.locks = false) (e0 : T0.heap = h0) (Z0 : n0 ≤ h0.size) (N0 : Fr n0 locs) (hP : P (some (.int (f2_16 x0 x1 x2 x3 x4))) h0) :
    own_Goes p e below s n0 0 0 P (T0.setTop (mkF m 16 #[.val (.int x0), .val (.int x1), .val (.int x2), .val (.int x3), .val (.int x4)] [])) := by
  rw [f2_16] at hP
  refine own_Goes.pre (fun t kt => ?_) (own_retI X0 hx hlk hret (hb hby d2_21) N0 (by rw [e0]; exact hP) (by decide) (by decide) (Ls := #[.val (.int x0), .val (.int x1), .val (.int x2), .val (.int x3), .val (.int x4)]) (rest := []) (z := (1 : Int32)))
  show Steps p.tables e below (T0.setTop (mkF m 16 #[.val (.int x0), .val (.int x1), .val (.int x2), .val (.int x3), .val (.int x4)] [])) _
  refine XS.iconst X0.here hx rfl (hb hby d2_16) ?_
  show Steps p.tables e below (T0.setTop (mkF m 17 #[.val (.int x0), .val (.int x1), .val (.int x2), .val (.int x3), .val (.int x4)] [(.int (1 : Int32))])) _
  refine XS.goto X0.here hx rfl (pc0 := 17) (pc' := 21) rfl (hb hby d2_17) (by decide) (by decide) ?_
  exact kt
def f2_10 (x0 : Int32) (x1 : Int32) (x2 : Int32) (x3 : Int32) (x4 : Int32) : Int32 := if x3 < x4 then (f2_16 x0 x1 x2 x3 x4) else (f2_20 x0 x1 x2 x3 x4)
set_option maxRecDepth 65536 in
set_option maxHeartbeats 40000000 in
theorem b2_10 {p : Program} {l : Launch} {e : Env} {s : State} {m : MethodId} {args : Array Value} {below : List Frame} {meth : Method} {c : Code} {T0 : State} {locs : List Loc} {Z : State} {a0 : Array Value} {h0 : Heap} {n0 : Nat} {P : Option Value → Heap → Prop} (x0 : Int32) (x1 : Int32) (x2 : Int32) (x3 : Int32) (x4 : Int32) (X0 : Stand p l e ({ frames := 0, cells := 0, slots := 0, locals := 0 } : Room) s m args below meth c T0 locs 0 0) (hx : p.tables.exec = Jvm.exec) (hZ : Z.Warmed39 s.vm) (hw : ∀ d ∈ tables_1, d.before a0 Z = true) (hby : c.code = method_2_code) (hml : c.maxLocals = 5) (hown : s.vm.findClass "com/example/shape_trees/shapetrees/xslt/ImportOrderFirstAtLeastPinLaw" = some m.cls) (hret : meth.sig.returnType = some .int) (hlk : meth.locks = false) (e0 : T0.heap = h0) (Z0 : n0 ≤ h0.size) (N0 : Fr n0 locs) (hP : P (some (.int (f2_10 x0 x1 x2 x3 x4))) h0) :
    own_Goes p e below s n0 0 0 P (T0.setTop (mkF m 10 #[.val (.int x0), .val (.int x1), .val (.int x2), .val (.int x3), .val (.int x4)] [])) := by
  have pre1 : ∀ t, Steps p.tables e below (T0.setTop (mkF m 13 #[.val (.int x0), .val (.int x1), .val (.int x2), .val (.int x3), .val (.int x4)] [(.int x4), (.int x3)])) t → Steps p.tables e below (T0.setTop (mkF m 10 #[.val (.int x0), .val (.int x1), .val (.int x2), .val (.int x3), .val (.int x4)] [])) t := fun t kt => by
    show Steps p.tables e below (T0.setTop (mkF m 10 #[.val (.int x0), .val (.int x1), .val (.int x2), .val (.int x3), .val (.int x4)] [])) _
    refine XS.iloadN X0.here hx rfl (hb hby d2_10) rfl ?_
    show Steps p.tables e below (T0.setTop (mkF m 11 #[.val (.int x0), .val (.int x1), .val (.int x2), .val (.int x3), .val (.int x4)] [(.int x3)])) _
    refine XS.iload X0.here hx rfl (hb hby d2_11) rfl ?_
    exact kt
  refine own_Goes.pre pre1 ?_
  by_cases hc : x3 < x4
  · rw [f2_10, if_pos hc] at hP
    refine own_Goes.pre (fun t kt => ?_) (b2_16 x0 x1 x2 x3 x4 X0 hx hZ hw hby hml hown hret hlk e0 Z0 N0 hP)
    show Steps p.tables e below (T0.setTop (mkF m 13 #[.val (.int x0), .val (.int x1), .val (.int x2), .val (.int x3), .val (.int x4)] [(.int x4), (.int x3)])) _
    refine XS.icmpNo X0.here hx rfl (hb hby d2_13) rfl (tlt hc).2.1 ?_
    exact kt
  · rw [f2_10, if_neg hc] at hP
    refine own_Goes.pre (fun t kt => ?_) (b2_20 x0 x1 x2 x3 x4 X0 hx hZ hw hby hml hown hret hlk e0 Z0 N0 hP)
    show Steps p.tables e below (T0.setTop (mkF m 13 #[.val (.int x0), .val (.int x1), .val (.int x2), .val (.int x3), .val (.int x4)] [(.int x4), (.int x3)])) _
    refine XS.icmpYes X0.here hx rfl (pc0 := 13) (pc' := 20) rfl (hb hby d2_13) rfl (flt hc).2.1 (by decide) (by decide) ?_
    exact kt
def f2_5 (x0 : Int32) (x1 : Int32) (x2 : Int32) (x3 : Int32) (x4 : Int32) : Int32 := if x0 < x2 then (f2_10 x0 x1 x2 x3 x4) else (f2_20 x0 x1 x2 x3 x4)
set_option maxRecDepth 65536 in
set_option maxHeartbeats 40000000 in
theorem b2_5 {p : Program} {l : Launch} {e : Env} {s : State} {m : MethodId} {args : Array Value} {below : List Frame} {meth : Method} {c : Code} {T0 : State} {locs : List Loc} {Z : State} {a0 : Array Value} {h0 : Heap} {n0 : Nat} {P : Option Value → Heap → Prop} (x0 : Int32) (x1 : Int32) (x2 : Int32) (x3 : Int32) (x4 : Int32) (X0 : Stand p l e ({ frames := 0, cells := 0, slots := 0, locals := 0 } : Room) s m args below meth c T0 locs 0 0) (hx : p.tables.exec = Jvm.exec) (hZ : Z.Warmed39 s.vm) (hw : ∀ d ∈ tables_1, d.before a0 Z = true) (hby : c.code = method_2_code) (hml : c.maxLocals = 5) (hown : s.vm.findClass "com/example/shape_trees/shapetrees/xslt/ImportOrderFirstAtLeastPinLaw" = some m.cls) (hret : meth.sig.returnType = some .int) (hlk : meth.locks = false) (e0 : T0.heap = h0) (Z0 : n0 ≤ h0.size) (N0 : Fr n0 locs) (hP : P (some (.int (f2_5 x0 x1 x2 x3 x4))) h0) :
    own_Goes p e below s n0 0 0 P (T0.setTop (mkF m 5 #[.val (.int x0), .val (.int x1), .val (.int x2), .val (.int x3), .val (.int x4)] [])) := by
  have pre1 : ∀ t, Steps p.tables e below (T0.setTop (mkF m 7 #[.val (.int x0), .val (.int x1), .val (.int x2), .val (.int x3), .val (.int x4)] [(.int x2), (.int x0)])) t → Steps p.tables e below (T0.setTop (mkF m 5 #[.val (.int x0), .val (.int x1), .val (.int x2), .val (.int x3), .val (.int x4)] [])) t := fun t kt => by
    show Steps p.tables e below (T0.setTop (mkF m 5 #[.val (.int x0), .val (.int x1), .val (.int x2), .val (.int x3), .val (.int x4)] [])) _
    refine XS.iloadN X0.here hx rfl (hb hby d2_5) rfl ?_
    show Steps p.tables e below (T0.setTop (mkF m 6 #[.val (.int x0), .val (.int x1), .val (.int x2), .val (.int x3), .val (.int x4)] [(.int x0)])) _
    refine XS.iloadN X0.here hx rfl (hb hby d2_6) rfl ?_
    exact kt
  refine own_Goes.pre pre1 ?_
  by_cases hc : x0 < x2
  · rw [f2_5, if_pos hc] at hP
    refine own_Goes.pre (fun t kt => ?_) (b2_10 x0 x1 x2 x3 x4 X0 hx hZ hw hby hml hown hret hlk e0 Z0 N0 hP)
    show Steps p.tables e below (T0.setTop (mkF m 7 #[.val (.int x0), .val (.int x1), .val (.int x2), .val (.int x3), .val (.int x4)] [(.int x2), (.int x0)])) _
    refine XS.icmpNo X0.here hx rfl (hb hby d2_7) rfl (tlt hc).2.1 ?_
    exact kt
  · rw [f2_5, if_neg hc] at hP
    refine own_Goes.pre (fun t kt => ?_) (b2_20 x0 x1 x2 x3 x4 X0 hx hZ hw hby hml hown hret hlk e0 Z0 N0 hP)
    show Steps p.tables e below (T0.setTop (mkF m 7 #[.val (.int x0), .val (.int x1), .val (.int x2), .val (.int x3), .val (.int x4)] [(.int x2), (.int x0)])) _
    refine XS.icmpYes X0.here hx rfl (pc0 := 7) (pc' := 20) rfl (hb hby d2_7) rfl (flt hc).2.1 (by decide) (by decide) ?_
    exact kt
def f2_0 (x0 : Int32) (x1 : Int32) (x2 : Int32) (x3 : Int32) (x4 : Int32) : Int32 := if x0 < x1 then (f2_20 x0 x1 x2 x3 x4) else (f2_5 x0 x1 x2 x3 x4)
set_option maxRecDepth 65536 in
set_option maxHeartbeats 40000000 in
theorem b2_0 {p : Program} {l : Launch} {e : Env} {s : State} {m : MethodId} {args : Array Value} {below : List Frame} {meth : Method} {c : Code} {T0 : State} {locs : List Loc} {Z : State} {a0 : Array Value} {h0 : Heap} {n0 : Nat} {P : Option Value → Heap → Prop} (x0 : Int32) (x1 : Int32) (x2 : Int32) (x3 : Int32) (x4 : Int32) (X0 : Stand p l e ({ frames := 0, cells := 0, slots := 0, locals := 0 } : Room) s m args below meth c T0 locs 0 0) (hx : p.tables.exec = Jvm.exec) (hZ : Z.Warmed39 s.vm) (hw : ∀ d ∈ tables_1, d.before a0 Z = true) (hby : c.code = method_2_code) (hml : c.maxLocals = 5) (hown : s.vm.findClass "com/example/shape_trees/shapetrees/xslt/ImportOrderFirstAtLeastPinLaw" = some m.cls) (hret : meth.sig.returnType = some .int) (hlk : meth.locks = false) (e0 : T0.heap = h0) (Z0 : n0 ≤ h0.size) (N0 : Fr n0 locs) (hP : P (some (.int (f2_0 x0 x1 x2 x3 x4))) h0) :
    own_Goes p e below s n0 0 0 P (T0.setTop (mkF m 0 #[.val (.int x0), .val (.int x1), .val (.int x2), .val (.int x3), .val (.int x4)] [])) := by
  have pre1 : ∀ t, Steps p.tables e below (T0.setTop (mkF m 2 #[.val (.int x0), .val (.int x1), .val (.int x2), .val (.int x3), .val (.int x4)] [(.int x1), (.int x0)])) t → Steps p.tables e below (T0.setTop (mkF m 0 #[.val (.int x0), .val (.int x1), .val (.int x2), .val (.int x3), .val (.int x4)] [])) t := fun t kt => by
    show Steps p.tables e below (T0.setTop (mkF m 0 #[.val (.int x0), .val (.int x1), .val (.int x2), .val (.int x3), .val (.int x4)] [])) _
    refine XS.iloadN X0.here hx rfl (hb hby d2_0) rfl ?_
    show Steps p.tables e below (T0.setTop (mkF m 1 #[.val (.int x0), .val (.int x1), .val (.int x2), .val (.int x3), .val (.int x4)] [(.int x0)])) _
    refine XS.iloadN X0.here hx rfl (hb hby d2_1) rfl ?_
    exact kt
  refine own_Goes.pre pre1 ?_
  by_cases hc : x0 < x1
  · rw [f2_0, if_pos hc] at hP
    refine own_Goes.pre (fun t kt => ?_) (b2_20 x0 x1 x2 x3 x4 X0 hx hZ hw hby hml hown hret hlk e0 Z0 N0 hP)
    show Steps p.tables e below (T0.setTop (mkF m 2 #[.val (.int x0), .val (.int x1), .val (.int x2), .val (.int x3), .val (.int x4)] [(.int x1), (.int x0)])) _
    refine XS.icmpYes X0.here hx rfl (pc0 := 2) (pc' := 20) rfl (hb hby d2_2) rfl (tlt hc).1 (by decide) (by decide) ?_
    exact kt
  · rw [f2_0, if_neg hc] at hP
    refine own_Goes.pre (fun t kt => ?_) (b2_5 x0 x1 x2 x3 x4 X0 hx hZ hw hby hml hown hret hlk e0 Z0 N0 hP)
    show Steps p.tables e below (T0.setTop (mkF m 2 #[.val (.int x0), .val (.int x1), .val (.int x2), .val (.int x3), .val (.int x4)] [(.int x1), (.int x0)])) _
    refine XS.icmpNo X0.here hx rfl (hb hby d2_2) rfl (flt hc).1 ?_
    exact kt
theorem pn0 : plainName "com/example/shape_trees/shapetrees/xslt/ImportOrderFirstAtLeastPinLaw" = true := by first | (simp [plainName, overriddenIn]; done) | decide +kernel
theorem ef2 (m : MethodId) (x0 : Int32) (x1 : Int32) (x2 : Int32) (x3 : Int32) (x4 : Int32) : entryFrame m #[(.int x0), (.int x1), (.int x2), (.int x3), (.int x4)] 5 = (mkF m 0 #[.val (.int x0), .val (.int x1), .val (.int x2), .val (.int x3), .val (.int x4)] []) := by first | (simp [entryFrame, mkF, argsToLocals, Value.category]; done) | rfl
set_option maxRecDepth 65536 in
set_option maxHeartbeats 40000000 in
theorem rm2 (l : Launch) (Z : State) (a0 : Array Value) (hw : ∀ d ∈ tables_1, d.before a0 Z = true) (ws : List Jvm.Cond) (x0 : Int32) (x1 : Int32) (x2 : Int32) (x3 : Int32) (x4 : Int32) (h0 : Heap) (n0 : Nat) (Z0 : n0 ≤ h0.size) :
    MetFree l (⟨"com/example/shape_trees/shapetrees/xslt/ImportOrderFirstAtLeastPinLaw", "below", "(IIIII)I"⟩ : MethodName) (head1 (Jvm.Cond.code (⟨"com/example/shape_trees/shapetrees/xslt/ImportOrderFirstAtLeastPinLaw", "below", "(IIIII)I"⟩ : MethodName) method_2_code 5 (some .int) :: ws) ({ frames := 0, cells := 0, slots := 0, locals := 0 } : Room)) (fun a U => a = #[(.int x0), (.int x1), (.int x2), (.int x3), (.int x4)] ∧ Z.Warmed39 U.vm ∧ U.heap = h0) (fun _ _ _ _ _ => True) (fun _ U o U' => ∃ v L, o = .returned v ∧ own_Q (own_val (.int (f2_0 x0 x1 x2 x3 x4)) h0) n0 v U'.heap L ∧ FrameEnd U o U' L ({ frames := 0, cells := 0, slots := 0, locals := 0 } : Room).cells ({ frames := 0, cells := 0, slots := 0, locals := 0 } : Room).slots) := by
  refine MetFree.of_bodySF (plainFor_of_name pn0) hisR ?_
  intro p e s m args below meth c s₁ Bd hml0 hP hK
  obtain ⟨rfl, hZ, hh⟩ := hP
  have hx := Bd.exec
  have hby := Bd.bytes
  have hml : c.maxLocals = 5 := hml0
  have hown : s.vm.findClass "com/example/shape_trees/shapetrees/xslt/ImportOrderFirstAtLeastPinLaw" = some m.cls := findClass_of_methodNamed Bd.named
  have X0 : Stand p l e ({ frames := 0, cells := 0, slots := 0, locals := 0 } : Room) s m #[(.int x0), (.int x1), (.int x2), (.int x3), (.int x4)] below meth c s₁ [] 0 0 := Stand.of_body Bd
  have e0 : s₁.heap = h0 := by rw [← hh, Bd.state]; rfl
  refine own_Goes.pre (S' := s₁.setTop (mkF m 0 #[.val (.int x0), .val (.int x1), .val (.int x2), .val (.int x3), .val (.int x4)] [])) (P := (own_val (.int (f2_0 x0 x1 x2 x3 x4)) h0)) (n0 := n0) (kc := 0) (ks := 0) (fun t k => castTop (ef2 m x0 x1 x2 x3 x4) k) ?_
  exact b2_0 x0 x1 x2 x3 x4 X0 hx hZ hw hby hml hown Bd.returns Bd.notSynchronized e0 Z0 (Fr.nil n0) ⟨rfl, rfl⟩
section OwnArr
variable {p : Program} {l : Launch} {e : Env} {R : Room} {s : State} {m : MethodId} {args : Array Value} {below : List Frame} {meth : Method} {c : Code} {T : State} {locs : List Loc} {cells slots : Nat} {n0 : Nat} {Z : State} {h : Heap}
/-- an int[] of n places, place i holding f i -/
def own_Arr (Z : State) (h : Heap) (a : Addr) (n : Nat) (f : Nat → Int32) : Prop := ∃ c : Cell, Arr Z h a c .int ∧ c.slots.size = n ∧ ∀ i, i < n → c.slots[i]? = some (.int (f i))
theorem own_Arr.new {a : Addr} {k : ClassId} {z : Int32} (A : Arr Z h a (newA k .int z) .int) {n : Nat} (hn : z.toNatClampNeg = n) : own_Arr Z h a n (fun _ => 0) :=
  ⟨_, A, by rw [sz_new]; exact hn, fun i hi => by simp [newA, hn, hi, defaultValue]⟩
theorem own_put (X : Stand p l e R s m args below meth c T locs cells slots) (hx : p.tables.exec = Jvm.exec) (hZ : Z.Warmed39 s.vm) (eT : T.heap = h) {a : Addr} {n : Nat} {f : Nat → Int32} (V : own_Arr Z h a n f) (g : n0 ≤ a) (N : Fr n0 locs) (Z0 : n0 ≤ h.size) {pc : Nat} {Ls : Array Slot} {rest : List Value} (j x : Int32) (k : Nat) (hk : j.toNatClampNeg = k) (hj : ¬ j < 0) (hkn : k < n) (hd : decode c.code pc = .ok (.iastore, 1)) :
    ∃ (T' : State) (h' : Heap) (locs' : List Loc), Stand p l e R s m args below meth c T' locs' cells slots ∧ T'.heap = h' ∧ n0 ≤ h'.size ∧ Fr n0 locs' ∧ own_Arr Z h' a n (fun i => if i = k then x else f i) ∧ ∀ t, Steps p.tables e below (T'.setTop (mkF m (pc + 1) Ls rest)) t → Steps p.tables e below (T.setTop (mkF m pc Ls (.int x :: .int j :: .ref a :: rest))) t := by
  obtain ⟨cl, A, S, H⟩ := V
  obtain ⟨T', h', X', e', W, st⟩ := stI X hx hZ eT A (j := j) (x := x) (by rw [S, hk]; exact fun q => q.elim hj (fun q => by omega)) (g := mkF m pc Ls (.int x :: .int j :: .ref a :: rest)) rfl rfl hd
  refine ⟨T', h', _, X', e', by rw [W.size]; exact Z0, Fr.snoc X' N g, ⟨_, A.same W, by rw [sz_set]; exact S, fun i hi => ?_⟩, st⟩
  rw [hk]
  simp only [Cell.setSlot]
  by_cases q : i = k
  · subst q; simp [S, hi]
  · rw [if_neg q, Array.getElem?_setIfInBounds_ne (Ne.symm q)]; exact H i hi
theorem own_get (X : Stand p l e R s m args below meth c T locs cells slots) (hx : p.tables.exec = Jvm.exec) (hZ : Z.Warmed39 s.vm) (eT : T.heap = h) {a : Addr} {n : Nat} {f : Nat → Int32} (V : own_Arr Z h a n f) {pc : Nat} {Ls : Array Slot} {rest : List Value} (j : Int32) (k : Nat) (hk : j.toNatClampNeg = k) (hj : ¬ j < 0) (hkn : k < n) (hd : decode c.code pc = .ok (.iaload, 1)) :
    ∀ t, Steps p.tables e below (T.setTop (mkF m (pc + 1) Ls (.int (f k) :: rest))) t → Steps p.tables e below (T.setTop (mkF m pc Ls (.int j :: .ref a :: rest))) t := by
  obtain ⟨cl, A, S, H⟩ := V
  intro t kt
  exact X.iaload hx (j := j) (v := .int (f k)) (by rw [eT]; exact A.1) (State.isArrayOf_alike hZ.alike A.2.1) A.2.2 (by rw [S, hk]; exact fun q => q.elim hj (fun q => by omega)) (by rw [hk]; exact H k hkn) (g := mkF m pc Ls (.int j :: .ref a :: rest)) rfl rfl hd _ kt
theorem own_alen (X : Stand p l e R s m args below meth c T locs cells slots) (hx : p.tables.exec = Jvm.exec) (hZ : Z.Warmed39 s.vm) (eT : T.heap = h) {a : Addr} {n : Nat} {f : Nat → Int32} (V : own_Arr Z h a n f) {pc : Nat} {Ls : Array Slot} {rest : List Value} (z : Int32) (hz : n.toInt32 = z) (hd : decode c.code pc = .ok (.arraylength, 1)) :
    ∀ t, Steps p.tables e below (T.setTop (mkF m (pc + 1) Ls (.int z :: rest))) t → Steps p.tables e below (T.setTop (mkF m pc Ls (.ref a :: rest))) t := by
  obtain ⟨cl, A, S, H⟩ := V
  intro t kt
  refine X.arraylength hx (cell := cl) (by rw [eT]; exact A.1) (State.isArrayOf_alike hZ.alike A.2.1) (g := mkF m pc Ls (.ref a :: rest)) rfl (rest := rest) rfl hd _ ?_
  rw [S, hz]
  exact kt
end OwnArr
theorem own_clamp {z : Int32} (h : ¬ z < 0) : (z.toNatClampNeg : Int) = z.toInt := by
  rw [Int32.lt_iff_toInt_lt, show (0 : Int32).toInt = 0 from rfl] at h
  rw [Int32.toNatClampNeg]; omega
def own_f (w0 w1 w2 w3 w4 : Int32) (i : Nat) : Int32 := if i = 0 then w0 else if i = 1 then w1 else if i = 2 then w2 else if i = 3 then w3 else w4
def own_sorted (w0 w1 w2 w3 w4 : Int32) : Prop := w0 ≤ w1 ∧ w1 ≤ w2 ∧ w2 ≤ w3 ∧ w3 ≤ w4
def own_rng (a b : Int32) : Prop := ∃ i j : Nat, a = Int32.ofNat i ∧ b = Int32.ofNat j ∧ i ≤ j ∧ j ≤ 5
def own_res (w0 w1 w2 w3 w4 : Int32) (a b v : Int32) : Int32 := ((((a + f2_0 0 a b w0 v) + f2_0 1 a b w1 v) + f2_0 2 a b w2 v) + f2_0 3 a b w3 v) + f2_0 4 a b w4 v
theorem own_mono {w0 w1 w2 w3 w4 : Int32} (h : own_sorted w0 w1 w2 w3 w4) : ∀ i j, i ≤ j → j < 5 → own_f w0 w1 w2 w3 w4 i ≤ own_f w0 w1 w2 w3 w4 j := by
  obtain ⟨h1, h2, h3, h4⟩ := h
  intro i j hij hj
  have hc : ∀ k, k < 5 → k = 0 ∨ k = 1 ∨ k = 2 ∨ k = 3 ∨ k = 4 := fun k hk => by omega
  have e0 : own_f w0 w1 w2 w3 w4 0 = w0 := rfl
  have e1 : own_f w0 w1 w2 w3 w4 1 = w1 := rfl
  have e2 : own_f w0 w1 w2 w3 w4 2 = w2 := rfl
  have e3 : own_f w0 w1 w2 w3 w4 3 = w3 := rfl
  have e4 : own_f w0 w1 w2 w3 w4 4 = w4 := rfl
  rw [Int32.le_iff_toInt_le] at h1 h2 h3 h4
  rw [Int32.le_iff_toInt_le]
  rcases hc i (by omega) with rfl | rfl | rfl | rfl | rfl <;> rcases hc j hj with rfl | rfl | rfl | rfl | rfl <;> simp only [e0, e1, e2, e3, e4] <;> omega
theorem own_n5 {n : Nat} (hn : n ≤ 10) : (Int32.ofNat n).toNatClampNeg = n := by
  rw [Int32.toNatClampNeg, Int32.toInt_ofNat_of_lt (by omega)]; rfl
theorem own_nn5 {n : Nat} (hn : n ≤ 10) : ¬ Int32.ofNat n < 0 := by
  rw [Int32.lt_iff_toInt_lt, Int32.toInt_ofNat_of_lt (by omega), show (0 : Int32).toInt = 0 from rfl]
  omega
theorem own_lt5 {i n : Nat} (h : i < n) (hn : n ≤ 10) : Int32.ofNat i < Int32.ofNat n := by
  rw [Int32.lt_iff_toInt_lt, Int32.toInt_ofNat_of_lt (by omega), Int32.toInt_ofNat_of_lt (by omega)]
  omega
theorem own_ge5 {i n : Nat} (h : ¬ i < n) (hn : i ≤ 10) : ¬ Int32.ofNat i < Int32.ofNat n := by
  rw [Int32.lt_iff_toInt_lt, Int32.toInt_ofNat_of_lt (by omega), Int32.toInt_ofNat_of_lt (by omega)]
  omega
theorem own_inc (i : Nat) : Int32.ofNat i + (1 : Int32) = Int32.ofNat (i + 1) := (Int32.ofNat_add i 1).symm
theorem own_mid0 : ∀ a b : Fin 6, (((Int32.ofNat a.1) + (Int32.ofNat b.1)).toUInt32 >>> ((1 : Int32) &&& 31).toUInt32).toInt32 = Int32.ofNat ((a.1 + b.1) / 2) := by decide +kernel
theorem own_mid {a b : Nat} (ha : a ≤ 5) (hb : b ≤ 5) : (((Int32.ofNat a) + (Int32.ofNat b)).toUInt32 >>> ((1 : Int32) &&& 31).toUInt32).toInt32 = Int32.ofNat ((a + b) / 2) := own_mid0 ⟨a, by omega⟩ ⟨b, by omega⟩
/-- one place's share -/
theorem own_below (a b k : Nat) (ha : a ≤ 5) (hb : b ≤ 5) (hk : k < 5) (w v : Int32) : f2_0 (Int32.ofNat k) (Int32.ofNat a) (Int32.ofNat b) w v = Int32.ofNat (if a ≤ k ∧ k < b ∧ w < v then 1 else 0) := by
  by_cases h1 : k < a
  · rw [f2_0, if_pos (own_lt5 h1 (by omega)), if_neg (fun q => by omega)]; rfl
  · rw [f2_0, if_neg (own_ge5 h1 (by omega)), f2_5]
    by_cases h2 : k < b
    · rw [if_pos (own_lt5 h2 (by omega)), f2_10]
      by_cases h3 : w < v
      · rw [if_pos h3, if_pos ⟨by omega, h2, h3⟩]; rfl
      · rw [if_neg h3, if_neg (fun q => h3 q.2.2)]; rfl
    · rw [if_neg (own_ge5 h2 (by omega)), if_neg (fun q => h2 q.2.1)]; rfl
theorem own_ans {w0 w1 w2 w3 w4 v : Int32} {i j r : Nat} (q1 : i ≤ r) (q2 : r ≤ j) (hj : j ≤ 5) (q3 : ∀ k, i ≤ k → k < r → own_f w0 w1 w2 w3 w4 k < v) (q4 : ∀ k, r ≤ k → k < j → ¬ own_f w0 w1 w2 w3 w4 k < v) :
    Int32.ofNat r = own_res w0 w1 w2 w3 w4 (Int32.ofNat i) (Int32.ofNat j) v := by
  have key : ∀ k w, k < 5 → own_f w0 w1 w2 w3 w4 k = w → f2_0 (Int32.ofNat k) (Int32.ofNat i) (Int32.ofNat j) w v = Int32.ofNat (if i ≤ k ∧ k < r then 1 else 0) := by
    intro k w hk hw
    rw [own_below i j k (by omega) (by omega) hk]
    subst hw
    by_cases h : i ≤ k ∧ k < r
    · rw [if_pos h, if_pos ⟨h.1, by omega, q3 k h.1 h.2⟩]
    · rw [if_neg h, if_neg (fun q => h ⟨q.1, Nat.lt_of_not_le fun z => q4 k z q.2.1 q.2.2⟩)]
  have k0 := key 0 w0 (by decide) rfl
  have k1 := key 1 w1 (by decide) rfl
  have k2 := key 2 w2 (by decide) rfl
  have k3 := key 3 w3 (by decide) rfl
  have k4 := key 4 w4 (by decide) rfl
  show _ = ((((Int32.ofNat i + f2_0 (Int32.ofNat 0) (Int32.ofNat i) (Int32.ofNat j) w0 v) + f2_0 (Int32.ofNat 1) (Int32.ofNat i) (Int32.ofNat j) w1 v) + f2_0 (Int32.ofNat 2) (Int32.ofNat i) (Int32.ofNat j) w2 v) + f2_0 (Int32.ofNat 3) (Int32.ofNat i) (Int32.ofNat j) w3 v) + f2_0 (Int32.ofNat 4) (Int32.ofNat i) (Int32.ofNat j) w4 v
  rw [k0, k1, k2, k3, k4, ← Int32.ofNat_add, ← Int32.ofNat_add, ← Int32.ofNat_add, ← Int32.ofNat_add, ← Int32.ofNat_add]
  congr 1
  have hr : r ≤ 5 := by omega
  clear key k0 k1 k2 k3 k4 q3 q4
  split <;> split <;> split <;> split <;> split <;> omega
theorem own_five {Z : State} {h : Heap} {o : Addr} {w0 w1 w2 w3 w4 : Int32} (V : own_Arr Z h o 5 (fun i => if i = 4 then w4 else if i = 3 then w3 else if i = 2 then w2 else if i = 1 then w1 else if i = 0 then w0 else 0)) : own_Arr Z h o 5 (own_f w0 w1 w2 w3 w4) := by
  obtain ⟨c, A, S, H⟩ := V
  refine ⟨c, A, S, fun i hi => ?_⟩
  rw [H i hi]
  have hc : i = 0 ∨ i = 1 ∨ i = 2 ∨ i = 3 ∨ i = 4 := by omega
  rcases hc with rfl | rfl | rfl | rfl | rfl <;> rfl
theorem own_bounds (x6 : Int32) : ((6 : Int32) - ((x6 &&& (255 : Int32)) % (6 : Int32))) ≠ 0 ∧ own_rng ((x6 &&& (255 : Int32)) % (6 : Int32)) (((x6 &&& (255 : Int32)) % (6 : Int32)) + ((((x6.toUInt32 >>> ((8 : Int32) &&& 31).toUInt32).toInt32) &&& (255 : Int32)) % ((6 : Int32) - ((x6 &&& (255 : Int32)) % (6 : Int32))))) := by
  have h1 := c_mask x6 (255 : Int32) 8 (by decide) (by decide)
  have h2 := (c_irem (x6 &&& (255 : Int32)) (6 : Int32) 6 (by decide)).1 (by omega)
  generalize (x6 &&& (255 : Int32)) % (6 : Int32) = a at *
  have e6 : (6 : Int32).toInt = 6 := by decide
  have h3 := c_isub (6 : Int32) a
  have r3 := rng32 ((6 : Int32) - a)
  have ha : 0 ≤ a.toInt ∧ a.toInt ≤ 5 := by omega
  have hd : ((6 : Int32) - a).toInt = 6 - a.toInt := by omega
  generalize ((6 : Int32) - a) = dd at *
  have h4 := c_mask ((x6.toUInt32 >>> ((8 : Int32) &&& 31).toUInt32).toInt32) (255 : Int32) 8 (by decide) (by decide)
  generalize ((x6.toUInt32 >>> ((8 : Int32) &&& 31).toUInt32).toInt32) &&& (255 : Int32) = b at *
  have h5 := (c_iremV b dd).1 (by omega) (by omega)
  generalize b % dd = r at *
  have h6 := c_iadd a r
  have r6 := rng32 (a + r)
  refine ⟨fun q => ?_, a.toInt.toNat, (a + r).toInt.toNat, ?_, ?_, ?_, ?_⟩
  · rw [q] at hd; have : (0 : Int32).toInt = 0 := rfl; omega
  · apply Int32.toInt_inj.mp; rw [Int32.toInt_ofNat_of_lt (by omega)]; omega
  · apply Int32.toInt_inj.mp; rw [Int32.toInt_ofNat_of_lt (by omega)]; omega
  · omega
  · omega
theorem d3_0 : decode prog_235_method_6_code 0 = .ok (.iload_n 1, 1) := by decide +kernel
theorem d3_1 : decode prog_235_method_6_code 1 = .ok (.istore 4, 2) := by decide +kernel
theorem d3_3 : decode prog_235_method_6_code 3 = .ok (.iload_n 2, 1) := by decide +kernel
theorem d3_4 : decode prog_235_method_6_code 4 = .ok (.istore 5, 2) := by decide +kernel
theorem d3_6 : decode prog_235_method_6_code 6 = .ok (.iload 4, 2) := by decide +kernel
theorem d3_8 : decode prog_235_method_6_code 8 = .ok (.iload 5, 2) := by decide +kernel
theorem d3_10 : decode prog_235_method_6_code 10 = .ok (.if_icmp .ge 36, 3) := by decide +kernel
theorem d3_13 : decode prog_235_method_6_code 13 = .ok (.iload 4, 2) := by decide +kernel
theorem d3_15 : decode prog_235_method_6_code 15 = .ok (.iload 5, 2) := by decide +kernel
theorem d3_17 : decode prog_235_method_6_code 17 = .ok (.iadd, 1) := by decide +kernel
theorem d3_18 : decode prog_235_method_6_code 18 = .ok (.iconst 1, 1) := by decide +kernel
theorem d3_19 : decode prog_235_method_6_code 19 = .ok (.iushr, 1) := by decide +kernel
theorem d3_20 : decode prog_235_method_6_code 20 = .ok (.istore 6, 2) := by decide +kernel
theorem d3_22 : decode prog_235_method_6_code 22 = .ok (.aload_n 0, 1) := by decide +kernel
theorem d3_23 : decode prog_235_method_6_code 23 = .ok (.iload 6, 2) := by decide +kernel
theorem d3_25 : decode prog_235_method_6_code 25 = .ok (.iaload, 1) := by decide +kernel
theorem d3_26 : decode prog_235_method_6_code 26 = .ok (.iload_n 3, 1) := by decide +kernel
theorem d3_27 : decode prog_235_method_6_code 27 = .ok (.if_icmp .ge 12, 3) := by decide +kernel
theorem d3_30 : decode prog_235_method_6_code 30 = .ok (.iload 6, 2) := by decide +kernel
theorem d3_32 : decode prog_235_method_6_code 32 = .ok (.iconst 1, 1) := by decide +kernel
theorem d3_33 : decode prog_235_method_6_code 33 = .ok (.iadd, 1) := by decide +kernel
theorem d3_34 : decode prog_235_method_6_code 34 = .ok (.istore 4, 2) := by decide +kernel
theorem d3_36 : decode prog_235_method_6_code 36 = .ok (.goto 7, 3) := by decide +kernel
theorem d3_39 : decode prog_235_method_6_code 39 = .ok (.iload 6, 2) := by decide +kernel
theorem d3_41 : decode prog_235_method_6_code 41 = .ok (.istore 5, 2) := by decide +kernel
theorem d3_43 : decode prog_235_method_6_code 43 = .ok (.goto (-37), 3) := by decide +kernel
theorem d3_46 : decode prog_235_method_6_code 46 = .ok (.iload 4, 2) := by decide +kernel
theorem d3_48 : decode prog_235_method_6_code 48 = .ok (.ireturn, 1) := by decide +kernel
set_option maxRecDepth 65536 in
set_option maxHeartbeats 40000000 in
theorem own_loop {p : Program} {l : Launch} {e : Env} {s : State} {m : MethodId} {args : Array Value} {below : List Frame} {meth : Method} {c : Code} {T0 : State} {locs : List Loc} {Z : State} {a0 : Array Value} {h0 : Heap} {n0 : Nat} {P : Option Value → Heap → Prop} {R : Room} (o0 : Addr) (x1 x2 x3 : Int32) (f : Nat → Int32) (lo hi : Nat) (X0 : Stand p l e R s m args below meth c T0 locs 0 0) (hx : p.tables.exec = Jvm.exec) (hZ : Z.Warmed39 s.vm) (hby : c.code = prog_235_method_6_code) (hret : meth.sig.returnType = some .int) (hlk : meth.locks = false) (e0 : T0.heap = h0) (N0 : Fr n0 locs) (V0 : own_Arr Z h0 o0 5 f) (hhi : hi ≤ 5) (hs : ∀ i j, i ≤ j → j < 5 → f i ≤ f j)
    (hP : ∀ r : Nat, lo ≤ r → r ≤ hi → (∀ i, lo ≤ i → i < r → f i < x3) → (∀ i, r ≤ i → i < hi → ¬ f i < x3) → P (some (.int (Int32.ofNat r))) h0) :
    ∀ (k a b : Nat) (s6 : Slot), b - a ≤ k → lo ≤ a → a ≤ b → b ≤ hi → (∀ i, lo ≤ i → i < a → f i < x3) → (∀ i, b ≤ i → i < hi → ¬ f i < x3) → One s6 →
      own_Goes p e below s n0 0 0 P (T0.setTop (mkF m 6 #[.val (.ref o0), .val (.int x1), .val (.int x2), .val (.int x3), .val (.int (Int32.ofNat a)), .val (.int (Int32.ofNat b)), s6] [])) := by
  have out : ∀ (a b : Nat) (s6 : Slot), lo ≤ a → a = b → b ≤ hi → (∀ i, lo ≤ i → i < a → f i < x3) → (∀ i, b ≤ i → i < hi → ¬ f i < x3) →
      own_Goes p e below s n0 0 0 P (T0.setTop (mkF m 6 #[.val (.ref o0), .val (.int x1), .val (.int x2), .val (.int x3), .val (.int (Int32.ofNat a)), .val (.int (Int32.ofNat b)), s6] [])) := by
    intro a b s6 h1 h2 h3 h4 h5
    subst h2
    refine own_Goes.pre (fun t kt => ?_) (own_retI X0 hx hlk hret (hb hby d3_48) N0 (by rw [e0]; exact hP a h1 h3 h4 h5) (by decide) (by decide) (Ls := #[.val (.ref o0), .val (.int x1), .val (.int x2), .val (.int x3), .val (.int (Int32.ofNat a)), .val (.int (Int32.ofNat a)), s6]) (rest := []) (z := (Int32.ofNat a)))
    show Steps p.tables e below (T0.setTop (mkF m 6 #[.val (.ref o0), .val (.int x1), .val (.int x2), .val (.int x3), .val (.int (Int32.ofNat a)), .val (.int (Int32.ofNat a)), s6] [])) _
    refine XS.iload X0.here hx rfl (hb hby d3_6) rfl ?_
    show Steps p.tables e below (T0.setTop (mkF m 8 #[.val (.ref o0), .val (.int x1), .val (.int x2), .val (.int x3), .val (.int (Int32.ofNat a)), .val (.int (Int32.ofNat a)), s6] [(.int (Int32.ofNat a))])) _
    refine XS.iload X0.here hx rfl (hb hby d3_8) rfl ?_
    show Steps p.tables e below (T0.setTop (mkF m 10 #[.val (.ref o0), .val (.int x1), .val (.int x2), .val (.int x3), .val (.int (Int32.ofNat a)), .val (.int (Int32.ofNat a)), s6] [(.int (Int32.ofNat a)), (.int (Int32.ofNat a))])) _
    refine XS.icmpYes X0.here hx rfl (pc0 := 10) (pc' := 46) rfl (hb hby d3_10) rfl (flt Int32.lt_irrefl).2.1 (by decide) (by decide) ?_
    show Steps p.tables e below (T0.setTop (mkF m 46 #[.val (.ref o0), .val (.int x1), .val (.int x2), .val (.int x3), .val (.int (Int32.ofNat a)), .val (.int (Int32.ofNat a)), s6] [])) _
    refine XS.iload X0.here hx rfl (hb hby d3_46) rfl ?_
    exact kt
  intro k
  induction k with
  | zero => intro a b s6 h1 h2 h3 h4 h5 h6 h7; exact out a b s6 h2 (by omega) h4 h5 h6
  | succ k ih =>
    intro a b s6 h1 h2 h3 h4 h5 h6 h7
    by_cases hab : a < b
    · have hm : (((Int32.ofNat a) + (Int32.ofNat b)).toUInt32 >>> ((1 : Int32) &&& 31).toUInt32).toInt32 = (Int32.ofNat ((a + b) / 2)) := own_mid (by omega) (by omega)
      have hg := own_get X0 hx hZ e0 V0 (pc := 25) (Ls := #[.val (.ref o0), .val (.int x1), .val (.int x2), .val (.int x3), .val (.int (Int32.ofNat a)), .val (.int (Int32.ofNat b)), .val (.int (Int32.ofNat ((a + b) / 2)))]) (rest := []) (Int32.ofNat ((a + b) / 2)) ((a + b) / 2) (own_n5 (by omega)) (own_nn5 (by omega)) (by omega) (hb hby d3_25)
      have pre1 : ∀ t, Steps p.tables e below (T0.setTop (mkF m 27 #[.val (.ref o0), .val (.int x1), .val (.int x2), .val (.int x3), .val (.int (Int32.ofNat a)), .val (.int (Int32.ofNat b)), .val (.int (Int32.ofNat ((a + b) / 2)))] [(.int x3), (.int (f ((a + b) / 2)))])) t → Steps p.tables e below (T0.setTop (mkF m 6 #[.val (.ref o0), .val (.int x1), .val (.int x2), .val (.int x3), .val (.int (Int32.ofNat a)), .val (.int (Int32.ofNat b)), s6] [])) t := fun t kt => by
        show Steps p.tables e below (T0.setTop (mkF m 6 #[.val (.ref o0), .val (.int x1), .val (.int x2), .val (.int x3), .val (.int (Int32.ofNat a)), .val (.int (Int32.ofNat b)), s6] [])) _
        refine XS.iload X0.here hx rfl (hb hby d3_6) rfl ?_
        show Steps p.tables e below (T0.setTop (mkF m 8 #[.val (.ref o0), .val (.int x1), .val (.int x2), .val (.int x3), .val (.int (Int32.ofNat a)), .val (.int (Int32.ofNat b)), s6] [(.int (Int32.ofNat a))])) _
        refine XS.iload X0.here hx rfl (hb hby d3_8) rfl ?_
        show Steps p.tables e below (T0.setTop (mkF m 10 #[.val (.ref o0), .val (.int x1), .val (.int x2), .val (.int x3), .val (.int (Int32.ofNat a)), .val (.int (Int32.ofNat b)), s6] [(.int (Int32.ofNat b)), (.int (Int32.ofNat a))])) _
        refine XS.icmpNo X0.here hx rfl (hb hby d3_10) rfl (tlt (own_lt5 hab (by omega))).2.1 ?_
        show Steps p.tables e below (T0.setTop (mkF m 13 #[.val (.ref o0), .val (.int x1), .val (.int x2), .val (.int x3), .val (.int (Int32.ofNat a)), .val (.int (Int32.ofNat b)), s6] [])) _
        refine XS.iload X0.here hx rfl (hb hby d3_13) rfl ?_
        show Steps p.tables e below (T0.setTop (mkF m 15 #[.val (.ref o0), .val (.int x1), .val (.int x2), .val (.int x3), .val (.int (Int32.ofNat a)), .val (.int (Int32.ofNat b)), s6] [(.int (Int32.ofNat a))])) _
        refine XS.iload X0.here hx rfl (hb hby d3_15) rfl ?_
        show Steps p.tables e below (T0.setTop (mkF m 17 #[.val (.ref o0), .val (.int x1), .val (.int x2), .val (.int x3), .val (.int (Int32.ofNat a)), .val (.int (Int32.ofNat b)), s6] [(.int (Int32.ofNat b)), (.int (Int32.ofNat a))])) _
        refine XS.iadd X0.here hx rfl (hb hby d3_17) rfl ?_
        show Steps p.tables e below (T0.setTop (mkF m 18 #[.val (.ref o0), .val (.int x1), .val (.int x2), .val (.int x3), .val (.int (Int32.ofNat a)), .val (.int (Int32.ofNat b)), s6] [(.int ((Int32.ofNat a) + (Int32.ofNat b)))])) _
        refine XS.iconst X0.here hx rfl (hb hby d3_18) ?_
        show Steps p.tables e below (T0.setTop (mkF m 19 #[.val (.ref o0), .val (.int x1), .val (.int x2), .val (.int x3), .val (.int (Int32.ofNat a)), .val (.int (Int32.ofNat b)), s6] [(.int (1 : Int32)), (.int ((Int32.ofNat a) + (Int32.ofNat b)))])) _
        refine XS.iushr X0.here hx rfl (hb hby d3_19) rfl ?_
        show Steps p.tables e below (T0.setTop (mkF m 20 #[.val (.ref o0), .val (.int x1), .val (.int x2), .val (.int x3), .val (.int (Int32.ofNat a)), .val (.int (Int32.ofNat b)), s6] [(.int (((Int32.ofNat a) + (Int32.ofNat b)).toUInt32 >>> ((1 : Int32) &&& 31).toUInt32).toInt32)])) _
        rw [hm]
        refine XS.istoreS X0.here hx rfl (hb hby d3_20) rfl rfl h7 ?_
        show Steps p.tables e below (T0.setTop (mkF m 22 #[.val (.ref o0), .val (.int x1), .val (.int x2), .val (.int x3), .val (.int (Int32.ofNat a)), .val (.int (Int32.ofNat b)), .val (.int (Int32.ofNat ((a + b) / 2)))] [])) _
        refine XS.aloadN X0.here hx rfl (hb hby d3_22) rfl rfl ?_
        show Steps p.tables e below (T0.setTop (mkF m 23 #[.val (.ref o0), .val (.int x1), .val (.int x2), .val (.int x3), .val (.int (Int32.ofNat a)), .val (.int (Int32.ofNat b)), .val (.int (Int32.ofNat ((a + b) / 2)))] [(.ref o0)])) _
        refine XS.iload X0.here hx rfl (hb hby d3_23) rfl ?_
        show Steps p.tables e below (T0.setTop (mkF m 25 #[.val (.ref o0), .val (.int x1), .val (.int x2), .val (.int x3), .val (.int (Int32.ofNat a)), .val (.int (Int32.ofNat b)), .val (.int (Int32.ofNat ((a + b) / 2)))] [(.int (Int32.ofNat ((a + b) / 2))), (.ref o0)])) _
        refine hg _ ?_
        show Steps p.tables e below (T0.setTop (mkF m 26 #[.val (.ref o0), .val (.int x1), .val (.int x2), .val (.int x3), .val (.int (Int32.ofNat a)), .val (.int (Int32.ofNat b)), .val (.int (Int32.ofNat ((a + b) / 2)))] [(.int (f ((a + b) / 2)))])) _
        refine XS.iloadN X0.here hx rfl (hb hby d3_26) rfl ?_
        exact kt
      refine own_Goes.pre pre1 ?_
      by_cases hc : f ((a + b) / 2) < x3
      · refine own_Goes.pre (fun t kt => ?_) (ih ((a + b) / 2 + 1) b (.val (.int (Int32.ofNat ((a + b) / 2)))) (by omega) (by omega) (by omega) h4 (fun i q1 q2 => Int32.lt_of_le_of_lt (hs i ((a + b) / 2) (by omega) (by omega)) hc) h6 (One.val rfl))
        show Steps p.tables e below (T0.setTop (mkF m 27 #[.val (.ref o0), .val (.int x1), .val (.int x2), .val (.int x3), .val (.int (Int32.ofNat a)), .val (.int (Int32.ofNat b)), .val (.int (Int32.ofNat ((a + b) / 2)))] [(.int x3), (.int (f ((a + b) / 2)))])) _
        refine XS.icmpNo X0.here hx rfl (hb hby d3_27) rfl (tlt hc).2.1 ?_
        show Steps p.tables e below (T0.setTop (mkF m 30 #[.val (.ref o0), .val (.int x1), .val (.int x2), .val (.int x3), .val (.int (Int32.ofNat a)), .val (.int (Int32.ofNat b)), .val (.int (Int32.ofNat ((a + b) / 2)))] [])) _
        refine XS.iload X0.here hx rfl (hb hby d3_30) rfl ?_
        show Steps p.tables e below (T0.setTop (mkF m 32 #[.val (.ref o0), .val (.int x1), .val (.int x2), .val (.int x3), .val (.int (Int32.ofNat a)), .val (.int (Int32.ofNat b)), .val (.int (Int32.ofNat ((a + b) / 2)))] [(.int (Int32.ofNat ((a + b) / 2)))])) _
        refine XS.iconst X0.here hx rfl (hb hby d3_32) ?_
        show Steps p.tables e below (T0.setTop (mkF m 33 #[.val (.ref o0), .val (.int x1), .val (.int x2), .val (.int x3), .val (.int (Int32.ofNat a)), .val (.int (Int32.ofNat b)), .val (.int (Int32.ofNat ((a + b) / 2)))] [(.int (1 : Int32)), (.int (Int32.ofNat ((a + b) / 2)))])) _
        refine XS.iadd X0.here hx rfl (hb hby d3_33) rfl ?_
        show Steps p.tables e below (T0.setTop (mkF m 34 #[.val (.ref o0), .val (.int x1), .val (.int x2), .val (.int x3), .val (.int (Int32.ofNat a)), .val (.int (Int32.ofNat b)), .val (.int (Int32.ofNat ((a + b) / 2)))] [(.int ((Int32.ofNat ((a + b) / 2)) + (1 : Int32)))])) _
        rw [own_inc]
        refine XS.istore X0.here hx rfl (hb hby d3_34) rfl (l' := #[.val (.ref o0), .val (.int x1), .val (.int x2), .val (.int x3), .val (.int (Int32.ofNat ((a + b) / 2 + 1))), .val (.int (Int32.ofNat b)), .val (.int (Int32.ofNat ((a + b) / 2)))]) rfl ?_
        show Steps p.tables e below (T0.setTop (mkF m 36 #[.val (.ref o0), .val (.int x1), .val (.int x2), .val (.int x3), .val (.int (Int32.ofNat ((a + b) / 2 + 1))), .val (.int (Int32.ofNat b)), .val (.int (Int32.ofNat ((a + b) / 2)))] [])) _
        refine XS.goto X0.here hx rfl (pc0 := 36) (pc' := 43) rfl (hb hby d3_36) (by decide) (by decide) ?_
        show Steps p.tables e below (T0.setTop (mkF m 43 #[.val (.ref o0), .val (.int x1), .val (.int x2), .val (.int x3), .val (.int (Int32.ofNat ((a + b) / 2 + 1))), .val (.int (Int32.ofNat b)), .val (.int (Int32.ofNat ((a + b) / 2)))] [])) _
        refine XS.goto X0.here hx rfl (pc0 := 43) (pc' := 6) rfl (hb hby d3_43) (by decide) (by decide) ?_
        exact kt
      · refine own_Goes.pre (fun t kt => ?_) (ih a ((a + b) / 2) (.val (.int (Int32.ofNat ((a + b) / 2)))) (by omega) (by omega) (by omega) (by omega) h5 (fun i q1 q2 => fun q => hc (Int32.lt_of_le_of_lt (hs ((a + b) / 2) i (by omega) (by omega)) q)) (One.val rfl))
        show Steps p.tables e below (T0.setTop (mkF m 27 #[.val (.ref o0), .val (.int x1), .val (.int x2), .val (.int x3), .val (.int (Int32.ofNat a)), .val (.int (Int32.ofNat b)), .val (.int (Int32.ofNat ((a + b) / 2)))] [(.int x3), (.int (f ((a + b) / 2)))])) _
        refine XS.icmpYes X0.here hx rfl (pc0 := 27) (pc' := 39) rfl (hb hby d3_27) rfl (flt hc).2.1 (by decide) (by decide) ?_
        show Steps p.tables e below (T0.setTop (mkF m 39 #[.val (.ref o0), .val (.int x1), .val (.int x2), .val (.int x3), .val (.int (Int32.ofNat a)), .val (.int (Int32.ofNat b)), .val (.int (Int32.ofNat ((a + b) / 2)))] [])) _
        refine XS.iload X0.here hx rfl (hb hby d3_39) rfl ?_
        show Steps p.tables e below (T0.setTop (mkF m 41 #[.val (.ref o0), .val (.int x1), .val (.int x2), .val (.int x3), .val (.int (Int32.ofNat a)), .val (.int (Int32.ofNat b)), .val (.int (Int32.ofNat ((a + b) / 2)))] [(.int (Int32.ofNat ((a + b) / 2)))])) _
        refine XS.istore X0.here hx rfl (hb hby d3_41) rfl (l' := #[.val (.ref o0), .val (.int x1), .val (.int x2), .val (.int x3), .val (.int (Int32.ofNat a)), .val (.int (Int32.ofNat ((a + b) / 2))), .val (.int (Int32.ofNat ((a + b) / 2)))]) rfl ?_
        show Steps p.tables e below (T0.setTop (mkF m 43 #[.val (.ref o0), .val (.int x1), .val (.int x2), .val (.int x3), .val (.int (Int32.ofNat a)), .val (.int (Int32.ofNat ((a + b) / 2))), .val (.int (Int32.ofNat ((a + b) / 2)))] [])) _
        refine XS.goto X0.here hx rfl (pc0 := 43) (pc' := 6) rfl (hb hby d3_43) (by decide) (by decide) ?_
        exact kt
    · exact out a b s6 h2 (by omega) h4 h5 h6
theorem pn1 : plainName "com/example/shape_trees/shapetrees/xslt/ImportOrder" = true := by first | (simp [plainName, overriddenIn]; done) | decide +kernel
theorem ef3 (m : MethodId) (o0 : Addr) (x1 x2 x3 : Int32) : entryFrame m #[(.ref o0), (.int x1), (.int x2), (.int x3)] 7 = mkF m 0 #[.val (.ref o0), .val (.int x1), .val (.int x2), .val (.int x3), .unset, .unset, .unset] [] := by first | (simp [entryFrame, mkF, argsToLocals, Value.category]; done) | rfl
set_option maxRecDepth 65536 in
set_option maxHeartbeats 40000000 in
theorem rm3 (l : Launch) (Z : State) (a0 : Array Value) (hw : ∀ d ∈ tables_1, d.before a0 Z = true) (ws : List Jvm.Cond) (o0 : Addr) (x1 x2 x3 : Int32) (w0 w1 w2 w3 w4 : Int32) (h0 : Heap) (n0 : Nat) (Z0 : n0 ≤ h0.size) (V0 : own_Arr Z h0 o0 5 (own_f w0 w1 w2 w3 w4)) (hs : own_sorted w0 w1 w2 w3 w4) (hr : own_rng x1 x2) :
    MetFree l (⟨"com/example/shape_trees/shapetrees/xslt/ImportOrder", "firstAtLeast", "([IIII)I"⟩ : MethodName) (head1 (Jvm.Cond.code (⟨"com/example/shape_trees/shapetrees/xslt/ImportOrder", "firstAtLeast", "([IIII)I"⟩ : MethodName) prog_235_method_6_code 7 (some .int) :: ws) ({ frames := 0, cells := 0, slots := 0, locals := 0 } : Room)) (fun a U => a = #[(.ref o0), (.int x1), (.int x2), (.int x3)] ∧ Z.Warmed39 U.vm ∧ U.heap = h0) (fun _ _ _ _ _ => True) (fun _ U o U' => ∃ v L, o = .returned v ∧ own_Q (own_val (.int (own_res w0 w1 w2 w3 w4 x1 x2 x3)) h0) n0 v U'.heap L ∧ FrameEnd U o U' L ({ frames := 0, cells := 0, slots := 0, locals := 0 } : Room).cells ({ frames := 0, cells := 0, slots := 0, locals := 0 } : Room).slots) := by
  refine MetFree.of_bodySF (plainFor_of_name pn1) hisR ?_
  intro p e s m args below meth c s₁ Bd hml0 hP hK
  obtain ⟨rfl, hZ, hh⟩ := hP
  have hx := Bd.exec
  have hby := Bd.bytes
  have X0 : Stand p l e ({ frames := 0, cells := 0, slots := 0, locals := 0 } : Room) s m #[(.ref o0), (.int x1), (.int x2), (.int x3)] below meth c s₁ [] 0 0 := Stand.of_body Bd
  have e0 : s₁.heap = h0 := by rw [← hh, Bd.state]; rfl
  obtain ⟨i, j, rfl, rfl, hij, hj⟩ := hr
  refine own_Goes.pre (S' := s₁.setTop (mkF m 6 #[.val (.ref o0), .val (.int (Int32.ofNat i)), .val (.int (Int32.ofNat j)), .val (.int x3), .val (.int (Int32.ofNat i)), .val (.int (Int32.ofNat j)), .unset] [])) (P := own_val (.int (own_res w0 w1 w2 w3 w4 (Int32.ofNat i) (Int32.ofNat j) x3)) h0) (n0 := n0) (kc := 0) (ks := 0) (fun t kt => castTop (ef3 m o0 _ _ x3) ?_) (own_loop (a0 := a0) o0 _ _ x3 (own_f w0 w1 w2 w3 w4) i j X0 hx hZ hby Bd.returns Bd.notSynchronized e0 (Fr.nil n0) V0 hj (own_mono hs) (fun r q1 q2 q3 q4 => ⟨by rw [own_ans q1 q2 hj q3 q4], rfl⟩) (j - i) i j .unset (Nat.le_refl _) (Nat.le_refl _) hij (Nat.le_refl _) (fun k q1 q2 => absurd q2 (Nat.not_lt.mpr q1)) (fun k q1 q2 => absurd q2 (Nat.not_lt.mpr q1)) One.u)
  show Steps p.tables e below (s₁.setTop (mkF m 0 #[.val (.ref o0), .val (.int (Int32.ofNat i)), .val (.int (Int32.ofNat j)), .val (.int x3), .unset, .unset, .unset] [])) _
  refine XS.iloadN X0.here hx rfl (hb hby d3_0) rfl ?_
  show Steps p.tables e below (s₁.setTop (mkF m 1 #[.val (.ref o0), .val (.int (Int32.ofNat i)), .val (.int (Int32.ofNat j)), .val (.int x3), .unset, .unset, .unset] [(.int (Int32.ofNat i))])) _
  refine XS.istore X0.here hx rfl (hb hby d3_1) rfl (l' := #[.val (.ref o0), .val (.int (Int32.ofNat i)), .val (.int (Int32.ofNat j)), .val (.int x3), .val (.int (Int32.ofNat i)), .unset, .unset]) rfl ?_
  show Steps p.tables e below (s₁.setTop (mkF m 3 #[.val (.ref o0), .val (.int (Int32.ofNat i)), .val (.int (Int32.ofNat j)), .val (.int x3), .val (.int (Int32.ofNat i)), .unset, .unset] [])) _
  refine XS.iloadN X0.here hx rfl (hb hby d3_3) rfl ?_
  show Steps p.tables e below (s₁.setTop (mkF m 4 #[.val (.ref o0), .val (.int (Int32.ofNat i)), .val (.int (Int32.ofNat j)), .val (.int x3), .val (.int (Int32.ofNat i)), .unset, .unset] [(.int (Int32.ofNat j))])) _
  refine XS.istore X0.here hx rfl (hb hby d3_4) rfl (l' := #[.val (.ref o0), .val (.int (Int32.ofNat i)), .val (.int (Int32.ofNat j)), .val (.int x3), .val (.int (Int32.ofNat i)), .val (.int (Int32.ofNat j)), .unset]) rfl ?_
  exact kt
theorem pd0 : parseMethodDescriptor "(IIIII)I" = some ⟨[.int, .int, .int, .int, .int], some .int⟩ := by decide +kernel
theorem pd1 : parseMethodDescriptor "([IIII)I" = some ⟨[(.array .int), .int, .int, .int], some .int⟩ := by decide +kernel
def f0_245 (x0 : Int32) (j1 : Int64) (j3 : Int64) (x5 : Int32) (x6 : Int32) (j7 : Int64) (j9 : Int64) (j11 : Int64) (j13 : Int64) (j15 : Int64) (j17 : Int64) (x20 : Int32) (x21 : Int32) (x22 : Int32) (x23 : Int32) (x24 : Int32) (w0 : Int32) (w1 : Int32) (w2 : Int32) (w3 : Int32) (w4 : Int32) : Int32 := (0 : Int32)
set_option maxRecDepth 65536 in
set_option maxHeartbeats 40000000 in
theorem b0_245 {p : Program} {l : Launch} {e : Env} {s : State} {m : MethodId} {args : Array Value} {below : List Frame} {meth : Method} {c : Code} {T0 : State} {locs : List Loc} {Z : State} {a0 : Array Value} {h0 : Heap} {n0 : Nat} {P : Option Value → Heap → Prop} (x0 : Int32) (j1 : Int64) (j3 : Int64) (x5 : Int32) (x6 : Int32) (j7 : Int64) (j9 : Int64) (j11 : Int64) (j13 : Int64) (j15 : Int64) (j17 : Int64) (o19 : Addr) (x20 : Int32) (x21 : Int32) (x22 : Int32) (x23 : Int32) (x24 : Int32) (w0 : Int32) (w1 : Int32) (w2 : Int32) (w3 : Int32) (w4 : Int32) (X0 : Stand p l e room_1 s m args below meth c T0 locs 1 5) (hx : p.tables.exec = Jvm.exec) (hZ : Z.Warmed39 s.vm) (hw : ∀ d ∈ tables_1, d.before a0 Z = true) (hby : c.code = code) (hml : c.maxLocals = 25) (hown : s.vm.findClass "com/example/shape_trees/shapetrees/xslt/ImportOrderFirstAtLeastPinLaw" = some m.cls) (hret : meth.sig.returnType = some .boolean) (hlk : meth.locks = false) (e0 : T0.heap = h0) (Z0 : n0 ≤ h0.size) (N0 : Fr n0 locs) (V0 : own_Arr Z h0 o19 5 (own_f w0 w1 w2 w3 w4)) (hs : own_sorted w0 w1 w2 w3 w4) (hr : own_rng x20 x22) (hP : ∀ h' : Heap, P (some (.int (f0_245 x0 j1 j3 x5 x6 j7 j9 j11 j13 j15 j17 x20 x21 x22 x23 x24 w0 w1 w2 w3 w4))) h') :
    own_Goes p e below s n0 room_1.cells room_1.slots P (T0.setTop (mkF m 245 #[.val (.int x0), .val (.long j1), .second, .val (.long j3), .second, .val (.int x5), .val (.int x6), .val (.long j7), .second, .val (.long j9), .second, .val (.long j11), .second, .val (.long j13), .second, .val (.long j15), .second, .val (.long j17), .second, .val (.ref o19), .val (.int x20), .val (.int x21), .val (.int x22), .val (.int x23), .val (.int x24)] [])) := by
  rw [f0_245] at hP
  refine own_Goes.pre (fun t kt => ?_) (own_retN X0 hx hlk hret (by simp) (hb hby at_246) N0 (hP _) (by decide) (by decide) (Ls := #[.val (.int x0), .val (.long j1), .second, .val (.long j3), .second, .val (.int x5), .val (.int x6), .val (.long j7), .second, .val (.long j9), .second, .val (.long j11), .second, .val (.long j13), .second, .val (.long j15), .second, .val (.long j17), .second, .val (.ref o19), .val (.int x20), .val (.int x21), .val (.int x22), .val (.int x23), .val (.int x24)]) (rest := []) (z := (0 : Int32)))
  show Steps p.tables e below (T0.setTop (mkF m 245 #[.val (.int x0), .val (.long j1), .second, .val (.long j3), .second, .val (.int x5), .val (.int x6), .val (.long j7), .second, .val (.long j9), .second, .val (.long j11), .second, .val (.long j13), .second, .val (.long j15), .second, .val (.long j17), .second, .val (.ref o19), .val (.int x20), .val (.int x21), .val (.int x22), .val (.int x23), .val (.int x24)] [])) _
  refine XS.iconst X0.here hx rfl (hb hby at_245) ?_
  exact kt
def f0_241 (x0 : Int32) (j1 : Int64) (j3 : Int64) (x5 : Int32) (x6 : Int32) (j7 : Int64) (j9 : Int64) (j11 : Int64) (j13 : Int64) (j15 : Int64) (j17 : Int64) (x20 : Int32) (x21 : Int32) (x22 : Int32) (x23 : Int32) (x24 : Int32) (w0 : Int32) (w1 : Int32) (w2 : Int32) (w3 : Int32) (w4 : Int32) : Int32 := (1 : Int32)
set_option maxRecDepth 65536 in
set_option maxHeartbeats 40000000 in
theorem b0_241 {p : Program} {l : Launch} {e : Env} {s : State} {m : MethodId} {args : Array Value} {below : List Frame} {meth : Method} {c : Code} {T0 : State} {locs : List Loc} {Z : State} {a0 : Array Value} {h0 : Heap} {n0 : Nat} {P : Option Value → Heap → Prop} (x0 : Int32) (j1 : Int64) (j3 : Int64) (x5 : Int32) (x6 : Int32) (j7 : Int64) (j9 : Int64) (j11 : Int64) (j13 : Int64) (j15 : Int64) (j17 : Int64) (o19 : Addr) (x20 : Int32) (x21 : Int32) (x22 : Int32) (x23 : Int32) (x24 : Int32) (w0 : Int32) (w1 : Int32) (w2 : Int32) (w3 : Int32) (w4 : Int32) (X0 : Stand p l e room_1 s m args below meth c T0 locs 1 5) (hx : p.tables.exec = Jvm.exec) (hZ : Z.Warmed39 s.vm) (hw : ∀ d ∈ tables_1, d.before a0 Z = true) (hby : c.code = code) (hml : c.maxLocals = 25) (hown : s.vm.findClass "com/example/shape_trees/shapetrees/xslt/ImportOrderFirstAtLeastPinLaw" = some m.cls) (hret : meth.sig.returnType = some .boolean) (hlk : meth.locks = false) (e0 : T0.heap = h0) (Z0 : n0 ≤ h0.size) (N0 : Fr n0 locs) (V0 : own_Arr Z h0 o19 5 (own_f w0 w1 w2 w3 w4)) (hs : own_sorted w0 w1 w2 w3 w4) (hr : own_rng x20 x22) (hP : ∀ h' : Heap, P (some (.int (f0_241 x0 j1 j3 x5 x6 j7 j9 j11 j13 j15 j17 x20 x21 x22 x23 x24 w0 w1 w2 w3 w4))) h') :
    own_Goes p e below s n0 room_1.cells room_1.slots P (T0.setTop (mkF m 241 #[.val (.int x0), .val (.long j1), .second, .val (.long j3), .second, .val (.int x5), .val (.int x6), .val (.long j7), .second, .val (.long j9), .second, .val (.long j11), .second, .val (.long j13), .second, .val (.long j15), .second, .val (.long j17), .second, .val (.ref o19), .val (.int x20), .val (.int x21), .val (.int x22), .val (.int x23), .val (.int x24)] [])) := by
  rw [f0_241] at hP
  refine own_Goes.pre (fun t kt => ?_) (own_retN X0 hx hlk hret (by simp) (hb hby at_246) N0 (hP _) (by decide) (by decide) (Ls := #[.val (.int x0), .val (.long j1), .second, .val (.long j3), .second, .val (.int x5), .val (.int x6), .val (.long j7), .second, .val (.long j9), .second, .val (.long j11), .second, .val (.long j13), .second, .val (.long j15), .second, .val (.long j17), .second, .val (.ref o19), .val (.int x20), .val (.int x21), .val (.int x22), .val (.int x23), .val (.int x24)]) (rest := []) (z := (1 : Int32)))
  show Steps p.tables e below (T0.setTop (mkF m 241 #[.val (.int x0), .val (.long j1), .second, .val (.long j3), .second, .val (.int x5), .val (.int x6), .val (.long j7), .second, .val (.long j9), .second, .val (.long j11), .second, .val (.long j13), .second, .val (.long j15), .second, .val (.long j17), .second, .val (.ref o19), .val (.int x20), .val (.int x21), .val (.int x22), .val (.int x23), .val (.int x24)] [])) _
  refine XS.iconst X0.here hx rfl (hb hby at_241) ?_
  show Steps p.tables e below (T0.setTop (mkF m 242 #[.val (.int x0), .val (.long j1), .second, .val (.long j3), .second, .val (.int x5), .val (.int x6), .val (.long j7), .second, .val (.long j9), .second, .val (.long j11), .second, .val (.long j13), .second, .val (.long j15), .second, .val (.long j17), .second, .val (.ref o19), .val (.int x20), .val (.int x21), .val (.int x22), .val (.int x23), .val (.int x24)] [(.int (1 : Int32))])) _
  refine XS.goto X0.here hx rfl (pc0 := 242) (pc' := 246) rfl (hb hby at_242) (by decide) (by decide) ?_
  exact kt
def f0_142 (x0 : Int32) (j1 : Int64) (j3 : Int64) (x5 : Int32) (x6 : Int32) (j7 : Int64) (j9 : Int64) (j11 : Int64) (j13 : Int64) (j15 : Int64) (j17 : Int64) (x20 : Int32) (x21 : Int32) (x22 : Int32) (w0 : Int32) (w1 : Int32) (w2 : Int32) (w3 : Int32) (w4 : Int32) : Int32 := if (own_res w0 w1 w2 w3 w4 x20 x22 x5) = (((((x20 + (f2_0 (0 : Int32) x20 x22 w0 x5)) + (f2_0 (1 : Int32) x20 x22 w1 x5)) + (f2_0 (2 : Int32) x20 x22 w2 x5)) + (f2_0 (3 : Int32) x20 x22 w3 x5)) + (f2_0 (4 : Int32) x20 x22 w4 x5)) then (f0_241 x0 j1 j3 x5 x6 j7 j9 j11 j13 j15 j17 x20 x21 x22 (((((x20 + (f2_0 (0 : Int32) x20 x22 w0 x5)) + (f2_0 (1 : Int32) x20 x22 w1 x5)) + (f2_0 (2 : Int32) x20 x22 w2 x5)) + (f2_0 (3 : Int32) x20 x22 w3 x5)) + (f2_0 (4 : Int32) x20 x22 w4 x5)) (own_res w0 w1 w2 w3 w4 x20 x22 x5) w0 w1 w2 w3 w4) else (f0_245 x0 j1 j3 x5 x6 j7 j9 j11 j13 j15 j17 x20 x21 x22 (((((x20 + (f2_0 (0 : Int32) x20 x22 w0 x5)) + (f2_0 (1 : Int32) x20 x22 w1 x5)) + (f2_0 (2 : Int32) x20 x22 w2 x5)) + (f2_0 (3 : Int32) x20 x22 w3 x5)) + (f2_0 (4 : Int32) x20 x22 w4 x5)) (own_res w0 w1 w2 w3 w4 x20 x22 x5) w0 w1 w2 w3 w4)
set_option maxRecDepth 65536 in
set_option maxHeartbeats 40000000 in
theorem b0_142 {p : Program} {l : Launch} {e : Env} {s : State} {m : MethodId} {args : Array Value} {below : List Frame} {meth : Method} {c : Code} {T0 : State} {locs : List Loc} {Z : State} {a0 : Array Value} {h0 : Heap} {n0 : Nat} {P : Option Value → Heap → Prop} (x0 : Int32) (j1 : Int64) (j3 : Int64) (x5 : Int32) (x6 : Int32) (j7 : Int64) (j9 : Int64) (j11 : Int64) (j13 : Int64) (j15 : Int64) (j17 : Int64) (o19 : Addr) (x20 : Int32) (x21 : Int32) (x22 : Int32) (w0 : Int32) (w1 : Int32) (w2 : Int32) (w3 : Int32) (w4 : Int32) (X0 : Stand p l e room_1 s m args below meth c T0 locs 1 5) (hx : p.tables.exec = Jvm.exec) (hZ : Z.Warmed39 s.vm) (hw : ∀ d ∈ tables_1, d.before a0 Z = true) (hby : c.code = code) (hml : c.maxLocals = 25) (hown : s.vm.findClass "com/example/shape_trees/shapetrees/xslt/ImportOrderFirstAtLeastPinLaw" = some m.cls) (hret : meth.sig.returnType = some .boolean) (hlk : meth.locks = false) (e0 : T0.heap = h0) (Z0 : n0 ≤ h0.size) (N0 : Fr n0 locs) (V0 : own_Arr Z h0 o19 5 (own_f w0 w1 w2 w3 w4)) (hs : own_sorted w0 w1 w2 w3 w4) (hr : own_rng x20 x22) (hP : ∀ h' : Heap, P (some (.int (f0_142 x0 j1 j3 x5 x6 j7 j9 j11 j13 j15 j17 x20 x21 x22 w0 w1 w2 w3 w4))) h') :
    own_Goes p e below s n0 room_1.cells room_1.slots P (T0.setTop (mkF m 142 #[.val (.int x0), .val (.long j1), .second, .val (.long j3), .second, .val (.int x5), .val (.int x6), .val (.long j7), .second, .val (.long j9), .second, .val (.long j11), .second, .val (.long j13), .second, .val (.long j15), .second, .val (.long j17), .second, .val (.ref o19), .val (.int x20), .val (.int x21), .val (.int x22), .unset, .unset] [])) := by
  obtain ⟨_, _, ⟨T155, L155, k155, n155⟩, -, X155, ⟨Lc155, hQ155, l155, y155, z155⟩, st155⟩ := Jvm.LawKit.callS X0 hx (y := (⟨"com/example/shape_trees/shapetrees/xslt/ImportOrderFirstAtLeastPinLaw", "below", "(IIIII)I"⟩ : MethodName)) hown (mvT hZ (hw _ (List.mem_of_getElem? (i := 7) rfl))) (mvT hZ (hw _ (List.mem_of_getElem? (i := 8) rfl))) (mvT hZ (hw _ (List.mem_of_getElem? (i := 9) rfl))) (mvT hZ (hw _ (List.mem_of_getElem? (i := 10) rfl))) (by decide) (backOf (W := 1) (rm2 l Z a0 hw [] (0 : Int32) x20 x22 w0 x5 h0 n0 Z0) hZ (hw _ (List.mem_of_getElem? (i := 10) rfl)) (hw _ (List.mem_of_getElem? (i := 9) rfl)) (by decide) (by decide)) (g := (mkF m 155 #[.val (.int x0), .val (.long j1), .second, .val (.long j3), .second, .val (.int x5), .val (.int x6), .val (.long j7), .second, .val (.long j9), .second, .val (.long j11), .second, .val (.long j13), .second, .val (.long j15), .second, .val (.long j17), .second, .val (.ref o19), .val (.int x20), .val (.int x21), .val (.int x22), .unset, .unset] [(.int x5), (.int w0), (.int x22), (.int x20), (.int (0 : Int32)), (.int x20)])) rfl (by rw [hml]; rfl) (argsL := [(.int (0 : Int32)), (.int x20), (.int x22), (.int w0), (.int x5)]) (rest := [(.int x20)]) (lenOf pd0 rfl) rfl (by show 2 * 0 + _ ≤ _; exact Nat.le_of_eq rfl) (hb hby at_155) (fun _ _ => ⟨rfl, e0, (by decide : 1 + 0 ≤ _), (by decide : 5 + 0 ≤ _)⟩)
  dsimp only [Pt.U, Pt.locs, Pt.cells, Pt.slots] at X155 l155 y155 z155 st155 hQ155
  subst l155 y155 z155
  obtain ⟨⟨rfl, e155⟩, N155q⟩ := hQ155
  have N155 := Fr.app N0 N155q
  obtain ⟨_, _, ⟨T170, L170, k170, n170⟩, -, X170, ⟨Lc170, hQ170, l170, y170, z170⟩, st170⟩ := Jvm.LawKit.callS X155 hx (y := (⟨"com/example/shape_trees/shapetrees/xslt/ImportOrderFirstAtLeastPinLaw", "below", "(IIIII)I"⟩ : MethodName)) hown (mvT hZ (hw _ (List.mem_of_getElem? (i := 7) rfl))) (mvT hZ (hw _ (List.mem_of_getElem? (i := 8) rfl))) (mvT hZ (hw _ (List.mem_of_getElem? (i := 9) rfl))) (mvT hZ (hw _ (List.mem_of_getElem? (i := 10) rfl))) (by decide) (backOf (W := 1) (rm2 l Z a0 hw [] (1 : Int32) x20 x22 w1 x5 h0 n0 Z0) hZ (hw _ (List.mem_of_getElem? (i := 10) rfl)) (hw _ (List.mem_of_getElem? (i := 9) rfl)) (by decide) (by decide)) (g := (mkF m 170 #[.val (.int x0), .val (.long j1), .second, .val (.long j3), .second, .val (.int x5), .val (.int x6), .val (.long j7), .second, .val (.long j9), .second, .val (.long j11), .second, .val (.long j13), .second, .val (.long j15), .second, .val (.long j17), .second, .val (.ref o19), .val (.int x20), .val (.int x21), .val (.int x22), .unset, .unset] [(.int x5), (.int w1), (.int x22), (.int x20), (.int (1 : Int32)), (.int (x20 + (f2_0 (0 : Int32) x20 x22 w0 x5)))])) rfl (by rw [hml]; rfl) (argsL := [(.int (1 : Int32)), (.int x20), (.int x22), (.int w1), (.int x5)]) (rest := [(.int (x20 + (f2_0 (0 : Int32) x20 x22 w0 x5)))]) (lenOf pd0 rfl) rfl (by show 2 * 0 + _ ≤ _; exact Nat.le_of_eq rfl) (hb hby at_170) (fun _ _ => ⟨rfl, e155, (by decide : 1 + 0 ≤ _), (by decide : 5 + 0 ≤ _)⟩)
  dsimp only [Pt.U, Pt.locs, Pt.cells, Pt.slots] at X170 l170 y170 z170 st170 hQ170
  subst l170 y170 z170
  obtain ⟨⟨rfl, e170⟩, N170q⟩ := hQ170
  have N170 := Fr.app N155 N170q
  obtain ⟨_, _, ⟨T185, L185, k185, n185⟩, -, X185, ⟨Lc185, hQ185, l185, y185, z185⟩, st185⟩ := Jvm.LawKit.callS X170 hx (y := (⟨"com/example/shape_trees/shapetrees/xslt/ImportOrderFirstAtLeastPinLaw", "below", "(IIIII)I"⟩ : MethodName)) hown (mvT hZ (hw _ (List.mem_of_getElem? (i := 7) rfl))) (mvT hZ (hw _ (List.mem_of_getElem? (i := 8) rfl))) (mvT hZ (hw _ (List.mem_of_getElem? (i := 9) rfl))) (mvT hZ (hw _ (List.mem_of_getElem? (i := 10) rfl))) (by decide) (backOf (W := 1) (rm2 l Z a0 hw [] (2 : Int32) x20 x22 w2 x5 h0 n0 Z0) hZ (hw _ (List.mem_of_getElem? (i := 10) rfl)) (hw _ (List.mem_of_getElem? (i := 9) rfl)) (by decide) (by decide)) (g := (mkF m 185 #[.val (.int x0), .val (.long j1), .second, .val (.long j3), .second, .val (.int x5), .val (.int x6), .val (.long j7), .second, .val (.long j9), .second, .val (.long j11), .second, .val (.long j13), .second, .val (.long j15), .second, .val (.long j17), .second, .val (.ref o19), .val (.int x20), .val (.int x21), .val (.int x22), .unset, .unset] [(.int x5), (.int w2), (.int x22), (.int x20), (.int (2 : Int32)), (.int ((x20 + (f2_0 (0 : Int32) x20 x22 w0 x5)) + (f2_0 (1 : Int32) x20 x22 w1 x5)))])) rfl (by rw [hml]; rfl) (argsL := [(.int (2 : Int32)), (.int x20), (.int x22), (.int w2), (.int x5)]) (rest := [(.int ((x20 + (f2_0 (0 : Int32) x20 x22 w0 x5)) + (f2_0 (1 : Int32) x20 x22 w1 x5)))]) (lenOf pd0 rfl) rfl (by show 2 * 0 + _ ≤ _; exact Nat.le_of_eq rfl) (hb hby at_185) (fun _ _ => ⟨rfl, e170, (by decide : 1 + 0 ≤ _), (by decide : 5 + 0 ≤ _)⟩)
  dsimp only [Pt.U, Pt.locs, Pt.cells, Pt.slots] at X185 l185 y185 z185 st185 hQ185
  subst l185 y185 z185
  obtain ⟨⟨rfl, e185⟩, N185q⟩ := hQ185
  have N185 := Fr.app N170 N185q
  obtain ⟨_, _, ⟨T200, L200, k200, n200⟩, -, X200, ⟨Lc200, hQ200, l200, y200, z200⟩, st200⟩ := Jvm.LawKit.callS X185 hx (y := (⟨"com/example/shape_trees/shapetrees/xslt/ImportOrderFirstAtLeastPinLaw", "below", "(IIIII)I"⟩ : MethodName)) hown (mvT hZ (hw _ (List.mem_of_getElem? (i := 7) rfl))) (mvT hZ (hw _ (List.mem_of_getElem? (i := 8) rfl))) (mvT hZ (hw _ (List.mem_of_getElem? (i := 9) rfl))) (mvT hZ (hw _ (List.mem_of_getElem? (i := 10) rfl))) (by decide) (backOf (W := 1) (rm2 l Z a0 hw [] (3 : Int32) x20 x22 w3 x5 h0 n0 Z0) hZ (hw _ (List.mem_of_getElem? (i := 10) rfl)) (hw _ (List.mem_of_getElem? (i := 9) rfl)) (by decide) (by decide)) (g := (mkF m 200 #[.val (.int x0), .val (.long j1), .second, .val (.long j3), .second, .val (.int x5), .val (.int x6), .val (.long j7), .second, .val (.long j9), .second, .val (.long j11), .second, .val (.long j13), .second, .val (.long j15), .second, .val (.long j17), .second, .val (.ref o19), .val (.int x20), .val (.int x21), .val (.int x22), .unset, .unset] [(.int x5), (.int w3), (.int x22), (.int x20), (.int (3 : Int32)), (.int (((x20 + (f2_0 (0 : Int32) x20 x22 w0 x5)) + (f2_0 (1 : Int32) x20 x22 w1 x5)) + (f2_0 (2 : Int32) x20 x22 w2 x5)))])) rfl (by rw [hml]; rfl) (argsL := [(.int (3 : Int32)), (.int x20), (.int x22), (.int w3), (.int x5)]) (rest := [(.int (((x20 + (f2_0 (0 : Int32) x20 x22 w0 x5)) + (f2_0 (1 : Int32) x20 x22 w1 x5)) + (f2_0 (2 : Int32) x20 x22 w2 x5)))]) (lenOf pd0 rfl) rfl (by show 2 * 0 + _ ≤ _; exact Nat.le_of_eq rfl) (hb hby at_200) (fun _ _ => ⟨rfl, e185, (by decide : 1 + 0 ≤ _), (by decide : 5 + 0 ≤ _)⟩)
  dsimp only [Pt.U, Pt.locs, Pt.cells, Pt.slots] at X200 l200 y200 z200 st200 hQ200
  subst l200 y200 z200
  obtain ⟨⟨rfl, e200⟩, N200q⟩ := hQ200
  have N200 := Fr.app N185 N200q
  obtain ⟨_, _, ⟨T215, L215, k215, n215⟩, -, X215, ⟨Lc215, hQ215, l215, y215, z215⟩, st215⟩ := Jvm.LawKit.callS X200 hx (y := (⟨"com/example/shape_trees/shapetrees/xslt/ImportOrderFirstAtLeastPinLaw", "below", "(IIIII)I"⟩ : MethodName)) hown (mvT hZ (hw _ (List.mem_of_getElem? (i := 7) rfl))) (mvT hZ (hw _ (List.mem_of_getElem? (i := 8) rfl))) (mvT hZ (hw _ (List.mem_of_getElem? (i := 9) rfl))) (mvT hZ (hw _ (List.mem_of_getElem? (i := 10) rfl))) (by decide) (backOf (W := 1) (rm2 l Z a0 hw [] (4 : Int32) x20 x22 w4 x5 h0 n0 Z0) hZ (hw _ (List.mem_of_getElem? (i := 10) rfl)) (hw _ (List.mem_of_getElem? (i := 9) rfl)) (by decide) (by decide)) (g := (mkF m 215 #[.val (.int x0), .val (.long j1), .second, .val (.long j3), .second, .val (.int x5), .val (.int x6), .val (.long j7), .second, .val (.long j9), .second, .val (.long j11), .second, .val (.long j13), .second, .val (.long j15), .second, .val (.long j17), .second, .val (.ref o19), .val (.int x20), .val (.int x21), .val (.int x22), .unset, .unset] [(.int x5), (.int w4), (.int x22), (.int x20), (.int (4 : Int32)), (.int ((((x20 + (f2_0 (0 : Int32) x20 x22 w0 x5)) + (f2_0 (1 : Int32) x20 x22 w1 x5)) + (f2_0 (2 : Int32) x20 x22 w2 x5)) + (f2_0 (3 : Int32) x20 x22 w3 x5)))])) rfl (by rw [hml]; rfl) (argsL := [(.int (4 : Int32)), (.int x20), (.int x22), (.int w4), (.int x5)]) (rest := [(.int ((((x20 + (f2_0 (0 : Int32) x20 x22 w0 x5)) + (f2_0 (1 : Int32) x20 x22 w1 x5)) + (f2_0 (2 : Int32) x20 x22 w2 x5)) + (f2_0 (3 : Int32) x20 x22 w3 x5)))]) (lenOf pd0 rfl) rfl (by show 2 * 0 + _ ≤ _; exact Nat.le_of_eq rfl) (hb hby at_215) (fun _ _ => ⟨rfl, e200, (by decide : 1 + 0 ≤ _), (by decide : 5 + 0 ≤ _)⟩)
  dsimp only [Pt.U, Pt.locs, Pt.cells, Pt.slots] at X215 l215 y215 z215 st215 hQ215
  subst l215 y215 z215
  obtain ⟨⟨rfl, e215⟩, N215q⟩ := hQ215
  have N215 := Fr.app N200 N215q
  obtain ⟨_, _, ⟨T229, L229, k229, n229⟩, -, X229, ⟨Lc229, hQ229, l229, y229, z229⟩, st229⟩ := Jvm.LawKit.callS X215 hx (y := (⟨"com/example/shape_trees/shapetrees/xslt/ImportOrder", "firstAtLeast", "([IIII)I"⟩ : MethodName)) hown (mvT hZ (hw _ (List.mem_of_getElem? (i := 11) rfl))) (mvT hZ (hw _ (List.mem_of_getElem? (i := 12) rfl))) (mvT hZ (hw _ (List.mem_of_getElem? (i := 13) rfl))) (mvT hZ (hw _ (List.mem_of_getElem? (i := 14) rfl))) (by decide) (backOf (W := 0) (rm3 l Z a0 hw [] o19 x20 x22 x5 w0 w1 w2 w3 w4 h0 n0 Z0 V0 hs hr) hZ (hw _ (List.mem_of_getElem? (i := 14) rfl)) (hw _ (List.mem_of_getElem? (i := 13) rfl)) (by decide) (by decide)) (g := (mkF m 229 #[.val (.int x0), .val (.long j1), .second, .val (.long j3), .second, .val (.int x5), .val (.int x6), .val (.long j7), .second, .val (.long j9), .second, .val (.long j11), .second, .val (.long j13), .second, .val (.long j15), .second, .val (.long j17), .second, .val (.ref o19), .val (.int x20), .val (.int x21), .val (.int x22), .val (.int (((((x20 + (f2_0 (0 : Int32) x20 x22 w0 x5)) + (f2_0 (1 : Int32) x20 x22 w1 x5)) + (f2_0 (2 : Int32) x20 x22 w2 x5)) + (f2_0 (3 : Int32) x20 x22 w3 x5)) + (f2_0 (4 : Int32) x20 x22 w4 x5))), .unset] [(.int x5), (.int x22), (.int x20), (.ref o19)])) rfl (by rw [hml]; rfl) (argsL := [(.ref o19), (.int x20), (.int x22), (.int x5)]) (rest := []) (lenOf pd1 rfl) rfl (by show 2 * 0 + _ ≤ _; exact Nat.le_of_eq rfl) (hb hby at_229) (fun _ _ => ⟨rfl, e215, (by decide : 1 + 0 ≤ _), (by decide : 5 + 0 ≤ _)⟩)
  dsimp only [Pt.U, Pt.locs, Pt.cells, Pt.slots] at X229 l229 y229 z229 st229 hQ229
  subst l229 y229 z229
  obtain ⟨⟨rfl, e229⟩, N229q⟩ := hQ229
  have N229 := Fr.app N215 N229q
  have pre1 : ∀ t, Steps p.tables e below (T229.setTop (mkF m 238 #[.val (.int x0), .val (.long j1), .second, .val (.long j3), .second, .val (.int x5), .val (.int x6), .val (.long j7), .second, .val (.long j9), .second, .val (.long j11), .second, .val (.long j13), .second, .val (.long j15), .second, .val (.long j17), .second, .val (.ref o19), .val (.int x20), .val (.int x21), .val (.int x22), .val (.int (((((x20 + (f2_0 (0 : Int32) x20 x22 w0 x5)) + (f2_0 (1 : Int32) x20 x22 w1 x5)) + (f2_0 (2 : Int32) x20 x22 w2 x5)) + (f2_0 (3 : Int32) x20 x22 w3 x5)) + (f2_0 (4 : Int32) x20 x22 w4 x5))), .val (.int (own_res w0 w1 w2 w3 w4 x20 x22 x5))] [(.int (((((x20 + (f2_0 (0 : Int32) x20 x22 w0 x5)) + (f2_0 (1 : Int32) x20 x22 w1 x5)) + (f2_0 (2 : Int32) x20 x22 w2 x5)) + (f2_0 (3 : Int32) x20 x22 w3 x5)) + (f2_0 (4 : Int32) x20 x22 w4 x5))), (.int (own_res w0 w1 w2 w3 w4 x20 x22 x5))])) t → Steps p.tables e below (T0.setTop (mkF m 142 #[.val (.int x0), .val (.long j1), .second, .val (.long j3), .second, .val (.int x5), .val (.int x6), .val (.long j7), .second, .val (.long j9), .second, .val (.long j11), .second, .val (.long j13), .second, .val (.long j15), .second, .val (.long j17), .second, .val (.ref o19), .val (.int x20), .val (.int x21), .val (.int x22), .unset, .unset] [])) t := fun t kt => by
    show Steps p.tables e below (T0.setTop (mkF m 142 #[.val (.int x0), .val (.long j1), .second, .val (.long j3), .second, .val (.int x5), .val (.int x6), .val (.long j7), .second, .val (.long j9), .second, .val (.long j11), .second, .val (.long j13), .second, .val (.long j15), .second, .val (.long j17), .second, .val (.ref o19), .val (.int x20), .val (.int x21), .val (.int x22), .unset, .unset] [])) _
    refine XS.iload X0.here hx rfl (hb hby at_142) rfl ?_
    show Steps p.tables e below (T0.setTop (mkF m 144 #[.val (.int x0), .val (.long j1), .second, .val (.long j3), .second, .val (.int x5), .val (.int x6), .val (.long j7), .second, .val (.long j9), .second, .val (.long j11), .second, .val (.long j13), .second, .val (.long j15), .second, .val (.long j17), .second, .val (.ref o19), .val (.int x20), .val (.int x21), .val (.int x22), .unset, .unset] [(.int x20)])) _
    refine XS.iconst X0.here hx rfl (hb hby at_144) ?_
    show Steps p.tables e below (T0.setTop (mkF m 145 #[.val (.int x0), .val (.long j1), .second, .val (.long j3), .second, .val (.int x5), .val (.int x6), .val (.long j7), .second, .val (.long j9), .second, .val (.long j11), .second, .val (.long j13), .second, .val (.long j15), .second, .val (.long j17), .second, .val (.ref o19), .val (.int x20), .val (.int x21), .val (.int x22), .unset, .unset] [(.int (0 : Int32)), (.int x20)])) _
    refine XS.iload X0.here hx rfl (hb hby at_145) rfl ?_
    show Steps p.tables e below (T0.setTop (mkF m 147 #[.val (.int x0), .val (.long j1), .second, .val (.long j3), .second, .val (.int x5), .val (.int x6), .val (.long j7), .second, .val (.long j9), .second, .val (.long j11), .second, .val (.long j13), .second, .val (.long j15), .second, .val (.long j17), .second, .val (.ref o19), .val (.int x20), .val (.int x21), .val (.int x22), .unset, .unset] [(.int x20), (.int (0 : Int32)), (.int x20)])) _
    refine XS.iload X0.here hx rfl (hb hby at_147) rfl ?_
    show Steps p.tables e below (T0.setTop (mkF m 149 #[.val (.int x0), .val (.long j1), .second, .val (.long j3), .second, .val (.int x5), .val (.int x6), .val (.long j7), .second, .val (.long j9), .second, .val (.long j11), .second, .val (.long j13), .second, .val (.long j15), .second, .val (.long j17), .second, .val (.ref o19), .val (.int x20), .val (.int x21), .val (.int x22), .unset, .unset] [(.int x22), (.int x20), (.int (0 : Int32)), (.int x20)])) _
    refine XS.aload X0.here hx rfl (hb hby at_149) rfl rfl ?_
    show Steps p.tables e below (T0.setTop (mkF m 151 #[.val (.int x0), .val (.long j1), .second, .val (.long j3), .second, .val (.int x5), .val (.int x6), .val (.long j7), .second, .val (.long j9), .second, .val (.long j11), .second, .val (.long j13), .second, .val (.long j15), .second, .val (.long j17), .second, .val (.ref o19), .val (.int x20), .val (.int x21), .val (.int x22), .unset, .unset] [(.ref o19), (.int x22), (.int x20), (.int (0 : Int32)), (.int x20)])) _
    refine XS.iconst X0.here hx rfl (hb hby at_151) ?_
    show Steps p.tables e below (T0.setTop (mkF m 152 #[.val (.int x0), .val (.long j1), .second, .val (.long j3), .second, .val (.int x5), .val (.int x6), .val (.long j7), .second, .val (.long j9), .second, .val (.long j11), .second, .val (.long j13), .second, .val (.long j15), .second, .val (.long j17), .second, .val (.ref o19), .val (.int x20), .val (.int x21), .val (.int x22), .unset, .unset] [(.int (0 : Int32)), (.ref o19), (.int x22), (.int x20), (.int (0 : Int32)), (.int x20)])) _
    refine own_get X0 hx hZ e0 V0 (pc := 152) (Ls := #[.val (.int x0), .val (.long j1), .second, .val (.long j3), .second, .val (.int x5), .val (.int x6), .val (.long j7), .second, .val (.long j9), .second, .val (.long j11), .second, .val (.long j13), .second, .val (.long j15), .second, .val (.long j17), .second, .val (.ref o19), .val (.int x20), .val (.int x21), .val (.int x22), .unset, .unset]) (rest := [(.int x22), (.int x20), (.int (0 : Int32)), (.int x20)]) (0 : Int32) 0 (by decide) (by decide) (by decide) (hb hby at_152) _ ?_
    show Steps p.tables e below (T0.setTop (mkF m 153 #[.val (.int x0), .val (.long j1), .second, .val (.long j3), .second, .val (.int x5), .val (.int x6), .val (.long j7), .second, .val (.long j9), .second, .val (.long j11), .second, .val (.long j13), .second, .val (.long j15), .second, .val (.long j17), .second, .val (.ref o19), .val (.int x20), .val (.int x21), .val (.int x22), .unset, .unset] [(.int w0), (.int x22), (.int x20), (.int (0 : Int32)), (.int x20)])) _
    refine XS.iload X0.here hx rfl (hb hby at_153) rfl ?_
    show Steps p.tables e below (T0.setTop (mkF m 155 #[.val (.int x0), .val (.long j1), .second, .val (.long j3), .second, .val (.int x5), .val (.int x6), .val (.long j7), .second, .val (.long j9), .second, .val (.long j11), .second, .val (.long j13), .second, .val (.long j15), .second, .val (.long j17), .second, .val (.ref o19), .val (.int x20), .val (.int x21), .val (.int x22), .unset, .unset] [(.int x5), (.int w0), (.int x22), (.int x20), (.int (0 : Int32)), (.int x20)])) _
    refine st155 _ ?_
    show Steps p.tables e below (T155.setTop (mkF m 158 #[.val (.int x0), .val (.long j1), .second, .val (.long j3), .second, .val (.int x5), .val (.int x6), .val (.long j7), .second, .val (.long j9), .second, .val (.long j11), .second, .val (.long j13), .second, .val (.long j15), .second, .val (.long j17), .second, .val (.ref o19), .val (.int x20), .val (.int x21), .val (.int x22), .unset, .unset] [(.int (f2_0 (0 : Int32) x20 x22 w0 x5)), (.int x20)])) _
    refine XS.iadd X155.here hx rfl (hb hby at_158) rfl ?_
    show Steps p.tables e below (T155.setTop (mkF m 159 #[.val (.int x0), .val (.long j1), .second, .val (.long j3), .second, .val (.int x5), .val (.int x6), .val (.long j7), .second, .val (.long j9), .second, .val (.long j11), .second, .val (.long j13), .second, .val (.long j15), .second, .val (.long j17), .second, .val (.ref o19), .val (.int x20), .val (.int x21), .val (.int x22), .unset, .unset] [(.int (x20 + (f2_0 (0 : Int32) x20 x22 w0 x5)))])) _
    refine XS.iconst X155.here hx rfl (hb hby at_159) ?_
    show Steps p.tables e below (T155.setTop (mkF m 160 #[.val (.int x0), .val (.long j1), .second, .val (.long j3), .second, .val (.int x5), .val (.int x6), .val (.long j7), .second, .val (.long j9), .second, .val (.long j11), .second, .val (.long j13), .second, .val (.long j15), .second, .val (.long j17), .second, .val (.ref o19), .val (.int x20), .val (.int x21), .val (.int x22), .unset, .unset] [(.int (1 : Int32)), (.int (x20 + (f2_0 (0 : Int32) x20 x22 w0 x5)))])) _
    refine XS.iload X155.here hx rfl (hb hby at_160) rfl ?_
    show Steps p.tables e below (T155.setTop (mkF m 162 #[.val (.int x0), .val (.long j1), .second, .val (.long j3), .second, .val (.int x5), .val (.int x6), .val (.long j7), .second, .val (.long j9), .second, .val (.long j11), .second, .val (.long j13), .second, .val (.long j15), .second, .val (.long j17), .second, .val (.ref o19), .val (.int x20), .val (.int x21), .val (.int x22), .unset, .unset] [(.int x20), (.int (1 : Int32)), (.int (x20 + (f2_0 (0 : Int32) x20 x22 w0 x5)))])) _
    refine XS.iload X155.here hx rfl (hb hby at_162) rfl ?_
    show Steps p.tables e below (T155.setTop (mkF m 164 #[.val (.int x0), .val (.long j1), .second, .val (.long j3), .second, .val (.int x5), .val (.int x6), .val (.long j7), .second, .val (.long j9), .second, .val (.long j11), .second, .val (.long j13), .second, .val (.long j15), .second, .val (.long j17), .second, .val (.ref o19), .val (.int x20), .val (.int x21), .val (.int x22), .unset, .unset] [(.int x22), (.int x20), (.int (1 : Int32)), (.int (x20 + (f2_0 (0 : Int32) x20 x22 w0 x5)))])) _
    refine XS.aload X155.here hx rfl (hb hby at_164) rfl rfl ?_
    show Steps p.tables e below (T155.setTop (mkF m 166 #[.val (.int x0), .val (.long j1), .second, .val (.long j3), .second, .val (.int x5), .val (.int x6), .val (.long j7), .second, .val (.long j9), .second, .val (.long j11), .second, .val (.long j13), .second, .val (.long j15), .second, .val (.long j17), .second, .val (.ref o19), .val (.int x20), .val (.int x21), .val (.int x22), .unset, .unset] [(.ref o19), (.int x22), (.int x20), (.int (1 : Int32)), (.int (x20 + (f2_0 (0 : Int32) x20 x22 w0 x5)))])) _
    refine XS.iconst X155.here hx rfl (hb hby at_166) ?_
    show Steps p.tables e below (T155.setTop (mkF m 167 #[.val (.int x0), .val (.long j1), .second, .val (.long j3), .second, .val (.int x5), .val (.int x6), .val (.long j7), .second, .val (.long j9), .second, .val (.long j11), .second, .val (.long j13), .second, .val (.long j15), .second, .val (.long j17), .second, .val (.ref o19), .val (.int x20), .val (.int x21), .val (.int x22), .unset, .unset] [(.int (1 : Int32)), (.ref o19), (.int x22), (.int x20), (.int (1 : Int32)), (.int (x20 + (f2_0 (0 : Int32) x20 x22 w0 x5)))])) _
    refine own_get X155 hx hZ e155 V0 (pc := 167) (Ls := #[.val (.int x0), .val (.long j1), .second, .val (.long j3), .second, .val (.int x5), .val (.int x6), .val (.long j7), .second, .val (.long j9), .second, .val (.long j11), .second, .val (.long j13), .second, .val (.long j15), .second, .val (.long j17), .second, .val (.ref o19), .val (.int x20), .val (.int x21), .val (.int x22), .unset, .unset]) (rest := [(.int x22), (.int x20), (.int (1 : Int32)), (.int (x20 + (f2_0 (0 : Int32) x20 x22 w0 x5)))]) (1 : Int32) 1 (by decide) (by decide) (by decide) (hb hby at_167) _ ?_
    show Steps p.tables e below (T155.setTop (mkF m 168 #[.val (.int x0), .val (.long j1), .second, .val (.long j3), .second, .val (.int x5), .val (.int x6), .val (.long j7), .second, .val (.long j9), .second, .val (.long j11), .second, .val (.long j13), .second, .val (.long j15), .second, .val (.long j17), .second, .val (.ref o19), .val (.int x20), .val (.int x21), .val (.int x22), .unset, .unset] [(.int w1), (.int x22), (.int x20), (.int (1 : Int32)), (.int (x20 + (f2_0 (0 : Int32) x20 x22 w0 x5)))])) _
    refine XS.iload X155.here hx rfl (hb hby at_168) rfl ?_
    show Steps p.tables e below (T155.setTop (mkF m 170 #[.val (.int x0), .val (.long j1), .second, .val (.long j3), .second, .val (.int x5), .val (.int x6), .val (.long j7), .second, .val (.long j9), .second, .val (.long j11), .second, .val (.long j13), .second, .val (.long j15), .second, .val (.long j17), .second, .val (.ref o19), .val (.int x20), .val (.int x21), .val (.int x22), .unset, .unset] [(.int x5), (.int w1), (.int x22), (.int x20), (.int (1 : Int32)), (.int (x20 + (f2_0 (0 : Int32) x20 x22 w0 x5)))])) _
    refine st170 _ ?_
    show Steps p.tables e below (T170.setTop (mkF m 173 #[.val (.int x0), .val (.long j1), .second, .val (.long j3), .second, .val (.int x5), .val (.int x6), .val (.long j7), .second, .val (.long j9), .second, .val (.long j11), .second, .val (.long j13), .second, .val (.long j15), .second, .val (.long j17), .second, .val (.ref o19), .val (.int x20), .val (.int x21), .val (.int x22), .unset, .unset] [(.int (f2_0 (1 : Int32) x20 x22 w1 x5)), (.int (x20 + (f2_0 (0 : Int32) x20 x22 w0 x5)))])) _
    refine XS.iadd X170.here hx rfl (hb hby at_173) rfl ?_
    show Steps p.tables e below (T170.setTop (mkF m 174 #[.val (.int x0), .val (.long j1), .second, .val (.long j3), .second, .val (.int x5), .val (.int x6), .val (.long j7), .second, .val (.long j9), .second, .val (.long j11), .second, .val (.long j13), .second, .val (.long j15), .second, .val (.long j17), .second, .val (.ref o19), .val (.int x20), .val (.int x21), .val (.int x22), .unset, .unset] [(.int ((x20 + (f2_0 (0 : Int32) x20 x22 w0 x5)) + (f2_0 (1 : Int32) x20 x22 w1 x5)))])) _
    refine XS.iconst X170.here hx rfl (hb hby at_174) ?_
    show Steps p.tables e below (T170.setTop (mkF m 175 #[.val (.int x0), .val (.long j1), .second, .val (.long j3), .second, .val (.int x5), .val (.int x6), .val (.long j7), .second, .val (.long j9), .second, .val (.long j11), .second, .val (.long j13), .second, .val (.long j15), .second, .val (.long j17), .second, .val (.ref o19), .val (.int x20), .val (.int x21), .val (.int x22), .unset, .unset] [(.int (2 : Int32)), (.int ((x20 + (f2_0 (0 : Int32) x20 x22 w0 x5)) + (f2_0 (1 : Int32) x20 x22 w1 x5)))])) _
    refine XS.iload X170.here hx rfl (hb hby at_175) rfl ?_
    show Steps p.tables e below (T170.setTop (mkF m 177 #[.val (.int x0), .val (.long j1), .second, .val (.long j3), .second, .val (.int x5), .val (.int x6), .val (.long j7), .second, .val (.long j9), .second, .val (.long j11), .second, .val (.long j13), .second, .val (.long j15), .second, .val (.long j17), .second, .val (.ref o19), .val (.int x20), .val (.int x21), .val (.int x22), .unset, .unset] [(.int x20), (.int (2 : Int32)), (.int ((x20 + (f2_0 (0 : Int32) x20 x22 w0 x5)) + (f2_0 (1 : Int32) x20 x22 w1 x5)))])) _
    refine XS.iload X170.here hx rfl (hb hby at_177) rfl ?_
    show Steps p.tables e below (T170.setTop (mkF m 179 #[.val (.int x0), .val (.long j1), .second, .val (.long j3), .second, .val (.int x5), .val (.int x6), .val (.long j7), .second, .val (.long j9), .second, .val (.long j11), .second, .val (.long j13), .second, .val (.long j15), .second, .val (.long j17), .second, .val (.ref o19), .val (.int x20), .val (.int x21), .val (.int x22), .unset, .unset] [(.int x22), (.int x20), (.int (2 : Int32)), (.int ((x20 + (f2_0 (0 : Int32) x20 x22 w0 x5)) + (f2_0 (1 : Int32) x20 x22 w1 x5)))])) _
    refine XS.aload X170.here hx rfl (hb hby at_179) rfl rfl ?_
    show Steps p.tables e below (T170.setTop (mkF m 181 #[.val (.int x0), .val (.long j1), .second, .val (.long j3), .second, .val (.int x5), .val (.int x6), .val (.long j7), .second, .val (.long j9), .second, .val (.long j11), .second, .val (.long j13), .second, .val (.long j15), .second, .val (.long j17), .second, .val (.ref o19), .val (.int x20), .val (.int x21), .val (.int x22), .unset, .unset] [(.ref o19), (.int x22), (.int x20), (.int (2 : Int32)), (.int ((x20 + (f2_0 (0 : Int32) x20 x22 w0 x5)) + (f2_0 (1 : Int32) x20 x22 w1 x5)))])) _
    refine XS.iconst X170.here hx rfl (hb hby at_181) ?_
    show Steps p.tables e below (T170.setTop (mkF m 182 #[.val (.int x0), .val (.long j1), .second, .val (.long j3), .second, .val (.int x5), .val (.int x6), .val (.long j7), .second, .val (.long j9), .second, .val (.long j11), .second, .val (.long j13), .second, .val (.long j15), .second, .val (.long j17), .second, .val (.ref o19), .val (.int x20), .val (.int x21), .val (.int x22), .unset, .unset] [(.int (2 : Int32)), (.ref o19), (.int x22), (.int x20), (.int (2 : Int32)), (.int ((x20 + (f2_0 (0 : Int32) x20 x22 w0 x5)) + (f2_0 (1 : Int32) x20 x22 w1 x5)))])) _
    refine own_get X170 hx hZ e170 V0 (pc := 182) (Ls := #[.val (.int x0), .val (.long j1), .second, .val (.long j3), .second, .val (.int x5), .val (.int x6), .val (.long j7), .second, .val (.long j9), .second, .val (.long j11), .second, .val (.long j13), .second, .val (.long j15), .second, .val (.long j17), .second, .val (.ref o19), .val (.int x20), .val (.int x21), .val (.int x22), .unset, .unset]) (rest := [(.int x22), (.int x20), (.int (2 : Int32)), (.int ((x20 + (f2_0 (0 : Int32) x20 x22 w0 x5)) + (f2_0 (1 : Int32) x20 x22 w1 x5)))]) (2 : Int32) 2 (by decide) (by decide) (by decide) (hb hby at_182) _ ?_
    show Steps p.tables e below (T170.setTop (mkF m 183 #[.val (.int x0), .val (.long j1), .second, .val (.long j3), .second, .val (.int x5), .val (.int x6), .val (.long j7), .second, .val (.long j9), .second, .val (.long j11), .second, .val (.long j13), .second, .val (.long j15), .second, .val (.long j17), .second, .val (.ref o19), .val (.int x20), .val (.int x21), .val (.int x22), .unset, .unset] [(.int w2), (.int x22), (.int x20), (.int (2 : Int32)), (.int ((x20 + (f2_0 (0 : Int32) x20 x22 w0 x5)) + (f2_0 (1 : Int32) x20 x22 w1 x5)))])) _
    refine XS.iload X170.here hx rfl (hb hby at_183) rfl ?_
    show Steps p.tables e below (T170.setTop (mkF m 185 #[.val (.int x0), .val (.long j1), .second, .val (.long j3), .second, .val (.int x5), .val (.int x6), .val (.long j7), .second, .val (.long j9), .second, .val (.long j11), .second, .val (.long j13), .second, .val (.long j15), .second, .val (.long j17), .second, .val (.ref o19), .val (.int x20), .val (.int x21), .val (.int x22), .unset, .unset] [(.int x5), (.int w2), (.int x22), (.int x20), (.int (2 : Int32)), (.int ((x20 + (f2_0 (0 : Int32) x20 x22 w0 x5)) + (f2_0 (1 : Int32) x20 x22 w1 x5)))])) _
    refine st185 _ ?_
    show Steps p.tables e below (T185.setTop (mkF m 188 #[.val (.int x0), .val (.long j1), .second, .val (.long j3), .second, .val (.int x5), .val (.int x6), .val (.long j7), .second, .val (.long j9), .second, .val (.long j11), .second, .val (.long j13), .second, .val (.long j15), .second, .val (.long j17), .second, .val (.ref o19), .val (.int x20), .val (.int x21), .val (.int x22), .unset, .unset] [(.int (f2_0 (2 : Int32) x20 x22 w2 x5)), (.int ((x20 + (f2_0 (0 : Int32) x20 x22 w0 x5)) + (f2_0 (1 : Int32) x20 x22 w1 x5)))])) _
    refine XS.iadd X185.here hx rfl (hb hby at_188) rfl ?_
    show Steps p.tables e below (T185.setTop (mkF m 189 #[.val (.int x0), .val (.long j1), .second, .val (.long j3), .second, .val (.int x5), .val (.int x6), .val (.long j7), .second, .val (.long j9), .second, .val (.long j11), .second, .val (.long j13), .second, .val (.long j15), .second, .val (.long j17), .second, .val (.ref o19), .val (.int x20), .val (.int x21), .val (.int x22), .unset, .unset] [(.int (((x20 + (f2_0 (0 : Int32) x20 x22 w0 x5)) + (f2_0 (1 : Int32) x20 x22 w1 x5)) + (f2_0 (2 : Int32) x20 x22 w2 x5)))])) _
    refine XS.iconst X185.here hx rfl (hb hby at_189) ?_
    show Steps p.tables e below (T185.setTop (mkF m 190 #[.val (.int x0), .val (.long j1), .second, .val (.long j3), .second, .val (.int x5), .val (.int x6), .val (.long j7), .second, .val (.long j9), .second, .val (.long j11), .second, .val (.long j13), .second, .val (.long j15), .second, .val (.long j17), .second, .val (.ref o19), .val (.int x20), .val (.int x21), .val (.int x22), .unset, .unset] [(.int (3 : Int32)), (.int (((x20 + (f2_0 (0 : Int32) x20 x22 w0 x5)) + (f2_0 (1 : Int32) x20 x22 w1 x5)) + (f2_0 (2 : Int32) x20 x22 w2 x5)))])) _
    refine XS.iload X185.here hx rfl (hb hby at_190) rfl ?_
    show Steps p.tables e below (T185.setTop (mkF m 192 #[.val (.int x0), .val (.long j1), .second, .val (.long j3), .second, .val (.int x5), .val (.int x6), .val (.long j7), .second, .val (.long j9), .second, .val (.long j11), .second, .val (.long j13), .second, .val (.long j15), .second, .val (.long j17), .second, .val (.ref o19), .val (.int x20), .val (.int x21), .val (.int x22), .unset, .unset] [(.int x20), (.int (3 : Int32)), (.int (((x20 + (f2_0 (0 : Int32) x20 x22 w0 x5)) + (f2_0 (1 : Int32) x20 x22 w1 x5)) + (f2_0 (2 : Int32) x20 x22 w2 x5)))])) _
    refine XS.iload X185.here hx rfl (hb hby at_192) rfl ?_
    show Steps p.tables e below (T185.setTop (mkF m 194 #[.val (.int x0), .val (.long j1), .second, .val (.long j3), .second, .val (.int x5), .val (.int x6), .val (.long j7), .second, .val (.long j9), .second, .val (.long j11), .second, .val (.long j13), .second, .val (.long j15), .second, .val (.long j17), .second, .val (.ref o19), .val (.int x20), .val (.int x21), .val (.int x22), .unset, .unset] [(.int x22), (.int x20), (.int (3 : Int32)), (.int (((x20 + (f2_0 (0 : Int32) x20 x22 w0 x5)) + (f2_0 (1 : Int32) x20 x22 w1 x5)) + (f2_0 (2 : Int32) x20 x22 w2 x5)))])) _
    refine XS.aload X185.here hx rfl (hb hby at_194) rfl rfl ?_
    show Steps p.tables e below (T185.setTop (mkF m 196 #[.val (.int x0), .val (.long j1), .second, .val (.long j3), .second, .val (.int x5), .val (.int x6), .val (.long j7), .second, .val (.long j9), .second, .val (.long j11), .second, .val (.long j13), .second, .val (.long j15), .second, .val (.long j17), .second, .val (.ref o19), .val (.int x20), .val (.int x21), .val (.int x22), .unset, .unset] [(.ref o19), (.int x22), (.int x20), (.int (3 : Int32)), (.int (((x20 + (f2_0 (0 : Int32) x20 x22 w0 x5)) + (f2_0 (1 : Int32) x20 x22 w1 x5)) + (f2_0 (2 : Int32) x20 x22 w2 x5)))])) _
    refine XS.iconst X185.here hx rfl (hb hby at_196) ?_
    show Steps p.tables e below (T185.setTop (mkF m 197 #[.val (.int x0), .val (.long j1), .second, .val (.long j3), .second, .val (.int x5), .val (.int x6), .val (.long j7), .second, .val (.long j9), .second, .val (.long j11), .second, .val (.long j13), .second, .val (.long j15), .second, .val (.long j17), .second, .val (.ref o19), .val (.int x20), .val (.int x21), .val (.int x22), .unset, .unset] [(.int (3 : Int32)), (.ref o19), (.int x22), (.int x20), (.int (3 : Int32)), (.int (((x20 + (f2_0 (0 : Int32) x20 x22 w0 x5)) + (f2_0 (1 : Int32) x20 x22 w1 x5)) + (f2_0 (2 : Int32) x20 x22 w2 x5)))])) _
    refine own_get X185 hx hZ e185 V0 (pc := 197) (Ls := #[.val (.int x0), .val (.long j1), .second, .val (.long j3), .second, .val (.int x5), .val (.int x6), .val (.long j7), .second, .val (.long j9), .second, .val (.long j11), .second, .val (.long j13), .second, .val (.long j15), .second, .val (.long j17), .second, .val (.ref o19), .val (.int x20), .val (.int x21), .val (.int x22), .unset, .unset]) (rest := [(.int x22), (.int x20), (.int (3 : Int32)), (.int (((x20 + (f2_0 (0 : Int32) x20 x22 w0 x5)) + (f2_0 (1 : Int32) x20 x22 w1 x5)) + (f2_0 (2 : Int32) x20 x22 w2 x5)))]) (3 : Int32) 3 (by decide) (by decide) (by decide) (hb hby at_197) _ ?_
    show Steps p.tables e below (T185.setTop (mkF m 198 #[.val (.int x0), .val (.long j1), .second, .val (.long j3), .second, .val (.int x5), .val (.int x6), .val (.long j7), .second, .val (.long j9), .second, .val (.long j11), .second, .val (.long j13), .second, .val (.long j15), .second, .val (.long j17), .second, .val (.ref o19), .val (.int x20), .val (.int x21), .val (.int x22), .unset, .unset] [(.int w3), (.int x22), (.int x20), (.int (3 : Int32)), (.int (((x20 + (f2_0 (0 : Int32) x20 x22 w0 x5)) + (f2_0 (1 : Int32) x20 x22 w1 x5)) + (f2_0 (2 : Int32) x20 x22 w2 x5)))])) _
    refine XS.iload X185.here hx rfl (hb hby at_198) rfl ?_
    show Steps p.tables e below (T185.setTop (mkF m 200 #[.val (.int x0), .val (.long j1), .second, .val (.long j3), .second, .val (.int x5), .val (.int x6), .val (.long j7), .second, .val (.long j9), .second, .val (.long j11), .second, .val (.long j13), .second, .val (.long j15), .second, .val (.long j17), .second, .val (.ref o19), .val (.int x20), .val (.int x21), .val (.int x22), .unset, .unset] [(.int x5), (.int w3), (.int x22), (.int x20), (.int (3 : Int32)), (.int (((x20 + (f2_0 (0 : Int32) x20 x22 w0 x5)) + (f2_0 (1 : Int32) x20 x22 w1 x5)) + (f2_0 (2 : Int32) x20 x22 w2 x5)))])) _
    refine st200 _ ?_
    show Steps p.tables e below (T200.setTop (mkF m 203 #[.val (.int x0), .val (.long j1), .second, .val (.long j3), .second, .val (.int x5), .val (.int x6), .val (.long j7), .second, .val (.long j9), .second, .val (.long j11), .second, .val (.long j13), .second, .val (.long j15), .second, .val (.long j17), .second, .val (.ref o19), .val (.int x20), .val (.int x21), .val (.int x22), .unset, .unset] [(.int (f2_0 (3 : Int32) x20 x22 w3 x5)), (.int (((x20 + (f2_0 (0 : Int32) x20 x22 w0 x5)) + (f2_0 (1 : Int32) x20 x22 w1 x5)) + (f2_0 (2 : Int32) x20 x22 w2 x5)))])) _
    refine XS.iadd X200.here hx rfl (hb hby at_203) rfl ?_
    show Steps p.tables e below (T200.setTop (mkF m 204 #[.val (.int x0), .val (.long j1), .second, .val (.long j3), .second, .val (.int x5), .val (.int x6), .val (.long j7), .second, .val (.long j9), .second, .val (.long j11), .second, .val (.long j13), .second, .val (.long j15), .second, .val (.long j17), .second, .val (.ref o19), .val (.int x20), .val (.int x21), .val (.int x22), .unset, .unset] [(.int ((((x20 + (f2_0 (0 : Int32) x20 x22 w0 x5)) + (f2_0 (1 : Int32) x20 x22 w1 x5)) + (f2_0 (2 : Int32) x20 x22 w2 x5)) + (f2_0 (3 : Int32) x20 x22 w3 x5)))])) _
    refine XS.iconst X200.here hx rfl (hb hby at_204) ?_
    show Steps p.tables e below (T200.setTop (mkF m 205 #[.val (.int x0), .val (.long j1), .second, .val (.long j3), .second, .val (.int x5), .val (.int x6), .val (.long j7), .second, .val (.long j9), .second, .val (.long j11), .second, .val (.long j13), .second, .val (.long j15), .second, .val (.long j17), .second, .val (.ref o19), .val (.int x20), .val (.int x21), .val (.int x22), .unset, .unset] [(.int (4 : Int32)), (.int ((((x20 + (f2_0 (0 : Int32) x20 x22 w0 x5)) + (f2_0 (1 : Int32) x20 x22 w1 x5)) + (f2_0 (2 : Int32) x20 x22 w2 x5)) + (f2_0 (3 : Int32) x20 x22 w3 x5)))])) _
    refine XS.iload X200.here hx rfl (hb hby at_205) rfl ?_
    show Steps p.tables e below (T200.setTop (mkF m 207 #[.val (.int x0), .val (.long j1), .second, .val (.long j3), .second, .val (.int x5), .val (.int x6), .val (.long j7), .second, .val (.long j9), .second, .val (.long j11), .second, .val (.long j13), .second, .val (.long j15), .second, .val (.long j17), .second, .val (.ref o19), .val (.int x20), .val (.int x21), .val (.int x22), .unset, .unset] [(.int x20), (.int (4 : Int32)), (.int ((((x20 + (f2_0 (0 : Int32) x20 x22 w0 x5)) + (f2_0 (1 : Int32) x20 x22 w1 x5)) + (f2_0 (2 : Int32) x20 x22 w2 x5)) + (f2_0 (3 : Int32) x20 x22 w3 x5)))])) _
    refine XS.iload X200.here hx rfl (hb hby at_207) rfl ?_
    show Steps p.tables e below (T200.setTop (mkF m 209 #[.val (.int x0), .val (.long j1), .second, .val (.long j3), .second, .val (.int x5), .val (.int x6), .val (.long j7), .second, .val (.long j9), .second, .val (.long j11), .second, .val (.long j13), .second, .val (.long j15), .second, .val (.long j17), .second, .val (.ref o19), .val (.int x20), .val (.int x21), .val (.int x22), .unset, .unset] [(.int x22), (.int x20), (.int (4 : Int32)), (.int ((((x20 + (f2_0 (0 : Int32) x20 x22 w0 x5)) + (f2_0 (1 : Int32) x20 x22 w1 x5)) + (f2_0 (2 : Int32) x20 x22 w2 x5)) + (f2_0 (3 : Int32) x20 x22 w3 x5)))])) _
    refine XS.aload X200.here hx rfl (hb hby at_209) rfl rfl ?_
    show Steps p.tables e below (T200.setTop (mkF m 211 #[.val (.int x0), .val (.long j1), .second, .val (.long j3), .second, .val (.int x5), .val (.int x6), .val (.long j7), .second, .val (.long j9), .second, .val (.long j11), .second, .val (.long j13), .second, .val (.long j15), .second, .val (.long j17), .second, .val (.ref o19), .val (.int x20), .val (.int x21), .val (.int x22), .unset, .unset] [(.ref o19), (.int x22), (.int x20), (.int (4 : Int32)), (.int ((((x20 + (f2_0 (0 : Int32) x20 x22 w0 x5)) + (f2_0 (1 : Int32) x20 x22 w1 x5)) + (f2_0 (2 : Int32) x20 x22 w2 x5)) + (f2_0 (3 : Int32) x20 x22 w3 x5)))])) _
    refine XS.iconst X200.here hx rfl (hb hby at_211) ?_
    show Steps p.tables e below (T200.setTop (mkF m 212 #[.val (.int x0), .val (.long j1), .second, .val (.long j3), .second, .val (.int x5), .val (.int x6), .val (.long j7), .second, .val (.long j9), .second, .val (.long j11), .second, .val (.long j13), .second, .val (.long j15), .second, .val (.long j17), .second, .val (.ref o19), .val (.int x20), .val (.int x21), .val (.int x22), .unset, .unset] [(.int (4 : Int32)), (.ref o19), (.int x22), (.int x20), (.int (4 : Int32)), (.int ((((x20 + (f2_0 (0 : Int32) x20 x22 w0 x5)) + (f2_0 (1 : Int32) x20 x22 w1 x5)) + (f2_0 (2 : Int32) x20 x22 w2 x5)) + (f2_0 (3 : Int32) x20 x22 w3 x5)))])) _
    refine own_get X200 hx hZ e200 V0 (pc := 212) (Ls := #[.val (.int x0), .val (.long j1), .second, .val (.long j3), .second, .val (.int x5), .val (.int x6), .val (.long j7), .second, .val (.long j9), .second, .val (.long j11), .second, .val (.long j13), .second, .val (.long j15), .second, .val (.long j17), .second, .val (.ref o19), .val (.int x20), .val (.int x21), .val (.int x22), .unset, .unset]) (rest := [(.int x22), (.int x20), (.int (4 : Int32)), (.int ((((x20 + (f2_0 (0 : Int32) x20 x22 w0 x5)) + (f2_0 (1 : Int32) x20 x22 w1 x5)) + (f2_0 (2 : Int32) x20 x22 w2 x5)) + (f2_0 (3 : Int32) x20 x22 w3 x5)))]) (4 : Int32) 4 (by decide) (by decide) (by decide) (hb hby at_212) _ ?_
    show Steps p.tables e below (T200.setTop (mkF m 213 #[.val (.int x0), .val (.long j1), .second, .val (.long j3), .second, .val (.int x5), .val (.int x6), .val (.long j7), .second, .val (.long j9), .second, .val (.long j11), .second, .val (.long j13), .second, .val (.long j15), .second, .val (.long j17), .second, .val (.ref o19), .val (.int x20), .val (.int x21), .val (.int x22), .unset, .unset] [(.int w4), (.int x22), (.int x20), (.int (4 : Int32)), (.int ((((x20 + (f2_0 (0 : Int32) x20 x22 w0 x5)) + (f2_0 (1 : Int32) x20 x22 w1 x5)) + (f2_0 (2 : Int32) x20 x22 w2 x5)) + (f2_0 (3 : Int32) x20 x22 w3 x5)))])) _
    refine XS.iload X200.here hx rfl (hb hby at_213) rfl ?_
    show Steps p.tables e below (T200.setTop (mkF m 215 #[.val (.int x0), .val (.long j1), .second, .val (.long j3), .second, .val (.int x5), .val (.int x6), .val (.long j7), .second, .val (.long j9), .second, .val (.long j11), .second, .val (.long j13), .second, .val (.long j15), .second, .val (.long j17), .second, .val (.ref o19), .val (.int x20), .val (.int x21), .val (.int x22), .unset, .unset] [(.int x5), (.int w4), (.int x22), (.int x20), (.int (4 : Int32)), (.int ((((x20 + (f2_0 (0 : Int32) x20 x22 w0 x5)) + (f2_0 (1 : Int32) x20 x22 w1 x5)) + (f2_0 (2 : Int32) x20 x22 w2 x5)) + (f2_0 (3 : Int32) x20 x22 w3 x5)))])) _
    refine st215 _ ?_
    show Steps p.tables e below (T215.setTop (mkF m 218 #[.val (.int x0), .val (.long j1), .second, .val (.long j3), .second, .val (.int x5), .val (.int x6), .val (.long j7), .second, .val (.long j9), .second, .val (.long j11), .second, .val (.long j13), .second, .val (.long j15), .second, .val (.long j17), .second, .val (.ref o19), .val (.int x20), .val (.int x21), .val (.int x22), .unset, .unset] [(.int (f2_0 (4 : Int32) x20 x22 w4 x5)), (.int ((((x20 + (f2_0 (0 : Int32) x20 x22 w0 x5)) + (f2_0 (1 : Int32) x20 x22 w1 x5)) + (f2_0 (2 : Int32) x20 x22 w2 x5)) + (f2_0 (3 : Int32) x20 x22 w3 x5)))])) _
    refine XS.iadd X215.here hx rfl (hb hby at_218) rfl ?_
    show Steps p.tables e below (T215.setTop (mkF m 219 #[.val (.int x0), .val (.long j1), .second, .val (.long j3), .second, .val (.int x5), .val (.int x6), .val (.long j7), .second, .val (.long j9), .second, .val (.long j11), .second, .val (.long j13), .second, .val (.long j15), .second, .val (.long j17), .second, .val (.ref o19), .val (.int x20), .val (.int x21), .val (.int x22), .unset, .unset] [(.int (((((x20 + (f2_0 (0 : Int32) x20 x22 w0 x5)) + (f2_0 (1 : Int32) x20 x22 w1 x5)) + (f2_0 (2 : Int32) x20 x22 w2 x5)) + (f2_0 (3 : Int32) x20 x22 w3 x5)) + (f2_0 (4 : Int32) x20 x22 w4 x5)))])) _
    refine XS.istore X215.here hx rfl (hb hby at_219) rfl (l' := #[.val (.int x0), .val (.long j1), .second, .val (.long j3), .second, .val (.int x5), .val (.int x6), .val (.long j7), .second, .val (.long j9), .second, .val (.long j11), .second, .val (.long j13), .second, .val (.long j15), .second, .val (.long j17), .second, .val (.ref o19), .val (.int x20), .val (.int x21), .val (.int x22), .val (.int (((((x20 + (f2_0 (0 : Int32) x20 x22 w0 x5)) + (f2_0 (1 : Int32) x20 x22 w1 x5)) + (f2_0 (2 : Int32) x20 x22 w2 x5)) + (f2_0 (3 : Int32) x20 x22 w3 x5)) + (f2_0 (4 : Int32) x20 x22 w4 x5))), .unset]) rfl ?_
    show Steps p.tables e below (T215.setTop (mkF m 221 #[.val (.int x0), .val (.long j1), .second, .val (.long j3), .second, .val (.int x5), .val (.int x6), .val (.long j7), .second, .val (.long j9), .second, .val (.long j11), .second, .val (.long j13), .second, .val (.long j15), .second, .val (.long j17), .second, .val (.ref o19), .val (.int x20), .val (.int x21), .val (.int x22), .val (.int (((((x20 + (f2_0 (0 : Int32) x20 x22 w0 x5)) + (f2_0 (1 : Int32) x20 x22 w1 x5)) + (f2_0 (2 : Int32) x20 x22 w2 x5)) + (f2_0 (3 : Int32) x20 x22 w3 x5)) + (f2_0 (4 : Int32) x20 x22 w4 x5))), .unset] [])) _
    refine XS.aload X215.here hx rfl (hb hby at_221) rfl rfl ?_
    show Steps p.tables e below (T215.setTop (mkF m 223 #[.val (.int x0), .val (.long j1), .second, .val (.long j3), .second, .val (.int x5), .val (.int x6), .val (.long j7), .second, .val (.long j9), .second, .val (.long j11), .second, .val (.long j13), .second, .val (.long j15), .second, .val (.long j17), .second, .val (.ref o19), .val (.int x20), .val (.int x21), .val (.int x22), .val (.int (((((x20 + (f2_0 (0 : Int32) x20 x22 w0 x5)) + (f2_0 (1 : Int32) x20 x22 w1 x5)) + (f2_0 (2 : Int32) x20 x22 w2 x5)) + (f2_0 (3 : Int32) x20 x22 w3 x5)) + (f2_0 (4 : Int32) x20 x22 w4 x5))), .unset] [(.ref o19)])) _
    refine XS.iload X215.here hx rfl (hb hby at_223) rfl ?_
    show Steps p.tables e below (T215.setTop (mkF m 225 #[.val (.int x0), .val (.long j1), .second, .val (.long j3), .second, .val (.int x5), .val (.int x6), .val (.long j7), .second, .val (.long j9), .second, .val (.long j11), .second, .val (.long j13), .second, .val (.long j15), .second, .val (.long j17), .second, .val (.ref o19), .val (.int x20), .val (.int x21), .val (.int x22), .val (.int (((((x20 + (f2_0 (0 : Int32) x20 x22 w0 x5)) + (f2_0 (1 : Int32) x20 x22 w1 x5)) + (f2_0 (2 : Int32) x20 x22 w2 x5)) + (f2_0 (3 : Int32) x20 x22 w3 x5)) + (f2_0 (4 : Int32) x20 x22 w4 x5))), .unset] [(.int x20), (.ref o19)])) _
    refine XS.iload X215.here hx rfl (hb hby at_225) rfl ?_
    show Steps p.tables e below (T215.setTop (mkF m 227 #[.val (.int x0), .val (.long j1), .second, .val (.long j3), .second, .val (.int x5), .val (.int x6), .val (.long j7), .second, .val (.long j9), .second, .val (.long j11), .second, .val (.long j13), .second, .val (.long j15), .second, .val (.long j17), .second, .val (.ref o19), .val (.int x20), .val (.int x21), .val (.int x22), .val (.int (((((x20 + (f2_0 (0 : Int32) x20 x22 w0 x5)) + (f2_0 (1 : Int32) x20 x22 w1 x5)) + (f2_0 (2 : Int32) x20 x22 w2 x5)) + (f2_0 (3 : Int32) x20 x22 w3 x5)) + (f2_0 (4 : Int32) x20 x22 w4 x5))), .unset] [(.int x22), (.int x20), (.ref o19)])) _
    refine XS.iload X215.here hx rfl (hb hby at_227) rfl ?_
    show Steps p.tables e below (T215.setTop (mkF m 229 #[.val (.int x0), .val (.long j1), .second, .val (.long j3), .second, .val (.int x5), .val (.int x6), .val (.long j7), .second, .val (.long j9), .second, .val (.long j11), .second, .val (.long j13), .second, .val (.long j15), .second, .val (.long j17), .second, .val (.ref o19), .val (.int x20), .val (.int x21), .val (.int x22), .val (.int (((((x20 + (f2_0 (0 : Int32) x20 x22 w0 x5)) + (f2_0 (1 : Int32) x20 x22 w1 x5)) + (f2_0 (2 : Int32) x20 x22 w2 x5)) + (f2_0 (3 : Int32) x20 x22 w3 x5)) + (f2_0 (4 : Int32) x20 x22 w4 x5))), .unset] [(.int x5), (.int x22), (.int x20), (.ref o19)])) _
    refine st229 _ ?_
    show Steps p.tables e below (T229.setTop (mkF m 232 #[.val (.int x0), .val (.long j1), .second, .val (.long j3), .second, .val (.int x5), .val (.int x6), .val (.long j7), .second, .val (.long j9), .second, .val (.long j11), .second, .val (.long j13), .second, .val (.long j15), .second, .val (.long j17), .second, .val (.ref o19), .val (.int x20), .val (.int x21), .val (.int x22), .val (.int (((((x20 + (f2_0 (0 : Int32) x20 x22 w0 x5)) + (f2_0 (1 : Int32) x20 x22 w1 x5)) + (f2_0 (2 : Int32) x20 x22 w2 x5)) + (f2_0 (3 : Int32) x20 x22 w3 x5)) + (f2_0 (4 : Int32) x20 x22 w4 x5))), .unset] [(.int (own_res w0 w1 w2 w3 w4 x20 x22 x5))])) _
    refine XS.istore X229.here hx rfl (hb hby at_232) rfl (l' := #[.val (.int x0), .val (.long j1), .second, .val (.long j3), .second, .val (.int x5), .val (.int x6), .val (.long j7), .second, .val (.long j9), .second, .val (.long j11), .second, .val (.long j13), .second, .val (.long j15), .second, .val (.long j17), .second, .val (.ref o19), .val (.int x20), .val (.int x21), .val (.int x22), .val (.int (((((x20 + (f2_0 (0 : Int32) x20 x22 w0 x5)) + (f2_0 (1 : Int32) x20 x22 w1 x5)) + (f2_0 (2 : Int32) x20 x22 w2 x5)) + (f2_0 (3 : Int32) x20 x22 w3 x5)) + (f2_0 (4 : Int32) x20 x22 w4 x5))), .val (.int (own_res w0 w1 w2 w3 w4 x20 x22 x5))]) rfl ?_
    show Steps p.tables e below (T229.setTop (mkF m 234 #[.val (.int x0), .val (.long j1), .second, .val (.long j3), .second, .val (.int x5), .val (.int x6), .val (.long j7), .second, .val (.long j9), .second, .val (.long j11), .second, .val (.long j13), .second, .val (.long j15), .second, .val (.long j17), .second, .val (.ref o19), .val (.int x20), .val (.int x21), .val (.int x22), .val (.int (((((x20 + (f2_0 (0 : Int32) x20 x22 w0 x5)) + (f2_0 (1 : Int32) x20 x22 w1 x5)) + (f2_0 (2 : Int32) x20 x22 w2 x5)) + (f2_0 (3 : Int32) x20 x22 w3 x5)) + (f2_0 (4 : Int32) x20 x22 w4 x5))), .val (.int (own_res w0 w1 w2 w3 w4 x20 x22 x5))] [])) _
    refine XS.iload X229.here hx rfl (hb hby at_234) rfl ?_
    show Steps p.tables e below (T229.setTop (mkF m 236 #[.val (.int x0), .val (.long j1), .second, .val (.long j3), .second, .val (.int x5), .val (.int x6), .val (.long j7), .second, .val (.long j9), .second, .val (.long j11), .second, .val (.long j13), .second, .val (.long j15), .second, .val (.long j17), .second, .val (.ref o19), .val (.int x20), .val (.int x21), .val (.int x22), .val (.int (((((x20 + (f2_0 (0 : Int32) x20 x22 w0 x5)) + (f2_0 (1 : Int32) x20 x22 w1 x5)) + (f2_0 (2 : Int32) x20 x22 w2 x5)) + (f2_0 (3 : Int32) x20 x22 w3 x5)) + (f2_0 (4 : Int32) x20 x22 w4 x5))), .val (.int (own_res w0 w1 w2 w3 w4 x20 x22 x5))] [(.int (own_res w0 w1 w2 w3 w4 x20 x22 x5))])) _
    refine XS.iload X229.here hx rfl (hb hby at_236) rfl ?_
    exact kt
  refine own_Goes.pre pre1 ?_
  by_cases hc : (own_res w0 w1 w2 w3 w4 x20 x22 x5) = (((((x20 + (f2_0 (0 : Int32) x20 x22 w0 x5)) + (f2_0 (1 : Int32) x20 x22 w1 x5)) + (f2_0 (2 : Int32) x20 x22 w2 x5)) + (f2_0 (3 : Int32) x20 x22 w3 x5)) + (f2_0 (4 : Int32) x20 x22 w4 x5))
  · rw [f0_142, if_pos hc] at hP
    refine own_Goes.pre (fun t kt => ?_) (b0_241 x0 j1 j3 x5 x6 j7 j9 j11 j13 j15 j17 o19 x20 x21 x22 (((((x20 + (f2_0 (0 : Int32) x20 x22 w0 x5)) + (f2_0 (1 : Int32) x20 x22 w1 x5)) + (f2_0 (2 : Int32) x20 x22 w2 x5)) + (f2_0 (3 : Int32) x20 x22 w3 x5)) + (f2_0 (4 : Int32) x20 x22 w4 x5)) (own_res w0 w1 w2 w3 w4 x20 x22 x5) w0 w1 w2 w3 w4 X229 hx hZ hw hby hml hown hret hlk e229 Z0 N229 V0 hs hr hP)
    show Steps p.tables e below (T229.setTop (mkF m 238 #[.val (.int x0), .val (.long j1), .second, .val (.long j3), .second, .val (.int x5), .val (.int x6), .val (.long j7), .second, .val (.long j9), .second, .val (.long j11), .second, .val (.long j13), .second, .val (.long j15), .second, .val (.long j17), .second, .val (.ref o19), .val (.int x20), .val (.int x21), .val (.int x22), .val (.int (((((x20 + (f2_0 (0 : Int32) x20 x22 w0 x5)) + (f2_0 (1 : Int32) x20 x22 w1 x5)) + (f2_0 (2 : Int32) x20 x22 w2 x5)) + (f2_0 (3 : Int32) x20 x22 w3 x5)) + (f2_0 (4 : Int32) x20 x22 w4 x5))), .val (.int (own_res w0 w1 w2 w3 w4 x20 x22 x5))] [(.int (((((x20 + (f2_0 (0 : Int32) x20 x22 w0 x5)) + (f2_0 (1 : Int32) x20 x22 w1 x5)) + (f2_0 (2 : Int32) x20 x22 w2 x5)) + (f2_0 (3 : Int32) x20 x22 w3 x5)) + (f2_0 (4 : Int32) x20 x22 w4 x5))), (.int (own_res w0 w1 w2 w3 w4 x20 x22 x5))])) _
    refine XS.icmpNo X229.here hx rfl (hb hby at_238) rfl (teq hc).2 ?_
    exact kt
  · rw [f0_142, if_neg hc] at hP
    refine own_Goes.pre (fun t kt => ?_) (b0_245 x0 j1 j3 x5 x6 j7 j9 j11 j13 j15 j17 o19 x20 x21 x22 (((((x20 + (f2_0 (0 : Int32) x20 x22 w0 x5)) + (f2_0 (1 : Int32) x20 x22 w1 x5)) + (f2_0 (2 : Int32) x20 x22 w2 x5)) + (f2_0 (3 : Int32) x20 x22 w3 x5)) + (f2_0 (4 : Int32) x20 x22 w4 x5)) (own_res w0 w1 w2 w3 w4 x20 x22 x5) w0 w1 w2 w3 w4 X229 hx hZ hw hby hml hown hret hlk e229 Z0 N229 V0 hs hr hP)
    show Steps p.tables e below (T229.setTop (mkF m 238 #[.val (.int x0), .val (.long j1), .second, .val (.long j3), .second, .val (.int x5), .val (.int x6), .val (.long j7), .second, .val (.long j9), .second, .val (.long j11), .second, .val (.long j13), .second, .val (.long j15), .second, .val (.long j17), .second, .val (.ref o19), .val (.int x20), .val (.int x21), .val (.int x22), .val (.int (((((x20 + (f2_0 (0 : Int32) x20 x22 w0 x5)) + (f2_0 (1 : Int32) x20 x22 w1 x5)) + (f2_0 (2 : Int32) x20 x22 w2 x5)) + (f2_0 (3 : Int32) x20 x22 w3 x5)) + (f2_0 (4 : Int32) x20 x22 w4 x5))), .val (.int (own_res w0 w1 w2 w3 w4 x20 x22 x5))] [(.int (((((x20 + (f2_0 (0 : Int32) x20 x22 w0 x5)) + (f2_0 (1 : Int32) x20 x22 w1 x5)) + (f2_0 (2 : Int32) x20 x22 w2 x5)) + (f2_0 (3 : Int32) x20 x22 w3 x5)) + (f2_0 (4 : Int32) x20 x22 w4 x5))), (.int (own_res w0 w1 w2 w3 w4 x20 x22 x5))])) _
    refine XS.icmpYes X229.here hx rfl (pc0 := 238) (pc' := 245) rfl (hb hby at_238) rfl (feq hc).2 (by decide) (by decide) ?_
    exact kt
def f0_107 (x0 : Int32) (j1 : Int64) (j3 : Int64) (x5 : Int32) (x6 : Int32) (j7 : Int64) (j9 : Int64) (j11 : Int64) (j13 : Int64) (j15 : Int64) (j17 : Int64) (w0 : Int32) (w1 : Int32) (w2 : Int32) (w3 : Int32) (w4 : Int32) : Int32 := (f0_142 x0 j1 j3 x5 x6 j7 j9 j11 j13 j15 j17 ((x6 &&& (255 : Int32)) % (6 : Int32)) ((((x6.toUInt32 >>> ((8 : Int32) &&& 31).toUInt32).toInt32) &&& (255 : Int32)) % ((6 : Int32) - ((x6 &&& (255 : Int32)) % (6 : Int32)))) (((x6 &&& (255 : Int32)) % (6 : Int32)) + ((((x6.toUInt32 >>> ((8 : Int32) &&& 31).toUInt32).toInt32) &&& (255 : Int32)) % ((6 : Int32) - ((x6 &&& (255 : Int32)) % (6 : Int32))))) w0 w1 w2 w3 w4)
set_option maxRecDepth 65536 in
set_option maxHeartbeats 40000000 in
theorem b0_107 {p : Program} {l : Launch} {e : Env} {s : State} {m : MethodId} {args : Array Value} {below : List Frame} {meth : Method} {c : Code} {T0 : State} {locs : List Loc} {Z : State} {a0 : Array Value} {h0 : Heap} {n0 : Nat} {P : Option Value → Heap → Prop} (x0 : Int32) (j1 : Int64) (j3 : Int64) (x5 : Int32) (x6 : Int32) (j7 : Int64) (j9 : Int64) (j11 : Int64) (j13 : Int64) (j15 : Int64) (j17 : Int64) (o19 : Addr) (w0 : Int32) (w1 : Int32) (w2 : Int32) (w3 : Int32) (w4 : Int32) (X0 : Stand p l e room_1 s m args below meth c T0 locs 1 5) (hx : p.tables.exec = Jvm.exec) (hZ : Z.Warmed39 s.vm) (hw : ∀ d ∈ tables_1, d.before a0 Z = true) (hby : c.code = code) (hml : c.maxLocals = 25) (hown : s.vm.findClass "com/example/shape_trees/shapetrees/xslt/ImportOrderFirstAtLeastPinLaw" = some m.cls) (hret : meth.sig.returnType = some .boolean) (hlk : meth.locks = false) (e0 : T0.heap = h0) (Z0 : n0 ≤ h0.size) (N0 : Fr n0 locs) (V0 : own_Arr Z h0 o19 5 (own_f w0 w1 w2 w3 w4)) (hs : own_sorted w0 w1 w2 w3 w4) (hP : ∀ h' : Heap, P (some (.int (f0_107 x0 j1 j3 x5 x6 j7 j9 j11 j13 j15 j17 w0 w1 w2 w3 w4))) h') :
    own_Goes p e below s n0 room_1.cells room_1.slots P (T0.setTop (mkF m 107 #[.val (.int x0), .val (.long j1), .second, .val (.long j3), .second, .val (.int x5), .val (.int x6), .val (.long j7), .second, .val (.long j9), .second, .val (.long j11), .second, .val (.long j13), .second, .val (.long j15), .second, .val (.long j17), .second, .val (.ref o19), .unset, .unset, .unset, .unset, .unset] [])) := by
  rw [f0_107] at hP
  obtain ⟨hnz132, hr⟩ := own_bounds x6
  refine own_Goes.pre (fun t kt => ?_) (b0_142 x0 j1 j3 x5 x6 j7 j9 j11 j13 j15 j17 o19 ((x6 &&& (255 : Int32)) % (6 : Int32)) ((((x6.toUInt32 >>> ((8 : Int32) &&& 31).toUInt32).toInt32) &&& (255 : Int32)) % ((6 : Int32) - ((x6 &&& (255 : Int32)) % (6 : Int32)))) (((x6 &&& (255 : Int32)) % (6 : Int32)) + ((((x6.toUInt32 >>> ((8 : Int32) &&& 31).toUInt32).toInt32) &&& (255 : Int32)) % ((6 : Int32) - ((x6 &&& (255 : Int32)) % (6 : Int32))))) w0 w1 w2 w3 w4 X0 hx hZ hw hby hml hown hret hlk e0 Z0 N0 V0 hs hr hP)
  show Steps p.tables e below (T0.setTop (mkF m 107 #[.val (.int x0), .val (.long j1), .second, .val (.long j3), .second, .val (.int x5), .val (.int x6), .val (.long j7), .second, .val (.long j9), .second, .val (.long j11), .second, .val (.long j13), .second, .val (.long j15), .second, .val (.long j17), .second, .val (.ref o19), .unset, .unset, .unset, .unset, .unset] [])) _
  refine XS.iload X0.here hx rfl (hb hby at_107) rfl ?_
  show Steps p.tables e below (T0.setTop (mkF m 109 #[.val (.int x0), .val (.long j1), .second, .val (.long j3), .second, .val (.int x5), .val (.int x6), .val (.long j7), .second, .val (.long j9), .second, .val (.long j11), .second, .val (.long j13), .second, .val (.long j15), .second, .val (.long j17), .second, .val (.ref o19), .unset, .unset, .unset, .unset, .unset] [(.int x6)])) _
  refine XS.sipush X0.here hx rfl (hb hby at_109) ?_
  show Steps p.tables e below (T0.setTop (mkF m 112 #[.val (.int x0), .val (.long j1), .second, .val (.long j3), .second, .val (.int x5), .val (.int x6), .val (.long j7), .second, .val (.long j9), .second, .val (.long j11), .second, .val (.long j13), .second, .val (.long j15), .second, .val (.long j17), .second, .val (.ref o19), .unset, .unset, .unset, .unset, .unset] [(.int (255 : Int32)), (.int x6)])) _
  refine XS.iand X0.here hx rfl (hb hby at_112) rfl ?_
  show Steps p.tables e below (T0.setTop (mkF m 113 #[.val (.int x0), .val (.long j1), .second, .val (.long j3), .second, .val (.int x5), .val (.int x6), .val (.long j7), .second, .val (.long j9), .second, .val (.long j11), .second, .val (.long j13), .second, .val (.long j15), .second, .val (.long j17), .second, .val (.ref o19), .unset, .unset, .unset, .unset, .unset] [(.int (x6 &&& (255 : Int32)))])) _
  refine XS.bipush X0.here hx rfl (hb hby at_113) ?_
  show Steps p.tables e below (T0.setTop (mkF m 115 #[.val (.int x0), .val (.long j1), .second, .val (.long j3), .second, .val (.int x5), .val (.int x6), .val (.long j7), .second, .val (.long j9), .second, .val (.long j11), .second, .val (.long j13), .second, .val (.long j15), .second, .val (.long j17), .second, .val (.ref o19), .unset, .unset, .unset, .unset, .unset] [(.int (6 : Int32)), (.int (x6 &&& (255 : Int32)))])) _
  refine iremM X0 hx rfl (hb hby at_115) rfl (by decide) ?_
  show Steps p.tables e below (T0.setTop (mkF m 116 #[.val (.int x0), .val (.long j1), .second, .val (.long j3), .second, .val (.int x5), .val (.int x6), .val (.long j7), .second, .val (.long j9), .second, .val (.long j11), .second, .val (.long j13), .second, .val (.long j15), .second, .val (.long j17), .second, .val (.ref o19), .unset, .unset, .unset, .unset, .unset] [(.int ((x6 &&& (255 : Int32)) % (6 : Int32)))])) _
  refine XS.istore X0.here hx rfl (hb hby at_116) rfl (l' := #[.val (.int x0), .val (.long j1), .second, .val (.long j3), .second, .val (.int x5), .val (.int x6), .val (.long j7), .second, .val (.long j9), .second, .val (.long j11), .second, .val (.long j13), .second, .val (.long j15), .second, .val (.long j17), .second, .val (.ref o19), .val (.int ((x6 &&& (255 : Int32)) % (6 : Int32))), .unset, .unset, .unset, .unset]) rfl ?_
  show Steps p.tables e below (T0.setTop (mkF m 118 #[.val (.int x0), .val (.long j1), .second, .val (.long j3), .second, .val (.int x5), .val (.int x6), .val (.long j7), .second, .val (.long j9), .second, .val (.long j11), .second, .val (.long j13), .second, .val (.long j15), .second, .val (.long j17), .second, .val (.ref o19), .val (.int ((x6 &&& (255 : Int32)) % (6 : Int32))), .unset, .unset, .unset, .unset] [])) _
  refine XS.iload X0.here hx rfl (hb hby at_118) rfl ?_
  show Steps p.tables e below (T0.setTop (mkF m 120 #[.val (.int x0), .val (.long j1), .second, .val (.long j3), .second, .val (.int x5), .val (.int x6), .val (.long j7), .second, .val (.long j9), .second, .val (.long j11), .second, .val (.long j13), .second, .val (.long j15), .second, .val (.long j17), .second, .val (.ref o19), .val (.int ((x6 &&& (255 : Int32)) % (6 : Int32))), .unset, .unset, .unset, .unset] [(.int x6)])) _
  refine XS.bipush X0.here hx rfl (hb hby at_120) ?_
  show Steps p.tables e below (T0.setTop (mkF m 122 #[.val (.int x0), .val (.long j1), .second, .val (.long j3), .second, .val (.int x5), .val (.int x6), .val (.long j7), .second, .val (.long j9), .second, .val (.long j11), .second, .val (.long j13), .second, .val (.long j15), .second, .val (.long j17), .second, .val (.ref o19), .val (.int ((x6 &&& (255 : Int32)) % (6 : Int32))), .unset, .unset, .unset, .unset] [(.int (8 : Int32)), (.int x6)])) _
  refine XS.iushr X0.here hx rfl (hb hby at_122) rfl ?_
  show Steps p.tables e below (T0.setTop (mkF m 123 #[.val (.int x0), .val (.long j1), .second, .val (.long j3), .second, .val (.int x5), .val (.int x6), .val (.long j7), .second, .val (.long j9), .second, .val (.long j11), .second, .val (.long j13), .second, .val (.long j15), .second, .val (.long j17), .second, .val (.ref o19), .val (.int ((x6 &&& (255 : Int32)) % (6 : Int32))), .unset, .unset, .unset, .unset] [(.int ((x6.toUInt32 >>> ((8 : Int32) &&& 31).toUInt32).toInt32))])) _
  refine XS.sipush X0.here hx rfl (hb hby at_123) ?_
  show Steps p.tables e below (T0.setTop (mkF m 126 #[.val (.int x0), .val (.long j1), .second, .val (.long j3), .second, .val (.int x5), .val (.int x6), .val (.long j7), .second, .val (.long j9), .second, .val (.long j11), .second, .val (.long j13), .second, .val (.long j15), .second, .val (.long j17), .second, .val (.ref o19), .val (.int ((x6 &&& (255 : Int32)) % (6 : Int32))), .unset, .unset, .unset, .unset] [(.int (255 : Int32)), (.int ((x6.toUInt32 >>> ((8 : Int32) &&& 31).toUInt32).toInt32))])) _
  refine XS.iand X0.here hx rfl (hb hby at_126) rfl ?_
  show Steps p.tables e below (T0.setTop (mkF m 127 #[.val (.int x0), .val (.long j1), .second, .val (.long j3), .second, .val (.int x5), .val (.int x6), .val (.long j7), .second, .val (.long j9), .second, .val (.long j11), .second, .val (.long j13), .second, .val (.long j15), .second, .val (.long j17), .second, .val (.ref o19), .val (.int ((x6 &&& (255 : Int32)) % (6 : Int32))), .unset, .unset, .unset, .unset] [(.int (((x6.toUInt32 >>> ((8 : Int32) &&& 31).toUInt32).toInt32) &&& (255 : Int32)))])) _
  refine XS.bipush X0.here hx rfl (hb hby at_127) ?_
  show Steps p.tables e below (T0.setTop (mkF m 129 #[.val (.int x0), .val (.long j1), .second, .val (.long j3), .second, .val (.int x5), .val (.int x6), .val (.long j7), .second, .val (.long j9), .second, .val (.long j11), .second, .val (.long j13), .second, .val (.long j15), .second, .val (.long j17), .second, .val (.ref o19), .val (.int ((x6 &&& (255 : Int32)) % (6 : Int32))), .unset, .unset, .unset, .unset] [(.int (6 : Int32)), (.int (((x6.toUInt32 >>> ((8 : Int32) &&& 31).toUInt32).toInt32) &&& (255 : Int32)))])) _
  refine XS.iload X0.here hx rfl (hb hby at_129) rfl ?_
  show Steps p.tables e below (T0.setTop (mkF m 131 #[.val (.int x0), .val (.long j1), .second, .val (.long j3), .second, .val (.int x5), .val (.int x6), .val (.long j7), .second, .val (.long j9), .second, .val (.long j11), .second, .val (.long j13), .second, .val (.long j15), .second, .val (.long j17), .second, .val (.ref o19), .val (.int ((x6 &&& (255 : Int32)) % (6 : Int32))), .unset, .unset, .unset, .unset] [(.int ((x6 &&& (255 : Int32)) % (6 : Int32))), (.int (6 : Int32)), (.int (((x6.toUInt32 >>> ((8 : Int32) &&& 31).toUInt32).toInt32) &&& (255 : Int32)))])) _
  refine XS.isub X0.here hx rfl (hb hby at_131) rfl ?_
  show Steps p.tables e below (T0.setTop (mkF m 132 #[.val (.int x0), .val (.long j1), .second, .val (.long j3), .second, .val (.int x5), .val (.int x6), .val (.long j7), .second, .val (.long j9), .second, .val (.long j11), .second, .val (.long j13), .second, .val (.long j15), .second, .val (.long j17), .second, .val (.ref o19), .val (.int ((x6 &&& (255 : Int32)) % (6 : Int32))), .unset, .unset, .unset, .unset] [(.int ((6 : Int32) - ((x6 &&& (255 : Int32)) % (6 : Int32)))), (.int (((x6.toUInt32 >>> ((8 : Int32) &&& 31).toUInt32).toInt32) &&& (255 : Int32)))])) _
  refine iremM X0 hx rfl (hb hby at_132) rfl hnz132 ?_
  show Steps p.tables e below (T0.setTop (mkF m 133 #[.val (.int x0), .val (.long j1), .second, .val (.long j3), .second, .val (.int x5), .val (.int x6), .val (.long j7), .second, .val (.long j9), .second, .val (.long j11), .second, .val (.long j13), .second, .val (.long j15), .second, .val (.long j17), .second, .val (.ref o19), .val (.int ((x6 &&& (255 : Int32)) % (6 : Int32))), .unset, .unset, .unset, .unset] [(.int ((((x6.toUInt32 >>> ((8 : Int32) &&& 31).toUInt32).toInt32) &&& (255 : Int32)) % ((6 : Int32) - ((x6 &&& (255 : Int32)) % (6 : Int32)))))])) _
  refine XS.istore X0.here hx rfl (hb hby at_133) rfl (l' := #[.val (.int x0), .val (.long j1), .second, .val (.long j3), .second, .val (.int x5), .val (.int x6), .val (.long j7), .second, .val (.long j9), .second, .val (.long j11), .second, .val (.long j13), .second, .val (.long j15), .second, .val (.long j17), .second, .val (.ref o19), .val (.int ((x6 &&& (255 : Int32)) % (6 : Int32))), .val (.int ((((x6.toUInt32 >>> ((8 : Int32) &&& 31).toUInt32).toInt32) &&& (255 : Int32)) % ((6 : Int32) - ((x6 &&& (255 : Int32)) % (6 : Int32))))), .unset, .unset, .unset]) rfl ?_
  show Steps p.tables e below (T0.setTop (mkF m 135 #[.val (.int x0), .val (.long j1), .second, .val (.long j3), .second, .val (.int x5), .val (.int x6), .val (.long j7), .second, .val (.long j9), .second, .val (.long j11), .second, .val (.long j13), .second, .val (.long j15), .second, .val (.long j17), .second, .val (.ref o19), .val (.int ((x6 &&& (255 : Int32)) % (6 : Int32))), .val (.int ((((x6.toUInt32 >>> ((8 : Int32) &&& 31).toUInt32).toInt32) &&& (255 : Int32)) % ((6 : Int32) - ((x6 &&& (255 : Int32)) % (6 : Int32))))), .unset, .unset, .unset] [])) _
  refine XS.iload X0.here hx rfl (hb hby at_135) rfl ?_
  show Steps p.tables e below (T0.setTop (mkF m 137 #[.val (.int x0), .val (.long j1), .second, .val (.long j3), .second, .val (.int x5), .val (.int x6), .val (.long j7), .second, .val (.long j9), .second, .val (.long j11), .second, .val (.long j13), .second, .val (.long j15), .second, .val (.long j17), .second, .val (.ref o19), .val (.int ((x6 &&& (255 : Int32)) % (6 : Int32))), .val (.int ((((x6.toUInt32 >>> ((8 : Int32) &&& 31).toUInt32).toInt32) &&& (255 : Int32)) % ((6 : Int32) - ((x6 &&& (255 : Int32)) % (6 : Int32))))), .unset, .unset, .unset] [(.int ((x6 &&& (255 : Int32)) % (6 : Int32)))])) _
  refine XS.iload X0.here hx rfl (hb hby at_137) rfl ?_
  show Steps p.tables e below (T0.setTop (mkF m 139 #[.val (.int x0), .val (.long j1), .second, .val (.long j3), .second, .val (.int x5), .val (.int x6), .val (.long j7), .second, .val (.long j9), .second, .val (.long j11), .second, .val (.long j13), .second, .val (.long j15), .second, .val (.long j17), .second, .val (.ref o19), .val (.int ((x6 &&& (255 : Int32)) % (6 : Int32))), .val (.int ((((x6.toUInt32 >>> ((8 : Int32) &&& 31).toUInt32).toInt32) &&& (255 : Int32)) % ((6 : Int32) - ((x6 &&& (255 : Int32)) % (6 : Int32))))), .unset, .unset, .unset] [(.int ((((x6.toUInt32 >>> ((8 : Int32) &&& 31).toUInt32).toInt32) &&& (255 : Int32)) % ((6 : Int32) - ((x6 &&& (255 : Int32)) % (6 : Int32))))), (.int ((x6 &&& (255 : Int32)) % (6 : Int32)))])) _
  refine XS.iadd X0.here hx rfl (hb hby at_139) rfl ?_
  show Steps p.tables e below (T0.setTop (mkF m 140 #[.val (.int x0), .val (.long j1), .second, .val (.long j3), .second, .val (.int x5), .val (.int x6), .val (.long j7), .second, .val (.long j9), .second, .val (.long j11), .second, .val (.long j13), .second, .val (.long j15), .second, .val (.long j17), .second, .val (.ref o19), .val (.int ((x6 &&& (255 : Int32)) % (6 : Int32))), .val (.int ((((x6.toUInt32 >>> ((8 : Int32) &&& 31).toUInt32).toInt32) &&& (255 : Int32)) % ((6 : Int32) - ((x6 &&& (255 : Int32)) % (6 : Int32))))), .unset, .unset, .unset] [(.int (((x6 &&& (255 : Int32)) % (6 : Int32)) + ((((x6.toUInt32 >>> ((8 : Int32) &&& 31).toUInt32).toInt32) &&& (255 : Int32)) % ((6 : Int32) - ((x6 &&& (255 : Int32)) % (6 : Int32))))))])) _
  refine XS.istore X0.here hx rfl (hb hby at_140) rfl (l' := #[.val (.int x0), .val (.long j1), .second, .val (.long j3), .second, .val (.int x5), .val (.int x6), .val (.long j7), .second, .val (.long j9), .second, .val (.long j11), .second, .val (.long j13), .second, .val (.long j15), .second, .val (.long j17), .second, .val (.ref o19), .val (.int ((x6 &&& (255 : Int32)) % (6 : Int32))), .val (.int ((((x6.toUInt32 >>> ((8 : Int32) &&& 31).toUInt32).toInt32) &&& (255 : Int32)) % ((6 : Int32) - ((x6 &&& (255 : Int32)) % (6 : Int32))))), .val (.int (((x6 &&& (255 : Int32)) % (6 : Int32)) + ((((x6.toUInt32 >>> ((8 : Int32) &&& 31).toUInt32).toInt32) &&& (255 : Int32)) % ((6 : Int32) - ((x6 &&& (255 : Int32)) % (6 : Int32)))))), .unset, .unset]) rfl ?_
  exact kt
def f0_67 (x0 : Int32) (j1 : Int64) (j3 : Int64) (x5 : Int32) (x6 : Int32) (j7 : Int64) (j9 : Int64) (j11 : Int64) (j13 : Int64) (j15 : Int64) (j17 : Int64) : Int32 := f0_107 x0 j1 j3 x5 x6 j7 j9 j11 j13 j15 j17 (j9.toInt32) (j11.toInt32) (j13.toInt32) (j15.toInt32) (j17.toInt32)
set_option maxRecDepth 65536 in
set_option maxHeartbeats 40000000 in
theorem b0_67 {p : Program} {l : Launch} {e : Env} {s : State} {m : MethodId} {args : Array Value} {below : List Frame} {meth : Method} {c : Code} {T0 : State} {locs : List Loc} {Z : State} {a0 : Array Value} {h0 : Heap} {n0 : Nat} {P : Option Value → Heap → Prop} (x0 : Int32) (j1 : Int64) (j3 : Int64) (x5 : Int32) (x6 : Int32) (j7 : Int64) (j9 : Int64) (j11 : Int64) (j13 : Int64) (j15 : Int64) (j17 : Int64) (X0 : Stand p l e room_1 s m args below meth c T0 locs 0 0) (hx : p.tables.exec = Jvm.exec) (hZ : Z.Warmed39 s.vm) (hw : ∀ d ∈ tables_1, d.before a0 Z = true) (hby : c.code = code) (hml : c.maxLocals = 25) (hown : s.vm.findClass "com/example/shape_trees/shapetrees/xslt/ImportOrderFirstAtLeastPinLaw" = some m.cls) (hret : meth.sig.returnType = some .boolean) (hlk : meth.locks = false) (e0 : T0.heap = h0) (Z0 : n0 ≤ h0.size) (N0 : Fr n0 locs) (hs : own_sorted (j9.toInt32) (j11.toInt32) (j13.toInt32) (j15.toInt32) (j17.toInt32)) (hP : ∀ h' : Heap, P (some (.int (f0_67 x0 j1 j3 x5 x6 j7 j9 j11 j13 j15 j17))) h') :
    own_Goes p e below s n0 room_1.cells room_1.slots P (T0.setTop (mkF m 67 #[.val (.int x0), .val (.long j1), .second, .val (.long j3), .second, .val (.int x5), .val (.int x6), .val (.long j7), .second, .val (.long j9), .second, .val (.long j11), .second, .val (.long j13), .second, .val (.long j15), .second, .val (.long j17), .second, .unset, .unset, .unset, .unset, .unset, .unset] [])) := by
  rw [f0_67] at hP
  obtain ⟨T1, h1, k1, X1, e1, E1, A1, st1⟩ := newP X0 hx hZ (hw _ (List.mem_of_getElem? (i := 6) rfl)) e0 (g := (mkF m 68 #[.val (.int x0), .val (.long j1), .second, .val (.long j3), .second, .val (.int x5), .val (.int x6), .val (.long j7), .second, .val (.long j9), .second, .val (.long j11), .second, .val (.long j13), .second, .val (.long j15), .second, .val (.long j17), .second, .unset, .unset, .unset, .unset, .unset, .unset] [(.int (5 : Int32))])) rfl (hb hby at_68) rfl (by decide) (cap := 5) (by decide) (by decide) (by decide) (by decide)
  obtain ⟨o19, go⟩ : ∃ z, z = h0.size := ⟨_, rfl⟩
  rw [← go] at A1 st1
  have g0 : n0 ≤ o19 := by rw [go]; exact Z0
  have V1 := own_Arr.new A1 (n := 5) (by decide)
  have Z1 : n0 ≤ h1.size := Nat.le_trans Z0 E1.1
  obtain ⟨T2, h2, L2, X2, e2, Z2, N2, V2, st2⟩ := own_put X1 hx hZ e1 V1 g0 N0 Z1 (pc := 78) (Ls := #[.val (.int x0), .val (.long j1), .second, .val (.long j3), .second, .val (.int x5), .val (.int x6), .val (.long j7), .second, .val (.long j9), .second, .val (.long j11), .second, .val (.long j13), .second, .val (.long j15), .second, .val (.long j17), .second, .val (.ref o19), .unset, .unset, .unset, .unset, .unset]) (rest := []) (0 : Int32) (j9.toInt32) 0 (by decide) (by decide) (by decide) (hb hby at_78)
  obtain ⟨T3, h3, L3, X3, e3, Z3, N3, V3, st3⟩ := own_put X2 hx hZ e2 V2 g0 N2 Z2 (pc := 85) (Ls := #[.val (.int x0), .val (.long j1), .second, .val (.long j3), .second, .val (.int x5), .val (.int x6), .val (.long j7), .second, .val (.long j9), .second, .val (.long j11), .second, .val (.long j13), .second, .val (.long j15), .second, .val (.long j17), .second, .val (.ref o19), .unset, .unset, .unset, .unset, .unset]) (rest := []) (1 : Int32) (j11.toInt32) 1 (by decide) (by decide) (by decide) (hb hby at_85)
  obtain ⟨T4, h4, L4, X4, e4, Z4, N4, V4, st4⟩ := own_put X3 hx hZ e3 V3 g0 N3 Z3 (pc := 92) (Ls := #[.val (.int x0), .val (.long j1), .second, .val (.long j3), .second, .val (.int x5), .val (.int x6), .val (.long j7), .second, .val (.long j9), .second, .val (.long j11), .second, .val (.long j13), .second, .val (.long j15), .second, .val (.long j17), .second, .val (.ref o19), .unset, .unset, .unset, .unset, .unset]) (rest := []) (2 : Int32) (j13.toInt32) 2 (by decide) (by decide) (by decide) (hb hby at_92)
  obtain ⟨T5, h5, L5, X5, e5, Z5, N5, V5, st5⟩ := own_put X4 hx hZ e4 V4 g0 N4 Z4 (pc := 99) (Ls := #[.val (.int x0), .val (.long j1), .second, .val (.long j3), .second, .val (.int x5), .val (.int x6), .val (.long j7), .second, .val (.long j9), .second, .val (.long j11), .second, .val (.long j13), .second, .val (.long j15), .second, .val (.long j17), .second, .val (.ref o19), .unset, .unset, .unset, .unset, .unset]) (rest := []) (3 : Int32) (j15.toInt32) 3 (by decide) (by decide) (by decide) (hb hby at_99)
  obtain ⟨T6, h6, L6, X6, e6, Z6, N6, V6, st6⟩ := own_put X5 hx hZ e5 V5 g0 N5 Z5 (pc := 106) (Ls := #[.val (.int x0), .val (.long j1), .second, .val (.long j3), .second, .val (.int x5), .val (.int x6), .val (.long j7), .second, .val (.long j9), .second, .val (.long j11), .second, .val (.long j13), .second, .val (.long j15), .second, .val (.long j17), .second, .val (.ref o19), .unset, .unset, .unset, .unset, .unset]) (rest := []) (4 : Int32) (j17.toInt32) 4 (by decide) (by decide) (by decide) (hb hby at_106)
  have V7 : own_Arr Z h6 o19 5 (own_f (j9.toInt32) (j11.toInt32) (j13.toInt32) (j15.toInt32) (j17.toInt32)) := own_five V6
  refine own_Goes.pre (fun t kt => ?_) (b0_107 x0 j1 j3 x5 x6 j7 j9 j11 j13 j15 j17 o19 (j9.toInt32) (j11.toInt32) (j13.toInt32) (j15.toInt32) (j17.toInt32) X6 hx hZ hw hby hml hown hret hlk e6 Z6 N6 V7 hs hP)
  show Steps p.tables e below (T0.setTop (mkF m 67 #[.val (.int x0), .val (.long j1), .second, .val (.long j3), .second, .val (.int x5), .val (.int x6), .val (.long j7), .second, .val (.long j9), .second, .val (.long j11), .second, .val (.long j13), .second, .val (.long j15), .second, .val (.long j17), .second, .unset, .unset, .unset, .unset, .unset, .unset] [])) _
  refine XS.iconst X0.here hx rfl (hb hby at_67) ?_
  show Steps p.tables e below (T0.setTop (mkF m 68 #[.val (.int x0), .val (.long j1), .second, .val (.long j3), .second, .val (.int x5), .val (.int x6), .val (.long j7), .second, .val (.long j9), .second, .val (.long j11), .second, .val (.long j13), .second, .val (.long j15), .second, .val (.long j17), .second, .unset, .unset, .unset, .unset, .unset, .unset] [(.int (5 : Int32))])) _
  refine st1 _ ?_
  show Steps p.tables e below (T1.setTop (mkF m 70 #[.val (.int x0), .val (.long j1), .second, .val (.long j3), .second, .val (.int x5), .val (.int x6), .val (.long j7), .second, .val (.long j9), .second, .val (.long j11), .second, .val (.long j13), .second, .val (.long j15), .second, .val (.long j17), .second, .unset, .unset, .unset, .unset, .unset, .unset] [(.ref o19)])) _
  refine XS.astore X1.here hx rfl (hb hby at_70) rfl rfl (l' := #[.val (.int x0), .val (.long j1), .second, .val (.long j3), .second, .val (.int x5), .val (.int x6), .val (.long j7), .second, .val (.long j9), .second, .val (.long j11), .second, .val (.long j13), .second, .val (.long j15), .second, .val (.long j17), .second, .val (.ref o19), .unset, .unset, .unset, .unset, .unset]) rfl ?_
  show Steps p.tables e below (T1.setTop (mkF m 72 #[.val (.int x0), .val (.long j1), .second, .val (.long j3), .second, .val (.int x5), .val (.int x6), .val (.long j7), .second, .val (.long j9), .second, .val (.long j11), .second, .val (.long j13), .second, .val (.long j15), .second, .val (.long j17), .second, .val (.ref o19), .unset, .unset, .unset, .unset, .unset] [])) _
  refine XS.aload X1.here hx rfl (hb hby at_72) rfl rfl ?_
  show Steps p.tables e below (T1.setTop (mkF m 74 #[.val (.int x0), .val (.long j1), .second, .val (.long j3), .second, .val (.int x5), .val (.int x6), .val (.long j7), .second, .val (.long j9), .second, .val (.long j11), .second, .val (.long j13), .second, .val (.long j15), .second, .val (.long j17), .second, .val (.ref o19), .unset, .unset, .unset, .unset, .unset] [(.ref o19)])) _
  refine XS.iconst X1.here hx rfl (hb hby at_74) ?_
  show Steps p.tables e below (T1.setTop (mkF m 75 #[.val (.int x0), .val (.long j1), .second, .val (.long j3), .second, .val (.int x5), .val (.int x6), .val (.long j7), .second, .val (.long j9), .second, .val (.long j11), .second, .val (.long j13), .second, .val (.long j15), .second, .val (.long j17), .second, .val (.ref o19), .unset, .unset, .unset, .unset, .unset] [(.int (0 : Int32)), (.ref o19)])) _
  refine XS.lload X1.here hx rfl (hb hby at_75) rfl ?_
  show Steps p.tables e below (T1.setTop (mkF m 77 #[.val (.int x0), .val (.long j1), .second, .val (.long j3), .second, .val (.int x5), .val (.int x6), .val (.long j7), .second, .val (.long j9), .second, .val (.long j11), .second, .val (.long j13), .second, .val (.long j15), .second, .val (.long j17), .second, .val (.ref o19), .unset, .unset, .unset, .unset, .unset] [(.long j9), (.int (0 : Int32)), (.ref o19)])) _
  refine XS.l2i X1.here hx rfl (hb hby at_77) rfl ?_
  show Steps p.tables e below (T1.setTop (mkF m 78 #[.val (.int x0), .val (.long j1), .second, .val (.long j3), .second, .val (.int x5), .val (.int x6), .val (.long j7), .second, .val (.long j9), .second, .val (.long j11), .second, .val (.long j13), .second, .val (.long j15), .second, .val (.long j17), .second, .val (.ref o19), .unset, .unset, .unset, .unset, .unset] [(.int (j9.toInt32)), (.int (0 : Int32)), (.ref o19)])) _
  refine st2 _ ?_
  show Steps p.tables e below (T2.setTop (mkF m 79 #[.val (.int x0), .val (.long j1), .second, .val (.long j3), .second, .val (.int x5), .val (.int x6), .val (.long j7), .second, .val (.long j9), .second, .val (.long j11), .second, .val (.long j13), .second, .val (.long j15), .second, .val (.long j17), .second, .val (.ref o19), .unset, .unset, .unset, .unset, .unset] [])) _
  refine XS.aload X2.here hx rfl (hb hby at_79) rfl rfl ?_
  show Steps p.tables e below (T2.setTop (mkF m 81 #[.val (.int x0), .val (.long j1), .second, .val (.long j3), .second, .val (.int x5), .val (.int x6), .val (.long j7), .second, .val (.long j9), .second, .val (.long j11), .second, .val (.long j13), .second, .val (.long j15), .second, .val (.long j17), .second, .val (.ref o19), .unset, .unset, .unset, .unset, .unset] [(.ref o19)])) _
  refine XS.iconst X2.here hx rfl (hb hby at_81) ?_
  show Steps p.tables e below (T2.setTop (mkF m 82 #[.val (.int x0), .val (.long j1), .second, .val (.long j3), .second, .val (.int x5), .val (.int x6), .val (.long j7), .second, .val (.long j9), .second, .val (.long j11), .second, .val (.long j13), .second, .val (.long j15), .second, .val (.long j17), .second, .val (.ref o19), .unset, .unset, .unset, .unset, .unset] [(.int (1 : Int32)), (.ref o19)])) _
  refine XS.lload X2.here hx rfl (hb hby at_82) rfl ?_
  show Steps p.tables e below (T2.setTop (mkF m 84 #[.val (.int x0), .val (.long j1), .second, .val (.long j3), .second, .val (.int x5), .val (.int x6), .val (.long j7), .second, .val (.long j9), .second, .val (.long j11), .second, .val (.long j13), .second, .val (.long j15), .second, .val (.long j17), .second, .val (.ref o19), .unset, .unset, .unset, .unset, .unset] [(.long j11), (.int (1 : Int32)), (.ref o19)])) _
  refine XS.l2i X2.here hx rfl (hb hby at_84) rfl ?_
  show Steps p.tables e below (T2.setTop (mkF m 85 #[.val (.int x0), .val (.long j1), .second, .val (.long j3), .second, .val (.int x5), .val (.int x6), .val (.long j7), .second, .val (.long j9), .second, .val (.long j11), .second, .val (.long j13), .second, .val (.long j15), .second, .val (.long j17), .second, .val (.ref o19), .unset, .unset, .unset, .unset, .unset] [(.int (j11.toInt32)), (.int (1 : Int32)), (.ref o19)])) _
  refine st3 _ ?_
  show Steps p.tables e below (T3.setTop (mkF m 86 #[.val (.int x0), .val (.long j1), .second, .val (.long j3), .second, .val (.int x5), .val (.int x6), .val (.long j7), .second, .val (.long j9), .second, .val (.long j11), .second, .val (.long j13), .second, .val (.long j15), .second, .val (.long j17), .second, .val (.ref o19), .unset, .unset, .unset, .unset, .unset] [])) _
  refine XS.aload X3.here hx rfl (hb hby at_86) rfl rfl ?_
  show Steps p.tables e below (T3.setTop (mkF m 88 #[.val (.int x0), .val (.long j1), .second, .val (.long j3), .second, .val (.int x5), .val (.int x6), .val (.long j7), .second, .val (.long j9), .second, .val (.long j11), .second, .val (.long j13), .second, .val (.long j15), .second, .val (.long j17), .second, .val (.ref o19), .unset, .unset, .unset, .unset, .unset] [(.ref o19)])) _
  refine XS.iconst X3.here hx rfl (hb hby at_88) ?_
  show Steps p.tables e below (T3.setTop (mkF m 89 #[.val (.int x0), .val (.long j1), .second, .val (.long j3), .second, .val (.int x5), .val (.int x6), .val (.long j7), .second, .val (.long j9), .second, .val (.long j11), .second, .val (.long j13), .second, .val (.long j15), .second, .val (.long j17), .second, .val (.ref o19), .unset, .unset, .unset, .unset, .unset] [(.int (2 : Int32)), (.ref o19)])) _
  refine XS.lload X3.here hx rfl (hb hby at_89) rfl ?_
  show Steps p.tables e below (T3.setTop (mkF m 91 #[.val (.int x0), .val (.long j1), .second, .val (.long j3), .second, .val (.int x5), .val (.int x6), .val (.long j7), .second, .val (.long j9), .second, .val (.long j11), .second, .val (.long j13), .second, .val (.long j15), .second, .val (.long j17), .second, .val (.ref o19), .unset, .unset, .unset, .unset, .unset] [(.long j13), (.int (2 : Int32)), (.ref o19)])) _
  refine XS.l2i X3.here hx rfl (hb hby at_91) rfl ?_
  show Steps p.tables e below (T3.setTop (mkF m 92 #[.val (.int x0), .val (.long j1), .second, .val (.long j3), .second, .val (.int x5), .val (.int x6), .val (.long j7), .second, .val (.long j9), .second, .val (.long j11), .second, .val (.long j13), .second, .val (.long j15), .second, .val (.long j17), .second, .val (.ref o19), .unset, .unset, .unset, .unset, .unset] [(.int (j13.toInt32)), (.int (2 : Int32)), (.ref o19)])) _
  refine st4 _ ?_
  show Steps p.tables e below (T4.setTop (mkF m 93 #[.val (.int x0), .val (.long j1), .second, .val (.long j3), .second, .val (.int x5), .val (.int x6), .val (.long j7), .second, .val (.long j9), .second, .val (.long j11), .second, .val (.long j13), .second, .val (.long j15), .second, .val (.long j17), .second, .val (.ref o19), .unset, .unset, .unset, .unset, .unset] [])) _
  refine XS.aload X4.here hx rfl (hb hby at_93) rfl rfl ?_
  show Steps p.tables e below (T4.setTop (mkF m 95 #[.val (.int x0), .val (.long j1), .second, .val (.long j3), .second, .val (.int x5), .val (.int x6), .val (.long j7), .second, .val (.long j9), .second, .val (.long j11), .second, .val (.long j13), .second, .val (.long j15), .second, .val (.long j17), .second, .val (.ref o19), .unset, .unset, .unset, .unset, .unset] [(.ref o19)])) _
  refine XS.iconst X4.here hx rfl (hb hby at_95) ?_
  show Steps p.tables e below (T4.setTop (mkF m 96 #[.val (.int x0), .val (.long j1), .second, .val (.long j3), .second, .val (.int x5), .val (.int x6), .val (.long j7), .second, .val (.long j9), .second, .val (.long j11), .second, .val (.long j13), .second, .val (.long j15), .second, .val (.long j17), .second, .val (.ref o19), .unset, .unset, .unset, .unset, .unset] [(.int (3 : Int32)), (.ref o19)])) _
  refine XS.lload X4.here hx rfl (hb hby at_96) rfl ?_
  show Steps p.tables e below (T4.setTop (mkF m 98 #[.val (.int x0), .val (.long j1), .second, .val (.long j3), .second, .val (.int x5), .val (.int x6), .val (.long j7), .second, .val (.long j9), .second, .val (.long j11), .second, .val (.long j13), .second, .val (.long j15), .second, .val (.long j17), .second, .val (.ref o19), .unset, .unset, .unset, .unset, .unset] [(.long j15), (.int (3 : Int32)), (.ref o19)])) _
  refine XS.l2i X4.here hx rfl (hb hby at_98) rfl ?_
  show Steps p.tables e below (T4.setTop (mkF m 99 #[.val (.int x0), .val (.long j1), .second, .val (.long j3), .second, .val (.int x5), .val (.int x6), .val (.long j7), .second, .val (.long j9), .second, .val (.long j11), .second, .val (.long j13), .second, .val (.long j15), .second, .val (.long j17), .second, .val (.ref o19), .unset, .unset, .unset, .unset, .unset] [(.int (j15.toInt32)), (.int (3 : Int32)), (.ref o19)])) _
  refine st5 _ ?_
  show Steps p.tables e below (T5.setTop (mkF m 100 #[.val (.int x0), .val (.long j1), .second, .val (.long j3), .second, .val (.int x5), .val (.int x6), .val (.long j7), .second, .val (.long j9), .second, .val (.long j11), .second, .val (.long j13), .second, .val (.long j15), .second, .val (.long j17), .second, .val (.ref o19), .unset, .unset, .unset, .unset, .unset] [])) _
  refine XS.aload X5.here hx rfl (hb hby at_100) rfl rfl ?_
  show Steps p.tables e below (T5.setTop (mkF m 102 #[.val (.int x0), .val (.long j1), .second, .val (.long j3), .second, .val (.int x5), .val (.int x6), .val (.long j7), .second, .val (.long j9), .second, .val (.long j11), .second, .val (.long j13), .second, .val (.long j15), .second, .val (.long j17), .second, .val (.ref o19), .unset, .unset, .unset, .unset, .unset] [(.ref o19)])) _
  refine XS.iconst X5.here hx rfl (hb hby at_102) ?_
  show Steps p.tables e below (T5.setTop (mkF m 103 #[.val (.int x0), .val (.long j1), .second, .val (.long j3), .second, .val (.int x5), .val (.int x6), .val (.long j7), .second, .val (.long j9), .second, .val (.long j11), .second, .val (.long j13), .second, .val (.long j15), .second, .val (.long j17), .second, .val (.ref o19), .unset, .unset, .unset, .unset, .unset] [(.int (4 : Int32)), (.ref o19)])) _
  refine XS.lload X5.here hx rfl (hb hby at_103) rfl ?_
  show Steps p.tables e below (T5.setTop (mkF m 105 #[.val (.int x0), .val (.long j1), .second, .val (.long j3), .second, .val (.int x5), .val (.int x6), .val (.long j7), .second, .val (.long j9), .second, .val (.long j11), .second, .val (.long j13), .second, .val (.long j15), .second, .val (.long j17), .second, .val (.ref o19), .unset, .unset, .unset, .unset, .unset] [(.long j17), (.int (4 : Int32)), (.ref o19)])) _
  refine XS.l2i X5.here hx rfl (hb hby at_105) rfl ?_
  show Steps p.tables e below (T5.setTop (mkF m 106 #[.val (.int x0), .val (.long j1), .second, .val (.long j3), .second, .val (.int x5), .val (.int x6), .val (.long j7), .second, .val (.long j9), .second, .val (.long j11), .second, .val (.long j13), .second, .val (.long j15), .second, .val (.long j17), .second, .val (.ref o19), .unset, .unset, .unset, .unset, .unset] [(.int (j17.toInt32)), (.int (4 : Int32)), (.ref o19)])) _
  refine st6 _ ?_
  exact kt
theorem pd2 : parseMethodDescriptor "(JJ)J" = some ⟨[.long, .long], some .long⟩ := by decide +kernel
theorem ef0 (m : MethodId) (x0 : Int32) (j1 : Int64) (j3 : Int64) (x5 : Int32) (x6 : Int32) : entryFrame m #[(.int x0), (.long j1), (.long j3), (.int x5), (.int x6)] maxLocals = (mkF m 0 #[.val (.int x0), .val (.long j1), .second, .val (.long j3), .second, .val (.int x5), .val (.int x6), .unset, .unset, .unset, .unset, .unset, .unset, .unset, .unset, .unset, .unset, .unset, .unset, .unset, .unset, .unset, .unset, .unset, .unset] []) := by first | (simp [entryFrame, mkF, argsToLocals, Value.category, maxLocals]; done) | rfl
def own_F  (x0 : Int32) (j1 : Int64) (j3 : Int64) (x5 : Int32) (x6 : Int32) : Int32 := (f0_67 x0 j1 j3 x5 x6 (2147483647 : Int64) (x0.toInt64) (f1_0 ((x0.toInt64) + (j1 &&& (4294967295 : Int64))) (2147483647 : Int64)) (f1_0 ((f1_0 ((x0.toInt64) + (j1 &&& (4294967295 : Int64))) (2147483647 : Int64)) + ((j1.toUInt64 >>> ((32 : Int32) &&& 0x3f).toInt64.toUInt64).toInt64)) (2147483647 : Int64)) (f1_0 ((f1_0 ((f1_0 ((x0.toInt64) + (j1 &&& (4294967295 : Int64))) (2147483647 : Int64)) + ((j1.toUInt64 >>> ((32 : Int32) &&& 0x3f).toInt64.toUInt64).toInt64)) (2147483647 : Int64)) + (j3 &&& (4294967295 : Int64))) (2147483647 : Int64)) (f1_0 ((f1_0 ((f1_0 ((f1_0 ((x0.toInt64) + (j1 &&& (4294967295 : Int64))) (2147483647 : Int64)) + ((j1.toUInt64 >>> ((32 : Int32) &&& 0x3f).toInt64.toUInt64).toInt64)) (2147483647 : Int64)) + (j3 &&& (4294967295 : Int64))) (2147483647 : Int64)) + ((j3.toUInt64 >>> ((32 : Int32) &&& 0x3f).toInt64.toUInt64).toInt64)) (2147483647 : Int64)))
set_option maxRecDepth 65536 in
set_option maxHeartbeats 40000000 in
theorem rm0 (l : Launch) (Z : State) (a0 : Array Value) (hw : ∀ d ∈ tables_1, d.before a0 Z = true) (ws : List Jvm.Cond) (x0 : Int32) (j1 : Int64) (j3 : Int64) (x5 : Int32) (x6 : Int32) (h0 : Heap) (n0 : Nat) (Z0 : n0 ≤ h0.size) (hone : own_F x0 j1 j3 x5 x6 = 1) (hs : own_sorted ((x0.toInt64).toInt32) ((f1_0 ((x0.toInt64) + (j1 &&& (4294967295 : Int64))) (2147483647 : Int64)).toInt32) ((f1_0 ((f1_0 ((x0.toInt64) + (j1 &&& (4294967295 : Int64))) (2147483647 : Int64)) + ((j1.toUInt64 >>> ((32 : Int32) &&& 0x3f).toInt64.toUInt64).toInt64)) (2147483647 : Int64)).toInt32) ((f1_0 ((f1_0 ((f1_0 ((x0.toInt64) + (j1 &&& (4294967295 : Int64))) (2147483647 : Int64)) + ((j1.toUInt64 >>> ((32 : Int32) &&& 0x3f).toInt64.toUInt64).toInt64)) (2147483647 : Int64)) + (j3 &&& (4294967295 : Int64))) (2147483647 : Int64)).toInt32) ((f1_0 ((f1_0 ((f1_0 ((f1_0 ((x0.toInt64) + (j1 &&& (4294967295 : Int64))) (2147483647 : Int64)) + ((j1.toUInt64 >>> ((32 : Int32) &&& 0x3f).toInt64.toUInt64).toInt64)) (2147483647 : Int64)) + (j3 &&& (4294967295 : Int64))) (2147483647 : Int64)) + ((j3.toUInt64 >>> ((32 : Int32) &&& 0x3f).toInt64.toUInt64).toInt64)) (2147483647 : Int64)).toInt32)) :
    MetFree l x (head1 (Jvm.Cond.code x code maxLocals ret :: ws) room_1) (fun a U => a = #[(.int x0), (.long j1), (.long j3), (.int x5), (.int x6)] ∧ Z.Warmed39 U.vm ∧ U.heap = h0) (fun _ _ _ _ _ => True) (fun _ U o U' => ∃ v L, o = .returned v ∧ own_Q own_one n0 v U'.heap L ∧ FrameEnd U o U' L room_1.cells room_1.slots) := by
  refine MetFree.of_bodySF (plainFor_of_name pn0) hisR ?_
  intro p e s m args below meth c s₁ Bd hml0 hP hK
  obtain ⟨rfl, hZ, hh⟩ := hP
  have hx := Bd.exec
  have hby := Bd.bytes
  have hml : c.maxLocals = 25 := hml0
  have hown : s.vm.findClass "com/example/shape_trees/shapetrees/xslt/ImportOrderFirstAtLeastPinLaw" = some m.cls := findClass_of_methodNamed Bd.named
  have X0 : Stand p l e room_1 s m #[(.int x0), (.long j1), (.long j3), (.int x5), (.int x6)] below meth c s₁ [] 0 0 := Stand.of_body Bd
  have e0 : s₁.heap = h0 := by rw [← hh, Bd.state]; rfl
  have N0 := Fr.nil n0
  obtain ⟨_, _, ⟨T19, L19, k19, n19⟩, -, X19, ⟨Lc19, hQ19, l19, y19, z19⟩, st19⟩ := Jvm.LawKit.callS X0 hx (y := (⟨"java/lang/Math", "min", "(JJ)J"⟩ : MethodName)) hown (mvT hZ (hw _ (List.mem_of_getElem? (i := 2) rfl))) (mvT hZ (hw _ (List.mem_of_getElem? (i := 3) rfl))) (mvT hZ (hw _ (List.mem_of_getElem? (i := 4) rfl))) (mvT hZ (hw _ (List.mem_of_getElem? (i := 5) rfl))) (by decide) (backOf (W := 0) (rm1 l Z a0 hw [] ((x0.toInt64) + (j1 &&& (4294967295 : Int64))) (2147483647 : Int64) h0 n0 Z0) hZ (hw _ (List.mem_of_getElem? (i := 5) rfl)) (hw _ (List.mem_of_getElem? (i := 4) rfl)) (by decide) (by decide)) (g := (mkF m 19 #[.val (.int x0), .val (.long j1), .second, .val (.long j3), .second, .val (.int x5), .val (.int x6), .val (.long (2147483647 : Int64)), .second, .val (.long (x0.toInt64)), .second, .unset, .unset, .unset, .unset, .unset, .unset, .unset, .unset, .unset, .unset, .unset, .unset, .unset, .unset] [(.long (2147483647 : Int64)), (.long ((x0.toInt64) + (j1 &&& (4294967295 : Int64))))])) rfl (by rw [hml]; rfl) (argsL := [(.long ((x0.toInt64) + (j1 &&& (4294967295 : Int64)))), (.long (2147483647 : Int64))]) (rest := []) (lenOf pd2 rfl) rfl (by show 2 * 0 + _ ≤ _; exact Nat.le_of_eq rfl) (hb hby at_19) (fun _ _ => ⟨rfl, e0, (by decide : 0 + 0 ≤ _), (by decide : 0 + 0 ≤ _)⟩)
  dsimp only [Pt.U, Pt.locs, Pt.cells, Pt.slots] at X19 l19 y19 z19 st19 hQ19
  subst l19 y19 z19
  obtain ⟨⟨rfl, e19⟩, N19q⟩ := hQ19
  have N19 := Fr.app N0 N19q
  obtain ⟨_, _, ⟨T33, L33, k33, n33⟩, -, X33, ⟨Lc33, hQ33, l33, y33, z33⟩, st33⟩ := Jvm.LawKit.callS X19 hx (y := (⟨"java/lang/Math", "min", "(JJ)J"⟩ : MethodName)) hown (mvT hZ (hw _ (List.mem_of_getElem? (i := 2) rfl))) (mvT hZ (hw _ (List.mem_of_getElem? (i := 3) rfl))) (mvT hZ (hw _ (List.mem_of_getElem? (i := 4) rfl))) (mvT hZ (hw _ (List.mem_of_getElem? (i := 5) rfl))) (by decide) (backOf (W := 0) (rm1 l Z a0 hw [] ((f1_0 ((x0.toInt64) + (j1 &&& (4294967295 : Int64))) (2147483647 : Int64)) + ((j1.toUInt64 >>> ((32 : Int32) &&& 0x3f).toInt64.toUInt64).toInt64)) (2147483647 : Int64) h0 n0 Z0) hZ (hw _ (List.mem_of_getElem? (i := 5) rfl)) (hw _ (List.mem_of_getElem? (i := 4) rfl)) (by decide) (by decide)) (g := (mkF m 33 #[.val (.int x0), .val (.long j1), .second, .val (.long j3), .second, .val (.int x5), .val (.int x6), .val (.long (2147483647 : Int64)), .second, .val (.long (x0.toInt64)), .second, .val (.long (f1_0 ((x0.toInt64) + (j1 &&& (4294967295 : Int64))) (2147483647 : Int64))), .second, .unset, .unset, .unset, .unset, .unset, .unset, .unset, .unset, .unset, .unset, .unset, .unset] [(.long (2147483647 : Int64)), (.long ((f1_0 ((x0.toInt64) + (j1 &&& (4294967295 : Int64))) (2147483647 : Int64)) + ((j1.toUInt64 >>> ((32 : Int32) &&& 0x3f).toInt64.toUInt64).toInt64)))])) rfl (by rw [hml]; rfl) (argsL := [(.long ((f1_0 ((x0.toInt64) + (j1 &&& (4294967295 : Int64))) (2147483647 : Int64)) + ((j1.toUInt64 >>> ((32 : Int32) &&& 0x3f).toInt64.toUInt64).toInt64))), (.long (2147483647 : Int64))]) (rest := []) (lenOf pd2 rfl) rfl (by show 2 * 0 + _ ≤ _; exact Nat.le_of_eq rfl) (hb hby at_33) (fun _ _ => ⟨rfl, e19, (by decide : 0 + 0 ≤ _), (by decide : 0 + 0 ≤ _)⟩)
  dsimp only [Pt.U, Pt.locs, Pt.cells, Pt.slots] at X33 l33 y33 z33 st33 hQ33
  subst l33 y33 z33
  obtain ⟨⟨rfl, e33⟩, N33q⟩ := hQ33
  have N33 := Fr.app N19 N33q
  obtain ⟨_, _, ⟨T48, L48, k48, n48⟩, -, X48, ⟨Lc48, hQ48, l48, y48, z48⟩, st48⟩ := Jvm.LawKit.callS X33 hx (y := (⟨"java/lang/Math", "min", "(JJ)J"⟩ : MethodName)) hown (mvT hZ (hw _ (List.mem_of_getElem? (i := 2) rfl))) (mvT hZ (hw _ (List.mem_of_getElem? (i := 3) rfl))) (mvT hZ (hw _ (List.mem_of_getElem? (i := 4) rfl))) (mvT hZ (hw _ (List.mem_of_getElem? (i := 5) rfl))) (by decide) (backOf (W := 0) (rm1 l Z a0 hw [] ((f1_0 ((f1_0 ((x0.toInt64) + (j1 &&& (4294967295 : Int64))) (2147483647 : Int64)) + ((j1.toUInt64 >>> ((32 : Int32) &&& 0x3f).toInt64.toUInt64).toInt64)) (2147483647 : Int64)) + (j3 &&& (4294967295 : Int64))) (2147483647 : Int64) h0 n0 Z0) hZ (hw _ (List.mem_of_getElem? (i := 5) rfl)) (hw _ (List.mem_of_getElem? (i := 4) rfl)) (by decide) (by decide)) (g := (mkF m 48 #[.val (.int x0), .val (.long j1), .second, .val (.long j3), .second, .val (.int x5), .val (.int x6), .val (.long (2147483647 : Int64)), .second, .val (.long (x0.toInt64)), .second, .val (.long (f1_0 ((x0.toInt64) + (j1 &&& (4294967295 : Int64))) (2147483647 : Int64))), .second, .val (.long (f1_0 ((f1_0 ((x0.toInt64) + (j1 &&& (4294967295 : Int64))) (2147483647 : Int64)) + ((j1.toUInt64 >>> ((32 : Int32) &&& 0x3f).toInt64.toUInt64).toInt64)) (2147483647 : Int64))), .second, .unset, .unset, .unset, .unset, .unset, .unset, .unset, .unset, .unset, .unset] [(.long (2147483647 : Int64)), (.long ((f1_0 ((f1_0 ((x0.toInt64) + (j1 &&& (4294967295 : Int64))) (2147483647 : Int64)) + ((j1.toUInt64 >>> ((32 : Int32) &&& 0x3f).toInt64.toUInt64).toInt64)) (2147483647 : Int64)) + (j3 &&& (4294967295 : Int64))))])) rfl (by rw [hml]; rfl) (argsL := [(.long ((f1_0 ((f1_0 ((x0.toInt64) + (j1 &&& (4294967295 : Int64))) (2147483647 : Int64)) + ((j1.toUInt64 >>> ((32 : Int32) &&& 0x3f).toInt64.toUInt64).toInt64)) (2147483647 : Int64)) + (j3 &&& (4294967295 : Int64)))), (.long (2147483647 : Int64))]) (rest := []) (lenOf pd2 rfl) rfl (by show 2 * 0 + _ ≤ _; exact Nat.le_of_eq rfl) (hb hby at_48) (fun _ _ => ⟨rfl, e33, (by decide : 0 + 0 ≤ _), (by decide : 0 + 0 ≤ _)⟩)
  dsimp only [Pt.U, Pt.locs, Pt.cells, Pt.slots] at X48 l48 y48 z48 st48 hQ48
  subst l48 y48 z48
  obtain ⟨⟨rfl, e48⟩, N48q⟩ := hQ48
  have N48 := Fr.app N33 N48q
  obtain ⟨_, _, ⟨T62, L62, k62, n62⟩, -, X62, ⟨Lc62, hQ62, l62, y62, z62⟩, st62⟩ := Jvm.LawKit.callS X48 hx (y := (⟨"java/lang/Math", "min", "(JJ)J"⟩ : MethodName)) hown (mvT hZ (hw _ (List.mem_of_getElem? (i := 2) rfl))) (mvT hZ (hw _ (List.mem_of_getElem? (i := 3) rfl))) (mvT hZ (hw _ (List.mem_of_getElem? (i := 4) rfl))) (mvT hZ (hw _ (List.mem_of_getElem? (i := 5) rfl))) (by decide) (backOf (W := 0) (rm1 l Z a0 hw [] ((f1_0 ((f1_0 ((f1_0 ((x0.toInt64) + (j1 &&& (4294967295 : Int64))) (2147483647 : Int64)) + ((j1.toUInt64 >>> ((32 : Int32) &&& 0x3f).toInt64.toUInt64).toInt64)) (2147483647 : Int64)) + (j3 &&& (4294967295 : Int64))) (2147483647 : Int64)) + ((j3.toUInt64 >>> ((32 : Int32) &&& 0x3f).toInt64.toUInt64).toInt64)) (2147483647 : Int64) h0 n0 Z0) hZ (hw _ (List.mem_of_getElem? (i := 5) rfl)) (hw _ (List.mem_of_getElem? (i := 4) rfl)) (by decide) (by decide)) (g := (mkF m 62 #[.val (.int x0), .val (.long j1), .second, .val (.long j3), .second, .val (.int x5), .val (.int x6), .val (.long (2147483647 : Int64)), .second, .val (.long (x0.toInt64)), .second, .val (.long (f1_0 ((x0.toInt64) + (j1 &&& (4294967295 : Int64))) (2147483647 : Int64))), .second, .val (.long (f1_0 ((f1_0 ((x0.toInt64) + (j1 &&& (4294967295 : Int64))) (2147483647 : Int64)) + ((j1.toUInt64 >>> ((32 : Int32) &&& 0x3f).toInt64.toUInt64).toInt64)) (2147483647 : Int64))), .second, .val (.long (f1_0 ((f1_0 ((f1_0 ((x0.toInt64) + (j1 &&& (4294967295 : Int64))) (2147483647 : Int64)) + ((j1.toUInt64 >>> ((32 : Int32) &&& 0x3f).toInt64.toUInt64).toInt64)) (2147483647 : Int64)) + (j3 &&& (4294967295 : Int64))) (2147483647 : Int64))), .second, .unset, .unset, .unset, .unset, .unset, .unset, .unset, .unset] [(.long (2147483647 : Int64)), (.long ((f1_0 ((f1_0 ((f1_0 ((x0.toInt64) + (j1 &&& (4294967295 : Int64))) (2147483647 : Int64)) + ((j1.toUInt64 >>> ((32 : Int32) &&& 0x3f).toInt64.toUInt64).toInt64)) (2147483647 : Int64)) + (j3 &&& (4294967295 : Int64))) (2147483647 : Int64)) + ((j3.toUInt64 >>> ((32 : Int32) &&& 0x3f).toInt64.toUInt64).toInt64)))])) rfl (by rw [hml]; rfl) (argsL := [(.long ((f1_0 ((f1_0 ((f1_0 ((x0.toInt64) + (j1 &&& (4294967295 : Int64))) (2147483647 : Int64)) + ((j1.toUInt64 >>> ((32 : Int32) &&& 0x3f).toInt64.toUInt64).toInt64)) (2147483647 : Int64)) + (j3 &&& (4294967295 : Int64))) (2147483647 : Int64)) + ((j3.toUInt64 >>> ((32 : Int32) &&& 0x3f).toInt64.toUInt64).toInt64))), (.long (2147483647 : Int64))]) (rest := []) (lenOf pd2 rfl) rfl (by show 2 * 0 + _ ≤ _; exact Nat.le_of_eq rfl) (hb hby at_62) (fun _ _ => ⟨rfl, e48, (by decide : 0 + 0 ≤ _), (by decide : 0 + 0 ≤ _)⟩)
  dsimp only [Pt.U, Pt.locs, Pt.cells, Pt.slots] at X62 l62 y62 z62 st62 hQ62
  subst l62 y62 z62
  obtain ⟨⟨rfl, e62⟩, N62q⟩ := hQ62
  have N62 := Fr.app N48 N62q
  refine own_Goes.pre (S' := T62.setTop (mkF m 67 #[.val (.int x0), .val (.long j1), .second, .val (.long j3), .second, .val (.int x5), .val (.int x6), .val (.long (2147483647 : Int64)), .second, .val (.long (x0.toInt64)), .second, .val (.long (f1_0 ((x0.toInt64) + (j1 &&& (4294967295 : Int64))) (2147483647 : Int64))), .second, .val (.long (f1_0 ((f1_0 ((x0.toInt64) + (j1 &&& (4294967295 : Int64))) (2147483647 : Int64)) + ((j1.toUInt64 >>> ((32 : Int32) &&& 0x3f).toInt64.toUInt64).toInt64)) (2147483647 : Int64))), .second, .val (.long (f1_0 ((f1_0 ((f1_0 ((x0.toInt64) + (j1 &&& (4294967295 : Int64))) (2147483647 : Int64)) + ((j1.toUInt64 >>> ((32 : Int32) &&& 0x3f).toInt64.toUInt64).toInt64)) (2147483647 : Int64)) + (j3 &&& (4294967295 : Int64))) (2147483647 : Int64))), .second, .val (.long (f1_0 ((f1_0 ((f1_0 ((f1_0 ((x0.toInt64) + (j1 &&& (4294967295 : Int64))) (2147483647 : Int64)) + ((j1.toUInt64 >>> ((32 : Int32) &&& 0x3f).toInt64.toUInt64).toInt64)) (2147483647 : Int64)) + (j3 &&& (4294967295 : Int64))) (2147483647 : Int64)) + ((j3.toUInt64 >>> ((32 : Int32) &&& 0x3f).toInt64.toUInt64).toInt64)) (2147483647 : Int64))), .second, .unset, .unset, .unset, .unset, .unset, .unset] [])) (P := own_one) (n0 := n0) (kc := room_1.cells) (ks := room_1.slots) (fun t kt => castTop (ef0 m x0 j1 j3 x5 x6) ?_) (b0_67 x0 j1 j3 x5 x6 (2147483647 : Int64) (x0.toInt64) (f1_0 ((x0.toInt64) + (j1 &&& (4294967295 : Int64))) (2147483647 : Int64)) (f1_0 ((f1_0 ((x0.toInt64) + (j1 &&& (4294967295 : Int64))) (2147483647 : Int64)) + ((j1.toUInt64 >>> ((32 : Int32) &&& 0x3f).toInt64.toUInt64).toInt64)) (2147483647 : Int64)) (f1_0 ((f1_0 ((f1_0 ((x0.toInt64) + (j1 &&& (4294967295 : Int64))) (2147483647 : Int64)) + ((j1.toUInt64 >>> ((32 : Int32) &&& 0x3f).toInt64.toUInt64).toInt64)) (2147483647 : Int64)) + (j3 &&& (4294967295 : Int64))) (2147483647 : Int64)) (f1_0 ((f1_0 ((f1_0 ((f1_0 ((x0.toInt64) + (j1 &&& (4294967295 : Int64))) (2147483647 : Int64)) + ((j1.toUInt64 >>> ((32 : Int32) &&& 0x3f).toInt64.toUInt64).toInt64)) (2147483647 : Int64)) + (j3 &&& (4294967295 : Int64))) (2147483647 : Int64)) + ((j3.toUInt64 >>> ((32 : Int32) &&& 0x3f).toInt64.toUInt64).toInt64)) (2147483647 : Int64)) X62 hx hZ hw hby hml hown Bd.returns Bd.notSynchronized e62 Z0 N62 hs (by rw [own_F] at hone; rw [hone]; exact fun _ => rfl))
  show Steps p.tables e below (s₁.setTop (mkF m 0 #[.val (.int x0), .val (.long j1), .second, .val (.long j3), .second, .val (.int x5), .val (.int x6), .unset, .unset, .unset, .unset, .unset, .unset, .unset, .unset, .unset, .unset, .unset, .unset, .unset, .unset, .unset, .unset, .unset, .unset] [])) _
  refine X0.ldc2Long hx hown (mvT hZ (hw _ (List.mem_of_getElem? (i := 0) rfl))) (g := (mkF m 0 #[.val (.int x0), .val (.long j1), .second, .val (.long j3), .second, .val (.int x5), .val (.int x6), .unset, .unset, .unset, .unset, .unset, .unset, .unset, .unset, .unset, .unset, .unset, .unset, .unset, .unset, .unset, .unset, .unset, .unset] [])) rfl (hb hby at_0) _ ?_
  show Steps p.tables e below (s₁.setTop (mkF m 3 #[.val (.int x0), .val (.long j1), .second, .val (.long j3), .second, .val (.int x5), .val (.int x6), .unset, .unset, .unset, .unset, .unset, .unset, .unset, .unset, .unset, .unset, .unset, .unset, .unset, .unset, .unset, .unset, .unset, .unset] [(.long (2147483647 : Int64))])) _
  refine XS.lstore X0.here hx rfl (hb hby at_3) rfl (l' := #[.val (.int x0), .val (.long j1), .second, .val (.long j3), .second, .val (.int x5), .val (.int x6), .val (.long (2147483647 : Int64)), .second, .unset, .unset, .unset, .unset, .unset, .unset, .unset, .unset, .unset, .unset, .unset, .unset, .unset, .unset, .unset, .unset]) rfl ?_
  show Steps p.tables e below (s₁.setTop (mkF m 5 #[.val (.int x0), .val (.long j1), .second, .val (.long j3), .second, .val (.int x5), .val (.int x6), .val (.long (2147483647 : Int64)), .second, .unset, .unset, .unset, .unset, .unset, .unset, .unset, .unset, .unset, .unset, .unset, .unset, .unset, .unset, .unset, .unset] [])) _
  refine XS.iloadN X0.here hx rfl (hb hby at_5) rfl ?_
  show Steps p.tables e below (s₁.setTop (mkF m 6 #[.val (.int x0), .val (.long j1), .second, .val (.long j3), .second, .val (.int x5), .val (.int x6), .val (.long (2147483647 : Int64)), .second, .unset, .unset, .unset, .unset, .unset, .unset, .unset, .unset, .unset, .unset, .unset, .unset, .unset, .unset, .unset, .unset] [(.int x0)])) _
  refine XS.i2l X0.here hx rfl (hb hby at_6) rfl ?_
  show Steps p.tables e below (s₁.setTop (mkF m 7 #[.val (.int x0), .val (.long j1), .second, .val (.long j3), .second, .val (.int x5), .val (.int x6), .val (.long (2147483647 : Int64)), .second, .unset, .unset, .unset, .unset, .unset, .unset, .unset, .unset, .unset, .unset, .unset, .unset, .unset, .unset, .unset, .unset] [(.long (x0.toInt64))])) _
  refine XS.lstore X0.here hx rfl (hb hby at_7) rfl (l' := #[.val (.int x0), .val (.long j1), .second, .val (.long j3), .second, .val (.int x5), .val (.int x6), .val (.long (2147483647 : Int64)), .second, .val (.long (x0.toInt64)), .second, .unset, .unset, .unset, .unset, .unset, .unset, .unset, .unset, .unset, .unset, .unset, .unset, .unset, .unset]) rfl ?_
  show Steps p.tables e below (s₁.setTop (mkF m 9 #[.val (.int x0), .val (.long j1), .second, .val (.long j3), .second, .val (.int x5), .val (.int x6), .val (.long (2147483647 : Int64)), .second, .val (.long (x0.toInt64)), .second, .unset, .unset, .unset, .unset, .unset, .unset, .unset, .unset, .unset, .unset, .unset, .unset, .unset, .unset] [])) _
  refine XS.lload X0.here hx rfl (hb hby at_9) rfl ?_
  show Steps p.tables e below (s₁.setTop (mkF m 11 #[.val (.int x0), .val (.long j1), .second, .val (.long j3), .second, .val (.int x5), .val (.int x6), .val (.long (2147483647 : Int64)), .second, .val (.long (x0.toInt64)), .second, .unset, .unset, .unset, .unset, .unset, .unset, .unset, .unset, .unset, .unset, .unset, .unset, .unset, .unset] [(.long (x0.toInt64))])) _
  refine XS.lloadN X0.here hx rfl (hb hby at_11) rfl ?_
  show Steps p.tables e below (s₁.setTop (mkF m 12 #[.val (.int x0), .val (.long j1), .second, .val (.long j3), .second, .val (.int x5), .val (.int x6), .val (.long (2147483647 : Int64)), .second, .val (.long (x0.toInt64)), .second, .unset, .unset, .unset, .unset, .unset, .unset, .unset, .unset, .unset, .unset, .unset, .unset, .unset, .unset] [(.long j1), (.long (x0.toInt64))])) _
  refine X0.ldc2Long hx hown (mvT hZ (hw _ (List.mem_of_getElem? (i := 1) rfl))) (g := (mkF m 12 #[.val (.int x0), .val (.long j1), .second, .val (.long j3), .second, .val (.int x5), .val (.int x6), .val (.long (2147483647 : Int64)), .second, .val (.long (x0.toInt64)), .second, .unset, .unset, .unset, .unset, .unset, .unset, .unset, .unset, .unset, .unset, .unset, .unset, .unset, .unset] [(.long j1), (.long (x0.toInt64))])) rfl (hb hby at_12) _ ?_
  show Steps p.tables e below (s₁.setTop (mkF m 15 #[.val (.int x0), .val (.long j1), .second, .val (.long j3), .second, .val (.int x5), .val (.int x6), .val (.long (2147483647 : Int64)), .second, .val (.long (x0.toInt64)), .second, .unset, .unset, .unset, .unset, .unset, .unset, .unset, .unset, .unset, .unset, .unset, .unset, .unset, .unset] [(.long (4294967295 : Int64)), (.long j1), (.long (x0.toInt64))])) _
  refine XS.land X0.here hx rfl (hb hby at_15) rfl ?_
  show Steps p.tables e below (s₁.setTop (mkF m 16 #[.val (.int x0), .val (.long j1), .second, .val (.long j3), .second, .val (.int x5), .val (.int x6), .val (.long (2147483647 : Int64)), .second, .val (.long (x0.toInt64)), .second, .unset, .unset, .unset, .unset, .unset, .unset, .unset, .unset, .unset, .unset, .unset, .unset, .unset, .unset] [(.long (j1 &&& (4294967295 : Int64))), (.long (x0.toInt64))])) _
  refine XS.ladd X0.here hx rfl (hb hby at_16) rfl ?_
  show Steps p.tables e below (s₁.setTop (mkF m 17 #[.val (.int x0), .val (.long j1), .second, .val (.long j3), .second, .val (.int x5), .val (.int x6), .val (.long (2147483647 : Int64)), .second, .val (.long (x0.toInt64)), .second, .unset, .unset, .unset, .unset, .unset, .unset, .unset, .unset, .unset, .unset, .unset, .unset, .unset, .unset] [(.long ((x0.toInt64) + (j1 &&& (4294967295 : Int64))))])) _
  refine XS.lload X0.here hx rfl (hb hby at_17) rfl ?_
  show Steps p.tables e below (s₁.setTop (mkF m 19 #[.val (.int x0), .val (.long j1), .second, .val (.long j3), .second, .val (.int x5), .val (.int x6), .val (.long (2147483647 : Int64)), .second, .val (.long (x0.toInt64)), .second, .unset, .unset, .unset, .unset, .unset, .unset, .unset, .unset, .unset, .unset, .unset, .unset, .unset, .unset] [(.long (2147483647 : Int64)), (.long ((x0.toInt64) + (j1 &&& (4294967295 : Int64))))])) _
  refine st19 _ ?_
  show Steps p.tables e below (T19.setTop (mkF m 22 #[.val (.int x0), .val (.long j1), .second, .val (.long j3), .second, .val (.int x5), .val (.int x6), .val (.long (2147483647 : Int64)), .second, .val (.long (x0.toInt64)), .second, .unset, .unset, .unset, .unset, .unset, .unset, .unset, .unset, .unset, .unset, .unset, .unset, .unset, .unset] [(.long (f1_0 ((x0.toInt64) + (j1 &&& (4294967295 : Int64))) (2147483647 : Int64)))])) _
  refine XS.lstore X19.here hx rfl (hb hby at_22) rfl (l' := #[.val (.int x0), .val (.long j1), .second, .val (.long j3), .second, .val (.int x5), .val (.int x6), .val (.long (2147483647 : Int64)), .second, .val (.long (x0.toInt64)), .second, .val (.long (f1_0 ((x0.toInt64) + (j1 &&& (4294967295 : Int64))) (2147483647 : Int64))), .second, .unset, .unset, .unset, .unset, .unset, .unset, .unset, .unset, .unset, .unset, .unset, .unset]) rfl ?_
  show Steps p.tables e below (T19.setTop (mkF m 24 #[.val (.int x0), .val (.long j1), .second, .val (.long j3), .second, .val (.int x5), .val (.int x6), .val (.long (2147483647 : Int64)), .second, .val (.long (x0.toInt64)), .second, .val (.long (f1_0 ((x0.toInt64) + (j1 &&& (4294967295 : Int64))) (2147483647 : Int64))), .second, .unset, .unset, .unset, .unset, .unset, .unset, .unset, .unset, .unset, .unset, .unset, .unset] [])) _
  refine XS.lload X19.here hx rfl (hb hby at_24) rfl ?_
  show Steps p.tables e below (T19.setTop (mkF m 26 #[.val (.int x0), .val (.long j1), .second, .val (.long j3), .second, .val (.int x5), .val (.int x6), .val (.long (2147483647 : Int64)), .second, .val (.long (x0.toInt64)), .second, .val (.long (f1_0 ((x0.toInt64) + (j1 &&& (4294967295 : Int64))) (2147483647 : Int64))), .second, .unset, .unset, .unset, .unset, .unset, .unset, .unset, .unset, .unset, .unset, .unset, .unset] [(.long (f1_0 ((x0.toInt64) + (j1 &&& (4294967295 : Int64))) (2147483647 : Int64)))])) _
  refine XS.lloadN X19.here hx rfl (hb hby at_26) rfl ?_
  show Steps p.tables e below (T19.setTop (mkF m 27 #[.val (.int x0), .val (.long j1), .second, .val (.long j3), .second, .val (.int x5), .val (.int x6), .val (.long (2147483647 : Int64)), .second, .val (.long (x0.toInt64)), .second, .val (.long (f1_0 ((x0.toInt64) + (j1 &&& (4294967295 : Int64))) (2147483647 : Int64))), .second, .unset, .unset, .unset, .unset, .unset, .unset, .unset, .unset, .unset, .unset, .unset, .unset] [(.long j1), (.long (f1_0 ((x0.toInt64) + (j1 &&& (4294967295 : Int64))) (2147483647 : Int64)))])) _
  refine XS.bipush X19.here hx rfl (hb hby at_27) ?_
  show Steps p.tables e below (T19.setTop (mkF m 29 #[.val (.int x0), .val (.long j1), .second, .val (.long j3), .second, .val (.int x5), .val (.int x6), .val (.long (2147483647 : Int64)), .second, .val (.long (x0.toInt64)), .second, .val (.long (f1_0 ((x0.toInt64) + (j1 &&& (4294967295 : Int64))) (2147483647 : Int64))), .second, .unset, .unset, .unset, .unset, .unset, .unset, .unset, .unset, .unset, .unset, .unset, .unset] [(.int (32 : Int32)), (.long j1), (.long (f1_0 ((x0.toInt64) + (j1 &&& (4294967295 : Int64))) (2147483647 : Int64)))])) _
  refine XS.lushr X19.here hx rfl (hb hby at_29) rfl ?_
  show Steps p.tables e below (T19.setTop (mkF m 30 #[.val (.int x0), .val (.long j1), .second, .val (.long j3), .second, .val (.int x5), .val (.int x6), .val (.long (2147483647 : Int64)), .second, .val (.long (x0.toInt64)), .second, .val (.long (f1_0 ((x0.toInt64) + (j1 &&& (4294967295 : Int64))) (2147483647 : Int64))), .second, .unset, .unset, .unset, .unset, .unset, .unset, .unset, .unset, .unset, .unset, .unset, .unset] [(.long ((j1.toUInt64 >>> ((32 : Int32) &&& 0x3f).toInt64.toUInt64).toInt64)), (.long (f1_0 ((x0.toInt64) + (j1 &&& (4294967295 : Int64))) (2147483647 : Int64)))])) _
  refine XS.ladd X19.here hx rfl (hb hby at_30) rfl ?_
  show Steps p.tables e below (T19.setTop (mkF m 31 #[.val (.int x0), .val (.long j1), .second, .val (.long j3), .second, .val (.int x5), .val (.int x6), .val (.long (2147483647 : Int64)), .second, .val (.long (x0.toInt64)), .second, .val (.long (f1_0 ((x0.toInt64) + (j1 &&& (4294967295 : Int64))) (2147483647 : Int64))), .second, .unset, .unset, .unset, .unset, .unset, .unset, .unset, .unset, .unset, .unset, .unset, .unset] [(.long ((f1_0 ((x0.toInt64) + (j1 &&& (4294967295 : Int64))) (2147483647 : Int64)) + ((j1.toUInt64 >>> ((32 : Int32) &&& 0x3f).toInt64.toUInt64).toInt64)))])) _
  refine XS.lload X19.here hx rfl (hb hby at_31) rfl ?_
  show Steps p.tables e below (T19.setTop (mkF m 33 #[.val (.int x0), .val (.long j1), .second, .val (.long j3), .second, .val (.int x5), .val (.int x6), .val (.long (2147483647 : Int64)), .second, .val (.long (x0.toInt64)), .second, .val (.long (f1_0 ((x0.toInt64) + (j1 &&& (4294967295 : Int64))) (2147483647 : Int64))), .second, .unset, .unset, .unset, .unset, .unset, .unset, .unset, .unset, .unset, .unset, .unset, .unset] [(.long (2147483647 : Int64)), (.long ((f1_0 ((x0.toInt64) + (j1 &&& (4294967295 : Int64))) (2147483647 : Int64)) + ((j1.toUInt64 >>> ((32 : Int32) &&& 0x3f).toInt64.toUInt64).toInt64)))])) _
  refine st33 _ ?_
  show Steps p.tables e below (T33.setTop (mkF m 36 #[.val (.int x0), .val (.long j1), .second, .val (.long j3), .second, .val (.int x5), .val (.int x6), .val (.long (2147483647 : Int64)), .second, .val (.long (x0.toInt64)), .second, .val (.long (f1_0 ((x0.toInt64) + (j1 &&& (4294967295 : Int64))) (2147483647 : Int64))), .second, .unset, .unset, .unset, .unset, .unset, .unset, .unset, .unset, .unset, .unset, .unset, .unset] [(.long (f1_0 ((f1_0 ((x0.toInt64) + (j1 &&& (4294967295 : Int64))) (2147483647 : Int64)) + ((j1.toUInt64 >>> ((32 : Int32) &&& 0x3f).toInt64.toUInt64).toInt64)) (2147483647 : Int64)))])) _
  refine XS.lstore X33.here hx rfl (hb hby at_36) rfl (l' := #[.val (.int x0), .val (.long j1), .second, .val (.long j3), .second, .val (.int x5), .val (.int x6), .val (.long (2147483647 : Int64)), .second, .val (.long (x0.toInt64)), .second, .val (.long (f1_0 ((x0.toInt64) + (j1 &&& (4294967295 : Int64))) (2147483647 : Int64))), .second, .val (.long (f1_0 ((f1_0 ((x0.toInt64) + (j1 &&& (4294967295 : Int64))) (2147483647 : Int64)) + ((j1.toUInt64 >>> ((32 : Int32) &&& 0x3f).toInt64.toUInt64).toInt64)) (2147483647 : Int64))), .second, .unset, .unset, .unset, .unset, .unset, .unset, .unset, .unset, .unset, .unset]) rfl ?_
  show Steps p.tables e below (T33.setTop (mkF m 38 #[.val (.int x0), .val (.long j1), .second, .val (.long j3), .second, .val (.int x5), .val (.int x6), .val (.long (2147483647 : Int64)), .second, .val (.long (x0.toInt64)), .second, .val (.long (f1_0 ((x0.toInt64) + (j1 &&& (4294967295 : Int64))) (2147483647 : Int64))), .second, .val (.long (f1_0 ((f1_0 ((x0.toInt64) + (j1 &&& (4294967295 : Int64))) (2147483647 : Int64)) + ((j1.toUInt64 >>> ((32 : Int32) &&& 0x3f).toInt64.toUInt64).toInt64)) (2147483647 : Int64))), .second, .unset, .unset, .unset, .unset, .unset, .unset, .unset, .unset, .unset, .unset] [])) _
  refine XS.lload X33.here hx rfl (hb hby at_38) rfl ?_
  show Steps p.tables e below (T33.setTop (mkF m 40 #[.val (.int x0), .val (.long j1), .second, .val (.long j3), .second, .val (.int x5), .val (.int x6), .val (.long (2147483647 : Int64)), .second, .val (.long (x0.toInt64)), .second, .val (.long (f1_0 ((x0.toInt64) + (j1 &&& (4294967295 : Int64))) (2147483647 : Int64))), .second, .val (.long (f1_0 ((f1_0 ((x0.toInt64) + (j1 &&& (4294967295 : Int64))) (2147483647 : Int64)) + ((j1.toUInt64 >>> ((32 : Int32) &&& 0x3f).toInt64.toUInt64).toInt64)) (2147483647 : Int64))), .second, .unset, .unset, .unset, .unset, .unset, .unset, .unset, .unset, .unset, .unset] [(.long (f1_0 ((f1_0 ((x0.toInt64) + (j1 &&& (4294967295 : Int64))) (2147483647 : Int64)) + ((j1.toUInt64 >>> ((32 : Int32) &&& 0x3f).toInt64.toUInt64).toInt64)) (2147483647 : Int64)))])) _
  refine XS.lloadN X33.here hx rfl (hb hby at_40) rfl ?_
  show Steps p.tables e below (T33.setTop (mkF m 41 #[.val (.int x0), .val (.long j1), .second, .val (.long j3), .second, .val (.int x5), .val (.int x6), .val (.long (2147483647 : Int64)), .second, .val (.long (x0.toInt64)), .second, .val (.long (f1_0 ((x0.toInt64) + (j1 &&& (4294967295 : Int64))) (2147483647 : Int64))), .second, .val (.long (f1_0 ((f1_0 ((x0.toInt64) + (j1 &&& (4294967295 : Int64))) (2147483647 : Int64)) + ((j1.toUInt64 >>> ((32 : Int32) &&& 0x3f).toInt64.toUInt64).toInt64)) (2147483647 : Int64))), .second, .unset, .unset, .unset, .unset, .unset, .unset, .unset, .unset, .unset, .unset] [(.long j3), (.long (f1_0 ((f1_0 ((x0.toInt64) + (j1 &&& (4294967295 : Int64))) (2147483647 : Int64)) + ((j1.toUInt64 >>> ((32 : Int32) &&& 0x3f).toInt64.toUInt64).toInt64)) (2147483647 : Int64)))])) _
  refine X33.ldc2Long hx hown (mvT hZ (hw _ (List.mem_of_getElem? (i := 1) rfl))) (g := (mkF m 41 #[.val (.int x0), .val (.long j1), .second, .val (.long j3), .second, .val (.int x5), .val (.int x6), .val (.long (2147483647 : Int64)), .second, .val (.long (x0.toInt64)), .second, .val (.long (f1_0 ((x0.toInt64) + (j1 &&& (4294967295 : Int64))) (2147483647 : Int64))), .second, .val (.long (f1_0 ((f1_0 ((x0.toInt64) + (j1 &&& (4294967295 : Int64))) (2147483647 : Int64)) + ((j1.toUInt64 >>> ((32 : Int32) &&& 0x3f).toInt64.toUInt64).toInt64)) (2147483647 : Int64))), .second, .unset, .unset, .unset, .unset, .unset, .unset, .unset, .unset, .unset, .unset] [(.long j3), (.long (f1_0 ((f1_0 ((x0.toInt64) + (j1 &&& (4294967295 : Int64))) (2147483647 : Int64)) + ((j1.toUInt64 >>> ((32 : Int32) &&& 0x3f).toInt64.toUInt64).toInt64)) (2147483647 : Int64)))])) rfl (hb hby at_41) _ ?_
  show Steps p.tables e below (T33.setTop (mkF m 44 #[.val (.int x0), .val (.long j1), .second, .val (.long j3), .second, .val (.int x5), .val (.int x6), .val (.long (2147483647 : Int64)), .second, .val (.long (x0.toInt64)), .second, .val (.long (f1_0 ((x0.toInt64) + (j1 &&& (4294967295 : Int64))) (2147483647 : Int64))), .second, .val (.long (f1_0 ((f1_0 ((x0.toInt64) + (j1 &&& (4294967295 : Int64))) (2147483647 : Int64)) + ((j1.toUInt64 >>> ((32 : Int32) &&& 0x3f).toInt64.toUInt64).toInt64)) (2147483647 : Int64))), .second, .unset, .unset, .unset, .unset, .unset, .unset, .unset, .unset, .unset, .unset] [(.long (4294967295 : Int64)), (.long j3), (.long (f1_0 ((f1_0 ((x0.toInt64) + (j1 &&& (4294967295 : Int64))) (2147483647 : Int64)) + ((j1.toUInt64 >>> ((32 : Int32) &&& 0x3f).toInt64.toUInt64).toInt64)) (2147483647 : Int64)))])) _
  refine XS.land X33.here hx rfl (hb hby at_44) rfl ?_
  show Steps p.tables e below (T33.setTop (mkF m 45 #[.val (.int x0), .val (.long j1), .second, .val (.long j3), .second, .val (.int x5), .val (.int x6), .val (.long (2147483647 : Int64)), .second, .val (.long (x0.toInt64)), .second, .val (.long (f1_0 ((x0.toInt64) + (j1 &&& (4294967295 : Int64))) (2147483647 : Int64))), .second, .val (.long (f1_0 ((f1_0 ((x0.toInt64) + (j1 &&& (4294967295 : Int64))) (2147483647 : Int64)) + ((j1.toUInt64 >>> ((32 : Int32) &&& 0x3f).toInt64.toUInt64).toInt64)) (2147483647 : Int64))), .second, .unset, .unset, .unset, .unset, .unset, .unset, .unset, .unset, .unset, .unset] [(.long (j3 &&& (4294967295 : Int64))), (.long (f1_0 ((f1_0 ((x0.toInt64) + (j1 &&& (4294967295 : Int64))) (2147483647 : Int64)) + ((j1.toUInt64 >>> ((32 : Int32) &&& 0x3f).toInt64.toUInt64).toInt64)) (2147483647 : Int64)))])) _
  refine XS.ladd X33.here hx rfl (hb hby at_45) rfl ?_
  show Steps p.tables e below (T33.setTop (mkF m 46 #[.val (.int x0), .val (.long j1), .second, .val (.long j3), .second, .val (.int x5), .val (.int x6), .val (.long (2147483647 : Int64)), .second, .val (.long (x0.toInt64)), .second, .val (.long (f1_0 ((x0.toInt64) + (j1 &&& (4294967295 : Int64))) (2147483647 : Int64))), .second, .val (.long (f1_0 ((f1_0 ((x0.toInt64) + (j1 &&& (4294967295 : Int64))) (2147483647 : Int64)) + ((j1.toUInt64 >>> ((32 : Int32) &&& 0x3f).toInt64.toUInt64).toInt64)) (2147483647 : Int64))), .second, .unset, .unset, .unset, .unset, .unset, .unset, .unset, .unset, .unset, .unset] [(.long ((f1_0 ((f1_0 ((x0.toInt64) + (j1 &&& (4294967295 : Int64))) (2147483647 : Int64)) + ((j1.toUInt64 >>> ((32 : Int32) &&& 0x3f).toInt64.toUInt64).toInt64)) (2147483647 : Int64)) + (j3 &&& (4294967295 : Int64))))])) _
  refine XS.lload X33.here hx rfl (hb hby at_46) rfl ?_
  show Steps p.tables e below (T33.setTop (mkF m 48 #[.val (.int x0), .val (.long j1), .second, .val (.long j3), .second, .val (.int x5), .val (.int x6), .val (.long (2147483647 : Int64)), .second, .val (.long (x0.toInt64)), .second, .val (.long (f1_0 ((x0.toInt64) + (j1 &&& (4294967295 : Int64))) (2147483647 : Int64))), .second, .val (.long (f1_0 ((f1_0 ((x0.toInt64) + (j1 &&& (4294967295 : Int64))) (2147483647 : Int64)) + ((j1.toUInt64 >>> ((32 : Int32) &&& 0x3f).toInt64.toUInt64).toInt64)) (2147483647 : Int64))), .second, .unset, .unset, .unset, .unset, .unset, .unset, .unset, .unset, .unset, .unset] [(.long (2147483647 : Int64)), (.long ((f1_0 ((f1_0 ((x0.toInt64) + (j1 &&& (4294967295 : Int64))) (2147483647 : Int64)) + ((j1.toUInt64 >>> ((32 : Int32) &&& 0x3f).toInt64.toUInt64).toInt64)) (2147483647 : Int64)) + (j3 &&& (4294967295 : Int64))))])) _
  refine st48 _ ?_
  show Steps p.tables e below (T48.setTop (mkF m 51 #[.val (.int x0), .val (.long j1), .second, .val (.long j3), .second, .val (.int x5), .val (.int x6), .val (.long (2147483647 : Int64)), .second, .val (.long (x0.toInt64)), .second, .val (.long (f1_0 ((x0.toInt64) + (j1 &&& (4294967295 : Int64))) (2147483647 : Int64))), .second, .val (.long (f1_0 ((f1_0 ((x0.toInt64) + (j1 &&& (4294967295 : Int64))) (2147483647 : Int64)) + ((j1.toUInt64 >>> ((32 : Int32) &&& 0x3f).toInt64.toUInt64).toInt64)) (2147483647 : Int64))), .second, .unset, .unset, .unset, .unset, .unset, .unset, .unset, .unset, .unset, .unset] [(.long (f1_0 ((f1_0 ((f1_0 ((x0.toInt64) + (j1 &&& (4294967295 : Int64))) (2147483647 : Int64)) + ((j1.toUInt64 >>> ((32 : Int32) &&& 0x3f).toInt64.toUInt64).toInt64)) (2147483647 : Int64)) + (j3 &&& (4294967295 : Int64))) (2147483647 : Int64)))])) _
  refine XS.lstore X48.here hx rfl (hb hby at_51) rfl (l' := #[.val (.int x0), .val (.long j1), .second, .val (.long j3), .second, .val (.int x5), .val (.int x6), .val (.long (2147483647 : Int64)), .second, .val (.long (x0.toInt64)), .second, .val (.long (f1_0 ((x0.toInt64) + (j1 &&& (4294967295 : Int64))) (2147483647 : Int64))), .second, .val (.long (f1_0 ((f1_0 ((x0.toInt64) + (j1 &&& (4294967295 : Int64))) (2147483647 : Int64)) + ((j1.toUInt64 >>> ((32 : Int32) &&& 0x3f).toInt64.toUInt64).toInt64)) (2147483647 : Int64))), .second, .val (.long (f1_0 ((f1_0 ((f1_0 ((x0.toInt64) + (j1 &&& (4294967295 : Int64))) (2147483647 : Int64)) + ((j1.toUInt64 >>> ((32 : Int32) &&& 0x3f).toInt64.toUInt64).toInt64)) (2147483647 : Int64)) + (j3 &&& (4294967295 : Int64))) (2147483647 : Int64))), .second, .unset, .unset, .unset, .unset, .unset, .unset, .unset, .unset]) rfl ?_
  show Steps p.tables e below (T48.setTop (mkF m 53 #[.val (.int x0), .val (.long j1), .second, .val (.long j3), .second, .val (.int x5), .val (.int x6), .val (.long (2147483647 : Int64)), .second, .val (.long (x0.toInt64)), .second, .val (.long (f1_0 ((x0.toInt64) + (j1 &&& (4294967295 : Int64))) (2147483647 : Int64))), .second, .val (.long (f1_0 ((f1_0 ((x0.toInt64) + (j1 &&& (4294967295 : Int64))) (2147483647 : Int64)) + ((j1.toUInt64 >>> ((32 : Int32) &&& 0x3f).toInt64.toUInt64).toInt64)) (2147483647 : Int64))), .second, .val (.long (f1_0 ((f1_0 ((f1_0 ((x0.toInt64) + (j1 &&& (4294967295 : Int64))) (2147483647 : Int64)) + ((j1.toUInt64 >>> ((32 : Int32) &&& 0x3f).toInt64.toUInt64).toInt64)) (2147483647 : Int64)) + (j3 &&& (4294967295 : Int64))) (2147483647 : Int64))), .second, .unset, .unset, .unset, .unset, .unset, .unset, .unset, .unset] [])) _
  refine XS.lload X48.here hx rfl (hb hby at_53) rfl ?_
  show Steps p.tables e below (T48.setTop (mkF m 55 #[.val (.int x0), .val (.long j1), .second, .val (.long j3), .second, .val (.int x5), .val (.int x6), .val (.long (2147483647 : Int64)), .second, .val (.long (x0.toInt64)), .second, .val (.long (f1_0 ((x0.toInt64) + (j1 &&& (4294967295 : Int64))) (2147483647 : Int64))), .second, .val (.long (f1_0 ((f1_0 ((x0.toInt64) + (j1 &&& (4294967295 : Int64))) (2147483647 : Int64)) + ((j1.toUInt64 >>> ((32 : Int32) &&& 0x3f).toInt64.toUInt64).toInt64)) (2147483647 : Int64))), .second, .val (.long (f1_0 ((f1_0 ((f1_0 ((x0.toInt64) + (j1 &&& (4294967295 : Int64))) (2147483647 : Int64)) + ((j1.toUInt64 >>> ((32 : Int32) &&& 0x3f).toInt64.toUInt64).toInt64)) (2147483647 : Int64)) + (j3 &&& (4294967295 : Int64))) (2147483647 : Int64))), .second, .unset, .unset, .unset, .unset, .unset, .unset, .unset, .unset] [(.long (f1_0 ((f1_0 ((f1_0 ((x0.toInt64) + (j1 &&& (4294967295 : Int64))) (2147483647 : Int64)) + ((j1.toUInt64 >>> ((32 : Int32) &&& 0x3f).toInt64.toUInt64).toInt64)) (2147483647 : Int64)) + (j3 &&& (4294967295 : Int64))) (2147483647 : Int64)))])) _
  refine XS.lloadN X48.here hx rfl (hb hby at_55) rfl ?_
  show Steps p.tables e below (T48.setTop (mkF m 56 #[.val (.int x0), .val (.long j1), .second, .val (.long j3), .second, .val (.int x5), .val (.int x6), .val (.long (2147483647 : Int64)), .second, .val (.long (x0.toInt64)), .second, .val (.long (f1_0 ((x0.toInt64) + (j1 &&& (4294967295 : Int64))) (2147483647 : Int64))), .second, .val (.long (f1_0 ((f1_0 ((x0.toInt64) + (j1 &&& (4294967295 : Int64))) (2147483647 : Int64)) + ((j1.toUInt64 >>> ((32 : Int32) &&& 0x3f).toInt64.toUInt64).toInt64)) (2147483647 : Int64))), .second, .val (.long (f1_0 ((f1_0 ((f1_0 ((x0.toInt64) + (j1 &&& (4294967295 : Int64))) (2147483647 : Int64)) + ((j1.toUInt64 >>> ((32 : Int32) &&& 0x3f).toInt64.toUInt64).toInt64)) (2147483647 : Int64)) + (j3 &&& (4294967295 : Int64))) (2147483647 : Int64))), .second, .unset, .unset, .unset, .unset, .unset, .unset, .unset, .unset] [(.long j3), (.long (f1_0 ((f1_0 ((f1_0 ((x0.toInt64) + (j1 &&& (4294967295 : Int64))) (2147483647 : Int64)) + ((j1.toUInt64 >>> ((32 : Int32) &&& 0x3f).toInt64.toUInt64).toInt64)) (2147483647 : Int64)) + (j3 &&& (4294967295 : Int64))) (2147483647 : Int64)))])) _
  refine XS.bipush X48.here hx rfl (hb hby at_56) ?_
  show Steps p.tables e below (T48.setTop (mkF m 58 #[.val (.int x0), .val (.long j1), .second, .val (.long j3), .second, .val (.int x5), .val (.int x6), .val (.long (2147483647 : Int64)), .second, .val (.long (x0.toInt64)), .second, .val (.long (f1_0 ((x0.toInt64) + (j1 &&& (4294967295 : Int64))) (2147483647 : Int64))), .second, .val (.long (f1_0 ((f1_0 ((x0.toInt64) + (j1 &&& (4294967295 : Int64))) (2147483647 : Int64)) + ((j1.toUInt64 >>> ((32 : Int32) &&& 0x3f).toInt64.toUInt64).toInt64)) (2147483647 : Int64))), .second, .val (.long (f1_0 ((f1_0 ((f1_0 ((x0.toInt64) + (j1 &&& (4294967295 : Int64))) (2147483647 : Int64)) + ((j1.toUInt64 >>> ((32 : Int32) &&& 0x3f).toInt64.toUInt64).toInt64)) (2147483647 : Int64)) + (j3 &&& (4294967295 : Int64))) (2147483647 : Int64))), .second, .unset, .unset, .unset, .unset, .unset, .unset, .unset, .unset] [(.int (32 : Int32)), (.long j3), (.long (f1_0 ((f1_0 ((f1_0 ((x0.toInt64) + (j1 &&& (4294967295 : Int64))) (2147483647 : Int64)) + ((j1.toUInt64 >>> ((32 : Int32) &&& 0x3f).toInt64.toUInt64).toInt64)) (2147483647 : Int64)) + (j3 &&& (4294967295 : Int64))) (2147483647 : Int64)))])) _
  refine XS.lushr X48.here hx rfl (hb hby at_58) rfl ?_
  show Steps p.tables e below (T48.setTop (mkF m 59 #[.val (.int x0), .val (.long j1), .second, .val (.long j3), .second, .val (.int x5), .val (.int x6), .val (.long (2147483647 : Int64)), .second, .val (.long (x0.toInt64)), .second, .val (.long (f1_0 ((x0.toInt64) + (j1 &&& (4294967295 : Int64))) (2147483647 : Int64))), .second, .val (.long (f1_0 ((f1_0 ((x0.toInt64) + (j1 &&& (4294967295 : Int64))) (2147483647 : Int64)) + ((j1.toUInt64 >>> ((32 : Int32) &&& 0x3f).toInt64.toUInt64).toInt64)) (2147483647 : Int64))), .second, .val (.long (f1_0 ((f1_0 ((f1_0 ((x0.toInt64) + (j1 &&& (4294967295 : Int64))) (2147483647 : Int64)) + ((j1.toUInt64 >>> ((32 : Int32) &&& 0x3f).toInt64.toUInt64).toInt64)) (2147483647 : Int64)) + (j3 &&& (4294967295 : Int64))) (2147483647 : Int64))), .second, .unset, .unset, .unset, .unset, .unset, .unset, .unset, .unset] [(.long ((j3.toUInt64 >>> ((32 : Int32) &&& 0x3f).toInt64.toUInt64).toInt64)), (.long (f1_0 ((f1_0 ((f1_0 ((x0.toInt64) + (j1 &&& (4294967295 : Int64))) (2147483647 : Int64)) + ((j1.toUInt64 >>> ((32 : Int32) &&& 0x3f).toInt64.toUInt64).toInt64)) (2147483647 : Int64)) + (j3 &&& (4294967295 : Int64))) (2147483647 : Int64)))])) _
  refine XS.ladd X48.here hx rfl (hb hby at_59) rfl ?_
  show Steps p.tables e below (T48.setTop (mkF m 60 #[.val (.int x0), .val (.long j1), .second, .val (.long j3), .second, .val (.int x5), .val (.int x6), .val (.long (2147483647 : Int64)), .second, .val (.long (x0.toInt64)), .second, .val (.long (f1_0 ((x0.toInt64) + (j1 &&& (4294967295 : Int64))) (2147483647 : Int64))), .second, .val (.long (f1_0 ((f1_0 ((x0.toInt64) + (j1 &&& (4294967295 : Int64))) (2147483647 : Int64)) + ((j1.toUInt64 >>> ((32 : Int32) &&& 0x3f).toInt64.toUInt64).toInt64)) (2147483647 : Int64))), .second, .val (.long (f1_0 ((f1_0 ((f1_0 ((x0.toInt64) + (j1 &&& (4294967295 : Int64))) (2147483647 : Int64)) + ((j1.toUInt64 >>> ((32 : Int32) &&& 0x3f).toInt64.toUInt64).toInt64)) (2147483647 : Int64)) + (j3 &&& (4294967295 : Int64))) (2147483647 : Int64))), .second, .unset, .unset, .unset, .unset, .unset, .unset, .unset, .unset] [(.long ((f1_0 ((f1_0 ((f1_0 ((x0.toInt64) + (j1 &&& (4294967295 : Int64))) (2147483647 : Int64)) + ((j1.toUInt64 >>> ((32 : Int32) &&& 0x3f).toInt64.toUInt64).toInt64)) (2147483647 : Int64)) + (j3 &&& (4294967295 : Int64))) (2147483647 : Int64)) + ((j3.toUInt64 >>> ((32 : Int32) &&& 0x3f).toInt64.toUInt64).toInt64)))])) _
  refine XS.lload X48.here hx rfl (hb hby at_60) rfl ?_
  show Steps p.tables e below (T48.setTop (mkF m 62 #[.val (.int x0), .val (.long j1), .second, .val (.long j3), .second, .val (.int x5), .val (.int x6), .val (.long (2147483647 : Int64)), .second, .val (.long (x0.toInt64)), .second, .val (.long (f1_0 ((x0.toInt64) + (j1 &&& (4294967295 : Int64))) (2147483647 : Int64))), .second, .val (.long (f1_0 ((f1_0 ((x0.toInt64) + (j1 &&& (4294967295 : Int64))) (2147483647 : Int64)) + ((j1.toUInt64 >>> ((32 : Int32) &&& 0x3f).toInt64.toUInt64).toInt64)) (2147483647 : Int64))), .second, .val (.long (f1_0 ((f1_0 ((f1_0 ((x0.toInt64) + (j1 &&& (4294967295 : Int64))) (2147483647 : Int64)) + ((j1.toUInt64 >>> ((32 : Int32) &&& 0x3f).toInt64.toUInt64).toInt64)) (2147483647 : Int64)) + (j3 &&& (4294967295 : Int64))) (2147483647 : Int64))), .second, .unset, .unset, .unset, .unset, .unset, .unset, .unset, .unset] [(.long (2147483647 : Int64)), (.long ((f1_0 ((f1_0 ((f1_0 ((x0.toInt64) + (j1 &&& (4294967295 : Int64))) (2147483647 : Int64)) + ((j1.toUInt64 >>> ((32 : Int32) &&& 0x3f).toInt64.toUInt64).toInt64)) (2147483647 : Int64)) + (j3 &&& (4294967295 : Int64))) (2147483647 : Int64)) + ((j3.toUInt64 >>> ((32 : Int32) &&& 0x3f).toInt64.toUInt64).toInt64)))])) _
  refine st62 _ ?_
  show Steps p.tables e below (T62.setTop (mkF m 65 #[.val (.int x0), .val (.long j1), .second, .val (.long j3), .second, .val (.int x5), .val (.int x6), .val (.long (2147483647 : Int64)), .second, .val (.long (x0.toInt64)), .second, .val (.long (f1_0 ((x0.toInt64) + (j1 &&& (4294967295 : Int64))) (2147483647 : Int64))), .second, .val (.long (f1_0 ((f1_0 ((x0.toInt64) + (j1 &&& (4294967295 : Int64))) (2147483647 : Int64)) + ((j1.toUInt64 >>> ((32 : Int32) &&& 0x3f).toInt64.toUInt64).toInt64)) (2147483647 : Int64))), .second, .val (.long (f1_0 ((f1_0 ((f1_0 ((x0.toInt64) + (j1 &&& (4294967295 : Int64))) (2147483647 : Int64)) + ((j1.toUInt64 >>> ((32 : Int32) &&& 0x3f).toInt64.toUInt64).toInt64)) (2147483647 : Int64)) + (j3 &&& (4294967295 : Int64))) (2147483647 : Int64))), .second, .unset, .unset, .unset, .unset, .unset, .unset, .unset, .unset] [(.long (f1_0 ((f1_0 ((f1_0 ((f1_0 ((x0.toInt64) + (j1 &&& (4294967295 : Int64))) (2147483647 : Int64)) + ((j1.toUInt64 >>> ((32 : Int32) &&& 0x3f).toInt64.toUInt64).toInt64)) (2147483647 : Int64)) + (j3 &&& (4294967295 : Int64))) (2147483647 : Int64)) + ((j3.toUInt64 >>> ((32 : Int32) &&& 0x3f).toInt64.toUInt64).toInt64)) (2147483647 : Int64)))])) _
  refine XS.lstore X62.here hx rfl (hb hby at_65) rfl (l' := #[.val (.int x0), .val (.long j1), .second, .val (.long j3), .second, .val (.int x5), .val (.int x6), .val (.long (2147483647 : Int64)), .second, .val (.long (x0.toInt64)), .second, .val (.long (f1_0 ((x0.toInt64) + (j1 &&& (4294967295 : Int64))) (2147483647 : Int64))), .second, .val (.long (f1_0 ((f1_0 ((x0.toInt64) + (j1 &&& (4294967295 : Int64))) (2147483647 : Int64)) + ((j1.toUInt64 >>> ((32 : Int32) &&& 0x3f).toInt64.toUInt64).toInt64)) (2147483647 : Int64))), .second, .val (.long (f1_0 ((f1_0 ((f1_0 ((x0.toInt64) + (j1 &&& (4294967295 : Int64))) (2147483647 : Int64)) + ((j1.toUInt64 >>> ((32 : Int32) &&& 0x3f).toInt64.toUInt64).toInt64)) (2147483647 : Int64)) + (j3 &&& (4294967295 : Int64))) (2147483647 : Int64))), .second, .val (.long (f1_0 ((f1_0 ((f1_0 ((f1_0 ((x0.toInt64) + (j1 &&& (4294967295 : Int64))) (2147483647 : Int64)) + ((j1.toUInt64 >>> ((32 : Int32) &&& 0x3f).toInt64.toUInt64).toInt64)) (2147483647 : Int64)) + (j3 &&& (4294967295 : Int64))) (2147483647 : Int64)) + ((j3.toUInt64 >>> ((32 : Int32) &&& 0x3f).toInt64.toUInt64).toInt64)) (2147483647 : Int64))), .second, .unset, .unset, .unset, .unset, .unset, .unset]) rfl ?_
  exact kt
theorem own_min (x y : Int64) : (f1_0 x y).toInt = if x.toInt ≤ y.toInt then x.toInt else y.toInt := by
  rw [f1_0]
  by_cases h : (0 : Int32) < lcmpW x y
  · rw [if_pos h]
    rw [lw_gt, Int64.lt_iff_toInt_lt] at h
    rw [if_neg (by omega)]; rfl
  · rw [if_neg h]
    rw [lw_gt, Int64.lt_iff_toInt_lt] at h
    rw [if_pos (by omega)]; rfl
/-- one link: what is added isn't negative, the sum doesn't wrap, the least of it and the greatest int -/
theorem own_link (x g : Int64) (hx : -2147483648 ≤ x.toInt ∧ x.toInt ≤ 2147483647) (hg : 0 ≤ g.toInt ∧ g.toInt < 4294967296) : x.toInt ≤ (f1_0 (x + g) (2147483647 : Int64)).toInt ∧ (f1_0 (x + g) (2147483647 : Int64)).toInt ≤ 2147483647 := by
  have h1 := c_ladd x g
  have h2 := rng64 (x + g)
  have e : (2147483647 : Int64).toInt = 2147483647 := by decide
  have h3 : (x + g).toInt = x.toInt + g.toInt := by omega
  rw [own_min, e, h3]
  split <;> omega
theorem own_low (g : Int64) : 0 ≤ (g &&& (4294967295 : Int64)).toInt ∧ (g &&& (4294967295 : Int64)).toInt < 4294967296 := by
  have h := c_maskL g (4294967295 : Int64) 32 (by decide) (by decide)
  rw [h]; omega
theorem own_high (g : Int64) : 0 ≤ ((g.toUInt64 >>> ((32 : Int32) &&& 0x3f).toInt64.toUInt64).toInt64).toInt ∧ ((g.toUInt64 >>> ((32 : Int32) &&& 0x3f).toInt64.toUInt64).toInt64).toInt < 4294967296 := by
  have h := c_lushr g (32 : Int32) 32 (by decide) (by decide)
  rw [h]; omega
theorem own_l2i (x y : Int64) (hx : -2147483648 ≤ x.toInt) (hxy : x.toInt ≤ y.toInt) (hy : y.toInt ≤ 2147483647) : x.toInt32 ≤ y.toInt32 := by
  have h1 := c_l2i x
  have h2 := c_l2i y
  have r1 := rng32 x.toInt32
  have r2 := rng32 y.toInt32
  rw [Int32.le_iff_toInt_le]; omega
theorem own_chain (x0 : Int32) (j1 j3 : Int64) : own_sorted ((x0.toInt64).toInt32) ((f1_0 ((x0.toInt64) + (j1 &&& (4294967295 : Int64))) (2147483647 : Int64)).toInt32) ((f1_0 ((f1_0 ((x0.toInt64) + (j1 &&& (4294967295 : Int64))) (2147483647 : Int64)) + ((j1.toUInt64 >>> ((32 : Int32) &&& 0x3f).toInt64.toUInt64).toInt64)) (2147483647 : Int64)).toInt32) ((f1_0 ((f1_0 ((f1_0 ((x0.toInt64) + (j1 &&& (4294967295 : Int64))) (2147483647 : Int64)) + ((j1.toUInt64 >>> ((32 : Int32) &&& 0x3f).toInt64.toUInt64).toInt64)) (2147483647 : Int64)) + (j3 &&& (4294967295 : Int64))) (2147483647 : Int64)).toInt32) ((f1_0 ((f1_0 ((f1_0 ((f1_0 ((x0.toInt64) + (j1 &&& (4294967295 : Int64))) (2147483647 : Int64)) + ((j1.toUInt64 >>> ((32 : Int32) &&& 0x3f).toInt64.toUInt64).toInt64)) (2147483647 : Int64)) + (j3 &&& (4294967295 : Int64))) (2147483647 : Int64)) + ((j3.toUInt64 >>> ((32 : Int32) &&& 0x3f).toInt64.toUInt64).toInt64)) (2147483647 : Int64)).toInt32) := by
  have r0 := rng32 x0
  have c0 := c_i2l x0
  have b0 : -2147483648 ≤ x0.toInt64.toInt ∧ x0.toInt64.toInt ≤ 2147483647 := by omega
  have l1 := own_link x0.toInt64 _ b0 (own_low j1)
  have b1 := own_link _ _ ⟨Int.le_trans b0.1 l1.1, l1.2⟩ (own_high j1)
  have b2 := own_link _ _ ⟨Int.le_trans (Int.le_trans b0.1 l1.1) b1.1, b1.2⟩ (own_low j3)
  have b3 := own_link _ _ ⟨Int.le_trans (Int.le_trans (Int.le_trans b0.1 l1.1) b1.1) b2.1, b2.2⟩ (own_high j3)
  exact ⟨own_l2i _ _ b0.1 l1.1 l1.2, own_l2i _ _ (Int.le_trans b0.1 l1.1) b1.1 b1.2, own_l2i _ _ (Int.le_trans (Int.le_trans b0.1 l1.1) b1.1) b2.1 b2.2, own_l2i _ _ (Int.le_trans (Int.le_trans (Int.le_trans b0.1 l1.1) b1.1) b2.1) b3.1 b3.2⟩
theorem own_law (x0 : Int32) (j1 j3 : Int64) (x5 x6 : Int32) : own_F x0 j1 j3 x5 x6 = 1 := by
  rw [own_F, f0_67, f0_107, f0_142, own_res, if_pos rfl]
  rfl
set_option maxRecDepth 65536 in
set_option maxHeartbeats 40000000 in
theorem comes_1 {Post : Tables → Env → Array Value → State → Outcome → State → Prop} (hpost : ∀ tb e args s v u, (limb_1_1.after args s (.returned v) u = true ∧ limb_1_2.after args s (.returned v) u = true ∧ True) → FrameEnd s (.returned v) u (Jvm.fieldLocs frame_1_writes args s ++ Jvm.arrayLocs frame_1_arrays args s ++ Jvm.staticLocs frame_1_statics s) 16 128 → Post tb e args s (.returned v) u) :
    ArmFor flags0 classFile x code maxLocals ret World_1 tables_1 room_1 Calls_1 rest_1 Pre_1 Post := by
  intro l hfl _ _ p e ha hc hk s m args below hf hA hF happ hP
  obtain ⟨hcalls, hrest, hpre⟩ := hP
  obtain ⟨-, -, -, hnamed, -, -, -, hat⟩ := (Spec.applies_iff hf).mp happ
  obtain ⟨hg, hn⟩ := and_e (Cond.before_iff.mp (show (Jvm.Cond.and given_1 narrow_1).before args s = true from hpre))
  obtain ⟨gc, g0⟩ := and_e hg
  obtain ⟨q0, g1⟩ := and_e g0
  obtain ⟨q1, g2⟩ := and_e g1
  obtain ⟨q2, g3⟩ := and_e g2
  obtain ⟨q3, g4⟩ := and_e g3
  obtain ⟨w0, w1, w2, w3, w4, rfl⟩ : ∃ w0 w1 w2 w3 w4 : Value, args = #[w0, w1, w2, w3, w4] := by
    have hs : args.size = 5 := by simpa [Cond.value, given_1] using gc
    obtain ⟨L⟩ := args
    match L, hs with
    | [w0, w1, w2, w3, w4], _ => exact ⟨w0, w1, w2, w3, w4, rfl⟩
  have hw := fun d (hd : d ∈ tables_1) => atoms_spec (ws := Jvm.Cond.code x code maxLocals ret :: tables_1) hat d (List.mem_cons_of_mem _ hd)
  obtain ⟨i0, ei0⟩ := is_v q0
  obtain rfl : w0 = (.int i0) := Option.some.inj ei0
  obtain ⟨i1, ei1⟩ := isL_v q1
  obtain rfl : w1 = (.long i1) := Option.some.inj ei1
  obtain ⟨i2, ei2⟩ := isL_v q2
  obtain rfl : w2 = (.long i2) := Option.some.inj ei2
  obtain ⟨i3, ei3⟩ := is_v q3
  obtain rfl : w3 = (.int i3) := Option.some.inj ei3
  obtain ⟨i4, ei4⟩ := is_v g4
  obtain rfl : w4 = (.int i4) := Option.some.inj ei4
  obtain ⟨n, o, h1, h2, h3, _, L, rfl, ⟨rfl, N⟩, hq⟩ := rm0 l s _ hw tables_1 i0 i1 i2 i3 i4 s.heap s.heap.size (Nat.le_refl _) (own_law i0 i1 i2 i3 i4) (own_chain i0 i1 i2) p e ha hc hk s m _ below hf ((Spec.applies_iff_loose hf).mp happ).1 ⟨rfl, State.Warmed39.refl s, rfl⟩ trivial
  refine ⟨n, _, h1, h2, h3, hpost _ _ _ _ _ _ ⟨Cond.after_iff.mpr rfl, Cond.after_iff.mpr (eq_i res_at (Term.int_eval (1)) rfl), trivial⟩ ⟨hq.1, hq.2.1, (hq.2.2.sift fun y hy => Or.inr (N y hy)).mono (by decide) (by decide)⟩⟩
theorem main_1_1 : Claimed_1_1 := comes_1 fun _ _ _ _ _ _ h hF => ⟨h.1, hF⟩
theorem main_1_2 : Claimed_1_2 := comes_1 fun _ _ _ _ _ _ h hF => ⟨h.2.1, hF⟩
end Jvm.Pilot.@@N@@
namespace Jvm.Pilot.@@N@@
open Jvm Jvm.ClassFile Sem Op Lib Jvm.Free Jvm.Stand Jvm.Pilot.@@N@@.Jvm.D
/-! MADE BY PROGRAM (witnessworld.py) out of the Statement's table words and the real class files: 10 classes; the members and pool entries that the words name. The judged class is class 1, her method 2. -/
namespace start1
open Jvm.ClassFile
def u (s : String) : CpInfo := .utf8 (stringToUtf16 s)
/-- a pool by its gaps: so many unusable entries, then the entry; so many at the end -/
def gap : Nat → List CpInfo → List CpInfo
  | 0, r => r
  | n + 1, r => .unusable :: gap n r
def poolList (es : List (Nat × CpInfo)) (last : Nat) : List CpInfo := es.foldr (fun e r => gap e.1 (e.2 :: r)) (gap last [])
def pool (es : List (Nat × CpInfo)) (last : Nat) : Array CpInfo := ⟨poolList es last⟩
def fileOf (pool : Array CpInfo) (this : Nat) (attrs : Array Attribute := #[]) (ms : Array MethodInfo := #[]) (fl : Nat := 33) (sup : Nat := 0) (ifs : Array Nat := #[]) (fds : Array FieldInfo := #[]) : ClassFile where
  minorVersion := 0
  majorVersion := 65
  constantPool := pool
  accessFlags := fl
  thisClass := this
  superClass := sup
  interfaces := ifs
  fields := fds
  methods := ms
  attributes := attrs
def plain (name : String) (sup : Option ClassId) : Class where
  name := name
  kind := .ordinary
  loader := none
  accessFlags := 33
  super := sup
  interfaces := #[]
  cf := none
  fields := #[]
  methods := #[]
  instanceTypes := #[]
  staticTypes := #[]
  resolved := #[]
  callSites := []
  init := .initialized
  statics := none
  mirror := none

def pool0 : Array CpInfo := pool [(5, u "<init>"), (0, u "()V"), (1, .class_ 10), (1, u "java/lang/Object")] 113

def k0m0 : Method := { name := "<init>", desc := "()V", sig := { parameters := [], returnType := none }, accessFlags := 1, code := none }
/-- java/lang/Object -/
def k0 : Class := { plain "java/lang/Object" none with
  accessFlags := 33
  interfaces := #[]
  cf := some (fileOf pool0 8 #[] #[{ accessFlags := 1, nameIndex := 5, descriptorIndex := 6, attributes := #[] }] 33 0 #[] #[])
  fields := #[]
  methods := #[k0m0]
  instanceTypes := #[]
  staticTypes := #[]
  resolved := Array.replicate 124 none
  statics := none }

def pool1 : Array CpInfo := pool [(2, .class_ 4), (1, u "java/lang/Object"), (0, u "<init>"), (0, u "()V"), (2, .long 2147483647), (1, .long 4294967295), (1, .methodref 14 15), (0, .class_ 16), (0, .nameAndType 17 18), (0, u "java/lang/Math"), (0, u "min"), (0, u "(JJ)J"), (0, .methodref 20 21), (0, .class_ 22), (0, .nameAndType 23 24), (0, u "com/example/shape_trees/shapetrees/xslt/ImportOrderFirstAtLeastPinLaw"), (0, u "below"), (0, u "(IIIII)I"), (0, .methodref 26 27), (0, .class_ 28), (0, .nameAndType 29 30), (0, u "com/example/shape_trees/shapetrees/xslt/ImportOrder"), (0, u "firstAtLeast"), (0, u "([IIII)I"), (3, u "law"), (0, u "(IJJII)Z")] 4

def k1m0 : Method := { name := "<init>", desc := "()V", sig := { parameters := [], returnType := none }, accessFlags := 2, code := none }
def k1c1 : Code := { maxStack := 2, maxLocals := 5, code := method_2_code, exceptionTable := #[], attributes := #[] }
def k1m1 : Method := { name := "below", desc := "(IIIII)I", sig := { parameters := [.int, .int, .int, .int, .int], returnType := some .int }, accessFlags := 10, code := some k1c1 }
def k1c2 : Code := { maxStack := 6, maxLocals := 25, code := code, exceptionTable := #[], attributes := #[] }
def k1m2 : Method := { name := "law", desc := "(IJJII)Z", sig := { parameters := [.int, .long, .long, .int, .int], returnType := some .boolean }, accessFlags := 9, code := some k1c2 }
/-- com/example/shape_trees/shapetrees/xslt/ImportOrderFirstAtLeastPinLaw -/
def k1 : Class := { plain "com/example/shape_trees/shapetrees/xslt/ImportOrderFirstAtLeastPinLaw" (some 0) with
  accessFlags := 49
  interfaces := #[]
  cf := some (fileOf pool1 20 #[] #[{ accessFlags := 2, nameIndex := 5, descriptorIndex := 6, attributes := #[] }, { accessFlags := 10, nameIndex := 23, descriptorIndex := 24, attributes := #[] }, { accessFlags := 9, nameIndex := 34, descriptorIndex := 35, attributes := #[] }] 49 2 #[] #[])
  fields := #[]
  methods := #[k1m0, k1m1, k1m2]
  instanceTypes := #[]
  staticTypes := #[]
  resolved := Array.replicate 40 none
  statics := none }

def pool2 : Array CpInfo := pool [(1, .class_ 2), (0, u "java/lang/Math"), (1, .class_ 6), (1, u "java/lang/Object"), (0, u "<init>"), (0, u "()V"), (89, .class_ 100), (1, u "java/lang/Math$RandomNumberGeneratorHolder"), (20, u "(JJ)J"), (50, u "negativeZeroFloatBits"), (0, u "J"), (2, u "negativeZeroDoubleBits"), (24, u "min"), (43, u "$assertionsDisabled"), (0, u "Z"), (91, u "twoToTheDoubleScaleDown"), (0, u "D"), (4, u "twoToTheDoubleScaleUp"), (9, u "E"), (3, u "PI"), (2, u "TAU"), (2, u "DEGREES_TO_RADIANS"), (0, u "RADIANS_TO_DEGREES")] 94

def k2m0 : Method := { name := "<init>", desc := "()V", sig := { parameters := [], returnType := none }, accessFlags := 2, code := none }
def k2c1 : Code := { maxStack := 4, maxLocals := 4, code := jdk_29_method_70_code, exceptionTable := #[], attributes := #[] }
def k2m1 : Method := { name := "min", desc := "(JJ)J", sig := { parameters := [.long, .long], returnType := some .long }, accessFlags := 9, code := some k2c1 }
/-- java/lang/Math -/
def k2 : Class := { plain "java/lang/Math" (some 0) with
  accessFlags := 49
  interfaces := #[]
  cf := some (fileOf pool2 1 #[.nestMembers #[98]] #[{ accessFlags := 2, nameIndex := 7, descriptorIndex := 8, attributes := #[] }, { accessFlags := 9, nameIndex := 201, descriptorIndex := 121, attributes := #[] }] 49 4 #[] #[{ accessFlags := 25, nameIndex := 354, descriptorIndex := 339, attributes := #[] }, { accessFlags := 25, nameIndex := 358, descriptorIndex := 339, attributes := #[] }, { accessFlags := 25, nameIndex := 361, descriptorIndex := 339, attributes := #[] }, { accessFlags := 26, nameIndex := 364, descriptorIndex := 339, attributes := #[] }, { accessFlags := 26, nameIndex := 365, descriptorIndex := 339, attributes := #[] }, { accessFlags := 26, nameIndex := 172, descriptorIndex := 173, attributes := #[] }, { accessFlags := 26, nameIndex := 176, descriptorIndex := 173, attributes := #[] }, { accessFlags := 8, nameIndex := 344, descriptorIndex := 339, attributes := #[] }, { accessFlags := 8, nameIndex := 338, descriptorIndex := 339, attributes := #[] }, { accessFlags := 4120, nameIndex := 245, descriptorIndex := 246, attributes := #[] }])
  fields := #[{ name := "E", type := .double, accessFlags := 25, slot := 0, constantValue := 0 }, { name := "PI", type := .double, accessFlags := 25, slot := 1, constantValue := 0 }, { name := "TAU", type := .double, accessFlags := 25, slot := 2, constantValue := 0 }, { name := "DEGREES_TO_RADIANS", type := .double, accessFlags := 26, slot := 3, constantValue := 0 }, { name := "RADIANS_TO_DEGREES", type := .double, accessFlags := 26, slot := 4, constantValue := 0 }, { name := "negativeZeroFloatBits", type := .long, accessFlags := 26, slot := 5, constantValue := 0 }, { name := "negativeZeroDoubleBits", type := .long, accessFlags := 26, slot := 6, constantValue := 0 }, { name := "twoToTheDoubleScaleUp", type := .double, accessFlags := 8, slot := 7, constantValue := 0 }, { name := "twoToTheDoubleScaleDown", type := .double, accessFlags := 8, slot := 8, constantValue := 0 }, { name := "$assertionsDisabled", type := .boolean, accessFlags := 4120, slot := 9, constantValue := 0 }]
  methods := #[k2m0, k2m1]
  instanceTypes := #[]
  staticTypes := #[.double, .double, .double, .double, .double, .long, .long, .double, .double, .boolean]
  resolved := Array.replicate 460 none
  statics := none }

def pool3 : Array CpInfo := pool [(2, .class_ 4), (1, u "java/lang/Object"), (3, .class_ 10), (1, u "com/example/shape_trees/shapetrees/xslt/ImportOrder"), (0, u "layout"), (0, u "Lcom/example/shape_trees/shapetrees/xslt/ImportLayout;"), (8, u "leadingImports"), (0, u "[I"), (2, u "width"), (0, u "I"), (2, u "nextPlaceMaxima"), (16, .class_ 47), (0, u "com/example/shape_trees/shapetrees/xslt/ImportOrder$Walk"), (11, u "firstAtLeast"), (0, u "([IIII)I"), (17, .class_ 79), (0, u "com/example/shape_trees/shapetrees/xslt/ImportOrder$WalkedParts")] 3

def k3c0 : Code := { maxStack := 2, maxLocals := 7, code := prog_235_method_6_code, exceptionTable := #[], attributes := #[] }
def k3m0 : Method := { name := "firstAtLeast", desc := "([IIII)I", sig := { parameters := [(.array .int), .int, .int, .int], returnType := some .int }, accessFlags := 8, code := some k3c0 }
/-- com/example/shape_trees/shapetrees/xslt/ImportOrder -/
def k3 : Class := { plain "com/example/shape_trees/shapetrees/xslt/ImportOrder" (some 0) with
  accessFlags := 48
  interfaces := #[]
  cf := some (fileOf pool3 8 #[.nestMembers #[78, 46]] #[{ accessFlags := 8, nameIndex := 59, descriptorIndex := 60, attributes := #[] }] 48 2 #[] #[{ accessFlags := 18, nameIndex := 11, descriptorIndex := 12, attributes := #[] }, { accessFlags := 18, nameIndex := 21, descriptorIndex := 22, attributes := #[] }, { accessFlags := 18, nameIndex := 25, descriptorIndex := 26, attributes := #[] }, { accessFlags := 18, nameIndex := 29, descriptorIndex := 22, attributes := #[] }])
  fields := #[{ name := "layout", type := (.object "com/example/shape_trees/shapetrees/xslt/ImportLayout"), accessFlags := 18, slot := 0, constantValue := 0 }, { name := "leadingImports", type := (.array .int), accessFlags := 18, slot := 1, constantValue := 0 }, { name := "width", type := .int, accessFlags := 18, slot := 2, constantValue := 0 }, { name := "nextPlaceMaxima", type := (.array .int), accessFlags := 18, slot := 3, constantValue := 0 }]
  methods := #[k3m0]
  instanceTypes := #[(.object "com/example/shape_trees/shapetrees/xslt/ImportLayout"), (.array .int), .int, (.array .int)]
  staticTypes := #[]
  resolved := Array.replicate 83 none
  statics := none }

def pool4 : Array CpInfo := pool [(1, u "java/lang/Cloneable"), (0, .class_ 1), (0, u "java/lang/Object"), (0, .class_ 3)] 3

/-- java/lang/Cloneable -/
def k4 : Class := { plain "java/lang/Cloneable" (some 0) with
  accessFlags := 1537
  interfaces := #[]
  cf := some (fileOf pool4 2 #[] #[] 1537 4 #[] #[])
  fields := #[]
  methods := #[]
  instanceTypes := #[]
  staticTypes := #[]
  resolved := Array.replicate 8 none
  statics := none }

def pool5 : Array CpInfo := pool [(1, u "java/io/Serializable"), (0, .class_ 1), (0, u "java/lang/Object"), (0, .class_ 3)] 3

/-- java/io/Serializable -/
def k5 : Class := { plain "java/io/Serializable" (some 0) with
  accessFlags := 1537
  interfaces := #[]
  cf := some (fileOf pool5 2 #[] #[] 1537 4 #[] #[])
  fields := #[]
  methods := #[]
  instanceTypes := #[]
  staticTypes := #[]
  resolved := Array.replicate 8 none
  statics := none }

/-- the primitive byte -/
def k6 : Class := { plain "byte" none with kind := .primitive 'B', accessFlags := 0x411 }
/-- [B -/
def k7 : Class := { plain "[B" (some 0) with kind := .array 6 .byte, interfaces := #[4, 5], accessFlags := 1041 }

/-- the primitive int -/
def k8 : Class := { plain "int" none with kind := .primitive 'I', accessFlags := 0x411 }
/-- [I -/
def k9 : Class := { plain "[I" (some 0) with kind := .array 8 .int, interfaces := #[4, 5], accessFlags := 1041 }

def heap : Heap := #[]
def classes : Array Class := #[k0, k1, k2, k3, k4, k5, k6, k7, k8, k9]
def interned : List (Array UInt16 × Addr) := []
def slotsUsed : Nat := 0
def theMethod : MethodId := ⟨1, 2⟩
def args0 : Array Value := #[.int 5, .long 7, .long 9, .int 3, .int 300]
def aboutOver (below : List Frame) : State where
  vm := { classes := classes, interned := interned.toArray }
  heap := heap
  slotsUsed := slotsUsed
  threads := #[{ frames := .invoking theMethod args0 :: below }]
def below0 : List Frame := [.native { method := ⟨0, 0⟩, args := #[] }]
def about1 : State := aboutOver below0
def p0 : Program := .bare "" "" ""
def e0 : Env := launch0.env 0 0 0
theorem w_frames : about1.frames = Frame.invoking theMethod args0 :: below0 := rfl
set_option maxRecDepth 65536 in
theorem w_args : argsFit about1.vm theMethod args0 = true := by decide +kernel
set_option maxRecDepth 65536 in
theorem w_heap : heapFits about1 = true := by decide +kernel
set_option maxRecDepth 65536 in
theorem w_runnable : about1.curStatus? = some .runnable := by decide +kernel
set_option maxRecDepth 65536 in
theorem w_alone : about1.alone = true := by decide +kernel
set_option maxRecDepth 65536 in
theorem w_named : about1.methodNamed? x = some theMethod := by decide +kernel
set_option maxRecDepth 65536 in
theorem w_hears : about1.hears theMethod below0 = true := by decide +kernel
set_option maxRecDepth 65536 in
theorem w_ripe : about1.ripe theMethod args0 below0 = true := by decide +kernel
theorem w_running : about1.status = .running := rfl
set_option maxRecDepth 65536 in
theorem w_room : about1.hasRoom e0.platform room_1 = true :=
  launch0.hasRoom_least _ room_1 (by decide +kernel) (by decide +kernel) (by decide +kernel) (by decide +kernel) (by decide +kernel) (by decide +kernel)
theorem allAtoms_all (ts : List Jvm.Cond) (a : Array Jvm.Value) (st : Jvm.State) : (allAtoms ts).before a st = ts.all (fun c => c.before a st) := by
  induction ts with
  | nil => rfl
  | cons c t ih =>
    show (Jvm.Cond.and c (allAtoms t)).before a st = _
    rw [Jvm.Cond.before_and, ih, List.all_cons]
def words1 : List Jvm.Cond := Jvm.Cond.code x code maxLocals ret :: tables_1
/-- a 'code' word, met by the world's own term for the bytes: nothing is compared byte by byte -/
theorem code_word {y : MethodName} {bytes : ByteArray} {mx : Nat} {rt : Option FieldType} {a : Array Value} {s : State} {m : MethodId} {meth : Method} {c : Code} (h1 : s.methodNamed? y = some m) (h2 : s.vm.method? m = some meth) (h3 : meth.code = some c) (h4 : c.code = bytes)
    (h5 : (c.maxLocals == mx && c.exceptionTable.isEmpty && decide (c.maxStack ≤ mostOperands) && decide (meth.sig.returnType = rt) && !meth.locks && decide (parseMethodDescriptor y.desc = some meth.sig)) = true) : (Jvm.Cond.code y bytes mx rt).before a s = true := by
  simp only [Bool.and_eq_true, beq_iff_eq, Bool.not_eq_true', decide_eq_true_eq] at h5
  obtain ⟨⟨⟨⟨⟨g1, g2⟩, g3⟩, g4⟩, g5⟩, g6⟩ := h5
  simp [Cond.before, Cond.holds, Cond.value, h1, h2, h3, h4, g1, g2, g3, g4, g5, g6]
def isCode : Jvm.Cond → Bool
  | .code _ _ _ _ => true
  | _ => false
theorem all_split {L : List Jvm.Cond} {P : Jvm.Cond → Bool} (h1 : L.all (fun c => isCode c || P c) = true) (h2 : ∀ c ∈ L.filter isCode, P c = true) : L.all P = true := by
  refine List.all_eq_true.mpr fun c hc => ?_
  have h := List.all_eq_true.mp h1 c hc
  rcases Bool.eq_false_or_eq_true (isCode c) with hi | hi
  · exact h2 c (List.mem_filter.mpr ⟨hc, hi⟩)
  · simpa [hi] using h
set_option maxRecDepth 65536 in
theorem w_c0 : (Jvm.Cond.code x code maxLocals ret).before args0 about1 = true := code_word (m := ⟨1, 2⟩) (meth := k1m2) (c := k1c2) (by decide +kernel) rfl rfl rfl (by decide +kernel)
set_option maxRecDepth 65536 in
theorem w_c1 : (Jvm.Cond.code ({ cls := "java/lang/Math", name := "min", desc := "(JJ)J" } : Jvm.MethodName) jdk_29_method_70_code (4 : Nat) (Option.some Jvm.ClassFile.FieldType.long)).before args0 about1 = true := code_word (m := ⟨2, 1⟩) (meth := k2m1) (c := k2c1) (by decide +kernel) rfl rfl rfl (by decide +kernel)
set_option maxRecDepth 65536 in
theorem w_c2 : (Jvm.Cond.code ({ cls := "com/example/shape_trees/shapetrees/xslt/ImportOrderFirstAtLeastPinLaw", name := "below", desc := "(IIIII)I" } : Jvm.MethodName) method_2_code (5 : Nat) (Option.some Jvm.ClassFile.FieldType.int)).before args0 about1 = true := code_word (m := ⟨1, 1⟩) (meth := k1m1) (c := k1c1) (by decide +kernel) rfl rfl rfl (by decide +kernel)
set_option maxRecDepth 65536 in
theorem w_c3 : (Jvm.Cond.code ({ cls := "com/example/shape_trees/shapetrees/xslt/ImportOrder", name := "firstAtLeast", desc := "([IIII)I" } : Jvm.MethodName) prog_235_method_6_code (7 : Nat) (Option.some Jvm.ClassFile.FieldType.int)).before args0 about1 = true := code_word (m := ⟨3, 0⟩) (meth := k3m0) (c := k3c0) (by decide +kernel) rfl rfl rfl (by decide +kernel)
def codes1 : List Jvm.Cond := [Jvm.Cond.code x code maxLocals ret, Jvm.Cond.code ({ cls := "java/lang/Math", name := "min", desc := "(JJ)J" } : Jvm.MethodName) jdk_29_method_70_code (4 : Nat) (Option.some Jvm.ClassFile.FieldType.long), Jvm.Cond.code ({ cls := "com/example/shape_trees/shapetrees/xslt/ImportOrderFirstAtLeastPinLaw", name := "below", desc := "(IIIII)I" } : Jvm.MethodName) method_2_code (5 : Nat) (Option.some Jvm.ClassFile.FieldType.int), Jvm.Cond.code ({ cls := "com/example/shape_trees/shapetrees/xslt/ImportOrder", name := "firstAtLeast", desc := "([IIII)I" } : Jvm.MethodName) prog_235_method_6_code (7 : Nat) (Option.some Jvm.ClassFile.FieldType.int)]
set_option maxRecDepth 65536 in
theorem codes_eq : words1.filter isCode = codes1 := rfl
theorem w_codes : ∀ c ∈ words1.filter isCode, c.before args0 about1 = true := by
  rw [codes_eq]
  intro c hc
  simp only [codes1, List.mem_cons, List.not_mem_nil, or_false] at hc
  rcases hc with rfl | rfl | rfl | rfl
  · exact w_c0
  · exact w_c1
  · exact w_c2
  · exact w_c3
set_option maxRecDepth 65536 in
theorem w_t1 : words1.all (fun c => isCode c || c.before args0 about1) = true := by decide +kernel
theorem w_tables : (allAtoms (Jvm.Cond.code x code maxLocals ret :: tables_1)).before args0 about1 = true := by
  rw [allAtoms_all]
  show words1.all (fun c => c.before args0 about1) = true
  refine all_split ?_ w_codes
  rw [w_t1]
set_option maxRecDepth 65536 in
theorem w_case : (Jvm.Cond.and given_1 narrow_1).before args0 about1 = true := by decide +kernel
theorem w_applies : (headSpec (Jvm.Cond.code x code maxLocals ret :: tables_1) room_1).applies x e0.platform about1 = true :=
  (Spec.applies_iff w_frames).mpr ⟨w_running, w_runnable, w_alone, w_named, w_hears, w_ripe, w_room, w_tables⟩
theorem atStart : AtStart classFile x code maxLocals ret World_1 tables_1 room_1 Calls_1 rest_1 Pre_1 launch0 p0 e0 about1 theMethod args0 below0 :=
  ⟨lists_1, trivial, launch0.admits_env _ _ _, launch0.least_env, fairChoices_fair.cas, fairChoices_fair.clock, w_frames, w_args, w_heap, w_applies, trivial, trivial, w_case⟩
end start1
theorem witness_1 : WitnessClaimed_1 := ⟨start1.p0, start1.e0, start1.about1, start1.theMethod, start1.args0, start1.below0, start1.atStart⟩
end Jvm.Pilot.@@N@@
