import JvmDerived
import JvmDerived.Pilot.@@N@@Statement
import JvmDerived.Pilot.@@N@@Code
set_option linter.unusedVariables false
set_option linter.unusedSimpArgs false
namespace Jvm.Pilot.@@N@@
open Jvm Jvm.ClassFile Sem Op Lib Jvm.Free Jvm.Stand Jvm.LawKit Jvm.RoadKit Bundle Jvm.Pilot.@@N@@.Jvm.D
section Own
variable {p : Program} {l : Launch} {e : Env} {R : Room} {s : State} {m : MethodId} {args : Array Value} {below : List Frame} {meth : Method} {c : Code} {T : State} {locs : List Loc} {cells slots : Nat} {n0 kc ks : Nat} {P : Option Value → Heap → Prop}
/-- what a body leaves: P of its value and heap; nothing that stood at the start was written -/
def own_Q (P : Option Value → Heap → Prop) (n0 : Nat) (v : Option Value) (h : Heap) (L : List Loc) : Prop := P v h ∧ Fr n0 L
/-- the run comes from S to the end of this invocation -/
def own_Goes (p : Program) (e : Env) (below : List Frame) (s : State) (n0 kc ks : Nat) (P : Option Value → Heap → Prop) (S : State) : Prop :=
  ∃ s₂ o, Steps p.tables e below S s₂ ∧ s₂.status = .running ∧ Ended s₂ below o ∧ ∃ v L, o = .returned v ∧ own_Q P n0 v s₂.heap L ∧ FrameEnd s o s₂ L kc ks
theorem own_Goes.pre {S S' : State} (h : ∀ t, Steps p.tables e below S' t → Steps p.tables e below S t) (g : own_Goes p e below s n0 kc ks P S') : own_Goes p e below s n0 kc ks P S := by
  obtain ⟨t, o, st, r⟩ := g
  exact ⟨t, o, h t st, r⟩
theorem own_retW (X : Stand p l e R s m args below meth c T locs cells slots) (hx : p.tables.exec = Jvm.exec) (hlk : meth.locks = false) {pc : Nat} {Ls : Array Slot} {w : Value} {t : FieldType} {i : Instr} {rest : List Value} (hret : meth.sig.returnType = some t) (hn : narrow t w = w)
    (hi : (i = .ireturn ∧ (t = .int ∨ t = .boolean ∨ t = .byte ∨ t = .char ∨ t = .short) ∧ ∃ z, w = .int z) ∨ (i = .lreturn ∧ t = .long ∧ ∃ z, w = .long z) ∨ (i = .dreturn ∧ t = .double ∧ ∃ z, w = .double z) ∨ (i = .freturn ∧ t = .float ∧ ∃ z, w = .float z) ∨ (i = .areturn ∧ t.isReference = true ∧ w.isRef = true))
    (hd : decode c.code pc = .ok (i, 1)) (N : Fr n0 locs) (hP : P (some w) T.heap) (hc : cells ≤ kc) (hs : slots ≤ ks) : own_Goes p e below s n0 kc ks P (T.setTop (mkF m pc Ls (w :: rest))) := by
  obtain ⟨fs, hr, hrun, hended, hW, hsame⟩ := X.leave (v := some w) (fun h => by rw [hret] at h; cases h)
  exact ⟨_, _, retOut X hx hret hn hi hd hr, hrun, hended, _, _, rfl, ⟨hP, N⟩, ⟨_, rfl⟩, hW, hsame.mono hc hs⟩
theorem own_retI (X : Stand p l e R s m args below meth c T locs cells slots) (hx : p.tables.exec = Jvm.exec) (hlk : meth.locks = false) {pc : Nat} {Ls : Array Slot} {z : Int32} {rest : List Value} (hret : meth.sig.returnType = some .int)
    (hd : decode c.code pc = .ok (.ireturn, 1)) (N : Fr n0 locs) (hP : P (some (.int z)) T.heap) (hc : cells ≤ kc) (hs : slots ≤ ks) : own_Goes p e below s n0 kc ks P (T.setTop (mkF m pc Ls (.int z :: rest))) :=
  own_retW X hx hlk hret rfl (Or.inl ⟨rfl, Or.inl rfl, _, rfl⟩) hd N hP hc hs
theorem own_retJ (X : Stand p l e R s m args below meth c T locs cells slots) (hx : p.tables.exec = Jvm.exec) (hlk : meth.locks = false) {pc : Nat} {Ls : Array Slot} {z : Int64} {rest : List Value} (hret : meth.sig.returnType = some .long)
    (hd : decode c.code pc = .ok (.lreturn, 1)) (N : Fr n0 locs) (hP : P (some (.long z)) T.heap) (hc : cells ≤ kc) (hs : slots ≤ ks) : own_Goes p e below s n0 kc ks P (T.setTop (mkF m pc Ls (.long z :: rest))) :=
  own_retW X hx hlk hret rfl (Or.inr (Or.inl ⟨rfl, rfl, _, rfl⟩)) hd N hP hc hs
theorem own_retN (X : Stand p l e R s m args below meth c T locs cells slots) (hx : p.tables.exec = Jvm.exec) (hlk : meth.locks = false) {pc : Nat} {Ls : Array Slot} {z : Int32} {t : FieldType} {rest : List Value} (hret : meth.sig.returnType = some t) (ht : t = .boolean ∨ t = .byte ∨ t = .char ∨ t = .short)
    (hd : decode c.code pc = .ok (.ireturn, 1)) (N : Fr n0 locs) (hP : P (some (.int (nar t z))) T.heap) (hc : cells ≤ kc) (hs : slots ≤ ks) : own_Goes p e below s n0 kc ks P (T.setTop (mkF m pc Ls (.int z :: rest))) := by
  obtain ⟨fs, hr, hrun, hended, hW, hsame⟩ := X.leave (v := some (.int (nar t z))) (fun h => by rw [hret] at h; cases h)
  exact ⟨_, _, retN X hx hret ht hd hr, hrun, hended, _, _, rfl, ⟨hP, N⟩, ⟨_, rfl⟩, hW, hsame.mono hc hs⟩
theorem own_retV (X : Stand p l e R s m args below meth c T locs cells slots) (hx : p.tables.exec = Jvm.exec) (hlk : meth.locks = false) {pc : Nat} {Ls : Array Slot} (hret : meth.sig.returnType = none)
    (hd : decode c.code pc = .ok (.return_, 1)) (N : Fr n0 locs) (hP : P none T.heap) (hc : cells ≤ kc) (hs : slots ≤ ks) : own_Goes p e below s n0 kc ks P (T.setTop (mkF m pc Ls [])) := by
  obtain ⟨fs, hr, hrun, hended, hW, hsame⟩ := X.leave (v := none) (fun _ => rfl)
  exact ⟨_, _, X.returnOut hx hret hd hr, hrun, hended, _, _, rfl, ⟨hP, N⟩, ⟨_, rfl⟩, hW, hsame.mono hc hs⟩
/-- the value w comes back, the heap as it was -/
def own_val (w : Value) (h0 : Heap) (v : Option Value) (h : Heap) : Prop := v = some w ∧ h = h0
def own_one (v : Option Value) (_ : Heap) : Prop := v = some (.int (1 : Int32))
end Own
theorem own_out {i : Int32} (h0 : ¬ i = 0) (h1 : ¬ i = 1) (h2 : ¬ i = 2) (h3 : ¬ i = 3) (h4 : ¬ i = 4) : i.toInt < 0 ∨ i.toInt > 4 := by
  have k : ∀ j : Int32, ¬ i = j → ¬ i.toInt = j.toInt := fun j h q => h (Int32.toInt_inj.mp q)
  have k0 := k 0 h0; have k1 := k 1 h1; have k2 := k 2 h2; have k3 := k 3 h3; have k4 := k 4 h4
  rw [show (0 : Int32).toInt = 0 from rfl] at k0; rw [show (1 : Int32).toInt = 1 from rfl] at k1; rw [show (2 : Int32).toInt = 2 from rfl] at k2; rw [show (3 : Int32).toInt = 3 from rfl] at k3; rw [show (4 : Int32).toInt = 4 from rfl] at k4
  omega
theorem d6_0 : decode method_4_code 0 = .ok (.iload_n 0, 1) := by decide +kernel
theorem d6_1 : decode method_4_code 1 = .ok (.bipush 48, 2) := by decide +kernel
theorem d6_3 : decode method_4_code 3 = .ok (.if_icmp .lt 13, 3) := by decide +kernel
theorem d6_6 : decode method_4_code 6 = .ok (.iload_n 0, 1) := by decide +kernel
theorem d6_7 : decode method_4_code 7 = .ok (.bipush 57, 2) := by decide +kernel
theorem d6_9 : decode method_4_code 9 = .ok (.if_icmp .gt 7, 3) := by decide +kernel
theorem d6_12 : decode method_4_code 12 = .ok (.iconst 1, 1) := by decide +kernel
theorem d6_13 : decode method_4_code 13 = .ok (.goto 4, 3) := by decide +kernel
theorem d6_16 : decode method_4_code 16 = .ok (.iconst 0, 1) := by decide +kernel
theorem d6_17 : decode method_4_code 17 = .ok (.ireturn, 1) := by decide +kernel
def f6_16 (x0 : Int32) : Int32 := (0 : Int32)
set_option maxRecDepth 65536 in
set_option maxHeartbeats 40000000 in
theorem b6_16 {p : Program} {l : Launch} {e : Env} {s : State} {m : MethodId} {args : Array Value} {below : List Frame} {meth : Method} {c : Code} {T0 : State} {locs : List Loc} {Z : State} {a0 : Array Value} {h0 : Heap} {n0 : Nat} {P : Option Value → Heap → Prop} (x0 : Int32) (X0 : Stand p l e ({ frames := 0, cells := 0, slots := 0, locals := 0 } : Room) s m args below meth c T0 locs 0 0) (hx : p.tables.exec = Jvm.exec) (hZ : Z.Warmed39 s.vm) (hw : ∀ d ∈ tables_1, d.before a0 Z = true) (hby : c.code = method_4_code) (hml : c.maxLocals = 1) (hown : s.vm.findClass "com/example/lehre/lehre/XsdLexicalNumeralPinLaw" = some m.cls) (hret : meth.sig.returnType = some .boolean) (hlk : meth.locks = false) (e0 : T0.heap = h0) (Z0 : n0 ≤ h0.size) (N0 : Fr n0 locs) (hP : P (some (.int (f6_16 x0))) h0) :
    own_Goes p e below s n0 0 0 P (T0.setTop (mkF m 16 #[.val (.int x0)] [])) := by
  rw [f6_16] at hP
  refine own_Goes.pre (fun t kt => ?_) (own_retN X0 hx hlk hret (by simp) (hb hby d6_17) N0 (by rw [e0]; exact hP) (by decide) (by decide) (Ls := #[.val (.int x0)]) (rest := []) (z := (0 : Int32)))
  show Steps p.tables e below (T0.setTop (mkF m 16 #[.val (.int x0)] [])) _
  refine XS.iconst X0.here hx rfl (hb hby d6_16) ?_
  exact kt
def f6_12 (x0 : Int32) : Int32 := (1 : Int32)
set_option maxRecDepth 65536 in
set_option maxHeartbeats 40000000 in
theorem b6_12 {p : Program} {l : Launch} {e : Env} {s : State} {m : MethodId} {args : Array Value} {below : List Frame} {meth : Method} {c : Code} {T0 : State} {locs : List Loc} {Z : State} {a0 : Array Value} {h0 : Heap} {n0 : Nat} {P : Option Value → Heap → Prop} (x0 : Int32) (X0 : Stand p l e ({ frames := 0, cells := 0, slots := 0, locals := 0 } : Room) s m args below meth c T0 locs 0 0) (hx : p.tables.exec = Jvm.exec) (hZ : Z.Warmed39 s.vm) (hw : ∀ d ∈ tables_1, d.before a0 Z = true) (hby : c.code = method_4_code) (hml : c.maxLocals = 1) (hown : s.vm.findClass "com/example/lehre/lehre/XsdLexicalNumeralPinLaw" = some m.cls) (hret : meth.sig.returnType = some .boolean) (hlk : meth.locks = false) (e0 : T0.heap = h0) (Z0 : n0 ≤ h0.size) (N0 : Fr n0 locs) (hP : P (some (.int (f6_12 x0))) h0) :
    own_Goes p e below s n0 0 0 P (T0.setTop (mkF m 12 #[.val (.int x0)] [])) := by
  rw [f6_12] at hP
  refine own_Goes.pre (fun t kt => ?_) (own_retN X0 hx hlk hret (by simp) (hb hby d6_17) N0 (by rw [e0]; exact hP) (by decide) (by decide) (Ls := #[.val (.int x0)]) (rest := []) (z := (1 : Int32)))
  show Steps p.tables e below (T0.setTop (mkF m 12 #[.val (.int x0)] [])) _
  refine XS.iconst X0.here hx rfl (hb hby d6_12) ?_
  show Steps p.tables e below (T0.setTop (mkF m 13 #[.val (.int x0)] [(.int (1 : Int32))])) _
  refine XS.goto X0.here hx rfl (pc0 := 13) (pc' := 17) rfl (hb hby d6_13) (by decide) (by decide) ?_
  exact kt
def f6_6 (x0 : Int32) : Int32 := if (57 : Int32) < x0 then (f6_16 x0) else (f6_12 x0)
set_option maxRecDepth 65536 in
set_option maxHeartbeats 40000000 in
theorem b6_6 {p : Program} {l : Launch} {e : Env} {s : State} {m : MethodId} {args : Array Value} {below : List Frame} {meth : Method} {c : Code} {T0 : State} {locs : List Loc} {Z : State} {a0 : Array Value} {h0 : Heap} {n0 : Nat} {P : Option Value → Heap → Prop} (x0 : Int32) (X0 : Stand p l e ({ frames := 0, cells := 0, slots := 0, locals := 0 } : Room) s m args below meth c T0 locs 0 0) (hx : p.tables.exec = Jvm.exec) (hZ : Z.Warmed39 s.vm) (hw : ∀ d ∈ tables_1, d.before a0 Z = true) (hby : c.code = method_4_code) (hml : c.maxLocals = 1) (hown : s.vm.findClass "com/example/lehre/lehre/XsdLexicalNumeralPinLaw" = some m.cls) (hret : meth.sig.returnType = some .boolean) (hlk : meth.locks = false) (e0 : T0.heap = h0) (Z0 : n0 ≤ h0.size) (N0 : Fr n0 locs) (hP : P (some (.int (f6_6 x0))) h0) :
    own_Goes p e below s n0 0 0 P (T0.setTop (mkF m 6 #[.val (.int x0)] [])) := by
  have pre1 : ∀ t, Steps p.tables e below (T0.setTop (mkF m 9 #[.val (.int x0)] [(.int (57 : Int32)), (.int x0)])) t → Steps p.tables e below (T0.setTop (mkF m 6 #[.val (.int x0)] [])) t := fun t kt => by
    show Steps p.tables e below (T0.setTop (mkF m 6 #[.val (.int x0)] [])) _
    refine XS.iloadN X0.here hx rfl (hb hby d6_6) rfl ?_
    show Steps p.tables e below (T0.setTop (mkF m 7 #[.val (.int x0)] [(.int x0)])) _
    refine XS.bipush X0.here hx rfl (hb hby d6_7) ?_
    exact kt
  refine own_Goes.pre pre1 ?_
  by_cases hc : (57 : Int32) < x0
  · rw [f6_6, if_pos hc] at hP
    refine own_Goes.pre (fun t kt => ?_) (b6_16 x0 X0 hx hZ hw hby hml hown hret hlk e0 Z0 N0 hP)
    show Steps p.tables e below (T0.setTop (mkF m 9 #[.val (.int x0)] [(.int (57 : Int32)), (.int x0)])) _
    refine XS.icmpYes X0.here hx rfl (pc0 := 9) (pc' := 16) rfl (hb hby d6_9) rfl (tlt hc).2.2.1 (by decide) (by decide) ?_
    exact kt
  · rw [f6_6, if_neg hc] at hP
    refine own_Goes.pre (fun t kt => ?_) (b6_12 x0 X0 hx hZ hw hby hml hown hret hlk e0 Z0 N0 hP)
    show Steps p.tables e below (T0.setTop (mkF m 9 #[.val (.int x0)] [(.int (57 : Int32)), (.int x0)])) _
    refine XS.icmpNo X0.here hx rfl (hb hby d6_9) rfl (flt hc).2.2.1 ?_
    exact kt
def f6_0 (x0 : Int32) : Int32 := if x0 < (48 : Int32) then (f6_16 x0) else (f6_6 x0)
set_option maxRecDepth 65536 in
set_option maxHeartbeats 40000000 in
theorem b6_0 {p : Program} {l : Launch} {e : Env} {s : State} {m : MethodId} {args : Array Value} {below : List Frame} {meth : Method} {c : Code} {T0 : State} {locs : List Loc} {Z : State} {a0 : Array Value} {h0 : Heap} {n0 : Nat} {P : Option Value → Heap → Prop} (x0 : Int32) (X0 : Stand p l e ({ frames := 0, cells := 0, slots := 0, locals := 0 } : Room) s m args below meth c T0 locs 0 0) (hx : p.tables.exec = Jvm.exec) (hZ : Z.Warmed39 s.vm) (hw : ∀ d ∈ tables_1, d.before a0 Z = true) (hby : c.code = method_4_code) (hml : c.maxLocals = 1) (hown : s.vm.findClass "com/example/lehre/lehre/XsdLexicalNumeralPinLaw" = some m.cls) (hret : meth.sig.returnType = some .boolean) (hlk : meth.locks = false) (e0 : T0.heap = h0) (Z0 : n0 ≤ h0.size) (N0 : Fr n0 locs) (hP : P (some (.int (f6_0 x0))) h0) :
    own_Goes p e below s n0 0 0 P (T0.setTop (mkF m 0 #[.val (.int x0)] [])) := by
  have pre1 : ∀ t, Steps p.tables e below (T0.setTop (mkF m 3 #[.val (.int x0)] [(.int (48 : Int32)), (.int x0)])) t → Steps p.tables e below (T0.setTop (mkF m 0 #[.val (.int x0)] [])) t := fun t kt => by
    show Steps p.tables e below (T0.setTop (mkF m 0 #[.val (.int x0)] [])) _
    refine XS.iloadN X0.here hx rfl (hb hby d6_0) rfl ?_
    show Steps p.tables e below (T0.setTop (mkF m 1 #[.val (.int x0)] [(.int x0)])) _
    refine XS.bipush X0.here hx rfl (hb hby d6_1) ?_
    exact kt
  refine own_Goes.pre pre1 ?_
  by_cases hc : x0 < (48 : Int32)
  · rw [f6_0, if_pos hc] at hP
    refine own_Goes.pre (fun t kt => ?_) (b6_16 x0 X0 hx hZ hw hby hml hown hret hlk e0 Z0 N0 hP)
    show Steps p.tables e below (T0.setTop (mkF m 3 #[.val (.int x0)] [(.int (48 : Int32)), (.int x0)])) _
    refine XS.icmpYes X0.here hx rfl (pc0 := 3) (pc' := 16) rfl (hb hby d6_3) rfl (tlt hc).1 (by decide) (by decide) ?_
    exact kt
  · rw [f6_0, if_neg hc] at hP
    refine own_Goes.pre (fun t kt => ?_) (b6_6 x0 X0 hx hZ hw hby hml hown hret hlk e0 Z0 N0 hP)
    show Steps p.tables e below (T0.setTop (mkF m 3 #[.val (.int x0)] [(.int (48 : Int32)), (.int x0)])) _
    refine XS.icmpNo X0.here hx rfl (hb hby d6_3) rfl (flt hc).1 ?_
    exact kt
theorem pn0 : plainName "com/example/lehre/lehre/XsdLexicalNumeralPinLaw" = true := by first | (simp [plainName, overriddenIn]; done) | decide +kernel
theorem ef6 (m : MethodId) (x0 : Int32) : entryFrame m #[(.int x0)] 1 = (mkF m 0 #[.val (.int x0)] []) := by first | (simp [entryFrame, mkF, argsToLocals, Value.category]; done) | rfl
set_option maxRecDepth 65536 in
set_option maxHeartbeats 40000000 in
theorem rm6 (l : Launch) (Z : State) (a0 : Array Value) (hw : ∀ d ∈ tables_1, d.before a0 Z = true) (ws : List Jvm.Cond) (x0 : Int32) (h0 : Heap) (n0 : Nat) (Z0 : n0 ≤ h0.size) :
    MetFree l (⟨"com/example/lehre/lehre/XsdLexicalNumeralPinLaw", "isDigit", "(C)Z"⟩ : MethodName) (head1 (Jvm.Cond.code (⟨"com/example/lehre/lehre/XsdLexicalNumeralPinLaw", "isDigit", "(C)Z"⟩ : MethodName) method_4_code 1 (some .boolean) :: ws) ({ frames := 0, cells := 0, slots := 0, locals := 0 } : Room)) (fun a U => a = #[(.int x0)] ∧ Z.Warmed39 U.vm ∧ U.heap = h0) (fun _ _ _ _ _ => True) (fun _ U o U' => ∃ v L, o = .returned v ∧ own_Q (own_val (.int (f6_0 x0)) h0) n0 v U'.heap L ∧ FrameEnd U o U' L ({ frames := 0, cells := 0, slots := 0, locals := 0 } : Room).cells ({ frames := 0, cells := 0, slots := 0, locals := 0 } : Room).slots) := by
  refine MetFree.of_bodySF (plainFor_of_name pn0) hisR ?_
  intro p e s m args below meth c s₁ Bd hml0 hP hK
  obtain ⟨rfl, hZ, hh⟩ := hP
  have hx := Bd.exec
  have hby := Bd.bytes
  have hml : c.maxLocals = 1 := hml0
  have hown : s.vm.findClass "com/example/lehre/lehre/XsdLexicalNumeralPinLaw" = some m.cls := findClass_of_methodNamed Bd.named
  have X0 : Stand p l e ({ frames := 0, cells := 0, slots := 0, locals := 0 } : Room) s m #[(.int x0)] below meth c s₁ [] 0 0 := Stand.of_body Bd
  have e0 : s₁.heap = h0 := by rw [← hh, Bd.state]; rfl
  refine own_Goes.pre (S' := s₁.setTop (mkF m 0 #[.val (.int x0)] [])) (P := (own_val (.int (f6_0 x0)) h0)) (n0 := n0) (kc := 0) (ks := 0) (fun t k => castTop (ef6 m x0) k) ?_
  exact b6_0 x0 X0 hx hZ hw hby hml hown Bd.returns Bd.notSynchronized e0 Z0 (Fr.nil n0) ⟨rfl, rfl⟩
theorem d5_0 : decode method_5_code 0 = .ok (.iload_n 1, 1) := by decide +kernel
theorem d5_1 : decode method_5_code 1 = .ok (.iload_n 3, 1) := by decide +kernel
theorem d5_2 : decode method_5_code 2 = .ok (.if_icmp .lt 8, 3) := by decide +kernel
theorem d5_5 : decode method_5_code 5 = .ok (.iload_n 1, 1) := by decide +kernel
theorem d5_6 : decode method_5_code 6 = .ok (.iload_n 2, 1) := by decide +kernel
theorem d5_7 : decode method_5_code 7 = .ok (.if_icmp .lt 5, 3) := by decide +kernel
theorem d5_10 : decode method_5_code 10 = .ok (.iconst 0, 1) := by decide +kernel
theorem d5_11 : decode method_5_code 11 = .ok (.ireturn, 1) := by decide +kernel
theorem d5_12 : decode method_5_code 12 = .ok (.iload_n 0, 1) := by decide +kernel
theorem d5_13 : decode method_5_code 13 = .ok (.invokestatic 30, 3) := by decide +kernel
theorem d5_16 : decode method_5_code 16 = .ok (.ifCond .eq 7, 3) := by decide +kernel
theorem d5_19 : decode method_5_code 19 = .ok (.iconst 0, 1) := by decide +kernel
theorem d5_20 : decode method_5_code 20 = .ok (.goto 14, 3) := by decide +kernel
theorem d5_23 : decode method_5_code 23 = .ok (.iload_n 0, 1) := by decide +kernel
theorem d5_24 : decode method_5_code 24 = .ok (.bipush 46, 2) := by decide +kernel
theorem d5_26 : decode method_5_code 26 = .ok (.if_icmp .ne 7, 3) := by decide +kernel
theorem d5_29 : decode method_5_code 29 = .ok (.iconst 1, 1) := by decide +kernel
theorem d5_30 : decode method_5_code 30 = .ok (.goto 4, 3) := by decide +kernel
theorem d5_33 : decode method_5_code 33 = .ok (.iconst 2, 1) := by decide +kernel
theorem d5_34 : decode method_5_code 34 = .ok (.istore 5, 2) := by decide +kernel
theorem d5_36 : decode method_5_code 36 = .ok (.iload 5, 2) := by decide +kernel
theorem d5_38 : decode method_5_code 38 = .ok (.iload 4, 2) := by decide +kernel
theorem d5_40 : decode method_5_code 40 = .ok (.if_icmp .ne 7, 3) := by decide +kernel
theorem d5_43 : decode method_5_code 43 = .ok (.iconst 1, 1) := by decide +kernel
theorem d5_44 : decode method_5_code 44 = .ok (.goto 4, 3) := by decide +kernel
theorem d5_47 : decode method_5_code 47 = .ok (.iconst 0, 1) := by decide +kernel
theorem d5_48 : decode method_5_code 48 = .ok (.ireturn, 1) := by decide +kernel
theorem pd0 : parseMethodDescriptor "(C)Z" = some ⟨[.char], some .boolean⟩ := by decide +kernel
def f5_10 (x0 : Int32) (x1 : Int32) (x2 : Int32) (x3 : Int32) (x4 : Int32) : Int32 := (0 : Int32)
set_option maxRecDepth 65536 in
set_option maxHeartbeats 40000000 in
theorem b5_10 {p : Program} {l : Launch} {e : Env} {s : State} {m : MethodId} {args : Array Value} {below : List Frame} {meth : Method} {c : Code} {T0 : State} {locs : List Loc} {Z : State} {a0 : Array Value} {h0 : Heap} {n0 : Nat} {P : Option Value → Heap → Prop} (x0 : Int32) (x1 : Int32) (x2 : Int32) (x3 : Int32) (x4 : Int32) (X0 : Stand p l e ({ frames := 1, cells := 0, slots := 0, locals := 12 } : Room) s m args below meth c T0 locs 0 0) (hx : p.tables.exec = Jvm.exec) (hZ : Z.Warmed39 s.vm) (hw : ∀ d ∈ tables_1, d.before a0 Z = true) (hby : c.code = method_5_code) (hml : c.maxLocals = 6) (hown : s.vm.findClass "com/example/lehre/lehre/XsdLexicalNumeralPinLaw" = some m.cls) (hret : meth.sig.returnType = some .int) (hlk : meth.locks = false) (e0 : T0.heap = h0) (Z0 : n0 ≤ h0.size) (N0 : Fr n0 locs) (hP : P (some (.int (f5_10 x0 x1 x2 x3 x4))) h0) :
    own_Goes p e below s n0 0 0 P (T0.setTop (mkF m 10 #[.val (.int x0), .val (.int x1), .val (.int x2), .val (.int x3), .val (.int x4), .unset] [])) := by
  rw [f5_10] at hP
  refine own_Goes.pre (fun t kt => ?_) (own_retI X0 hx hlk hret (hb hby d5_11) N0 (by rw [e0]; exact hP) (by decide) (by decide) (Ls := #[.val (.int x0), .val (.int x1), .val (.int x2), .val (.int x3), .val (.int x4), .unset]) (rest := []) (z := (0 : Int32)))
  show Steps p.tables e below (T0.setTop (mkF m 10 #[.val (.int x0), .val (.int x1), .val (.int x2), .val (.int x3), .val (.int x4), .unset] [])) _
  refine XS.iconst X0.here hx rfl (hb hby d5_10) ?_
  exact kt
def f5_47 (x0 : Int32) (x1 : Int32) (x2 : Int32) (x3 : Int32) (x4 : Int32) (x5 : Int32) : Int32 := (0 : Int32)
set_option maxRecDepth 65536 in
set_option maxHeartbeats 40000000 in
theorem b5_47 {p : Program} {l : Launch} {e : Env} {s : State} {m : MethodId} {args : Array Value} {below : List Frame} {meth : Method} {c : Code} {T0 : State} {locs : List Loc} {Z : State} {a0 : Array Value} {h0 : Heap} {n0 : Nat} {P : Option Value → Heap → Prop} (x0 : Int32) (x1 : Int32) (x2 : Int32) (x3 : Int32) (x4 : Int32) (x5 : Int32) (X0 : Stand p l e ({ frames := 1, cells := 0, slots := 0, locals := 12 } : Room) s m args below meth c T0 locs 0 0) (hx : p.tables.exec = Jvm.exec) (hZ : Z.Warmed39 s.vm) (hw : ∀ d ∈ tables_1, d.before a0 Z = true) (hby : c.code = method_5_code) (hml : c.maxLocals = 6) (hown : s.vm.findClass "com/example/lehre/lehre/XsdLexicalNumeralPinLaw" = some m.cls) (hret : meth.sig.returnType = some .int) (hlk : meth.locks = false) (e0 : T0.heap = h0) (Z0 : n0 ≤ h0.size) (N0 : Fr n0 locs) (hP : P (some (.int (f5_47 x0 x1 x2 x3 x4 x5))) h0) :
    own_Goes p e below s n0 0 0 P (T0.setTop (mkF m 47 #[.val (.int x0), .val (.int x1), .val (.int x2), .val (.int x3), .val (.int x4), .val (.int x5)] [])) := by
  rw [f5_47] at hP
  refine own_Goes.pre (fun t kt => ?_) (own_retI X0 hx hlk hret (hb hby d5_48) N0 (by rw [e0]; exact hP) (by decide) (by decide) (Ls := #[.val (.int x0), .val (.int x1), .val (.int x2), .val (.int x3), .val (.int x4), .val (.int x5)]) (rest := []) (z := (0 : Int32)))
  show Steps p.tables e below (T0.setTop (mkF m 47 #[.val (.int x0), .val (.int x1), .val (.int x2), .val (.int x3), .val (.int x4), .val (.int x5)] [])) _
  refine XS.iconst X0.here hx rfl (hb hby d5_47) ?_
  exact kt
def f5_43 (x0 : Int32) (x1 : Int32) (x2 : Int32) (x3 : Int32) (x4 : Int32) (x5 : Int32) : Int32 := (1 : Int32)
set_option maxRecDepth 65536 in
set_option maxHeartbeats 40000000 in
theorem b5_43 {p : Program} {l : Launch} {e : Env} {s : State} {m : MethodId} {args : Array Value} {below : List Frame} {meth : Method} {c : Code} {T0 : State} {locs : List Loc} {Z : State} {a0 : Array Value} {h0 : Heap} {n0 : Nat} {P : Option Value → Heap → Prop} (x0 : Int32) (x1 : Int32) (x2 : Int32) (x3 : Int32) (x4 : Int32) (x5 : Int32) (X0 : Stand p l e ({ frames := 1, cells := 0, slots := 0, locals := 12 } : Room) s m args below meth c T0 locs 0 0) (hx : p.tables.exec = Jvm.exec) (hZ : Z.Warmed39 s.vm) (hw : ∀ d ∈ tables_1, d.before a0 Z = true) (hby : c.code = method_5_code) (hml : c.maxLocals = 6) (hown : s.vm.findClass "com/example/lehre/lehre/XsdLexicalNumeralPinLaw" = some m.cls) (hret : meth.sig.returnType = some .int) (hlk : meth.locks = false) (e0 : T0.heap = h0) (Z0 : n0 ≤ h0.size) (N0 : Fr n0 locs) (hP : P (some (.int (f5_43 x0 x1 x2 x3 x4 x5))) h0) :
    own_Goes p e below s n0 0 0 P (T0.setTop (mkF m 43 #[.val (.int x0), .val (.int x1), .val (.int x2), .val (.int x3), .val (.int x4), .val (.int x5)] [])) := by
  rw [f5_43] at hP
  refine own_Goes.pre (fun t kt => ?_) (own_retI X0 hx hlk hret (hb hby d5_48) N0 (by rw [e0]; exact hP) (by decide) (by decide) (Ls := #[.val (.int x0), .val (.int x1), .val (.int x2), .val (.int x3), .val (.int x4), .val (.int x5)]) (rest := []) (z := (1 : Int32)))
  show Steps p.tables e below (T0.setTop (mkF m 43 #[.val (.int x0), .val (.int x1), .val (.int x2), .val (.int x3), .val (.int x4), .val (.int x5)] [])) _
  refine XS.iconst X0.here hx rfl (hb hby d5_43) ?_
  show Steps p.tables e below (T0.setTop (mkF m 44 #[.val (.int x0), .val (.int x1), .val (.int x2), .val (.int x3), .val (.int x4), .val (.int x5)] [(.int (1 : Int32))])) _
  refine XS.goto X0.here hx rfl (pc0 := 44) (pc' := 48) rfl (hb hby d5_44) (by decide) (by decide) ?_
  exact kt
def f5_34 (x0 : Int32) (x1 : Int32) (x2 : Int32) (x3 : Int32) (x4 : Int32) (y0 : Int32) : Int32 := if y0 = x4 then (f5_43 x0 x1 x2 x3 x4 y0) else (f5_47 x0 x1 x2 x3 x4 y0)
set_option maxRecDepth 65536 in
set_option maxHeartbeats 40000000 in
theorem b5_34 {p : Program} {l : Launch} {e : Env} {s : State} {m : MethodId} {args : Array Value} {below : List Frame} {meth : Method} {c : Code} {T0 : State} {locs : List Loc} {Z : State} {a0 : Array Value} {h0 : Heap} {n0 : Nat} {P : Option Value → Heap → Prop} (x0 : Int32) (x1 : Int32) (x2 : Int32) (x3 : Int32) (x4 : Int32) (y0 : Int32) (X0 : Stand p l e ({ frames := 1, cells := 0, slots := 0, locals := 12 } : Room) s m args below meth c T0 locs 0 0) (hx : p.tables.exec = Jvm.exec) (hZ : Z.Warmed39 s.vm) (hw : ∀ d ∈ tables_1, d.before a0 Z = true) (hby : c.code = method_5_code) (hml : c.maxLocals = 6) (hown : s.vm.findClass "com/example/lehre/lehre/XsdLexicalNumeralPinLaw" = some m.cls) (hret : meth.sig.returnType = some .int) (hlk : meth.locks = false) (e0 : T0.heap = h0) (Z0 : n0 ≤ h0.size) (N0 : Fr n0 locs) (hP : P (some (.int (f5_34 x0 x1 x2 x3 x4 y0))) h0) :
    own_Goes p e below s n0 0 0 P (T0.setTop (mkF m 34 #[.val (.int x0), .val (.int x1), .val (.int x2), .val (.int x3), .val (.int x4), .unset] [(.int y0)])) := by
  have pre1 : ∀ t, Steps p.tables e below (T0.setTop (mkF m 40 #[.val (.int x0), .val (.int x1), .val (.int x2), .val (.int x3), .val (.int x4), .val (.int y0)] [(.int x4), (.int y0)])) t → Steps p.tables e below (T0.setTop (mkF m 34 #[.val (.int x0), .val (.int x1), .val (.int x2), .val (.int x3), .val (.int x4), .unset] [(.int y0)])) t := fun t kt => by
    show Steps p.tables e below (T0.setTop (mkF m 34 #[.val (.int x0), .val (.int x1), .val (.int x2), .val (.int x3), .val (.int x4), .unset] [(.int y0)])) _
    refine XS.istore X0.here hx rfl (hb hby d5_34) rfl (l' := #[.val (.int x0), .val (.int x1), .val (.int x2), .val (.int x3), .val (.int x4), .val (.int y0)]) rfl ?_
    show Steps p.tables e below (T0.setTop (mkF m 36 #[.val (.int x0), .val (.int x1), .val (.int x2), .val (.int x3), .val (.int x4), .val (.int y0)] [])) _
    refine XS.iload X0.here hx rfl (hb hby d5_36) rfl ?_
    show Steps p.tables e below (T0.setTop (mkF m 38 #[.val (.int x0), .val (.int x1), .val (.int x2), .val (.int x3), .val (.int x4), .val (.int y0)] [(.int y0)])) _
    refine XS.iload X0.here hx rfl (hb hby d5_38) rfl ?_
    exact kt
  refine own_Goes.pre pre1 ?_
  by_cases hc : y0 = x4
  · rw [f5_34, if_pos hc] at hP
    refine own_Goes.pre (fun t kt => ?_) (b5_43 x0 x1 x2 x3 x4 y0 X0 hx hZ hw hby hml hown hret hlk e0 Z0 N0 hP)
    show Steps p.tables e below (T0.setTop (mkF m 40 #[.val (.int x0), .val (.int x1), .val (.int x2), .val (.int x3), .val (.int x4), .val (.int y0)] [(.int x4), (.int y0)])) _
    refine XS.icmpNo X0.here hx rfl (hb hby d5_40) rfl (teq hc).2 ?_
    exact kt
  · rw [f5_34, if_neg hc] at hP
    refine own_Goes.pre (fun t kt => ?_) (b5_47 x0 x1 x2 x3 x4 y0 X0 hx hZ hw hby hml hown hret hlk e0 Z0 N0 hP)
    show Steps p.tables e below (T0.setTop (mkF m 40 #[.val (.int x0), .val (.int x1), .val (.int x2), .val (.int x3), .val (.int x4), .val (.int y0)] [(.int x4), (.int y0)])) _
    refine XS.icmpYes X0.here hx rfl (pc0 := 40) (pc' := 47) rfl (hb hby d5_40) rfl (feq hc).2 (by decide) (by decide) ?_
    exact kt
def f5_33 (x0 : Int32) (x1 : Int32) (x2 : Int32) (x3 : Int32) (x4 : Int32) : Int32 := (f5_34 x0 x1 x2 x3 x4 (2 : Int32))
set_option maxRecDepth 65536 in
set_option maxHeartbeats 40000000 in
theorem b5_33 {p : Program} {l : Launch} {e : Env} {s : State} {m : MethodId} {args : Array Value} {below : List Frame} {meth : Method} {c : Code} {T0 : State} {locs : List Loc} {Z : State} {a0 : Array Value} {h0 : Heap} {n0 : Nat} {P : Option Value → Heap → Prop} (x0 : Int32) (x1 : Int32) (x2 : Int32) (x3 : Int32) (x4 : Int32) (X0 : Stand p l e ({ frames := 1, cells := 0, slots := 0, locals := 12 } : Room) s m args below meth c T0 locs 0 0) (hx : p.tables.exec = Jvm.exec) (hZ : Z.Warmed39 s.vm) (hw : ∀ d ∈ tables_1, d.before a0 Z = true) (hby : c.code = method_5_code) (hml : c.maxLocals = 6) (hown : s.vm.findClass "com/example/lehre/lehre/XsdLexicalNumeralPinLaw" = some m.cls) (hret : meth.sig.returnType = some .int) (hlk : meth.locks = false) (e0 : T0.heap = h0) (Z0 : n0 ≤ h0.size) (N0 : Fr n0 locs) (hP : P (some (.int (f5_33 x0 x1 x2 x3 x4))) h0) :
    own_Goes p e below s n0 0 0 P (T0.setTop (mkF m 33 #[.val (.int x0), .val (.int x1), .val (.int x2), .val (.int x3), .val (.int x4), .unset] [])) := by
  rw [f5_33] at hP
  refine own_Goes.pre (fun t kt => ?_) (b5_34 x0 x1 x2 x3 x4 (2 : Int32) X0 hx hZ hw hby hml hown hret hlk e0 Z0 N0 hP)
  show Steps p.tables e below (T0.setTop (mkF m 33 #[.val (.int x0), .val (.int x1), .val (.int x2), .val (.int x3), .val (.int x4), .unset] [])) _
  refine XS.iconst X0.here hx rfl (hb hby d5_33) ?_
  exact kt
def f5_29 (x0 : Int32) (x1 : Int32) (x2 : Int32) (x3 : Int32) (x4 : Int32) : Int32 := (f5_34 x0 x1 x2 x3 x4 (1 : Int32))
set_option maxRecDepth 65536 in
set_option maxHeartbeats 40000000 in
theorem b5_29 {p : Program} {l : Launch} {e : Env} {s : State} {m : MethodId} {args : Array Value} {below : List Frame} {meth : Method} {c : Code} {T0 : State} {locs : List Loc} {Z : State} {a0 : Array Value} {h0 : Heap} {n0 : Nat} {P : Option Value → Heap → Prop} (x0 : Int32) (x1 : Int32) (x2 : Int32) (x3 : Int32) (x4 : Int32) (X0 : Stand p l e ({ frames := 1, cells := 0, slots := 0, locals := 12 } : Room) s m args below meth c T0 locs 0 0) (hx : p.tables.exec = Jvm.exec) (hZ : Z.Warmed39 s.vm) (hw : ∀ d ∈ tables_1, d.before a0 Z = true) (hby : c.code = method_5_code) (hml : c.maxLocals = 6) (hown : s.vm.findClass "com/example/lehre/lehre/XsdLexicalNumeralPinLaw" = some m.cls) (hret : meth.sig.returnType = some .int) (hlk : meth.locks = false) (e0 : T0.heap = h0) (Z0 : n0 ≤ h0.size) (N0 : Fr n0 locs) (hP : P (some (.int (f5_29 x0 x1 x2 x3 x4))) h0) :
    own_Goes p e below s n0 0 0 P (T0.setTop (mkF m 29 #[.val (.int x0), .val (.int x1), .val (.int x2), .val (.int x3), .val (.int x4), .unset] [])) := by
  rw [f5_29] at hP
  refine own_Goes.pre (fun t kt => ?_) (b5_34 x0 x1 x2 x3 x4 (1 : Int32) X0 hx hZ hw hby hml hown hret hlk e0 Z0 N0 hP)
  show Steps p.tables e below (T0.setTop (mkF m 29 #[.val (.int x0), .val (.int x1), .val (.int x2), .val (.int x3), .val (.int x4), .unset] [])) _
  refine XS.iconst X0.here hx rfl (hb hby d5_29) ?_
  show Steps p.tables e below (T0.setTop (mkF m 30 #[.val (.int x0), .val (.int x1), .val (.int x2), .val (.int x3), .val (.int x4), .unset] [(.int (1 : Int32))])) _
  refine XS.goto X0.here hx rfl (pc0 := 30) (pc' := 34) rfl (hb hby d5_30) (by decide) (by decide) ?_
  exact kt
def f5_23 (x0 : Int32) (x1 : Int32) (x2 : Int32) (x3 : Int32) (x4 : Int32) : Int32 := if x0 = (46 : Int32) then (f5_29 x0 x1 x2 x3 x4) else (f5_33 x0 x1 x2 x3 x4)
set_option maxRecDepth 65536 in
set_option maxHeartbeats 40000000 in
theorem b5_23 {p : Program} {l : Launch} {e : Env} {s : State} {m : MethodId} {args : Array Value} {below : List Frame} {meth : Method} {c : Code} {T0 : State} {locs : List Loc} {Z : State} {a0 : Array Value} {h0 : Heap} {n0 : Nat} {P : Option Value → Heap → Prop} (x0 : Int32) (x1 : Int32) (x2 : Int32) (x3 : Int32) (x4 : Int32) (X0 : Stand p l e ({ frames := 1, cells := 0, slots := 0, locals := 12 } : Room) s m args below meth c T0 locs 0 0) (hx : p.tables.exec = Jvm.exec) (hZ : Z.Warmed39 s.vm) (hw : ∀ d ∈ tables_1, d.before a0 Z = true) (hby : c.code = method_5_code) (hml : c.maxLocals = 6) (hown : s.vm.findClass "com/example/lehre/lehre/XsdLexicalNumeralPinLaw" = some m.cls) (hret : meth.sig.returnType = some .int) (hlk : meth.locks = false) (e0 : T0.heap = h0) (Z0 : n0 ≤ h0.size) (N0 : Fr n0 locs) (hP : P (some (.int (f5_23 x0 x1 x2 x3 x4))) h0) :
    own_Goes p e below s n0 0 0 P (T0.setTop (mkF m 23 #[.val (.int x0), .val (.int x1), .val (.int x2), .val (.int x3), .val (.int x4), .unset] [])) := by
  have pre1 : ∀ t, Steps p.tables e below (T0.setTop (mkF m 26 #[.val (.int x0), .val (.int x1), .val (.int x2), .val (.int x3), .val (.int x4), .unset] [(.int (46 : Int32)), (.int x0)])) t → Steps p.tables e below (T0.setTop (mkF m 23 #[.val (.int x0), .val (.int x1), .val (.int x2), .val (.int x3), .val (.int x4), .unset] [])) t := fun t kt => by
    show Steps p.tables e below (T0.setTop (mkF m 23 #[.val (.int x0), .val (.int x1), .val (.int x2), .val (.int x3), .val (.int x4), .unset] [])) _
    refine XS.iloadN X0.here hx rfl (hb hby d5_23) rfl ?_
    show Steps p.tables e below (T0.setTop (mkF m 24 #[.val (.int x0), .val (.int x1), .val (.int x2), .val (.int x3), .val (.int x4), .unset] [(.int x0)])) _
    refine XS.bipush X0.here hx rfl (hb hby d5_24) ?_
    exact kt
  refine own_Goes.pre pre1 ?_
  by_cases hc : x0 = (46 : Int32)
  · rw [f5_23, if_pos hc] at hP
    refine own_Goes.pre (fun t kt => ?_) (b5_29 x0 x1 x2 x3 x4 X0 hx hZ hw hby hml hown hret hlk e0 Z0 N0 hP)
    show Steps p.tables e below (T0.setTop (mkF m 26 #[.val (.int x0), .val (.int x1), .val (.int x2), .val (.int x3), .val (.int x4), .unset] [(.int (46 : Int32)), (.int x0)])) _
    refine XS.icmpNo X0.here hx rfl (hb hby d5_26) rfl (teq hc).2 ?_
    exact kt
  · rw [f5_23, if_neg hc] at hP
    refine own_Goes.pre (fun t kt => ?_) (b5_33 x0 x1 x2 x3 x4 X0 hx hZ hw hby hml hown hret hlk e0 Z0 N0 hP)
    show Steps p.tables e below (T0.setTop (mkF m 26 #[.val (.int x0), .val (.int x1), .val (.int x2), .val (.int x3), .val (.int x4), .unset] [(.int (46 : Int32)), (.int x0)])) _
    refine XS.icmpYes X0.here hx rfl (pc0 := 26) (pc' := 33) rfl (hb hby d5_26) rfl (feq hc).2 (by decide) (by decide) ?_
    exact kt
def f5_19 (x0 : Int32) (x1 : Int32) (x2 : Int32) (x3 : Int32) (x4 : Int32) : Int32 := (f5_34 x0 x1 x2 x3 x4 (0 : Int32))
set_option maxRecDepth 65536 in
set_option maxHeartbeats 40000000 in
theorem b5_19 {p : Program} {l : Launch} {e : Env} {s : State} {m : MethodId} {args : Array Value} {below : List Frame} {meth : Method} {c : Code} {T0 : State} {locs : List Loc} {Z : State} {a0 : Array Value} {h0 : Heap} {n0 : Nat} {P : Option Value → Heap → Prop} (x0 : Int32) (x1 : Int32) (x2 : Int32) (x3 : Int32) (x4 : Int32) (X0 : Stand p l e ({ frames := 1, cells := 0, slots := 0, locals := 12 } : Room) s m args below meth c T0 locs 0 0) (hx : p.tables.exec = Jvm.exec) (hZ : Z.Warmed39 s.vm) (hw : ∀ d ∈ tables_1, d.before a0 Z = true) (hby : c.code = method_5_code) (hml : c.maxLocals = 6) (hown : s.vm.findClass "com/example/lehre/lehre/XsdLexicalNumeralPinLaw" = some m.cls) (hret : meth.sig.returnType = some .int) (hlk : meth.locks = false) (e0 : T0.heap = h0) (Z0 : n0 ≤ h0.size) (N0 : Fr n0 locs) (hP : P (some (.int (f5_19 x0 x1 x2 x3 x4))) h0) :
    own_Goes p e below s n0 0 0 P (T0.setTop (mkF m 19 #[.val (.int x0), .val (.int x1), .val (.int x2), .val (.int x3), .val (.int x4), .unset] [])) := by
  rw [f5_19] at hP
  refine own_Goes.pre (fun t kt => ?_) (b5_34 x0 x1 x2 x3 x4 (0 : Int32) X0 hx hZ hw hby hml hown hret hlk e0 Z0 N0 hP)
  show Steps p.tables e below (T0.setTop (mkF m 19 #[.val (.int x0), .val (.int x1), .val (.int x2), .val (.int x3), .val (.int x4), .unset] [])) _
  refine XS.iconst X0.here hx rfl (hb hby d5_19) ?_
  show Steps p.tables e below (T0.setTop (mkF m 20 #[.val (.int x0), .val (.int x1), .val (.int x2), .val (.int x3), .val (.int x4), .unset] [(.int (0 : Int32))])) _
  refine XS.goto X0.here hx rfl (pc0 := 20) (pc' := 34) rfl (hb hby d5_20) (by decide) (by decide) ?_
  exact kt
def f5_12 (x0 : Int32) (x1 : Int32) (x2 : Int32) (x3 : Int32) (x4 : Int32) : Int32 := if (f6_0 x0) = (0 : Int32) then (f5_23 x0 x1 x2 x3 x4) else (f5_19 x0 x1 x2 x3 x4)
set_option maxRecDepth 65536 in
set_option maxHeartbeats 40000000 in
theorem b5_12 {p : Program} {l : Launch} {e : Env} {s : State} {m : MethodId} {args : Array Value} {below : List Frame} {meth : Method} {c : Code} {T0 : State} {locs : List Loc} {Z : State} {a0 : Array Value} {h0 : Heap} {n0 : Nat} {P : Option Value → Heap → Prop} (x0 : Int32) (x1 : Int32) (x2 : Int32) (x3 : Int32) (x4 : Int32) (X0 : Stand p l e ({ frames := 1, cells := 0, slots := 0, locals := 12 } : Room) s m args below meth c T0 locs 0 0) (hx : p.tables.exec = Jvm.exec) (hZ : Z.Warmed39 s.vm) (hw : ∀ d ∈ tables_1, d.before a0 Z = true) (hby : c.code = method_5_code) (hml : c.maxLocals = 6) (hown : s.vm.findClass "com/example/lehre/lehre/XsdLexicalNumeralPinLaw" = some m.cls) (hret : meth.sig.returnType = some .int) (hlk : meth.locks = false) (e0 : T0.heap = h0) (Z0 : n0 ≤ h0.size) (N0 : Fr n0 locs) (hP : P (some (.int (f5_12 x0 x1 x2 x3 x4))) h0) :
    own_Goes p e below s n0 0 0 P (T0.setTop (mkF m 12 #[.val (.int x0), .val (.int x1), .val (.int x2), .val (.int x3), .val (.int x4), .unset] [])) := by
  obtain ⟨_, _, ⟨T13, L13, k13, n13⟩, -, X13, ⟨Lc13, hQ13, l13, y13, z13⟩, st13⟩ := Jvm.LawKit.callS X0 hx (y := (⟨"com/example/lehre/lehre/XsdLexicalNumeralPinLaw", "isDigit", "(C)Z"⟩ : MethodName)) hown (mvT hZ (hw _ (List.mem_of_getElem? (i := 17) rfl))) (mvT hZ (hw _ (List.mem_of_getElem? (i := 18) rfl))) (mvT hZ (hw _ (List.mem_of_getElem? (i := 2) rfl))) (mvT hZ (hw _ (List.mem_of_getElem? (i := 19) rfl))) (by decide) (backOf (W := 0) (rm6 l Z a0 hw [] x0 h0 n0 Z0) hZ (hw _ (List.mem_of_getElem? (i := 19) rfl)) (hw _ (List.mem_of_getElem? (i := 2) rfl)) (by decide) (by decide)) (g := (mkF m 13 #[.val (.int x0), .val (.int x1), .val (.int x2), .val (.int x3), .val (.int x4), .unset] [(.int x0)])) rfl (by rw [hml]; rfl) (argsL := [(.int x0)]) (rest := []) (lenOf pd0 rfl) rfl (by show 2 * 0 + _ ≤ _; exact Nat.le_of_eq rfl) (hb hby d5_13) (fun _ _ => ⟨rfl, e0, (by decide : 0 + 0 ≤ _), (by decide : 0 + 0 ≤ _)⟩)
  dsimp only [Pt.U, Pt.locs, Pt.cells, Pt.slots] at X13 l13 y13 z13 st13 hQ13
  subst l13 y13 z13
  obtain ⟨⟨rfl, e13⟩, N13q⟩ := hQ13
  have N13 := Fr.app N0 N13q
  have pre1 : ∀ t, Steps p.tables e below (T13.setTop (mkF m 16 #[.val (.int x0), .val (.int x1), .val (.int x2), .val (.int x3), .val (.int x4), .unset] [(.int (f6_0 x0))])) t → Steps p.tables e below (T0.setTop (mkF m 12 #[.val (.int x0), .val (.int x1), .val (.int x2), .val (.int x3), .val (.int x4), .unset] [])) t := fun t kt => by
    show Steps p.tables e below (T0.setTop (mkF m 12 #[.val (.int x0), .val (.int x1), .val (.int x2), .val (.int x3), .val (.int x4), .unset] [])) _
    refine XS.iloadN X0.here hx rfl (hb hby d5_12) rfl ?_
    show Steps p.tables e below (T0.setTop (mkF m 13 #[.val (.int x0), .val (.int x1), .val (.int x2), .val (.int x3), .val (.int x4), .unset] [(.int x0)])) _
    refine st13 _ ?_
    exact kt
  refine own_Goes.pre pre1 ?_
  by_cases hc : (f6_0 x0) = (0 : Int32)
  · rw [f5_12, if_pos hc] at hP
    refine own_Goes.pre (fun t kt => ?_) (b5_23 x0 x1 x2 x3 x4 X13 hx hZ hw hby hml hown hret hlk e13 Z0 N13 hP)
    show Steps p.tables e below (T13.setTop (mkF m 16 #[.val (.int x0), .val (.int x1), .val (.int x2), .val (.int x3), .val (.int x4), .unset] [(.int (f6_0 x0))])) _
    refine XS.ifYes X13.here hx rfl (pc0 := 16) (pc' := 23) rfl (hb hby d5_16) rfl ((if0 _ _).trans (teq hc).1) (by decide) (by decide) ?_
    exact kt
  · rw [f5_12, if_neg hc] at hP
    refine own_Goes.pre (fun t kt => ?_) (b5_19 x0 x1 x2 x3 x4 X13 hx hZ hw hby hml hown hret hlk e13 Z0 N13 hP)
    show Steps p.tables e below (T13.setTop (mkF m 16 #[.val (.int x0), .val (.int x1), .val (.int x2), .val (.int x3), .val (.int x4), .unset] [(.int (f6_0 x0))])) _
    refine XS.ifNo X13.here hx rfl (hb hby d5_16) rfl ((if0 _ _).trans (feq hc).1) ?_
    exact kt
def f5_5 (x0 : Int32) (x1 : Int32) (x2 : Int32) (x3 : Int32) (x4 : Int32) : Int32 := if x1 < x2 then (f5_12 x0 x1 x2 x3 x4) else (f5_10 x0 x1 x2 x3 x4)
set_option maxRecDepth 65536 in
set_option maxHeartbeats 40000000 in
theorem b5_5 {p : Program} {l : Launch} {e : Env} {s : State} {m : MethodId} {args : Array Value} {below : List Frame} {meth : Method} {c : Code} {T0 : State} {locs : List Loc} {Z : State} {a0 : Array Value} {h0 : Heap} {n0 : Nat} {P : Option Value → Heap → Prop} (x0 : Int32) (x1 : Int32) (x2 : Int32) (x3 : Int32) (x4 : Int32) (X0 : Stand p l e ({ frames := 1, cells := 0, slots := 0, locals := 12 } : Room) s m args below meth c T0 locs 0 0) (hx : p.tables.exec = Jvm.exec) (hZ : Z.Warmed39 s.vm) (hw : ∀ d ∈ tables_1, d.before a0 Z = true) (hby : c.code = method_5_code) (hml : c.maxLocals = 6) (hown : s.vm.findClass "com/example/lehre/lehre/XsdLexicalNumeralPinLaw" = some m.cls) (hret : meth.sig.returnType = some .int) (hlk : meth.locks = false) (e0 : T0.heap = h0) (Z0 : n0 ≤ h0.size) (N0 : Fr n0 locs) (hP : P (some (.int (f5_5 x0 x1 x2 x3 x4))) h0) :
    own_Goes p e below s n0 0 0 P (T0.setTop (mkF m 5 #[.val (.int x0), .val (.int x1), .val (.int x2), .val (.int x3), .val (.int x4), .unset] [])) := by
  have pre1 : ∀ t, Steps p.tables e below (T0.setTop (mkF m 7 #[.val (.int x0), .val (.int x1), .val (.int x2), .val (.int x3), .val (.int x4), .unset] [(.int x2), (.int x1)])) t → Steps p.tables e below (T0.setTop (mkF m 5 #[.val (.int x0), .val (.int x1), .val (.int x2), .val (.int x3), .val (.int x4), .unset] [])) t := fun t kt => by
    show Steps p.tables e below (T0.setTop (mkF m 5 #[.val (.int x0), .val (.int x1), .val (.int x2), .val (.int x3), .val (.int x4), .unset] [])) _
    refine XS.iloadN X0.here hx rfl (hb hby d5_5) rfl ?_
    show Steps p.tables e below (T0.setTop (mkF m 6 #[.val (.int x0), .val (.int x1), .val (.int x2), .val (.int x3), .val (.int x4), .unset] [(.int x1)])) _
    refine XS.iloadN X0.here hx rfl (hb hby d5_6) rfl ?_
    exact kt
  refine own_Goes.pre pre1 ?_
  by_cases hc : x1 < x2
  · rw [f5_5, if_pos hc] at hP
    refine own_Goes.pre (fun t kt => ?_) (b5_12 x0 x1 x2 x3 x4 X0 hx hZ hw hby hml hown hret hlk e0 Z0 N0 hP)
    show Steps p.tables e below (T0.setTop (mkF m 7 #[.val (.int x0), .val (.int x1), .val (.int x2), .val (.int x3), .val (.int x4), .unset] [(.int x2), (.int x1)])) _
    refine XS.icmpYes X0.here hx rfl (pc0 := 7) (pc' := 12) rfl (hb hby d5_7) rfl (tlt hc).1 (by decide) (by decide) ?_
    exact kt
  · rw [f5_5, if_neg hc] at hP
    refine own_Goes.pre (fun t kt => ?_) (b5_10 x0 x1 x2 x3 x4 X0 hx hZ hw hby hml hown hret hlk e0 Z0 N0 hP)
    show Steps p.tables e below (T0.setTop (mkF m 7 #[.val (.int x0), .val (.int x1), .val (.int x2), .val (.int x3), .val (.int x4), .unset] [(.int x2), (.int x1)])) _
    refine XS.icmpNo X0.here hx rfl (hb hby d5_7) rfl (flt hc).1 ?_
    exact kt
def f5_0 (x0 : Int32) (x1 : Int32) (x2 : Int32) (x3 : Int32) (x4 : Int32) : Int32 := if x1 < x3 then (f5_10 x0 x1 x2 x3 x4) else (f5_5 x0 x1 x2 x3 x4)
set_option maxRecDepth 65536 in
set_option maxHeartbeats 40000000 in
theorem b5_0 {p : Program} {l : Launch} {e : Env} {s : State} {m : MethodId} {args : Array Value} {below : List Frame} {meth : Method} {c : Code} {T0 : State} {locs : List Loc} {Z : State} {a0 : Array Value} {h0 : Heap} {n0 : Nat} {P : Option Value → Heap → Prop} (x0 : Int32) (x1 : Int32) (x2 : Int32) (x3 : Int32) (x4 : Int32) (X0 : Stand p l e ({ frames := 1, cells := 0, slots := 0, locals := 12 } : Room) s m args below meth c T0 locs 0 0) (hx : p.tables.exec = Jvm.exec) (hZ : Z.Warmed39 s.vm) (hw : ∀ d ∈ tables_1, d.before a0 Z = true) (hby : c.code = method_5_code) (hml : c.maxLocals = 6) (hown : s.vm.findClass "com/example/lehre/lehre/XsdLexicalNumeralPinLaw" = some m.cls) (hret : meth.sig.returnType = some .int) (hlk : meth.locks = false) (e0 : T0.heap = h0) (Z0 : n0 ≤ h0.size) (N0 : Fr n0 locs) (hP : P (some (.int (f5_0 x0 x1 x2 x3 x4))) h0) :
    own_Goes p e below s n0 0 0 P (T0.setTop (mkF m 0 #[.val (.int x0), .val (.int x1), .val (.int x2), .val (.int x3), .val (.int x4), .unset] [])) := by
  have pre1 : ∀ t, Steps p.tables e below (T0.setTop (mkF m 2 #[.val (.int x0), .val (.int x1), .val (.int x2), .val (.int x3), .val (.int x4), .unset] [(.int x3), (.int x1)])) t → Steps p.tables e below (T0.setTop (mkF m 0 #[.val (.int x0), .val (.int x1), .val (.int x2), .val (.int x3), .val (.int x4), .unset] [])) t := fun t kt => by
    show Steps p.tables e below (T0.setTop (mkF m 0 #[.val (.int x0), .val (.int x1), .val (.int x2), .val (.int x3), .val (.int x4), .unset] [])) _
    refine XS.iloadN X0.here hx rfl (hb hby d5_0) rfl ?_
    show Steps p.tables e below (T0.setTop (mkF m 1 #[.val (.int x0), .val (.int x1), .val (.int x2), .val (.int x3), .val (.int x4), .unset] [(.int x1)])) _
    refine XS.iloadN X0.here hx rfl (hb hby d5_1) rfl ?_
    exact kt
  refine own_Goes.pre pre1 ?_
  by_cases hc : x1 < x3
  · rw [f5_0, if_pos hc] at hP
    refine own_Goes.pre (fun t kt => ?_) (b5_10 x0 x1 x2 x3 x4 X0 hx hZ hw hby hml hown hret hlk e0 Z0 N0 hP)
    show Steps p.tables e below (T0.setTop (mkF m 2 #[.val (.int x0), .val (.int x1), .val (.int x2), .val (.int x3), .val (.int x4), .unset] [(.int x3), (.int x1)])) _
    refine XS.icmpYes X0.here hx rfl (pc0 := 2) (pc' := 10) rfl (hb hby d5_2) rfl (tlt hc).1 (by decide) (by decide) ?_
    exact kt
  · rw [f5_0, if_neg hc] at hP
    refine own_Goes.pre (fun t kt => ?_) (b5_5 x0 x1 x2 x3 x4 X0 hx hZ hw hby hml hown hret hlk e0 Z0 N0 hP)
    show Steps p.tables e below (T0.setTop (mkF m 2 #[.val (.int x0), .val (.int x1), .val (.int x2), .val (.int x3), .val (.int x4), .unset] [(.int x3), (.int x1)])) _
    refine XS.icmpNo X0.here hx rfl (hb hby d5_2) rfl (flt hc).1 ?_
    exact kt
theorem ef5 (m : MethodId) (x0 : Int32) (x1 : Int32) (x2 : Int32) (x3 : Int32) (x4 : Int32) : entryFrame m #[(.int x0), (.int x1), (.int x2), (.int x3), (.int x4)] 6 = (mkF m 0 #[.val (.int x0), .val (.int x1), .val (.int x2), .val (.int x3), .val (.int x4), .unset] []) := by first | (simp [entryFrame, mkF, argsToLocals, Value.category]; done) | rfl
set_option maxRecDepth 65536 in
set_option maxHeartbeats 40000000 in
theorem rm5 (l : Launch) (Z : State) (a0 : Array Value) (hw : ∀ d ∈ tables_1, d.before a0 Z = true) (ws : List Jvm.Cond) (x0 : Int32) (x1 : Int32) (x2 : Int32) (x3 : Int32) (x4 : Int32) (h0 : Heap) (n0 : Nat) (Z0 : n0 ≤ h0.size) :
    MetFree l (⟨"com/example/lehre/lehre/XsdLexicalNumeralPinLaw", "count", "(CIIII)I"⟩ : MethodName) (head1 (Jvm.Cond.code (⟨"com/example/lehre/lehre/XsdLexicalNumeralPinLaw", "count", "(CIIII)I"⟩ : MethodName) method_5_code 6 (some .int) :: ws) ({ frames := 1, cells := 0, slots := 0, locals := 12 } : Room)) (fun a U => a = #[(.int x0), (.int x1), (.int x2), (.int x3), (.int x4)] ∧ Z.Warmed39 U.vm ∧ U.heap = h0) (fun _ _ _ _ _ => True) (fun _ U o U' => ∃ v L, o = .returned v ∧ own_Q (own_val (.int (f5_0 x0 x1 x2 x3 x4)) h0) n0 v U'.heap L ∧ FrameEnd U o U' L ({ frames := 1, cells := 0, slots := 0, locals := 12 } : Room).cells ({ frames := 1, cells := 0, slots := 0, locals := 12 } : Room).slots) := by
  refine MetFree.of_bodySF (plainFor_of_name pn0) hisR ?_
  intro p e s m args below meth c s₁ Bd hml0 hP hK
  obtain ⟨rfl, hZ, hh⟩ := hP
  have hx := Bd.exec
  have hby := Bd.bytes
  have hml : c.maxLocals = 6 := hml0
  have hown : s.vm.findClass "com/example/lehre/lehre/XsdLexicalNumeralPinLaw" = some m.cls := findClass_of_methodNamed Bd.named
  have X0 : Stand p l e ({ frames := 1, cells := 0, slots := 0, locals := 12 } : Room) s m #[(.int x0), (.int x1), (.int x2), (.int x3), (.int x4)] below meth c s₁ [] 0 0 := Stand.of_body Bd
  have e0 : s₁.heap = h0 := by rw [← hh, Bd.state]; rfl
  refine own_Goes.pre (S' := s₁.setTop (mkF m 0 #[.val (.int x0), .val (.int x1), .val (.int x2), .val (.int x3), .val (.int x4), .unset] [])) (P := (own_val (.int (f5_0 x0 x1 x2 x3 x4)) h0)) (n0 := n0) (kc := 0) (ks := 0) (fun t k => castTop (ef5 m x0 x1 x2 x3 x4) k) ?_
  exact b5_0 x0 x1 x2 x3 x4 X0 hx hZ hw hby hml hown Bd.returns Bd.notSynchronized e0 Z0 (Fr.nil n0) ⟨rfl, rfl⟩
theorem d4_0 : decode method_6_code 0 = .ok (.iload_n 3, 1) := by decide +kernel
theorem d4_1 : decode method_6_code 1 = .ok (.iconst 0, 1) := by decide +kernel
theorem d4_2 : decode method_6_code 2 = .ok (.iload_n 0, 1) := by decide +kernel
theorem d4_3 : decode method_6_code 3 = .ok (.iload_n 1, 1) := by decide +kernel
theorem d4_4 : decode method_6_code 4 = .ok (.iload_n 2, 1) := by decide +kernel
theorem d4_5 : decode method_6_code 5 = .ok (.invokestatic 34, 3) := by decide +kernel
theorem d4_8 : decode method_6_code 8 = .ok (.iload 4, 2) := by decide +kernel
theorem d4_10 : decode method_6_code 10 = .ok (.iconst 1, 1) := by decide +kernel
theorem d4_11 : decode method_6_code 11 = .ok (.iload_n 0, 1) := by decide +kernel
theorem d4_12 : decode method_6_code 12 = .ok (.iload_n 1, 1) := by decide +kernel
theorem d4_13 : decode method_6_code 13 = .ok (.iload_n 2, 1) := by decide +kernel
theorem d4_14 : decode method_6_code 14 = .ok (.invokestatic 34, 3) := by decide +kernel
theorem d4_17 : decode method_6_code 17 = .ok (.iadd, 1) := by decide +kernel
theorem d4_18 : decode method_6_code 18 = .ok (.iload 5, 2) := by decide +kernel
theorem d4_20 : decode method_6_code 20 = .ok (.iconst 2, 1) := by decide +kernel
theorem d4_21 : decode method_6_code 21 = .ok (.iload_n 0, 1) := by decide +kernel
theorem d4_22 : decode method_6_code 22 = .ok (.iload_n 1, 1) := by decide +kernel
theorem d4_23 : decode method_6_code 23 = .ok (.iload_n 2, 1) := by decide +kernel
theorem d4_24 : decode method_6_code 24 = .ok (.invokestatic 34, 3) := by decide +kernel
theorem d4_27 : decode method_6_code 27 = .ok (.iadd, 1) := by decide +kernel
theorem d4_28 : decode method_6_code 28 = .ok (.iload 6, 2) := by decide +kernel
theorem d4_30 : decode method_6_code 30 = .ok (.iconst 3, 1) := by decide +kernel
theorem d4_31 : decode method_6_code 31 = .ok (.iload_n 0, 1) := by decide +kernel
theorem d4_32 : decode method_6_code 32 = .ok (.iload_n 1, 1) := by decide +kernel
theorem d4_33 : decode method_6_code 33 = .ok (.iload_n 2, 1) := by decide +kernel
theorem d4_34 : decode method_6_code 34 = .ok (.invokestatic 34, 3) := by decide +kernel
theorem d4_37 : decode method_6_code 37 = .ok (.iadd, 1) := by decide +kernel
theorem d4_38 : decode method_6_code 38 = .ok (.ireturn, 1) := by decide +kernel
theorem pd1 : parseMethodDescriptor "(CIIII)I" = some ⟨[.char, .int, .int, .int, .int], some .int⟩ := by decide +kernel
def f4_0 (x0 : Int32) (x1 : Int32) (x2 : Int32) (x3 : Int32) (x4 : Int32) (x5 : Int32) (x6 : Int32) : Int32 := ((((f5_0 x3 (0 : Int32) x0 x1 x2) + (f5_0 x4 (1 : Int32) x0 x1 x2)) + (f5_0 x5 (2 : Int32) x0 x1 x2)) + (f5_0 x6 (3 : Int32) x0 x1 x2))
set_option maxRecDepth 65536 in
set_option maxHeartbeats 40000000 in
theorem b4_0 {p : Program} {l : Launch} {e : Env} {s : State} {m : MethodId} {args : Array Value} {below : List Frame} {meth : Method} {c : Code} {T0 : State} {locs : List Loc} {Z : State} {a0 : Array Value} {h0 : Heap} {n0 : Nat} {P : Option Value → Heap → Prop} (x0 : Int32) (x1 : Int32) (x2 : Int32) (x3 : Int32) (x4 : Int32) (x5 : Int32) (x6 : Int32) (X0 : Stand p l e ({ frames := 2, cells := 0, slots := 0, locals := 30 } : Room) s m args below meth c T0 locs 0 0) (hx : p.tables.exec = Jvm.exec) (hZ : Z.Warmed39 s.vm) (hw : ∀ d ∈ tables_1, d.before a0 Z = true) (hby : c.code = method_6_code) (hml : c.maxLocals = 7) (hown : s.vm.findClass "com/example/lehre/lehre/XsdLexicalNumeralPinLaw" = some m.cls) (hret : meth.sig.returnType = some .int) (hlk : meth.locks = false) (e0 : T0.heap = h0) (Z0 : n0 ≤ h0.size) (N0 : Fr n0 locs) (hP : P (some (.int (f4_0 x0 x1 x2 x3 x4 x5 x6))) h0) :
    own_Goes p e below s n0 0 0 P (T0.setTop (mkF m 0 #[.val (.int x0), .val (.int x1), .val (.int x2), .val (.int x3), .val (.int x4), .val (.int x5), .val (.int x6)] [])) := by
  obtain ⟨_, _, ⟨T5, L5, k5, n5⟩, -, X5, ⟨Lc5, hQ5, l5, y5, z5⟩, st5⟩ := Jvm.LawKit.callS X0 hx (y := (⟨"com/example/lehre/lehre/XsdLexicalNumeralPinLaw", "count", "(CIIII)I"⟩ : MethodName)) hown (mvT hZ (hw _ (List.mem_of_getElem? (i := 14) rfl))) (mvT hZ (hw _ (List.mem_of_getElem? (i := 15) rfl))) (mvT hZ (hw _ (List.mem_of_getElem? (i := 2) rfl))) (mvT hZ (hw _ (List.mem_of_getElem? (i := 16) rfl))) (by decide) (backOf (W := 0) (rm5 l Z a0 hw [] x3 (0 : Int32) x0 x1 x2 h0 n0 Z0) hZ (hw _ (List.mem_of_getElem? (i := 16) rfl)) (hw _ (List.mem_of_getElem? (i := 2) rfl)) (by decide) (by decide)) (g := (mkF m 5 #[.val (.int x0), .val (.int x1), .val (.int x2), .val (.int x3), .val (.int x4), .val (.int x5), .val (.int x6)] [(.int x2), (.int x1), (.int x0), (.int (0 : Int32)), (.int x3)])) rfl (by rw [hml]; rfl) (argsL := [(.int x3), (.int (0 : Int32)), (.int x0), (.int x1), (.int x2)]) (rest := []) (lenOf pd1 rfl) rfl (by show 2 * 0 + _ ≤ _; exact Nat.le_of_eq rfl) (hb hby d4_5) (fun _ _ => ⟨rfl, e0, (by decide : 0 + 0 ≤ _), (by decide : 0 + 0 ≤ _)⟩)
  dsimp only [Pt.U, Pt.locs, Pt.cells, Pt.slots] at X5 l5 y5 z5 st5 hQ5
  subst l5 y5 z5
  obtain ⟨⟨rfl, e5⟩, N5q⟩ := hQ5
  have N5 := Fr.app N0 N5q
  obtain ⟨_, _, ⟨T14, L14, k14, n14⟩, -, X14, ⟨Lc14, hQ14, l14, y14, z14⟩, st14⟩ := Jvm.LawKit.callS X5 hx (y := (⟨"com/example/lehre/lehre/XsdLexicalNumeralPinLaw", "count", "(CIIII)I"⟩ : MethodName)) hown (mvT hZ (hw _ (List.mem_of_getElem? (i := 14) rfl))) (mvT hZ (hw _ (List.mem_of_getElem? (i := 15) rfl))) (mvT hZ (hw _ (List.mem_of_getElem? (i := 2) rfl))) (mvT hZ (hw _ (List.mem_of_getElem? (i := 16) rfl))) (by decide) (backOf (W := 1) (rm5 l Z a0 hw [] x4 (1 : Int32) x0 x1 x2 h0 n0 Z0) hZ (hw _ (List.mem_of_getElem? (i := 16) rfl)) (hw _ (List.mem_of_getElem? (i := 2) rfl)) (by decide) (by decide)) (g := (mkF m 14 #[.val (.int x0), .val (.int x1), .val (.int x2), .val (.int x3), .val (.int x4), .val (.int x5), .val (.int x6)] [(.int x2), (.int x1), (.int x0), (.int (1 : Int32)), (.int x4), (.int (f5_0 x3 (0 : Int32) x0 x1 x2))])) rfl (by rw [hml]; rfl) (argsL := [(.int x4), (.int (1 : Int32)), (.int x0), (.int x1), (.int x2)]) (rest := [(.int (f5_0 x3 (0 : Int32) x0 x1 x2))]) (lenOf pd1 rfl) rfl (by show 2 * 0 + _ ≤ _; exact Nat.le_of_eq rfl) (hb hby d4_14) (fun _ _ => ⟨rfl, e5, (by decide : 0 + 0 ≤ _), (by decide : 0 + 0 ≤ _)⟩)
  dsimp only [Pt.U, Pt.locs, Pt.cells, Pt.slots] at X14 l14 y14 z14 st14 hQ14
  subst l14 y14 z14
  obtain ⟨⟨rfl, e14⟩, N14q⟩ := hQ14
  have N14 := Fr.app N5 N14q
  obtain ⟨_, _, ⟨T24, L24, k24, n24⟩, -, X24, ⟨Lc24, hQ24, l24, y24, z24⟩, st24⟩ := Jvm.LawKit.callS X14 hx (y := (⟨"com/example/lehre/lehre/XsdLexicalNumeralPinLaw", "count", "(CIIII)I"⟩ : MethodName)) hown (mvT hZ (hw _ (List.mem_of_getElem? (i := 14) rfl))) (mvT hZ (hw _ (List.mem_of_getElem? (i := 15) rfl))) (mvT hZ (hw _ (List.mem_of_getElem? (i := 2) rfl))) (mvT hZ (hw _ (List.mem_of_getElem? (i := 16) rfl))) (by decide) (backOf (W := 1) (rm5 l Z a0 hw [] x5 (2 : Int32) x0 x1 x2 h0 n0 Z0) hZ (hw _ (List.mem_of_getElem? (i := 16) rfl)) (hw _ (List.mem_of_getElem? (i := 2) rfl)) (by decide) (by decide)) (g := (mkF m 24 #[.val (.int x0), .val (.int x1), .val (.int x2), .val (.int x3), .val (.int x4), .val (.int x5), .val (.int x6)] [(.int x2), (.int x1), (.int x0), (.int (2 : Int32)), (.int x5), (.int ((f5_0 x3 (0 : Int32) x0 x1 x2) + (f5_0 x4 (1 : Int32) x0 x1 x2)))])) rfl (by rw [hml]; rfl) (argsL := [(.int x5), (.int (2 : Int32)), (.int x0), (.int x1), (.int x2)]) (rest := [(.int ((f5_0 x3 (0 : Int32) x0 x1 x2) + (f5_0 x4 (1 : Int32) x0 x1 x2)))]) (lenOf pd1 rfl) rfl (by show 2 * 0 + _ ≤ _; exact Nat.le_of_eq rfl) (hb hby d4_24) (fun _ _ => ⟨rfl, e14, (by decide : 0 + 0 ≤ _), (by decide : 0 + 0 ≤ _)⟩)
  dsimp only [Pt.U, Pt.locs, Pt.cells, Pt.slots] at X24 l24 y24 z24 st24 hQ24
  subst l24 y24 z24
  obtain ⟨⟨rfl, e24⟩, N24q⟩ := hQ24
  have N24 := Fr.app N14 N24q
  obtain ⟨_, _, ⟨T34, L34, k34, n34⟩, -, X34, ⟨Lc34, hQ34, l34, y34, z34⟩, st34⟩ := Jvm.LawKit.callS X24 hx (y := (⟨"com/example/lehre/lehre/XsdLexicalNumeralPinLaw", "count", "(CIIII)I"⟩ : MethodName)) hown (mvT hZ (hw _ (List.mem_of_getElem? (i := 14) rfl))) (mvT hZ (hw _ (List.mem_of_getElem? (i := 15) rfl))) (mvT hZ (hw _ (List.mem_of_getElem? (i := 2) rfl))) (mvT hZ (hw _ (List.mem_of_getElem? (i := 16) rfl))) (by decide) (backOf (W := 1) (rm5 l Z a0 hw [] x6 (3 : Int32) x0 x1 x2 h0 n0 Z0) hZ (hw _ (List.mem_of_getElem? (i := 16) rfl)) (hw _ (List.mem_of_getElem? (i := 2) rfl)) (by decide) (by decide)) (g := (mkF m 34 #[.val (.int x0), .val (.int x1), .val (.int x2), .val (.int x3), .val (.int x4), .val (.int x5), .val (.int x6)] [(.int x2), (.int x1), (.int x0), (.int (3 : Int32)), (.int x6), (.int (((f5_0 x3 (0 : Int32) x0 x1 x2) + (f5_0 x4 (1 : Int32) x0 x1 x2)) + (f5_0 x5 (2 : Int32) x0 x1 x2)))])) rfl (by rw [hml]; rfl) (argsL := [(.int x6), (.int (3 : Int32)), (.int x0), (.int x1), (.int x2)]) (rest := [(.int (((f5_0 x3 (0 : Int32) x0 x1 x2) + (f5_0 x4 (1 : Int32) x0 x1 x2)) + (f5_0 x5 (2 : Int32) x0 x1 x2)))]) (lenOf pd1 rfl) rfl (by show 2 * 0 + _ ≤ _; exact Nat.le_of_eq rfl) (hb hby d4_34) (fun _ _ => ⟨rfl, e24, (by decide : 0 + 0 ≤ _), (by decide : 0 + 0 ≤ _)⟩)
  dsimp only [Pt.U, Pt.locs, Pt.cells, Pt.slots] at X34 l34 y34 z34 st34 hQ34
  subst l34 y34 z34
  obtain ⟨⟨rfl, e34⟩, N34q⟩ := hQ34
  have N34 := Fr.app N24 N34q
  rw [f4_0] at hP
  refine own_Goes.pre (fun t kt => ?_) (own_retI X34 hx hlk hret (hb hby d4_38) N34 (by rw [e34]; exact hP) (by decide) (by decide) (Ls := #[.val (.int x0), .val (.int x1), .val (.int x2), .val (.int x3), .val (.int x4), .val (.int x5), .val (.int x6)]) (rest := []) (z := ((((f5_0 x3 (0 : Int32) x0 x1 x2) + (f5_0 x4 (1 : Int32) x0 x1 x2)) + (f5_0 x5 (2 : Int32) x0 x1 x2)) + (f5_0 x6 (3 : Int32) x0 x1 x2))))
  show Steps p.tables e below (T0.setTop (mkF m 0 #[.val (.int x0), .val (.int x1), .val (.int x2), .val (.int x3), .val (.int x4), .val (.int x5), .val (.int x6)] [])) _
  refine XS.iloadN X0.here hx rfl (hb hby d4_0) rfl ?_
  show Steps p.tables e below (T0.setTop (mkF m 1 #[.val (.int x0), .val (.int x1), .val (.int x2), .val (.int x3), .val (.int x4), .val (.int x5), .val (.int x6)] [(.int x3)])) _
  refine XS.iconst X0.here hx rfl (hb hby d4_1) ?_
  show Steps p.tables e below (T0.setTop (mkF m 2 #[.val (.int x0), .val (.int x1), .val (.int x2), .val (.int x3), .val (.int x4), .val (.int x5), .val (.int x6)] [(.int (0 : Int32)), (.int x3)])) _
  refine XS.iloadN X0.here hx rfl (hb hby d4_2) rfl ?_
  show Steps p.tables e below (T0.setTop (mkF m 3 #[.val (.int x0), .val (.int x1), .val (.int x2), .val (.int x3), .val (.int x4), .val (.int x5), .val (.int x6)] [(.int x0), (.int (0 : Int32)), (.int x3)])) _
  refine XS.iloadN X0.here hx rfl (hb hby d4_3) rfl ?_
  show Steps p.tables e below (T0.setTop (mkF m 4 #[.val (.int x0), .val (.int x1), .val (.int x2), .val (.int x3), .val (.int x4), .val (.int x5), .val (.int x6)] [(.int x1), (.int x0), (.int (0 : Int32)), (.int x3)])) _
  refine XS.iloadN X0.here hx rfl (hb hby d4_4) rfl ?_
  show Steps p.tables e below (T0.setTop (mkF m 5 #[.val (.int x0), .val (.int x1), .val (.int x2), .val (.int x3), .val (.int x4), .val (.int x5), .val (.int x6)] [(.int x2), (.int x1), (.int x0), (.int (0 : Int32)), (.int x3)])) _
  refine st5 _ ?_
  show Steps p.tables e below (T5.setTop (mkF m 8 #[.val (.int x0), .val (.int x1), .val (.int x2), .val (.int x3), .val (.int x4), .val (.int x5), .val (.int x6)] [(.int (f5_0 x3 (0 : Int32) x0 x1 x2))])) _
  refine XS.iload X5.here hx rfl (hb hby d4_8) rfl ?_
  show Steps p.tables e below (T5.setTop (mkF m 10 #[.val (.int x0), .val (.int x1), .val (.int x2), .val (.int x3), .val (.int x4), .val (.int x5), .val (.int x6)] [(.int x4), (.int (f5_0 x3 (0 : Int32) x0 x1 x2))])) _
  refine XS.iconst X5.here hx rfl (hb hby d4_10) ?_
  show Steps p.tables e below (T5.setTop (mkF m 11 #[.val (.int x0), .val (.int x1), .val (.int x2), .val (.int x3), .val (.int x4), .val (.int x5), .val (.int x6)] [(.int (1 : Int32)), (.int x4), (.int (f5_0 x3 (0 : Int32) x0 x1 x2))])) _
  refine XS.iloadN X5.here hx rfl (hb hby d4_11) rfl ?_
  show Steps p.tables e below (T5.setTop (mkF m 12 #[.val (.int x0), .val (.int x1), .val (.int x2), .val (.int x3), .val (.int x4), .val (.int x5), .val (.int x6)] [(.int x0), (.int (1 : Int32)), (.int x4), (.int (f5_0 x3 (0 : Int32) x0 x1 x2))])) _
  refine XS.iloadN X5.here hx rfl (hb hby d4_12) rfl ?_
  show Steps p.tables e below (T5.setTop (mkF m 13 #[.val (.int x0), .val (.int x1), .val (.int x2), .val (.int x3), .val (.int x4), .val (.int x5), .val (.int x6)] [(.int x1), (.int x0), (.int (1 : Int32)), (.int x4), (.int (f5_0 x3 (0 : Int32) x0 x1 x2))])) _
  refine XS.iloadN X5.here hx rfl (hb hby d4_13) rfl ?_
  show Steps p.tables e below (T5.setTop (mkF m 14 #[.val (.int x0), .val (.int x1), .val (.int x2), .val (.int x3), .val (.int x4), .val (.int x5), .val (.int x6)] [(.int x2), (.int x1), (.int x0), (.int (1 : Int32)), (.int x4), (.int (f5_0 x3 (0 : Int32) x0 x1 x2))])) _
  refine st14 _ ?_
  show Steps p.tables e below (T14.setTop (mkF m 17 #[.val (.int x0), .val (.int x1), .val (.int x2), .val (.int x3), .val (.int x4), .val (.int x5), .val (.int x6)] [(.int (f5_0 x4 (1 : Int32) x0 x1 x2)), (.int (f5_0 x3 (0 : Int32) x0 x1 x2))])) _
  refine XS.iadd X14.here hx rfl (hb hby d4_17) rfl ?_
  show Steps p.tables e below (T14.setTop (mkF m 18 #[.val (.int x0), .val (.int x1), .val (.int x2), .val (.int x3), .val (.int x4), .val (.int x5), .val (.int x6)] [(.int ((f5_0 x3 (0 : Int32) x0 x1 x2) + (f5_0 x4 (1 : Int32) x0 x1 x2)))])) _
  refine XS.iload X14.here hx rfl (hb hby d4_18) rfl ?_
  show Steps p.tables e below (T14.setTop (mkF m 20 #[.val (.int x0), .val (.int x1), .val (.int x2), .val (.int x3), .val (.int x4), .val (.int x5), .val (.int x6)] [(.int x5), (.int ((f5_0 x3 (0 : Int32) x0 x1 x2) + (f5_0 x4 (1 : Int32) x0 x1 x2)))])) _
  refine XS.iconst X14.here hx rfl (hb hby d4_20) ?_
  show Steps p.tables e below (T14.setTop (mkF m 21 #[.val (.int x0), .val (.int x1), .val (.int x2), .val (.int x3), .val (.int x4), .val (.int x5), .val (.int x6)] [(.int (2 : Int32)), (.int x5), (.int ((f5_0 x3 (0 : Int32) x0 x1 x2) + (f5_0 x4 (1 : Int32) x0 x1 x2)))])) _
  refine XS.iloadN X14.here hx rfl (hb hby d4_21) rfl ?_
  show Steps p.tables e below (T14.setTop (mkF m 22 #[.val (.int x0), .val (.int x1), .val (.int x2), .val (.int x3), .val (.int x4), .val (.int x5), .val (.int x6)] [(.int x0), (.int (2 : Int32)), (.int x5), (.int ((f5_0 x3 (0 : Int32) x0 x1 x2) + (f5_0 x4 (1 : Int32) x0 x1 x2)))])) _
  refine XS.iloadN X14.here hx rfl (hb hby d4_22) rfl ?_
  show Steps p.tables e below (T14.setTop (mkF m 23 #[.val (.int x0), .val (.int x1), .val (.int x2), .val (.int x3), .val (.int x4), .val (.int x5), .val (.int x6)] [(.int x1), (.int x0), (.int (2 : Int32)), (.int x5), (.int ((f5_0 x3 (0 : Int32) x0 x1 x2) + (f5_0 x4 (1 : Int32) x0 x1 x2)))])) _
  refine XS.iloadN X14.here hx rfl (hb hby d4_23) rfl ?_
  show Steps p.tables e below (T14.setTop (mkF m 24 #[.val (.int x0), .val (.int x1), .val (.int x2), .val (.int x3), .val (.int x4), .val (.int x5), .val (.int x6)] [(.int x2), (.int x1), (.int x0), (.int (2 : Int32)), (.int x5), (.int ((f5_0 x3 (0 : Int32) x0 x1 x2) + (f5_0 x4 (1 : Int32) x0 x1 x2)))])) _
  refine st24 _ ?_
  show Steps p.tables e below (T24.setTop (mkF m 27 #[.val (.int x0), .val (.int x1), .val (.int x2), .val (.int x3), .val (.int x4), .val (.int x5), .val (.int x6)] [(.int (f5_0 x5 (2 : Int32) x0 x1 x2)), (.int ((f5_0 x3 (0 : Int32) x0 x1 x2) + (f5_0 x4 (1 : Int32) x0 x1 x2)))])) _
  refine XS.iadd X24.here hx rfl (hb hby d4_27) rfl ?_
  show Steps p.tables e below (T24.setTop (mkF m 28 #[.val (.int x0), .val (.int x1), .val (.int x2), .val (.int x3), .val (.int x4), .val (.int x5), .val (.int x6)] [(.int (((f5_0 x3 (0 : Int32) x0 x1 x2) + (f5_0 x4 (1 : Int32) x0 x1 x2)) + (f5_0 x5 (2 : Int32) x0 x1 x2)))])) _
  refine XS.iload X24.here hx rfl (hb hby d4_28) rfl ?_
  show Steps p.tables e below (T24.setTop (mkF m 30 #[.val (.int x0), .val (.int x1), .val (.int x2), .val (.int x3), .val (.int x4), .val (.int x5), .val (.int x6)] [(.int x6), (.int (((f5_0 x3 (0 : Int32) x0 x1 x2) + (f5_0 x4 (1 : Int32) x0 x1 x2)) + (f5_0 x5 (2 : Int32) x0 x1 x2)))])) _
  refine XS.iconst X24.here hx rfl (hb hby d4_30) ?_
  show Steps p.tables e below (T24.setTop (mkF m 31 #[.val (.int x0), .val (.int x1), .val (.int x2), .val (.int x3), .val (.int x4), .val (.int x5), .val (.int x6)] [(.int (3 : Int32)), (.int x6), (.int (((f5_0 x3 (0 : Int32) x0 x1 x2) + (f5_0 x4 (1 : Int32) x0 x1 x2)) + (f5_0 x5 (2 : Int32) x0 x1 x2)))])) _
  refine XS.iloadN X24.here hx rfl (hb hby d4_31) rfl ?_
  show Steps p.tables e below (T24.setTop (mkF m 32 #[.val (.int x0), .val (.int x1), .val (.int x2), .val (.int x3), .val (.int x4), .val (.int x5), .val (.int x6)] [(.int x0), (.int (3 : Int32)), (.int x6), (.int (((f5_0 x3 (0 : Int32) x0 x1 x2) + (f5_0 x4 (1 : Int32) x0 x1 x2)) + (f5_0 x5 (2 : Int32) x0 x1 x2)))])) _
  refine XS.iloadN X24.here hx rfl (hb hby d4_32) rfl ?_
  show Steps p.tables e below (T24.setTop (mkF m 33 #[.val (.int x0), .val (.int x1), .val (.int x2), .val (.int x3), .val (.int x4), .val (.int x5), .val (.int x6)] [(.int x1), (.int x0), (.int (3 : Int32)), (.int x6), (.int (((f5_0 x3 (0 : Int32) x0 x1 x2) + (f5_0 x4 (1 : Int32) x0 x1 x2)) + (f5_0 x5 (2 : Int32) x0 x1 x2)))])) _
  refine XS.iloadN X24.here hx rfl (hb hby d4_33) rfl ?_
  show Steps p.tables e below (T24.setTop (mkF m 34 #[.val (.int x0), .val (.int x1), .val (.int x2), .val (.int x3), .val (.int x4), .val (.int x5), .val (.int x6)] [(.int x2), (.int x1), (.int x0), (.int (3 : Int32)), (.int x6), (.int (((f5_0 x3 (0 : Int32) x0 x1 x2) + (f5_0 x4 (1 : Int32) x0 x1 x2)) + (f5_0 x5 (2 : Int32) x0 x1 x2)))])) _
  refine st34 _ ?_
  show Steps p.tables e below (T34.setTop (mkF m 37 #[.val (.int x0), .val (.int x1), .val (.int x2), .val (.int x3), .val (.int x4), .val (.int x5), .val (.int x6)] [(.int (f5_0 x6 (3 : Int32) x0 x1 x2)), (.int (((f5_0 x3 (0 : Int32) x0 x1 x2) + (f5_0 x4 (1 : Int32) x0 x1 x2)) + (f5_0 x5 (2 : Int32) x0 x1 x2)))])) _
  refine XS.iadd X34.here hx rfl (hb hby d4_37) rfl ?_
  exact kt
theorem ef4 (m : MethodId) (x0 : Int32) (x1 : Int32) (x2 : Int32) (x3 : Int32) (x4 : Int32) (x5 : Int32) (x6 : Int32) : entryFrame m #[(.int x0), (.int x1), (.int x2), (.int x3), (.int x4), (.int x5), (.int x6)] 7 = (mkF m 0 #[.val (.int x0), .val (.int x1), .val (.int x2), .val (.int x3), .val (.int x4), .val (.int x5), .val (.int x6)] []) := by first | (simp [entryFrame, mkF, argsToLocals, Value.category]; done) | rfl
set_option maxRecDepth 65536 in
set_option maxHeartbeats 40000000 in
theorem rm4 (l : Launch) (Z : State) (a0 : Array Value) (hw : ∀ d ∈ tables_1, d.before a0 Z = true) (ws : List Jvm.Cond) (x0 : Int32) (x1 : Int32) (x2 : Int32) (x3 : Int32) (x4 : Int32) (x5 : Int32) (x6 : Int32) (h0 : Heap) (n0 : Nat) (Z0 : n0 ≤ h0.size) :
    MetFree l (⟨"com/example/lehre/lehre/XsdLexicalNumeralPinLaw", "sum", "(IIICCCC)I"⟩ : MethodName) (head1 (Jvm.Cond.code (⟨"com/example/lehre/lehre/XsdLexicalNumeralPinLaw", "sum", "(IIICCCC)I"⟩ : MethodName) method_6_code 7 (some .int) :: ws) ({ frames := 2, cells := 0, slots := 0, locals := 30 } : Room)) (fun a U => a = #[(.int x0), (.int x1), (.int x2), (.int x3), (.int x4), (.int x5), (.int x6)] ∧ Z.Warmed39 U.vm ∧ U.heap = h0) (fun _ _ _ _ _ => True) (fun _ U o U' => ∃ v L, o = .returned v ∧ own_Q (own_val (.int (f4_0 x0 x1 x2 x3 x4 x5 x6)) h0) n0 v U'.heap L ∧ FrameEnd U o U' L ({ frames := 2, cells := 0, slots := 0, locals := 30 } : Room).cells ({ frames := 2, cells := 0, slots := 0, locals := 30 } : Room).slots) := by
  refine MetFree.of_bodySF (plainFor_of_name pn0) hisR ?_
  intro p e s m args below meth c s₁ Bd hml0 hP hK
  obtain ⟨rfl, hZ, hh⟩ := hP
  have hx := Bd.exec
  have hby := Bd.bytes
  have hml : c.maxLocals = 7 := hml0
  have hown : s.vm.findClass "com/example/lehre/lehre/XsdLexicalNumeralPinLaw" = some m.cls := findClass_of_methodNamed Bd.named
  have X0 : Stand p l e ({ frames := 2, cells := 0, slots := 0, locals := 30 } : Room) s m #[(.int x0), (.int x1), (.int x2), (.int x3), (.int x4), (.int x5), (.int x6)] below meth c s₁ [] 0 0 := Stand.of_body Bd
  have e0 : s₁.heap = h0 := by rw [← hh, Bd.state]; rfl
  refine own_Goes.pre (S' := s₁.setTop (mkF m 0 #[.val (.int x0), .val (.int x1), .val (.int x2), .val (.int x3), .val (.int x4), .val (.int x5), .val (.int x6)] [])) (P := (own_val (.int (f4_0 x0 x1 x2 x3 x4 x5 x6)) h0)) (n0 := n0) (kc := 0) (ks := 0) (fun t k => castTop (ef4 m x0 x1 x2 x3 x4 x5 x6) k) ?_
  exact b4_0 x0 x1 x2 x3 x4 x5 x6 X0 hx hZ hw hby hml hown Bd.returns Bd.notSynchronized e0 Z0 (Fr.nil n0) ⟨rfl, rfl⟩
theorem d3_0 : decode method_7_code 0 = .ok (.iload_n 0, 1) := by decide +kernel
theorem d3_1 : decode method_7_code 1 = .ok (.ifCond .ne 5, 3) := by decide +kernel
theorem d3_4 : decode method_7_code 4 = .ok (.iconst 0, 1) := by decide +kernel
theorem d3_5 : decode method_7_code 5 = .ok (.ireturn, 1) := by decide +kernel
theorem d3_6 : decode method_7_code 6 = .ok (.iload_n 1, 1) := by decide +kernel
theorem d3_7 : decode method_7_code 7 = .ok (.bipush 43, 2) := by decide +kernel
theorem d3_9 : decode method_7_code 9 = .ok (.if_icmp .eq 9, 3) := by decide +kernel
theorem d3_12 : decode method_7_code 12 = .ok (.iload_n 1, 1) := by decide +kernel
theorem d3_13 : decode method_7_code 13 = .ok (.bipush 45, 2) := by decide +kernel
theorem d3_15 : decode method_7_code 15 = .ok (.if_icmp .ne 7, 3) := by decide +kernel
theorem d3_18 : decode method_7_code 18 = .ok (.iconst 1, 1) := by decide +kernel
theorem d3_19 : decode method_7_code 19 = .ok (.goto 4, 3) := by decide +kernel
theorem d3_22 : decode method_7_code 22 = .ok (.iconst 0, 1) := by decide +kernel
theorem d3_23 : decode method_7_code 23 = .ok (.istore 5, 2) := by decide +kernel
theorem d3_25 : decode method_7_code 25 = .ok (.iload_n 0, 1) := by decide +kernel
theorem d3_26 : decode method_7_code 26 = .ok (.iload 5, 2) := by decide +kernel
theorem d3_28 : decode method_7_code 28 = .ok (.isub, 1) := by decide +kernel
theorem d3_29 : decode method_7_code 29 = .ok (.ifCond .ne 5, 3) := by decide +kernel
theorem d3_32 : decode method_7_code 32 = .ok (.iconst 1, 1) := by decide +kernel
theorem d3_33 : decode method_7_code 33 = .ok (.ireturn, 1) := by decide +kernel
theorem d3_34 : decode method_7_code 34 = .ok (.iload_n 0, 1) := by decide +kernel
theorem d3_35 : decode method_7_code 35 = .ok (.iload 5, 2) := by decide +kernel
theorem d3_37 : decode method_7_code 37 = .ok (.iconst 0, 1) := by decide +kernel
theorem d3_38 : decode method_7_code 38 = .ok (.iload_n 1, 1) := by decide +kernel
theorem d3_39 : decode method_7_code 39 = .ok (.iload_n 2, 1) := by decide +kernel
theorem d3_40 : decode method_7_code 40 = .ok (.iload_n 3, 1) := by decide +kernel
theorem d3_41 : decode method_7_code 41 = .ok (.iload 4, 2) := by decide +kernel
theorem d3_43 : decode method_7_code 43 = .ok (.invokestatic 38, 3) := by decide +kernel
theorem d3_46 : decode method_7_code 46 = .ok (.istore 6, 2) := by decide +kernel
theorem d3_48 : decode method_7_code 48 = .ok (.iload_n 0, 1) := by decide +kernel
theorem d3_49 : decode method_7_code 49 = .ok (.iload 5, 2) := by decide +kernel
theorem d3_51 : decode method_7_code 51 = .ok (.iconst 1, 1) := by decide +kernel
theorem d3_52 : decode method_7_code 52 = .ok (.iload_n 1, 1) := by decide +kernel
theorem d3_53 : decode method_7_code 53 = .ok (.iload_n 2, 1) := by decide +kernel
theorem d3_54 : decode method_7_code 54 = .ok (.iload_n 3, 1) := by decide +kernel
theorem d3_55 : decode method_7_code 55 = .ok (.iload 4, 2) := by decide +kernel
theorem d3_57 : decode method_7_code 57 = .ok (.invokestatic 38, 3) := by decide +kernel
theorem d3_60 : decode method_7_code 60 = .ok (.istore 7, 2) := by decide +kernel
theorem d3_62 : decode method_7_code 62 = .ok (.iload_n 0, 1) := by decide +kernel
theorem d3_63 : decode method_7_code 63 = .ok (.iload 5, 2) := by decide +kernel
theorem d3_65 : decode method_7_code 65 = .ok (.iconst 2, 1) := by decide +kernel
theorem d3_66 : decode method_7_code 66 = .ok (.iload_n 1, 1) := by decide +kernel
theorem d3_67 : decode method_7_code 67 = .ok (.iload_n 2, 1) := by decide +kernel
theorem d3_68 : decode method_7_code 68 = .ok (.iload_n 3, 1) := by decide +kernel
theorem d3_69 : decode method_7_code 69 = .ok (.iload 4, 2) := by decide +kernel
theorem d3_71 : decode method_7_code 71 = .ok (.invokestatic 38, 3) := by decide +kernel
theorem d3_74 : decode method_7_code 74 = .ok (.istore 8, 2) := by decide +kernel
theorem d3_76 : decode method_7_code 76 = .ok (.iload 8, 2) := by decide +kernel
theorem d3_78 : decode method_7_code 78 = .ok (.ifCond .gt 9, 3) := by decide +kernel
theorem d3_81 : decode method_7_code 81 = .ok (.iload 7, 2) := by decide +kernel
theorem d3_83 : decode method_7_code 83 = .ok (.iconst 1, 1) := by decide +kernel
theorem d3_84 : decode method_7_code 84 = .ok (.if_icmp .le 5, 3) := by decide +kernel
theorem d3_87 : decode method_7_code 87 = .ok (.iconst 5, 1) := by decide +kernel
theorem d3_88 : decode method_7_code 88 = .ok (.ireturn, 1) := by decide +kernel
theorem d3_89 : decode method_7_code 89 = .ok (.iload 7, 2) := by decide +kernel
theorem d3_91 : decode method_7_code 91 = .ok (.ifCond .ne 5, 3) := by decide +kernel
theorem d3_94 : decode method_7_code 94 = .ok (.iconst 2, 1) := by decide +kernel
theorem d3_95 : decode method_7_code 95 = .ok (.ireturn, 1) := by decide +kernel
theorem d3_96 : decode method_7_code 96 = .ok (.iload 6, 2) := by decide +kernel
theorem d3_98 : decode method_7_code 98 = .ok (.ifCond .ne 7, 3) := by decide +kernel
theorem d3_101 : decode method_7_code 101 = .ok (.iconst 3, 1) := by decide +kernel
theorem d3_102 : decode method_7_code 102 = .ok (.goto 4, 3) := by decide +kernel
theorem d3_105 : decode method_7_code 105 = .ok (.iconst 4, 1) := by decide +kernel
theorem d3_106 : decode method_7_code 106 = .ok (.ireturn, 1) := by decide +kernel
theorem pd2 : parseMethodDescriptor "(IIICCCC)I" = some ⟨[.int, .int, .int, .char, .char, .char, .char], some .int⟩ := by decide +kernel
def f3_87 (x0 : Int32) (x1 : Int32) (x2 : Int32) (x3 : Int32) (x4 : Int32) (x5 : Int32) (x6 : Int32) (x7 : Int32) (x8 : Int32) : Int32 := (5 : Int32)
set_option maxRecDepth 65536 in
set_option maxHeartbeats 40000000 in
theorem b3_87 {p : Program} {l : Launch} {e : Env} {s : State} {m : MethodId} {args : Array Value} {below : List Frame} {meth : Method} {c : Code} {T0 : State} {locs : List Loc} {Z : State} {a0 : Array Value} {h0 : Heap} {n0 : Nat} {P : Option Value → Heap → Prop} (x0 : Int32) (x1 : Int32) (x2 : Int32) (x3 : Int32) (x4 : Int32) (x5 : Int32) (x6 : Int32) (x7 : Int32) (x8 : Int32) (X0 : Stand p l e ({ frames := 3, cells := 0, slots := 0, locals := 48 } : Room) s m args below meth c T0 locs 0 0) (hx : p.tables.exec = Jvm.exec) (hZ : Z.Warmed39 s.vm) (hw : ∀ d ∈ tables_1, d.before a0 Z = true) (hby : c.code = method_7_code) (hml : c.maxLocals = 9) (hown : s.vm.findClass "com/example/lehre/lehre/XsdLexicalNumeralPinLaw" = some m.cls) (hret : meth.sig.returnType = some .int) (hlk : meth.locks = false) (e0 : T0.heap = h0) (Z0 : n0 ≤ h0.size) (N0 : Fr n0 locs) (hP : P (some (.int (f3_87 x0 x1 x2 x3 x4 x5 x6 x7 x8))) h0) :
    own_Goes p e below s n0 0 0 P (T0.setTop (mkF m 87 #[.val (.int x0), .val (.int x1), .val (.int x2), .val (.int x3), .val (.int x4), .val (.int x5), .val (.int x6), .val (.int x7), .val (.int x8)] [])) := by
  rw [f3_87] at hP
  refine own_Goes.pre (fun t kt => ?_) (own_retI X0 hx hlk hret (hb hby d3_88) N0 (by rw [e0]; exact hP) (by decide) (by decide) (Ls := #[.val (.int x0), .val (.int x1), .val (.int x2), .val (.int x3), .val (.int x4), .val (.int x5), .val (.int x6), .val (.int x7), .val (.int x8)]) (rest := []) (z := (5 : Int32)))
  show Steps p.tables e below (T0.setTop (mkF m 87 #[.val (.int x0), .val (.int x1), .val (.int x2), .val (.int x3), .val (.int x4), .val (.int x5), .val (.int x6), .val (.int x7), .val (.int x8)] [])) _
  refine XS.iconst X0.here hx rfl (hb hby d3_87) ?_
  exact kt
def f3_105 (x0 : Int32) (x1 : Int32) (x2 : Int32) (x3 : Int32) (x4 : Int32) (x5 : Int32) (x6 : Int32) (x7 : Int32) (x8 : Int32) : Int32 := (4 : Int32)
set_option maxRecDepth 65536 in
set_option maxHeartbeats 40000000 in
theorem b3_105 {p : Program} {l : Launch} {e : Env} {s : State} {m : MethodId} {args : Array Value} {below : List Frame} {meth : Method} {c : Code} {T0 : State} {locs : List Loc} {Z : State} {a0 : Array Value} {h0 : Heap} {n0 : Nat} {P : Option Value → Heap → Prop} (x0 : Int32) (x1 : Int32) (x2 : Int32) (x3 : Int32) (x4 : Int32) (x5 : Int32) (x6 : Int32) (x7 : Int32) (x8 : Int32) (X0 : Stand p l e ({ frames := 3, cells := 0, slots := 0, locals := 48 } : Room) s m args below meth c T0 locs 0 0) (hx : p.tables.exec = Jvm.exec) (hZ : Z.Warmed39 s.vm) (hw : ∀ d ∈ tables_1, d.before a0 Z = true) (hby : c.code = method_7_code) (hml : c.maxLocals = 9) (hown : s.vm.findClass "com/example/lehre/lehre/XsdLexicalNumeralPinLaw" = some m.cls) (hret : meth.sig.returnType = some .int) (hlk : meth.locks = false) (e0 : T0.heap = h0) (Z0 : n0 ≤ h0.size) (N0 : Fr n0 locs) (hP : P (some (.int (f3_105 x0 x1 x2 x3 x4 x5 x6 x7 x8))) h0) :
    own_Goes p e below s n0 0 0 P (T0.setTop (mkF m 105 #[.val (.int x0), .val (.int x1), .val (.int x2), .val (.int x3), .val (.int x4), .val (.int x5), .val (.int x6), .val (.int x7), .val (.int x8)] [])) := by
  rw [f3_105] at hP
  refine own_Goes.pre (fun t kt => ?_) (own_retI X0 hx hlk hret (hb hby d3_106) N0 (by rw [e0]; exact hP) (by decide) (by decide) (Ls := #[.val (.int x0), .val (.int x1), .val (.int x2), .val (.int x3), .val (.int x4), .val (.int x5), .val (.int x6), .val (.int x7), .val (.int x8)]) (rest := []) (z := (4 : Int32)))
  show Steps p.tables e below (T0.setTop (mkF m 105 #[.val (.int x0), .val (.int x1), .val (.int x2), .val (.int x3), .val (.int x4), .val (.int x5), .val (.int x6), .val (.int x7), .val (.int x8)] [])) _
  refine XS.iconst X0.here hx rfl (hb hby d3_105) ?_
  exact kt
def f3_101 (x0 : Int32) (x1 : Int32) (x2 : Int32) (x3 : Int32) (x4 : Int32) (x5 : Int32) (x6 : Int32) (x7 : Int32) (x8 : Int32) : Int32 := (3 : Int32)
set_option maxRecDepth 65536 in
set_option maxHeartbeats 40000000 in
theorem b3_101 {p : Program} {l : Launch} {e : Env} {s : State} {m : MethodId} {args : Array Value} {below : List Frame} {meth : Method} {c : Code} {T0 : State} {locs : List Loc} {Z : State} {a0 : Array Value} {h0 : Heap} {n0 : Nat} {P : Option Value → Heap → Prop} (x0 : Int32) (x1 : Int32) (x2 : Int32) (x3 : Int32) (x4 : Int32) (x5 : Int32) (x6 : Int32) (x7 : Int32) (x8 : Int32) (X0 : Stand p l e ({ frames := 3, cells := 0, slots := 0, locals := 48 } : Room) s m args below meth c T0 locs 0 0) (hx : p.tables.exec = Jvm.exec) (hZ : Z.Warmed39 s.vm) (hw : ∀ d ∈ tables_1, d.before a0 Z = true) (hby : c.code = method_7_code) (hml : c.maxLocals = 9) (hown : s.vm.findClass "com/example/lehre/lehre/XsdLexicalNumeralPinLaw" = some m.cls) (hret : meth.sig.returnType = some .int) (hlk : meth.locks = false) (e0 : T0.heap = h0) (Z0 : n0 ≤ h0.size) (N0 : Fr n0 locs) (hP : P (some (.int (f3_101 x0 x1 x2 x3 x4 x5 x6 x7 x8))) h0) :
    own_Goes p e below s n0 0 0 P (T0.setTop (mkF m 101 #[.val (.int x0), .val (.int x1), .val (.int x2), .val (.int x3), .val (.int x4), .val (.int x5), .val (.int x6), .val (.int x7), .val (.int x8)] [])) := by
  rw [f3_101] at hP
  refine own_Goes.pre (fun t kt => ?_) (own_retI X0 hx hlk hret (hb hby d3_106) N0 (by rw [e0]; exact hP) (by decide) (by decide) (Ls := #[.val (.int x0), .val (.int x1), .val (.int x2), .val (.int x3), .val (.int x4), .val (.int x5), .val (.int x6), .val (.int x7), .val (.int x8)]) (rest := []) (z := (3 : Int32)))
  show Steps p.tables e below (T0.setTop (mkF m 101 #[.val (.int x0), .val (.int x1), .val (.int x2), .val (.int x3), .val (.int x4), .val (.int x5), .val (.int x6), .val (.int x7), .val (.int x8)] [])) _
  refine XS.iconst X0.here hx rfl (hb hby d3_101) ?_
  show Steps p.tables e below (T0.setTop (mkF m 102 #[.val (.int x0), .val (.int x1), .val (.int x2), .val (.int x3), .val (.int x4), .val (.int x5), .val (.int x6), .val (.int x7), .val (.int x8)] [(.int (3 : Int32))])) _
  refine XS.goto X0.here hx rfl (pc0 := 102) (pc' := 106) rfl (hb hby d3_102) (by decide) (by decide) ?_
  exact kt
def f3_96 (x0 : Int32) (x1 : Int32) (x2 : Int32) (x3 : Int32) (x4 : Int32) (x5 : Int32) (x6 : Int32) (x7 : Int32) (x8 : Int32) : Int32 := if x6 = (0 : Int32) then (f3_101 x0 x1 x2 x3 x4 x5 x6 x7 x8) else (f3_105 x0 x1 x2 x3 x4 x5 x6 x7 x8)
set_option maxRecDepth 65536 in
set_option maxHeartbeats 40000000 in
theorem b3_96 {p : Program} {l : Launch} {e : Env} {s : State} {m : MethodId} {args : Array Value} {below : List Frame} {meth : Method} {c : Code} {T0 : State} {locs : List Loc} {Z : State} {a0 : Array Value} {h0 : Heap} {n0 : Nat} {P : Option Value → Heap → Prop} (x0 : Int32) (x1 : Int32) (x2 : Int32) (x3 : Int32) (x4 : Int32) (x5 : Int32) (x6 : Int32) (x7 : Int32) (x8 : Int32) (X0 : Stand p l e ({ frames := 3, cells := 0, slots := 0, locals := 48 } : Room) s m args below meth c T0 locs 0 0) (hx : p.tables.exec = Jvm.exec) (hZ : Z.Warmed39 s.vm) (hw : ∀ d ∈ tables_1, d.before a0 Z = true) (hby : c.code = method_7_code) (hml : c.maxLocals = 9) (hown : s.vm.findClass "com/example/lehre/lehre/XsdLexicalNumeralPinLaw" = some m.cls) (hret : meth.sig.returnType = some .int) (hlk : meth.locks = false) (e0 : T0.heap = h0) (Z0 : n0 ≤ h0.size) (N0 : Fr n0 locs) (hP : P (some (.int (f3_96 x0 x1 x2 x3 x4 x5 x6 x7 x8))) h0) :
    own_Goes p e below s n0 0 0 P (T0.setTop (mkF m 96 #[.val (.int x0), .val (.int x1), .val (.int x2), .val (.int x3), .val (.int x4), .val (.int x5), .val (.int x6), .val (.int x7), .val (.int x8)] [])) := by
  have pre1 : ∀ t, Steps p.tables e below (T0.setTop (mkF m 98 #[.val (.int x0), .val (.int x1), .val (.int x2), .val (.int x3), .val (.int x4), .val (.int x5), .val (.int x6), .val (.int x7), .val (.int x8)] [(.int x6)])) t → Steps p.tables e below (T0.setTop (mkF m 96 #[.val (.int x0), .val (.int x1), .val (.int x2), .val (.int x3), .val (.int x4), .val (.int x5), .val (.int x6), .val (.int x7), .val (.int x8)] [])) t := fun t kt => by
    show Steps p.tables e below (T0.setTop (mkF m 96 #[.val (.int x0), .val (.int x1), .val (.int x2), .val (.int x3), .val (.int x4), .val (.int x5), .val (.int x6), .val (.int x7), .val (.int x8)] [])) _
    refine XS.iload X0.here hx rfl (hb hby d3_96) rfl ?_
    exact kt
  refine own_Goes.pre pre1 ?_
  by_cases hc : x6 = (0 : Int32)
  · rw [f3_96, if_pos hc] at hP
    refine own_Goes.pre (fun t kt => ?_) (b3_101 x0 x1 x2 x3 x4 x5 x6 x7 x8 X0 hx hZ hw hby hml hown hret hlk e0 Z0 N0 hP)
    show Steps p.tables e below (T0.setTop (mkF m 98 #[.val (.int x0), .val (.int x1), .val (.int x2), .val (.int x3), .val (.int x4), .val (.int x5), .val (.int x6), .val (.int x7), .val (.int x8)] [(.int x6)])) _
    refine XS.ifNo X0.here hx rfl (hb hby d3_98) rfl ((if0 _ _).trans (teq hc).2) ?_
    exact kt
  · rw [f3_96, if_neg hc] at hP
    refine own_Goes.pre (fun t kt => ?_) (b3_105 x0 x1 x2 x3 x4 x5 x6 x7 x8 X0 hx hZ hw hby hml hown hret hlk e0 Z0 N0 hP)
    show Steps p.tables e below (T0.setTop (mkF m 98 #[.val (.int x0), .val (.int x1), .val (.int x2), .val (.int x3), .val (.int x4), .val (.int x5), .val (.int x6), .val (.int x7), .val (.int x8)] [(.int x6)])) _
    refine XS.ifYes X0.here hx rfl (pc0 := 98) (pc' := 105) rfl (hb hby d3_98) rfl ((if0 _ _).trans (feq hc).2) (by decide) (by decide) ?_
    exact kt
def f3_94 (x0 : Int32) (x1 : Int32) (x2 : Int32) (x3 : Int32) (x4 : Int32) (x5 : Int32) (x6 : Int32) (x7 : Int32) (x8 : Int32) : Int32 := (2 : Int32)
set_option maxRecDepth 65536 in
set_option maxHeartbeats 40000000 in
theorem b3_94 {p : Program} {l : Launch} {e : Env} {s : State} {m : MethodId} {args : Array Value} {below : List Frame} {meth : Method} {c : Code} {T0 : State} {locs : List Loc} {Z : State} {a0 : Array Value} {h0 : Heap} {n0 : Nat} {P : Option Value → Heap → Prop} (x0 : Int32) (x1 : Int32) (x2 : Int32) (x3 : Int32) (x4 : Int32) (x5 : Int32) (x6 : Int32) (x7 : Int32) (x8 : Int32) (X0 : Stand p l e ({ frames := 3, cells := 0, slots := 0, locals := 48 } : Room) s m args below meth c T0 locs 0 0) (hx : p.tables.exec = Jvm.exec) (hZ : Z.Warmed39 s.vm) (hw : ∀ d ∈ tables_1, d.before a0 Z = true) (hby : c.code = method_7_code) (hml : c.maxLocals = 9) (hown : s.vm.findClass "com/example/lehre/lehre/XsdLexicalNumeralPinLaw" = some m.cls) (hret : meth.sig.returnType = some .int) (hlk : meth.locks = false) (e0 : T0.heap = h0) (Z0 : n0 ≤ h0.size) (N0 : Fr n0 locs) (hP : P (some (.int (f3_94 x0 x1 x2 x3 x4 x5 x6 x7 x8))) h0) :
    own_Goes p e below s n0 0 0 P (T0.setTop (mkF m 94 #[.val (.int x0), .val (.int x1), .val (.int x2), .val (.int x3), .val (.int x4), .val (.int x5), .val (.int x6), .val (.int x7), .val (.int x8)] [])) := by
  rw [f3_94] at hP
  refine own_Goes.pre (fun t kt => ?_) (own_retI X0 hx hlk hret (hb hby d3_95) N0 (by rw [e0]; exact hP) (by decide) (by decide) (Ls := #[.val (.int x0), .val (.int x1), .val (.int x2), .val (.int x3), .val (.int x4), .val (.int x5), .val (.int x6), .val (.int x7), .val (.int x8)]) (rest := []) (z := (2 : Int32)))
  show Steps p.tables e below (T0.setTop (mkF m 94 #[.val (.int x0), .val (.int x1), .val (.int x2), .val (.int x3), .val (.int x4), .val (.int x5), .val (.int x6), .val (.int x7), .val (.int x8)] [])) _
  refine XS.iconst X0.here hx rfl (hb hby d3_94) ?_
  exact kt
def f3_89 (x0 : Int32) (x1 : Int32) (x2 : Int32) (x3 : Int32) (x4 : Int32) (x5 : Int32) (x6 : Int32) (x7 : Int32) (x8 : Int32) : Int32 := if x7 = (0 : Int32) then (f3_94 x0 x1 x2 x3 x4 x5 x6 x7 x8) else (f3_96 x0 x1 x2 x3 x4 x5 x6 x7 x8)
set_option maxRecDepth 65536 in
set_option maxHeartbeats 40000000 in
theorem b3_89 {p : Program} {l : Launch} {e : Env} {s : State} {m : MethodId} {args : Array Value} {below : List Frame} {meth : Method} {c : Code} {T0 : State} {locs : List Loc} {Z : State} {a0 : Array Value} {h0 : Heap} {n0 : Nat} {P : Option Value → Heap → Prop} (x0 : Int32) (x1 : Int32) (x2 : Int32) (x3 : Int32) (x4 : Int32) (x5 : Int32) (x6 : Int32) (x7 : Int32) (x8 : Int32) (X0 : Stand p l e ({ frames := 3, cells := 0, slots := 0, locals := 48 } : Room) s m args below meth c T0 locs 0 0) (hx : p.tables.exec = Jvm.exec) (hZ : Z.Warmed39 s.vm) (hw : ∀ d ∈ tables_1, d.before a0 Z = true) (hby : c.code = method_7_code) (hml : c.maxLocals = 9) (hown : s.vm.findClass "com/example/lehre/lehre/XsdLexicalNumeralPinLaw" = some m.cls) (hret : meth.sig.returnType = some .int) (hlk : meth.locks = false) (e0 : T0.heap = h0) (Z0 : n0 ≤ h0.size) (N0 : Fr n0 locs) (hP : P (some (.int (f3_89 x0 x1 x2 x3 x4 x5 x6 x7 x8))) h0) :
    own_Goes p e below s n0 0 0 P (T0.setTop (mkF m 89 #[.val (.int x0), .val (.int x1), .val (.int x2), .val (.int x3), .val (.int x4), .val (.int x5), .val (.int x6), .val (.int x7), .val (.int x8)] [])) := by
  have pre1 : ∀ t, Steps p.tables e below (T0.setTop (mkF m 91 #[.val (.int x0), .val (.int x1), .val (.int x2), .val (.int x3), .val (.int x4), .val (.int x5), .val (.int x6), .val (.int x7), .val (.int x8)] [(.int x7)])) t → Steps p.tables e below (T0.setTop (mkF m 89 #[.val (.int x0), .val (.int x1), .val (.int x2), .val (.int x3), .val (.int x4), .val (.int x5), .val (.int x6), .val (.int x7), .val (.int x8)] [])) t := fun t kt => by
    show Steps p.tables e below (T0.setTop (mkF m 89 #[.val (.int x0), .val (.int x1), .val (.int x2), .val (.int x3), .val (.int x4), .val (.int x5), .val (.int x6), .val (.int x7), .val (.int x8)] [])) _
    refine XS.iload X0.here hx rfl (hb hby d3_89) rfl ?_
    exact kt
  refine own_Goes.pre pre1 ?_
  by_cases hc : x7 = (0 : Int32)
  · rw [f3_89, if_pos hc] at hP
    refine own_Goes.pre (fun t kt => ?_) (b3_94 x0 x1 x2 x3 x4 x5 x6 x7 x8 X0 hx hZ hw hby hml hown hret hlk e0 Z0 N0 hP)
    show Steps p.tables e below (T0.setTop (mkF m 91 #[.val (.int x0), .val (.int x1), .val (.int x2), .val (.int x3), .val (.int x4), .val (.int x5), .val (.int x6), .val (.int x7), .val (.int x8)] [(.int x7)])) _
    refine XS.ifNo X0.here hx rfl (hb hby d3_91) rfl ((if0 _ _).trans (teq hc).2) ?_
    exact kt
  · rw [f3_89, if_neg hc] at hP
    refine own_Goes.pre (fun t kt => ?_) (b3_96 x0 x1 x2 x3 x4 x5 x6 x7 x8 X0 hx hZ hw hby hml hown hret hlk e0 Z0 N0 hP)
    show Steps p.tables e below (T0.setTop (mkF m 91 #[.val (.int x0), .val (.int x1), .val (.int x2), .val (.int x3), .val (.int x4), .val (.int x5), .val (.int x6), .val (.int x7), .val (.int x8)] [(.int x7)])) _
    refine XS.ifYes X0.here hx rfl (pc0 := 91) (pc' := 96) rfl (hb hby d3_91) rfl ((if0 _ _).trans (feq hc).2) (by decide) (by decide) ?_
    exact kt
def f3_81 (x0 : Int32) (x1 : Int32) (x2 : Int32) (x3 : Int32) (x4 : Int32) (x5 : Int32) (x6 : Int32) (x7 : Int32) (x8 : Int32) : Int32 := if (1 : Int32) < x7 then (f3_87 x0 x1 x2 x3 x4 x5 x6 x7 x8) else (f3_89 x0 x1 x2 x3 x4 x5 x6 x7 x8)
set_option maxRecDepth 65536 in
set_option maxHeartbeats 40000000 in
theorem b3_81 {p : Program} {l : Launch} {e : Env} {s : State} {m : MethodId} {args : Array Value} {below : List Frame} {meth : Method} {c : Code} {T0 : State} {locs : List Loc} {Z : State} {a0 : Array Value} {h0 : Heap} {n0 : Nat} {P : Option Value → Heap → Prop} (x0 : Int32) (x1 : Int32) (x2 : Int32) (x3 : Int32) (x4 : Int32) (x5 : Int32) (x6 : Int32) (x7 : Int32) (x8 : Int32) (X0 : Stand p l e ({ frames := 3, cells := 0, slots := 0, locals := 48 } : Room) s m args below meth c T0 locs 0 0) (hx : p.tables.exec = Jvm.exec) (hZ : Z.Warmed39 s.vm) (hw : ∀ d ∈ tables_1, d.before a0 Z = true) (hby : c.code = method_7_code) (hml : c.maxLocals = 9) (hown : s.vm.findClass "com/example/lehre/lehre/XsdLexicalNumeralPinLaw" = some m.cls) (hret : meth.sig.returnType = some .int) (hlk : meth.locks = false) (e0 : T0.heap = h0) (Z0 : n0 ≤ h0.size) (N0 : Fr n0 locs) (hP : P (some (.int (f3_81 x0 x1 x2 x3 x4 x5 x6 x7 x8))) h0) :
    own_Goes p e below s n0 0 0 P (T0.setTop (mkF m 81 #[.val (.int x0), .val (.int x1), .val (.int x2), .val (.int x3), .val (.int x4), .val (.int x5), .val (.int x6), .val (.int x7), .val (.int x8)] [])) := by
  have pre1 : ∀ t, Steps p.tables e below (T0.setTop (mkF m 84 #[.val (.int x0), .val (.int x1), .val (.int x2), .val (.int x3), .val (.int x4), .val (.int x5), .val (.int x6), .val (.int x7), .val (.int x8)] [(.int (1 : Int32)), (.int x7)])) t → Steps p.tables e below (T0.setTop (mkF m 81 #[.val (.int x0), .val (.int x1), .val (.int x2), .val (.int x3), .val (.int x4), .val (.int x5), .val (.int x6), .val (.int x7), .val (.int x8)] [])) t := fun t kt => by
    show Steps p.tables e below (T0.setTop (mkF m 81 #[.val (.int x0), .val (.int x1), .val (.int x2), .val (.int x3), .val (.int x4), .val (.int x5), .val (.int x6), .val (.int x7), .val (.int x8)] [])) _
    refine XS.iload X0.here hx rfl (hb hby d3_81) rfl ?_
    show Steps p.tables e below (T0.setTop (mkF m 83 #[.val (.int x0), .val (.int x1), .val (.int x2), .val (.int x3), .val (.int x4), .val (.int x5), .val (.int x6), .val (.int x7), .val (.int x8)] [(.int x7)])) _
    refine XS.iconst X0.here hx rfl (hb hby d3_83) ?_
    exact kt
  refine own_Goes.pre pre1 ?_
  by_cases hc : (1 : Int32) < x7
  · rw [f3_81, if_pos hc] at hP
    refine own_Goes.pre (fun t kt => ?_) (b3_87 x0 x1 x2 x3 x4 x5 x6 x7 x8 X0 hx hZ hw hby hml hown hret hlk e0 Z0 N0 hP)
    show Steps p.tables e below (T0.setTop (mkF m 84 #[.val (.int x0), .val (.int x1), .val (.int x2), .val (.int x3), .val (.int x4), .val (.int x5), .val (.int x6), .val (.int x7), .val (.int x8)] [(.int (1 : Int32)), (.int x7)])) _
    refine XS.icmpNo X0.here hx rfl (hb hby d3_84) rfl (tlt hc).2.2.2 ?_
    exact kt
  · rw [f3_81, if_neg hc] at hP
    refine own_Goes.pre (fun t kt => ?_) (b3_89 x0 x1 x2 x3 x4 x5 x6 x7 x8 X0 hx hZ hw hby hml hown hret hlk e0 Z0 N0 hP)
    show Steps p.tables e below (T0.setTop (mkF m 84 #[.val (.int x0), .val (.int x1), .val (.int x2), .val (.int x3), .val (.int x4), .val (.int x5), .val (.int x6), .val (.int x7), .val (.int x8)] [(.int (1 : Int32)), (.int x7)])) _
    refine XS.icmpYes X0.here hx rfl (pc0 := 84) (pc' := 89) rfl (hb hby d3_84) rfl (flt hc).2.2.2 (by decide) (by decide) ?_
    exact kt
def f3_34 (x0 : Int32) (x1 : Int32) (x2 : Int32) (x3 : Int32) (x4 : Int32) (x5 : Int32) : Int32 := if (0 : Int32) < (f4_0 x0 x5 (2 : Int32) x1 x2 x3 x4) then (f3_87 x0 x1 x2 x3 x4 x5 (f4_0 x0 x5 (0 : Int32) x1 x2 x3 x4) (f4_0 x0 x5 (1 : Int32) x1 x2 x3 x4) (f4_0 x0 x5 (2 : Int32) x1 x2 x3 x4)) else (f3_81 x0 x1 x2 x3 x4 x5 (f4_0 x0 x5 (0 : Int32) x1 x2 x3 x4) (f4_0 x0 x5 (1 : Int32) x1 x2 x3 x4) (f4_0 x0 x5 (2 : Int32) x1 x2 x3 x4))
set_option maxRecDepth 65536 in
set_option maxHeartbeats 40000000 in
theorem b3_34 {p : Program} {l : Launch} {e : Env} {s : State} {m : MethodId} {args : Array Value} {below : List Frame} {meth : Method} {c : Code} {T0 : State} {locs : List Loc} {Z : State} {a0 : Array Value} {h0 : Heap} {n0 : Nat} {P : Option Value → Heap → Prop} (x0 : Int32) (x1 : Int32) (x2 : Int32) (x3 : Int32) (x4 : Int32) (x5 : Int32) (X0 : Stand p l e ({ frames := 3, cells := 0, slots := 0, locals := 48 } : Room) s m args below meth c T0 locs 0 0) (hx : p.tables.exec = Jvm.exec) (hZ : Z.Warmed39 s.vm) (hw : ∀ d ∈ tables_1, d.before a0 Z = true) (hby : c.code = method_7_code) (hml : c.maxLocals = 9) (hown : s.vm.findClass "com/example/lehre/lehre/XsdLexicalNumeralPinLaw" = some m.cls) (hret : meth.sig.returnType = some .int) (hlk : meth.locks = false) (e0 : T0.heap = h0) (Z0 : n0 ≤ h0.size) (N0 : Fr n0 locs) (hP : P (some (.int (f3_34 x0 x1 x2 x3 x4 x5))) h0) :
    own_Goes p e below s n0 0 0 P (T0.setTop (mkF m 34 #[.val (.int x0), .val (.int x1), .val (.int x2), .val (.int x3), .val (.int x4), .val (.int x5), .unset, .unset, .unset] [])) := by
  obtain ⟨_, _, ⟨T43, L43, k43, n43⟩, -, X43, ⟨Lc43, hQ43, l43, y43, z43⟩, st43⟩ := Jvm.LawKit.callS X0 hx (y := (⟨"com/example/lehre/lehre/XsdLexicalNumeralPinLaw", "sum", "(IIICCCC)I"⟩ : MethodName)) hown (mvT hZ (hw _ (List.mem_of_getElem? (i := 11) rfl))) (mvT hZ (hw _ (List.mem_of_getElem? (i := 12) rfl))) (mvT hZ (hw _ (List.mem_of_getElem? (i := 2) rfl))) (mvT hZ (hw _ (List.mem_of_getElem? (i := 13) rfl))) (by decide) (backOf (W := 0) (rm4 l Z a0 hw [] x0 x5 (0 : Int32) x1 x2 x3 x4 h0 n0 Z0) hZ (hw _ (List.mem_of_getElem? (i := 13) rfl)) (hw _ (List.mem_of_getElem? (i := 2) rfl)) (by decide) (by decide)) (g := (mkF m 43 #[.val (.int x0), .val (.int x1), .val (.int x2), .val (.int x3), .val (.int x4), .val (.int x5), .unset, .unset, .unset] [(.int x4), (.int x3), (.int x2), (.int x1), (.int (0 : Int32)), (.int x5), (.int x0)])) rfl (by rw [hml]; rfl) (argsL := [(.int x0), (.int x5), (.int (0 : Int32)), (.int x1), (.int x2), (.int x3), (.int x4)]) (rest := []) (lenOf pd2 rfl) rfl (by show 2 * 0 + _ ≤ _; exact Nat.le_of_eq rfl) (hb hby d3_43) (fun _ _ => ⟨rfl, e0, (by decide : 0 + 0 ≤ _), (by decide : 0 + 0 ≤ _)⟩)
  dsimp only [Pt.U, Pt.locs, Pt.cells, Pt.slots] at X43 l43 y43 z43 st43 hQ43
  subst l43 y43 z43
  obtain ⟨⟨rfl, e43⟩, N43q⟩ := hQ43
  have N43 := Fr.app N0 N43q
  obtain ⟨_, _, ⟨T57, L57, k57, n57⟩, -, X57, ⟨Lc57, hQ57, l57, y57, z57⟩, st57⟩ := Jvm.LawKit.callS X43 hx (y := (⟨"com/example/lehre/lehre/XsdLexicalNumeralPinLaw", "sum", "(IIICCCC)I"⟩ : MethodName)) hown (mvT hZ (hw _ (List.mem_of_getElem? (i := 11) rfl))) (mvT hZ (hw _ (List.mem_of_getElem? (i := 12) rfl))) (mvT hZ (hw _ (List.mem_of_getElem? (i := 2) rfl))) (mvT hZ (hw _ (List.mem_of_getElem? (i := 13) rfl))) (by decide) (backOf (W := 0) (rm4 l Z a0 hw [] x0 x5 (1 : Int32) x1 x2 x3 x4 h0 n0 Z0) hZ (hw _ (List.mem_of_getElem? (i := 13) rfl)) (hw _ (List.mem_of_getElem? (i := 2) rfl)) (by decide) (by decide)) (g := (mkF m 57 #[.val (.int x0), .val (.int x1), .val (.int x2), .val (.int x3), .val (.int x4), .val (.int x5), .val (.int (f4_0 x0 x5 (0 : Int32) x1 x2 x3 x4)), .unset, .unset] [(.int x4), (.int x3), (.int x2), (.int x1), (.int (1 : Int32)), (.int x5), (.int x0)])) rfl (by rw [hml]; rfl) (argsL := [(.int x0), (.int x5), (.int (1 : Int32)), (.int x1), (.int x2), (.int x3), (.int x4)]) (rest := []) (lenOf pd2 rfl) rfl (by show 2 * 0 + _ ≤ _; exact Nat.le_of_eq rfl) (hb hby d3_57) (fun _ _ => ⟨rfl, e43, (by decide : 0 + 0 ≤ _), (by decide : 0 + 0 ≤ _)⟩)
  dsimp only [Pt.U, Pt.locs, Pt.cells, Pt.slots] at X57 l57 y57 z57 st57 hQ57
  subst l57 y57 z57
  obtain ⟨⟨rfl, e57⟩, N57q⟩ := hQ57
  have N57 := Fr.app N43 N57q
  obtain ⟨_, _, ⟨T71, L71, k71, n71⟩, -, X71, ⟨Lc71, hQ71, l71, y71, z71⟩, st71⟩ := Jvm.LawKit.callS X57 hx (y := (⟨"com/example/lehre/lehre/XsdLexicalNumeralPinLaw", "sum", "(IIICCCC)I"⟩ : MethodName)) hown (mvT hZ (hw _ (List.mem_of_getElem? (i := 11) rfl))) (mvT hZ (hw _ (List.mem_of_getElem? (i := 12) rfl))) (mvT hZ (hw _ (List.mem_of_getElem? (i := 2) rfl))) (mvT hZ (hw _ (List.mem_of_getElem? (i := 13) rfl))) (by decide) (backOf (W := 0) (rm4 l Z a0 hw [] x0 x5 (2 : Int32) x1 x2 x3 x4 h0 n0 Z0) hZ (hw _ (List.mem_of_getElem? (i := 13) rfl)) (hw _ (List.mem_of_getElem? (i := 2) rfl)) (by decide) (by decide)) (g := (mkF m 71 #[.val (.int x0), .val (.int x1), .val (.int x2), .val (.int x3), .val (.int x4), .val (.int x5), .val (.int (f4_0 x0 x5 (0 : Int32) x1 x2 x3 x4)), .val (.int (f4_0 x0 x5 (1 : Int32) x1 x2 x3 x4)), .unset] [(.int x4), (.int x3), (.int x2), (.int x1), (.int (2 : Int32)), (.int x5), (.int x0)])) rfl (by rw [hml]; rfl) (argsL := [(.int x0), (.int x5), (.int (2 : Int32)), (.int x1), (.int x2), (.int x3), (.int x4)]) (rest := []) (lenOf pd2 rfl) rfl (by show 2 * 0 + _ ≤ _; exact Nat.le_of_eq rfl) (hb hby d3_71) (fun _ _ => ⟨rfl, e57, (by decide : 0 + 0 ≤ _), (by decide : 0 + 0 ≤ _)⟩)
  dsimp only [Pt.U, Pt.locs, Pt.cells, Pt.slots] at X71 l71 y71 z71 st71 hQ71
  subst l71 y71 z71
  obtain ⟨⟨rfl, e71⟩, N71q⟩ := hQ71
  have N71 := Fr.app N57 N71q
  have pre1 : ∀ t, Steps p.tables e below (T71.setTop (mkF m 78 #[.val (.int x0), .val (.int x1), .val (.int x2), .val (.int x3), .val (.int x4), .val (.int x5), .val (.int (f4_0 x0 x5 (0 : Int32) x1 x2 x3 x4)), .val (.int (f4_0 x0 x5 (1 : Int32) x1 x2 x3 x4)), .val (.int (f4_0 x0 x5 (2 : Int32) x1 x2 x3 x4))] [(.int (f4_0 x0 x5 (2 : Int32) x1 x2 x3 x4))])) t → Steps p.tables e below (T0.setTop (mkF m 34 #[.val (.int x0), .val (.int x1), .val (.int x2), .val (.int x3), .val (.int x4), .val (.int x5), .unset, .unset, .unset] [])) t := fun t kt => by
    show Steps p.tables e below (T0.setTop (mkF m 34 #[.val (.int x0), .val (.int x1), .val (.int x2), .val (.int x3), .val (.int x4), .val (.int x5), .unset, .unset, .unset] [])) _
    refine XS.iloadN X0.here hx rfl (hb hby d3_34) rfl ?_
    show Steps p.tables e below (T0.setTop (mkF m 35 #[.val (.int x0), .val (.int x1), .val (.int x2), .val (.int x3), .val (.int x4), .val (.int x5), .unset, .unset, .unset] [(.int x0)])) _
    refine XS.iload X0.here hx rfl (hb hby d3_35) rfl ?_
    show Steps p.tables e below (T0.setTop (mkF m 37 #[.val (.int x0), .val (.int x1), .val (.int x2), .val (.int x3), .val (.int x4), .val (.int x5), .unset, .unset, .unset] [(.int x5), (.int x0)])) _
    refine XS.iconst X0.here hx rfl (hb hby d3_37) ?_
    show Steps p.tables e below (T0.setTop (mkF m 38 #[.val (.int x0), .val (.int x1), .val (.int x2), .val (.int x3), .val (.int x4), .val (.int x5), .unset, .unset, .unset] [(.int (0 : Int32)), (.int x5), (.int x0)])) _
    refine XS.iloadN X0.here hx rfl (hb hby d3_38) rfl ?_
    show Steps p.tables e below (T0.setTop (mkF m 39 #[.val (.int x0), .val (.int x1), .val (.int x2), .val (.int x3), .val (.int x4), .val (.int x5), .unset, .unset, .unset] [(.int x1), (.int (0 : Int32)), (.int x5), (.int x0)])) _
    refine XS.iloadN X0.here hx rfl (hb hby d3_39) rfl ?_
    show Steps p.tables e below (T0.setTop (mkF m 40 #[.val (.int x0), .val (.int x1), .val (.int x2), .val (.int x3), .val (.int x4), .val (.int x5), .unset, .unset, .unset] [(.int x2), (.int x1), (.int (0 : Int32)), (.int x5), (.int x0)])) _
    refine XS.iloadN X0.here hx rfl (hb hby d3_40) rfl ?_
    show Steps p.tables e below (T0.setTop (mkF m 41 #[.val (.int x0), .val (.int x1), .val (.int x2), .val (.int x3), .val (.int x4), .val (.int x5), .unset, .unset, .unset] [(.int x3), (.int x2), (.int x1), (.int (0 : Int32)), (.int x5), (.int x0)])) _
    refine XS.iload X0.here hx rfl (hb hby d3_41) rfl ?_
    show Steps p.tables e below (T0.setTop (mkF m 43 #[.val (.int x0), .val (.int x1), .val (.int x2), .val (.int x3), .val (.int x4), .val (.int x5), .unset, .unset, .unset] [(.int x4), (.int x3), (.int x2), (.int x1), (.int (0 : Int32)), (.int x5), (.int x0)])) _
    refine st43 _ ?_
    show Steps p.tables e below (T43.setTop (mkF m 46 #[.val (.int x0), .val (.int x1), .val (.int x2), .val (.int x3), .val (.int x4), .val (.int x5), .unset, .unset, .unset] [(.int (f4_0 x0 x5 (0 : Int32) x1 x2 x3 x4))])) _
    refine XS.istore X43.here hx rfl (hb hby d3_46) rfl (l' := #[.val (.int x0), .val (.int x1), .val (.int x2), .val (.int x3), .val (.int x4), .val (.int x5), .val (.int (f4_0 x0 x5 (0 : Int32) x1 x2 x3 x4)), .unset, .unset]) rfl ?_
    show Steps p.tables e below (T43.setTop (mkF m 48 #[.val (.int x0), .val (.int x1), .val (.int x2), .val (.int x3), .val (.int x4), .val (.int x5), .val (.int (f4_0 x0 x5 (0 : Int32) x1 x2 x3 x4)), .unset, .unset] [])) _
    refine XS.iloadN X43.here hx rfl (hb hby d3_48) rfl ?_
    show Steps p.tables e below (T43.setTop (mkF m 49 #[.val (.int x0), .val (.int x1), .val (.int x2), .val (.int x3), .val (.int x4), .val (.int x5), .val (.int (f4_0 x0 x5 (0 : Int32) x1 x2 x3 x4)), .unset, .unset] [(.int x0)])) _
    refine XS.iload X43.here hx rfl (hb hby d3_49) rfl ?_
    show Steps p.tables e below (T43.setTop (mkF m 51 #[.val (.int x0), .val (.int x1), .val (.int x2), .val (.int x3), .val (.int x4), .val (.int x5), .val (.int (f4_0 x0 x5 (0 : Int32) x1 x2 x3 x4)), .unset, .unset] [(.int x5), (.int x0)])) _
    refine XS.iconst X43.here hx rfl (hb hby d3_51) ?_
    show Steps p.tables e below (T43.setTop (mkF m 52 #[.val (.int x0), .val (.int x1), .val (.int x2), .val (.int x3), .val (.int x4), .val (.int x5), .val (.int (f4_0 x0 x5 (0 : Int32) x1 x2 x3 x4)), .unset, .unset] [(.int (1 : Int32)), (.int x5), (.int x0)])) _
    refine XS.iloadN X43.here hx rfl (hb hby d3_52) rfl ?_
    show Steps p.tables e below (T43.setTop (mkF m 53 #[.val (.int x0), .val (.int x1), .val (.int x2), .val (.int x3), .val (.int x4), .val (.int x5), .val (.int (f4_0 x0 x5 (0 : Int32) x1 x2 x3 x4)), .unset, .unset] [(.int x1), (.int (1 : Int32)), (.int x5), (.int x0)])) _
    refine XS.iloadN X43.here hx rfl (hb hby d3_53) rfl ?_
    show Steps p.tables e below (T43.setTop (mkF m 54 #[.val (.int x0), .val (.int x1), .val (.int x2), .val (.int x3), .val (.int x4), .val (.int x5), .val (.int (f4_0 x0 x5 (0 : Int32) x1 x2 x3 x4)), .unset, .unset] [(.int x2), (.int x1), (.int (1 : Int32)), (.int x5), (.int x0)])) _
    refine XS.iloadN X43.here hx rfl (hb hby d3_54) rfl ?_
    show Steps p.tables e below (T43.setTop (mkF m 55 #[.val (.int x0), .val (.int x1), .val (.int x2), .val (.int x3), .val (.int x4), .val (.int x5), .val (.int (f4_0 x0 x5 (0 : Int32) x1 x2 x3 x4)), .unset, .unset] [(.int x3), (.int x2), (.int x1), (.int (1 : Int32)), (.int x5), (.int x0)])) _
    refine XS.iload X43.here hx rfl (hb hby d3_55) rfl ?_
    show Steps p.tables e below (T43.setTop (mkF m 57 #[.val (.int x0), .val (.int x1), .val (.int x2), .val (.int x3), .val (.int x4), .val (.int x5), .val (.int (f4_0 x0 x5 (0 : Int32) x1 x2 x3 x4)), .unset, .unset] [(.int x4), (.int x3), (.int x2), (.int x1), (.int (1 : Int32)), (.int x5), (.int x0)])) _
    refine st57 _ ?_
    show Steps p.tables e below (T57.setTop (mkF m 60 #[.val (.int x0), .val (.int x1), .val (.int x2), .val (.int x3), .val (.int x4), .val (.int x5), .val (.int (f4_0 x0 x5 (0 : Int32) x1 x2 x3 x4)), .unset, .unset] [(.int (f4_0 x0 x5 (1 : Int32) x1 x2 x3 x4))])) _
    refine XS.istore X57.here hx rfl (hb hby d3_60) rfl (l' := #[.val (.int x0), .val (.int x1), .val (.int x2), .val (.int x3), .val (.int x4), .val (.int x5), .val (.int (f4_0 x0 x5 (0 : Int32) x1 x2 x3 x4)), .val (.int (f4_0 x0 x5 (1 : Int32) x1 x2 x3 x4)), .unset]) rfl ?_
    show Steps p.tables e below (T57.setTop (mkF m 62 #[.val (.int x0), .val (.int x1), .val (.int x2), .val (.int x3), .val (.int x4), .val (.int x5), .val (.int (f4_0 x0 x5 (0 : Int32) x1 x2 x3 x4)), .val (.int (f4_0 x0 x5 (1 : Int32) x1 x2 x3 x4)), .unset] [])) _
    refine XS.iloadN X57.here hx rfl (hb hby d3_62) rfl ?_
    show Steps p.tables e below (T57.setTop (mkF m 63 #[.val (.int x0), .val (.int x1), .val (.int x2), .val (.int x3), .val (.int x4), .val (.int x5), .val (.int (f4_0 x0 x5 (0 : Int32) x1 x2 x3 x4)), .val (.int (f4_0 x0 x5 (1 : Int32) x1 x2 x3 x4)), .unset] [(.int x0)])) _
    refine XS.iload X57.here hx rfl (hb hby d3_63) rfl ?_
    show Steps p.tables e below (T57.setTop (mkF m 65 #[.val (.int x0), .val (.int x1), .val (.int x2), .val (.int x3), .val (.int x4), .val (.int x5), .val (.int (f4_0 x0 x5 (0 : Int32) x1 x2 x3 x4)), .val (.int (f4_0 x0 x5 (1 : Int32) x1 x2 x3 x4)), .unset] [(.int x5), (.int x0)])) _
    refine XS.iconst X57.here hx rfl (hb hby d3_65) ?_
    show Steps p.tables e below (T57.setTop (mkF m 66 #[.val (.int x0), .val (.int x1), .val (.int x2), .val (.int x3), .val (.int x4), .val (.int x5), .val (.int (f4_0 x0 x5 (0 : Int32) x1 x2 x3 x4)), .val (.int (f4_0 x0 x5 (1 : Int32) x1 x2 x3 x4)), .unset] [(.int (2 : Int32)), (.int x5), (.int x0)])) _
    refine XS.iloadN X57.here hx rfl (hb hby d3_66) rfl ?_
    show Steps p.tables e below (T57.setTop (mkF m 67 #[.val (.int x0), .val (.int x1), .val (.int x2), .val (.int x3), .val (.int x4), .val (.int x5), .val (.int (f4_0 x0 x5 (0 : Int32) x1 x2 x3 x4)), .val (.int (f4_0 x0 x5 (1 : Int32) x1 x2 x3 x4)), .unset] [(.int x1), (.int (2 : Int32)), (.int x5), (.int x0)])) _
    refine XS.iloadN X57.here hx rfl (hb hby d3_67) rfl ?_
    show Steps p.tables e below (T57.setTop (mkF m 68 #[.val (.int x0), .val (.int x1), .val (.int x2), .val (.int x3), .val (.int x4), .val (.int x5), .val (.int (f4_0 x0 x5 (0 : Int32) x1 x2 x3 x4)), .val (.int (f4_0 x0 x5 (1 : Int32) x1 x2 x3 x4)), .unset] [(.int x2), (.int x1), (.int (2 : Int32)), (.int x5), (.int x0)])) _
    refine XS.iloadN X57.here hx rfl (hb hby d3_68) rfl ?_
    show Steps p.tables e below (T57.setTop (mkF m 69 #[.val (.int x0), .val (.int x1), .val (.int x2), .val (.int x3), .val (.int x4), .val (.int x5), .val (.int (f4_0 x0 x5 (0 : Int32) x1 x2 x3 x4)), .val (.int (f4_0 x0 x5 (1 : Int32) x1 x2 x3 x4)), .unset] [(.int x3), (.int x2), (.int x1), (.int (2 : Int32)), (.int x5), (.int x0)])) _
    refine XS.iload X57.here hx rfl (hb hby d3_69) rfl ?_
    show Steps p.tables e below (T57.setTop (mkF m 71 #[.val (.int x0), .val (.int x1), .val (.int x2), .val (.int x3), .val (.int x4), .val (.int x5), .val (.int (f4_0 x0 x5 (0 : Int32) x1 x2 x3 x4)), .val (.int (f4_0 x0 x5 (1 : Int32) x1 x2 x3 x4)), .unset] [(.int x4), (.int x3), (.int x2), (.int x1), (.int (2 : Int32)), (.int x5), (.int x0)])) _
    refine st71 _ ?_
    show Steps p.tables e below (T71.setTop (mkF m 74 #[.val (.int x0), .val (.int x1), .val (.int x2), .val (.int x3), .val (.int x4), .val (.int x5), .val (.int (f4_0 x0 x5 (0 : Int32) x1 x2 x3 x4)), .val (.int (f4_0 x0 x5 (1 : Int32) x1 x2 x3 x4)), .unset] [(.int (f4_0 x0 x5 (2 : Int32) x1 x2 x3 x4))])) _
    refine XS.istore X71.here hx rfl (hb hby d3_74) rfl (l' := #[.val (.int x0), .val (.int x1), .val (.int x2), .val (.int x3), .val (.int x4), .val (.int x5), .val (.int (f4_0 x0 x5 (0 : Int32) x1 x2 x3 x4)), .val (.int (f4_0 x0 x5 (1 : Int32) x1 x2 x3 x4)), .val (.int (f4_0 x0 x5 (2 : Int32) x1 x2 x3 x4))]) rfl ?_
    show Steps p.tables e below (T71.setTop (mkF m 76 #[.val (.int x0), .val (.int x1), .val (.int x2), .val (.int x3), .val (.int x4), .val (.int x5), .val (.int (f4_0 x0 x5 (0 : Int32) x1 x2 x3 x4)), .val (.int (f4_0 x0 x5 (1 : Int32) x1 x2 x3 x4)), .val (.int (f4_0 x0 x5 (2 : Int32) x1 x2 x3 x4))] [])) _
    refine XS.iload X71.here hx rfl (hb hby d3_76) rfl ?_
    exact kt
  refine own_Goes.pre pre1 ?_
  by_cases hc : (0 : Int32) < (f4_0 x0 x5 (2 : Int32) x1 x2 x3 x4)
  · rw [f3_34, if_pos hc] at hP
    refine own_Goes.pre (fun t kt => ?_) (b3_87 x0 x1 x2 x3 x4 x5 (f4_0 x0 x5 (0 : Int32) x1 x2 x3 x4) (f4_0 x0 x5 (1 : Int32) x1 x2 x3 x4) (f4_0 x0 x5 (2 : Int32) x1 x2 x3 x4) X71 hx hZ hw hby hml hown hret hlk e71 Z0 N71 hP)
    show Steps p.tables e below (T71.setTop (mkF m 78 #[.val (.int x0), .val (.int x1), .val (.int x2), .val (.int x3), .val (.int x4), .val (.int x5), .val (.int (f4_0 x0 x5 (0 : Int32) x1 x2 x3 x4)), .val (.int (f4_0 x0 x5 (1 : Int32) x1 x2 x3 x4)), .val (.int (f4_0 x0 x5 (2 : Int32) x1 x2 x3 x4))] [(.int (f4_0 x0 x5 (2 : Int32) x1 x2 x3 x4))])) _
    refine XS.ifYes X71.here hx rfl (pc0 := 78) (pc' := 87) rfl (hb hby d3_78) rfl ((if0 _ _).trans (tlt hc).2.2.1) (by decide) (by decide) ?_
    exact kt
  · rw [f3_34, if_neg hc] at hP
    refine own_Goes.pre (fun t kt => ?_) (b3_81 x0 x1 x2 x3 x4 x5 (f4_0 x0 x5 (0 : Int32) x1 x2 x3 x4) (f4_0 x0 x5 (1 : Int32) x1 x2 x3 x4) (f4_0 x0 x5 (2 : Int32) x1 x2 x3 x4) X71 hx hZ hw hby hml hown hret hlk e71 Z0 N71 hP)
    show Steps p.tables e below (T71.setTop (mkF m 78 #[.val (.int x0), .val (.int x1), .val (.int x2), .val (.int x3), .val (.int x4), .val (.int x5), .val (.int (f4_0 x0 x5 (0 : Int32) x1 x2 x3 x4)), .val (.int (f4_0 x0 x5 (1 : Int32) x1 x2 x3 x4)), .val (.int (f4_0 x0 x5 (2 : Int32) x1 x2 x3 x4))] [(.int (f4_0 x0 x5 (2 : Int32) x1 x2 x3 x4))])) _
    refine XS.ifNo X71.here hx rfl (hb hby d3_78) rfl ((if0 _ _).trans (flt hc).2.2.1) ?_
    exact kt
def f3_32 (x0 : Int32) (x1 : Int32) (x2 : Int32) (x3 : Int32) (x4 : Int32) (x5 : Int32) : Int32 := (1 : Int32)
set_option maxRecDepth 65536 in
set_option maxHeartbeats 40000000 in
theorem b3_32 {p : Program} {l : Launch} {e : Env} {s : State} {m : MethodId} {args : Array Value} {below : List Frame} {meth : Method} {c : Code} {T0 : State} {locs : List Loc} {Z : State} {a0 : Array Value} {h0 : Heap} {n0 : Nat} {P : Option Value → Heap → Prop} (x0 : Int32) (x1 : Int32) (x2 : Int32) (x3 : Int32) (x4 : Int32) (x5 : Int32) (X0 : Stand p l e ({ frames := 3, cells := 0, slots := 0, locals := 48 } : Room) s m args below meth c T0 locs 0 0) (hx : p.tables.exec = Jvm.exec) (hZ : Z.Warmed39 s.vm) (hw : ∀ d ∈ tables_1, d.before a0 Z = true) (hby : c.code = method_7_code) (hml : c.maxLocals = 9) (hown : s.vm.findClass "com/example/lehre/lehre/XsdLexicalNumeralPinLaw" = some m.cls) (hret : meth.sig.returnType = some .int) (hlk : meth.locks = false) (e0 : T0.heap = h0) (Z0 : n0 ≤ h0.size) (N0 : Fr n0 locs) (hP : P (some (.int (f3_32 x0 x1 x2 x3 x4 x5))) h0) :
    own_Goes p e below s n0 0 0 P (T0.setTop (mkF m 32 #[.val (.int x0), .val (.int x1), .val (.int x2), .val (.int x3), .val (.int x4), .val (.int x5), .unset, .unset, .unset] [])) := by
  rw [f3_32] at hP
  refine own_Goes.pre (fun t kt => ?_) (own_retI X0 hx hlk hret (hb hby d3_33) N0 (by rw [e0]; exact hP) (by decide) (by decide) (Ls := #[.val (.int x0), .val (.int x1), .val (.int x2), .val (.int x3), .val (.int x4), .val (.int x5), .unset, .unset, .unset]) (rest := []) (z := (1 : Int32)))
  show Steps p.tables e below (T0.setTop (mkF m 32 #[.val (.int x0), .val (.int x1), .val (.int x2), .val (.int x3), .val (.int x4), .val (.int x5), .unset, .unset, .unset] [])) _
  refine XS.iconst X0.here hx rfl (hb hby d3_32) ?_
  exact kt
def f3_23 (x0 : Int32) (x1 : Int32) (x2 : Int32) (x3 : Int32) (x4 : Int32) (y0 : Int32) : Int32 := if (x0 - y0) = (0 : Int32) then (f3_32 x0 x1 x2 x3 x4 y0) else (f3_34 x0 x1 x2 x3 x4 y0)
set_option maxRecDepth 65536 in
set_option maxHeartbeats 40000000 in
theorem b3_23 {p : Program} {l : Launch} {e : Env} {s : State} {m : MethodId} {args : Array Value} {below : List Frame} {meth : Method} {c : Code} {T0 : State} {locs : List Loc} {Z : State} {a0 : Array Value} {h0 : Heap} {n0 : Nat} {P : Option Value → Heap → Prop} (x0 : Int32) (x1 : Int32) (x2 : Int32) (x3 : Int32) (x4 : Int32) (y0 : Int32) (X0 : Stand p l e ({ frames := 3, cells := 0, slots := 0, locals := 48 } : Room) s m args below meth c T0 locs 0 0) (hx : p.tables.exec = Jvm.exec) (hZ : Z.Warmed39 s.vm) (hw : ∀ d ∈ tables_1, d.before a0 Z = true) (hby : c.code = method_7_code) (hml : c.maxLocals = 9) (hown : s.vm.findClass "com/example/lehre/lehre/XsdLexicalNumeralPinLaw" = some m.cls) (hret : meth.sig.returnType = some .int) (hlk : meth.locks = false) (e0 : T0.heap = h0) (Z0 : n0 ≤ h0.size) (N0 : Fr n0 locs) (hP : P (some (.int (f3_23 x0 x1 x2 x3 x4 y0))) h0) :
    own_Goes p e below s n0 0 0 P (T0.setTop (mkF m 23 #[.val (.int x0), .val (.int x1), .val (.int x2), .val (.int x3), .val (.int x4), .unset, .unset, .unset, .unset] [(.int y0)])) := by
  have pre1 : ∀ t, Steps p.tables e below (T0.setTop (mkF m 29 #[.val (.int x0), .val (.int x1), .val (.int x2), .val (.int x3), .val (.int x4), .val (.int y0), .unset, .unset, .unset] [(.int (x0 - y0))])) t → Steps p.tables e below (T0.setTop (mkF m 23 #[.val (.int x0), .val (.int x1), .val (.int x2), .val (.int x3), .val (.int x4), .unset, .unset, .unset, .unset] [(.int y0)])) t := fun t kt => by
    show Steps p.tables e below (T0.setTop (mkF m 23 #[.val (.int x0), .val (.int x1), .val (.int x2), .val (.int x3), .val (.int x4), .unset, .unset, .unset, .unset] [(.int y0)])) _
    refine XS.istore X0.here hx rfl (hb hby d3_23) rfl (l' := #[.val (.int x0), .val (.int x1), .val (.int x2), .val (.int x3), .val (.int x4), .val (.int y0), .unset, .unset, .unset]) rfl ?_
    show Steps p.tables e below (T0.setTop (mkF m 25 #[.val (.int x0), .val (.int x1), .val (.int x2), .val (.int x3), .val (.int x4), .val (.int y0), .unset, .unset, .unset] [])) _
    refine XS.iloadN X0.here hx rfl (hb hby d3_25) rfl ?_
    show Steps p.tables e below (T0.setTop (mkF m 26 #[.val (.int x0), .val (.int x1), .val (.int x2), .val (.int x3), .val (.int x4), .val (.int y0), .unset, .unset, .unset] [(.int x0)])) _
    refine XS.iload X0.here hx rfl (hb hby d3_26) rfl ?_
    show Steps p.tables e below (T0.setTop (mkF m 28 #[.val (.int x0), .val (.int x1), .val (.int x2), .val (.int x3), .val (.int x4), .val (.int y0), .unset, .unset, .unset] [(.int y0), (.int x0)])) _
    refine XS.isub X0.here hx rfl (hb hby d3_28) rfl ?_
    exact kt
  refine own_Goes.pre pre1 ?_
  by_cases hc : (x0 - y0) = (0 : Int32)
  · rw [f3_23, if_pos hc] at hP
    refine own_Goes.pre (fun t kt => ?_) (b3_32 x0 x1 x2 x3 x4 y0 X0 hx hZ hw hby hml hown hret hlk e0 Z0 N0 hP)
    show Steps p.tables e below (T0.setTop (mkF m 29 #[.val (.int x0), .val (.int x1), .val (.int x2), .val (.int x3), .val (.int x4), .val (.int y0), .unset, .unset, .unset] [(.int (x0 - y0))])) _
    refine XS.ifNo X0.here hx rfl (hb hby d3_29) rfl ((if0 _ _).trans (teq hc).2) ?_
    exact kt
  · rw [f3_23, if_neg hc] at hP
    refine own_Goes.pre (fun t kt => ?_) (b3_34 x0 x1 x2 x3 x4 y0 X0 hx hZ hw hby hml hown hret hlk e0 Z0 N0 hP)
    show Steps p.tables e below (T0.setTop (mkF m 29 #[.val (.int x0), .val (.int x1), .val (.int x2), .val (.int x3), .val (.int x4), .val (.int y0), .unset, .unset, .unset] [(.int (x0 - y0))])) _
    refine XS.ifYes X0.here hx rfl (pc0 := 29) (pc' := 34) rfl (hb hby d3_29) rfl ((if0 _ _).trans (feq hc).2) (by decide) (by decide) ?_
    exact kt
def f3_18 (x0 : Int32) (x1 : Int32) (x2 : Int32) (x3 : Int32) (x4 : Int32) : Int32 := (f3_23 x0 x1 x2 x3 x4 (1 : Int32))
set_option maxRecDepth 65536 in
set_option maxHeartbeats 40000000 in
theorem b3_18 {p : Program} {l : Launch} {e : Env} {s : State} {m : MethodId} {args : Array Value} {below : List Frame} {meth : Method} {c : Code} {T0 : State} {locs : List Loc} {Z : State} {a0 : Array Value} {h0 : Heap} {n0 : Nat} {P : Option Value → Heap → Prop} (x0 : Int32) (x1 : Int32) (x2 : Int32) (x3 : Int32) (x4 : Int32) (X0 : Stand p l e ({ frames := 3, cells := 0, slots := 0, locals := 48 } : Room) s m args below meth c T0 locs 0 0) (hx : p.tables.exec = Jvm.exec) (hZ : Z.Warmed39 s.vm) (hw : ∀ d ∈ tables_1, d.before a0 Z = true) (hby : c.code = method_7_code) (hml : c.maxLocals = 9) (hown : s.vm.findClass "com/example/lehre/lehre/XsdLexicalNumeralPinLaw" = some m.cls) (hret : meth.sig.returnType = some .int) (hlk : meth.locks = false) (e0 : T0.heap = h0) (Z0 : n0 ≤ h0.size) (N0 : Fr n0 locs) (hP : P (some (.int (f3_18 x0 x1 x2 x3 x4))) h0) :
    own_Goes p e below s n0 0 0 P (T0.setTop (mkF m 18 #[.val (.int x0), .val (.int x1), .val (.int x2), .val (.int x3), .val (.int x4), .unset, .unset, .unset, .unset] [])) := by
  rw [f3_18] at hP
  refine own_Goes.pre (fun t kt => ?_) (b3_23 x0 x1 x2 x3 x4 (1 : Int32) X0 hx hZ hw hby hml hown hret hlk e0 Z0 N0 hP)
  show Steps p.tables e below (T0.setTop (mkF m 18 #[.val (.int x0), .val (.int x1), .val (.int x2), .val (.int x3), .val (.int x4), .unset, .unset, .unset, .unset] [])) _
  refine XS.iconst X0.here hx rfl (hb hby d3_18) ?_
  show Steps p.tables e below (T0.setTop (mkF m 19 #[.val (.int x0), .val (.int x1), .val (.int x2), .val (.int x3), .val (.int x4), .unset, .unset, .unset, .unset] [(.int (1 : Int32))])) _
  refine XS.goto X0.here hx rfl (pc0 := 19) (pc' := 23) rfl (hb hby d3_19) (by decide) (by decide) ?_
  exact kt
def f3_22 (x0 : Int32) (x1 : Int32) (x2 : Int32) (x3 : Int32) (x4 : Int32) : Int32 := (f3_23 x0 x1 x2 x3 x4 (0 : Int32))
set_option maxRecDepth 65536 in
set_option maxHeartbeats 40000000 in
theorem b3_22 {p : Program} {l : Launch} {e : Env} {s : State} {m : MethodId} {args : Array Value} {below : List Frame} {meth : Method} {c : Code} {T0 : State} {locs : List Loc} {Z : State} {a0 : Array Value} {h0 : Heap} {n0 : Nat} {P : Option Value → Heap → Prop} (x0 : Int32) (x1 : Int32) (x2 : Int32) (x3 : Int32) (x4 : Int32) (X0 : Stand p l e ({ frames := 3, cells := 0, slots := 0, locals := 48 } : Room) s m args below meth c T0 locs 0 0) (hx : p.tables.exec = Jvm.exec) (hZ : Z.Warmed39 s.vm) (hw : ∀ d ∈ tables_1, d.before a0 Z = true) (hby : c.code = method_7_code) (hml : c.maxLocals = 9) (hown : s.vm.findClass "com/example/lehre/lehre/XsdLexicalNumeralPinLaw" = some m.cls) (hret : meth.sig.returnType = some .int) (hlk : meth.locks = false) (e0 : T0.heap = h0) (Z0 : n0 ≤ h0.size) (N0 : Fr n0 locs) (hP : P (some (.int (f3_22 x0 x1 x2 x3 x4))) h0) :
    own_Goes p e below s n0 0 0 P (T0.setTop (mkF m 22 #[.val (.int x0), .val (.int x1), .val (.int x2), .val (.int x3), .val (.int x4), .unset, .unset, .unset, .unset] [])) := by
  rw [f3_22] at hP
  refine own_Goes.pre (fun t kt => ?_) (b3_23 x0 x1 x2 x3 x4 (0 : Int32) X0 hx hZ hw hby hml hown hret hlk e0 Z0 N0 hP)
  show Steps p.tables e below (T0.setTop (mkF m 22 #[.val (.int x0), .val (.int x1), .val (.int x2), .val (.int x3), .val (.int x4), .unset, .unset, .unset, .unset] [])) _
  refine XS.iconst X0.here hx rfl (hb hby d3_22) ?_
  exact kt
def f3_12 (x0 : Int32) (x1 : Int32) (x2 : Int32) (x3 : Int32) (x4 : Int32) : Int32 := if x1 = (45 : Int32) then (f3_18 x0 x1 x2 x3 x4) else (f3_22 x0 x1 x2 x3 x4)
set_option maxRecDepth 65536 in
set_option maxHeartbeats 40000000 in
theorem b3_12 {p : Program} {l : Launch} {e : Env} {s : State} {m : MethodId} {args : Array Value} {below : List Frame} {meth : Method} {c : Code} {T0 : State} {locs : List Loc} {Z : State} {a0 : Array Value} {h0 : Heap} {n0 : Nat} {P : Option Value → Heap → Prop} (x0 : Int32) (x1 : Int32) (x2 : Int32) (x3 : Int32) (x4 : Int32) (X0 : Stand p l e ({ frames := 3, cells := 0, slots := 0, locals := 48 } : Room) s m args below meth c T0 locs 0 0) (hx : p.tables.exec = Jvm.exec) (hZ : Z.Warmed39 s.vm) (hw : ∀ d ∈ tables_1, d.before a0 Z = true) (hby : c.code = method_7_code) (hml : c.maxLocals = 9) (hown : s.vm.findClass "com/example/lehre/lehre/XsdLexicalNumeralPinLaw" = some m.cls) (hret : meth.sig.returnType = some .int) (hlk : meth.locks = false) (e0 : T0.heap = h0) (Z0 : n0 ≤ h0.size) (N0 : Fr n0 locs) (hP : P (some (.int (f3_12 x0 x1 x2 x3 x4))) h0) :
    own_Goes p e below s n0 0 0 P (T0.setTop (mkF m 12 #[.val (.int x0), .val (.int x1), .val (.int x2), .val (.int x3), .val (.int x4), .unset, .unset, .unset, .unset] [])) := by
  have pre1 : ∀ t, Steps p.tables e below (T0.setTop (mkF m 15 #[.val (.int x0), .val (.int x1), .val (.int x2), .val (.int x3), .val (.int x4), .unset, .unset, .unset, .unset] [(.int (45 : Int32)), (.int x1)])) t → Steps p.tables e below (T0.setTop (mkF m 12 #[.val (.int x0), .val (.int x1), .val (.int x2), .val (.int x3), .val (.int x4), .unset, .unset, .unset, .unset] [])) t := fun t kt => by
    show Steps p.tables e below (T0.setTop (mkF m 12 #[.val (.int x0), .val (.int x1), .val (.int x2), .val (.int x3), .val (.int x4), .unset, .unset, .unset, .unset] [])) _
    refine XS.iloadN X0.here hx rfl (hb hby d3_12) rfl ?_
    show Steps p.tables e below (T0.setTop (mkF m 13 #[.val (.int x0), .val (.int x1), .val (.int x2), .val (.int x3), .val (.int x4), .unset, .unset, .unset, .unset] [(.int x1)])) _
    refine XS.bipush X0.here hx rfl (hb hby d3_13) ?_
    exact kt
  refine own_Goes.pre pre1 ?_
  by_cases hc : x1 = (45 : Int32)
  · rw [f3_12, if_pos hc] at hP
    refine own_Goes.pre (fun t kt => ?_) (b3_18 x0 x1 x2 x3 x4 X0 hx hZ hw hby hml hown hret hlk e0 Z0 N0 hP)
    show Steps p.tables e below (T0.setTop (mkF m 15 #[.val (.int x0), .val (.int x1), .val (.int x2), .val (.int x3), .val (.int x4), .unset, .unset, .unset, .unset] [(.int (45 : Int32)), (.int x1)])) _
    refine XS.icmpNo X0.here hx rfl (hb hby d3_15) rfl (teq hc).2 ?_
    exact kt
  · rw [f3_12, if_neg hc] at hP
    refine own_Goes.pre (fun t kt => ?_) (b3_22 x0 x1 x2 x3 x4 X0 hx hZ hw hby hml hown hret hlk e0 Z0 N0 hP)
    show Steps p.tables e below (T0.setTop (mkF m 15 #[.val (.int x0), .val (.int x1), .val (.int x2), .val (.int x3), .val (.int x4), .unset, .unset, .unset, .unset] [(.int (45 : Int32)), (.int x1)])) _
    refine XS.icmpYes X0.here hx rfl (pc0 := 15) (pc' := 22) rfl (hb hby d3_15) rfl (feq hc).2 (by decide) (by decide) ?_
    exact kt
def f3_6 (x0 : Int32) (x1 : Int32) (x2 : Int32) (x3 : Int32) (x4 : Int32) : Int32 := if x1 = (43 : Int32) then (f3_18 x0 x1 x2 x3 x4) else (f3_12 x0 x1 x2 x3 x4)
set_option maxRecDepth 65536 in
set_option maxHeartbeats 40000000 in
theorem b3_6 {p : Program} {l : Launch} {e : Env} {s : State} {m : MethodId} {args : Array Value} {below : List Frame} {meth : Method} {c : Code} {T0 : State} {locs : List Loc} {Z : State} {a0 : Array Value} {h0 : Heap} {n0 : Nat} {P : Option Value → Heap → Prop} (x0 : Int32) (x1 : Int32) (x2 : Int32) (x3 : Int32) (x4 : Int32) (X0 : Stand p l e ({ frames := 3, cells := 0, slots := 0, locals := 48 } : Room) s m args below meth c T0 locs 0 0) (hx : p.tables.exec = Jvm.exec) (hZ : Z.Warmed39 s.vm) (hw : ∀ d ∈ tables_1, d.before a0 Z = true) (hby : c.code = method_7_code) (hml : c.maxLocals = 9) (hown : s.vm.findClass "com/example/lehre/lehre/XsdLexicalNumeralPinLaw" = some m.cls) (hret : meth.sig.returnType = some .int) (hlk : meth.locks = false) (e0 : T0.heap = h0) (Z0 : n0 ≤ h0.size) (N0 : Fr n0 locs) (hP : P (some (.int (f3_6 x0 x1 x2 x3 x4))) h0) :
    own_Goes p e below s n0 0 0 P (T0.setTop (mkF m 6 #[.val (.int x0), .val (.int x1), .val (.int x2), .val (.int x3), .val (.int x4), .unset, .unset, .unset, .unset] [])) := by
  have pre1 : ∀ t, Steps p.tables e below (T0.setTop (mkF m 9 #[.val (.int x0), .val (.int x1), .val (.int x2), .val (.int x3), .val (.int x4), .unset, .unset, .unset, .unset] [(.int (43 : Int32)), (.int x1)])) t → Steps p.tables e below (T0.setTop (mkF m 6 #[.val (.int x0), .val (.int x1), .val (.int x2), .val (.int x3), .val (.int x4), .unset, .unset, .unset, .unset] [])) t := fun t kt => by
    show Steps p.tables e below (T0.setTop (mkF m 6 #[.val (.int x0), .val (.int x1), .val (.int x2), .val (.int x3), .val (.int x4), .unset, .unset, .unset, .unset] [])) _
    refine XS.iloadN X0.here hx rfl (hb hby d3_6) rfl ?_
    show Steps p.tables e below (T0.setTop (mkF m 7 #[.val (.int x0), .val (.int x1), .val (.int x2), .val (.int x3), .val (.int x4), .unset, .unset, .unset, .unset] [(.int x1)])) _
    refine XS.bipush X0.here hx rfl (hb hby d3_7) ?_
    exact kt
  refine own_Goes.pre pre1 ?_
  by_cases hc : x1 = (43 : Int32)
  · rw [f3_6, if_pos hc] at hP
    refine own_Goes.pre (fun t kt => ?_) (b3_18 x0 x1 x2 x3 x4 X0 hx hZ hw hby hml hown hret hlk e0 Z0 N0 hP)
    show Steps p.tables e below (T0.setTop (mkF m 9 #[.val (.int x0), .val (.int x1), .val (.int x2), .val (.int x3), .val (.int x4), .unset, .unset, .unset, .unset] [(.int (43 : Int32)), (.int x1)])) _
    refine XS.icmpYes X0.here hx rfl (pc0 := 9) (pc' := 18) rfl (hb hby d3_9) rfl (teq hc).1 (by decide) (by decide) ?_
    exact kt
  · rw [f3_6, if_neg hc] at hP
    refine own_Goes.pre (fun t kt => ?_) (b3_12 x0 x1 x2 x3 x4 X0 hx hZ hw hby hml hown hret hlk e0 Z0 N0 hP)
    show Steps p.tables e below (T0.setTop (mkF m 9 #[.val (.int x0), .val (.int x1), .val (.int x2), .val (.int x3), .val (.int x4), .unset, .unset, .unset, .unset] [(.int (43 : Int32)), (.int x1)])) _
    refine XS.icmpNo X0.here hx rfl (hb hby d3_9) rfl (feq hc).1 ?_
    exact kt
def f3_4 (x0 : Int32) (x1 : Int32) (x2 : Int32) (x3 : Int32) (x4 : Int32) : Int32 := (0 : Int32)
set_option maxRecDepth 65536 in
set_option maxHeartbeats 40000000 in
theorem b3_4 {p : Program} {l : Launch} {e : Env} {s : State} {m : MethodId} {args : Array Value} {below : List Frame} {meth : Method} {c : Code} {T0 : State} {locs : List Loc} {Z : State} {a0 : Array Value} {h0 : Heap} {n0 : Nat} {P : Option Value → Heap → Prop} (x0 : Int32) (x1 : Int32) (x2 : Int32) (x3 : Int32) (x4 : Int32) (X0 : Stand p l e ({ frames := 3, cells := 0, slots := 0, locals := 48 } : Room) s m args below meth c T0 locs 0 0) (hx : p.tables.exec = Jvm.exec) (hZ : Z.Warmed39 s.vm) (hw : ∀ d ∈ tables_1, d.before a0 Z = true) (hby : c.code = method_7_code) (hml : c.maxLocals = 9) (hown : s.vm.findClass "com/example/lehre/lehre/XsdLexicalNumeralPinLaw" = some m.cls) (hret : meth.sig.returnType = some .int) (hlk : meth.locks = false) (e0 : T0.heap = h0) (Z0 : n0 ≤ h0.size) (N0 : Fr n0 locs) (hP : P (some (.int (f3_4 x0 x1 x2 x3 x4))) h0) :
    own_Goes p e below s n0 0 0 P (T0.setTop (mkF m 4 #[.val (.int x0), .val (.int x1), .val (.int x2), .val (.int x3), .val (.int x4), .unset, .unset, .unset, .unset] [])) := by
  rw [f3_4] at hP
  refine own_Goes.pre (fun t kt => ?_) (own_retI X0 hx hlk hret (hb hby d3_5) N0 (by rw [e0]; exact hP) (by decide) (by decide) (Ls := #[.val (.int x0), .val (.int x1), .val (.int x2), .val (.int x3), .val (.int x4), .unset, .unset, .unset, .unset]) (rest := []) (z := (0 : Int32)))
  show Steps p.tables e below (T0.setTop (mkF m 4 #[.val (.int x0), .val (.int x1), .val (.int x2), .val (.int x3), .val (.int x4), .unset, .unset, .unset, .unset] [])) _
  refine XS.iconst X0.here hx rfl (hb hby d3_4) ?_
  exact kt
def f3_0 (x0 : Int32) (x1 : Int32) (x2 : Int32) (x3 : Int32) (x4 : Int32) : Int32 := if x0 = (0 : Int32) then (f3_4 x0 x1 x2 x3 x4) else (f3_6 x0 x1 x2 x3 x4)
set_option maxRecDepth 65536 in
set_option maxHeartbeats 40000000 in
theorem b3_0 {p : Program} {l : Launch} {e : Env} {s : State} {m : MethodId} {args : Array Value} {below : List Frame} {meth : Method} {c : Code} {T0 : State} {locs : List Loc} {Z : State} {a0 : Array Value} {h0 : Heap} {n0 : Nat} {P : Option Value → Heap → Prop} (x0 : Int32) (x1 : Int32) (x2 : Int32) (x3 : Int32) (x4 : Int32) (X0 : Stand p l e ({ frames := 3, cells := 0, slots := 0, locals := 48 } : Room) s m args below meth c T0 locs 0 0) (hx : p.tables.exec = Jvm.exec) (hZ : Z.Warmed39 s.vm) (hw : ∀ d ∈ tables_1, d.before a0 Z = true) (hby : c.code = method_7_code) (hml : c.maxLocals = 9) (hown : s.vm.findClass "com/example/lehre/lehre/XsdLexicalNumeralPinLaw" = some m.cls) (hret : meth.sig.returnType = some .int) (hlk : meth.locks = false) (e0 : T0.heap = h0) (Z0 : n0 ≤ h0.size) (N0 : Fr n0 locs) (hP : P (some (.int (f3_0 x0 x1 x2 x3 x4))) h0) :
    own_Goes p e below s n0 0 0 P (T0.setTop (mkF m 0 #[.val (.int x0), .val (.int x1), .val (.int x2), .val (.int x3), .val (.int x4), .unset, .unset, .unset, .unset] [])) := by
  have pre1 : ∀ t, Steps p.tables e below (T0.setTop (mkF m 1 #[.val (.int x0), .val (.int x1), .val (.int x2), .val (.int x3), .val (.int x4), .unset, .unset, .unset, .unset] [(.int x0)])) t → Steps p.tables e below (T0.setTop (mkF m 0 #[.val (.int x0), .val (.int x1), .val (.int x2), .val (.int x3), .val (.int x4), .unset, .unset, .unset, .unset] [])) t := fun t kt => by
    show Steps p.tables e below (T0.setTop (mkF m 0 #[.val (.int x0), .val (.int x1), .val (.int x2), .val (.int x3), .val (.int x4), .unset, .unset, .unset, .unset] [])) _
    refine XS.iloadN X0.here hx rfl (hb hby d3_0) rfl ?_
    exact kt
  refine own_Goes.pre pre1 ?_
  by_cases hc : x0 = (0 : Int32)
  · rw [f3_0, if_pos hc] at hP
    refine own_Goes.pre (fun t kt => ?_) (b3_4 x0 x1 x2 x3 x4 X0 hx hZ hw hby hml hown hret hlk e0 Z0 N0 hP)
    show Steps p.tables e below (T0.setTop (mkF m 1 #[.val (.int x0), .val (.int x1), .val (.int x2), .val (.int x3), .val (.int x4), .unset, .unset, .unset, .unset] [(.int x0)])) _
    refine XS.ifNo X0.here hx rfl (hb hby d3_1) rfl ((if0 _ _).trans (teq hc).2) ?_
    exact kt
  · rw [f3_0, if_neg hc] at hP
    refine own_Goes.pre (fun t kt => ?_) (b3_6 x0 x1 x2 x3 x4 X0 hx hZ hw hby hml hown hret hlk e0 Z0 N0 hP)
    show Steps p.tables e below (T0.setTop (mkF m 1 #[.val (.int x0), .val (.int x1), .val (.int x2), .val (.int x3), .val (.int x4), .unset, .unset, .unset, .unset] [(.int x0)])) _
    refine XS.ifYes X0.here hx rfl (pc0 := 1) (pc' := 6) rfl (hb hby d3_1) rfl ((if0 _ _).trans (feq hc).2) (by decide) (by decide) ?_
    exact kt
theorem ef3 (m : MethodId) (x0 : Int32) (x1 : Int32) (x2 : Int32) (x3 : Int32) (x4 : Int32) : entryFrame m #[(.int x0), (.int x1), (.int x2), (.int x3), (.int x4)] 9 = (mkF m 0 #[.val (.int x0), .val (.int x1), .val (.int x2), .val (.int x3), .val (.int x4), .unset, .unset, .unset, .unset] []) := by first | (simp [entryFrame, mkF, argsToLocals, Value.category]; done) | rfl
set_option maxRecDepth 65536 in
set_option maxHeartbeats 40000000 in
theorem rm3 (l : Launch) (Z : State) (a0 : Array Value) (hw : ∀ d ∈ tables_1, d.before a0 Z = true) (ws : List Jvm.Cond) (x0 : Int32) (x1 : Int32) (x2 : Int32) (x3 : Int32) (x4 : Int32) (h0 : Heap) (n0 : Nat) (Z0 : n0 ≤ h0.size) :
    MetFree l (⟨"com/example/lehre/lehre/XsdLexicalNumeralPinLaw", "expected", "(ICCCC)I"⟩ : MethodName) (head1 (Jvm.Cond.code (⟨"com/example/lehre/lehre/XsdLexicalNumeralPinLaw", "expected", "(ICCCC)I"⟩ : MethodName) method_7_code 9 (some .int) :: ws) ({ frames := 3, cells := 0, slots := 0, locals := 48 } : Room)) (fun a U => a = #[(.int x0), (.int x1), (.int x2), (.int x3), (.int x4)] ∧ Z.Warmed39 U.vm ∧ U.heap = h0) (fun _ _ _ _ _ => True) (fun _ U o U' => ∃ v L, o = .returned v ∧ own_Q (own_val (.int (f3_0 x0 x1 x2 x3 x4)) h0) n0 v U'.heap L ∧ FrameEnd U o U' L ({ frames := 3, cells := 0, slots := 0, locals := 48 } : Room).cells ({ frames := 3, cells := 0, slots := 0, locals := 48 } : Room).slots) := by
  refine MetFree.of_bodySF (plainFor_of_name pn0) hisR ?_
  intro p e s m args below meth c s₁ Bd hml0 hP hK
  obtain ⟨rfl, hZ, hh⟩ := hP
  have hx := Bd.exec
  have hby := Bd.bytes
  have hml : c.maxLocals = 9 := hml0
  have hown : s.vm.findClass "com/example/lehre/lehre/XsdLexicalNumeralPinLaw" = some m.cls := findClass_of_methodNamed Bd.named
  have X0 : Stand p l e ({ frames := 3, cells := 0, slots := 0, locals := 48 } : Room) s m #[(.int x0), (.int x1), (.int x2), (.int x3), (.int x4)] below meth c s₁ [] 0 0 := Stand.of_body Bd
  have e0 : s₁.heap = h0 := by rw [← hh, Bd.state]; rfl
  refine own_Goes.pre (S' := s₁.setTop (mkF m 0 #[.val (.int x0), .val (.int x1), .val (.int x2), .val (.int x3), .val (.int x4), .unset, .unset, .unset, .unset] [])) (P := (own_val (.int (f3_0 x0 x1 x2 x3 x4)) h0)) (n0 := n0) (kc := 0) (ks := 0) (fun t k => castTop (ef3 m x0 x1 x2 x3 x4) k) ?_
  exact b3_0 x0 x1 x2 x3 x4 X0 hx hZ hw hby hml hown Bd.returns Bd.notSynchronized e0 Z0 (Fr.nil n0) ⟨rfl, rfl⟩
theorem d2_0 : decode prog_173_method_9_code 0 = .ok (.iload_n 1, 1) := by decide +kernel
theorem d2_1 : decode prog_173_method_9_code 1 = .ok (.bipush 48, 2) := by decide +kernel
theorem d2_3 : decode prog_173_method_9_code 3 = .ok (.if_icmp .lt 13, 3) := by decide +kernel
theorem d2_6 : decode prog_173_method_9_code 6 = .ok (.iload_n 1, 1) := by decide +kernel
theorem d2_7 : decode prog_173_method_9_code 7 = .ok (.bipush 57, 2) := by decide +kernel
theorem d2_9 : decode prog_173_method_9_code 9 = .ok (.if_icmp .gt 7, 3) := by decide +kernel
theorem d2_12 : decode prog_173_method_9_code 12 = .ok (.iconst 1, 1) := by decide +kernel
theorem d2_13 : decode prog_173_method_9_code 13 = .ok (.goto 4, 3) := by decide +kernel
theorem d2_16 : decode prog_173_method_9_code 16 = .ok (.iconst 0, 1) := by decide +kernel
theorem d2_17 : decode prog_173_method_9_code 17 = .ok (.istore_n 2, 1) := by decide +kernel
theorem d2_18 : decode prog_173_method_9_code 18 = .ok (.iload_n 0, 1) := by decide +kernel
theorem d2_19 : decode prog_173_method_9_code 19 = .ok (.tableswitch 97 0 4 #[33, 47, 67, 87, 87], 33) := by decide +kernel
theorem d2_52 : decode prog_173_method_9_code 52 = .ok (.iload_n 1, 1) := by decide +kernel
theorem d2_53 : decode prog_173_method_9_code 53 = .ok (.bipush 43, 2) := by decide +kernel
theorem d2_55 : decode prog_173_method_9_code 55 = .ok (.if_icmp .eq 9, 3) := by decide +kernel
theorem d2_58 : decode prog_173_method_9_code 58 = .ok (.iload_n 1, 1) := by decide +kernel
theorem d2_59 : decode prog_173_method_9_code 59 = .ok (.bipush 45, 2) := by decide +kernel
theorem d2_61 : decode prog_173_method_9_code 61 = .ok (.if_icmp .ne 5, 3) := by decide +kernel
theorem d2_64 : decode prog_173_method_9_code 64 = .ok (.iconst 1, 1) := by decide +kernel
theorem d2_65 : decode prog_173_method_9_code 65 = .ok (.ireturn, 1) := by decide +kernel
theorem d2_66 : decode prog_173_method_9_code 66 = .ok (.iload_n 2, 1) := by decide +kernel
theorem d2_67 : decode prog_173_method_9_code 67 = .ok (.ifCond .eq 7, 3) := by decide +kernel
theorem d2_70 : decode prog_173_method_9_code 70 = .ok (.iconst 2, 1) := by decide +kernel
theorem d2_71 : decode prog_173_method_9_code 71 = .ok (.goto 14, 3) := by decide +kernel
theorem d2_74 : decode prog_173_method_9_code 74 = .ok (.iload_n 1, 1) := by decide +kernel
theorem d2_75 : decode prog_173_method_9_code 75 = .ok (.bipush 46, 2) := by decide +kernel
theorem d2_77 : decode prog_173_method_9_code 77 = .ok (.if_icmp .ne 7, 3) := by decide +kernel
theorem d2_80 : decode prog_173_method_9_code 80 = .ok (.iconst 3, 1) := by decide +kernel
theorem d2_81 : decode prog_173_method_9_code 81 = .ok (.goto 4, 3) := by decide +kernel
theorem d2_84 : decode prog_173_method_9_code 84 = .ok (.iconst 5, 1) := by decide +kernel
theorem d2_85 : decode prog_173_method_9_code 85 = .ok (.ireturn, 1) := by decide +kernel
theorem d2_86 : decode prog_173_method_9_code 86 = .ok (.iload_n 2, 1) := by decide +kernel
theorem d2_87 : decode prog_173_method_9_code 87 = .ok (.ifCond .eq 7, 3) := by decide +kernel
theorem d2_90 : decode prog_173_method_9_code 90 = .ok (.iconst 2, 1) := by decide +kernel
theorem d2_91 : decode prog_173_method_9_code 91 = .ok (.goto 14, 3) := by decide +kernel
theorem d2_94 : decode prog_173_method_9_code 94 = .ok (.iload_n 1, 1) := by decide +kernel
theorem d2_95 : decode prog_173_method_9_code 95 = .ok (.bipush 46, 2) := by decide +kernel
theorem d2_97 : decode prog_173_method_9_code 97 = .ok (.if_icmp .ne 7, 3) := by decide +kernel
theorem d2_100 : decode prog_173_method_9_code 100 = .ok (.iconst 4, 1) := by decide +kernel
theorem d2_101 : decode prog_173_method_9_code 101 = .ok (.goto 4, 3) := by decide +kernel
theorem d2_104 : decode prog_173_method_9_code 104 = .ok (.iconst 5, 1) := by decide +kernel
theorem d2_105 : decode prog_173_method_9_code 105 = .ok (.ireturn, 1) := by decide +kernel
theorem d2_106 : decode prog_173_method_9_code 106 = .ok (.iload_n 2, 1) := by decide +kernel
theorem d2_107 : decode prog_173_method_9_code 107 = .ok (.ifCond .eq 7, 3) := by decide +kernel
theorem d2_110 : decode prog_173_method_9_code 110 = .ok (.iconst 4, 1) := by decide +kernel
theorem d2_111 : decode prog_173_method_9_code 111 = .ok (.goto 4, 3) := by decide +kernel
theorem d2_114 : decode prog_173_method_9_code 114 = .ok (.iconst 5, 1) := by decide +kernel
theorem d2_115 : decode prog_173_method_9_code 115 = .ok (.ireturn, 1) := by decide +kernel
theorem d2_116 : decode prog_173_method_9_code 116 = .ok (.iconst 5, 1) := by decide +kernel
theorem d2_117 : decode prog_173_method_9_code 117 = .ok (.ireturn, 1) := by decide +kernel
def f2_116 (x0 : Int32) (x1 : Int32) (x2 : Int32) : Int32 := (5 : Int32)
set_option maxRecDepth 65536 in
set_option maxHeartbeats 40000000 in
theorem b2_116 {p : Program} {l : Launch} {e : Env} {s : State} {m : MethodId} {args : Array Value} {below : List Frame} {meth : Method} {c : Code} {T0 : State} {locs : List Loc} {Z : State} {a0 : Array Value} {h0 : Heap} {n0 : Nat} {P : Option Value → Heap → Prop} (x0 : Int32) (x1 : Int32) (x2 : Int32) (X0 : Stand p l e ({ frames := 0, cells := 0, slots := 0, locals := 0 } : Room) s m args below meth c T0 locs 0 0) (hx : p.tables.exec = Jvm.exec) (hZ : Z.Warmed39 s.vm) (hw : ∀ d ∈ tables_1, d.before a0 Z = true) (hby : c.code = prog_173_method_9_code) (hml : c.maxLocals = 3) (hown : s.vm.findClass "com/example/lehre/lehre/XsdLexical" = some m.cls) (hret : meth.sig.returnType = some .int) (hlk : meth.locks = false) (e0 : T0.heap = h0) (Z0 : n0 ≤ h0.size) (N0 : Fr n0 locs) (hP : P (some (.int (f2_116 x0 x1 x2))) h0) :
    own_Goes p e below s n0 0 0 P (T0.setTop (mkF m 116 #[.val (.int x0), .val (.int x1), .val (.int x2)] [])) := by
  rw [f2_116] at hP
  refine own_Goes.pre (fun t kt => ?_) (own_retI X0 hx hlk hret (hb hby d2_117) N0 (by rw [e0]; exact hP) (by decide) (by decide) (Ls := #[.val (.int x0), .val (.int x1), .val (.int x2)]) (rest := []) (z := (5 : Int32)))
  show Steps p.tables e below (T0.setTop (mkF m 116 #[.val (.int x0), .val (.int x1), .val (.int x2)] [])) _
  refine XS.iconst X0.here hx rfl (hb hby d2_116) ?_
  exact kt
def f2_64 (x0 : Int32) (x1 : Int32) (x2 : Int32) : Int32 := (1 : Int32)
set_option maxRecDepth 65536 in
set_option maxHeartbeats 40000000 in
theorem b2_64 {p : Program} {l : Launch} {e : Env} {s : State} {m : MethodId} {args : Array Value} {below : List Frame} {meth : Method} {c : Code} {T0 : State} {locs : List Loc} {Z : State} {a0 : Array Value} {h0 : Heap} {n0 : Nat} {P : Option Value → Heap → Prop} (x0 : Int32) (x1 : Int32) (x2 : Int32) (X0 : Stand p l e ({ frames := 0, cells := 0, slots := 0, locals := 0 } : Room) s m args below meth c T0 locs 0 0) (hx : p.tables.exec = Jvm.exec) (hZ : Z.Warmed39 s.vm) (hw : ∀ d ∈ tables_1, d.before a0 Z = true) (hby : c.code = prog_173_method_9_code) (hml : c.maxLocals = 3) (hown : s.vm.findClass "com/example/lehre/lehre/XsdLexical" = some m.cls) (hret : meth.sig.returnType = some .int) (hlk : meth.locks = false) (e0 : T0.heap = h0) (Z0 : n0 ≤ h0.size) (N0 : Fr n0 locs) (hP : P (some (.int (f2_64 x0 x1 x2))) h0) :
    own_Goes p e below s n0 0 0 P (T0.setTop (mkF m 64 #[.val (.int x0), .val (.int x1), .val (.int x2)] [])) := by
  rw [f2_64] at hP
  refine own_Goes.pre (fun t kt => ?_) (own_retI X0 hx hlk hret (hb hby d2_65) N0 (by rw [e0]; exact hP) (by decide) (by decide) (Ls := #[.val (.int x0), .val (.int x1), .val (.int x2)]) (rest := []) (z := (1 : Int32)))
  show Steps p.tables e below (T0.setTop (mkF m 64 #[.val (.int x0), .val (.int x1), .val (.int x2)] [])) _
  refine XS.iconst X0.here hx rfl (hb hby d2_64) ?_
  exact kt
def f2_84 (x0 : Int32) (x1 : Int32) (x2 : Int32) : Int32 := (5 : Int32)
set_option maxRecDepth 65536 in
set_option maxHeartbeats 40000000 in
theorem b2_84 {p : Program} {l : Launch} {e : Env} {s : State} {m : MethodId} {args : Array Value} {below : List Frame} {meth : Method} {c : Code} {T0 : State} {locs : List Loc} {Z : State} {a0 : Array Value} {h0 : Heap} {n0 : Nat} {P : Option Value → Heap → Prop} (x0 : Int32) (x1 : Int32) (x2 : Int32) (X0 : Stand p l e ({ frames := 0, cells := 0, slots := 0, locals := 0 } : Room) s m args below meth c T0 locs 0 0) (hx : p.tables.exec = Jvm.exec) (hZ : Z.Warmed39 s.vm) (hw : ∀ d ∈ tables_1, d.before a0 Z = true) (hby : c.code = prog_173_method_9_code) (hml : c.maxLocals = 3) (hown : s.vm.findClass "com/example/lehre/lehre/XsdLexical" = some m.cls) (hret : meth.sig.returnType = some .int) (hlk : meth.locks = false) (e0 : T0.heap = h0) (Z0 : n0 ≤ h0.size) (N0 : Fr n0 locs) (hP : P (some (.int (f2_84 x0 x1 x2))) h0) :
    own_Goes p e below s n0 0 0 P (T0.setTop (mkF m 84 #[.val (.int x0), .val (.int x1), .val (.int x2)] [])) := by
  rw [f2_84] at hP
  refine own_Goes.pre (fun t kt => ?_) (own_retI X0 hx hlk hret (hb hby d2_85) N0 (by rw [e0]; exact hP) (by decide) (by decide) (Ls := #[.val (.int x0), .val (.int x1), .val (.int x2)]) (rest := []) (z := (5 : Int32)))
  show Steps p.tables e below (T0.setTop (mkF m 84 #[.val (.int x0), .val (.int x1), .val (.int x2)] [])) _
  refine XS.iconst X0.here hx rfl (hb hby d2_84) ?_
  exact kt
def f2_80 (x0 : Int32) (x1 : Int32) (x2 : Int32) : Int32 := (3 : Int32)
set_option maxRecDepth 65536 in
set_option maxHeartbeats 40000000 in
theorem b2_80 {p : Program} {l : Launch} {e : Env} {s : State} {m : MethodId} {args : Array Value} {below : List Frame} {meth : Method} {c : Code} {T0 : State} {locs : List Loc} {Z : State} {a0 : Array Value} {h0 : Heap} {n0 : Nat} {P : Option Value → Heap → Prop} (x0 : Int32) (x1 : Int32) (x2 : Int32) (X0 : Stand p l e ({ frames := 0, cells := 0, slots := 0, locals := 0 } : Room) s m args below meth c T0 locs 0 0) (hx : p.tables.exec = Jvm.exec) (hZ : Z.Warmed39 s.vm) (hw : ∀ d ∈ tables_1, d.before a0 Z = true) (hby : c.code = prog_173_method_9_code) (hml : c.maxLocals = 3) (hown : s.vm.findClass "com/example/lehre/lehre/XsdLexical" = some m.cls) (hret : meth.sig.returnType = some .int) (hlk : meth.locks = false) (e0 : T0.heap = h0) (Z0 : n0 ≤ h0.size) (N0 : Fr n0 locs) (hP : P (some (.int (f2_80 x0 x1 x2))) h0) :
    own_Goes p e below s n0 0 0 P (T0.setTop (mkF m 80 #[.val (.int x0), .val (.int x1), .val (.int x2)] [])) := by
  rw [f2_80] at hP
  refine own_Goes.pre (fun t kt => ?_) (own_retI X0 hx hlk hret (hb hby d2_85) N0 (by rw [e0]; exact hP) (by decide) (by decide) (Ls := #[.val (.int x0), .val (.int x1), .val (.int x2)]) (rest := []) (z := (3 : Int32)))
  show Steps p.tables e below (T0.setTop (mkF m 80 #[.val (.int x0), .val (.int x1), .val (.int x2)] [])) _
  refine XS.iconst X0.here hx rfl (hb hby d2_80) ?_
  show Steps p.tables e below (T0.setTop (mkF m 81 #[.val (.int x0), .val (.int x1), .val (.int x2)] [(.int (3 : Int32))])) _
  refine XS.goto X0.here hx rfl (pc0 := 81) (pc' := 85) rfl (hb hby d2_81) (by decide) (by decide) ?_
  exact kt
def f2_74 (x0 : Int32) (x1 : Int32) (x2 : Int32) : Int32 := if x1 = (46 : Int32) then (f2_80 x0 x1 x2) else (f2_84 x0 x1 x2)
set_option maxRecDepth 65536 in
set_option maxHeartbeats 40000000 in
theorem b2_74 {p : Program} {l : Launch} {e : Env} {s : State} {m : MethodId} {args : Array Value} {below : List Frame} {meth : Method} {c : Code} {T0 : State} {locs : List Loc} {Z : State} {a0 : Array Value} {h0 : Heap} {n0 : Nat} {P : Option Value → Heap → Prop} (x0 : Int32) (x1 : Int32) (x2 : Int32) (X0 : Stand p l e ({ frames := 0, cells := 0, slots := 0, locals := 0 } : Room) s m args below meth c T0 locs 0 0) (hx : p.tables.exec = Jvm.exec) (hZ : Z.Warmed39 s.vm) (hw : ∀ d ∈ tables_1, d.before a0 Z = true) (hby : c.code = prog_173_method_9_code) (hml : c.maxLocals = 3) (hown : s.vm.findClass "com/example/lehre/lehre/XsdLexical" = some m.cls) (hret : meth.sig.returnType = some .int) (hlk : meth.locks = false) (e0 : T0.heap = h0) (Z0 : n0 ≤ h0.size) (N0 : Fr n0 locs) (hP : P (some (.int (f2_74 x0 x1 x2))) h0) :
    own_Goes p e below s n0 0 0 P (T0.setTop (mkF m 74 #[.val (.int x0), .val (.int x1), .val (.int x2)] [])) := by
  have pre1 : ∀ t, Steps p.tables e below (T0.setTop (mkF m 77 #[.val (.int x0), .val (.int x1), .val (.int x2)] [(.int (46 : Int32)), (.int x1)])) t → Steps p.tables e below (T0.setTop (mkF m 74 #[.val (.int x0), .val (.int x1), .val (.int x2)] [])) t := fun t kt => by
    show Steps p.tables e below (T0.setTop (mkF m 74 #[.val (.int x0), .val (.int x1), .val (.int x2)] [])) _
    refine XS.iloadN X0.here hx rfl (hb hby d2_74) rfl ?_
    show Steps p.tables e below (T0.setTop (mkF m 75 #[.val (.int x0), .val (.int x1), .val (.int x2)] [(.int x1)])) _
    refine XS.bipush X0.here hx rfl (hb hby d2_75) ?_
    exact kt
  refine own_Goes.pre pre1 ?_
  by_cases hc : x1 = (46 : Int32)
  · rw [f2_74, if_pos hc] at hP
    refine own_Goes.pre (fun t kt => ?_) (b2_80 x0 x1 x2 X0 hx hZ hw hby hml hown hret hlk e0 Z0 N0 hP)
    show Steps p.tables e below (T0.setTop (mkF m 77 #[.val (.int x0), .val (.int x1), .val (.int x2)] [(.int (46 : Int32)), (.int x1)])) _
    refine XS.icmpNo X0.here hx rfl (hb hby d2_77) rfl (teq hc).2 ?_
    exact kt
  · rw [f2_74, if_neg hc] at hP
    refine own_Goes.pre (fun t kt => ?_) (b2_84 x0 x1 x2 X0 hx hZ hw hby hml hown hret hlk e0 Z0 N0 hP)
    show Steps p.tables e below (T0.setTop (mkF m 77 #[.val (.int x0), .val (.int x1), .val (.int x2)] [(.int (46 : Int32)), (.int x1)])) _
    refine XS.icmpYes X0.here hx rfl (pc0 := 77) (pc' := 84) rfl (hb hby d2_77) rfl (feq hc).2 (by decide) (by decide) ?_
    exact kt
def f2_70 (x0 : Int32) (x1 : Int32) (x2 : Int32) : Int32 := (2 : Int32)
set_option maxRecDepth 65536 in
set_option maxHeartbeats 40000000 in
theorem b2_70 {p : Program} {l : Launch} {e : Env} {s : State} {m : MethodId} {args : Array Value} {below : List Frame} {meth : Method} {c : Code} {T0 : State} {locs : List Loc} {Z : State} {a0 : Array Value} {h0 : Heap} {n0 : Nat} {P : Option Value → Heap → Prop} (x0 : Int32) (x1 : Int32) (x2 : Int32) (X0 : Stand p l e ({ frames := 0, cells := 0, slots := 0, locals := 0 } : Room) s m args below meth c T0 locs 0 0) (hx : p.tables.exec = Jvm.exec) (hZ : Z.Warmed39 s.vm) (hw : ∀ d ∈ tables_1, d.before a0 Z = true) (hby : c.code = prog_173_method_9_code) (hml : c.maxLocals = 3) (hown : s.vm.findClass "com/example/lehre/lehre/XsdLexical" = some m.cls) (hret : meth.sig.returnType = some .int) (hlk : meth.locks = false) (e0 : T0.heap = h0) (Z0 : n0 ≤ h0.size) (N0 : Fr n0 locs) (hP : P (some (.int (f2_70 x0 x1 x2))) h0) :
    own_Goes p e below s n0 0 0 P (T0.setTop (mkF m 70 #[.val (.int x0), .val (.int x1), .val (.int x2)] [])) := by
  rw [f2_70] at hP
  refine own_Goes.pre (fun t kt => ?_) (own_retI X0 hx hlk hret (hb hby d2_85) N0 (by rw [e0]; exact hP) (by decide) (by decide) (Ls := #[.val (.int x0), .val (.int x1), .val (.int x2)]) (rest := []) (z := (2 : Int32)))
  show Steps p.tables e below (T0.setTop (mkF m 70 #[.val (.int x0), .val (.int x1), .val (.int x2)] [])) _
  refine XS.iconst X0.here hx rfl (hb hby d2_70) ?_
  show Steps p.tables e below (T0.setTop (mkF m 71 #[.val (.int x0), .val (.int x1), .val (.int x2)] [(.int (2 : Int32))])) _
  refine XS.goto X0.here hx rfl (pc0 := 71) (pc' := 85) rfl (hb hby d2_71) (by decide) (by decide) ?_
  exact kt
def f2_66 (x0 : Int32) (x1 : Int32) (x2 : Int32) : Int32 := if x2 = (0 : Int32) then (f2_74 x0 x1 x2) else (f2_70 x0 x1 x2)
set_option maxRecDepth 65536 in
set_option maxHeartbeats 40000000 in
theorem b2_66 {p : Program} {l : Launch} {e : Env} {s : State} {m : MethodId} {args : Array Value} {below : List Frame} {meth : Method} {c : Code} {T0 : State} {locs : List Loc} {Z : State} {a0 : Array Value} {h0 : Heap} {n0 : Nat} {P : Option Value → Heap → Prop} (x0 : Int32) (x1 : Int32) (x2 : Int32) (X0 : Stand p l e ({ frames := 0, cells := 0, slots := 0, locals := 0 } : Room) s m args below meth c T0 locs 0 0) (hx : p.tables.exec = Jvm.exec) (hZ : Z.Warmed39 s.vm) (hw : ∀ d ∈ tables_1, d.before a0 Z = true) (hby : c.code = prog_173_method_9_code) (hml : c.maxLocals = 3) (hown : s.vm.findClass "com/example/lehre/lehre/XsdLexical" = some m.cls) (hret : meth.sig.returnType = some .int) (hlk : meth.locks = false) (e0 : T0.heap = h0) (Z0 : n0 ≤ h0.size) (N0 : Fr n0 locs) (hP : P (some (.int (f2_66 x0 x1 x2))) h0) :
    own_Goes p e below s n0 0 0 P (T0.setTop (mkF m 66 #[.val (.int x0), .val (.int x1), .val (.int x2)] [])) := by
  have pre1 : ∀ t, Steps p.tables e below (T0.setTop (mkF m 67 #[.val (.int x0), .val (.int x1), .val (.int x2)] [(.int x2)])) t → Steps p.tables e below (T0.setTop (mkF m 66 #[.val (.int x0), .val (.int x1), .val (.int x2)] [])) t := fun t kt => by
    show Steps p.tables e below (T0.setTop (mkF m 66 #[.val (.int x0), .val (.int x1), .val (.int x2)] [])) _
    refine XS.iloadN X0.here hx rfl (hb hby d2_66) rfl ?_
    exact kt
  refine own_Goes.pre pre1 ?_
  by_cases hc : x2 = (0 : Int32)
  · rw [f2_66, if_pos hc] at hP
    refine own_Goes.pre (fun t kt => ?_) (b2_74 x0 x1 x2 X0 hx hZ hw hby hml hown hret hlk e0 Z0 N0 hP)
    show Steps p.tables e below (T0.setTop (mkF m 67 #[.val (.int x0), .val (.int x1), .val (.int x2)] [(.int x2)])) _
    refine XS.ifYes X0.here hx rfl (pc0 := 67) (pc' := 74) rfl (hb hby d2_67) rfl ((if0 _ _).trans (teq hc).1) (by decide) (by decide) ?_
    exact kt
  · rw [f2_66, if_neg hc] at hP
    refine own_Goes.pre (fun t kt => ?_) (b2_70 x0 x1 x2 X0 hx hZ hw hby hml hown hret hlk e0 Z0 N0 hP)
    show Steps p.tables e below (T0.setTop (mkF m 67 #[.val (.int x0), .val (.int x1), .val (.int x2)] [(.int x2)])) _
    refine XS.ifNo X0.here hx rfl (hb hby d2_67) rfl ((if0 _ _).trans (feq hc).1) ?_
    exact kt
def f2_58 (x0 : Int32) (x1 : Int32) (x2 : Int32) : Int32 := if x1 = (45 : Int32) then (f2_64 x0 x1 x2) else (f2_66 x0 x1 x2)
set_option maxRecDepth 65536 in
set_option maxHeartbeats 40000000 in
theorem b2_58 {p : Program} {l : Launch} {e : Env} {s : State} {m : MethodId} {args : Array Value} {below : List Frame} {meth : Method} {c : Code} {T0 : State} {locs : List Loc} {Z : State} {a0 : Array Value} {h0 : Heap} {n0 : Nat} {P : Option Value → Heap → Prop} (x0 : Int32) (x1 : Int32) (x2 : Int32) (X0 : Stand p l e ({ frames := 0, cells := 0, slots := 0, locals := 0 } : Room) s m args below meth c T0 locs 0 0) (hx : p.tables.exec = Jvm.exec) (hZ : Z.Warmed39 s.vm) (hw : ∀ d ∈ tables_1, d.before a0 Z = true) (hby : c.code = prog_173_method_9_code) (hml : c.maxLocals = 3) (hown : s.vm.findClass "com/example/lehre/lehre/XsdLexical" = some m.cls) (hret : meth.sig.returnType = some .int) (hlk : meth.locks = false) (e0 : T0.heap = h0) (Z0 : n0 ≤ h0.size) (N0 : Fr n0 locs) (hP : P (some (.int (f2_58 x0 x1 x2))) h0) :
    own_Goes p e below s n0 0 0 P (T0.setTop (mkF m 58 #[.val (.int x0), .val (.int x1), .val (.int x2)] [])) := by
  have pre1 : ∀ t, Steps p.tables e below (T0.setTop (mkF m 61 #[.val (.int x0), .val (.int x1), .val (.int x2)] [(.int (45 : Int32)), (.int x1)])) t → Steps p.tables e below (T0.setTop (mkF m 58 #[.val (.int x0), .val (.int x1), .val (.int x2)] [])) t := fun t kt => by
    show Steps p.tables e below (T0.setTop (mkF m 58 #[.val (.int x0), .val (.int x1), .val (.int x2)] [])) _
    refine XS.iloadN X0.here hx rfl (hb hby d2_58) rfl ?_
    show Steps p.tables e below (T0.setTop (mkF m 59 #[.val (.int x0), .val (.int x1), .val (.int x2)] [(.int x1)])) _
    refine XS.bipush X0.here hx rfl (hb hby d2_59) ?_
    exact kt
  refine own_Goes.pre pre1 ?_
  by_cases hc : x1 = (45 : Int32)
  · rw [f2_58, if_pos hc] at hP
    refine own_Goes.pre (fun t kt => ?_) (b2_64 x0 x1 x2 X0 hx hZ hw hby hml hown hret hlk e0 Z0 N0 hP)
    show Steps p.tables e below (T0.setTop (mkF m 61 #[.val (.int x0), .val (.int x1), .val (.int x2)] [(.int (45 : Int32)), (.int x1)])) _
    refine XS.icmpNo X0.here hx rfl (hb hby d2_61) rfl (teq hc).2 ?_
    exact kt
  · rw [f2_58, if_neg hc] at hP
    refine own_Goes.pre (fun t kt => ?_) (b2_66 x0 x1 x2 X0 hx hZ hw hby hml hown hret hlk e0 Z0 N0 hP)
    show Steps p.tables e below (T0.setTop (mkF m 61 #[.val (.int x0), .val (.int x1), .val (.int x2)] [(.int (45 : Int32)), (.int x1)])) _
    refine XS.icmpYes X0.here hx rfl (pc0 := 61) (pc' := 66) rfl (hb hby d2_61) rfl (feq hc).2 (by decide) (by decide) ?_
    exact kt
def f2_52 (x0 : Int32) (x1 : Int32) (x2 : Int32) : Int32 := if x1 = (43 : Int32) then (f2_64 x0 x1 x2) else (f2_58 x0 x1 x2)
set_option maxRecDepth 65536 in
set_option maxHeartbeats 40000000 in
theorem b2_52 {p : Program} {l : Launch} {e : Env} {s : State} {m : MethodId} {args : Array Value} {below : List Frame} {meth : Method} {c : Code} {T0 : State} {locs : List Loc} {Z : State} {a0 : Array Value} {h0 : Heap} {n0 : Nat} {P : Option Value → Heap → Prop} (x0 : Int32) (x1 : Int32) (x2 : Int32) (X0 : Stand p l e ({ frames := 0, cells := 0, slots := 0, locals := 0 } : Room) s m args below meth c T0 locs 0 0) (hx : p.tables.exec = Jvm.exec) (hZ : Z.Warmed39 s.vm) (hw : ∀ d ∈ tables_1, d.before a0 Z = true) (hby : c.code = prog_173_method_9_code) (hml : c.maxLocals = 3) (hown : s.vm.findClass "com/example/lehre/lehre/XsdLexical" = some m.cls) (hret : meth.sig.returnType = some .int) (hlk : meth.locks = false) (e0 : T0.heap = h0) (Z0 : n0 ≤ h0.size) (N0 : Fr n0 locs) (hP : P (some (.int (f2_52 x0 x1 x2))) h0) :
    own_Goes p e below s n0 0 0 P (T0.setTop (mkF m 52 #[.val (.int x0), .val (.int x1), .val (.int x2)] [])) := by
  have pre1 : ∀ t, Steps p.tables e below (T0.setTop (mkF m 55 #[.val (.int x0), .val (.int x1), .val (.int x2)] [(.int (43 : Int32)), (.int x1)])) t → Steps p.tables e below (T0.setTop (mkF m 52 #[.val (.int x0), .val (.int x1), .val (.int x2)] [])) t := fun t kt => by
    show Steps p.tables e below (T0.setTop (mkF m 52 #[.val (.int x0), .val (.int x1), .val (.int x2)] [])) _
    refine XS.iloadN X0.here hx rfl (hb hby d2_52) rfl ?_
    show Steps p.tables e below (T0.setTop (mkF m 53 #[.val (.int x0), .val (.int x1), .val (.int x2)] [(.int x1)])) _
    refine XS.bipush X0.here hx rfl (hb hby d2_53) ?_
    exact kt
  refine own_Goes.pre pre1 ?_
  by_cases hc : x1 = (43 : Int32)
  · rw [f2_52, if_pos hc] at hP
    refine own_Goes.pre (fun t kt => ?_) (b2_64 x0 x1 x2 X0 hx hZ hw hby hml hown hret hlk e0 Z0 N0 hP)
    show Steps p.tables e below (T0.setTop (mkF m 55 #[.val (.int x0), .val (.int x1), .val (.int x2)] [(.int (43 : Int32)), (.int x1)])) _
    refine XS.icmpYes X0.here hx rfl (pc0 := 55) (pc' := 64) rfl (hb hby d2_55) rfl (teq hc).1 (by decide) (by decide) ?_
    exact kt
  · rw [f2_52, if_neg hc] at hP
    refine own_Goes.pre (fun t kt => ?_) (b2_58 x0 x1 x2 X0 hx hZ hw hby hml hown hret hlk e0 Z0 N0 hP)
    show Steps p.tables e below (T0.setTop (mkF m 55 #[.val (.int x0), .val (.int x1), .val (.int x2)] [(.int (43 : Int32)), (.int x1)])) _
    refine XS.icmpNo X0.here hx rfl (hb hby d2_55) rfl (feq hc).1 ?_
    exact kt
def f2_104 (x0 : Int32) (x1 : Int32) (x2 : Int32) : Int32 := (5 : Int32)
set_option maxRecDepth 65536 in
set_option maxHeartbeats 40000000 in
theorem b2_104 {p : Program} {l : Launch} {e : Env} {s : State} {m : MethodId} {args : Array Value} {below : List Frame} {meth : Method} {c : Code} {T0 : State} {locs : List Loc} {Z : State} {a0 : Array Value} {h0 : Heap} {n0 : Nat} {P : Option Value → Heap → Prop} (x0 : Int32) (x1 : Int32) (x2 : Int32) (X0 : Stand p l e ({ frames := 0, cells := 0, slots := 0, locals := 0 } : Room) s m args below meth c T0 locs 0 0) (hx : p.tables.exec = Jvm.exec) (hZ : Z.Warmed39 s.vm) (hw : ∀ d ∈ tables_1, d.before a0 Z = true) (hby : c.code = prog_173_method_9_code) (hml : c.maxLocals = 3) (hown : s.vm.findClass "com/example/lehre/lehre/XsdLexical" = some m.cls) (hret : meth.sig.returnType = some .int) (hlk : meth.locks = false) (e0 : T0.heap = h0) (Z0 : n0 ≤ h0.size) (N0 : Fr n0 locs) (hP : P (some (.int (f2_104 x0 x1 x2))) h0) :
    own_Goes p e below s n0 0 0 P (T0.setTop (mkF m 104 #[.val (.int x0), .val (.int x1), .val (.int x2)] [])) := by
  rw [f2_104] at hP
  refine own_Goes.pre (fun t kt => ?_) (own_retI X0 hx hlk hret (hb hby d2_105) N0 (by rw [e0]; exact hP) (by decide) (by decide) (Ls := #[.val (.int x0), .val (.int x1), .val (.int x2)]) (rest := []) (z := (5 : Int32)))
  show Steps p.tables e below (T0.setTop (mkF m 104 #[.val (.int x0), .val (.int x1), .val (.int x2)] [])) _
  refine XS.iconst X0.here hx rfl (hb hby d2_104) ?_
  exact kt
def f2_100 (x0 : Int32) (x1 : Int32) (x2 : Int32) : Int32 := (4 : Int32)
set_option maxRecDepth 65536 in
set_option maxHeartbeats 40000000 in
theorem b2_100 {p : Program} {l : Launch} {e : Env} {s : State} {m : MethodId} {args : Array Value} {below : List Frame} {meth : Method} {c : Code} {T0 : State} {locs : List Loc} {Z : State} {a0 : Array Value} {h0 : Heap} {n0 : Nat} {P : Option Value → Heap → Prop} (x0 : Int32) (x1 : Int32) (x2 : Int32) (X0 : Stand p l e ({ frames := 0, cells := 0, slots := 0, locals := 0 } : Room) s m args below meth c T0 locs 0 0) (hx : p.tables.exec = Jvm.exec) (hZ : Z.Warmed39 s.vm) (hw : ∀ d ∈ tables_1, d.before a0 Z = true) (hby : c.code = prog_173_method_9_code) (hml : c.maxLocals = 3) (hown : s.vm.findClass "com/example/lehre/lehre/XsdLexical" = some m.cls) (hret : meth.sig.returnType = some .int) (hlk : meth.locks = false) (e0 : T0.heap = h0) (Z0 : n0 ≤ h0.size) (N0 : Fr n0 locs) (hP : P (some (.int (f2_100 x0 x1 x2))) h0) :
    own_Goes p e below s n0 0 0 P (T0.setTop (mkF m 100 #[.val (.int x0), .val (.int x1), .val (.int x2)] [])) := by
  rw [f2_100] at hP
  refine own_Goes.pre (fun t kt => ?_) (own_retI X0 hx hlk hret (hb hby d2_105) N0 (by rw [e0]; exact hP) (by decide) (by decide) (Ls := #[.val (.int x0), .val (.int x1), .val (.int x2)]) (rest := []) (z := (4 : Int32)))
  show Steps p.tables e below (T0.setTop (mkF m 100 #[.val (.int x0), .val (.int x1), .val (.int x2)] [])) _
  refine XS.iconst X0.here hx rfl (hb hby d2_100) ?_
  show Steps p.tables e below (T0.setTop (mkF m 101 #[.val (.int x0), .val (.int x1), .val (.int x2)] [(.int (4 : Int32))])) _
  refine XS.goto X0.here hx rfl (pc0 := 101) (pc' := 105) rfl (hb hby d2_101) (by decide) (by decide) ?_
  exact kt
def f2_94 (x0 : Int32) (x1 : Int32) (x2 : Int32) : Int32 := if x1 = (46 : Int32) then (f2_100 x0 x1 x2) else (f2_104 x0 x1 x2)
set_option maxRecDepth 65536 in
set_option maxHeartbeats 40000000 in
theorem b2_94 {p : Program} {l : Launch} {e : Env} {s : State} {m : MethodId} {args : Array Value} {below : List Frame} {meth : Method} {c : Code} {T0 : State} {locs : List Loc} {Z : State} {a0 : Array Value} {h0 : Heap} {n0 : Nat} {P : Option Value → Heap → Prop} (x0 : Int32) (x1 : Int32) (x2 : Int32) (X0 : Stand p l e ({ frames := 0, cells := 0, slots := 0, locals := 0 } : Room) s m args below meth c T0 locs 0 0) (hx : p.tables.exec = Jvm.exec) (hZ : Z.Warmed39 s.vm) (hw : ∀ d ∈ tables_1, d.before a0 Z = true) (hby : c.code = prog_173_method_9_code) (hml : c.maxLocals = 3) (hown : s.vm.findClass "com/example/lehre/lehre/XsdLexical" = some m.cls) (hret : meth.sig.returnType = some .int) (hlk : meth.locks = false) (e0 : T0.heap = h0) (Z0 : n0 ≤ h0.size) (N0 : Fr n0 locs) (hP : P (some (.int (f2_94 x0 x1 x2))) h0) :
    own_Goes p e below s n0 0 0 P (T0.setTop (mkF m 94 #[.val (.int x0), .val (.int x1), .val (.int x2)] [])) := by
  have pre1 : ∀ t, Steps p.tables e below (T0.setTop (mkF m 97 #[.val (.int x0), .val (.int x1), .val (.int x2)] [(.int (46 : Int32)), (.int x1)])) t → Steps p.tables e below (T0.setTop (mkF m 94 #[.val (.int x0), .val (.int x1), .val (.int x2)] [])) t := fun t kt => by
    show Steps p.tables e below (T0.setTop (mkF m 94 #[.val (.int x0), .val (.int x1), .val (.int x2)] [])) _
    refine XS.iloadN X0.here hx rfl (hb hby d2_94) rfl ?_
    show Steps p.tables e below (T0.setTop (mkF m 95 #[.val (.int x0), .val (.int x1), .val (.int x2)] [(.int x1)])) _
    refine XS.bipush X0.here hx rfl (hb hby d2_95) ?_
    exact kt
  refine own_Goes.pre pre1 ?_
  by_cases hc : x1 = (46 : Int32)
  · rw [f2_94, if_pos hc] at hP
    refine own_Goes.pre (fun t kt => ?_) (b2_100 x0 x1 x2 X0 hx hZ hw hby hml hown hret hlk e0 Z0 N0 hP)
    show Steps p.tables e below (T0.setTop (mkF m 97 #[.val (.int x0), .val (.int x1), .val (.int x2)] [(.int (46 : Int32)), (.int x1)])) _
    refine XS.icmpNo X0.here hx rfl (hb hby d2_97) rfl (teq hc).2 ?_
    exact kt
  · rw [f2_94, if_neg hc] at hP
    refine own_Goes.pre (fun t kt => ?_) (b2_104 x0 x1 x2 X0 hx hZ hw hby hml hown hret hlk e0 Z0 N0 hP)
    show Steps p.tables e below (T0.setTop (mkF m 97 #[.val (.int x0), .val (.int x1), .val (.int x2)] [(.int (46 : Int32)), (.int x1)])) _
    refine XS.icmpYes X0.here hx rfl (pc0 := 97) (pc' := 104) rfl (hb hby d2_97) rfl (feq hc).2 (by decide) (by decide) ?_
    exact kt
def f2_90 (x0 : Int32) (x1 : Int32) (x2 : Int32) : Int32 := (2 : Int32)
set_option maxRecDepth 65536 in
set_option maxHeartbeats 40000000 in
theorem b2_90 {p : Program} {l : Launch} {e : Env} {s : State} {m : MethodId} {args : Array Value} {below : List Frame} {meth : Method} {c : Code} {T0 : State} {locs : List Loc} {Z : State} {a0 : Array Value} {h0 : Heap} {n0 : Nat} {P : Option Value → Heap → Prop} (x0 : Int32) (x1 : Int32) (x2 : Int32) (X0 : Stand p l e ({ frames := 0, cells := 0, slots := 0, locals := 0 } : Room) s m args below meth c T0 locs 0 0) (hx : p.tables.exec = Jvm.exec) (hZ : Z.Warmed39 s.vm) (hw : ∀ d ∈ tables_1, d.before a0 Z = true) (hby : c.code = prog_173_method_9_code) (hml : c.maxLocals = 3) (hown : s.vm.findClass "com/example/lehre/lehre/XsdLexical" = some m.cls) (hret : meth.sig.returnType = some .int) (hlk : meth.locks = false) (e0 : T0.heap = h0) (Z0 : n0 ≤ h0.size) (N0 : Fr n0 locs) (hP : P (some (.int (f2_90 x0 x1 x2))) h0) :
    own_Goes p e below s n0 0 0 P (T0.setTop (mkF m 90 #[.val (.int x0), .val (.int x1), .val (.int x2)] [])) := by
  rw [f2_90] at hP
  refine own_Goes.pre (fun t kt => ?_) (own_retI X0 hx hlk hret (hb hby d2_105) N0 (by rw [e0]; exact hP) (by decide) (by decide) (Ls := #[.val (.int x0), .val (.int x1), .val (.int x2)]) (rest := []) (z := (2 : Int32)))
  show Steps p.tables e below (T0.setTop (mkF m 90 #[.val (.int x0), .val (.int x1), .val (.int x2)] [])) _
  refine XS.iconst X0.here hx rfl (hb hby d2_90) ?_
  show Steps p.tables e below (T0.setTop (mkF m 91 #[.val (.int x0), .val (.int x1), .val (.int x2)] [(.int (2 : Int32))])) _
  refine XS.goto X0.here hx rfl (pc0 := 91) (pc' := 105) rfl (hb hby d2_91) (by decide) (by decide) ?_
  exact kt
def f2_86 (x0 : Int32) (x1 : Int32) (x2 : Int32) : Int32 := if x2 = (0 : Int32) then (f2_94 x0 x1 x2) else (f2_90 x0 x1 x2)
set_option maxRecDepth 65536 in
set_option maxHeartbeats 40000000 in
theorem b2_86 {p : Program} {l : Launch} {e : Env} {s : State} {m : MethodId} {args : Array Value} {below : List Frame} {meth : Method} {c : Code} {T0 : State} {locs : List Loc} {Z : State} {a0 : Array Value} {h0 : Heap} {n0 : Nat} {P : Option Value → Heap → Prop} (x0 : Int32) (x1 : Int32) (x2 : Int32) (X0 : Stand p l e ({ frames := 0, cells := 0, slots := 0, locals := 0 } : Room) s m args below meth c T0 locs 0 0) (hx : p.tables.exec = Jvm.exec) (hZ : Z.Warmed39 s.vm) (hw : ∀ d ∈ tables_1, d.before a0 Z = true) (hby : c.code = prog_173_method_9_code) (hml : c.maxLocals = 3) (hown : s.vm.findClass "com/example/lehre/lehre/XsdLexical" = some m.cls) (hret : meth.sig.returnType = some .int) (hlk : meth.locks = false) (e0 : T0.heap = h0) (Z0 : n0 ≤ h0.size) (N0 : Fr n0 locs) (hP : P (some (.int (f2_86 x0 x1 x2))) h0) :
    own_Goes p e below s n0 0 0 P (T0.setTop (mkF m 86 #[.val (.int x0), .val (.int x1), .val (.int x2)] [])) := by
  have pre1 : ∀ t, Steps p.tables e below (T0.setTop (mkF m 87 #[.val (.int x0), .val (.int x1), .val (.int x2)] [(.int x2)])) t → Steps p.tables e below (T0.setTop (mkF m 86 #[.val (.int x0), .val (.int x1), .val (.int x2)] [])) t := fun t kt => by
    show Steps p.tables e below (T0.setTop (mkF m 86 #[.val (.int x0), .val (.int x1), .val (.int x2)] [])) _
    refine XS.iloadN X0.here hx rfl (hb hby d2_86) rfl ?_
    exact kt
  refine own_Goes.pre pre1 ?_
  by_cases hc : x2 = (0 : Int32)
  · rw [f2_86, if_pos hc] at hP
    refine own_Goes.pre (fun t kt => ?_) (b2_94 x0 x1 x2 X0 hx hZ hw hby hml hown hret hlk e0 Z0 N0 hP)
    show Steps p.tables e below (T0.setTop (mkF m 87 #[.val (.int x0), .val (.int x1), .val (.int x2)] [(.int x2)])) _
    refine XS.ifYes X0.here hx rfl (pc0 := 87) (pc' := 94) rfl (hb hby d2_87) rfl ((if0 _ _).trans (teq hc).1) (by decide) (by decide) ?_
    exact kt
  · rw [f2_86, if_neg hc] at hP
    refine own_Goes.pre (fun t kt => ?_) (b2_90 x0 x1 x2 X0 hx hZ hw hby hml hown hret hlk e0 Z0 N0 hP)
    show Steps p.tables e below (T0.setTop (mkF m 87 #[.val (.int x0), .val (.int x1), .val (.int x2)] [(.int x2)])) _
    refine XS.ifNo X0.here hx rfl (hb hby d2_87) rfl ((if0 _ _).trans (feq hc).1) ?_
    exact kt
def f2_114 (x0 : Int32) (x1 : Int32) (x2 : Int32) : Int32 := (5 : Int32)
set_option maxRecDepth 65536 in
set_option maxHeartbeats 40000000 in
theorem b2_114 {p : Program} {l : Launch} {e : Env} {s : State} {m : MethodId} {args : Array Value} {below : List Frame} {meth : Method} {c : Code} {T0 : State} {locs : List Loc} {Z : State} {a0 : Array Value} {h0 : Heap} {n0 : Nat} {P : Option Value → Heap → Prop} (x0 : Int32) (x1 : Int32) (x2 : Int32) (X0 : Stand p l e ({ frames := 0, cells := 0, slots := 0, locals := 0 } : Room) s m args below meth c T0 locs 0 0) (hx : p.tables.exec = Jvm.exec) (hZ : Z.Warmed39 s.vm) (hw : ∀ d ∈ tables_1, d.before a0 Z = true) (hby : c.code = prog_173_method_9_code) (hml : c.maxLocals = 3) (hown : s.vm.findClass "com/example/lehre/lehre/XsdLexical" = some m.cls) (hret : meth.sig.returnType = some .int) (hlk : meth.locks = false) (e0 : T0.heap = h0) (Z0 : n0 ≤ h0.size) (N0 : Fr n0 locs) (hP : P (some (.int (f2_114 x0 x1 x2))) h0) :
    own_Goes p e below s n0 0 0 P (T0.setTop (mkF m 114 #[.val (.int x0), .val (.int x1), .val (.int x2)] [])) := by
  rw [f2_114] at hP
  refine own_Goes.pre (fun t kt => ?_) (own_retI X0 hx hlk hret (hb hby d2_115) N0 (by rw [e0]; exact hP) (by decide) (by decide) (Ls := #[.val (.int x0), .val (.int x1), .val (.int x2)]) (rest := []) (z := (5 : Int32)))
  show Steps p.tables e below (T0.setTop (mkF m 114 #[.val (.int x0), .val (.int x1), .val (.int x2)] [])) _
  refine XS.iconst X0.here hx rfl (hb hby d2_114) ?_
  exact kt
def f2_110 (x0 : Int32) (x1 : Int32) (x2 : Int32) : Int32 := (4 : Int32)
set_option maxRecDepth 65536 in
set_option maxHeartbeats 40000000 in
theorem b2_110 {p : Program} {l : Launch} {e : Env} {s : State} {m : MethodId} {args : Array Value} {below : List Frame} {meth : Method} {c : Code} {T0 : State} {locs : List Loc} {Z : State} {a0 : Array Value} {h0 : Heap} {n0 : Nat} {P : Option Value → Heap → Prop} (x0 : Int32) (x1 : Int32) (x2 : Int32) (X0 : Stand p l e ({ frames := 0, cells := 0, slots := 0, locals := 0 } : Room) s m args below meth c T0 locs 0 0) (hx : p.tables.exec = Jvm.exec) (hZ : Z.Warmed39 s.vm) (hw : ∀ d ∈ tables_1, d.before a0 Z = true) (hby : c.code = prog_173_method_9_code) (hml : c.maxLocals = 3) (hown : s.vm.findClass "com/example/lehre/lehre/XsdLexical" = some m.cls) (hret : meth.sig.returnType = some .int) (hlk : meth.locks = false) (e0 : T0.heap = h0) (Z0 : n0 ≤ h0.size) (N0 : Fr n0 locs) (hP : P (some (.int (f2_110 x0 x1 x2))) h0) :
    own_Goes p e below s n0 0 0 P (T0.setTop (mkF m 110 #[.val (.int x0), .val (.int x1), .val (.int x2)] [])) := by
  rw [f2_110] at hP
  refine own_Goes.pre (fun t kt => ?_) (own_retI X0 hx hlk hret (hb hby d2_115) N0 (by rw [e0]; exact hP) (by decide) (by decide) (Ls := #[.val (.int x0), .val (.int x1), .val (.int x2)]) (rest := []) (z := (4 : Int32)))
  show Steps p.tables e below (T0.setTop (mkF m 110 #[.val (.int x0), .val (.int x1), .val (.int x2)] [])) _
  refine XS.iconst X0.here hx rfl (hb hby d2_110) ?_
  show Steps p.tables e below (T0.setTop (mkF m 111 #[.val (.int x0), .val (.int x1), .val (.int x2)] [(.int (4 : Int32))])) _
  refine XS.goto X0.here hx rfl (pc0 := 111) (pc' := 115) rfl (hb hby d2_111) (by decide) (by decide) ?_
  exact kt
def f2_106 (x0 : Int32) (x1 : Int32) (x2 : Int32) : Int32 := if x2 = (0 : Int32) then (f2_114 x0 x1 x2) else (f2_110 x0 x1 x2)
set_option maxRecDepth 65536 in
set_option maxHeartbeats 40000000 in
theorem b2_106 {p : Program} {l : Launch} {e : Env} {s : State} {m : MethodId} {args : Array Value} {below : List Frame} {meth : Method} {c : Code} {T0 : State} {locs : List Loc} {Z : State} {a0 : Array Value} {h0 : Heap} {n0 : Nat} {P : Option Value → Heap → Prop} (x0 : Int32) (x1 : Int32) (x2 : Int32) (X0 : Stand p l e ({ frames := 0, cells := 0, slots := 0, locals := 0 } : Room) s m args below meth c T0 locs 0 0) (hx : p.tables.exec = Jvm.exec) (hZ : Z.Warmed39 s.vm) (hw : ∀ d ∈ tables_1, d.before a0 Z = true) (hby : c.code = prog_173_method_9_code) (hml : c.maxLocals = 3) (hown : s.vm.findClass "com/example/lehre/lehre/XsdLexical" = some m.cls) (hret : meth.sig.returnType = some .int) (hlk : meth.locks = false) (e0 : T0.heap = h0) (Z0 : n0 ≤ h0.size) (N0 : Fr n0 locs) (hP : P (some (.int (f2_106 x0 x1 x2))) h0) :
    own_Goes p e below s n0 0 0 P (T0.setTop (mkF m 106 #[.val (.int x0), .val (.int x1), .val (.int x2)] [])) := by
  have pre1 : ∀ t, Steps p.tables e below (T0.setTop (mkF m 107 #[.val (.int x0), .val (.int x1), .val (.int x2)] [(.int x2)])) t → Steps p.tables e below (T0.setTop (mkF m 106 #[.val (.int x0), .val (.int x1), .val (.int x2)] [])) t := fun t kt => by
    show Steps p.tables e below (T0.setTop (mkF m 106 #[.val (.int x0), .val (.int x1), .val (.int x2)] [])) _
    refine XS.iloadN X0.here hx rfl (hb hby d2_106) rfl ?_
    exact kt
  refine own_Goes.pre pre1 ?_
  by_cases hc : x2 = (0 : Int32)
  · rw [f2_106, if_pos hc] at hP
    refine own_Goes.pre (fun t kt => ?_) (b2_114 x0 x1 x2 X0 hx hZ hw hby hml hown hret hlk e0 Z0 N0 hP)
    show Steps p.tables e below (T0.setTop (mkF m 107 #[.val (.int x0), .val (.int x1), .val (.int x2)] [(.int x2)])) _
    refine XS.ifYes X0.here hx rfl (pc0 := 107) (pc' := 114) rfl (hb hby d2_107) rfl ((if0 _ _).trans (teq hc).1) (by decide) (by decide) ?_
    exact kt
  · rw [f2_106, if_neg hc] at hP
    refine own_Goes.pre (fun t kt => ?_) (b2_110 x0 x1 x2 X0 hx hZ hw hby hml hown hret hlk e0 Z0 N0 hP)
    show Steps p.tables e below (T0.setTop (mkF m 107 #[.val (.int x0), .val (.int x1), .val (.int x2)] [(.int x2)])) _
    refine XS.ifNo X0.here hx rfl (hb hby d2_107) rfl ((if0 _ _).trans (feq hc).1) ?_
    exact kt
def f2_17 (x0 : Int32) (x1 : Int32) (y0 : Int32) : Int32 := if x0 = (0 : Int32) then (f2_52 x0 x1 y0) else if x0 = (1 : Int32) then (f2_66 x0 x1 y0) else if x0 = (2 : Int32) then (f2_86 x0 x1 y0) else if x0 = (3 : Int32) then (f2_106 x0 x1 y0) else if x0 = (4 : Int32) then (f2_106 x0 x1 y0) else (f2_116 x0 x1 y0)
set_option maxRecDepth 65536 in
set_option maxHeartbeats 40000000 in
theorem b2_17 {p : Program} {l : Launch} {e : Env} {s : State} {m : MethodId} {args : Array Value} {below : List Frame} {meth : Method} {c : Code} {T0 : State} {locs : List Loc} {Z : State} {a0 : Array Value} {h0 : Heap} {n0 : Nat} {P : Option Value → Heap → Prop} (x0 : Int32) (x1 : Int32) (y0 : Int32) (X0 : Stand p l e ({ frames := 0, cells := 0, slots := 0, locals := 0 } : Room) s m args below meth c T0 locs 0 0) (hx : p.tables.exec = Jvm.exec) (hZ : Z.Warmed39 s.vm) (hw : ∀ d ∈ tables_1, d.before a0 Z = true) (hby : c.code = prog_173_method_9_code) (hml : c.maxLocals = 3) (hown : s.vm.findClass "com/example/lehre/lehre/XsdLexical" = some m.cls) (hret : meth.sig.returnType = some .int) (hlk : meth.locks = false) (e0 : T0.heap = h0) (Z0 : n0 ≤ h0.size) (N0 : Fr n0 locs) (hP : P (some (.int (f2_17 x0 x1 y0))) h0) :
    own_Goes p e below s n0 0 0 P (T0.setTop (mkF m 17 #[.val (.int x0), .val (.int x1), .unset] [(.int y0)])) := by
  have pre1 : ∀ t, Steps p.tables e below (T0.setTop (mkF m 19 #[.val (.int x0), .val (.int x1), .val (.int y0)] [(.int x0)])) t → Steps p.tables e below (T0.setTop (mkF m 17 #[.val (.int x0), .val (.int x1), .unset] [(.int y0)])) t := fun t kt => by
    show Steps p.tables e below (T0.setTop (mkF m 17 #[.val (.int x0), .val (.int x1), .unset] [(.int y0)])) _
    refine XS.istoreN X0.here hx rfl (hb hby d2_17) rfl (l' := #[.val (.int x0), .val (.int x1), .val (.int y0)]) rfl ?_
    show Steps p.tables e below (T0.setTop (mkF m 18 #[.val (.int x0), .val (.int x1), .val (.int y0)] [])) _
    refine XS.iloadN X0.here hx rfl (hb hby d2_18) rfl ?_
    exact kt
  refine own_Goes.pre pre1 ?_
  rw [f2_17] at hP
  by_cases hc0 : x0 = (0 : Int32)
  · rw [if_pos hc0] at hP
    refine own_Goes.pre (fun t kt => ?_) (b2_52 x0 x1 y0 X0 hx hZ hw hby hml hown hret hlk e0 Z0 N0 hP)
    show Steps p.tables e below (T0.setTop (mkF m 19 #[.val (.int x0), .val (.int x1), .val (.int y0)] [(.int x0)])) _
    refine XS.tswIn X0.here hx rfl (pc0 := 19) (pc' := 52) rfl (hb hby d2_19) rfl (by rw [hc0]; decide) (o := 33) (by rw [hc0]; decide) (by decide) (by decide) ?_
    exact kt
  by_cases hc1 : x0 = (1 : Int32)
  · rw [if_neg hc0, if_pos hc1] at hP
    refine own_Goes.pre (fun t kt => ?_) (b2_66 x0 x1 y0 X0 hx hZ hw hby hml hown hret hlk e0 Z0 N0 hP)
    show Steps p.tables e below (T0.setTop (mkF m 19 #[.val (.int x0), .val (.int x1), .val (.int y0)] [(.int x0)])) _
    refine XS.tswIn X0.here hx rfl (pc0 := 19) (pc' := 66) rfl (hb hby d2_19) rfl (by rw [hc1]; decide) (o := 47) (by rw [hc1]; decide) (by decide) (by decide) ?_
    exact kt
  by_cases hc2 : x0 = (2 : Int32)
  · rw [if_neg hc0, if_neg hc1, if_pos hc2] at hP
    refine own_Goes.pre (fun t kt => ?_) (b2_86 x0 x1 y0 X0 hx hZ hw hby hml hown hret hlk e0 Z0 N0 hP)
    show Steps p.tables e below (T0.setTop (mkF m 19 #[.val (.int x0), .val (.int x1), .val (.int y0)] [(.int x0)])) _
    refine XS.tswIn X0.here hx rfl (pc0 := 19) (pc' := 86) rfl (hb hby d2_19) rfl (by rw [hc2]; decide) (o := 67) (by rw [hc2]; decide) (by decide) (by decide) ?_
    exact kt
  by_cases hc3 : x0 = (3 : Int32)
  · rw [if_neg hc0, if_neg hc1, if_neg hc2, if_pos hc3] at hP
    refine own_Goes.pre (fun t kt => ?_) (b2_106 x0 x1 y0 X0 hx hZ hw hby hml hown hret hlk e0 Z0 N0 hP)
    show Steps p.tables e below (T0.setTop (mkF m 19 #[.val (.int x0), .val (.int x1), .val (.int y0)] [(.int x0)])) _
    refine XS.tswIn X0.here hx rfl (pc0 := 19) (pc' := 106) rfl (hb hby d2_19) rfl (by rw [hc3]; decide) (o := 87) (by rw [hc3]; decide) (by decide) (by decide) ?_
    exact kt
  by_cases hc4 : x0 = (4 : Int32)
  · rw [if_neg hc0, if_neg hc1, if_neg hc2, if_neg hc3, if_pos hc4] at hP
    refine own_Goes.pre (fun t kt => ?_) (b2_106 x0 x1 y0 X0 hx hZ hw hby hml hown hret hlk e0 Z0 N0 hP)
    show Steps p.tables e below (T0.setTop (mkF m 19 #[.val (.int x0), .val (.int x1), .val (.int y0)] [(.int x0)])) _
    refine XS.tswIn X0.here hx rfl (pc0 := 19) (pc' := 106) rfl (hb hby d2_19) rfl (by rw [hc4]; decide) (o := 87) (by rw [hc4]; decide) (by decide) (by decide) ?_
    exact kt
  rw [if_neg hc0, if_neg hc1, if_neg hc2, if_neg hc3, if_neg hc4] at hP
  refine own_Goes.pre (fun t kt => ?_) (b2_116 x0 x1 y0 X0 hx hZ hw hby hml hown hret hlk e0 Z0 N0 hP)
  show Steps p.tables e below (T0.setTop (mkF m 19 #[.val (.int x0), .val (.int x1), .val (.int y0)] [(.int x0)])) _
  refine XS.tswOut X0.here hx rfl (pc0 := 19) (pc' := 116) rfl (hb hby d2_19) rfl (own_out hc0 hc1 hc2 hc3 hc4) (by decide) (by decide) ?_
  exact kt
def f2_16 (x0 : Int32) (x1 : Int32) : Int32 := (f2_17 x0 x1 (0 : Int32))
set_option maxRecDepth 65536 in
set_option maxHeartbeats 40000000 in
theorem b2_16 {p : Program} {l : Launch} {e : Env} {s : State} {m : MethodId} {args : Array Value} {below : List Frame} {meth : Method} {c : Code} {T0 : State} {locs : List Loc} {Z : State} {a0 : Array Value} {h0 : Heap} {n0 : Nat} {P : Option Value → Heap → Prop} (x0 : Int32) (x1 : Int32) (X0 : Stand p l e ({ frames := 0, cells := 0, slots := 0, locals := 0 } : Room) s m args below meth c T0 locs 0 0) (hx : p.tables.exec = Jvm.exec) (hZ : Z.Warmed39 s.vm) (hw : ∀ d ∈ tables_1, d.before a0 Z = true) (hby : c.code = prog_173_method_9_code) (hml : c.maxLocals = 3) (hown : s.vm.findClass "com/example/lehre/lehre/XsdLexical" = some m.cls) (hret : meth.sig.returnType = some .int) (hlk : meth.locks = false) (e0 : T0.heap = h0) (Z0 : n0 ≤ h0.size) (N0 : Fr n0 locs) (hP : P (some (.int (f2_16 x0 x1))) h0) :
    own_Goes p e below s n0 0 0 P (T0.setTop (mkF m 16 #[.val (.int x0), .val (.int x1), .unset] [])) := by
  rw [f2_16] at hP
  refine own_Goes.pre (fun t kt => ?_) (b2_17 x0 x1 (0 : Int32) X0 hx hZ hw hby hml hown hret hlk e0 Z0 N0 hP)
  show Steps p.tables e below (T0.setTop (mkF m 16 #[.val (.int x0), .val (.int x1), .unset] [])) _
  refine XS.iconst X0.here hx rfl (hb hby d2_16) ?_
  exact kt
def f2_12 (x0 : Int32) (x1 : Int32) : Int32 := (f2_17 x0 x1 (1 : Int32))
set_option maxRecDepth 65536 in
set_option maxHeartbeats 40000000 in
theorem b2_12 {p : Program} {l : Launch} {e : Env} {s : State} {m : MethodId} {args : Array Value} {below : List Frame} {meth : Method} {c : Code} {T0 : State} {locs : List Loc} {Z : State} {a0 : Array Value} {h0 : Heap} {n0 : Nat} {P : Option Value → Heap → Prop} (x0 : Int32) (x1 : Int32) (X0 : Stand p l e ({ frames := 0, cells := 0, slots := 0, locals := 0 } : Room) s m args below meth c T0 locs 0 0) (hx : p.tables.exec = Jvm.exec) (hZ : Z.Warmed39 s.vm) (hw : ∀ d ∈ tables_1, d.before a0 Z = true) (hby : c.code = prog_173_method_9_code) (hml : c.maxLocals = 3) (hown : s.vm.findClass "com/example/lehre/lehre/XsdLexical" = some m.cls) (hret : meth.sig.returnType = some .int) (hlk : meth.locks = false) (e0 : T0.heap = h0) (Z0 : n0 ≤ h0.size) (N0 : Fr n0 locs) (hP : P (some (.int (f2_12 x0 x1))) h0) :
    own_Goes p e below s n0 0 0 P (T0.setTop (mkF m 12 #[.val (.int x0), .val (.int x1), .unset] [])) := by
  rw [f2_12] at hP
  refine own_Goes.pre (fun t kt => ?_) (b2_17 x0 x1 (1 : Int32) X0 hx hZ hw hby hml hown hret hlk e0 Z0 N0 hP)
  show Steps p.tables e below (T0.setTop (mkF m 12 #[.val (.int x0), .val (.int x1), .unset] [])) _
  refine XS.iconst X0.here hx rfl (hb hby d2_12) ?_
  show Steps p.tables e below (T0.setTop (mkF m 13 #[.val (.int x0), .val (.int x1), .unset] [(.int (1 : Int32))])) _
  refine XS.goto X0.here hx rfl (pc0 := 13) (pc' := 17) rfl (hb hby d2_13) (by decide) (by decide) ?_
  exact kt
def f2_6 (x0 : Int32) (x1 : Int32) : Int32 := if (57 : Int32) < x1 then (f2_16 x0 x1) else (f2_12 x0 x1)
set_option maxRecDepth 65536 in
set_option maxHeartbeats 40000000 in
theorem b2_6 {p : Program} {l : Launch} {e : Env} {s : State} {m : MethodId} {args : Array Value} {below : List Frame} {meth : Method} {c : Code} {T0 : State} {locs : List Loc} {Z : State} {a0 : Array Value} {h0 : Heap} {n0 : Nat} {P : Option Value → Heap → Prop} (x0 : Int32) (x1 : Int32) (X0 : Stand p l e ({ frames := 0, cells := 0, slots := 0, locals := 0 } : Room) s m args below meth c T0 locs 0 0) (hx : p.tables.exec = Jvm.exec) (hZ : Z.Warmed39 s.vm) (hw : ∀ d ∈ tables_1, d.before a0 Z = true) (hby : c.code = prog_173_method_9_code) (hml : c.maxLocals = 3) (hown : s.vm.findClass "com/example/lehre/lehre/XsdLexical" = some m.cls) (hret : meth.sig.returnType = some .int) (hlk : meth.locks = false) (e0 : T0.heap = h0) (Z0 : n0 ≤ h0.size) (N0 : Fr n0 locs) (hP : P (some (.int (f2_6 x0 x1))) h0) :
    own_Goes p e below s n0 0 0 P (T0.setTop (mkF m 6 #[.val (.int x0), .val (.int x1), .unset] [])) := by
  have pre1 : ∀ t, Steps p.tables e below (T0.setTop (mkF m 9 #[.val (.int x0), .val (.int x1), .unset] [(.int (57 : Int32)), (.int x1)])) t → Steps p.tables e below (T0.setTop (mkF m 6 #[.val (.int x0), .val (.int x1), .unset] [])) t := fun t kt => by
    show Steps p.tables e below (T0.setTop (mkF m 6 #[.val (.int x0), .val (.int x1), .unset] [])) _
    refine XS.iloadN X0.here hx rfl (hb hby d2_6) rfl ?_
    show Steps p.tables e below (T0.setTop (mkF m 7 #[.val (.int x0), .val (.int x1), .unset] [(.int x1)])) _
    refine XS.bipush X0.here hx rfl (hb hby d2_7) ?_
    exact kt
  refine own_Goes.pre pre1 ?_
  by_cases hc : (57 : Int32) < x1
  · rw [f2_6, if_pos hc] at hP
    refine own_Goes.pre (fun t kt => ?_) (b2_16 x0 x1 X0 hx hZ hw hby hml hown hret hlk e0 Z0 N0 hP)
    show Steps p.tables e below (T0.setTop (mkF m 9 #[.val (.int x0), .val (.int x1), .unset] [(.int (57 : Int32)), (.int x1)])) _
    refine XS.icmpYes X0.here hx rfl (pc0 := 9) (pc' := 16) rfl (hb hby d2_9) rfl (tlt hc).2.2.1 (by decide) (by decide) ?_
    exact kt
  · rw [f2_6, if_neg hc] at hP
    refine own_Goes.pre (fun t kt => ?_) (b2_12 x0 x1 X0 hx hZ hw hby hml hown hret hlk e0 Z0 N0 hP)
    show Steps p.tables e below (T0.setTop (mkF m 9 #[.val (.int x0), .val (.int x1), .unset] [(.int (57 : Int32)), (.int x1)])) _
    refine XS.icmpNo X0.here hx rfl (hb hby d2_9) rfl (flt hc).2.2.1 ?_
    exact kt
def f2_0 (x0 : Int32) (x1 : Int32) : Int32 := if x1 < (48 : Int32) then (f2_16 x0 x1) else (f2_6 x0 x1)
set_option maxRecDepth 65536 in
set_option maxHeartbeats 40000000 in
theorem b2_0 {p : Program} {l : Launch} {e : Env} {s : State} {m : MethodId} {args : Array Value} {below : List Frame} {meth : Method} {c : Code} {T0 : State} {locs : List Loc} {Z : State} {a0 : Array Value} {h0 : Heap} {n0 : Nat} {P : Option Value → Heap → Prop} (x0 : Int32) (x1 : Int32) (X0 : Stand p l e ({ frames := 0, cells := 0, slots := 0, locals := 0 } : Room) s m args below meth c T0 locs 0 0) (hx : p.tables.exec = Jvm.exec) (hZ : Z.Warmed39 s.vm) (hw : ∀ d ∈ tables_1, d.before a0 Z = true) (hby : c.code = prog_173_method_9_code) (hml : c.maxLocals = 3) (hown : s.vm.findClass "com/example/lehre/lehre/XsdLexical" = some m.cls) (hret : meth.sig.returnType = some .int) (hlk : meth.locks = false) (e0 : T0.heap = h0) (Z0 : n0 ≤ h0.size) (N0 : Fr n0 locs) (hP : P (some (.int (f2_0 x0 x1))) h0) :
    own_Goes p e below s n0 0 0 P (T0.setTop (mkF m 0 #[.val (.int x0), .val (.int x1), .unset] [])) := by
  have pre1 : ∀ t, Steps p.tables e below (T0.setTop (mkF m 3 #[.val (.int x0), .val (.int x1), .unset] [(.int (48 : Int32)), (.int x1)])) t → Steps p.tables e below (T0.setTop (mkF m 0 #[.val (.int x0), .val (.int x1), .unset] [])) t := fun t kt => by
    show Steps p.tables e below (T0.setTop (mkF m 0 #[.val (.int x0), .val (.int x1), .unset] [])) _
    refine XS.iloadN X0.here hx rfl (hb hby d2_0) rfl ?_
    show Steps p.tables e below (T0.setTop (mkF m 1 #[.val (.int x0), .val (.int x1), .unset] [(.int x1)])) _
    refine XS.bipush X0.here hx rfl (hb hby d2_1) ?_
    exact kt
  refine own_Goes.pre pre1 ?_
  by_cases hc : x1 < (48 : Int32)
  · rw [f2_0, if_pos hc] at hP
    refine own_Goes.pre (fun t kt => ?_) (b2_16 x0 x1 X0 hx hZ hw hby hml hown hret hlk e0 Z0 N0 hP)
    show Steps p.tables e below (T0.setTop (mkF m 3 #[.val (.int x0), .val (.int x1), .unset] [(.int (48 : Int32)), (.int x1)])) _
    refine XS.icmpYes X0.here hx rfl (pc0 := 3) (pc' := 16) rfl (hb hby d2_3) rfl (tlt hc).1 (by decide) (by decide) ?_
    exact kt
  · rw [f2_0, if_neg hc] at hP
    refine own_Goes.pre (fun t kt => ?_) (b2_6 x0 x1 X0 hx hZ hw hby hml hown hret hlk e0 Z0 N0 hP)
    show Steps p.tables e below (T0.setTop (mkF m 3 #[.val (.int x0), .val (.int x1), .unset] [(.int (48 : Int32)), (.int x1)])) _
    refine XS.icmpNo X0.here hx rfl (hb hby d2_3) rfl (flt hc).1 ?_
    exact kt
theorem pn1 : plainName "com/example/lehre/lehre/XsdLexical" = true := by first | (simp [plainName, overriddenIn]; done) | decide +kernel
theorem ef2 (m : MethodId) (x0 : Int32) (x1 : Int32) : entryFrame m #[(.int x0), (.int x1)] 3 = (mkF m 0 #[.val (.int x0), .val (.int x1), .unset] []) := by first | (simp [entryFrame, mkF, argsToLocals, Value.category]; done) | rfl
set_option maxRecDepth 65536 in
set_option maxHeartbeats 40000000 in
theorem rm2 (l : Launch) (Z : State) (a0 : Array Value) (hw : ∀ d ∈ tables_1, d.before a0 Z = true) (ws : List Jvm.Cond) (x0 : Int32) (x1 : Int32) (h0 : Heap) (n0 : Nat) (Z0 : n0 ≤ h0.size) :
    MetFree l (⟨"com/example/lehre/lehre/XsdLexical", "numeral", "(IC)I"⟩ : MethodName) (head1 (Jvm.Cond.code (⟨"com/example/lehre/lehre/XsdLexical", "numeral", "(IC)I"⟩ : MethodName) prog_173_method_9_code 3 (some .int) :: ws) ({ frames := 0, cells := 0, slots := 0, locals := 0 } : Room)) (fun a U => a = #[(.int x0), (.int x1)] ∧ Z.Warmed39 U.vm ∧ U.heap = h0) (fun _ _ _ _ _ => True) (fun _ U o U' => ∃ v L, o = .returned v ∧ own_Q (own_val (.int (f2_0 x0 x1)) h0) n0 v U'.heap L ∧ FrameEnd U o U' L ({ frames := 0, cells := 0, slots := 0, locals := 0 } : Room).cells ({ frames := 0, cells := 0, slots := 0, locals := 0 } : Room).slots) := by
  refine MetFree.of_bodySF (plainFor_of_name pn1) hisR ?_
  intro p e s m args below meth c s₁ Bd hml0 hP hK
  obtain ⟨rfl, hZ, hh⟩ := hP
  have hx := Bd.exec
  have hby := Bd.bytes
  have hml : c.maxLocals = 3 := hml0
  have hown : s.vm.findClass "com/example/lehre/lehre/XsdLexical" = some m.cls := findClass_of_methodNamed Bd.named
  have X0 : Stand p l e ({ frames := 0, cells := 0, slots := 0, locals := 0 } : Room) s m #[(.int x0), (.int x1)] below meth c s₁ [] 0 0 := Stand.of_body Bd
  have e0 : s₁.heap = h0 := by rw [← hh, Bd.state]; rfl
  refine own_Goes.pre (S' := s₁.setTop (mkF m 0 #[.val (.int x0), .val (.int x1), .unset] [])) (P := (own_val (.int (f2_0 x0 x1)) h0)) (n0 := n0) (kc := 0) (ks := 0) (fun t k => castTop (ef2 m x0 x1) k) ?_
  exact b2_0 x0 x1 X0 hx hZ hw hby hml hown Bd.returns Bd.notSynchronized e0 Z0 (Fr.nil n0) ⟨rfl, rfl⟩
/-- an int comes back, the heap as it was -/
def own_some (h0 : Heap) (v : Option Value) (h : Heap) : Prop := (∃ z : Int32, v = some (.int z)) ∧ h = h0
def own_void (h0 : Heap) (v : Option Value) (h : Heap) : Prop := v = none ∧ h = h0
/-- a byte[] of eight places -/
def own_Byt (Z : State) (h : Heap) (b : Addr) : Prop := ∃ c : Cell, Arr Z h b c .byte ∧ c.slots.size = 8 ∧ ∀ i, i < 8 → ∃ w : Int32, c.slots[i]? = some (.int w)
theorem d11_0 : decode jdk_41_method_11_code 0 = .ok (.iload_n 0, 1) := by decide +kernel
theorem d11_1 : decode jdk_41_method_11_code 1 = .ok (.ifCond .lt 8, 3) := by decide +kernel
theorem d11_4 : decode jdk_41_method_11_code 4 = .ok (.iload_n 0, 1) := by decide +kernel
theorem d11_5 : decode jdk_41_method_11_code 5 = .ok (.iload_n 1, 1) := by decide +kernel
theorem d11_6 : decode jdk_41_method_11_code 6 = .ok (.if_icmp .lt 10, 3) := by decide +kernel
theorem d11_9 : decode jdk_41_method_11_code 9 = .ok (.aload_n 2, 1) := by decide +kernel
theorem d11_10 : decode jdk_41_method_11_code 10 = .ok (.iload_n 0, 1) := by decide +kernel
theorem d11_11 : decode jdk_41_method_11_code 11 = .ok (.iload_n 1, 1) := by decide +kernel
theorem d11_12 : decode jdk_41_method_11_code 12 = .ok (.invokestatic 95, 3) := by decide +kernel
theorem d11_15 : decode jdk_41_method_11_code 15 = .ok (.athrow, 1) := by decide +kernel
theorem d11_16 : decode jdk_41_method_11_code 16 = .ok (.iload_n 0, 1) := by decide +kernel
theorem d11_17 : decode jdk_41_method_11_code 17 = .ok (.ireturn, 1) := by decide +kernel
theorem pn2 : plainName "jdk/internal/util/Preconditions" = true := by first | (simp [plainName, overriddenIn]; done) | decide +kernel
theorem ef11 (m : MethodId) (x0 : Int32) (x1 : Int32) (G3 : Value) (rG : G3.isRef = true) : entryFrame m #[(.int x0), (.int x1), G3] 3 = (mkF m 0 #[.val (.int x0), .val (.int x1), .val G3] []) := by 
  rcases ref_cases rG with rfl | ⟨a, rfl⟩ <;> first | (simp [entryFrame, mkF, argsToLocals, Value.category]; done) | rfl
set_option maxRecDepth 65536 in
set_option maxHeartbeats 40000000 in
theorem rm11 (l : Launch) (Z : State) (a0 : Array Value) (hw : ∀ d ∈ tables_1, d.before a0 Z = true) (ws : List Jvm.Cond) (x0 x1 : Int32) (G3 : Value) (h0 : Heap) (n0 : Nat) (Z0 : n0 ≤ h0.size) (rG : G3.isRef = true) (h1 : ¬ x0 < 0) (h2 : x0 < x1) :
    MetFree l (⟨"jdk/internal/util/Preconditions", "checkIndex", "(IILjava/util/function/BiFunction;)I"⟩ : MethodName) (head1 (Jvm.Cond.code (⟨"jdk/internal/util/Preconditions", "checkIndex", "(IILjava/util/function/BiFunction;)I"⟩ : MethodName) jdk_41_method_11_code 3 (some .int) :: ws) ({ frames := 0, cells := 0, slots := 0, locals := 0 } : Room)) (fun a U => a = #[(.int x0), (.int x1), G3] ∧ Z.Warmed39 U.vm ∧ U.heap = h0) (fun _ _ _ _ _ => True) (fun _ U o U' => ∃ v L, o = .returned v ∧ own_Q (own_val (.int x0) h0) n0 v U'.heap L ∧ FrameEnd U o U' L ({ frames := 0, cells := 0, slots := 0, locals := 0 } : Room).cells ({ frames := 0, cells := 0, slots := 0, locals := 0 } : Room).slots) := by
  refine MetFree.of_bodySF (plainFor_of_name pn2) hisR ?_
  intro p e s m args below meth c s₁ Bd hml0 hP hK
  obtain ⟨rfl, hZ, hh⟩ := hP
  have hx := Bd.exec
  have hby := Bd.bytes
  have hml : c.maxLocals = 3 := hml0
  have hown : s.vm.findClass "jdk/internal/util/Preconditions" = some m.cls := findClass_of_methodNamed Bd.named
  have X0 : Stand p l e ({ frames := 0, cells := 0, slots := 0, locals := 0 } : Room) s m #[(.int x0), (.int x1), G3] below meth c s₁ [] 0 0 := Stand.of_body Bd
  have e0 : s₁.heap = h0 := by rw [← hh, Bd.state]; rfl
  have N0 := Fr.nil n0
  refine own_Goes.pre (S' := s₁.setTop (mkF m 17 #[.val (.int x0), .val (.int x1), .val G3] [(.int x0)])) (P := (own_val (.int x0) h0)) (n0 := n0) (kc := 0) (ks := 0) (fun t kt => castTop (ef11 m x0 x1 G3 rG) ?_) (own_retI X0 hx Bd.notSynchronized Bd.returns (hb hby d11_17) N0 ⟨rfl, e0⟩ (by decide) (by decide) (Ls := #[.val (.int x0), .val (.int x1), .val G3]) (rest := []) (z := x0))
  show Steps p.tables e below (s₁.setTop (mkF m 0 #[.val (.int x0), .val (.int x1), .val G3] [])) _
  refine XS.iloadN X0.here hx rfl (hb hby d11_0) rfl ?_
  show Steps p.tables e below (s₁.setTop (mkF m 1 #[.val (.int x0), .val (.int x1), .val G3] [(.int x0)])) _
  refine XS.ifNo X0.here hx rfl (hb hby d11_1) rfl ((if0 _ _).trans (flt h1).1) ?_
  show Steps p.tables e below (s₁.setTop (mkF m 4 #[.val (.int x0), .val (.int x1), .val G3] [])) _
  refine XS.iloadN X0.here hx rfl (hb hby d11_4) rfl ?_
  show Steps p.tables e below (s₁.setTop (mkF m 5 #[.val (.int x0), .val (.int x1), .val G3] [(.int x0)])) _
  refine XS.iloadN X0.here hx rfl (hb hby d11_5) rfl ?_
  show Steps p.tables e below (s₁.setTop (mkF m 6 #[.val (.int x0), .val (.int x1), .val G3] [(.int x1), (.int x0)])) _
  refine XS.icmpYes X0.here hx rfl (pc0 := 6) (pc' := 16) rfl (hb hby d11_6) rfl (tlt h2).1 (by decide) (by decide) ?_
  show Steps p.tables e below (s₁.setTop (mkF m 16 #[.val (.int x0), .val (.int x1), .val G3] [])) _
  refine XS.iloadN X0.here hx rfl (hb hby d11_16) rfl ?_
  exact kt
theorem d10_0 : decode jdk_42_method_155_code 0 = .ok (.iload_n 0, 1) := by decide +kernel
theorem d10_1 : decode jdk_42_method_155_code 1 = .ok (.iload_n 1, 1) := by decide +kernel
theorem d10_2 : decode jdk_42_method_155_code 2 = .ok (.getstatic 1053, 3) := by decide +kernel
theorem d10_5 : decode jdk_42_method_155_code 5 = .ok (.invokestatic 1059, 3) := by decide +kernel
theorem d10_8 : decode jdk_42_method_155_code 8 = .ok (.pop, 1) := by decide +kernel
theorem d10_9 : decode jdk_42_method_155_code 9 = .ok (.return_, 1) := by decide +kernel
theorem pd3 : parseMethodDescriptor "(IILjava/util/function/BiFunction;)I" = some ⟨[.int, .int, (.object "java/util/function/BiFunction")], some .int⟩ := by decide +kernel
theorem pn3 : plainName "java/lang/String" = true := by first | (simp [plainName, overriddenIn]; done) | decide +kernel
theorem ef10 (m : MethodId) (x0 : Int32) (x1 : Int32) : entryFrame m #[(.int x0), (.int x1)] 2 = (mkF m 0 #[.val (.int x0), .val (.int x1)] []) := by first | (simp [entryFrame, mkF, argsToLocals, Value.category]; done) | rfl
set_option maxRecDepth 65536 in
set_option maxHeartbeats 40000000 in
theorem rm10 (l : Launch) (Z : State) (a0 : Array Value) (hw : ∀ d ∈ tables_1, d.before a0 Z = true) (ws : List Jvm.Cond) (x0 x1 : Int32) (G3 : Value) (h0 : Heap) (n0 : Nat) (Z0 : n0 ≤ h0.size) (SF : Sta Z h0 "jdk/internal/util/Preconditions" "SIOOBE_FORMATTER" "Ljava/util/function/BiFunction;" G3) (rG : G3.isRef = true) (h1 : ¬ x0 < 0) (h2 : x0 < x1) :
    MetFree l (⟨"java/lang/String", "checkIndex", "(II)V"⟩ : MethodName) (head1 (Jvm.Cond.code (⟨"java/lang/String", "checkIndex", "(II)V"⟩ : MethodName) jdk_42_method_155_code 2 none :: ws) ({ frames := 1, cells := 0, slots := 0, locals := 14 } : Room)) (fun a U => a = #[(.int x0), (.int x1)] ∧ Z.Warmed39 U.vm ∧ U.heap = h0) (fun _ _ _ _ _ => True) (fun _ U o U' => ∃ v L, o = .returned v ∧ own_Q (own_void h0) n0 v U'.heap L ∧ FrameEnd U o U' L ({ frames := 1, cells := 0, slots := 0, locals := 14 } : Room).cells ({ frames := 1, cells := 0, slots := 0, locals := 14 } : Room).slots) := by
  refine MetFree.of_bodySF (plainFor_of_name pn3) hisR ?_
  intro p e s m args below meth c s₁ Bd hml0 hP hK
  obtain ⟨rfl, hZ, hh⟩ := hP
  have hx := Bd.exec
  have hby := Bd.bytes
  have hml : c.maxLocals = 2 := hml0
  have hown : s.vm.findClass "java/lang/String" = some m.cls := findClass_of_methodNamed Bd.named
  have X0 : Stand p l e ({ frames := 1, cells := 0, slots := 0, locals := 14 } : Room) s m #[(.int x0), (.int x1)] below meth c s₁ [] 0 0 := Stand.of_body Bd
  have e0 : s₁.heap = h0 := by rw [← hh, Bd.state]; rfl
  have N0 := Fr.nil n0
  obtain ⟨T2, X2, e2, st2⟩ := getS2 X0 hx hZ hown (host := "") (Or.inl (hw _ (List.mem_of_getElem? (i := 48) rfl))) Via.refl e0 SF (g := (mkF m 2 #[.val (.int x0), .val (.int x1)] [(.int x1), (.int x0)])) rfl (hb hby d10_2)
  obtain ⟨_, _, ⟨T5, L5, k5, n5⟩, -, X5, ⟨Lc5, hQ5, l5, y5, z5⟩, st5⟩ := Jvm.LawKit.callS X2 hx (y := (⟨"jdk/internal/util/Preconditions", "checkIndex", "(IILjava/util/function/BiFunction;)I"⟩ : MethodName)) hown (mvT hZ (hw _ (List.mem_of_getElem? (i := 50) rfl))) (mvT hZ (hw _ (List.mem_of_getElem? (i := 51) rfl))) (mvT hZ (hw _ (List.mem_of_getElem? (i := 49) rfl))) (mvT hZ (hw _ (List.mem_of_getElem? (i := 52) rfl))) (by decide) (backOf (W := 0) (rm11 l Z a0 hw [] x0 x1 G3 h0 n0 Z0 rG h1 h2) hZ (hw _ (List.mem_of_getElem? (i := 52) rfl)) (hw _ (List.mem_of_getElem? (i := 49) rfl)) (by decide) (by decide)) (g := (mkF m 5 #[.val (.int x0), .val (.int x1)] [G3, (.int x1), (.int x0)])) rfl (by rw [hml]; rfl) (argsL := [(.int x0), (.int x1), G3]) (rest := []) (lenOf pd3 rfl) rfl (by show 2 * 0 + _ ≤ _; exact Nat.le_of_eq rfl) (hb hby d10_5) (fun _ _ => ⟨rfl, e2, (by decide : 0 + 0 ≤ _), (by decide : 0 + 0 ≤ _)⟩)
  dsimp only [Pt.U, Pt.locs, Pt.cells, Pt.slots] at X5 l5 y5 z5 st5 hQ5
  subst l5 y5 z5
  obtain ⟨⟨rfl, e5⟩, N5q⟩ := hQ5
  have N5 := Fr.app N0 N5q
  refine own_Goes.pre (S' := T5.setTop (mkF m 9 #[.val (.int x0), .val (.int x1)] [])) (P := (own_void h0)) (n0 := n0) (kc := 0) (ks := 0) (fun t kt => castTop (ef10 m x0 x1) ?_) (own_retV X5 hx Bd.notSynchronized Bd.returns (hb hby d10_9) N5 ⟨rfl, e5⟩ (by decide) (by decide) (Ls := #[.val (.int x0), .val (.int x1)]))
  show Steps p.tables e below (s₁.setTop (mkF m 0 #[.val (.int x0), .val (.int x1)] [])) _
  refine XS.iloadN X0.here hx rfl (hb hby d10_0) rfl ?_
  show Steps p.tables e below (s₁.setTop (mkF m 1 #[.val (.int x0), .val (.int x1)] [(.int x0)])) _
  refine XS.iloadN X0.here hx rfl (hb hby d10_1) rfl ?_
  show Steps p.tables e below (s₁.setTop (mkF m 2 #[.val (.int x0), .val (.int x1)] [(.int x1), (.int x0)])) _
  refine st2 _ ?_
  show Steps p.tables e below (T2.setTop (mkF m 5 #[.val (.int x0), .val (.int x1)] [G3, (.int x1), (.int x0)])) _
  refine st5 _ ?_
  show Steps p.tables e below (T5.setTop (mkF m 8 #[.val (.int x0), .val (.int x1)] [(.int x0)])) _
  refine XS.pop X5.here hx rfl (hb hby d10_8) rfl rfl ?_
  exact kt
theorem own_i8 {x : Int32} (h1 : ¬ x < 0) (h2 : x < 8) : x.toNatClampNeg < 8 := by
  rw [Int32.lt_iff_toInt_lt, show (0 : Int32).toInt = 0 from rfl] at h1
  rw [Int32.lt_iff_toInt_lt, show (8 : Int32).toInt = 8 from rfl] at h2
  rw [Int32.toNatClampNeg]; omega
theorem d9_0 : decode jdk_43_method_2_code 0 = .ok (.iload_n 1, 1) := by decide +kernel
theorem d9_1 : decode jdk_43_method_2_code 1 = .ok (.aload_n 0, 1) := by decide +kernel
theorem d9_2 : decode jdk_43_method_2_code 2 = .ok (.arraylength, 1) := by decide +kernel
theorem d9_3 : decode jdk_43_method_2_code 3 = .ok (.invokestatic 9, 3) := by decide +kernel
theorem d9_6 : decode jdk_43_method_2_code 6 = .ok (.aload_n 0, 1) := by decide +kernel
theorem d9_7 : decode jdk_43_method_2_code 7 = .ok (.iload_n 1, 1) := by decide +kernel
theorem d9_8 : decode jdk_43_method_2_code 8 = .ok (.baload, 1) := by decide +kernel
theorem d9_9 : decode jdk_43_method_2_code 9 = .ok (.sipush 255, 3) := by decide +kernel
theorem d9_12 : decode jdk_43_method_2_code 12 = .ok (.iand, 1) := by decide +kernel
theorem d9_13 : decode jdk_43_method_2_code 13 = .ok (.i2c, 1) := by decide +kernel
theorem d9_14 : decode jdk_43_method_2_code 14 = .ok (.ireturn, 1) := by decide +kernel
theorem pd4 : parseMethodDescriptor "(II)V" = some ⟨[.int, .int], none⟩ := by decide +kernel
theorem pn4 : plainName "java/lang/StringLatin1" = true := by first | (simp [plainName, overriddenIn]; done) | decide +kernel
theorem ef9 (m : MethodId) (ob : Addr) (x1 : Int32) : entryFrame m #[(.ref ob), (.int x1)] 2 = (mkF m 0 #[.val (.ref ob), .val (.int x1)] []) := by first | (simp [entryFrame, mkF, argsToLocals, Value.category]; done) | rfl
set_option maxRecDepth 65536 in
set_option maxHeartbeats 40000000 in
theorem rm9 (l : Launch) (Z : State) (a0 : Array Value) (hw : ∀ d ∈ tables_1, d.before a0 Z = true) (ws : List Jvm.Cond) (ob : Addr) (x1 : Int32) (G3 : Value) (h0 : Heap) (n0 : Nat) (Z0 : n0 ≤ h0.size) (SF : Sta Z h0 "jdk/internal/util/Preconditions" "SIOOBE_FORMATTER" "Ljava/util/function/BiFunction;" G3) (rG : G3.isRef = true) (HY : own_Byt Z h0 ob) (h1 : ¬ x1 < 0) (h2 : x1 < 8) :
    MetFree l (⟨"java/lang/StringLatin1", "charAt", "([BI)C"⟩ : MethodName) (head1 (Jvm.Cond.code (⟨"java/lang/StringLatin1", "charAt", "([BI)C"⟩ : MethodName) jdk_43_method_2_code 2 (some .char) :: ws) ({ frames := 2, cells := 0, slots := 0, locals := 27 } : Room)) (fun a U => a = #[(.ref ob), (.int x1)] ∧ Z.Warmed39 U.vm ∧ U.heap = h0) (fun _ _ _ _ _ => True) (fun _ U o U' => ∃ v L, o = .returned v ∧ own_Q (own_some h0) n0 v U'.heap L ∧ FrameEnd U o U' L ({ frames := 2, cells := 0, slots := 0, locals := 27 } : Room).cells ({ frames := 2, cells := 0, slots := 0, locals := 27 } : Room).slots) := by
  refine MetFree.of_bodySF (plainFor_of_name pn4) hisR ?_
  intro p e s m args below meth c s₁ Bd hml0 hP hK
  obtain ⟨rfl, hZ, hh⟩ := hP
  have hx := Bd.exec
  have hby := Bd.bytes
  have hml : c.maxLocals = 2 := hml0
  have hown : s.vm.findClass "java/lang/StringLatin1" = some m.cls := findClass_of_methodNamed Bd.named
  have X0 : Stand p l e ({ frames := 2, cells := 0, slots := 0, locals := 27 } : Room) s m #[(.ref ob), (.int x1)] below meth c s₁ [] 0 0 := Stand.of_body Bd
  have e0 : s₁.heap = h0 := by rw [← hh, Bd.state]; rfl
  have N0 := Fr.nil n0
  obtain ⟨cB, AB, SBz, HB⟩ := HY
  have hx8 : x1.toNatClampNeg < 8 := own_i8 h1 h2
  obtain ⟨wB, hat⟩ := HB x1.toNatClampNeg hx8
  have hin : ¬ (x1 < 0 ∨ cB.slots.size ≤ x1.toNatClampNeg) := by rw [SBz]; exact fun q => q.elim h1 (fun q => absurd hx8 (Nat.not_lt.mpr q))
  obtain ⟨_, _, ⟨T3, L3, k3, n3⟩, -, X3, ⟨Lc3, hQ3, l3, y3, z3⟩, st3⟩ := Jvm.LawKit.callS X0 hx (y := (⟨"java/lang/String", "checkIndex", "(II)V"⟩ : MethodName)) hown (mvT hZ (hw _ (List.mem_of_getElem? (i := 45) rfl))) (mvT hZ (hw _ (List.mem_of_getElem? (i := 46) rfl))) (mvT hZ (hw _ (List.mem_of_getElem? (i := 21) rfl))) (mvT hZ (hw _ (List.mem_of_getElem? (i := 47) rfl))) (by decide) (backOf (W := 0) (rm10 l Z a0 hw [] x1 (8 : Int32) G3 h0 n0 Z0 SF rG h1 h2) hZ (hw _ (List.mem_of_getElem? (i := 47) rfl)) (hw _ (List.mem_of_getElem? (i := 21) rfl)) (by decide) (by decide)) (g := (mkF m 3 #[.val (.ref ob), .val (.int x1)] [(.int (8 : Int32)), (.int x1)])) rfl (by rw [hml]; rfl) (argsL := [(.int x1), (.int (8 : Int32))]) (rest := []) (lenOf pd4 rfl) rfl (by show 2 * 0 + _ ≤ _; exact Nat.le_of_eq rfl) (hb hby d9_3) (fun _ _ => ⟨rfl, e0, (by decide : 0 + 0 ≤ _), (by decide : 0 + 0 ≤ _)⟩)
  dsimp only [Pt.U, Pt.locs, Pt.cells, Pt.slots] at X3 l3 y3 z3 st3 hQ3
  subst l3 y3 z3
  obtain ⟨⟨rfl, e3⟩, N3q⟩ := hQ3
  have N3 := Fr.app N0 N3q
  refine own_Goes.pre (S' := T3.setTop (mkF m 14 #[.val (.ref ob), .val (.int x1)] [(.int ((wB &&& (255 : Int32)).toUInt32.toUInt16.toUInt32.toInt32))])) (P := (own_some h0)) (n0 := n0) (kc := 0) (ks := 0) (fun t kt => castTop (ef9 m ob x1) ?_) (own_retN X3 hx Bd.notSynchronized Bd.returns (by simp) (hb hby d9_14) N3 ⟨⟨_, rfl⟩, e3⟩ (by decide) (by decide) (Ls := #[.val (.ref ob), .val (.int x1)]) (rest := []) (z := ((wB &&& (255 : Int32)).toUInt32.toUInt16.toUInt32.toInt32)))
  show Steps p.tables e below (s₁.setTop (mkF m 0 #[.val (.ref ob), .val (.int x1)] [])) _
  refine XS.iloadN X0.here hx rfl (hb hby d9_0) rfl ?_
  show Steps p.tables e below (s₁.setTop (mkF m 1 #[.val (.ref ob), .val (.int x1)] [(.int x1)])) _
  refine XS.aloadN X0.here hx rfl (hb hby d9_1) rfl rfl ?_
  show Steps p.tables e below (s₁.setTop (mkF m 2 #[.val (.ref ob), .val (.int x1)] [(.ref ob), (.int x1)])) _
  refine X0.arraylength hx (cell := cB) (by rw [e0]; exact AB.1) (State.isArrayOf_alike hZ.alike AB.2.1) (g := (mkF m 2 #[.val (.ref ob), .val (.int x1)] [(.ref ob), (.int x1)])) rfl (rest := [(.int x1)]) rfl (hb hby d9_2) _ ?_
  rw [SBz, show (8 : Nat).toInt32 = (8 : Int32) from rfl]
  show Steps p.tables e below (s₁.setTop (mkF m 3 #[.val (.ref ob), .val (.int x1)] [(.int (8 : Int32)), (.int x1)])) _
  refine st3 _ ?_
  show Steps p.tables e below (T3.setTop (mkF m 6 #[.val (.ref ob), .val (.int x1)] [])) _
  refine XS.aloadN X3.here hx rfl (hb hby d9_6) rfl rfl ?_
  show Steps p.tables e below (T3.setTop (mkF m 7 #[.val (.ref ob), .val (.int x1)] [(.ref ob)])) _
  refine XS.iloadN X3.here hx rfl (hb hby d9_7) rfl ?_
  show Steps p.tables e below (T3.setTop (mkF m 8 #[.val (.ref ob), .val (.int x1)] [(.int x1), (.ref ob)])) _
  refine X3.baloadBytes hx (j := x1) (v := (.int wB)) (by rw [e3]; exact AB.1) (State.isArrayOf_alike hZ.alike AB.2.1) AB.2.2 hin hat (g := (mkF m 8 #[.val (.ref ob), .val (.int x1)] [(.int x1), (.ref ob)])) rfl rfl (hb hby d9_8) _ ?_
  show Steps p.tables e below (T3.setTop (mkF m 9 #[.val (.ref ob), .val (.int x1)] [(.int wB)])) _
  refine XS.sipush X3.here hx rfl (hb hby d9_9) ?_
  show Steps p.tables e below (T3.setTop (mkF m 12 #[.val (.ref ob), .val (.int x1)] [(.int (255 : Int32)), (.int wB)])) _
  refine XS.iand X3.here hx rfl (hb hby d9_12) rfl ?_
  show Steps p.tables e below (T3.setTop (mkF m 13 #[.val (.ref ob), .val (.int x1)] [(.int (wB &&& (255 : Int32)))])) _
  refine XS.i2c X3.here hx rfl (hb hby d9_13) rfl ?_
  exact kt
theorem d8_0 : decode jdk_42_method_154_code 0 = .ok (.getstatic 38, 3) := by decide +kernel
theorem d8_3 : decode jdk_42_method_154_code 3 = .ok (.ifCond .eq 14, 3) := by decide +kernel
theorem d8_6 : decode jdk_42_method_154_code 6 = .ok (.aload_n 0, 1) := by decide +kernel
theorem d8_7 : decode jdk_42_method_154_code 7 = .ok (.getfield 15, 3) := by decide +kernel
theorem d8_10 : decode jdk_42_method_154_code 10 = .ok (.ifCond .ne 7, 3) := by decide +kernel
theorem d8_13 : decode jdk_42_method_154_code 13 = .ok (.iconst 1, 1) := by decide +kernel
theorem d8_14 : decode jdk_42_method_154_code 14 = .ok (.goto 4, 3) := by decide +kernel
theorem d8_17 : decode jdk_42_method_154_code 17 = .ok (.iconst 0, 1) := by decide +kernel
theorem d8_18 : decode jdk_42_method_154_code 18 = .ok (.ireturn, 1) := by decide +kernel
theorem ef8 (m : MethodId) (o0 : Addr) : entryFrame m #[(.ref o0)] 1 = (mkF m 0 #[.val (.ref o0)] []) := by first | (simp [entryFrame, mkF, argsToLocals, Value.category]; done) | rfl
set_option maxRecDepth 65536 in
set_option maxHeartbeats 40000000 in
theorem rm8 (l : Launch) (Z : State) (a0 : Array Value) (hw : ∀ d ∈ tables_1, d.before a0 Z = true) (ws : List Jvm.Cond) (o0 : Addr) (G1 : Int32) (h0 : Heap) (n0 : Nat) (Z0 : n0 ≤ h0.size) (SC : Sta Z h0 "java/lang/String" "COMPACT_STRINGS" "Z" (.int G1)) (FC : Fld Z h0 o0 "java/lang/String" "coder" "B" (.int 0)) (P5 : ¬ G1 = 0) :
    MetFree l (⟨"java/lang/String", "isLatin1", "()Z"⟩ : MethodName) (head1 (Jvm.Cond.code (⟨"java/lang/String", "isLatin1", "()Z"⟩ : MethodName) jdk_42_method_154_code 1 (some .boolean) :: ws) ({ frames := 0, cells := 0, slots := 0, locals := 0 } : Room)) (fun a U => a = #[(.ref o0)] ∧ Z.Warmed39 U.vm ∧ U.heap = h0) (fun _ _ _ _ _ => True) (fun _ U o U' => ∃ v L, o = .returned v ∧ own_Q (own_val (.int 1) h0) n0 v U'.heap L ∧ FrameEnd U o U' L ({ frames := 0, cells := 0, slots := 0, locals := 0 } : Room).cells ({ frames := 0, cells := 0, slots := 0, locals := 0 } : Room).slots) := by
  refine MetFree.of_bodySF (plainFor_of_name pn3) hisR ?_
  intro p e s m args below meth c s₁ Bd hml0 hP hK
  obtain ⟨rfl, hZ, hh⟩ := hP
  have hx := Bd.exec
  have hby := Bd.bytes
  have hml : c.maxLocals = 1 := hml0
  have hown : s.vm.findClass "java/lang/String" = some m.cls := findClass_of_methodNamed Bd.named
  have X0 : Stand p l e ({ frames := 0, cells := 0, slots := 0, locals := 0 } : Room) s m #[(.ref o0)] below meth c s₁ [] 0 0 := Stand.of_body Bd
  have e0 : s₁.heap = h0 := by rw [← hh, Bd.state]; rfl
  have N0 := Fr.nil n0
  obtain ⟨T0, X0, e0, st0⟩ := getS2 X0 hx hZ hown (host := "") (Or.inl (hw _ (List.mem_of_getElem? (i := 38) rfl))) Via.refl e0 SC (g := (mkF m 0 #[.val (.ref o0)] [])) rfl (hb hby d8_0)
  obtain ⟨T7, X7, e7, st7⟩ := getF X0 hx hZ hown (host := "") (Or.inl (hw _ (List.mem_of_getElem? (i := 39) rfl))) Via.refl e0 FC (g := (mkF m 7 #[.val (.ref o0)] [(.ref o0)])) rfl rfl (hb hby d8_7)
  refine own_Goes.pre (S' := T7.setTop (mkF m 18 #[.val (.ref o0)] [(.int (1 : Int32))])) (P := (own_val (.int 1) h0)) (n0 := n0) (kc := 0) (ks := 0) (fun t kt => castTop (ef8 m o0) ?_) (own_retN X7 hx Bd.notSynchronized Bd.returns (by simp) (hb hby d8_18) N0 ⟨rfl, e7⟩ (by decide) (by decide) (Ls := #[.val (.ref o0)]) (rest := []) (z := (1 : Int32)))
  show Steps p.tables e below (s₁.setTop (mkF m 0 #[.val (.ref o0)] [])) _
  refine st0 _ ?_
  show Steps p.tables e below (T0.setTop (mkF m 3 #[.val (.ref o0)] [(.int G1)])) _
  refine XS.ifNo X0.here hx rfl (hb hby d8_3) rfl ((if0 _ _).trans (feq P5).1) ?_
  show Steps p.tables e below (T0.setTop (mkF m 6 #[.val (.ref o0)] [])) _
  refine XS.aloadN X0.here hx rfl (hb hby d8_6) rfl rfl ?_
  show Steps p.tables e below (T0.setTop (mkF m 7 #[.val (.ref o0)] [(.ref o0)])) _
  refine st7 _ ?_
  show Steps p.tables e below (T7.setTop (mkF m 10 #[.val (.ref o0)] [(.int (0 : Int32))])) _
  refine XS.ifNo X7.here hx rfl (hb hby d8_10) rfl ((if0 _ _).trans (teq rfl).2) ?_
  show Steps p.tables e below (T7.setTop (mkF m 13 #[.val (.ref o0)] [])) _
  refine XS.iconst X7.here hx rfl (hb hby d8_13) ?_
  show Steps p.tables e below (T7.setTop (mkF m 14 #[.val (.ref o0)] [(.int (1 : Int32))])) _
  refine XS.goto X7.here hx rfl (pc0 := 14) (pc' := 18) rfl (hb hby d8_14) (by decide) (by decide) ?_
  exact kt
theorem d7_0 : decode jdk_42_method_56_code 0 = .ok (.aload_n 0, 1) := by decide +kernel
theorem d7_1 : decode jdk_42_method_56_code 1 = .ok (.invokevirtual 492, 3) := by decide +kernel
theorem d7_4 : decode jdk_42_method_56_code 4 = .ok (.ifCond .eq 12, 3) := by decide +kernel
theorem d7_7 : decode jdk_42_method_56_code 7 = .ok (.aload_n 0, 1) := by decide +kernel
theorem d7_8 : decode jdk_42_method_56_code 8 = .ok (.getfield 9, 3) := by decide +kernel
theorem d7_11 : decode jdk_42_method_56_code 11 = .ok (.iload_n 1, 1) := by decide +kernel
theorem d7_12 : decode jdk_42_method_56_code 12 = .ok (.invokestatic 495, 3) := by decide +kernel
theorem d7_15 : decode jdk_42_method_56_code 15 = .ok (.ireturn, 1) := by decide +kernel
theorem d7_16 : decode jdk_42_method_56_code 16 = .ok (.aload_n 0, 1) := by decide +kernel
theorem d7_17 : decode jdk_42_method_56_code 17 = .ok (.getfield 9, 3) := by decide +kernel
theorem d7_20 : decode jdk_42_method_56_code 20 = .ok (.iload_n 1, 1) := by decide +kernel
theorem d7_21 : decode jdk_42_method_56_code 21 = .ok (.invokestatic 498, 3) := by decide +kernel
theorem d7_24 : decode jdk_42_method_56_code 24 = .ok (.ireturn, 1) := by decide +kernel
theorem pd5 : parseMethodDescriptor "()Z" = some ⟨[], some .boolean⟩ := by decide +kernel
theorem pd6 : parseMethodDescriptor "([BI)C" = some ⟨[(.array .byte), .int], some .char⟩ := by decide +kernel
theorem ef7 (m : MethodId) (o0 : Addr) (x1 : Int32) : entryFrame m #[(.ref o0), (.int x1)] 2 = (mkF m 0 #[.val (.ref o0), .val (.int x1)] []) := by first | (simp [entryFrame, mkF, argsToLocals, Value.category]; done) | rfl
set_option maxRecDepth 65536 in
set_option maxHeartbeats 40000000 in
theorem rm7 (l : Launch) (Z : State) (a0 : Array Value) (hw : ∀ d ∈ tables_1, d.before a0 Z = true) (ws : List Jvm.Cond) (o0 ob : Addr) (x1 : Int32) (G1 : Int32) (G3 : Value) (h0 : Heap) (n0 : Nat) (Z0 : n0 ≤ h0.size) (ES : Exa Z h0 o0 "java/lang/String") (SC : Sta Z h0 "java/lang/String" "COMPACT_STRINGS" "Z" (.int G1)) (FC : Fld Z h0 o0 "java/lang/String" "coder" "B" (.int 0)) (P5 : ¬ G1 = 0) (FV : Fld Z h0 o0 "java/lang/String" "value" "[B" (.ref ob)) (SF : Sta Z h0 "jdk/internal/util/Preconditions" "SIOOBE_FORMATTER" "Ljava/util/function/BiFunction;" G3) (rG : G3.isRef = true) (HY : own_Byt Z h0 ob) (h1 : ¬ x1 < 0) (h2 : x1 < 8) :
    MetFree l (⟨"java/lang/String", "charAt", "(I)C"⟩ : MethodName) (head1 (Jvm.Cond.code (⟨"java/lang/String", "charAt", "(I)C"⟩ : MethodName) jdk_42_method_56_code 2 (some .char) :: ws) ({ frames := 3, cells := 0, slots := 0, locals := 40 } : Room)) (fun a U => a = #[(.ref o0), (.int x1)] ∧ Z.Warmed39 U.vm ∧ U.heap = h0) (fun _ _ _ _ _ => True) (fun _ U o U' => ∃ v L, o = .returned v ∧ own_Q (own_some h0) n0 v U'.heap L ∧ FrameEnd U o U' L ({ frames := 3, cells := 0, slots := 0, locals := 40 } : Room).cells ({ frames := 3, cells := 0, slots := 0, locals := 40 } : Room).slots) := by
  refine MetFree.of_bodySF (plainFor_of_name pn3) hisR ?_
  intro p e s m args below meth c s₁ Bd hml0 hP hK
  obtain ⟨rfl, hZ, hh⟩ := hP
  have hx := Bd.exec
  have hby := Bd.bytes
  have hml : c.maxLocals = 2 := hml0
  have hown : s.vm.findClass "java/lang/String" = some m.cls := findClass_of_methodNamed Bd.named
  have X0 : Stand p l e ({ frames := 3, cells := 0, slots := 0, locals := 40 } : Room) s m #[(.ref o0), (.int x1)] below meth c s₁ [] 0 0 := Stand.of_body Bd
  have e0 : s₁.heap = h0 := by rw [← hh, Bd.state]; rfl
  have N0 := Fr.nil n0
  obtain ⟨cq, kq, qa, qb, qc⟩ := isOf hZ e0 ES
  obtain ⟨_, _, ⟨T1, L1, k1, n1⟩, -, X1, ⟨Lc1, hQ1, l1, y1, z1⟩, st1⟩ := X0.virtualBack hx (y := (⟨"java/lang/String", "isLatin1", "()Z"⟩ : MethodName)) (z := (⟨"java/lang/String", "isLatin1", "()Z"⟩ : MethodName)) hown (mvT hZ (hw _ (List.mem_of_getElem? (i := 33) rfl))) (mvT hZ (hw _ (List.mem_of_getElem? (i := 34) rfl))) (notFace_of_selects (args := #[]) (mvT hZ (hw _ (List.mem_of_getElem? (i := 36) rfl)))) (mvT hZ (hw _ (List.mem_of_getElem? (i := 36) rfl))) (mvT hZ (hw _ (List.mem_of_getElem? (i := 35) rfl))) (by decide) (backOf (W := 0) (rm8 l Z a0 hw [] o0 G1 h0 n0 Z0 SC FC P5) hZ (hw _ (List.mem_of_getElem? (i := 37) rfl)) (hw _ (List.mem_of_getElem? (i := 21) rfl)) (by decide) (by decide)) qa qc (g := (mkF m 1 #[.val (.ref o0), .val (.int x1)] [(.ref o0)])) rfl (by rw [hml]; rfl) (Steps.refl _) (argsL := []) (rest := []) (lenOf pd5 rfl) rfl (by show 2 * 0 + _ ≤ _; exact Nat.le_of_eq rfl) (hb hby d7_1) (fun _ _ => ⟨rfl, e0, (by decide : 0 + 0 ≤ _), (by decide : 0 + 0 ≤ _)⟩)
  dsimp only [Pt.U, Pt.locs, Pt.cells, Pt.slots] at X1 l1 y1 z1 st1 hQ1
  subst l1 y1 z1
  obtain ⟨⟨rfl, e1⟩, N1q⟩ := hQ1
  have N1 := Fr.app N0 N1q
  obtain ⟨T8, X8, e8, st8⟩ := getF X1 hx hZ hown (host := "") (Or.inl (hw _ (List.mem_of_getElem? (i := 40) rfl))) Via.refl e1 FV (g := (mkF m 8 #[.val (.ref o0), .val (.int x1)] [(.ref o0)])) rfl rfl (hb hby d7_8)
  obtain ⟨_, _, ⟨T12, L12, k12, n12⟩, -, X12, ⟨Lc12, hQ12, l12, y12, z12⟩, st12⟩ := Jvm.LawKit.callS X8 hx (y := (⟨"java/lang/StringLatin1", "charAt", "([BI)C"⟩ : MethodName)) hown (mvT hZ (hw _ (List.mem_of_getElem? (i := 41) rfl))) (mvT hZ (hw _ (List.mem_of_getElem? (i := 42) rfl))) (mvT hZ (hw _ (List.mem_of_getElem? (i := 43) rfl))) (mvT hZ (hw _ (List.mem_of_getElem? (i := 44) rfl))) (by decide) (backOf (W := 0) (rm9 l Z a0 hw [] ob x1 G3 h0 n0 Z0 SF rG HY h1 h2) hZ (hw _ (List.mem_of_getElem? (i := 44) rfl)) (hw _ (List.mem_of_getElem? (i := 43) rfl)) (by decide) (by decide)) (g := (mkF m 12 #[.val (.ref o0), .val (.int x1)] [(.int x1), (.ref ob)])) rfl (by rw [hml]; rfl) (argsL := [(.ref ob), (.int x1)]) (rest := []) (lenOf pd6 rfl) rfl (by show 2 * 0 + _ ≤ _; exact Nat.le_of_eq rfl) (hb hby d7_12) (fun _ _ => ⟨rfl, e8, (by decide : 0 + 0 ≤ _), (by decide : 0 + 0 ≤ _)⟩)
  dsimp only [Pt.U, Pt.locs, Pt.cells, Pt.slots] at X12 l12 y12 z12 st12 hQ12
  subst l12 y12 z12
  obtain ⟨⟨⟨cR, rfl⟩, e12⟩, N12q⟩ := hQ12
  have N12 := Fr.app N1 N12q
  refine own_Goes.pre (S' := T12.setTop (mkF m 15 #[.val (.ref o0), .val (.int x1)] [(.int cR)])) (P := (own_some h0)) (n0 := n0) (kc := 0) (ks := 0) (fun t kt => castTop (ef7 m o0 x1) ?_) (own_retN X12 hx Bd.notSynchronized Bd.returns (by simp) (hb hby d7_15) N12 ⟨⟨_, rfl⟩, e12⟩ (by decide) (by decide) (Ls := #[.val (.ref o0), .val (.int x1)]) (rest := []) (z := cR))
  show Steps p.tables e below (s₁.setTop (mkF m 0 #[.val (.ref o0), .val (.int x1)] [])) _
  refine XS.aloadN X0.here hx rfl (hb hby d7_0) rfl rfl ?_
  show Steps p.tables e below (s₁.setTop (mkF m 1 #[.val (.ref o0), .val (.int x1)] [(.ref o0)])) _
  refine st1.trans ?_
  show Steps p.tables e below (T1.setTop (mkF m 4 #[.val (.ref o0), .val (.int x1)] [(.int (1 : Int32))])) _
  refine XS.ifNo X1.here hx rfl (hb hby d7_4) rfl ((if0 _ _).trans (feq (by decide : ¬ (1 : Int32) = 0)).1) ?_
  show Steps p.tables e below (T1.setTop (mkF m 7 #[.val (.ref o0), .val (.int x1)] [])) _
  refine XS.aloadN X1.here hx rfl (hb hby d7_7) rfl rfl ?_
  show Steps p.tables e below (T1.setTop (mkF m 8 #[.val (.ref o0), .val (.int x1)] [(.ref o0)])) _
  refine st8 _ ?_
  show Steps p.tables e below (T8.setTop (mkF m 11 #[.val (.ref o0), .val (.int x1)] [(.ref ob)])) _
  refine XS.iloadN X8.here hx rfl (hb hby d7_11) rfl ?_
  show Steps p.tables e below (T8.setTop (mkF m 12 #[.val (.ref o0), .val (.int x1)] [(.int x1), (.ref ob)])) _
  refine st12 _ ?_
  exact kt
theorem d1_0 : decode method_3_code 0 = .ok (.iload_n 0, 1) := by decide +kernel
theorem d1_1 : decode method_3_code 1 = .ok (.bipush 16, 2) := by decide +kernel
theorem d1_3 : decode method_3_code 3 = .ok (.iushr, 1) := by decide +kernel
theorem d1_4 : decode method_3_code 4 = .ok (.iconst 1, 1) := by decide +kernel
theorem d1_5 : decode method_3_code 5 = .ok (.iand, 1) := by decide +kernel
theorem d1_6 : decode method_3_code 6 = .ok (.ifCond .eq 13, 3) := by decide +kernel
theorem d1_9 : decode method_3_code 9 = .ok (.ldc 23, 2) := by decide +kernel
theorem d1_11 : decode method_3_code 11 = .ok (.iload_n 0, 1) := by decide +kernel
theorem d1_12 : decode method_3_code 12 = .ok (.bipush 7, 2) := by decide +kernel
theorem d1_14 : decode method_3_code 14 = .ok (.iand, 1) := by decide +kernel
theorem d1_15 : decode method_3_code 15 = .ok (.invokevirtual 25, 3) := by decide +kernel
theorem d1_18 : decode method_3_code 18 = .ok (.ireturn, 1) := by decide +kernel
theorem d1_19 : decode method_3_code 19 = .ok (.iload_n 0, 1) := by decide +kernel
theorem d1_20 : decode method_3_code 20 = .ok (.i2c, 1) := by decide +kernel
theorem d1_21 : decode method_3_code 21 = .ok (.ireturn, 1) := by decide +kernel
theorem pd7 : parseMethodDescriptor "(I)C" = some ⟨[.int], some .char⟩ := by decide +kernel
def own_EL : List (String × Nat) := [("com/example/lehre/lehre/XsdLexicalNumeralPinLaw", 23)]
/-- the constant's text, as the sheet's word says it -/
def own_tx : String := match tables_1[20]? with
  | some (Jvm.Cond.stringLink _ _ t) => t
  | _ => ""
def own_vs : List Value := own_tx.toList.map (fun c => Value.int (Jvm.Lit.byteI c.toNat.toUInt16))
theorem own_txt : (∀ c ∈ own_tx.toList, c.toNat < 256) ∧ own_tx.toList.map (fun c => Value.int (Jvm.Lit.byteI c.toNat.toUInt16)) = own_vs := ⟨by decide +kernel, rfl⟩
theorem own_l8 : own_tx.toList.length = 8 := by decide +kernel
theorem own_len : own_vs.length = 8 := by rw [own_vs, List.length_map]; exact own_l8
theorem own_wS {Z : State} {a0 : Array Value} (hw : ∀ d ∈ tables_1, d.before a0 Z = true) : ∀ a ∈ Bundle.stringAtoms, a.before a0 Z = true := fun a ha => hw a ((by decide +kernel : ∀ d ∈ Bundle.stringAtoms, d ∈ tables_1) a ha)
theorem own_byt {Z : State} {h : Heap} {b : Addr} {k : ClassId} (V : Arv Z h b k .byte (8 : Int32) own_vs (.int 0)) : own_Byt Z h b := by
  obtain ⟨c, A, -, S, -, H, -⟩ := V
  have S8 : c.slots.size = 8 := S
  refine ⟨c, A, S8, fun i hi => ?_⟩
  have q := H i (by rw [S8]; exact hi)
  obtain ⟨w, hw⟩ : ∃ w : Int32, own_vs.getD i (.int 0) = .int w := by
    simp only [own_vs, List.getD_eq_getElem?_getD, List.getElem?_map]
    cases own_tx.toList[i]? with
    | none => exact ⟨0, rfl⟩
    | some c => exact ⟨_, rfl⟩
  exact ⟨w, by rw [q, hw]⟩
theorem own_x7 (x : Int32) : ¬ (x &&& (7 : Int32)) < 0 ∧ (x &&& (7 : Int32)) < 8 := by
  have h := c_mask x (7 : Int32) 3 (by decide) (by decide)
  rw [Int32.lt_iff_toInt_lt, Int32.lt_iff_toInt_lt, show (0 : Int32).toInt = 0 from rfl, show (8 : Int32).toInt = 8 from rfl, h]
  omega
theorem own_erefl (h : Heap) : Ext h h := ⟨Nat.le_refl _, fun _ _ q => q⟩
theorem own_etrans {h h' h'' : Heap} (A : Ext h h') (B : Ext h' h'') : Ext h h'' := ⟨Nat.le_trans A.1 B.1, fun a c q => B.2 a c (A.2 a c q)⟩
/-- an int comes back, the heap has at most grown -/
def own_grew (h0 : Heap) (v : Option Value) (h : Heap) : Prop := (∃ z : Int32, v = some (.int z)) ∧ Ext h0 h
section OwnW
variable {p : Program} {l : Launch} {e : Env} {R : Room} {s : State} {m : MethodId} {args : Array Value} {below : List Frame} {meth : Method} {c : Code} {T : State} {locs : List Loc} {cells slots : Nat} {n0 kc ks : Nat} {P : Option Value → Heap → Prop}
def own_GoesW (p : Program) (e : Env) (below : List Frame) (s : State) (n0 kc ks : Nat) (P : Option Value → Heap → Prop) (S : State) : Prop :=
  ∃ s₂ o, Steps p.tables e below S s₂ ∧ s₂.status = .running ∧ Ended s₂ below o ∧ ∃ v L, o = .returned v ∧ own_Q P n0 v s₂.heap L ∧ ReturnedEndW s o s₂ L kc ks
theorem own_GoesW.pre {S S' : State} (h : ∀ t, Steps p.tables e below S' t → Steps p.tables e below S t) (g : own_GoesW p e below s n0 kc ks P S') : own_GoesW p e below s n0 kc ks P S := by
  obtain ⟨t, o, st, r⟩ := g
  exact ⟨t, o, h t st, r⟩
theorem own_monoW {o : Outcome} {t : State} {L : List Loc} {k n : Nat} (h : ReturnedEndW s o t L k n) (hc : k ≤ kc) (hs : n ≤ ks) : ReturnedEndW s o t L kc ks := ⟨h.1, h.2.1, h.2.2.1, h.2.2.2.mono hc hs⟩
theorem own_retNW {vm0 : Vm} {k0 : Nat} (X : Stand p l e R (s.setVm vm0) m args below meth c T locs cells slots) (hS : s.Since vm0 k0) (hk : k0 ≤ T.heap.size) (hx : p.tables.exec = Jvm.exec) (hlk : meth.locks = false) {pc : Nat} {Ls : Array Slot} {z : Int32} {t : FieldType} {rest : List Value} (hret : meth.sig.returnType = some t) (ht : t = .boolean ∨ t = .byte ∨ t = .char ∨ t = .short)
    (hd : decode c.code pc = .ok (.ireturn, 1)) (N : Fr n0 locs) (hP : P (some (.int (nar t z))) T.heap) (hc : cells ≤ kc) (hs : slots ≤ ks) : own_GoesW p e below s n0 kc ks P (T.setTop (mkF m pc Ls (.int z :: rest))) := by
  obtain ⟨fs, hr, hrun, hended, hW⟩ := X.leaveW hS hk (v := some (.int (nar t z))) (fun h => by rw [hret] at h; cases h)
  exact ⟨_, _, retN X hx hret ht hd hr, hrun, hended, _, _, rfl, ⟨hP, N⟩, own_monoW hW hc hs⟩
/-- the same, with what the tables book -/
def own_GoesH (p : Program) (e : Env) (below : List Frame) (s Z : State) (n0 kc ks : Nat) (P : Option Value → Heap → Prop) (S : State) : Prop :=
  ∃ s₂ o, Steps p.tables e below S s₂ ∧ s₂.status = .running ∧ Ended s₂ below o ∧ ∃ v L, o = .returned v ∧ own_Q P n0 v s₂.heap L ∧ CHr Z own_EL s.vm s.heap s₂.vm s₂.heap ∧ ReturnedEndW s o s₂ L kc ks
theorem own_GoesH.pre {Z S S' : State} (h : ∀ t, Steps p.tables e below S' t → Steps p.tables e below S t) (g : own_GoesH p e below s Z n0 kc ks P S') : own_GoesH p e below s Z n0 kc ks P S := by
  obtain ⟨t, o, st, r⟩ := g
  exact ⟨t, o, h t st, r⟩
theorem own_retNH {Z : State} {vm0 : Vm} {k0 : Nat} (X : Stand p l e R (s.setVm vm0) m args below meth c T locs cells slots) (hS : s.Since vm0 k0) (hk : k0 ≤ T.heap.size) (hx : p.tables.exec = Jvm.exec) (hlk : meth.locks = false) {pc : Nat} {Ls : Array Slot} {z : Int32} {t : FieldType} {rest : List Value} (hret : meth.sig.returnType = some t) (ht : t = .boolean ∨ t = .byte ∨ t = .char ∨ t = .short)
    (hd : decode c.code pc = .ok (.ireturn, 1)) (N : Fr n0 locs) (hP : P (some (.int (nar t z))) T.heap) (hC : CHr Z own_EL s.vm s.heap T.vm T.heap) (hc : cells ≤ kc) (hs : slots ≤ ks) : own_GoesH p e below s Z n0 kc ks P (T.setTop (mkF m pc Ls (.int z :: rest))) := by
  obtain ⟨fs, hr, hrun, hended, hW⟩ := X.leaveW hS hk (v := some (.int (nar t z))) (fun h => by rw [hret] at h; cases h)
  exact ⟨_, _, retN X hx hret ht hd hr, hrun, hended, _, _, rfl, ⟨hP, N⟩, hC, own_monoW hW hc hs⟩
end OwnW
theorem ef1 (m : MethodId) (x0 : Int32) : entryFrame m #[(.int x0)] 1 = mkF m 0 #[.val (.int x0)] [] := by first | (simp [entryFrame, mkF, argsToLocals, Value.category]; done) | rfl
set_option maxRecDepth 65536 in
set_option maxHeartbeats 40000000 in
theorem rm1 (l : Launch) (Z : State) (a0 : Array Value) (hw : ∀ d ∈ tables_1, d.before a0 Z = true) (ws : List Jvm.Cond) (G1 : Int32) (G3 : Value) (x0 : Int32) (h0 : Heap) (n0 : Nat) (Z0 : n0 ≤ h0.size) (SC : Sta Z Z.heap "java/lang/String" "COMPACT_STRINGS" "Z" (.int G1)) (X00 : Old Z n0 h0) (P5 : ¬ G1 = 0) (SF : Sta Z Z.heap "jdk/internal/util/Preconditions" "SIOOBE_FORMATTER" "Ljava/util/function/BiFunction;" G3) (rG : G3.isRef = true) :
    MetFree l (⟨"com/example/lehre/lehre/XsdLexicalNumeralPinLaw", "pick", "(I)C"⟩ : MethodName) (head1 (Jvm.Cond.code (⟨"com/example/lehre/lehre/XsdLexicalNumeralPinLaw", "pick", "(I)C"⟩ : MethodName) method_3_code 1 (some .char) :: ws) ({ frames := 4, cells := 2, slots := 36, locals := 53 } : Room)) (fun a U => a = #[(.int x0)] ∧ Z.Warmed39 U.vm ∧ U.heap = h0 ∧ CHv Z own_EL U.vm h0) (fun _ _ _ _ _ => True) (fun _ U o U' => ∃ v L, o = .returned v ∧ own_Q (own_grew h0) n0 v U'.heap L ∧ CHr Z own_EL U.vm U.heap U'.vm U'.heap ∧ ReturnedEndW U o U' L ({ frames := 4, cells := 2, slots := 36, locals := 53 } : Room).cells ({ frames := 4, cells := 2, slots := 36, locals := 53 } : Room).slots) := by
  refine MetFree.of_bodySF (plainFor_of_name pn0) hisR ?_
  intro p e s m args below meth c s₁ Bd hml0 hP hK
  obtain ⟨rfl, hZ, hh, HC⟩ := hP
  have hx := Bd.exec
  have hby := Bd.bytes
  have hml : c.maxLocals = 1 := hml0
  have hown : s.vm.findClass "com/example/lehre/lehre/XsdLexicalNumeralPinLaw" = some m.cls := findClass_of_methodNamed Bd.named
  have X0 : Stand p l e ({ frames := 4, cells := 2, slots := 36, locals := 53 } : Room) (s.setVm s.vm) m #[(.int x0)] below meth c s₁ [] 0 0 := by rw [State.setVm_self]; exact Stand.of_body Bd
  have e0 : s₁.heap = h0 := by rw [← hh, Bd.state]; rfl
  have N0 := Fr.nil n0
  have hS0 : s.Since s.vm 0 := (State.WarmedH.refl s).since 0
  have hEL : EW Z a0 own_EL := EW.cons (text := own_tx) (hw _ (List.mem_of_getElem? (i := 20) rfl)) own_txt.1 EW.nil
  have hcH : ∀ {T : State} {cells slots : Nat} (X : Stand p l e ({ frames := 4, cells := 2, slots := 36, locals := 53 } : Room) (s.setVm s.vm) m #[(.int x0)] below meth c T [] cells slots), CHr Z own_EL s.vm h0 T.vm h0 := fun X => CHv.at X hZ hEL HC
  have pre1 : ∀ t, Steps p.tables e below (s₁.setTop (mkF m 6 #[.val (.int x0)] [(.int ((x0.toUInt32 >>> ((16 : Int32) &&& 31).toUInt32).toInt32 &&& (1 : Int32)))])) t → Steps p.tables e below (s₁.setTop (entryFrame m #[(.int x0)] 1)) t := fun t kt => castTop (ef1 m x0) (by
    show Steps p.tables e below (s₁.setTop (mkF m 0 #[.val (.int x0)] [])) _
    refine XS.iloadN X0.here hx rfl (hb hby d1_0) rfl ?_
    show Steps p.tables e below (s₁.setTop (mkF m 1 #[.val (.int x0)] [(.int x0)])) _
    refine XS.bipush X0.here hx rfl (hb hby d1_1) ?_
    show Steps p.tables e below (s₁.setTop (mkF m 3 #[.val (.int x0)] [(.int (16 : Int32)), (.int x0)])) _
    refine XS.iushr X0.here hx rfl (hb hby d1_3) rfl ?_
    show Steps p.tables e below (s₁.setTop (mkF m 4 #[.val (.int x0)] [(.int ((x0.toUInt32 >>> ((16 : Int32) &&& 31).toUInt32).toInt32))])) _
    refine XS.iconst X0.here hx rfl (hb hby d1_4) ?_
    show Steps p.tables e below (s₁.setTop (mkF m 5 #[.val (.int x0)] [(.int (1 : Int32)), (.int ((x0.toUInt32 >>> ((16 : Int32) &&& 31).toUInt32).toInt32))])) _
    refine XS.iand X0.here hx rfl (hb hby d1_5) rfl ?_
    exact kt)
  refine own_GoesH.pre (P := own_grew h0) (n0 := n0) (kc := 2) (ks := 36) pre1 ?_
  by_cases hc : ((x0.toUInt32 >>> ((16 : Int32) &&& 31).toUInt32).toInt32 &&& (1 : Int32)) = (0 : Int32)
  · refine own_GoesH.pre (fun t kt => ?_) (own_retNH X0 hS0 (Nat.zero_le _) hx Bd.notSynchronized Bd.returns (by simp) (hb hby d1_21) N0 (by rw [e0]; exact ⟨⟨_, rfl⟩, own_erefl _⟩) (by rw [e0, hh]; exact hcH X0) (by decide) (by decide) (Ls := #[.val (.int x0)]) (rest := []) (z := (x0.toUInt32.toUInt16.toUInt32.toInt32)))
    show Steps p.tables e below (s₁.setTop (mkF m 6 #[.val (.int x0)] [(.int ((x0.toUInt32 >>> ((16 : Int32) &&& 31).toUInt32).toInt32 &&& (1 : Int32)))])) _
    refine XS.ifYes X0.here hx rfl (pc0 := 6) (pc' := 19) rfl (hb hby d1_6) rfl ((if0 _ _).trans (teq hc).1) (by decide) (by decide) ?_
    show Steps p.tables e below (s₁.setTop (mkF m 19 #[.val (.int x0)] [])) _
    refine XS.iloadN X0.here hx rfl (hb hby d1_19) rfl ?_
    show Steps p.tables e below (s₁.setTop (mkF m 20 #[.val (.int x0)] [(.int x0)])) _
    refine XS.i2c X0.here hx rfl (hb hby d1_20) rfl ?_
    exact kt
  · obtain ⟨oS, T1, h1, k1, oB, kB, X1, e1, E1, hS1, hk1, hZ1, hown1, ES, FC, FV, AV, -, -, hC1, -, -, st1⟩ := ldcCH (s := s) X0 hx hZ hown (text := own_tx) (hw _ (List.mem_of_getElem? (i := 20) rfl)) (own_wS hw) e0 hS0 (Nat.zero_le _) hEL (List.mem_of_getElem? (i := 0) rfl) HC (vs := own_vs) (z := (8 : Int32)) own_txt (by decide) (by rw [own_len]; decide) (g := mkF m 9 #[.val (.int x0)] []) rfl (hb hby d1_9) (n := 32) (by rw [own_l8]; decide) (by decide) (by decide) (by decide)
    have Z1 : n0 ≤ h1.size := Nat.le_trans Z0 E1.1
    have O1 : Old Z n0 h1 := X00.ext E1
    obtain ⟨hlo, hhi⟩ := own_x7 x0
    obtain ⟨cq, kq, qa, qb, qc⟩ := isOf hZ1 e1 ES
    obtain ⟨_, _, ⟨T2, L2, k2, n2⟩, -, X2, ⟨Lc2, hQ2, l2, y2, z2⟩, st2⟩ := X1.virtualBack hx (y := (⟨"java/lang/String", "charAt", "(I)C"⟩ : MethodName)) (z := (⟨"java/lang/String", "charAt", "(I)C"⟩ : MethodName)) hown1 (mvT hZ1 (hw _ (List.mem_of_getElem? (i := 28) rfl))) (mvT hZ1 (hw _ (List.mem_of_getElem? (i := 29) rfl))) (notFace_of_selects (args := #[]) (mvT hZ1 (hw _ (List.mem_of_getElem? (i := 31) rfl)))) (mvT hZ1 (hw _ (List.mem_of_getElem? (i := 31) rfl))) (mvT hZ1 (hw _ (List.mem_of_getElem? (i := 30) rfl))) (by decide) (backOf (W := 0) (rm7 l Z a0 hw [] oS oB (x0 &&& (7 : Int32)) G1 G3 h1 n0 Z1 ES (SC.ext O1.2) FC P5 FV (SF.ext O1.2) rG (own_byt AV) hlo hhi) hZ1 (hw _ (List.mem_of_getElem? (i := 32) rfl)) (hw _ (List.mem_of_getElem? (i := 21) rfl)) (by decide) (by decide)) qa qc (g := mkF m 15 #[.val (.int x0)] [(.int (x0 &&& (7 : Int32))), (.ref oS)]) rfl (by rw [hml]; rfl) (Steps.refl _) (argsL := [(.int (x0 &&& (7 : Int32)))]) (rest := []) (lenOf pd7 rfl) rfl (by show 2 * 0 + _ ≤ _; exact Nat.le_of_eq rfl) (hb hby d1_15) (fun _ _ => ⟨rfl, e1, (by decide : 0 + 2 + 0 ≤ _), (by decide : 0 + (32 + 4) + 0 ≤ _)⟩)
    dsimp only [Pt.U, Pt.locs, Pt.cells, Pt.slots] at X2 l2 y2 z2 st2 hQ2
    subst l2 y2 z2
    obtain ⟨⟨⟨w, rfl⟩, e2⟩, N2q⟩ := hQ2
    have N2 := Fr.app N0 N2q
    have hC2 : CHr Z own_EL s.vm h0 T2.vm h1 := hC1.trans (CHv.at X2 hZ1 hEL hC1.1)
    refine own_GoesH.pre (fun t kt => ?_) (own_retNH X2 hS1 (by rw [e2]; exact hk1) hx Bd.notSynchronized Bd.returns (by simp) (hb hby d1_18) N2 (by rw [e2]; exact ⟨⟨_, rfl⟩, E1⟩) (by rw [e2, hh]; exact hC2) (by decide) (by decide) (Ls := #[.val (.int x0)]) (rest := []) (z := w))
    show Steps p.tables e below (s₁.setTop (mkF m 6 #[.val (.int x0)] [(.int ((x0.toUInt32 >>> ((16 : Int32) &&& 31).toUInt32).toInt32 &&& (1 : Int32)))])) _
    refine XS.ifNo X0.here hx rfl (hb hby d1_6) rfl ((if0 _ _).trans (feq hc).1) ?_
    show Steps p.tables e below (s₁.setTop (mkF m 9 #[.val (.int x0)] [])) _
    refine st1 _ ?_
    show Steps p.tables e below (T1.setTop (mkF m 11 #[.val (.int x0)] [(.ref oS)])) _
    refine XS.iloadN X1.here hx rfl (hb hby d1_11) rfl ?_
    show Steps p.tables e below (T1.setTop (mkF m 12 #[.val (.int x0)] [(.int x0), (.ref oS)])) _
    refine XS.bipush X1.here hx rfl (hb hby d1_12) ?_
    show Steps p.tables e below (T1.setTop (mkF m 14 #[.val (.int x0)] [(.int (7 : Int32)), (.int x0), (.ref oS)])) _
    refine XS.iand X1.here hx rfl (hb hby d1_14) rfl ?_
    show Steps p.tables e below (T1.setTop (mkF m 15 #[.val (.int x0)] [(.int (x0 &&& (7 : Int32))), (.ref oS)])) _
    refine st2.trans ?_
    exact kt
theorem pd8 : parseMethodDescriptor "(IC)I" = some ⟨[.int, .char], some .int⟩ := by decide +kernel
theorem pd9 : parseMethodDescriptor "(ICCCC)I" = some ⟨[.int, .char, .char, .char, .char], some .int⟩ := by decide +kernel
def f0_131 (x0 : Int32) (x1 : Int32) (x2 : Int32) (x3 : Int32) (x4 : Int32) (x5 : Int32) (x6 : Int32) (x7 : Int32) (x8 : Int32) (x9 : Int32) (x10 : Int32) (x11 : Int32) : Int32 := (0 : Int32)
set_option maxRecDepth 65536 in
set_option maxHeartbeats 40000000 in
theorem b0_131 {p : Program} {l : Launch} {e : Env} {s : State} {m : MethodId} {args : Array Value} {below : List Frame} {meth : Method} {c : Code} {T0 : State} {locs : List Loc} {Z : State} {a0 : Array Value} {h0 : Heap} {n0 : Nat} {P : Option Value → Heap → Prop} {vm0 : Vm} {k0 : Nat} (x0 : Int32) (x1 : Int32) (x2 : Int32) (x3 : Int32) (x4 : Int32) (x5 : Int32) (x6 : Int32) (x7 : Int32) (x8 : Int32) (x9 : Int32) (x10 : Int32) (x11 : Int32) (X0 : Stand p l e room_1 (s.setVm vm0) m args below meth c T0 locs 8 144) (hx : p.tables.exec = Jvm.exec) (hZ : Z.Warmed39 (s.setVm vm0).vm) (hw : ∀ d ∈ tables_1, d.before a0 Z = true) (hby : c.code = code) (hml : c.maxLocals = 12) (hown : (s.setVm vm0).vm.findClass "com/example/lehre/lehre/XsdLexicalNumeralPinLaw" = some m.cls) (hret : meth.sig.returnType = some .boolean) (hlk : meth.locks = false) (e0 : T0.heap = h0) (Z0 : n0 ≤ h0.size) (N0 : Fr n0 locs) (hS : s.Since vm0 k0) (hk : k0 ≤ h0.size) (hP : ∀ h' : Heap, P (some (.int (f0_131 x0 x1 x2 x3 x4 x5 x6 x7 x8 x9 x10 x11))) h') :
    own_GoesW p e below s n0 8 1088 P (T0.setTop (mkF m 131 #[.val (.int x0), .val (.int x1), .val (.int x2), .val (.int x3), .val (.int x4), .val (.int x5), .val (.int x6), .val (.int x7), .val (.int x8), .val (.int x9), .val (.int x10), .val (.int x11)] [])) := by
  rw [f0_131] at hP
  refine own_GoesW.pre (fun t kt => ?_) (own_retNW X0 hS (by rw [e0]; exact hk) hx hlk hret (by simp) (hb hby at_132) N0 (hP _) (by decide) (by decide) (Ls := #[.val (.int x0), .val (.int x1), .val (.int x2), .val (.int x3), .val (.int x4), .val (.int x5), .val (.int x6), .val (.int x7), .val (.int x8), .val (.int x9), .val (.int x10), .val (.int x11)]) (rest := []) (z := (0 : Int32)))
  show Steps p.tables e below (T0.setTop (mkF m 131 #[.val (.int x0), .val (.int x1), .val (.int x2), .val (.int x3), .val (.int x4), .val (.int x5), .val (.int x6), .val (.int x7), .val (.int x8), .val (.int x9), .val (.int x10), .val (.int x11)] [])) _
  refine XS.iconst X0.here hx rfl (hb hby at_131) ?_
  exact kt
def f0_127 (x0 : Int32) (x1 : Int32) (x2 : Int32) (x3 : Int32) (x4 : Int32) (x5 : Int32) (x6 : Int32) (x7 : Int32) (x8 : Int32) (x9 : Int32) (x10 : Int32) (x11 : Int32) : Int32 := (1 : Int32)
set_option maxRecDepth 65536 in
set_option maxHeartbeats 40000000 in
theorem b0_127 {p : Program} {l : Launch} {e : Env} {s : State} {m : MethodId} {args : Array Value} {below : List Frame} {meth : Method} {c : Code} {T0 : State} {locs : List Loc} {Z : State} {a0 : Array Value} {h0 : Heap} {n0 : Nat} {P : Option Value → Heap → Prop} {vm0 : Vm} {k0 : Nat} (x0 : Int32) (x1 : Int32) (x2 : Int32) (x3 : Int32) (x4 : Int32) (x5 : Int32) (x6 : Int32) (x7 : Int32) (x8 : Int32) (x9 : Int32) (x10 : Int32) (x11 : Int32) (X0 : Stand p l e room_1 (s.setVm vm0) m args below meth c T0 locs 8 144) (hx : p.tables.exec = Jvm.exec) (hZ : Z.Warmed39 (s.setVm vm0).vm) (hw : ∀ d ∈ tables_1, d.before a0 Z = true) (hby : c.code = code) (hml : c.maxLocals = 12) (hown : (s.setVm vm0).vm.findClass "com/example/lehre/lehre/XsdLexicalNumeralPinLaw" = some m.cls) (hret : meth.sig.returnType = some .boolean) (hlk : meth.locks = false) (e0 : T0.heap = h0) (Z0 : n0 ≤ h0.size) (N0 : Fr n0 locs) (hS : s.Since vm0 k0) (hk : k0 ≤ h0.size) (hP : ∀ h' : Heap, P (some (.int (f0_127 x0 x1 x2 x3 x4 x5 x6 x7 x8 x9 x10 x11))) h') :
    own_GoesW p e below s n0 8 1088 P (T0.setTop (mkF m 127 #[.val (.int x0), .val (.int x1), .val (.int x2), .val (.int x3), .val (.int x4), .val (.int x5), .val (.int x6), .val (.int x7), .val (.int x8), .val (.int x9), .val (.int x10), .val (.int x11)] [])) := by
  rw [f0_127] at hP
  refine own_GoesW.pre (fun t kt => ?_) (own_retNW X0 hS (by rw [e0]; exact hk) hx hlk hret (by simp) (hb hby at_132) N0 (hP _) (by decide) (by decide) (Ls := #[.val (.int x0), .val (.int x1), .val (.int x2), .val (.int x3), .val (.int x4), .val (.int x5), .val (.int x6), .val (.int x7), .val (.int x8), .val (.int x9), .val (.int x10), .val (.int x11)]) (rest := []) (z := (1 : Int32)))
  show Steps p.tables e below (T0.setTop (mkF m 127 #[.val (.int x0), .val (.int x1), .val (.int x2), .val (.int x3), .val (.int x4), .val (.int x5), .val (.int x6), .val (.int x7), .val (.int x8), .val (.int x9), .val (.int x10), .val (.int x11)] [])) _
  refine XS.iconst X0.here hx rfl (hb hby at_127) ?_
  show Steps p.tables e below (T0.setTop (mkF m 128 #[.val (.int x0), .val (.int x1), .val (.int x2), .val (.int x3), .val (.int x4), .val (.int x5), .val (.int x6), .val (.int x7), .val (.int x8), .val (.int x9), .val (.int x10), .val (.int x11)] [(.int (1 : Int32))])) _
  refine XS.goto X0.here hx rfl (pc0 := 128) (pc' := 132) rfl (hb hby at_128) (by decide) (by decide) ?_
  exact kt
def f0_110 (x0 : Int32) (x1 : Int32) (x2 : Int32) (x3 : Int32) (x4 : Int32) (x5 : Int32) (x6 : Int32) (x7 : Int32) (x8 : Int32) (x9 : Int32) (x10 : Int32) (x11 : Int32) : Int32 := if x11 = (f3_0 (4 : Int32) x4 x5 x6 x7) then (f0_127 x0 x1 x2 x3 x4 x5 x6 x7 x8 x9 x10 x11) else (f0_131 x0 x1 x2 x3 x4 x5 x6 x7 x8 x9 x10 x11)
set_option maxRecDepth 65536 in
set_option maxHeartbeats 40000000 in
theorem b0_110 {p : Program} {l : Launch} {e : Env} {s : State} {m : MethodId} {args : Array Value} {below : List Frame} {meth : Method} {c : Code} {T0 : State} {locs : List Loc} {Z : State} {a0 : Array Value} {h0 : Heap} {n0 : Nat} {P : Option Value → Heap → Prop} {vm0 : Vm} {k0 : Nat} (x0 : Int32) (x1 : Int32) (x2 : Int32) (x3 : Int32) (x4 : Int32) (x5 : Int32) (x6 : Int32) (x7 : Int32) (x8 : Int32) (x9 : Int32) (x10 : Int32) (x11 : Int32) (X0 : Stand p l e room_1 (s.setVm vm0) m args below meth c T0 locs 8 144) (hx : p.tables.exec = Jvm.exec) (hZ : Z.Warmed39 (s.setVm vm0).vm) (hw : ∀ d ∈ tables_1, d.before a0 Z = true) (hby : c.code = code) (hml : c.maxLocals = 12) (hown : (s.setVm vm0).vm.findClass "com/example/lehre/lehre/XsdLexicalNumeralPinLaw" = some m.cls) (hret : meth.sig.returnType = some .boolean) (hlk : meth.locks = false) (e0 : T0.heap = h0) (Z0 : n0 ≤ h0.size) (N0 : Fr n0 locs) (hS : s.Since vm0 k0) (hk : k0 ≤ h0.size) (hP : ∀ h' : Heap, P (some (.int (f0_110 x0 x1 x2 x3 x4 x5 x6 x7 x8 x9 x10 x11))) h') :
    own_GoesW p e below s n0 8 1088 P (T0.setTop (mkF m 110 #[.val (.int x0), .val (.int x1), .val (.int x2), .val (.int x3), .val (.int x4), .val (.int x5), .val (.int x6), .val (.int x7), .val (.int x8), .val (.int x9), .val (.int x10), .val (.int x11)] [])) := by
  obtain ⟨_, _, ⟨T121, L121, k121, n121⟩, -, X121, ⟨Lc121, hQ121, l121, y121, z121⟩, st121⟩ := Jvm.LawKit.callS X0 hx (y := (⟨"com/example/lehre/lehre/XsdLexicalNumeralPinLaw", "expected", "(ICCCC)I"⟩ : MethodName)) hown (mvT hZ (hw _ (List.mem_of_getElem? (i := 8) rfl))) (mvT hZ (hw _ (List.mem_of_getElem? (i := 9) rfl))) (mvT hZ (hw _ (List.mem_of_getElem? (i := 2) rfl))) (mvT hZ (hw _ (List.mem_of_getElem? (i := 10) rfl))) (by decide) (backOf (W := 1) (rm3 l Z a0 hw [] (4 : Int32) x4 x5 x6 x7 h0 n0 Z0) hZ (hw _ (List.mem_of_getElem? (i := 10) rfl)) (hw _ (List.mem_of_getElem? (i := 2) rfl)) (by decide) (by decide)) (g := (mkF m 121 #[.val (.int x0), .val (.int x1), .val (.int x2), .val (.int x3), .val (.int x4), .val (.int x5), .val (.int x6), .val (.int x7), .val (.int x8), .val (.int x9), .val (.int x10), .val (.int x11)] [(.int x7), (.int x6), (.int x5), (.int x4), (.int (4 : Int32)), (.int x11)])) rfl (by rw [hml]; rfl) (argsL := [(.int (4 : Int32)), (.int x4), (.int x5), (.int x6), (.int x7)]) (rest := [(.int x11)]) (lenOf pd9 rfl) rfl (by show 2 * 0 + _ ≤ _; exact Nat.le_of_eq rfl) (hb hby at_121) (fun _ _ => ⟨rfl, e0, (by decide : 8 + 0 ≤ _), (by decide : 144 + 0 ≤ _)⟩)
  dsimp only [Pt.U, Pt.locs, Pt.cells, Pt.slots] at X121 l121 y121 z121 st121 hQ121
  subst l121 y121 z121
  obtain ⟨⟨rfl, e121⟩, N121q⟩ := hQ121
  have N121 := Fr.app N0 N121q
  have pre1 : ∀ t, Steps p.tables e below (T121.setTop (mkF m 124 #[.val (.int x0), .val (.int x1), .val (.int x2), .val (.int x3), .val (.int x4), .val (.int x5), .val (.int x6), .val (.int x7), .val (.int x8), .val (.int x9), .val (.int x10), .val (.int x11)] [(.int (f3_0 (4 : Int32) x4 x5 x6 x7)), (.int x11)])) t → Steps p.tables e below (T0.setTop (mkF m 110 #[.val (.int x0), .val (.int x1), .val (.int x2), .val (.int x3), .val (.int x4), .val (.int x5), .val (.int x6), .val (.int x7), .val (.int x8), .val (.int x9), .val (.int x10), .val (.int x11)] [])) t := fun t kt => by
    show Steps p.tables e below (T0.setTop (mkF m 110 #[.val (.int x0), .val (.int x1), .val (.int x2), .val (.int x3), .val (.int x4), .val (.int x5), .val (.int x6), .val (.int x7), .val (.int x8), .val (.int x9), .val (.int x10), .val (.int x11)] [])) _
    refine XS.iload X0.here hx rfl (hb hby at_110) rfl ?_
    show Steps p.tables e below (T0.setTop (mkF m 112 #[.val (.int x0), .val (.int x1), .val (.int x2), .val (.int x3), .val (.int x4), .val (.int x5), .val (.int x6), .val (.int x7), .val (.int x8), .val (.int x9), .val (.int x10), .val (.int x11)] [(.int x11)])) _
    refine XS.iconst X0.here hx rfl (hb hby at_112) ?_
    show Steps p.tables e below (T0.setTop (mkF m 113 #[.val (.int x0), .val (.int x1), .val (.int x2), .val (.int x3), .val (.int x4), .val (.int x5), .val (.int x6), .val (.int x7), .val (.int x8), .val (.int x9), .val (.int x10), .val (.int x11)] [(.int (4 : Int32)), (.int x11)])) _
    refine XS.iload X0.here hx rfl (hb hby at_113) rfl ?_
    show Steps p.tables e below (T0.setTop (mkF m 115 #[.val (.int x0), .val (.int x1), .val (.int x2), .val (.int x3), .val (.int x4), .val (.int x5), .val (.int x6), .val (.int x7), .val (.int x8), .val (.int x9), .val (.int x10), .val (.int x11)] [(.int x4), (.int (4 : Int32)), (.int x11)])) _
    refine XS.iload X0.here hx rfl (hb hby at_115) rfl ?_
    show Steps p.tables e below (T0.setTop (mkF m 117 #[.val (.int x0), .val (.int x1), .val (.int x2), .val (.int x3), .val (.int x4), .val (.int x5), .val (.int x6), .val (.int x7), .val (.int x8), .val (.int x9), .val (.int x10), .val (.int x11)] [(.int x5), (.int x4), (.int (4 : Int32)), (.int x11)])) _
    refine XS.iload X0.here hx rfl (hb hby at_117) rfl ?_
    show Steps p.tables e below (T0.setTop (mkF m 119 #[.val (.int x0), .val (.int x1), .val (.int x2), .val (.int x3), .val (.int x4), .val (.int x5), .val (.int x6), .val (.int x7), .val (.int x8), .val (.int x9), .val (.int x10), .val (.int x11)] [(.int x6), (.int x5), (.int x4), (.int (4 : Int32)), (.int x11)])) _
    refine XS.iload X0.here hx rfl (hb hby at_119) rfl ?_
    show Steps p.tables e below (T0.setTop (mkF m 121 #[.val (.int x0), .val (.int x1), .val (.int x2), .val (.int x3), .val (.int x4), .val (.int x5), .val (.int x6), .val (.int x7), .val (.int x8), .val (.int x9), .val (.int x10), .val (.int x11)] [(.int x7), (.int x6), (.int x5), (.int x4), (.int (4 : Int32)), (.int x11)])) _
    refine st121 _ ?_
    exact kt
  refine own_GoesW.pre pre1 ?_
  by_cases hc : x11 = (f3_0 (4 : Int32) x4 x5 x6 x7)
  · rw [f0_110, if_pos hc] at hP
    refine own_GoesW.pre (fun t kt => ?_) (b0_127 x0 x1 x2 x3 x4 x5 x6 x7 x8 x9 x10 x11 X121 hx hZ hw hby hml hown hret hlk e121 Z0 N121 hS hk hP)
    show Steps p.tables e below (T121.setTop (mkF m 124 #[.val (.int x0), .val (.int x1), .val (.int x2), .val (.int x3), .val (.int x4), .val (.int x5), .val (.int x6), .val (.int x7), .val (.int x8), .val (.int x9), .val (.int x10), .val (.int x11)] [(.int (f3_0 (4 : Int32) x4 x5 x6 x7)), (.int x11)])) _
    refine XS.icmpNo X121.here hx rfl (hb hby at_124) rfl (teq hc).2 ?_
    exact kt
  · rw [f0_110, if_neg hc] at hP
    refine own_GoesW.pre (fun t kt => ?_) (b0_131 x0 x1 x2 x3 x4 x5 x6 x7 x8 x9 x10 x11 X121 hx hZ hw hby hml hown hret hlk e121 Z0 N121 hS hk hP)
    show Steps p.tables e below (T121.setTop (mkF m 124 #[.val (.int x0), .val (.int x1), .val (.int x2), .val (.int x3), .val (.int x4), .val (.int x5), .val (.int x6), .val (.int x7), .val (.int x8), .val (.int x9), .val (.int x10), .val (.int x11)] [(.int (f3_0 (4 : Int32) x4 x5 x6 x7)), (.int x11)])) _
    refine XS.icmpYes X121.here hx rfl (pc0 := 124) (pc' := 131) rfl (hb hby at_124) rfl (feq hc).2 (by decide) (by decide) ?_
    exact kt
def f0_93 (x0 : Int32) (x1 : Int32) (x2 : Int32) (x3 : Int32) (x4 : Int32) (x5 : Int32) (x6 : Int32) (x7 : Int32) (x8 : Int32) (x9 : Int32) (x10 : Int32) (x11 : Int32) : Int32 := if x10 = (f3_0 (3 : Int32) x4 x5 x6 x7) then (f0_110 x0 x1 x2 x3 x4 x5 x6 x7 x8 x9 x10 x11) else (f0_131 x0 x1 x2 x3 x4 x5 x6 x7 x8 x9 x10 x11)
set_option maxRecDepth 65536 in
set_option maxHeartbeats 40000000 in
theorem b0_93 {p : Program} {l : Launch} {e : Env} {s : State} {m : MethodId} {args : Array Value} {below : List Frame} {meth : Method} {c : Code} {T0 : State} {locs : List Loc} {Z : State} {a0 : Array Value} {h0 : Heap} {n0 : Nat} {P : Option Value → Heap → Prop} {vm0 : Vm} {k0 : Nat} (x0 : Int32) (x1 : Int32) (x2 : Int32) (x3 : Int32) (x4 : Int32) (x5 : Int32) (x6 : Int32) (x7 : Int32) (x8 : Int32) (x9 : Int32) (x10 : Int32) (x11 : Int32) (X0 : Stand p l e room_1 (s.setVm vm0) m args below meth c T0 locs 8 144) (hx : p.tables.exec = Jvm.exec) (hZ : Z.Warmed39 (s.setVm vm0).vm) (hw : ∀ d ∈ tables_1, d.before a0 Z = true) (hby : c.code = code) (hml : c.maxLocals = 12) (hown : (s.setVm vm0).vm.findClass "com/example/lehre/lehre/XsdLexicalNumeralPinLaw" = some m.cls) (hret : meth.sig.returnType = some .boolean) (hlk : meth.locks = false) (e0 : T0.heap = h0) (Z0 : n0 ≤ h0.size) (N0 : Fr n0 locs) (hS : s.Since vm0 k0) (hk : k0 ≤ h0.size) (hP : ∀ h' : Heap, P (some (.int (f0_93 x0 x1 x2 x3 x4 x5 x6 x7 x8 x9 x10 x11))) h') :
    own_GoesW p e below s n0 8 1088 P (T0.setTop (mkF m 93 #[.val (.int x0), .val (.int x1), .val (.int x2), .val (.int x3), .val (.int x4), .val (.int x5), .val (.int x6), .val (.int x7), .val (.int x8), .val (.int x9), .val (.int x10), .val (.int x11)] [])) := by
  obtain ⟨_, _, ⟨T104, L104, k104, n104⟩, -, X104, ⟨Lc104, hQ104, l104, y104, z104⟩, st104⟩ := Jvm.LawKit.callS X0 hx (y := (⟨"com/example/lehre/lehre/XsdLexicalNumeralPinLaw", "expected", "(ICCCC)I"⟩ : MethodName)) hown (mvT hZ (hw _ (List.mem_of_getElem? (i := 8) rfl))) (mvT hZ (hw _ (List.mem_of_getElem? (i := 9) rfl))) (mvT hZ (hw _ (List.mem_of_getElem? (i := 2) rfl))) (mvT hZ (hw _ (List.mem_of_getElem? (i := 10) rfl))) (by decide) (backOf (W := 1) (rm3 l Z a0 hw [] (3 : Int32) x4 x5 x6 x7 h0 n0 Z0) hZ (hw _ (List.mem_of_getElem? (i := 10) rfl)) (hw _ (List.mem_of_getElem? (i := 2) rfl)) (by decide) (by decide)) (g := (mkF m 104 #[.val (.int x0), .val (.int x1), .val (.int x2), .val (.int x3), .val (.int x4), .val (.int x5), .val (.int x6), .val (.int x7), .val (.int x8), .val (.int x9), .val (.int x10), .val (.int x11)] [(.int x7), (.int x6), (.int x5), (.int x4), (.int (3 : Int32)), (.int x10)])) rfl (by rw [hml]; rfl) (argsL := [(.int (3 : Int32)), (.int x4), (.int x5), (.int x6), (.int x7)]) (rest := [(.int x10)]) (lenOf pd9 rfl) rfl (by show 2 * 0 + _ ≤ _; exact Nat.le_of_eq rfl) (hb hby at_104) (fun _ _ => ⟨rfl, e0, (by decide : 8 + 0 ≤ _), (by decide : 144 + 0 ≤ _)⟩)
  dsimp only [Pt.U, Pt.locs, Pt.cells, Pt.slots] at X104 l104 y104 z104 st104 hQ104
  subst l104 y104 z104
  obtain ⟨⟨rfl, e104⟩, N104q⟩ := hQ104
  have N104 := Fr.app N0 N104q
  have pre1 : ∀ t, Steps p.tables e below (T104.setTop (mkF m 107 #[.val (.int x0), .val (.int x1), .val (.int x2), .val (.int x3), .val (.int x4), .val (.int x5), .val (.int x6), .val (.int x7), .val (.int x8), .val (.int x9), .val (.int x10), .val (.int x11)] [(.int (f3_0 (3 : Int32) x4 x5 x6 x7)), (.int x10)])) t → Steps p.tables e below (T0.setTop (mkF m 93 #[.val (.int x0), .val (.int x1), .val (.int x2), .val (.int x3), .val (.int x4), .val (.int x5), .val (.int x6), .val (.int x7), .val (.int x8), .val (.int x9), .val (.int x10), .val (.int x11)] [])) t := fun t kt => by
    show Steps p.tables e below (T0.setTop (mkF m 93 #[.val (.int x0), .val (.int x1), .val (.int x2), .val (.int x3), .val (.int x4), .val (.int x5), .val (.int x6), .val (.int x7), .val (.int x8), .val (.int x9), .val (.int x10), .val (.int x11)] [])) _
    refine XS.iload X0.here hx rfl (hb hby at_93) rfl ?_
    show Steps p.tables e below (T0.setTop (mkF m 95 #[.val (.int x0), .val (.int x1), .val (.int x2), .val (.int x3), .val (.int x4), .val (.int x5), .val (.int x6), .val (.int x7), .val (.int x8), .val (.int x9), .val (.int x10), .val (.int x11)] [(.int x10)])) _
    refine XS.iconst X0.here hx rfl (hb hby at_95) ?_
    show Steps p.tables e below (T0.setTop (mkF m 96 #[.val (.int x0), .val (.int x1), .val (.int x2), .val (.int x3), .val (.int x4), .val (.int x5), .val (.int x6), .val (.int x7), .val (.int x8), .val (.int x9), .val (.int x10), .val (.int x11)] [(.int (3 : Int32)), (.int x10)])) _
    refine XS.iload X0.here hx rfl (hb hby at_96) rfl ?_
    show Steps p.tables e below (T0.setTop (mkF m 98 #[.val (.int x0), .val (.int x1), .val (.int x2), .val (.int x3), .val (.int x4), .val (.int x5), .val (.int x6), .val (.int x7), .val (.int x8), .val (.int x9), .val (.int x10), .val (.int x11)] [(.int x4), (.int (3 : Int32)), (.int x10)])) _
    refine XS.iload X0.here hx rfl (hb hby at_98) rfl ?_
    show Steps p.tables e below (T0.setTop (mkF m 100 #[.val (.int x0), .val (.int x1), .val (.int x2), .val (.int x3), .val (.int x4), .val (.int x5), .val (.int x6), .val (.int x7), .val (.int x8), .val (.int x9), .val (.int x10), .val (.int x11)] [(.int x5), (.int x4), (.int (3 : Int32)), (.int x10)])) _
    refine XS.iload X0.here hx rfl (hb hby at_100) rfl ?_
    show Steps p.tables e below (T0.setTop (mkF m 102 #[.val (.int x0), .val (.int x1), .val (.int x2), .val (.int x3), .val (.int x4), .val (.int x5), .val (.int x6), .val (.int x7), .val (.int x8), .val (.int x9), .val (.int x10), .val (.int x11)] [(.int x6), (.int x5), (.int x4), (.int (3 : Int32)), (.int x10)])) _
    refine XS.iload X0.here hx rfl (hb hby at_102) rfl ?_
    show Steps p.tables e below (T0.setTop (mkF m 104 #[.val (.int x0), .val (.int x1), .val (.int x2), .val (.int x3), .val (.int x4), .val (.int x5), .val (.int x6), .val (.int x7), .val (.int x8), .val (.int x9), .val (.int x10), .val (.int x11)] [(.int x7), (.int x6), (.int x5), (.int x4), (.int (3 : Int32)), (.int x10)])) _
    refine st104 _ ?_
    exact kt
  refine own_GoesW.pre pre1 ?_
  by_cases hc : x10 = (f3_0 (3 : Int32) x4 x5 x6 x7)
  · rw [f0_93, if_pos hc] at hP
    refine own_GoesW.pre (fun t kt => ?_) (b0_110 x0 x1 x2 x3 x4 x5 x6 x7 x8 x9 x10 x11 X104 hx hZ hw hby hml hown hret hlk e104 Z0 N104 hS hk hP)
    show Steps p.tables e below (T104.setTop (mkF m 107 #[.val (.int x0), .val (.int x1), .val (.int x2), .val (.int x3), .val (.int x4), .val (.int x5), .val (.int x6), .val (.int x7), .val (.int x8), .val (.int x9), .val (.int x10), .val (.int x11)] [(.int (f3_0 (3 : Int32) x4 x5 x6 x7)), (.int x10)])) _
    refine XS.icmpNo X104.here hx rfl (hb hby at_107) rfl (teq hc).2 ?_
    exact kt
  · rw [f0_93, if_neg hc] at hP
    refine own_GoesW.pre (fun t kt => ?_) (b0_131 x0 x1 x2 x3 x4 x5 x6 x7 x8 x9 x10 x11 X104 hx hZ hw hby hml hown hret hlk e104 Z0 N104 hS hk hP)
    show Steps p.tables e below (T104.setTop (mkF m 107 #[.val (.int x0), .val (.int x1), .val (.int x2), .val (.int x3), .val (.int x4), .val (.int x5), .val (.int x6), .val (.int x7), .val (.int x8), .val (.int x9), .val (.int x10), .val (.int x11)] [(.int (f3_0 (3 : Int32) x4 x5 x6 x7)), (.int x10)])) _
    refine XS.icmpYes X104.here hx rfl (pc0 := 107) (pc' := 131) rfl (hb hby at_107) rfl (feq hc).2 (by decide) (by decide) ?_
    exact kt
def f0_76 (x0 : Int32) (x1 : Int32) (x2 : Int32) (x3 : Int32) (x4 : Int32) (x5 : Int32) (x6 : Int32) (x7 : Int32) (x8 : Int32) (x9 : Int32) (x10 : Int32) (x11 : Int32) : Int32 := if x9 = (f3_0 (2 : Int32) x4 x5 x6 x7) then (f0_93 x0 x1 x2 x3 x4 x5 x6 x7 x8 x9 x10 x11) else (f0_131 x0 x1 x2 x3 x4 x5 x6 x7 x8 x9 x10 x11)
set_option maxRecDepth 65536 in
set_option maxHeartbeats 40000000 in
theorem b0_76 {p : Program} {l : Launch} {e : Env} {s : State} {m : MethodId} {args : Array Value} {below : List Frame} {meth : Method} {c : Code} {T0 : State} {locs : List Loc} {Z : State} {a0 : Array Value} {h0 : Heap} {n0 : Nat} {P : Option Value → Heap → Prop} {vm0 : Vm} {k0 : Nat} (x0 : Int32) (x1 : Int32) (x2 : Int32) (x3 : Int32) (x4 : Int32) (x5 : Int32) (x6 : Int32) (x7 : Int32) (x8 : Int32) (x9 : Int32) (x10 : Int32) (x11 : Int32) (X0 : Stand p l e room_1 (s.setVm vm0) m args below meth c T0 locs 8 144) (hx : p.tables.exec = Jvm.exec) (hZ : Z.Warmed39 (s.setVm vm0).vm) (hw : ∀ d ∈ tables_1, d.before a0 Z = true) (hby : c.code = code) (hml : c.maxLocals = 12) (hown : (s.setVm vm0).vm.findClass "com/example/lehre/lehre/XsdLexicalNumeralPinLaw" = some m.cls) (hret : meth.sig.returnType = some .boolean) (hlk : meth.locks = false) (e0 : T0.heap = h0) (Z0 : n0 ≤ h0.size) (N0 : Fr n0 locs) (hS : s.Since vm0 k0) (hk : k0 ≤ h0.size) (hP : ∀ h' : Heap, P (some (.int (f0_76 x0 x1 x2 x3 x4 x5 x6 x7 x8 x9 x10 x11))) h') :
    own_GoesW p e below s n0 8 1088 P (T0.setTop (mkF m 76 #[.val (.int x0), .val (.int x1), .val (.int x2), .val (.int x3), .val (.int x4), .val (.int x5), .val (.int x6), .val (.int x7), .val (.int x8), .val (.int x9), .val (.int x10), .val (.int x11)] [])) := by
  obtain ⟨_, _, ⟨T87, L87, k87, n87⟩, -, X87, ⟨Lc87, hQ87, l87, y87, z87⟩, st87⟩ := Jvm.LawKit.callS X0 hx (y := (⟨"com/example/lehre/lehre/XsdLexicalNumeralPinLaw", "expected", "(ICCCC)I"⟩ : MethodName)) hown (mvT hZ (hw _ (List.mem_of_getElem? (i := 8) rfl))) (mvT hZ (hw _ (List.mem_of_getElem? (i := 9) rfl))) (mvT hZ (hw _ (List.mem_of_getElem? (i := 2) rfl))) (mvT hZ (hw _ (List.mem_of_getElem? (i := 10) rfl))) (by decide) (backOf (W := 1) (rm3 l Z a0 hw [] (2 : Int32) x4 x5 x6 x7 h0 n0 Z0) hZ (hw _ (List.mem_of_getElem? (i := 10) rfl)) (hw _ (List.mem_of_getElem? (i := 2) rfl)) (by decide) (by decide)) (g := (mkF m 87 #[.val (.int x0), .val (.int x1), .val (.int x2), .val (.int x3), .val (.int x4), .val (.int x5), .val (.int x6), .val (.int x7), .val (.int x8), .val (.int x9), .val (.int x10), .val (.int x11)] [(.int x7), (.int x6), (.int x5), (.int x4), (.int (2 : Int32)), (.int x9)])) rfl (by rw [hml]; rfl) (argsL := [(.int (2 : Int32)), (.int x4), (.int x5), (.int x6), (.int x7)]) (rest := [(.int x9)]) (lenOf pd9 rfl) rfl (by show 2 * 0 + _ ≤ _; exact Nat.le_of_eq rfl) (hb hby at_87) (fun _ _ => ⟨rfl, e0, (by decide : 8 + 0 ≤ _), (by decide : 144 + 0 ≤ _)⟩)
  dsimp only [Pt.U, Pt.locs, Pt.cells, Pt.slots] at X87 l87 y87 z87 st87 hQ87
  subst l87 y87 z87
  obtain ⟨⟨rfl, e87⟩, N87q⟩ := hQ87
  have N87 := Fr.app N0 N87q
  have pre1 : ∀ t, Steps p.tables e below (T87.setTop (mkF m 90 #[.val (.int x0), .val (.int x1), .val (.int x2), .val (.int x3), .val (.int x4), .val (.int x5), .val (.int x6), .val (.int x7), .val (.int x8), .val (.int x9), .val (.int x10), .val (.int x11)] [(.int (f3_0 (2 : Int32) x4 x5 x6 x7)), (.int x9)])) t → Steps p.tables e below (T0.setTop (mkF m 76 #[.val (.int x0), .val (.int x1), .val (.int x2), .val (.int x3), .val (.int x4), .val (.int x5), .val (.int x6), .val (.int x7), .val (.int x8), .val (.int x9), .val (.int x10), .val (.int x11)] [])) t := fun t kt => by
    show Steps p.tables e below (T0.setTop (mkF m 76 #[.val (.int x0), .val (.int x1), .val (.int x2), .val (.int x3), .val (.int x4), .val (.int x5), .val (.int x6), .val (.int x7), .val (.int x8), .val (.int x9), .val (.int x10), .val (.int x11)] [])) _
    refine XS.iload X0.here hx rfl (hb hby at_76) rfl ?_
    show Steps p.tables e below (T0.setTop (mkF m 78 #[.val (.int x0), .val (.int x1), .val (.int x2), .val (.int x3), .val (.int x4), .val (.int x5), .val (.int x6), .val (.int x7), .val (.int x8), .val (.int x9), .val (.int x10), .val (.int x11)] [(.int x9)])) _
    refine XS.iconst X0.here hx rfl (hb hby at_78) ?_
    show Steps p.tables e below (T0.setTop (mkF m 79 #[.val (.int x0), .val (.int x1), .val (.int x2), .val (.int x3), .val (.int x4), .val (.int x5), .val (.int x6), .val (.int x7), .val (.int x8), .val (.int x9), .val (.int x10), .val (.int x11)] [(.int (2 : Int32)), (.int x9)])) _
    refine XS.iload X0.here hx rfl (hb hby at_79) rfl ?_
    show Steps p.tables e below (T0.setTop (mkF m 81 #[.val (.int x0), .val (.int x1), .val (.int x2), .val (.int x3), .val (.int x4), .val (.int x5), .val (.int x6), .val (.int x7), .val (.int x8), .val (.int x9), .val (.int x10), .val (.int x11)] [(.int x4), (.int (2 : Int32)), (.int x9)])) _
    refine XS.iload X0.here hx rfl (hb hby at_81) rfl ?_
    show Steps p.tables e below (T0.setTop (mkF m 83 #[.val (.int x0), .val (.int x1), .val (.int x2), .val (.int x3), .val (.int x4), .val (.int x5), .val (.int x6), .val (.int x7), .val (.int x8), .val (.int x9), .val (.int x10), .val (.int x11)] [(.int x5), (.int x4), (.int (2 : Int32)), (.int x9)])) _
    refine XS.iload X0.here hx rfl (hb hby at_83) rfl ?_
    show Steps p.tables e below (T0.setTop (mkF m 85 #[.val (.int x0), .val (.int x1), .val (.int x2), .val (.int x3), .val (.int x4), .val (.int x5), .val (.int x6), .val (.int x7), .val (.int x8), .val (.int x9), .val (.int x10), .val (.int x11)] [(.int x6), (.int x5), (.int x4), (.int (2 : Int32)), (.int x9)])) _
    refine XS.iload X0.here hx rfl (hb hby at_85) rfl ?_
    show Steps p.tables e below (T0.setTop (mkF m 87 #[.val (.int x0), .val (.int x1), .val (.int x2), .val (.int x3), .val (.int x4), .val (.int x5), .val (.int x6), .val (.int x7), .val (.int x8), .val (.int x9), .val (.int x10), .val (.int x11)] [(.int x7), (.int x6), (.int x5), (.int x4), (.int (2 : Int32)), (.int x9)])) _
    refine st87 _ ?_
    exact kt
  refine own_GoesW.pre pre1 ?_
  by_cases hc : x9 = (f3_0 (2 : Int32) x4 x5 x6 x7)
  · rw [f0_76, if_pos hc] at hP
    refine own_GoesW.pre (fun t kt => ?_) (b0_93 x0 x1 x2 x3 x4 x5 x6 x7 x8 x9 x10 x11 X87 hx hZ hw hby hml hown hret hlk e87 Z0 N87 hS hk hP)
    show Steps p.tables e below (T87.setTop (mkF m 90 #[.val (.int x0), .val (.int x1), .val (.int x2), .val (.int x3), .val (.int x4), .val (.int x5), .val (.int x6), .val (.int x7), .val (.int x8), .val (.int x9), .val (.int x10), .val (.int x11)] [(.int (f3_0 (2 : Int32) x4 x5 x6 x7)), (.int x9)])) _
    refine XS.icmpNo X87.here hx rfl (hb hby at_90) rfl (teq hc).2 ?_
    exact kt
  · rw [f0_76, if_neg hc] at hP
    refine own_GoesW.pre (fun t kt => ?_) (b0_131 x0 x1 x2 x3 x4 x5 x6 x7 x8 x9 x10 x11 X87 hx hZ hw hby hml hown hret hlk e87 Z0 N87 hS hk hP)
    show Steps p.tables e below (T87.setTop (mkF m 90 #[.val (.int x0), .val (.int x1), .val (.int x2), .val (.int x3), .val (.int x4), .val (.int x5), .val (.int x6), .val (.int x7), .val (.int x8), .val (.int x9), .val (.int x10), .val (.int x11)] [(.int (f3_0 (2 : Int32) x4 x5 x6 x7)), (.int x9)])) _
    refine XS.icmpYes X87.here hx rfl (pc0 := 90) (pc' := 131) rfl (hb hby at_90) rfl (feq hc).2 (by decide) (by decide) ?_
    exact kt
def f0_24 (x0 : Int32) (x1 : Int32) (x2 : Int32) (x3 : Int32) (x4 : Int32) (x5 : Int32) (x6 : Int32) (x7 : Int32) : Int32 := if (f2_0 (0 : Int32) x4) = (f3_0 (1 : Int32) x4 x5 x6 x7) then (f0_76 x0 x1 x2 x3 x4 x5 x6 x7 (f2_0 (0 : Int32) x4) (f2_0 (f2_0 (0 : Int32) x4) x5) (f2_0 (f2_0 (f2_0 (0 : Int32) x4) x5) x6) (f2_0 (f2_0 (f2_0 (f2_0 (0 : Int32) x4) x5) x6) x7)) else (f0_131 x0 x1 x2 x3 x4 x5 x6 x7 (f2_0 (0 : Int32) x4) (f2_0 (f2_0 (0 : Int32) x4) x5) (f2_0 (f2_0 (f2_0 (0 : Int32) x4) x5) x6) (f2_0 (f2_0 (f2_0 (f2_0 (0 : Int32) x4) x5) x6) x7))
set_option maxRecDepth 65536 in
set_option maxHeartbeats 40000000 in
theorem b0_24 {p : Program} {l : Launch} {e : Env} {s : State} {m : MethodId} {args : Array Value} {below : List Frame} {meth : Method} {c : Code} {T0 : State} {locs : List Loc} {Z : State} {a0 : Array Value} {h0 : Heap} {n0 : Nat} {P : Option Value → Heap → Prop} {vm0 : Vm} {k0 : Nat} (x0 : Int32) (x1 : Int32) (x2 : Int32) (x3 : Int32) (x4 : Int32) (x5 : Int32) (x6 : Int32) (x7 : Int32) (X0 : Stand p l e room_1 (s.setVm vm0) m args below meth c T0 locs 8 144) (hx : p.tables.exec = Jvm.exec) (hZ : Z.Warmed39 (s.setVm vm0).vm) (hw : ∀ d ∈ tables_1, d.before a0 Z = true) (hby : c.code = code) (hml : c.maxLocals = 12) (hown : (s.setVm vm0).vm.findClass "com/example/lehre/lehre/XsdLexicalNumeralPinLaw" = some m.cls) (hret : meth.sig.returnType = some .boolean) (hlk : meth.locks = false) (e0 : T0.heap = h0) (Z0 : n0 ≤ h0.size) (N0 : Fr n0 locs) (hS : s.Since vm0 k0) (hk : k0 ≤ h0.size) (hP : ∀ h' : Heap, P (some (.int (f0_24 x0 x1 x2 x3 x4 x5 x6 x7))) h') :
    own_GoesW p e below s n0 8 1088 P (T0.setTop (mkF m 24 #[.val (.int x0), .val (.int x1), .val (.int x2), .val (.int x3), .val (.int x4), .val (.int x5), .val (.int x6), .val (.int x7), .unset, .unset, .unset, .unset] [])) := by
  obtain ⟨_, _, ⟨T27, L27, k27, n27⟩, -, X27, ⟨Lc27, hQ27, l27, y27, z27⟩, st27⟩ := Jvm.LawKit.callS X0 hx (y := (⟨"com/example/lehre/lehre/XsdLexical", "numeral", "(IC)I"⟩ : MethodName)) hown (mvT hZ (hw _ (List.mem_of_getElem? (i := 4) rfl))) (mvT hZ (hw _ (List.mem_of_getElem? (i := 5) rfl))) (mvT hZ (hw _ (List.mem_of_getElem? (i := 6) rfl))) (mvT hZ (hw _ (List.mem_of_getElem? (i := 7) rfl))) (by decide) (backOf (W := 0) (rm2 l Z a0 hw [] (0 : Int32) x4 h0 n0 Z0) hZ (hw _ (List.mem_of_getElem? (i := 7) rfl)) (hw _ (List.mem_of_getElem? (i := 6) rfl)) (by decide) (by decide)) (g := (mkF m 27 #[.val (.int x0), .val (.int x1), .val (.int x2), .val (.int x3), .val (.int x4), .val (.int x5), .val (.int x6), .val (.int x7), .unset, .unset, .unset, .unset] [(.int x4), (.int (0 : Int32))])) rfl (by rw [hml]; rfl) (argsL := [(.int (0 : Int32)), (.int x4)]) (rest := []) (lenOf pd8 rfl) rfl (by show 2 * 0 + _ ≤ _; exact Nat.le_of_eq rfl) (hb hby at_27) (fun _ _ => ⟨rfl, e0, (by decide : 8 + 0 ≤ _), (by decide : 144 + 0 ≤ _)⟩)
  dsimp only [Pt.U, Pt.locs, Pt.cells, Pt.slots] at X27 l27 y27 z27 st27 hQ27
  subst l27 y27 z27
  obtain ⟨⟨rfl, e27⟩, N27q⟩ := hQ27
  have N27 := Fr.app N0 N27q
  obtain ⟨_, _, ⟨T36, L36, k36, n36⟩, -, X36, ⟨Lc36, hQ36, l36, y36, z36⟩, st36⟩ := Jvm.LawKit.callS X27 hx (y := (⟨"com/example/lehre/lehre/XsdLexical", "numeral", "(IC)I"⟩ : MethodName)) hown (mvT hZ (hw _ (List.mem_of_getElem? (i := 4) rfl))) (mvT hZ (hw _ (List.mem_of_getElem? (i := 5) rfl))) (mvT hZ (hw _ (List.mem_of_getElem? (i := 6) rfl))) (mvT hZ (hw _ (List.mem_of_getElem? (i := 7) rfl))) (by decide) (backOf (W := 0) (rm2 l Z a0 hw [] (f2_0 (0 : Int32) x4) x5 h0 n0 Z0) hZ (hw _ (List.mem_of_getElem? (i := 7) rfl)) (hw _ (List.mem_of_getElem? (i := 6) rfl)) (by decide) (by decide)) (g := (mkF m 36 #[.val (.int x0), .val (.int x1), .val (.int x2), .val (.int x3), .val (.int x4), .val (.int x5), .val (.int x6), .val (.int x7), .val (.int (f2_0 (0 : Int32) x4)), .unset, .unset, .unset] [(.int x5), (.int (f2_0 (0 : Int32) x4))])) rfl (by rw [hml]; rfl) (argsL := [(.int (f2_0 (0 : Int32) x4)), (.int x5)]) (rest := []) (lenOf pd8 rfl) rfl (by show 2 * 0 + _ ≤ _; exact Nat.le_of_eq rfl) (hb hby at_36) (fun _ _ => ⟨rfl, e27, (by decide : 8 + 0 ≤ _), (by decide : 144 + 0 ≤ _)⟩)
  dsimp only [Pt.U, Pt.locs, Pt.cells, Pt.slots] at X36 l36 y36 z36 st36 hQ36
  subst l36 y36 z36
  obtain ⟨⟨rfl, e36⟩, N36q⟩ := hQ36
  have N36 := Fr.app N27 N36q
  obtain ⟨_, _, ⟨T45, L45, k45, n45⟩, -, X45, ⟨Lc45, hQ45, l45, y45, z45⟩, st45⟩ := Jvm.LawKit.callS X36 hx (y := (⟨"com/example/lehre/lehre/XsdLexical", "numeral", "(IC)I"⟩ : MethodName)) hown (mvT hZ (hw _ (List.mem_of_getElem? (i := 4) rfl))) (mvT hZ (hw _ (List.mem_of_getElem? (i := 5) rfl))) (mvT hZ (hw _ (List.mem_of_getElem? (i := 6) rfl))) (mvT hZ (hw _ (List.mem_of_getElem? (i := 7) rfl))) (by decide) (backOf (W := 0) (rm2 l Z a0 hw [] (f2_0 (f2_0 (0 : Int32) x4) x5) x6 h0 n0 Z0) hZ (hw _ (List.mem_of_getElem? (i := 7) rfl)) (hw _ (List.mem_of_getElem? (i := 6) rfl)) (by decide) (by decide)) (g := (mkF m 45 #[.val (.int x0), .val (.int x1), .val (.int x2), .val (.int x3), .val (.int x4), .val (.int x5), .val (.int x6), .val (.int x7), .val (.int (f2_0 (0 : Int32) x4)), .val (.int (f2_0 (f2_0 (0 : Int32) x4) x5)), .unset, .unset] [(.int x6), (.int (f2_0 (f2_0 (0 : Int32) x4) x5))])) rfl (by rw [hml]; rfl) (argsL := [(.int (f2_0 (f2_0 (0 : Int32) x4) x5)), (.int x6)]) (rest := []) (lenOf pd8 rfl) rfl (by show 2 * 0 + _ ≤ _; exact Nat.le_of_eq rfl) (hb hby at_45) (fun _ _ => ⟨rfl, e36, (by decide : 8 + 0 ≤ _), (by decide : 144 + 0 ≤ _)⟩)
  dsimp only [Pt.U, Pt.locs, Pt.cells, Pt.slots] at X45 l45 y45 z45 st45 hQ45
  subst l45 y45 z45
  obtain ⟨⟨rfl, e45⟩, N45q⟩ := hQ45
  have N45 := Fr.app N36 N45q
  obtain ⟨_, _, ⟨T54, L54, k54, n54⟩, -, X54, ⟨Lc54, hQ54, l54, y54, z54⟩, st54⟩ := Jvm.LawKit.callS X45 hx (y := (⟨"com/example/lehre/lehre/XsdLexical", "numeral", "(IC)I"⟩ : MethodName)) hown (mvT hZ (hw _ (List.mem_of_getElem? (i := 4) rfl))) (mvT hZ (hw _ (List.mem_of_getElem? (i := 5) rfl))) (mvT hZ (hw _ (List.mem_of_getElem? (i := 6) rfl))) (mvT hZ (hw _ (List.mem_of_getElem? (i := 7) rfl))) (by decide) (backOf (W := 0) (rm2 l Z a0 hw [] (f2_0 (f2_0 (f2_0 (0 : Int32) x4) x5) x6) x7 h0 n0 Z0) hZ (hw _ (List.mem_of_getElem? (i := 7) rfl)) (hw _ (List.mem_of_getElem? (i := 6) rfl)) (by decide) (by decide)) (g := (mkF m 54 #[.val (.int x0), .val (.int x1), .val (.int x2), .val (.int x3), .val (.int x4), .val (.int x5), .val (.int x6), .val (.int x7), .val (.int (f2_0 (0 : Int32) x4)), .val (.int (f2_0 (f2_0 (0 : Int32) x4) x5)), .val (.int (f2_0 (f2_0 (f2_0 (0 : Int32) x4) x5) x6)), .unset] [(.int x7), (.int (f2_0 (f2_0 (f2_0 (0 : Int32) x4) x5) x6))])) rfl (by rw [hml]; rfl) (argsL := [(.int (f2_0 (f2_0 (f2_0 (0 : Int32) x4) x5) x6)), (.int x7)]) (rest := []) (lenOf pd8 rfl) rfl (by show 2 * 0 + _ ≤ _; exact Nat.le_of_eq rfl) (hb hby at_54) (fun _ _ => ⟨rfl, e45, (by decide : 8 + 0 ≤ _), (by decide : 144 + 0 ≤ _)⟩)
  dsimp only [Pt.U, Pt.locs, Pt.cells, Pt.slots] at X54 l54 y54 z54 st54 hQ54
  subst l54 y54 z54
  obtain ⟨⟨rfl, e54⟩, N54q⟩ := hQ54
  have N54 := Fr.app N45 N54q
  obtain ⟨_, _, ⟨T70, L70, k70, n70⟩, -, X70, ⟨Lc70, hQ70, l70, y70, z70⟩, st70⟩ := Jvm.LawKit.callS X54 hx (y := (⟨"com/example/lehre/lehre/XsdLexicalNumeralPinLaw", "expected", "(ICCCC)I"⟩ : MethodName)) hown (mvT hZ (hw _ (List.mem_of_getElem? (i := 8) rfl))) (mvT hZ (hw _ (List.mem_of_getElem? (i := 9) rfl))) (mvT hZ (hw _ (List.mem_of_getElem? (i := 2) rfl))) (mvT hZ (hw _ (List.mem_of_getElem? (i := 10) rfl))) (by decide) (backOf (W := 1) (rm3 l Z a0 hw [] (1 : Int32) x4 x5 x6 x7 h0 n0 Z0) hZ (hw _ (List.mem_of_getElem? (i := 10) rfl)) (hw _ (List.mem_of_getElem? (i := 2) rfl)) (by decide) (by decide)) (g := (mkF m 70 #[.val (.int x0), .val (.int x1), .val (.int x2), .val (.int x3), .val (.int x4), .val (.int x5), .val (.int x6), .val (.int x7), .val (.int (f2_0 (0 : Int32) x4)), .val (.int (f2_0 (f2_0 (0 : Int32) x4) x5)), .val (.int (f2_0 (f2_0 (f2_0 (0 : Int32) x4) x5) x6)), .val (.int (f2_0 (f2_0 (f2_0 (f2_0 (0 : Int32) x4) x5) x6) x7))] [(.int x7), (.int x6), (.int x5), (.int x4), (.int (1 : Int32)), (.int (f2_0 (0 : Int32) x4))])) rfl (by rw [hml]; rfl) (argsL := [(.int (1 : Int32)), (.int x4), (.int x5), (.int x6), (.int x7)]) (rest := [(.int (f2_0 (0 : Int32) x4))]) (lenOf pd9 rfl) rfl (by show 2 * 0 + _ ≤ _; exact Nat.le_of_eq rfl) (hb hby at_70) (fun _ _ => ⟨rfl, e54, (by decide : 8 + 0 ≤ _), (by decide : 144 + 0 ≤ _)⟩)
  dsimp only [Pt.U, Pt.locs, Pt.cells, Pt.slots] at X70 l70 y70 z70 st70 hQ70
  subst l70 y70 z70
  obtain ⟨⟨rfl, e70⟩, N70q⟩ := hQ70
  have N70 := Fr.app N54 N70q
  have pre1 : ∀ t, Steps p.tables e below (T70.setTop (mkF m 73 #[.val (.int x0), .val (.int x1), .val (.int x2), .val (.int x3), .val (.int x4), .val (.int x5), .val (.int x6), .val (.int x7), .val (.int (f2_0 (0 : Int32) x4)), .val (.int (f2_0 (f2_0 (0 : Int32) x4) x5)), .val (.int (f2_0 (f2_0 (f2_0 (0 : Int32) x4) x5) x6)), .val (.int (f2_0 (f2_0 (f2_0 (f2_0 (0 : Int32) x4) x5) x6) x7))] [(.int (f3_0 (1 : Int32) x4 x5 x6 x7)), (.int (f2_0 (0 : Int32) x4))])) t → Steps p.tables e below (T0.setTop (mkF m 24 #[.val (.int x0), .val (.int x1), .val (.int x2), .val (.int x3), .val (.int x4), .val (.int x5), .val (.int x6), .val (.int x7), .unset, .unset, .unset, .unset] [])) t := fun t kt => by
    show Steps p.tables e below (T0.setTop (mkF m 24 #[.val (.int x0), .val (.int x1), .val (.int x2), .val (.int x3), .val (.int x4), .val (.int x5), .val (.int x6), .val (.int x7), .unset, .unset, .unset, .unset] [])) _
    refine XS.iconst X0.here hx rfl (hb hby at_24) ?_
    show Steps p.tables e below (T0.setTop (mkF m 25 #[.val (.int x0), .val (.int x1), .val (.int x2), .val (.int x3), .val (.int x4), .val (.int x5), .val (.int x6), .val (.int x7), .unset, .unset, .unset, .unset] [(.int (0 : Int32))])) _
    refine XS.iload X0.here hx rfl (hb hby at_25) rfl ?_
    show Steps p.tables e below (T0.setTop (mkF m 27 #[.val (.int x0), .val (.int x1), .val (.int x2), .val (.int x3), .val (.int x4), .val (.int x5), .val (.int x6), .val (.int x7), .unset, .unset, .unset, .unset] [(.int x4), (.int (0 : Int32))])) _
    refine st27 _ ?_
    show Steps p.tables e below (T27.setTop (mkF m 30 #[.val (.int x0), .val (.int x1), .val (.int x2), .val (.int x3), .val (.int x4), .val (.int x5), .val (.int x6), .val (.int x7), .unset, .unset, .unset, .unset] [(.int (f2_0 (0 : Int32) x4))])) _
    refine XS.istore X27.here hx rfl (hb hby at_30) rfl (l' := #[.val (.int x0), .val (.int x1), .val (.int x2), .val (.int x3), .val (.int x4), .val (.int x5), .val (.int x6), .val (.int x7), .val (.int (f2_0 (0 : Int32) x4)), .unset, .unset, .unset]) rfl ?_
    show Steps p.tables e below (T27.setTop (mkF m 32 #[.val (.int x0), .val (.int x1), .val (.int x2), .val (.int x3), .val (.int x4), .val (.int x5), .val (.int x6), .val (.int x7), .val (.int (f2_0 (0 : Int32) x4)), .unset, .unset, .unset] [])) _
    refine XS.iload X27.here hx rfl (hb hby at_32) rfl ?_
    show Steps p.tables e below (T27.setTop (mkF m 34 #[.val (.int x0), .val (.int x1), .val (.int x2), .val (.int x3), .val (.int x4), .val (.int x5), .val (.int x6), .val (.int x7), .val (.int (f2_0 (0 : Int32) x4)), .unset, .unset, .unset] [(.int (f2_0 (0 : Int32) x4))])) _
    refine XS.iload X27.here hx rfl (hb hby at_34) rfl ?_
    show Steps p.tables e below (T27.setTop (mkF m 36 #[.val (.int x0), .val (.int x1), .val (.int x2), .val (.int x3), .val (.int x4), .val (.int x5), .val (.int x6), .val (.int x7), .val (.int (f2_0 (0 : Int32) x4)), .unset, .unset, .unset] [(.int x5), (.int (f2_0 (0 : Int32) x4))])) _
    refine st36 _ ?_
    show Steps p.tables e below (T36.setTop (mkF m 39 #[.val (.int x0), .val (.int x1), .val (.int x2), .val (.int x3), .val (.int x4), .val (.int x5), .val (.int x6), .val (.int x7), .val (.int (f2_0 (0 : Int32) x4)), .unset, .unset, .unset] [(.int (f2_0 (f2_0 (0 : Int32) x4) x5))])) _
    refine XS.istore X36.here hx rfl (hb hby at_39) rfl (l' := #[.val (.int x0), .val (.int x1), .val (.int x2), .val (.int x3), .val (.int x4), .val (.int x5), .val (.int x6), .val (.int x7), .val (.int (f2_0 (0 : Int32) x4)), .val (.int (f2_0 (f2_0 (0 : Int32) x4) x5)), .unset, .unset]) rfl ?_
    show Steps p.tables e below (T36.setTop (mkF m 41 #[.val (.int x0), .val (.int x1), .val (.int x2), .val (.int x3), .val (.int x4), .val (.int x5), .val (.int x6), .val (.int x7), .val (.int (f2_0 (0 : Int32) x4)), .val (.int (f2_0 (f2_0 (0 : Int32) x4) x5)), .unset, .unset] [])) _
    refine XS.iload X36.here hx rfl (hb hby at_41) rfl ?_
    show Steps p.tables e below (T36.setTop (mkF m 43 #[.val (.int x0), .val (.int x1), .val (.int x2), .val (.int x3), .val (.int x4), .val (.int x5), .val (.int x6), .val (.int x7), .val (.int (f2_0 (0 : Int32) x4)), .val (.int (f2_0 (f2_0 (0 : Int32) x4) x5)), .unset, .unset] [(.int (f2_0 (f2_0 (0 : Int32) x4) x5))])) _
    refine XS.iload X36.here hx rfl (hb hby at_43) rfl ?_
    show Steps p.tables e below (T36.setTop (mkF m 45 #[.val (.int x0), .val (.int x1), .val (.int x2), .val (.int x3), .val (.int x4), .val (.int x5), .val (.int x6), .val (.int x7), .val (.int (f2_0 (0 : Int32) x4)), .val (.int (f2_0 (f2_0 (0 : Int32) x4) x5)), .unset, .unset] [(.int x6), (.int (f2_0 (f2_0 (0 : Int32) x4) x5))])) _
    refine st45 _ ?_
    show Steps p.tables e below (T45.setTop (mkF m 48 #[.val (.int x0), .val (.int x1), .val (.int x2), .val (.int x3), .val (.int x4), .val (.int x5), .val (.int x6), .val (.int x7), .val (.int (f2_0 (0 : Int32) x4)), .val (.int (f2_0 (f2_0 (0 : Int32) x4) x5)), .unset, .unset] [(.int (f2_0 (f2_0 (f2_0 (0 : Int32) x4) x5) x6))])) _
    refine XS.istore X45.here hx rfl (hb hby at_48) rfl (l' := #[.val (.int x0), .val (.int x1), .val (.int x2), .val (.int x3), .val (.int x4), .val (.int x5), .val (.int x6), .val (.int x7), .val (.int (f2_0 (0 : Int32) x4)), .val (.int (f2_0 (f2_0 (0 : Int32) x4) x5)), .val (.int (f2_0 (f2_0 (f2_0 (0 : Int32) x4) x5) x6)), .unset]) rfl ?_
    show Steps p.tables e below (T45.setTop (mkF m 50 #[.val (.int x0), .val (.int x1), .val (.int x2), .val (.int x3), .val (.int x4), .val (.int x5), .val (.int x6), .val (.int x7), .val (.int (f2_0 (0 : Int32) x4)), .val (.int (f2_0 (f2_0 (0 : Int32) x4) x5)), .val (.int (f2_0 (f2_0 (f2_0 (0 : Int32) x4) x5) x6)), .unset] [])) _
    refine XS.iload X45.here hx rfl (hb hby at_50) rfl ?_
    show Steps p.tables e below (T45.setTop (mkF m 52 #[.val (.int x0), .val (.int x1), .val (.int x2), .val (.int x3), .val (.int x4), .val (.int x5), .val (.int x6), .val (.int x7), .val (.int (f2_0 (0 : Int32) x4)), .val (.int (f2_0 (f2_0 (0 : Int32) x4) x5)), .val (.int (f2_0 (f2_0 (f2_0 (0 : Int32) x4) x5) x6)), .unset] [(.int (f2_0 (f2_0 (f2_0 (0 : Int32) x4) x5) x6))])) _
    refine XS.iload X45.here hx rfl (hb hby at_52) rfl ?_
    show Steps p.tables e below (T45.setTop (mkF m 54 #[.val (.int x0), .val (.int x1), .val (.int x2), .val (.int x3), .val (.int x4), .val (.int x5), .val (.int x6), .val (.int x7), .val (.int (f2_0 (0 : Int32) x4)), .val (.int (f2_0 (f2_0 (0 : Int32) x4) x5)), .val (.int (f2_0 (f2_0 (f2_0 (0 : Int32) x4) x5) x6)), .unset] [(.int x7), (.int (f2_0 (f2_0 (f2_0 (0 : Int32) x4) x5) x6))])) _
    refine st54 _ ?_
    show Steps p.tables e below (T54.setTop (mkF m 57 #[.val (.int x0), .val (.int x1), .val (.int x2), .val (.int x3), .val (.int x4), .val (.int x5), .val (.int x6), .val (.int x7), .val (.int (f2_0 (0 : Int32) x4)), .val (.int (f2_0 (f2_0 (0 : Int32) x4) x5)), .val (.int (f2_0 (f2_0 (f2_0 (0 : Int32) x4) x5) x6)), .unset] [(.int (f2_0 (f2_0 (f2_0 (f2_0 (0 : Int32) x4) x5) x6) x7))])) _
    refine XS.istore X54.here hx rfl (hb hby at_57) rfl (l' := #[.val (.int x0), .val (.int x1), .val (.int x2), .val (.int x3), .val (.int x4), .val (.int x5), .val (.int x6), .val (.int x7), .val (.int (f2_0 (0 : Int32) x4)), .val (.int (f2_0 (f2_0 (0 : Int32) x4) x5)), .val (.int (f2_0 (f2_0 (f2_0 (0 : Int32) x4) x5) x6)), .val (.int (f2_0 (f2_0 (f2_0 (f2_0 (0 : Int32) x4) x5) x6) x7))]) rfl ?_
    show Steps p.tables e below (T54.setTop (mkF m 59 #[.val (.int x0), .val (.int x1), .val (.int x2), .val (.int x3), .val (.int x4), .val (.int x5), .val (.int x6), .val (.int x7), .val (.int (f2_0 (0 : Int32) x4)), .val (.int (f2_0 (f2_0 (0 : Int32) x4) x5)), .val (.int (f2_0 (f2_0 (f2_0 (0 : Int32) x4) x5) x6)), .val (.int (f2_0 (f2_0 (f2_0 (f2_0 (0 : Int32) x4) x5) x6) x7))] [])) _
    refine XS.iload X54.here hx rfl (hb hby at_59) rfl ?_
    show Steps p.tables e below (T54.setTop (mkF m 61 #[.val (.int x0), .val (.int x1), .val (.int x2), .val (.int x3), .val (.int x4), .val (.int x5), .val (.int x6), .val (.int x7), .val (.int (f2_0 (0 : Int32) x4)), .val (.int (f2_0 (f2_0 (0 : Int32) x4) x5)), .val (.int (f2_0 (f2_0 (f2_0 (0 : Int32) x4) x5) x6)), .val (.int (f2_0 (f2_0 (f2_0 (f2_0 (0 : Int32) x4) x5) x6) x7))] [(.int (f2_0 (0 : Int32) x4))])) _
    refine XS.iconst X54.here hx rfl (hb hby at_61) ?_
    show Steps p.tables e below (T54.setTop (mkF m 62 #[.val (.int x0), .val (.int x1), .val (.int x2), .val (.int x3), .val (.int x4), .val (.int x5), .val (.int x6), .val (.int x7), .val (.int (f2_0 (0 : Int32) x4)), .val (.int (f2_0 (f2_0 (0 : Int32) x4) x5)), .val (.int (f2_0 (f2_0 (f2_0 (0 : Int32) x4) x5) x6)), .val (.int (f2_0 (f2_0 (f2_0 (f2_0 (0 : Int32) x4) x5) x6) x7))] [(.int (1 : Int32)), (.int (f2_0 (0 : Int32) x4))])) _
    refine XS.iload X54.here hx rfl (hb hby at_62) rfl ?_
    show Steps p.tables e below (T54.setTop (mkF m 64 #[.val (.int x0), .val (.int x1), .val (.int x2), .val (.int x3), .val (.int x4), .val (.int x5), .val (.int x6), .val (.int x7), .val (.int (f2_0 (0 : Int32) x4)), .val (.int (f2_0 (f2_0 (0 : Int32) x4) x5)), .val (.int (f2_0 (f2_0 (f2_0 (0 : Int32) x4) x5) x6)), .val (.int (f2_0 (f2_0 (f2_0 (f2_0 (0 : Int32) x4) x5) x6) x7))] [(.int x4), (.int (1 : Int32)), (.int (f2_0 (0 : Int32) x4))])) _
    refine XS.iload X54.here hx rfl (hb hby at_64) rfl ?_
    show Steps p.tables e below (T54.setTop (mkF m 66 #[.val (.int x0), .val (.int x1), .val (.int x2), .val (.int x3), .val (.int x4), .val (.int x5), .val (.int x6), .val (.int x7), .val (.int (f2_0 (0 : Int32) x4)), .val (.int (f2_0 (f2_0 (0 : Int32) x4) x5)), .val (.int (f2_0 (f2_0 (f2_0 (0 : Int32) x4) x5) x6)), .val (.int (f2_0 (f2_0 (f2_0 (f2_0 (0 : Int32) x4) x5) x6) x7))] [(.int x5), (.int x4), (.int (1 : Int32)), (.int (f2_0 (0 : Int32) x4))])) _
    refine XS.iload X54.here hx rfl (hb hby at_66) rfl ?_
    show Steps p.tables e below (T54.setTop (mkF m 68 #[.val (.int x0), .val (.int x1), .val (.int x2), .val (.int x3), .val (.int x4), .val (.int x5), .val (.int x6), .val (.int x7), .val (.int (f2_0 (0 : Int32) x4)), .val (.int (f2_0 (f2_0 (0 : Int32) x4) x5)), .val (.int (f2_0 (f2_0 (f2_0 (0 : Int32) x4) x5) x6)), .val (.int (f2_0 (f2_0 (f2_0 (f2_0 (0 : Int32) x4) x5) x6) x7))] [(.int x6), (.int x5), (.int x4), (.int (1 : Int32)), (.int (f2_0 (0 : Int32) x4))])) _
    refine XS.iload X54.here hx rfl (hb hby at_68) rfl ?_
    show Steps p.tables e below (T54.setTop (mkF m 70 #[.val (.int x0), .val (.int x1), .val (.int x2), .val (.int x3), .val (.int x4), .val (.int x5), .val (.int x6), .val (.int x7), .val (.int (f2_0 (0 : Int32) x4)), .val (.int (f2_0 (f2_0 (0 : Int32) x4) x5)), .val (.int (f2_0 (f2_0 (f2_0 (0 : Int32) x4) x5) x6)), .val (.int (f2_0 (f2_0 (f2_0 (f2_0 (0 : Int32) x4) x5) x6) x7))] [(.int x7), (.int x6), (.int x5), (.int x4), (.int (1 : Int32)), (.int (f2_0 (0 : Int32) x4))])) _
    refine st70 _ ?_
    exact kt
  refine own_GoesW.pre pre1 ?_
  by_cases hc : (f2_0 (0 : Int32) x4) = (f3_0 (1 : Int32) x4 x5 x6 x7)
  · rw [f0_24, if_pos hc] at hP
    refine own_GoesW.pre (fun t kt => ?_) (b0_76 x0 x1 x2 x3 x4 x5 x6 x7 (f2_0 (0 : Int32) x4) (f2_0 (f2_0 (0 : Int32) x4) x5) (f2_0 (f2_0 (f2_0 (0 : Int32) x4) x5) x6) (f2_0 (f2_0 (f2_0 (f2_0 (0 : Int32) x4) x5) x6) x7) X70 hx hZ hw hby hml hown hret hlk e70 Z0 N70 hS hk hP)
    show Steps p.tables e below (T70.setTop (mkF m 73 #[.val (.int x0), .val (.int x1), .val (.int x2), .val (.int x3), .val (.int x4), .val (.int x5), .val (.int x6), .val (.int x7), .val (.int (f2_0 (0 : Int32) x4)), .val (.int (f2_0 (f2_0 (0 : Int32) x4) x5)), .val (.int (f2_0 (f2_0 (f2_0 (0 : Int32) x4) x5) x6)), .val (.int (f2_0 (f2_0 (f2_0 (f2_0 (0 : Int32) x4) x5) x6) x7))] [(.int (f3_0 (1 : Int32) x4 x5 x6 x7)), (.int (f2_0 (0 : Int32) x4))])) _
    refine XS.icmpNo X70.here hx rfl (hb hby at_73) rfl (teq hc).2 ?_
    exact kt
  · rw [f0_24, if_neg hc] at hP
    refine own_GoesW.pre (fun t kt => ?_) (b0_131 x0 x1 x2 x3 x4 x5 x6 x7 (f2_0 (0 : Int32) x4) (f2_0 (f2_0 (0 : Int32) x4) x5) (f2_0 (f2_0 (f2_0 (0 : Int32) x4) x5) x6) (f2_0 (f2_0 (f2_0 (f2_0 (0 : Int32) x4) x5) x6) x7) X70 hx hZ hw hby hml hown hret hlk e70 Z0 N70 hS hk hP)
    show Steps p.tables e below (T70.setTop (mkF m 73 #[.val (.int x0), .val (.int x1), .val (.int x2), .val (.int x3), .val (.int x4), .val (.int x5), .val (.int x6), .val (.int x7), .val (.int (f2_0 (0 : Int32) x4)), .val (.int (f2_0 (f2_0 (0 : Int32) x4) x5)), .val (.int (f2_0 (f2_0 (f2_0 (0 : Int32) x4) x5) x6)), .val (.int (f2_0 (f2_0 (f2_0 (f2_0 (0 : Int32) x4) x5) x6) x7))] [(.int (f3_0 (1 : Int32) x4 x5 x6 x7)), (.int (f2_0 (0 : Int32) x4))])) _
    refine XS.icmpYes X70.here hx rfl (pc0 := 73) (pc' := 131) rfl (hb hby at_73) rfl (feq hc).2 (by decide) (by decide) ?_
    exact kt
theorem ef0 (m : MethodId) (x0 : Int32) (x1 : Int32) (x2 : Int32) (x3 : Int32) : entryFrame m #[(.int x0), (.int x1), (.int x2), (.int x3)] maxLocals = (mkF m 0 #[.val (.int x0), .val (.int x1), .val (.int x2), .val (.int x3), .unset, .unset, .unset, .unset, .unset, .unset, .unset, .unset] []) := by first | (simp [entryFrame, mkF, argsToLocals, Value.category, maxLocals]; done) | rfl
set_option maxRecDepth 65536 in
set_option maxHeartbeats 40000000 in
theorem rm0 (l : Launch) (Z : State) (a0 : Array Value) (hw : ∀ d ∈ tables_1, d.before a0 Z = true) (ws : List Jvm.Cond) (G1 : Int32) (G3 : Value) (x0 : Int32) (x1 : Int32) (x2 : Int32) (x3 : Int32) (h0 : Heap) (n0 : Nat) (Z0 : n0 ≤ h0.size) (HS1 : Sta Z Z.heap "java/lang/String" "COMPACT_STRINGS" "Z" (.int G1)) (X00 : Old Z n0 h0) (P5 : ¬ G1 = 0) (HS3 : Sta Z Z.heap "jdk/internal/util/Preconditions" "SIOOBE_FORMATTER" "Ljava/util/function/BiFunction;" G3) (rG : G3.isRef = true) (hEL : EW Z a0 own_EL) (hone : ∀ c0 c1 c2 c3 : Int32, f0_24 x0 x1 x2 x3 c0 c1 c2 c3 = 1) :
    MetFree l x (head1 (Jvm.Cond.code x code maxLocals ret :: ws) room_1) (fun a U => a = #[(.int x0), (.int x1), (.int x2), (.int x3)] ∧ Z.Warmed39 U.vm ∧ U.heap = h0 ∧ CHv Z own_EL U.vm h0) (fun _ _ _ _ _ => True) (fun _ U o U' => ∃ v L, o = .returned v ∧ own_Q own_one n0 v U'.heap L ∧ ReturnedEndW U o U' L 8 1088) := by
  refine MetFree.of_bodySF (plainFor_of_name pn0) hisR ?_
  intro p e s m args below meth c s₁ Bd hml0 hP hK
  obtain ⟨rfl, hZ, hh, HC⟩ := hP
  have hx := Bd.exec
  have hby := Bd.bytes
  have hml : c.maxLocals = 12 := hml0
  have hown : s.vm.findClass "com/example/lehre/lehre/XsdLexicalNumeralPinLaw" = some m.cls := findClass_of_methodNamed Bd.named
  have X0 : Stand p l e room_1 (s.setVm s.vm) m #[(.int x0), (.int x1), (.int x2), (.int x3)] below meth c s₁ [] 0 0 := by rw [State.setVm_self]; exact Stand.of_body Bd
  have e0 : s₁.heap = h0 := by rw [← hh, Bd.state]; rfl
  have N0 := Fr.nil n0
  have hZ0 : Z.Warmed39 (s.setVm s.vm).vm := hZ
  have hown0 : (s.setVm s.vm).vm.findClass "com/example/lehre/lehre/XsdLexicalNumeralPinLaw" = some m.cls := hown
  have hS0 : s.Since s.vm 0 := (State.WarmedH.refl s).since 0
  have hk0 : 0 ≤ h0.size := Nat.zero_le _
  obtain ⟨_, _, ⟨T1, L1, k1, n1⟩, -, Y1, R1, Gr1, ⟨Lc1, hQ1, l1, y1, z1, D1⟩, st1⟩ := callSS X0 hx (y := (⟨"com/example/lehre/lehre/XsdLexicalNumeralPinLaw", "pick", "(I)C"⟩ : MethodName)) hown0 (mvT hZ0 (hw _ (List.mem_of_getElem? (i := 0) rfl))) (mvT hZ0 (hw _ (List.mem_of_getElem? (i := 1) rfl))) (mvT hZ0 (hw _ (List.mem_of_getElem? (i := 2) rfl))) (mvT hZ0 (hw _ (List.mem_of_getElem? (i := 3) rfl))) (by decide) (backOfSH (s := s) (W := 0) (rm1 l Z a0 hw [] G1 G3 x0 h0 n0 Z0 HS1 (X00.ext (own_erefl _)) P5 HS3 rG) hZ0 (hw _ (List.mem_of_getElem? (i := 3) rfl)) (hw _ (List.mem_of_getElem? (i := 2) rfl)) (by decide) (by decide) hEL HC) (g := (mkF m 1 #[.val (.int x0), .val (.int x1), .val (.int x2), .val (.int x3), .unset, .unset, .unset, .unset, .unset, .unset, .unset, .unset] [(.int x0)])) rfl (by rw [hml]; rfl) (argsL := [(.int x0)]) (rest := []) (lenOf pd7 rfl) rfl (by show 2 * 0 + _ ≤ _; exact Nat.le_of_eq rfl) (hb hby at_1) (fun _ _ => ⟨rfl, e0, (by decide : 0 + 2 ≤ _), (by decide : 0 + 36 ≤ _)⟩)
  dsimp only [Pt.U, Pt.locs, Pt.cells, Pt.slots] at Y1 R1 Gr1 l1 y1 z1 st1 hQ1 D1
  subst l1 y1 z1
  obtain ⟨⟨⟨c0, rfl⟩, Ex1⟩, N1q⟩ := hQ1
  have N1 := Fr.app N0 N1q
  obtain ⟨X1, hS1, hZ1, hown1⟩ := rebS hS0 (by rw [e0]; exact hk0) Y1 R1 Gr1 hZ0 hown0
  have Z1 : n0 ≤ T1.heap.size := Nat.le_trans Z0 Ex1.1
  have E1 := Ex1
  obtain ⟨_, _, ⟨T7, L7, k7, n7⟩, -, Y7, R7, Gr7, ⟨Lc7, hQ7, l7, y7, z7, D7⟩, st7⟩ := callSS X1 hx (y := (⟨"com/example/lehre/lehre/XsdLexicalNumeralPinLaw", "pick", "(I)C"⟩ : MethodName)) hown1 (mvT hZ1 (hw _ (List.mem_of_getElem? (i := 0) rfl))) (mvT hZ1 (hw _ (List.mem_of_getElem? (i := 1) rfl))) (mvT hZ1 (hw _ (List.mem_of_getElem? (i := 2) rfl))) (mvT hZ1 (hw _ (List.mem_of_getElem? (i := 3) rfl))) (by decide) (backOfSH (s := s) (W := 0) (rm1 l Z a0 hw [] G1 G3 x1 T1.heap n0 Z1 HS1 (X00.ext E1) P5 HS3 rG) hZ1 (hw _ (List.mem_of_getElem? (i := 3) rfl)) (hw _ (List.mem_of_getElem? (i := 2) rfl)) (by decide) (by decide) hEL D1.1) (g := (mkF m 7 #[.val (.int x0), .val (.int x1), .val (.int x2), .val (.int x3), .val (.int c0), .unset, .unset, .unset, .unset, .unset, .unset, .unset] [(.int x1)])) rfl (by rw [hml]; rfl) (argsL := [(.int x1)]) (rest := []) (lenOf pd7 rfl) rfl (by show 2 * 0 + _ ≤ _; exact Nat.le_of_eq rfl) (hb hby at_7) (fun _ _ => ⟨rfl, (rfl : T1.heap = T1.heap), (by decide : 2 + 2 ≤ _), (by decide : 36 + 36 ≤ _)⟩)
  dsimp only [Pt.U, Pt.locs, Pt.cells, Pt.slots] at Y7 R7 Gr7 l7 y7 z7 st7 hQ7 D7
  subst l7 y7 z7
  obtain ⟨⟨⟨c1, rfl⟩, Ex7⟩, N7q⟩ := hQ7
  have N7 := Fr.app N1 N7q
  obtain ⟨X7, hS7, hZ7, hown7⟩ := rebS hS1 (by rw [(rfl : T1.heap = T1.heap)]; exact (Nat.le_refl _)) Y7 R7 Gr7 hZ1 hown1
  have Z7 : n0 ≤ T7.heap.size := Nat.le_trans Z1 Ex7.1
  have E7 := own_etrans E1 Ex7
  obtain ⟨_, _, ⟨T13, L13, k13, n13⟩, -, Y13, R13, Gr13, ⟨Lc13, hQ13, l13, y13, z13, D13⟩, st13⟩ := callSS X7 hx (y := (⟨"com/example/lehre/lehre/XsdLexicalNumeralPinLaw", "pick", "(I)C"⟩ : MethodName)) hown7 (mvT hZ7 (hw _ (List.mem_of_getElem? (i := 0) rfl))) (mvT hZ7 (hw _ (List.mem_of_getElem? (i := 1) rfl))) (mvT hZ7 (hw _ (List.mem_of_getElem? (i := 2) rfl))) (mvT hZ7 (hw _ (List.mem_of_getElem? (i := 3) rfl))) (by decide) (backOfSH (s := s) (W := 0) (rm1 l Z a0 hw [] G1 G3 x2 T7.heap n0 Z7 HS1 (X00.ext E7) P5 HS3 rG) hZ7 (hw _ (List.mem_of_getElem? (i := 3) rfl)) (hw _ (List.mem_of_getElem? (i := 2) rfl)) (by decide) (by decide) hEL D7.1) (g := (mkF m 13 #[.val (.int x0), .val (.int x1), .val (.int x2), .val (.int x3), .val (.int c0), .val (.int c1), .unset, .unset, .unset, .unset, .unset, .unset] [(.int x2)])) rfl (by rw [hml]; rfl) (argsL := [(.int x2)]) (rest := []) (lenOf pd7 rfl) rfl (by show 2 * 0 + _ ≤ _; exact Nat.le_of_eq rfl) (hb hby at_13) (fun _ _ => ⟨rfl, (rfl : T7.heap = T7.heap), (by decide : 4 + 2 ≤ _), (by decide : 72 + 36 ≤ _)⟩)
  dsimp only [Pt.U, Pt.locs, Pt.cells, Pt.slots] at Y13 R13 Gr13 l13 y13 z13 st13 hQ13 D13
  subst l13 y13 z13
  obtain ⟨⟨⟨c2, rfl⟩, Ex13⟩, N13q⟩ := hQ13
  have N13 := Fr.app N7 N13q
  obtain ⟨X13, hS13, hZ13, hown13⟩ := rebS hS7 (by rw [(rfl : T7.heap = T7.heap)]; exact (Nat.le_refl _)) Y13 R13 Gr13 hZ7 hown7
  have Z13 : n0 ≤ T13.heap.size := Nat.le_trans Z7 Ex13.1
  have E13 := own_etrans E7 Ex13
  obtain ⟨_, _, ⟨T19, L19, k19, n19⟩, -, Y19, R19, Gr19, ⟨Lc19, hQ19, l19, y19, z19, D19⟩, st19⟩ := callSS X13 hx (y := (⟨"com/example/lehre/lehre/XsdLexicalNumeralPinLaw", "pick", "(I)C"⟩ : MethodName)) hown13 (mvT hZ13 (hw _ (List.mem_of_getElem? (i := 0) rfl))) (mvT hZ13 (hw _ (List.mem_of_getElem? (i := 1) rfl))) (mvT hZ13 (hw _ (List.mem_of_getElem? (i := 2) rfl))) (mvT hZ13 (hw _ (List.mem_of_getElem? (i := 3) rfl))) (by decide) (backOfSH (s := s) (W := 0) (rm1 l Z a0 hw [] G1 G3 x3 T13.heap n0 Z13 HS1 (X00.ext E13) P5 HS3 rG) hZ13 (hw _ (List.mem_of_getElem? (i := 3) rfl)) (hw _ (List.mem_of_getElem? (i := 2) rfl)) (by decide) (by decide) hEL D13.1) (g := (mkF m 19 #[.val (.int x0), .val (.int x1), .val (.int x2), .val (.int x3), .val (.int c0), .val (.int c1), .val (.int c2), .unset, .unset, .unset, .unset, .unset] [(.int x3)])) rfl (by rw [hml]; rfl) (argsL := [(.int x3)]) (rest := []) (lenOf pd7 rfl) rfl (by show 2 * 0 + _ ≤ _; exact Nat.le_of_eq rfl) (hb hby at_19) (fun _ _ => ⟨rfl, (rfl : T13.heap = T13.heap), (by decide : 6 + 2 ≤ _), (by decide : 108 + 36 ≤ _)⟩)
  dsimp only [Pt.U, Pt.locs, Pt.cells, Pt.slots] at Y19 R19 Gr19 l19 y19 z19 st19 hQ19 D19
  subst l19 y19 z19
  obtain ⟨⟨⟨c3, rfl⟩, Ex19⟩, N19q⟩ := hQ19
  have N19 := Fr.app N13 N19q
  obtain ⟨X19, hS19, hZ19, hown19⟩ := rebS hS13 (by rw [(rfl : T13.heap = T13.heap)]; exact (Nat.le_refl _)) Y19 R19 Gr19 hZ13 hown13
  have Z19 : n0 ≤ T19.heap.size := Nat.le_trans Z13 Ex19.1
  have E19 := own_etrans E13 Ex19
  refine own_GoesW.pre (S' := T19.setTop (mkF m 24 #[.val (.int x0), .val (.int x1), .val (.int x2), .val (.int x3), .val (.int c0), .val (.int c1), .val (.int c2), .val (.int c3), .unset, .unset, .unset, .unset] [])) (P := own_one) (n0 := n0) (fun t kt => castTop (ef0 m x0 x1 x2 x3) ?_) (b0_24 x0 x1 x2 x3 c0 c1 c2 c3 X19 hx hZ19 hw hby hml hown19 Bd.returns Bd.notSynchronized rfl Z19 N19 hS19 (Nat.le_refl _) (by rw [hone]; exact fun _ => rfl))
  show Steps p.tables e below (s₁.setTop (mkF m 0 #[.val (.int x0), .val (.int x1), .val (.int x2), .val (.int x3), .unset, .unset, .unset, .unset, .unset, .unset, .unset, .unset] [])) _
  refine XS.iloadN X0.here hx rfl (hb hby at_0) rfl ?_
  show Steps p.tables e below (s₁.setTop (mkF m 1 #[.val (.int x0), .val (.int x1), .val (.int x2), .val (.int x3), .unset, .unset, .unset, .unset, .unset, .unset, .unset, .unset] [(.int x0)])) _
  refine st1.trans ?_
  show Steps p.tables e below (T1.setTop (mkF m 4 #[.val (.int x0), .val (.int x1), .val (.int x2), .val (.int x3), .unset, .unset, .unset, .unset, .unset, .unset, .unset, .unset] [(.int c0)])) _
  refine XS.istore X1.here hx rfl (hb hby at_4) rfl (l' := #[.val (.int x0), .val (.int x1), .val (.int x2), .val (.int x3), .val (.int c0), .unset, .unset, .unset, .unset, .unset, .unset, .unset]) rfl ?_
  show Steps p.tables e below (T1.setTop (mkF m 6 #[.val (.int x0), .val (.int x1), .val (.int x2), .val (.int x3), .val (.int c0), .unset, .unset, .unset, .unset, .unset, .unset, .unset] [])) _
  refine XS.iloadN X1.here hx rfl (hb hby at_6) rfl ?_
  show Steps p.tables e below (T1.setTop (mkF m 7 #[.val (.int x0), .val (.int x1), .val (.int x2), .val (.int x3), .val (.int c0), .unset, .unset, .unset, .unset, .unset, .unset, .unset] [(.int x1)])) _
  refine st7.trans ?_
  show Steps p.tables e below (T7.setTop (mkF m 10 #[.val (.int x0), .val (.int x1), .val (.int x2), .val (.int x3), .val (.int c0), .unset, .unset, .unset, .unset, .unset, .unset, .unset] [(.int c1)])) _
  refine XS.istore X7.here hx rfl (hb hby at_10) rfl (l' := #[.val (.int x0), .val (.int x1), .val (.int x2), .val (.int x3), .val (.int c0), .val (.int c1), .unset, .unset, .unset, .unset, .unset, .unset]) rfl ?_
  show Steps p.tables e below (T7.setTop (mkF m 12 #[.val (.int x0), .val (.int x1), .val (.int x2), .val (.int x3), .val (.int c0), .val (.int c1), .unset, .unset, .unset, .unset, .unset, .unset] [])) _
  refine XS.iloadN X7.here hx rfl (hb hby at_12) rfl ?_
  show Steps p.tables e below (T7.setTop (mkF m 13 #[.val (.int x0), .val (.int x1), .val (.int x2), .val (.int x3), .val (.int c0), .val (.int c1), .unset, .unset, .unset, .unset, .unset, .unset] [(.int x2)])) _
  refine st13.trans ?_
  show Steps p.tables e below (T13.setTop (mkF m 16 #[.val (.int x0), .val (.int x1), .val (.int x2), .val (.int x3), .val (.int c0), .val (.int c1), .unset, .unset, .unset, .unset, .unset, .unset] [(.int c2)])) _
  refine XS.istore X13.here hx rfl (hb hby at_16) rfl (l' := #[.val (.int x0), .val (.int x1), .val (.int x2), .val (.int x3), .val (.int c0), .val (.int c1), .val (.int c2), .unset, .unset, .unset, .unset, .unset]) rfl ?_
  show Steps p.tables e below (T13.setTop (mkF m 18 #[.val (.int x0), .val (.int x1), .val (.int x2), .val (.int x3), .val (.int c0), .val (.int c1), .val (.int c2), .unset, .unset, .unset, .unset, .unset] [])) _
  refine XS.iloadN X13.here hx rfl (hb hby at_18) rfl ?_
  show Steps p.tables e below (T13.setTop (mkF m 19 #[.val (.int x0), .val (.int x1), .val (.int x2), .val (.int x3), .val (.int c0), .val (.int c1), .val (.int c2), .unset, .unset, .unset, .unset, .unset] [(.int x3)])) _
  refine st19.trans ?_
  show Steps p.tables e below (T19.setTop (mkF m 22 #[.val (.int x0), .val (.int x1), .val (.int x2), .val (.int x3), .val (.int c0), .val (.int c1), .val (.int c2), .unset, .unset, .unset, .unset, .unset] [(.int c3)])) _
  refine XS.istore X19.here hx rfl (hb hby at_22) rfl (l' := #[.val (.int x0), .val (.int x1), .val (.int x2), .val (.int x3), .val (.int c0), .val (.int c1), .val (.int c2), .val (.int c3), .unset, .unset, .unset, .unset]) rfl ?_
  exact kt
/-- a char's kind, by one of that kind -/
def own_r (c : Int32) : Int32 := if c = 43 then 43 else if c = 45 then 45 else if c = 46 then 46 else if c < 48 then 0 else if (57 : Int32) < c then 0 else 48
def own_R : List Int32 := [43, 45, 46, 48, 0]
theorem own_rmem (c : Int32) : own_r c ∈ own_R := by
  unfold own_r
  repeat' split
  all_goals decide
/-- whatever tells chars by these six tests tells them by their kinds -/
theorem own_kind {α : Type} (F : Int32 → α) (h1 : ∀ c, ¬ c = 43 → ¬ c = 45 → ¬ c = 46 → c < 48 → F c = F 0) (h2 : ∀ c, ¬ c = 43 → ¬ c = 45 → ¬ c = 46 → ¬ c < 48 → (57 : Int32) < c → F c = F 0) (h3 : ∀ c, ¬ c = 43 → ¬ c = 45 → ¬ c = 46 → ¬ c < 48 → ¬ (57 : Int32) < c → F c = F 48) (c : Int32) : F c = F (own_r c) := by
  unfold own_r
  by_cases a1 : c = 43
  · rw [if_pos a1, a1]
  · by_cases a2 : c = 45
    · rw [if_neg a1, if_pos a2, a2]
    · by_cases a3 : c = 46
      · rw [if_neg a1, if_neg a2, if_pos a3, a3]
      · by_cases a4 : c < 48
        · rw [if_neg a1, if_neg a2, if_neg a3, if_pos a4]; exact h1 c a1 a2 a3 a4
        · by_cases a5 : (57 : Int32) < c
          · rw [if_neg a1, if_neg a2, if_neg a3, if_neg a4, if_pos a5]; exact h2 c a1 a2 a3 a4 a5
          · rw [if_neg a1, if_neg a2, if_neg a3, if_neg a4, if_neg a5]; exact h3 c a1 a2 a3 a4 a5
theorem own_z43 : ((0 : Int32) = 43) = False := eq_false (by decide)
theorem own_z45 : ((0 : Int32) = 45) = False := eq_false (by decide)
theorem own_z46 : ((0 : Int32) = 46) = False := eq_false (by decide)
theorem own_z48 : ((0 : Int32) < 48) = True := eq_true (by decide)
theorem own_e43 : ((48 : Int32) = 43) = False := eq_false (by decide)
theorem own_e45 : ((48 : Int32) = 45) = False := eq_false (by decide)
theorem own_e46 : ((48 : Int32) = 46) = False := eq_false (by decide)
theorem own_e48 : ((48 : Int32) < 48) = False := eq_false (by decide)
theorem own_e57 : ((57 : Int32) < 48) = False := eq_false (by decide)
theorem own_10 : ((1 : Int32) = 0) = False := eq_false (by decide)
theorem own_r2 (s c : Int32) : f2_0 s c = f2_0 s (own_r c) := by
  refine own_kind (f2_0 s) ?_ ?_ ?_ c
  · intro c a1 a2 a3 a4; simp only [f2_116, f2_64, f2_84, f2_80, f2_74, f2_70, f2_66, f2_58, f2_52, f2_104, f2_100, f2_94, f2_90, f2_86, f2_114, f2_110, f2_106, f2_17, f2_16, f2_12, f2_6, f2_0, eq_false a1, eq_false a2, eq_false a3, eq_true a4, own_z43, own_z45, own_z46, own_z48, own_10, ↓reduceIte]
  · intro c a1 a2 a3 a4 a5; simp only [f2_116, f2_64, f2_84, f2_80, f2_74, f2_70, f2_66, f2_58, f2_52, f2_104, f2_100, f2_94, f2_90, f2_86, f2_114, f2_110, f2_106, f2_17, f2_16, f2_12, f2_6, f2_0, eq_false a1, eq_false a2, eq_false a3, eq_false a4, eq_true a5, own_z43, own_z45, own_z46, own_z48, own_10, ↓reduceIte]
  · intro c a1 a2 a3 a4 a5; simp only [f2_116, f2_64, f2_84, f2_80, f2_74, f2_70, f2_66, f2_58, f2_52, f2_104, f2_100, f2_94, f2_90, f2_86, f2_114, f2_110, f2_106, f2_17, f2_16, f2_12, f2_6, f2_0, eq_false a1, eq_false a2, eq_false a3, eq_false a4, eq_false a5, own_e43, own_e45, own_e46, own_e48, own_e57, own_10, ↓reduceIte]
theorem own_r5 (c i n k d : Int32) : f5_0 c i n k d = f5_0 (own_r c) i n k d := by
  refine own_kind (fun c => f5_0 c i n k d) ?_ ?_ ?_ c
  · intro c a1 a2 a3 a4; simp only [f5_10, f5_47, f5_43, f5_34, f5_33, f5_29, f5_23, f5_19, f5_12, f5_5, f5_0, f6_16, f6_12, f6_6, f6_0, eq_false a1, eq_false a2, eq_false a3, eq_true a4, own_z43, own_z45, own_z46, own_z48, own_10, ↓reduceIte]
  · intro c a1 a2 a3 a4 a5; simp only [f5_10, f5_47, f5_43, f5_34, f5_33, f5_29, f5_23, f5_19, f5_12, f5_5, f5_0, f6_16, f6_12, f6_6, f6_0, eq_false a1, eq_false a2, eq_false a3, eq_false a4, eq_true a5, own_z43, own_z45, own_z46, own_z48, own_10, ↓reduceIte]
  · intro c a1 a2 a3 a4 a5; simp only [f5_10, f5_47, f5_43, f5_34, f5_33, f5_29, f5_23, f5_19, f5_12, f5_5, f5_0, f6_16, f6_12, f6_6, f6_0, eq_false a1, eq_false a2, eq_false a3, eq_false a4, eq_false a5, own_e43, own_e45, own_e46, own_e48, own_e57, own_10, ↓reduceIte]
theorem own_r4 (n k d a b c e : Int32) : f4_0 n k d a b c e = f4_0 n k d (own_r a) (own_r b) (own_r c) (own_r e) := by
  rw [f4_0, f4_0, own_r5 a, own_r5 b, own_r5 c, own_r5 e]
theorem own_r34 (n a b c e k : Int32) : f3_34 n a b c e k = f3_34 n (own_r a) (own_r b) (own_r c) (own_r e) k := by
  simp only [f3_34, f3_81, f3_87, f3_89, f3_94, f3_96, f3_101, f3_105]
  rw [own_r4 n k 0 a b c e, own_r4 n k 1 a b c e, own_r4 n k 2 a b c e]
theorem own_s43 (c : Int32) : (c = 43) = (own_r c = 43) := by
  refine own_kind (fun c => c = (43 : Int32)) ?_ ?_ ?_ c
  · intro c a1 _ _ _; simp only [eq_false a1, own_z43]
  · intro c a1 _ _ _ _; simp only [eq_false a1, own_z43]
  · intro c a1 _ _ _ _; simp only [eq_false a1, own_e43]
theorem own_s45 (c : Int32) : (c = 45) = (own_r c = 45) := by
  refine own_kind (fun c => c = (45 : Int32)) ?_ ?_ ?_ c
  · intro c _ a2 _ _; simp only [eq_false a2, own_z45]
  · intro c _ a2 _ _ _; simp only [eq_false a2, own_z45]
  · intro c _ a2 _ _ _; simp only [eq_false a2, own_e45]
theorem own_r3 (n a b c e : Int32) : f3_0 n a b c e = f3_0 n (own_r a) (own_r b) (own_r c) (own_r e) := by
  have h := own_r34 n a b c e
  simp only [f3_0, f3_4, f3_6, f3_12, f3_18, f3_22, f3_23, f3_32, h, own_s43 a, own_s45 a]
set_option maxRecDepth 65536 in
theorem own_all : ∀ a ∈ own_R, ∀ b ∈ own_R, ∀ c ∈ own_R, ∀ e ∈ own_R, f2_0 0 a = f3_0 1 a b c e ∧ f2_0 (f2_0 0 a) b = f3_0 2 a b c e ∧ f2_0 (f2_0 (f2_0 0 a) b) c = f3_0 3 a b c e ∧ f2_0 (f2_0 (f2_0 (f2_0 0 a) b) c) e = f3_0 4 a b c e := by decide +kernel
theorem own_law (x0 x1 x2 x3 c0 c1 c2 c3 : Int32) : f0_24 x0 x1 x2 x3 c0 c1 c2 c3 = 1 := by
  obtain ⟨h1, h2, h3, h4⟩ := own_all _ (own_rmem c0) _ (own_rmem c1) _ (own_rmem c2) _ (own_rmem c3)
  rw [← own_r3] at h1 h2 h3 h4
  rw [← own_r2 0 c0] at h1 h2 h3 h4
  rw [← own_r2 _ c1] at h2 h3 h4
  rw [← own_r2 _ c2] at h3 h4
  rw [← own_r2 _ c3] at h4
  rw [f0_24, if_pos h1, f0_76, if_pos h2, f0_93, if_pos h3, f0_110, if_pos h4, f0_127]
set_option maxRecDepth 65536 in
set_option maxHeartbeats 40000000 in
theorem comes_1 {Post : Tables → Env → Array Value → State → Outcome → State → Prop} (hpost : ∀ tb e args s v u, (limb_1_1.after args s (.returned v) u = true ∧ limb_1_2.after args s (.returned v) u = true ∧ True) → ReturnedEndW s (.returned v) u (Jvm.fieldLocs frame_1_writes args s ++ Jvm.arrayLocs frame_1_arrays args s ++ Jvm.staticLocs frame_1_statics s) 8 1088 → Post tb e args s (.returned v) u) :
    ArmFor flags0 classFile x code maxLocals ret World_1 tables_1 room_1 Calls_1 rest_1 Pre_1 Post := by
  intro l hfl _ _ p e ha hc hk s m args below hf hA hF happ hP
  obtain ⟨hcalls, hrest, hpre⟩ := hP
  obtain ⟨-, -, -, hnamed, -, -, -, hat⟩ := (Spec.applies_iff hf).mp happ
  obtain ⟨hg, hn⟩ := and_e (Cond.before_iff.mp (show (Jvm.Cond.and given_1 narrow_1).before args s = true from hpre))
  obtain ⟨gc, g0⟩ := and_e hg
  obtain ⟨q0, g1⟩ := and_e g0
  obtain ⟨q1, g2⟩ := and_e g1
  obtain ⟨q2, g3⟩ := and_e g2
  obtain ⟨w0, w1, w2, w3, rfl⟩ : ∃ w0 w1 w2 w3 : Value, args = #[w0, w1, w2, w3] := by
    have hs : args.size = 4 := by simpa [Cond.value, given_1] using gc
    obtain ⟨L⟩ := args
    match L, hs with
    | [w0, w1, w2, w3], _ => exact ⟨w0, w1, w2, w3, rfl⟩
  have hw := fun d (hd : d ∈ tables_1) => atoms_spec (ws := Jvm.Cond.code x code maxLocals ret :: tables_1) hat d (List.mem_cons_of_mem _ hd)
  obtain ⟨i0, ei0⟩ := is_v q0
  obtain rfl : w0 = (.int i0) := Option.some.inj ei0
  obtain ⟨i1, ei1⟩ := is_v q1
  obtain rfl : w1 = (.int i1) := Option.some.inj ei1
  obtain ⟨i2, ei2⟩ := is_v q2
  obtain rfl : w2 = (.int i2) := Option.some.inj ei2
  obtain ⟨i3, ei3⟩ := is_v g3
  obtain rfl : w3 = (.int i3) := Option.some.inj ei3
  obtain ⟨hsets, hown0⟩ := atoms_of _ (rest_1_c_eq ▸ (show rest_1_c.before _ s = true from hrest))
  have n5 := not_v (Cond.before_iff.mp (hsets _ (List.mem_of_getElem? (i := 2) rfl)))
  obtain ⟨j1, ej1⟩ := is_v (Cond.before_iff.mp (hsets _ (List.mem_of_getElem? (i := 1) rfl)))
  have S1 : Sta s s.heap "java/lang/String" "COMPACT_STRINGS" "Z" (.int j1) := Sta.start ej1 (Or.inl (hsets _ (List.mem_of_getElem? (i := 0) rfl)))
  obtain ⟨v3, ev3, r3⟩ := isR_v (Cond.before_iff.mp (hsets _ (List.mem_of_getElem? (i := 8) rfl)))
  have S3 : Sta s s.heap "jdk/internal/util/Preconditions" "SIOOBE_FORMATTER" "Ljava/util/function/BiFunction;" v3 := Sta.start ev3 (Or.inl (hsets _ (List.mem_of_getElem? (i := 7) rfl)))
  have c5 : ¬ (j1 = (0 : Int32)) := gotF (Cond.eq_ints ej1 (Term.int_eval (0))) n5
  have hEL : EW s #[(.int i0), (.int i1), (.int i2), (.int i3)] own_EL := EW.cons (text := own_tx) (hw _ (List.mem_of_getElem? (i := 20) rfl)) own_txt.1 EW.nil
  have HC : CHv s own_EL s.vm s.heap := CHv.start hEL hcalls.1 (hsets _ (List.mem_of_getElem? (i := 2) rfl)) (hw _ (List.mem_of_getElem? (i := 23) rfl)) (hw _ (List.mem_of_getElem? (i := 22) rfl))
  obtain ⟨n, o, h1, h2, h3, _, L, rfl, ⟨rfl, N⟩, hq⟩ := rm0 l s _ hw tables_1 j1 v3 i0 i1 i2 i3 s.heap s.heap.size (Nat.le_refl _) S1 (Old.start s) c5 S3 r3 hEL (own_law i0 i1 i2 i3) p e ha hc hk s m _ below hf ((Spec.applies_iff_loose hf).mp happ).1 ⟨rfl, State.Warmed39.refl s, rfl, HC⟩ trivial
  refine ⟨n, _, h1, h2, h3, hpost _ _ _ _ _ _ ⟨Cond.after_iff.mpr rfl, Cond.after_iff.mpr (eq_i res_at (Term.int_eval (1)) rfl), trivial⟩ ⟨hq.1, hq.2.1, hq.2.2.1, (hq.2.2.2.sift fun y hy => Or.inr (N y hy)).mono (by decide) (by decide)⟩⟩
theorem main_1_1 : Claimed_1_1 := comes_1 fun _ _ _ _ _ _ h hF => ⟨h.1, hF⟩
theorem main_1_2 : Claimed_1_2 := comes_1 fun _ _ _ _ _ _ h hF => ⟨h.2.1, hF⟩
end Jvm.Pilot.@@N@@
namespace Jvm.Pilot.@@N@@
open Jvm Jvm.ClassFile Sem Op Lib Jvm.Free Jvm.Stand Jvm.Pilot.@@N@@.Jvm.D
/-! MADE BY PROGRAM (witnessworld.py) out of the Statement's table words and the real class files: 19 classes; the members and pool entries that the words name. The judged class is class 1, her method 1. -/
namespace start1
open Jvm.ClassFile
def u (s : String) : CpInfo := .utf8 (stringToUtf16 s)
/-- a pool by its gaps: so many unusable entries, then the entry; so many at the end -/
def gap : Nat → List CpInfo → List CpInfo
  | 0, r => r
  | n + 1, r => .unusable :: gap n r
def poolList (es : List (Nat × CpInfo)) (last : Nat) : List CpInfo := es.foldr (fun e r => gap e.1 (e.2 :: r)) (gap last [])
def pool (es : List (Nat × CpInfo)) (last : Nat) : Array CpInfo := ⟨poolList es last⟩
def fileOf (pool : Array CpInfo) (this : Nat) (attrs : Array Attribute := #[]) (ms : Array MethodInfo := #[]) (fl : Nat := 33) (sup : Nat := 0) (ifs : Array Nat := #[]) (fds : Array FieldInfo := #[]) : ClassFile where
  minorVersion := 0
  majorVersion := 65
  constantPool := pool
  accessFlags := fl
  thisClass := this
  superClass := sup
  interfaces := ifs
  fields := fds
  methods := ms
  attributes := attrs
def plain (name : String) (sup : Option ClassId) : Class where
  name := name
  kind := .ordinary
  loader := none
  accessFlags := 33
  super := sup
  interfaces := #[]
  cf := none
  fields := #[]
  methods := #[]
  instanceTypes := #[]
  staticTypes := #[]
  resolved := #[]
  callSites := []
  init := .initialized
  statics := none
  mirror := none

def pool0 : Array CpInfo := pool [(5, u "<init>"), (0, u "()V"), (1, .class_ 10), (1, u "java/lang/Object")] 113

def k0m0 : Method := { name := "<init>", desc := "()V", sig := { parameters := [], returnType := none }, accessFlags := 1, code := none }
/-- java/lang/Object -/
def k0 : Class := { plain "java/lang/Object" none with
  accessFlags := 33
  interfaces := #[]
  cf := some (fileOf pool0 8 #[] #[{ accessFlags := 1, nameIndex := 5, descriptorIndex := 6, attributes := #[] }] 33 0 #[] #[])
  fields := #[]
  methods := #[k0m0]
  instanceTypes := #[]
  staticTypes := #[]
  resolved := Array.replicate 124 none
  statics := none }

def pool1 : Array CpInfo := pool [(2, .class_ 4), (1, u "java/lang/Object"), (0, u "<init>"), (0, u "()V"), (0, .methodref 8 9), (0, .class_ 10), (0, .nameAndType 11 12), (0, u "com/example/lehre/lehre/XsdLexicalNumeralPinLaw"), (0, u "pick"), (0, u "(I)C"), (0, .class_ 14), (0, u "com/example/lehre/lehre/XsdLexical"), (0, .methodref 13 16), (0, .nameAndType 17 18), (0, u "numeral"), (0, u "(IC)I"), (0, .methodref 8 20), (0, .nameAndType 21 22), (0, u "expected"), (0, u "(ICCCC)I"), (0, .string 24), (0, u "+-.09/:5"), (0, .methodref 26 27), (0, .class_ 28), (0, .nameAndType 29 12), (0, u "java/lang/String"), (0, u "charAt"), (0, .methodref 8 31), (0, .nameAndType 32 33), (0, u "isDigit"), (0, u "(C)Z"), (0, .methodref 8 35), (0, .nameAndType 36 37), (0, u "count"), (0, u "(CIIII)I"), (0, .methodref 8 39), (0, .nameAndType 40 41), (0, u "sum"), (0, u "(IIICCCC)I"), (2, u "law"), (0, u "(IIII)Z")] 3

def k1m0 : Method := { name := "<init>", desc := "()V", sig := { parameters := [], returnType := none }, accessFlags := 1, code := none }
def k1c1 : Code := { maxStack := 6, maxLocals := 12, code := code, exceptionTable := #[], attributes := #[] }
def k1m1 : Method := { name := "law", desc := "(IIII)Z", sig := { parameters := [.int, .int, .int, .int], returnType := some .boolean }, accessFlags := 9, code := some k1c1 }
def k1c2 : Code := { maxStack := 3, maxLocals := 1, code := method_3_code, exceptionTable := #[], attributes := #[] }
def k1m2 : Method := { name := "pick", desc := "(I)C", sig := { parameters := [.int], returnType := some .char }, accessFlags := 10, code := some k1c2 }
def k1c3 : Code := { maxStack := 2, maxLocals := 1, code := method_4_code, exceptionTable := #[], attributes := #[] }
def k1m3 : Method := { name := "isDigit", desc := "(C)Z", sig := { parameters := [.char], returnType := some .boolean }, accessFlags := 10, code := some k1c3 }
def k1c4 : Code := { maxStack := 2, maxLocals := 6, code := method_5_code, exceptionTable := #[], attributes := #[] }
def k1m4 : Method := { name := "count", desc := "(CIIII)I", sig := { parameters := [.char, .int, .int, .int, .int], returnType := some .int }, accessFlags := 10, code := some k1c4 }
def k1c5 : Code := { maxStack := 6, maxLocals := 7, code := method_6_code, exceptionTable := #[], attributes := #[] }
def k1m5 : Method := { name := "sum", desc := "(IIICCCC)I", sig := { parameters := [.int, .int, .int, .char, .char, .char, .char], returnType := some .int }, accessFlags := 10, code := some k1c5 }
def k1c6 : Code := { maxStack := 7, maxLocals := 9, code := method_7_code, exceptionTable := #[], attributes := #[] }
def k1m6 : Method := { name := "expected", desc := "(ICCCC)I", sig := { parameters := [.int, .char, .char, .char, .char], returnType := some .int }, accessFlags := 10, code := some k1c6 }
/-- com/example/lehre/lehre/XsdLexicalNumeralPinLaw -/
def k1 : Class := { plain "com/example/lehre/lehre/XsdLexicalNumeralPinLaw" (some 0) with
  accessFlags := 49
  interfaces := #[]
  cf := some (fileOf pool1 8 #[] #[{ accessFlags := 1, nameIndex := 5, descriptorIndex := 6, attributes := #[] }, { accessFlags := 9, nameIndex := 44, descriptorIndex := 45, attributes := #[] }, { accessFlags := 10, nameIndex := 11, descriptorIndex := 12, attributes := #[] }, { accessFlags := 10, nameIndex := 32, descriptorIndex := 33, attributes := #[] }, { accessFlags := 10, nameIndex := 36, descriptorIndex := 37, attributes := #[] }, { accessFlags := 10, nameIndex := 40, descriptorIndex := 41, attributes := #[] }, { accessFlags := 10, nameIndex := 21, descriptorIndex := 22, attributes := #[] }] 49 2 #[] #[])
  fields := #[]
  methods := #[k1m0, k1m1, k1m2, k1m3, k1m4, k1m5, k1m6]
  instanceTypes := #[]
  staticTypes := #[]
  resolved := Array.replicate 49 none
  statics := none }

def pool2 : Array CpInfo := pool [(1, .class_ 2), (0, u "java/lang/constant/Constable"), (0, .class_ 4), (0, u "java/lang/Object")] 6

/-- java/lang/constant/Constable -/
def k2 : Class := { plain "java/lang/constant/Constable" (some 0) with
  accessFlags := 1537
  interfaces := #[]
  cf := some (fileOf pool2 1 #[] #[] 1537 3 #[] #[])
  fields := #[]
  methods := #[]
  instanceTypes := #[]
  staticTypes := #[]
  resolved := Array.replicate 11 none
  statics := none }

def pool3 : Array CpInfo := pool [(1, .class_ 2), (0, u "java/lang/Comparable"), (0, .class_ 4), (0, u "java/lang/Object")] 7

/-- java/lang/Comparable -/
def k3 : Class := { plain "java/lang/Comparable" (some 0) with
  accessFlags := 1537
  interfaces := #[]
  cf := some (fileOf pool3 1 #[] #[] 1537 3 #[] #[])
  fields := #[]
  methods := #[]
  instanceTypes := #[]
  staticTypes := #[]
  resolved := Array.replicate 12 none
  statics := none }

def pool4 : Array CpInfo := pool [(1, .class_ 2), (0, u "java/io/Serializable"), (0, .class_ 4), (0, u "java/lang/Object")] 2

/-- java/io/Serializable -/
def k4 : Class := { plain "java/io/Serializable" (some 0) with
  accessFlags := 1537
  interfaces := #[]
  cf := some (fileOf pool4 1 #[] #[] 1537 3 #[] #[])
  fields := #[]
  methods := #[]
  instanceTypes := #[]
  staticTypes := #[]
  resolved := Array.replicate 7 none
  statics := none }

def pool5 : Array CpInfo := pool [(2, .class_ 4), (1, u "java/lang/Enum"), (0, u "name"), (0, u "Ljava/lang/String;"), (2, u "ordinal"), (0, u "I"), (1, .class_ 14), (1, u "java/lang/Object"), (4, u "hash"), (86, .class_ 108), (1, u "java/lang/Enum$EnumDesc"), (2, .class_ 112), (0, u "java/lang/constant/Constable"), (0, .class_ 114), (0, u "java/lang/Comparable"), (0, .class_ 116), (0, u "java/io/Serializable")] 87

/-- java/lang/Enum -/
def k5 : Class := { plain "java/lang/Enum" (some 0) with
  accessFlags := 1057
  interfaces := #[2, 3, 4]
  cf := some (fileOf pool5 2 #[.nestMembers #[106]] #[] 1057 12 #[111, 113, 115] #[{ accessFlags := 18, nameIndex := 5, descriptorIndex := 6, attributes := #[] }, { accessFlags := 18, nameIndex := 9, descriptorIndex := 10, attributes := #[] }, { accessFlags := 2, nameIndex := 19, descriptorIndex := 10, attributes := #[] }])
  fields := #[{ name := "name", type := (.object "java/lang/String"), accessFlags := 18, slot := 0, constantValue := 0 }, { name := "ordinal", type := .int, accessFlags := 18, slot := 1, constantValue := 0 }, { name := "hash", type := .int, accessFlags := 2, slot := 2, constantValue := 0 }]
  methods := #[]
  instanceTypes := #[(.object "java/lang/String"), .int, .int]
  staticTypes := #[]
  resolved := Array.replicate 204 none
  statics := none }

def pool6 : Array CpInfo := pool [(1, .class_ 2), (0, u "com/example/lehre/lehre/XsdLexicalRule"), (0, .class_ 4), (0, u "java/lang/Object"), (7, .class_ 13), (0, u "com/example/lehre/lehre/XsdLexicalRule$Reading")] 2

/-- com/example/lehre/lehre/XsdLexicalRule -/
def k6 : Class := { plain "com/example/lehre/lehre/XsdLexicalRule" (some 0) with
  accessFlags := 1536
  interfaces := #[]
  cf := some (fileOf pool6 1 #[.nestMembers #[12]] #[] 1536 3 #[] #[])
  fields := #[]
  methods := #[]
  instanceTypes := #[]
  staticTypes := #[]
  resolved := Array.replicate 16 none
  statics := none }

def pool7 : Array CpInfo := pool [(1, .class_ 2), (0, u "com/example/lehre/lehre/XsdLexical"), (2, u "INTEGER"), (0, u "Lcom/example/lehre/lehre/XsdLexical;"), (2, u "LANGUAGE"), (2, u "NMTOKEN"), (2, u "NAME"), (2, u "NCNAME"), (2, u "ENTITY"), (2, u "$VALUES"), (0, u "[Lcom/example/lehre/lehre/XsdLexical;"), (6, .class_ 34), (1, u "java/lang/Enum"), (8, u "typeName"), (0, u "Ljava/lang/String;"), (34, .class_ 80), (0, u "com/example/lehre/lehre/XsdLexical$Follower"), (21, u "numeral"), (10, u "(IC)I"), (25, .class_ 140), (0, u "com/example/lehre/lehre/XsdLexicalRule"), (0, u "NUMERAL_START"), (0, u "I"), (2, u "NUMERAL_SIGN"), (1, u "NUMERAL_WHOLE"), (1, u "NUMERAL_POINT"), (1, u "NUMERAL_FRACTION"), (1, u "NUMERAL_BROKEN"), (1, u "SUBTAG"), (1, u "LANGUAGE_START"), (0, u "LATER_SUBTAG"), (1, u "LANGUAGE_BROKEN")] 39

def k7c0 : Code := { maxStack := 2, maxLocals := 3, code := prog_173_method_9_code, exceptionTable := #[], attributes := #[] }
def k7m0 : Method := { name := "numeral", desc := "(IC)I", sig := { parameters := [.int, .char], returnType := some .int }, accessFlags := 8, code := some k7c0 }
/-- com/example/lehre/lehre/XsdLexical -/
def k7 : Class := { plain "com/example/lehre/lehre/XsdLexical" (some 5) with
  accessFlags := 16432
  interfaces := #[6]
  cf := some (fileOf pool7 1 #[.nestMembers #[79]] #[{ accessFlags := 8, nameIndex := 102, descriptorIndex := 113, attributes := #[] }] 16432 32 #[139] #[{ accessFlags := 16409, nameIndex := 5, descriptorIndex := 6, attributes := #[] }, { accessFlags := 16409, nameIndex := 9, descriptorIndex := 6, attributes := #[] }, { accessFlags := 16409, nameIndex := 12, descriptorIndex := 6, attributes := #[] }, { accessFlags := 16409, nameIndex := 15, descriptorIndex := 6, attributes := #[] }, { accessFlags := 16409, nameIndex := 18, descriptorIndex := 6, attributes := #[] }, { accessFlags := 16409, nameIndex := 21, descriptorIndex := 6, attributes := #[] }, { accessFlags := 24, nameIndex := 141, descriptorIndex := 142, attributes := #[] }, { accessFlags := 24, nameIndex := 145, descriptorIndex := 142, attributes := #[] }, { accessFlags := 24, nameIndex := 147, descriptorIndex := 142, attributes := #[] }, { accessFlags := 24, nameIndex := 149, descriptorIndex := 142, attributes := #[] }, { accessFlags := 24, nameIndex := 151, descriptorIndex := 142, attributes := #[] }, { accessFlags := 24, nameIndex := 153, descriptorIndex := 142, attributes := #[] }, { accessFlags := 26, nameIndex := 155, descriptorIndex := 142, attributes := #[] }, { accessFlags := 26, nameIndex := 157, descriptorIndex := 142, attributes := #[] }, { accessFlags := 26, nameIndex := 158, descriptorIndex := 142, attributes := #[] }, { accessFlags := 26, nameIndex := 160, descriptorIndex := 142, attributes := #[] }, { accessFlags := 18, nameIndex := 43, descriptorIndex := 44, attributes := #[] }, { accessFlags := 4122, nameIndex := 24, descriptorIndex := 25, attributes := #[] }])
  fields := #[{ name := "INTEGER", type := (.object "com/example/lehre/lehre/XsdLexical"), accessFlags := 16409, slot := 0, constantValue := 0 }, { name := "LANGUAGE", type := (.object "com/example/lehre/lehre/XsdLexical"), accessFlags := 16409, slot := 1, constantValue := 0 }, { name := "NMTOKEN", type := (.object "com/example/lehre/lehre/XsdLexical"), accessFlags := 16409, slot := 2, constantValue := 0 }, { name := "NAME", type := (.object "com/example/lehre/lehre/XsdLexical"), accessFlags := 16409, slot := 3, constantValue := 0 }, { name := "NCNAME", type := (.object "com/example/lehre/lehre/XsdLexical"), accessFlags := 16409, slot := 4, constantValue := 0 }, { name := "ENTITY", type := (.object "com/example/lehre/lehre/XsdLexical"), accessFlags := 16409, slot := 5, constantValue := 0 }, { name := "NUMERAL_START", type := .int, accessFlags := 24, slot := 6, constantValue := 0 }, { name := "NUMERAL_SIGN", type := .int, accessFlags := 24, slot := 7, constantValue := 0 }, { name := "NUMERAL_WHOLE", type := .int, accessFlags := 24, slot := 8, constantValue := 0 }, { name := "NUMERAL_POINT", type := .int, accessFlags := 24, slot := 9, constantValue := 0 }, { name := "NUMERAL_FRACTION", type := .int, accessFlags := 24, slot := 10, constantValue := 0 }, { name := "NUMERAL_BROKEN", type := .int, accessFlags := 24, slot := 11, constantValue := 0 }, { name := "SUBTAG", type := .int, accessFlags := 26, slot := 12, constantValue := 0 }, { name := "LANGUAGE_START", type := .int, accessFlags := 26, slot := 13, constantValue := 0 }, { name := "LATER_SUBTAG", type := .int, accessFlags := 26, slot := 14, constantValue := 0 }, { name := "LANGUAGE_BROKEN", type := .int, accessFlags := 26, slot := 15, constantValue := 0 }, { name := "typeName", type := (.object "java/lang/String"), accessFlags := 18, slot := 3, constantValue := 0 }, { name := "$VALUES", type := (.array (.object "com/example/lehre/lehre/XsdLexical")), accessFlags := 4122, slot := 16, constantValue := 0 }]
  methods := #[k7m0]
  instanceTypes := #[(.object "java/lang/String"), .int, .int, (.object "java/lang/String")]
  staticTypes := #[(.object "com/example/lehre/lehre/XsdLexical"), (.object "com/example/lehre/lehre/XsdLexical"), (.object "com/example/lehre/lehre/XsdLexical"), (.object "com/example/lehre/lehre/XsdLexical"), (.object "com/example/lehre/lehre/XsdLexical"), (.object "com/example/lehre/lehre/XsdLexical"), .int, .int, .int, .int, .int, .int, .int, .int, .int, .int, (.array (.object "com/example/lehre/lehre/XsdLexical"))]
  resolved := Array.replicate 200 none
  statics := none }

def pool8 : Array CpInfo := pool [(2, .class_ 4), (1, u "java/lang/CharSequence"), (42, .class_ 48), (0, u "java/lang/CharSequence$1CodePointIterator"), (10, .class_ 60), (0, u "java/lang/CharSequence$1CharIterator"), (5, .class_ 67), (0, u "java/lang/Object")] 63

/-- java/lang/CharSequence -/
def k8 : Class := { plain "java/lang/CharSequence" (some 0) with
  accessFlags := 1537
  interfaces := #[]
  cf := some (fileOf pool8 2 #[.nestMembers #[47, 59]] #[] 1537 66 #[] #[])
  fields := #[]
  methods := #[]
  instanceTypes := #[]
  staticTypes := #[]
  resolved := Array.replicate 131 none
  statics := none }

def pool9 : Array CpInfo := pool [(1, .class_ 2), (0, u "java/lang/constant/ConstantDesc"), (0, .class_ 4), (0, u "java/lang/Object")] 32

/-- java/lang/constant/ConstantDesc -/
def k9 : Class := { plain "java/lang/constant/ConstantDesc" (some 0) with
  accessFlags := 1537
  interfaces := #[]
  cf := some (fileOf pool9 1 #[] #[] 1537 3 #[] #[])
  fields := #[]
  methods := #[]
  instanceTypes := #[]
  staticTypes := #[]
  resolved := Array.replicate 37 none
  statics := none }

def pool10 : Array CpInfo := pool [(2, .class_ 4), (1, u "java/lang/Object"), (0, u "<init>"), (0, u "()V"), (2, .fieldref 10 11), (0, .class_ 12), (0, .nameAndType 13 14), (0, u "java/lang/String"), (0, u "value"), (0, u "[B"), (0, .fieldref 10 16), (0, .nameAndType 17 18), (0, u "coder"), (0, u "B"), (2, u "hash"), (0, u "I"), (2, u "hashIsZero"), (0, u "Z"), (11, .fieldref 10 39), (0, .nameAndType 40 26), (0, u "COMPACT_STRINGS"), (66, .class_ 109), (1, u "java/lang/StringLatin1"), (32, u "()Z"), (220, u "([BI)C"), (27, u "(II)V"), (35, u "(I)C"), (64, .methodref 10 493), (0, .nameAndType 494 142), (0, u "isLatin1"), (0, .methodref 107 496), (0, .nameAndType 497 363), (0, u "charAt"), (3, u "checkIndex"), (73, .class_ 576), (0, u "java/lang/CharSequence"), (22, u "CASE_INSENSITIVE_ORDER"), (0, u "Ljava/util/Comparator;"), (452, .fieldref 1054 1055), (0, .class_ 1056), (0, .nameAndType 1057 1058), (0, u "jdk/internal/util/Preconditions"), (0, u "SIOOBE_FORMATTER"), (0, u "Ljava/util/function/BiFunction;"), (0, .methodref 1054 1060), (0, .nameAndType 501 1061), (0, u "(IILjava/util/function/BiFunction;)I"), (39, u "serialPersistentFields"), (0, u "[Ljava/io/ObjectStreamField;"), (0, .class_ 1104), (0, u "java/lang/String$CaseInsensitiveComparator"), (1, .class_ 1107), (0, u "java/io/Serializable"), (0, .class_ 1109), (0, u "java/lang/Comparable"), (0, .class_ 1111), (0, u "java/lang/constant/Constable"), (0, .class_ 1113), (0, u "java/lang/constant/ConstantDesc"), (2, u "serialVersionUID"), (0, u "J"), (3, u "REPL"), (0, u "C"), (2, u "LATIN1"), (1, u "UTF16")] 323

def k10m0 : Method := { name := "<init>", desc := "()V", sig := { parameters := [], returnType := none }, accessFlags := 1, code := none }
def k10c1 : Code := { maxStack := 2, maxLocals := 2, code := jdk_42_method_56_code, exceptionTable := #[], attributes := #[] }
def k10m1 : Method := { name := "charAt", desc := "(I)C", sig := { parameters := [.int], returnType := some .char }, accessFlags := 1, code := some k10c1 }
def k10c2 : Code := { maxStack := 1, maxLocals := 1, code := jdk_42_method_154_code, exceptionTable := #[], attributes := #[] }
def k10m2 : Method := { name := "isLatin1", desc := "()Z", sig := { parameters := [], returnType := some .boolean }, accessFlags := 0, code := some k10c2 }
def k10c3 : Code := { maxStack := 3, maxLocals := 2, code := jdk_42_method_155_code, exceptionTable := #[], attributes := #[] }
def k10m3 : Method := { name := "checkIndex", desc := "(II)V", sig := { parameters := [.int, .int], returnType := none }, accessFlags := 8, code := some k10c3 }
/-- java/lang/String -/
def k10 : Class := { plain "java/lang/String" (some 0) with
  accessFlags := 49
  interfaces := #[4, 3, 8, 2, 9]
  cf := some (fileOf pool10 10 #[.nestMembers #[1103]] #[{ accessFlags := 1, nameIndex := 5, descriptorIndex := 6, attributes := #[] }, { accessFlags := 1, nameIndex := 497, descriptorIndex := 427, attributes := #[] }, { accessFlags := 0, nameIndex := 494, descriptorIndex := 142, attributes := #[] }, { accessFlags := 8, nameIndex := 501, descriptorIndex := 391, attributes := #[] }] 49 2 #[1106, 1108, 575, 1110, 1112] #[{ accessFlags := 18, nameIndex := 13, descriptorIndex := 14, attributes := #[] }, { accessFlags := 18, nameIndex := 17, descriptorIndex := 18, attributes := #[] }, { accessFlags := 2, nameIndex := 21, descriptorIndex := 22, attributes := #[] }, { accessFlags := 2, nameIndex := 25, descriptorIndex := 26, attributes := #[] }, { accessFlags := 26, nameIndex := 1116, descriptorIndex := 1117, attributes := #[] }, { accessFlags := 24, nameIndex := 40, descriptorIndex := 26, attributes := #[] }, { accessFlags := 26, nameIndex := 1101, descriptorIndex := 1102, attributes := #[] }, { accessFlags := 26, nameIndex := 1121, descriptorIndex := 1122, attributes := #[] }, { accessFlags := 25, nameIndex := 599, descriptorIndex := 600, attributes := #[] }, { accessFlags := 24, nameIndex := 1125, descriptorIndex := 18, attributes := #[] }, { accessFlags := 24, nameIndex := 1127, descriptorIndex := 18, attributes := #[] }])
  fields := #[{ name := "value", type := (.array .byte), accessFlags := 18, slot := 0, constantValue := 0 }, { name := "coder", type := .byte, accessFlags := 18, slot := 1, constantValue := 0 }, { name := "hash", type := .int, accessFlags := 2, slot := 2, constantValue := 0 }, { name := "hashIsZero", type := .boolean, accessFlags := 2, slot := 3, constantValue := 0 }, { name := "serialVersionUID", type := .long, accessFlags := 26, slot := 0, constantValue := 0 }, { name := "COMPACT_STRINGS", type := .boolean, accessFlags := 24, slot := 1, constantValue := 0 }, { name := "serialPersistentFields", type := (.array (.object "java/io/ObjectStreamField")), accessFlags := 26, slot := 2, constantValue := 0 }, { name := "REPL", type := .char, accessFlags := 26, slot := 3, constantValue := 0 }, { name := "CASE_INSENSITIVE_ORDER", type := (.object "java/util/Comparator"), accessFlags := 25, slot := 4, constantValue := 0 }, { name := "LATIN1", type := .byte, accessFlags := 24, slot := 5, constantValue := 0 }, { name := "UTF16", type := .byte, accessFlags := 24, slot := 6, constantValue := 0 }]
  methods := #[k10m0, k10m1, k10m2, k10m3]
  instanceTypes := #[(.array .byte), .byte, .int, .boolean]
  staticTypes := #[.long, .boolean, (.array (.object "java/io/ObjectStreamField")), .char, (.object "java/util/Comparator"), .byte, .byte]
  resolved := Array.replicate 1451 none
  statics := some 0 }

def pool11 : Array CpInfo := pool [(1, .class_ 2), (0, u "java/lang/String"), (1, .class_ 6), (1, u "java/lang/Object"), (0, u "<init>"), (0, u "()V"), (0, .methodref 1 10), (0, .nameAndType 11 12), (0, u "checkIndex"), (0, u "(II)V"), (1, .class_ 16), (1, u "java/lang/StringLatin1"), (36, u "([BI)C"), (67, u "$assertionsDisabled"), (0, u "Z"), (98, .class_ 223), (1, u "java/lang/StringLatin1$LinesSpliterator"), (28, u "charAt"), (137, .class_ 391), (0, u "java/lang/StringLatin1$CharsSpliterator")] 3

def k11m0 : Method := { name := "<init>", desc := "()V", sig := { parameters := [], returnType := none }, accessFlags := 0, code := none }
def k11c1 : Code := { maxStack := 2, maxLocals := 2, code := jdk_43_method_2_code, exceptionTable := #[], attributes := #[] }
def k11m1 : Method := { name := "charAt", desc := "([BI)C", sig := { parameters := [(.array .byte), .int], returnType := some .char }, accessFlags := 9, code := some k11c1 }
/-- java/lang/StringLatin1 -/
def k11 : Class := { plain "java/lang/StringLatin1" (some 0) with
  accessFlags := 48
  interfaces := #[]
  cf := some (fileOf pool11 14 #[.nestMembers #[390, 221]] #[{ accessFlags := 0, nameIndex := 7, descriptorIndex := 8, attributes := #[] }, { accessFlags := 9, nameIndex := 252, descriptorIndex := 53, attributes := #[] }] 48 4 #[] #[{ accessFlags := 4120, nameIndex := 121, descriptorIndex := 122, attributes := #[] }])
  fields := #[{ name := "$assertionsDisabled", type := .boolean, accessFlags := 4120, slot := 0, constantValue := 0 }]
  methods := #[k11m0, k11m1]
  instanceTypes := #[]
  staticTypes := #[.boolean]
  resolved := Array.replicate 395 none
  statics := none }

def pool12 : Array CpInfo := pool [(2, .class_ 4), (1, u "java/lang/Object"), (0, u "<init>"), (0, u "()V"), (17, .class_ 26), (1, u "jdk/internal/util/Preconditions"), (6, u "checkIndex"), (21, .class_ 56), (0, u "jdk/internal/util/Preconditions$4"), (57, .class_ 115), (0, u "jdk/internal/util/Preconditions$1"), (7, u "SIOOBE_FORMATTER"), (0, u "Ljava/util/function/BiFunction;"), (0, .class_ 126), (0, u "jdk/internal/util/Preconditions$2"), (3, u "AIOOBE_FORMATTER"), (0, .class_ 132), (0, u "jdk/internal/util/Preconditions$3"), (3, u "IOOBE_FORMATTER"), (41, u "(IILjava/util/function/BiFunction;)I")] 15

def k12m0 : Method := { name := "<init>", desc := "()V", sig := { parameters := [], returnType := none }, accessFlags := 1, code := none }
def k12c1 : Code := { maxStack := 3, maxLocals := 3, code := jdk_41_method_11_code, exceptionTable := #[], attributes := #[] }
def k12m1 : Method := { name := "checkIndex", desc := "(IILjava/util/function/BiFunction;)I", sig := { parameters := [.int, .int, (.object "java/util/function/BiFunction")], returnType := some .int }, accessFlags := 9, code := some k12c1 }
/-- jdk/internal/util/Preconditions -/
def k12 : Class := { plain "jdk/internal/util/Preconditions" (some 0) with
  accessFlags := 33
  interfaces := #[]
  cf := some (fileOf pool12 24 #[.nestMembers #[55, 131, 125, 114]] #[{ accessFlags := 1, nameIndex := 5, descriptorIndex := 6, attributes := #[] }, { accessFlags := 9, nameIndex := 33, descriptorIndex := 178, attributes := #[] }] 33 2 #[] #[{ accessFlags := 25, nameIndex := 123, descriptorIndex := 124, attributes := #[] }, { accessFlags := 25, nameIndex := 130, descriptorIndex := 124, attributes := #[] }, { accessFlags := 25, nameIndex := 136, descriptorIndex := 124, attributes := #[] }])
  fields := #[{ name := "SIOOBE_FORMATTER", type := (.object "java/util/function/BiFunction"), accessFlags := 25, slot := 0, constantValue := 0 }, { name := "AIOOBE_FORMATTER", type := (.object "java/util/function/BiFunction"), accessFlags := 25, slot := 1, constantValue := 0 }, { name := "IOOBE_FORMATTER", type := (.object "java/util/function/BiFunction"), accessFlags := 25, slot := 2, constantValue := 0 }]
  methods := #[k12m0, k12m1]
  instanceTypes := #[]
  staticTypes := #[(.object "java/util/function/BiFunction"), (.object "java/util/function/BiFunction"), (.object "java/util/function/BiFunction")]
  resolved := Array.replicate 194 none
  statics := some 1 }

def pool13 : Array CpInfo := pool [(9, u "<init>"), (6, .class_ 18), (1, u "java/lang/Object"), (0, u "()V"), (1, .class_ 23), (1, u "jdk/internal/util/ArraysSupport"), (0, u "LOG2_ARRAY_LONG_INDEX_SCALE"), (0, u "I"), (2, u "U"), (0, u "Ljdk/internal/misc/Unsafe;"), (8, u "BIG_ENDIAN"), (0, u "Z"), (8, u "LOG2_BYTE_BIT_SIZE"), (4, u "LOG2_ARRAY_INT_INDEX_SCALE"), (54, u "JLA"), (0, u "Ljdk/internal/access/JavaLangAccess;"), (11, u "LOG2_ARRAY_BOOLEAN_INDEX_SCALE"), (9, u "LOG2_ARRAY_BYTE_INDEX_SCALE"), (5, u "LOG2_ARRAY_CHAR_INDEX_SCALE"), (5, u "LOG2_ARRAY_SHORT_INDEX_SCALE"), (18, u "LOG2_ARRAY_FLOAT_INDEX_SCALE"), (24, u "LOG2_ARRAY_DOUBLE_INDEX_SCALE"), (89, u "T_BOOLEAN"), (2, u "T_CHAR"), (1, u "T_FLOAT"), (1, u "T_DOUBLE"), (1, u "T_BYTE"), (1, u "T_SHORT"), (1, u "T_INT"), (1, u "T_LONG"), (1, u "SOFT_MAX_ARRAY_LENGTH")] 83

def k13m0 : Method := { name := "<init>", desc := "()V", sig := { parameters := [], returnType := none }, accessFlags := 2, code := none }
/-- jdk/internal/util/ArraysSupport -/
def k13 : Class := { plain "jdk/internal/util/ArraysSupport" (some 0) with
  accessFlags := 33
  interfaces := #[]
  cf := some (fileOf pool13 21 #[] #[{ accessFlags := 2, nameIndex := 9, descriptorIndex := 19, attributes := #[] }] 33 16 #[] #[{ accessFlags := 24, nameIndex := 28, descriptorIndex := 29, attributes := #[] }, { accessFlags := 26, nameIndex := 38, descriptorIndex := 39, attributes := #[] }, { accessFlags := 25, nameIndex := 121, descriptorIndex := 25, attributes := #[] }, { accessFlags := 25, nameIndex := 131, descriptorIndex := 25, attributes := #[] }, { accessFlags := 25, nameIndex := 137, descriptorIndex := 25, attributes := #[] }, { accessFlags := 25, nameIndex := 143, descriptorIndex := 25, attributes := #[] }, { accessFlags := 25, nameIndex := 53, descriptorIndex := 25, attributes := #[] }, { accessFlags := 25, nameIndex := 24, descriptorIndex := 25, attributes := #[] }, { accessFlags := 25, nameIndex := 162, descriptorIndex := 25, attributes := #[] }, { accessFlags := 25, nameIndex := 187, descriptorIndex := 25, attributes := #[] }, { accessFlags := 26, nameIndex := 48, descriptorIndex := 25, attributes := #[] }, { accessFlags := 25, nameIndex := 277, descriptorIndex := 25, attributes := #[] }, { accessFlags := 25, nameIndex := 280, descriptorIndex := 25, attributes := #[] }, { accessFlags := 25, nameIndex := 282, descriptorIndex := 25, attributes := #[] }, { accessFlags := 25, nameIndex := 284, descriptorIndex := 25, attributes := #[] }, { accessFlags := 25, nameIndex := 286, descriptorIndex := 25, attributes := #[] }, { accessFlags := 25, nameIndex := 288, descriptorIndex := 25, attributes := #[] }, { accessFlags := 25, nameIndex := 290, descriptorIndex := 25, attributes := #[] }, { accessFlags := 25, nameIndex := 292, descriptorIndex := 25, attributes := #[] }, { accessFlags := 26, nameIndex := 108, descriptorIndex := 109, attributes := #[] }, { accessFlags := 25, nameIndex := 294, descriptorIndex := 25, attributes := #[] }])
  fields := #[{ name := "U", type := (.object "jdk/internal/misc/Unsafe"), accessFlags := 24, slot := 0, constantValue := 0 }, { name := "BIG_ENDIAN", type := .boolean, accessFlags := 26, slot := 1, constantValue := 0 }, { name := "LOG2_ARRAY_BOOLEAN_INDEX_SCALE", type := .int, accessFlags := 25, slot := 2, constantValue := 0 }, { name := "LOG2_ARRAY_BYTE_INDEX_SCALE", type := .int, accessFlags := 25, slot := 3, constantValue := 0 }, { name := "LOG2_ARRAY_CHAR_INDEX_SCALE", type := .int, accessFlags := 25, slot := 4, constantValue := 0 }, { name := "LOG2_ARRAY_SHORT_INDEX_SCALE", type := .int, accessFlags := 25, slot := 5, constantValue := 0 }, { name := "LOG2_ARRAY_INT_INDEX_SCALE", type := .int, accessFlags := 25, slot := 6, constantValue := 0 }, { name := "LOG2_ARRAY_LONG_INDEX_SCALE", type := .int, accessFlags := 25, slot := 7, constantValue := 0 }, { name := "LOG2_ARRAY_FLOAT_INDEX_SCALE", type := .int, accessFlags := 25, slot := 8, constantValue := 0 }, { name := "LOG2_ARRAY_DOUBLE_INDEX_SCALE", type := .int, accessFlags := 25, slot := 9, constantValue := 0 }, { name := "LOG2_BYTE_BIT_SIZE", type := .int, accessFlags := 26, slot := 10, constantValue := 0 }, { name := "T_BOOLEAN", type := .int, accessFlags := 25, slot := 11, constantValue := 0 }, { name := "T_CHAR", type := .int, accessFlags := 25, slot := 12, constantValue := 0 }, { name := "T_FLOAT", type := .int, accessFlags := 25, slot := 13, constantValue := 0 }, { name := "T_DOUBLE", type := .int, accessFlags := 25, slot := 14, constantValue := 0 }, { name := "T_BYTE", type := .int, accessFlags := 25, slot := 15, constantValue := 0 }, { name := "T_SHORT", type := .int, accessFlags := 25, slot := 16, constantValue := 0 }, { name := "T_INT", type := .int, accessFlags := 25, slot := 17, constantValue := 0 }, { name := "T_LONG", type := .int, accessFlags := 25, slot := 18, constantValue := 0 }, { name := "JLA", type := (.object "jdk/internal/access/JavaLangAccess"), accessFlags := 26, slot := 19, constantValue := 0 }, { name := "SOFT_MAX_ARRAY_LENGTH", type := .int, accessFlags := 25, slot := 20, constantValue := 0 }]
  methods := #[k13m0]
  instanceTypes := #[]
  staticTypes := #[(.object "jdk/internal/misc/Unsafe"), .boolean, .int, .int, .int, .int, .int, .int, .int, .int, .int, .int, .int, .int, .int, .int, .int, .int, .int, (.object "jdk/internal/access/JavaLangAccess"), .int]
  resolved := Array.replicate 378 none
  statics := none }

def pool14 : Array CpInfo := pool [(1, u "java/lang/Cloneable"), (0, .class_ 1), (0, u "java/lang/Object"), (0, .class_ 3)] 3

/-- java/lang/Cloneable -/
def k14 : Class := { plain "java/lang/Cloneable" (some 0) with
  accessFlags := 1537
  interfaces := #[]
  cf := some (fileOf pool14 2 #[] #[] 1537 4 #[] #[])
  fields := #[]
  methods := #[]
  instanceTypes := #[]
  staticTypes := #[]
  resolved := Array.replicate 8 none
  statics := none }

/-- the primitive byte -/
def k15 : Class := { plain "byte" none with kind := .primitive 'B', accessFlags := 0x411 }
/-- [B -/
def k16 : Class := { plain "[B" (some 0) with kind := .array 15 .byte, interfaces := #[14, 4], accessFlags := 1041 }

/-- the primitive int -/
def k17 : Class := { plain "int" none with kind := .primitive 'I', accessFlags := 0x411 }
/-- [I -/
def k18 : Class := { plain "[I" (some 0) with kind := .array 17 .int, interfaces := #[14, 4], accessFlags := 1041 }

def heap : Heap := #[{ cls := 10, slots := #[.long 0, .int 1, .null, .int 0, .null, .int 0, .int 0], vm := .statics 10 },
  { cls := 12, slots := #[.null, .null, .null], vm := .statics 12 }]
def classes : Array Class := #[k0, k1, k2, k3, k4, k5, k6, k7, k8, k9, k10, k11, k12, k13, k14, k15, k16, k17, k18]
def interned : List (Array UInt16 × Addr) := []
def slotsUsed : Nat := 10
def theMethod : MethodId := ⟨1, 1⟩
def args0 : Array Value := #[.int 5, .int 65537, .int 9, .int 3]
def aboutOver (below : List Frame) : State where
  vm := { classes := classes, interned := interned.toArray }
  heap := heap
  slotsUsed := slotsUsed
  threads := #[{ frames := .invoking theMethod args0 :: below }]
def below0 : List Frame := [.native { method := ⟨0, 0⟩, args := #[] }]
def about1 : State := aboutOver below0
def p0 : Program := .bare "" "" ""
def e0 : Env := launch0.env 0 0 0
theorem w_frames : about1.frames = Frame.invoking theMethod args0 :: below0 := rfl
set_option maxRecDepth 65536 in
theorem w_args : argsFit about1.vm theMethod args0 = true := by decide +kernel
set_option maxRecDepth 65536 in
theorem w_heap : heapFits about1 = true := by decide +kernel
set_option maxRecDepth 65536 in
theorem w_runnable : about1.curStatus? = some .runnable := by decide +kernel
set_option maxRecDepth 65536 in
theorem w_alone : about1.alone = true := by decide +kernel
set_option maxRecDepth 65536 in
theorem w_named : about1.methodNamed? x = some theMethod := by decide +kernel
set_option maxRecDepth 65536 in
theorem w_hears : about1.hears theMethod below0 = true := by decide +kernel
set_option maxRecDepth 65536 in
theorem w_ripe : about1.ripe theMethod args0 below0 = true := by decide +kernel
theorem w_running : about1.status = .running := rfl
set_option maxRecDepth 65536 in
theorem w_room : about1.hasRoom e0.platform room_1 = true :=
  launch0.hasRoom_least _ room_1 (by decide +kernel) (by decide +kernel) (by decide +kernel) (by decide +kernel) (by decide +kernel) (by decide +kernel)
theorem allAtoms_all (ts : List Jvm.Cond) (a : Array Jvm.Value) (st : Jvm.State) : (allAtoms ts).before a st = ts.all (fun c => c.before a st) := by
  induction ts with
  | nil => rfl
  | cons c t ih =>
    show (Jvm.Cond.and c (allAtoms t)).before a st = _
    rw [Jvm.Cond.before_and, ih, List.all_cons]
def words1 : List Jvm.Cond := Jvm.Cond.code x code maxLocals ret :: tables_1
/-- a 'code' word, met by the world's own term for the bytes: nothing is compared byte by byte -/
theorem code_word {y : MethodName} {bytes : ByteArray} {mx : Nat} {rt : Option FieldType} {a : Array Value} {s : State} {m : MethodId} {meth : Method} {c : Code} (h1 : s.methodNamed? y = some m) (h2 : s.vm.method? m = some meth) (h3 : meth.code = some c) (h4 : c.code = bytes)
    (h5 : (c.maxLocals == mx && c.exceptionTable.isEmpty && decide (c.maxStack ≤ mostOperands) && decide (meth.sig.returnType = rt) && !meth.locks && decide (parseMethodDescriptor y.desc = some meth.sig)) = true) : (Jvm.Cond.code y bytes mx rt).before a s = true := by
  simp only [Bool.and_eq_true, beq_iff_eq, Bool.not_eq_true', decide_eq_true_eq] at h5
  obtain ⟨⟨⟨⟨⟨g1, g2⟩, g3⟩, g4⟩, g5⟩, g6⟩ := h5
  simp [Cond.before, Cond.holds, Cond.value, h1, h2, h3, h4, g1, g2, g3, g4, g5, g6]
def isCode : Jvm.Cond → Bool
  | .code _ _ _ _ => true
  | _ => false
theorem all_split {L : List Jvm.Cond} {P : Jvm.Cond → Bool} (h1 : L.all (fun c => isCode c || P c) = true) (h2 : ∀ c ∈ L.filter isCode, P c = true) : L.all P = true := by
  refine List.all_eq_true.mpr fun c hc => ?_
  have h := List.all_eq_true.mp h1 c hc
  rcases Bool.eq_false_or_eq_true (isCode c) with hi | hi
  · exact h2 c (List.mem_filter.mpr ⟨hc, hi⟩)
  · simpa [hi] using h
set_option maxRecDepth 65536 in
theorem w_c0 : (Jvm.Cond.code x code maxLocals ret).before args0 about1 = true := code_word (m := ⟨1, 1⟩) (meth := k1m1) (c := k1c1) (by decide +kernel) rfl rfl rfl (by decide +kernel)
set_option maxRecDepth 65536 in
theorem w_c1 : (Jvm.Cond.code ({ cls := "com/example/lehre/lehre/XsdLexicalNumeralPinLaw", name := "pick", desc := "(I)C" } : Jvm.MethodName) method_3_code (1 : Nat) (Option.some Jvm.ClassFile.FieldType.char)).before args0 about1 = true := code_word (m := ⟨1, 2⟩) (meth := k1m2) (c := k1c2) (by decide +kernel) rfl rfl rfl (by decide +kernel)
set_option maxRecDepth 65536 in
theorem w_c2 : (Jvm.Cond.code ({ cls := "com/example/lehre/lehre/XsdLexical", name := "numeral", desc := "(IC)I" } : Jvm.MethodName) prog_173_method_9_code (3 : Nat) (Option.some Jvm.ClassFile.FieldType.int)).before args0 about1 = true := code_word (m := ⟨7, 0⟩) (meth := k7m0) (c := k7c0) (by decide +kernel) rfl rfl rfl (by decide +kernel)
set_option maxRecDepth 65536 in
theorem w_c3 : (Jvm.Cond.code ({ cls := "com/example/lehre/lehre/XsdLexicalNumeralPinLaw", name := "expected", desc := "(ICCCC)I" } : Jvm.MethodName) method_7_code (9 : Nat) (Option.some Jvm.ClassFile.FieldType.int)).before args0 about1 = true := code_word (m := ⟨1, 6⟩) (meth := k1m6) (c := k1c6) (by decide +kernel) rfl rfl rfl (by decide +kernel)
set_option maxRecDepth 65536 in
theorem w_c4 : (Jvm.Cond.code ({ cls := "com/example/lehre/lehre/XsdLexicalNumeralPinLaw", name := "sum", desc := "(IIICCCC)I" } : Jvm.MethodName) method_6_code (7 : Nat) (Option.some Jvm.ClassFile.FieldType.int)).before args0 about1 = true := code_word (m := ⟨1, 5⟩) (meth := k1m5) (c := k1c5) (by decide +kernel) rfl rfl rfl (by decide +kernel)
set_option maxRecDepth 65536 in
theorem w_c5 : (Jvm.Cond.code ({ cls := "com/example/lehre/lehre/XsdLexicalNumeralPinLaw", name := "count", desc := "(CIIII)I" } : Jvm.MethodName) method_5_code (6 : Nat) (Option.some Jvm.ClassFile.FieldType.int)).before args0 about1 = true := code_word (m := ⟨1, 4⟩) (meth := k1m4) (c := k1c4) (by decide +kernel) rfl rfl rfl (by decide +kernel)
set_option maxRecDepth 65536 in
theorem w_c6 : (Jvm.Cond.code ({ cls := "com/example/lehre/lehre/XsdLexicalNumeralPinLaw", name := "isDigit", desc := "(C)Z" } : Jvm.MethodName) method_4_code (1 : Nat) (Option.some Jvm.ClassFile.FieldType.boolean)).before args0 about1 = true := code_word (m := ⟨1, 3⟩) (meth := k1m3) (c := k1c3) (by decide +kernel) rfl rfl rfl (by decide +kernel)
set_option maxRecDepth 65536 in
theorem w_c7 : (Jvm.Cond.code ({ cls := "java/lang/String", name := "charAt", desc := "(I)C" } : Jvm.MethodName) jdk_42_method_56_code (2 : Nat) (Option.some Jvm.ClassFile.FieldType.char)).before args0 about1 = true := code_word (m := ⟨10, 1⟩) (meth := k10m1) (c := k10c1) (by decide +kernel) rfl rfl rfl (by decide +kernel)
set_option maxRecDepth 65536 in
theorem w_c8 : (Jvm.Cond.code ({ cls := "java/lang/String", name := "isLatin1", desc := "()Z" } : Jvm.MethodName) jdk_42_method_154_code (1 : Nat) (Option.some Jvm.ClassFile.FieldType.boolean)).before args0 about1 = true := code_word (m := ⟨10, 2⟩) (meth := k10m2) (c := k10c2) (by decide +kernel) rfl rfl rfl (by decide +kernel)
set_option maxRecDepth 65536 in
theorem w_c9 : (Jvm.Cond.code ({ cls := "java/lang/StringLatin1", name := "charAt", desc := "([BI)C" } : Jvm.MethodName) jdk_43_method_2_code (2 : Nat) (Option.some Jvm.ClassFile.FieldType.char)).before args0 about1 = true := code_word (m := ⟨11, 1⟩) (meth := k11m1) (c := k11c1) (by decide +kernel) rfl rfl rfl (by decide +kernel)
set_option maxRecDepth 65536 in
theorem w_c10 : (Jvm.Cond.code ({ cls := "java/lang/String", name := "checkIndex", desc := "(II)V" } : Jvm.MethodName) jdk_42_method_155_code (2 : Nat) (Option.none : Option Jvm.ClassFile.FieldType)).before args0 about1 = true := code_word (m := ⟨10, 3⟩) (meth := k10m3) (c := k10c3) (by decide +kernel) rfl rfl rfl (by decide +kernel)
set_option maxRecDepth 65536 in
theorem w_c11 : (Jvm.Cond.code ({ cls := "jdk/internal/util/Preconditions", name := "checkIndex", desc := "(IILjava/util/function/BiFunction;)I" } : Jvm.MethodName) jdk_41_method_11_code (3 : Nat) (Option.some Jvm.ClassFile.FieldType.int)).before args0 about1 = true := code_word (m := ⟨12, 1⟩) (meth := k12m1) (c := k12c1) (by decide +kernel) rfl rfl rfl (by decide +kernel)
def codes1 : List Jvm.Cond := [Jvm.Cond.code x code maxLocals ret, Jvm.Cond.code ({ cls := "com/example/lehre/lehre/XsdLexicalNumeralPinLaw", name := "pick", desc := "(I)C" } : Jvm.MethodName) method_3_code (1 : Nat) (Option.some Jvm.ClassFile.FieldType.char), Jvm.Cond.code ({ cls := "com/example/lehre/lehre/XsdLexical", name := "numeral", desc := "(IC)I" } : Jvm.MethodName) prog_173_method_9_code (3 : Nat) (Option.some Jvm.ClassFile.FieldType.int), Jvm.Cond.code ({ cls := "com/example/lehre/lehre/XsdLexicalNumeralPinLaw", name := "expected", desc := "(ICCCC)I" } : Jvm.MethodName) method_7_code (9 : Nat) (Option.some Jvm.ClassFile.FieldType.int), Jvm.Cond.code ({ cls := "com/example/lehre/lehre/XsdLexicalNumeralPinLaw", name := "sum", desc := "(IIICCCC)I" } : Jvm.MethodName) method_6_code (7 : Nat) (Option.some Jvm.ClassFile.FieldType.int), Jvm.Cond.code ({ cls := "com/example/lehre/lehre/XsdLexicalNumeralPinLaw", name := "count", desc := "(CIIII)I" } : Jvm.MethodName) method_5_code (6 : Nat) (Option.some Jvm.ClassFile.FieldType.int), Jvm.Cond.code ({ cls := "com/example/lehre/lehre/XsdLexicalNumeralPinLaw", name := "isDigit", desc := "(C)Z" } : Jvm.MethodName) method_4_code (1 : Nat) (Option.some Jvm.ClassFile.FieldType.boolean), Jvm.Cond.code ({ cls := "java/lang/String", name := "charAt", desc := "(I)C" } : Jvm.MethodName) jdk_42_method_56_code (2 : Nat) (Option.some Jvm.ClassFile.FieldType.char), Jvm.Cond.code ({ cls := "java/lang/String", name := "isLatin1", desc := "()Z" } : Jvm.MethodName) jdk_42_method_154_code (1 : Nat) (Option.some Jvm.ClassFile.FieldType.boolean), Jvm.Cond.code ({ cls := "java/lang/StringLatin1", name := "charAt", desc := "([BI)C" } : Jvm.MethodName) jdk_43_method_2_code (2 : Nat) (Option.some Jvm.ClassFile.FieldType.char), Jvm.Cond.code ({ cls := "java/lang/String", name := "checkIndex", desc := "(II)V" } : Jvm.MethodName) jdk_42_method_155_code (2 : Nat) (Option.none : Option Jvm.ClassFile.FieldType), Jvm.Cond.code ({ cls := "jdk/internal/util/Preconditions", name := "checkIndex", desc := "(IILjava/util/function/BiFunction;)I" } : Jvm.MethodName) jdk_41_method_11_code (3 : Nat) (Option.some Jvm.ClassFile.FieldType.int)]
set_option maxRecDepth 65536 in
theorem codes_eq : words1.filter isCode = codes1 := rfl
theorem w_codes : ∀ c ∈ words1.filter isCode, c.before args0 about1 = true := by
  rw [codes_eq]
  intro c hc
  simp only [codes1, List.mem_cons, List.not_mem_nil, or_false] at hc
  rcases hc with rfl | rfl | rfl | rfl | rfl | rfl | rfl | rfl | rfl | rfl | rfl | rfl
  · exact w_c0
  · exact w_c1
  · exact w_c2
  · exact w_c3
  · exact w_c4
  · exact w_c5
  · exact w_c6
  · exact w_c7
  · exact w_c8
  · exact w_c9
  · exact w_c10
  · exact w_c11
set_option maxRecDepth 65536 in
theorem w_t1 : (words1.take 24).all (fun c => isCode c || c.before args0 about1) = true := by decide +kernel
set_option maxRecDepth 65536 in
theorem w_t2 : ((words1.drop 24).take 24).all (fun c => isCode c || c.before args0 about1) = true := by decide +kernel
set_option maxRecDepth 65536 in
theorem w_t3 : ((words1.drop 24).drop 24).all (fun c => isCode c || c.before args0 about1) = true := by decide +kernel
theorem w_tables : (allAtoms (Jvm.Cond.code x code maxLocals ret :: tables_1)).before args0 about1 = true := by
  rw [allAtoms_all]
  show words1.all (fun c => c.before args0 about1) = true
  refine all_split ?_ w_codes
  rw [← List.take_append_drop 24 words1, List.all_append, w_t1, ← List.take_append_drop 24 (words1.drop 24), List.all_append, w_t2, w_t3]
  rfl
set_option maxRecDepth 65536 in
theorem w_rest : rest_1_c.before args0 about1 = true := by decide +kernel
set_option maxRecDepth 65536 in
theorem w_case : (Jvm.Cond.and given_1 narrow_1).before args0 about1 = true := by decide +kernel
set_option maxRecDepth 65536 in
theorem w_consts : constsHeld consts_1 about1 := Jvm.Lit.constsHeldB_iff.mp (by decide +kernel)
theorem w_applies : (headSpec (Jvm.Cond.code x code maxLocals ret :: tables_1) room_1).applies x e0.platform about1 = true :=
  (Spec.applies_iff w_frames).mpr ⟨w_running, w_runnable, w_alone, w_named, w_hears, w_ripe, w_room, w_tables⟩
theorem atStart : AtStart classFile x code maxLocals ret World_1 tables_1 room_1 Calls_1 rest_1 Pre_1 launch0 p0 e0 about1 theMethod args0 below0 :=
  ⟨lists_1, trivial, launch0.admits_env _ _ _, launch0.least_env, fairChoices_fair.cas, fairChoices_fair.clock, w_frames, w_args, w_heap, w_applies, ⟨w_consts, trivial⟩, w_rest, w_case⟩
end start1
theorem witness_1 : WitnessClaimed_1 := ⟨start1.p0, start1.e0, start1.about1, start1.theMethod, start1.args0, start1.below0, start1.atStart⟩
end Jvm.Pilot.@@N@@
