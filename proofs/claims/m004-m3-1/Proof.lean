import JvmDerived
import JvmDerived.Pilot.@@N@@Statement
import JvmDerived.Pilot.@@N@@Code
set_option linter.unusedVariables false
set_option linter.unusedSimpArgs false
@@BLOCK:NumsL.lean.txt@@
namespace Jvm.RoadKit
open Sem ClassFile Op Lib Jvm.Stand Jvm.Free Jvm.LawKit
section New
variable {p : Program} {l : Launch} {e : Env} {R : Room} {s : State} {m : MethodId} {args : Array Value} {below : List Frame} {meth : Method} {c : Code} {T : State} {locs : List Loc} {cells slots : Nat}
theorem retI (X : Stand p l e R s m args below meth c T locs cells slots) (hx : p.tables.exec = Jvm.exec) {pc : Nat} {Ls : Array Slot} {z : Int32} {rest : List Value} (hret : meth.sig.returnType = some .int) (hd : decode c.code pc = .ok (.ireturn, 1)) {fs : List Frame}
    (hl : ∀ (f : JFrame) (acts : List Action), f.method = m → f.locked = none → f.entered = [] → (doReturn e (T.setTop f) acts (some (.int z))).1 = T.setFrames fs) : Steps p.tables e below (T.setTop (mkF m pc Ls (.int z :: rest))) (T.setFrames fs) := by
  have hm' : T.vm.method? m = some meth := X.method'
  have hn : narrow .int (.int z) = .int z := rfl
  show Steps p.tables e below (T.setTop { method := m, pc := pc, locals := Ls, stack := _ :: rest, locked := none }) _
  jvm_step X.here [X.here.top, hx, hd, hm', hret, hn]
  first | (intro acts; rw [hl _ acts rfl rfl rfl]) | rw [hl _ _ rfl rfl rfl]
  exact Steps.refl _
end New
end Jvm.RoadKit
namespace Jvm.Pilot.@@N@@
open Jvm Jvm.ClassFile Sem Op Lib Jvm.Free Jvm.Stand Jvm.LawKit Jvm.RoadKit Bundle Jvm.Pilot.@@N@@.Jvm.D
section Own
variable {p : Program} {l : Launch} {e : Env} {R : Room} {s : State} {m : MethodId} {args : Array Value} {below : List Frame} {meth : Method} {c : Code} {T : State} {locs : List Loc} {cells slots : Nat}
/-- the run goes on from S to its end, and P holds there -/
def own_Goes (tb : Tables) (e : Env) (below : List Frame) (S : State) (P : State → Outcome → Prop) : Prop :=
  ∃ s₂ o, Steps tb e below S s₂ ∧ s₂.status = .running ∧ Ended s₂ below o ∧ P s₂ o
theorem own_step {tb : Tables} {S S' : State} {P : State → Outcome → Prop} (h : ∀ t, Steps tb e below S' t → Steps tb e below S t) (k : own_Goes tb e below S' P) : own_Goes tb e below S P := by
  obtain ⟨s₂, o, h1, h2⟩ := k
  exact ⟨s₂, o, h _ h1, h2⟩
theorem own_enter {tb : Tables} {g g' : JFrame} {P : State → Outcome → Prop} (q : g = g') (k : own_Goes tb e below (T.setTop g') P) : own_Goes tb e below (T.setTop g) P := q ▸ k
def own_P (s : State) (Q : Option Value → Heap → List Loc → Prop) (C K : Nat) : State → Outcome → Prop := fun U o => ∃ v L, o = .returned v ∧ Q v U.heap L ∧ FrameEnd s o U L C K
/-- a body that writes nothing -/
def own_Qp (w : Option Value) (h0 : Heap) (v : Option Value) (h : Heap) (L : List Loc) : Prop := v = w ∧ L = [] ∧ h = h0
/-- a body that makes cells and writes none that stood before -/
def own_Qa (w : Option Value) (h0 : Heap) (n0 : Nat) (v : Option Value) (h : Heap) (L : List Loc) : Prop := v = w ∧ Fr n0 L ∧ Keep h0 h []
/-- the law -/
def own_Ql (w : Option Value) (n0 : Nat) (v : Option Value) (h : Heap) (L : List Loc) : Prop := v = w ∧ Fr n0 L
variable {Q : Option Value → Heap → List Loc → Prop} {C K : Nat}
theorem own_retI (X : Stand p l e R s m args below meth c T locs cells slots) (hx : p.tables.exec = Jvm.exec) {pc : Nat} {Ls : Array Slot} {z : Int32} {rest : List Value} (hret : meth.sig.returnType = some .int) (hd : decode c.code pc = .ok (.ireturn, 1)) (hk : meth.locks = false)
    (hQ : Q (some (.int z)) T.heap locs) (hc : cells ≤ C) (hs : slots ≤ K) : own_Goes p.tables e below (T.setTop (mkF m pc Ls (.int z :: rest))) (own_P s Q C K) := by
  obtain ⟨fs, hr, hrun, hended, hW, hsame⟩ := X.leave (v := some (.int z)) (fun h => by rw [hret] at h; cases h) hk
  exact ⟨_, _, retI X hx hret hd hr, hrun, hended, _, _, rfl, hQ, ⟨_, rfl⟩, hW, hsame.mono hc hs⟩
theorem own_retN (X : Stand p l e R s m args below meth c T locs cells slots) (hx : p.tables.exec = Jvm.exec) {pc : Nat} {Ls : Array Slot} {z : Int32} {t : FieldType} {rest : List Value} (hret : meth.sig.returnType = some t) (ht : t = .boolean ∨ t = .byte ∨ t = .char ∨ t = .short) (hd : decode c.code pc = .ok (.ireturn, 1)) (hk : meth.locks = false)
    {w : Int32} (hw : nar t z = w) (hQ : Q (some (.int w)) T.heap locs) (hc : cells ≤ C) (hs : slots ≤ K) : own_Goes p.tables e below (T.setTop (mkF m pc Ls (.int z :: rest))) (own_P s Q C K) := by
  subst hw
  obtain ⟨fs, hr, hrun, hended, hW, hsame⟩ := X.leave (v := some (.int (nar t z))) (fun h => by rw [hret] at h; cases h) hk
  exact ⟨_, _, retN X hx hret ht hd hr, hrun, hended, _, _, rfl, hQ, ⟨_, rfl⟩, hW, hsame.mono hc hs⟩
theorem own_retJ (X : Stand p l e R s m args below meth c T locs cells slots) (hx : p.tables.exec = Jvm.exec) {pc : Nat} {Ls : Array Slot} {z : Int64} (hret : meth.sig.returnType = some .long) (hd : decode c.code pc = .ok (.lreturn, 1)) (hk : meth.locks = false)
    (hQ : Q (some (.long z)) T.heap locs) (hc : cells ≤ C) (hs : slots ≤ K) : own_Goes p.tables e below (T.setTop (mkF m pc Ls [.long z])) (own_P s Q C K) := by
  obtain ⟨fs, hr, hrun, hended, hW, hsame⟩ := X.leave (v := some (.long z)) (fun h => by rw [hret] at h; cases h) hk
  exact ⟨_, _, X.lreturnOut hx hret hd hr, hrun, hended, _, _, rfl, hQ, ⟨_, rfl⟩, hW, hsame.mono hc hs⟩
theorem own_retV (X : Stand p l e R s m args below meth c T locs cells slots) (hx : p.tables.exec = Jvm.exec) {pc : Nat} {Ls : Array Slot} (hret : meth.sig.returnType = none) (hd : decode c.code pc = .ok (.return_, 1)) (hk : meth.locks = false)
    (hQ : Q none T.heap locs) (hc : cells ≤ C) (hs : slots ≤ K) : own_Goes p.tables e below (T.setTop (mkF m pc Ls [])) (own_P s Q C K) := by
  obtain ⟨fs, hr, hrun, hended, hW, hsame⟩ := X.leave (v := none) (fun _ => rfl) hk
  exact ⟨_, _, X.returnOut hx hret hd hr, hrun, hended, _, _, rfl, hQ, ⟨_, rfl⟩, hW, hsame.mono hc hs⟩
theorem own_flat (X : Stand p l e R s m args below meth c T (locs ++ []) (cells + 0) (slots + 0)) : Stand p l e R s m args below meth c T locs cells slots := List.append_nil locs ▸ X
end Own

theorem d1_0 : decode prog_28_method_9_code 0 = .ok (.iload_n 0, 1) := by decide +kernel
theorem d1_1 : decode prog_28_method_9_code 1 = .ok (.iload_n 1, 1) := by decide +kernel
theorem d1_2 : decode prog_28_method_9_code 2 = .ok (.imul, 1) := by decide +kernel
theorem d1_3 : decode prog_28_method_9_code 3 = .ok (.bipush 8, 2) := by decide +kernel
theorem d1_5 : decode prog_28_method_9_code 5 = .ok (.iadd, 1) := by decide +kernel
theorem d1_6 : decode prog_28_method_9_code 6 = .ok (.iconst 1, 1) := by decide +kernel
theorem d1_7 : decode prog_28_method_9_code 7 = .ok (.isub, 1) := by decide +kernel
theorem d1_8 : decode prog_28_method_9_code 8 = .ok (.bipush 8, 2) := by decide +kernel
theorem d1_10 : decode prog_28_method_9_code 10 = .ok (.idiv, 1) := by decide +kernel
theorem d1_11 : decode prog_28_method_9_code 11 = .ok (.ireturn, 1) := by decide +kernel
theorem pn_1 : plainName "com/example/shingle/shingle/Signature" = true := by first | (simp [plainName, overriddenIn]; done) | decide +kernel
theorem ef_1 (m : MethodId) (p0 : Int32) (p1 : Int32) : entryFrame m #[(.int p0), (.int p1)] 2 = mkF m 0 #[.val (.int p0), .val (.int p1)] [] := by first | (simp [entryFrame, mkF, argsToLocals, Value.category]; done) | rfl
def own_f1 (p0 : Int32) (p1 : Int32) : Int32 :=
  ((((p0 * p1) + (8 : Int32)) - (1 : Int32)) / (8 : Int32))
abbrev own_room1 : Room := { frames := 0, cells := 0, slots := 0, locals := 0 }
set_option maxRecDepth 65536 in
set_option maxHeartbeats 40000000 in
theorem rm1 (l : Launch) (Z : State) (a0 : Array Value) (hw : ∀ d ∈ tables_1, d.before a0 Z = true) (ws : List Jvm.Cond) (p0 : Int32) (p1 : Int32) (h0 : Heap) (n0 : Nat) (Z0 : n0 ≤ h0.size) :
    MetFree l (⟨"com/example/shingle/shingle/Signature", "packedLength", "(II)I"⟩ : MethodName) (head1 (Jvm.Cond.code (⟨"com/example/shingle/shingle/Signature", "packedLength", "(II)I"⟩ : MethodName) prog_28_method_9_code 2 (some .int) :: ws) own_room1) (fun a U => a = #[(.int p0), (.int p1)] ∧ Z.Warmed39 U.vm ∧ U.heap = h0) (fun _ _ _ _ _ => True) (fun _ U o U' => ∃ v L, o = .returned v ∧ own_Qp (some (.int (own_f1 p0 p1))) h0 v U'.heap L ∧ FrameEnd U o U' L own_room1.cells own_room1.slots) := by
  refine MetFree.of_bodySF (plainFor_of_name pn_1) hisR ?_
  intro p e s m args below meth c s₁ Bd hml0 hP hK
  obtain ⟨rfl, hZ, hh⟩ := hP
  have hx := Bd.exec
  have hby := Bd.bytes
  have hml : c.maxLocals = 2 := hml0
  have hown : s.vm.findClass "com/example/shingle/shingle/Signature" = some m.cls := findClass_of_methodNamed Bd.named
  have hnm := (name_of_methodNamed Bd.named Bd.method).1
  have X0 : Stand p l e own_room1 s m #[(.int p0), (.int p1)] below meth c s₁ [] 0 0 := Stand.of_body Bd
  have e0 : s₁.heap = h0 := by rw [← hh, Bd.state]; rfl
  have N0 := Fr.nil n0
  refine own_enter (ef_1 m p0 p1) ?_
  show own_Goes p.tables e below (s₁.setTop (mkF m 0 #[.val (.int p0), .val (.int p1)] [])) (own_P s (own_Qp (some (.int (own_f1 p0 p1))) h0) own_room1.cells own_room1.slots)
  refine own_step (fun _ => XS.iloadN X0.here hx rfl (hb hby d1_0) rfl) ?_
  show own_Goes p.tables e below (s₁.setTop (mkF m 1 #[.val (.int p0), .val (.int p1)] [(.int p0)])) _
  refine own_step (fun _ => XS.iloadN X0.here hx rfl (hb hby d1_1) rfl) ?_
  show own_Goes p.tables e below (s₁.setTop (mkF m 2 #[.val (.int p0), .val (.int p1)] [(.int p1), (.int p0)])) _
  refine own_step (fun _ => XS.imul X0.here hx rfl (hb hby d1_2) rfl) ?_
  show own_Goes p.tables e below (s₁.setTop (mkF m 3 #[.val (.int p0), .val (.int p1)] [(.int (p0 * p1))])) _
  refine own_step (fun _ => XS.bipush X0.here hx rfl (hb hby d1_3)) ?_
  show own_Goes p.tables e below (s₁.setTop (mkF m 5 #[.val (.int p0), .val (.int p1)] [(.int (8 : Int32)), (.int (p0 * p1))])) _
  refine own_step (fun _ => XS.iadd X0.here hx rfl (hb hby d1_5) rfl) ?_
  show own_Goes p.tables e below (s₁.setTop (mkF m 6 #[.val (.int p0), .val (.int p1)] [(.int ((p0 * p1) + (8 : Int32)))])) _
  refine own_step (fun _ => XS.iconst X0.here hx rfl (hb hby d1_6)) ?_
  show own_Goes p.tables e below (s₁.setTop (mkF m 7 #[.val (.int p0), .val (.int p1)] [(.int (1 : Int32)), (.int ((p0 * p1) + (8 : Int32)))])) _
  refine own_step (fun _ => XS.isub X0.here hx rfl (hb hby d1_7) rfl) ?_
  show own_Goes p.tables e below (s₁.setTop (mkF m 8 #[.val (.int p0), .val (.int p1)] [(.int (((p0 * p1) + (8 : Int32)) - (1 : Int32)))])) _
  refine own_step (fun _ => XS.bipush X0.here hx rfl (hb hby d1_8)) ?_
  show own_Goes p.tables e below (s₁.setTop (mkF m 10 #[.val (.int p0), .val (.int p1)] [(.int (8 : Int32)), (.int (((p0 * p1) + (8 : Int32)) - (1 : Int32)))])) _
  refine own_step (fun _ => XS.idiv X0.here hx rfl (hb hby d1_10) rfl (by decide)) ?_
  show own_Goes p.tables e below (s₁.setTop (mkF m 11 #[.val (.int p0), .val (.int p1)] [(.int ((((p0 * p1) + (8 : Int32)) - (1 : Int32)) / (8 : Int32)))])) _
  have hv : (own_f1 p0 p1) = ((((p0 * p1) + (8 : Int32)) - (1 : Int32)) / (8 : Int32)) := by exact rfl
  rw [hv]
  exact own_retI X0 hx Bd.returns (hb hby d1_11) (BodyLoose.notSynchronized Bd) ⟨rfl, rfl, e0⟩ (by decide) (by decide)
theorem pn_0 : plainName "com/example/shingle/shingle/SignaturePackedLengthPinLaw" = true := by first | (simp [plainName, overriddenIn]; done) | decide +kernel
theorem pd_0_0 : parseMethodDescriptor "(II)I" = some ⟨[.int, .int], some .int⟩ := by decide +kernel
theorem ef_0 (m : MethodId) (p0 : Int32) (p1 : Int32) : entryFrame m #[(.int p0), (.int p1)] maxLocals = mkF m 0 #[.val (.int p0), .val (.int p1), .unset, .unset, .unset, .unset, .unset, .unset] [] := by first | (simp [entryFrame, mkF, argsToLocals, Value.category, maxLocals]; done) | rfl
def own_f0_64 : Int32 :=
  (0 : Int32)
def own_f0 (p0 : Int32) (p1 : Int32) : Int32 :=
  let z8 : Int32 := ((p0 &&& (2147483647 : Int32)) - (p0 &&& (2147483647 : Int32)) / (4097 : Int32) * (4097 : Int32))
  let z18 : Int32 := (((p1 &&& (2147483647 : Int32)) - (p1 &&& (2147483647 : Int32)) / (64 : Int32) * (64 : Int32)) + (1 : Int32))
  if ((8 : Int64) * ((own_f1 z8 z18).toInt64)) < ((z8.toInt64) * (z18.toInt64)) then
    (own_f0_64)
  else
    if ((8 : Int64) * (((own_f1 z8 z18).toInt64) - (1 : Int64))) < ((z8.toInt64) * (z18.toInt64)) then
      (1 : Int32)
    else
      (own_f0_64)
set_option maxRecDepth 65536 in
set_option maxHeartbeats 40000000 in
theorem rm0 (l : Launch) (Z : State) (a0 : Array Value) (hw : ∀ d ∈ tables_1, d.before a0 Z = true) (ws : List Jvm.Cond) (p0 : Int32) (p1 : Int32) (h0 : Heap) (n0 : Nat) (Z0 : n0 ≤ h0.size) :
    MetFree l x (head1 (Jvm.Cond.code x code maxLocals ret :: ws) room_1) (fun a U => a = #[(.int p0), (.int p1)] ∧ Z.Warmed39 U.vm ∧ U.heap = h0) (fun _ _ _ _ _ => True) (fun _ U o U' => ∃ v L, o = .returned v ∧ own_Ql (some (.int (own_f0 p0 p1))) n0 v U'.heap L ∧ FrameEnd U o U' L 0 0) := by
  refine MetFree.of_bodySF (plainFor_of_name pn_0) hisR ?_
  intro p e s m args below meth c s₁ Bd hml0 hP hK
  obtain ⟨rfl, hZ, hh⟩ := hP
  have hx := Bd.exec
  have hby := Bd.bytes
  have hml : c.maxLocals = 8 := hml0
  have hown : s.vm.findClass "com/example/shingle/shingle/SignaturePackedLengthPinLaw" = some m.cls := findClass_of_methodNamed Bd.named
  have hnm := (name_of_methodNamed Bd.named Bd.method).1
  have X0 : Stand p l e room_1 s m #[(.int p0), (.int p1)] below meth c s₁ [] 0 0 := Stand.of_body Bd
  have e0 : s₁.heap = h0 := by rw [← hh, Bd.state]; rfl
  have N0 := Fr.nil n0
  refine own_enter (ef_0 m p0 p1) ?_
  show own_Goes p.tables e below (s₁.setTop (mkF m 0 #[.val (.int p0), .val (.int p1), .unset, .unset, .unset, .unset, .unset, .unset] [])) (own_P s (own_Ql (some (.int (own_f0 p0 p1))) n0) 0 0)
  refine own_step (fun _ => XS.iloadN X0.here hx rfl (hb hby at_0) rfl) ?_
  show own_Goes p.tables e below (s₁.setTop (mkF m 1 #[.val (.int p0), .val (.int p1), .unset, .unset, .unset, .unset, .unset, .unset] [(.int p0)])) _
  refine own_step (X0.ldcInt hx hown (mvT hZ (hw _ (List.mem_of_getElem? (i := 0) rfl))) (g := (mkF m 1 #[.val (.int p0), .val (.int p1), .unset, .unset, .unset, .unset, .unset, .unset] [(.int p0)])) rfl (hb hby at_1)) ?_
  show own_Goes p.tables e below (s₁.setTop (mkF m 3 #[.val (.int p0), .val (.int p1), .unset, .unset, .unset, .unset, .unset, .unset] [(.int (2147483647 : Int32)), (.int p0)])) _
  refine own_step (fun _ => XS.iand X0.here hx rfl (hb hby at_3) rfl) ?_
  show own_Goes p.tables e below (s₁.setTop (mkF m 4 #[.val (.int p0), .val (.int p1), .unset, .unset, .unset, .unset, .unset, .unset] [(.int (p0 &&& (2147483647 : Int32)))])) _
  refine own_step (fun _ => XS.sipush X0.here hx rfl (hb hby at_4)) ?_
  show own_Goes p.tables e below (s₁.setTop (mkF m 7 #[.val (.int p0), .val (.int p1), .unset, .unset, .unset, .unset, .unset, .unset] [(.int (4097 : Int32)), (.int (p0 &&& (2147483647 : Int32)))])) _
  refine own_step (fun _ => XS.irem X0.here hx rfl (hb hby at_7) rfl (by decide)) ?_
  show own_Goes p.tables e below (s₁.setTop (mkF m 8 #[.val (.int p0), .val (.int p1), .unset, .unset, .unset, .unset, .unset, .unset] [(.int ((p0 &&& (2147483647 : Int32)) - (p0 &&& (2147483647 : Int32)) / (4097 : Int32) * (4097 : Int32)))])) _
  obtain ⟨z8, hz8⟩ : ∃ z : Int32, z = ((p0 &&& (2147483647 : Int32)) - (p0 &&& (2147483647 : Int32)) / (4097 : Int32) * (4097 : Int32)) := ⟨_, rfl⟩
  refine own_step (fun _ => XS.istoreN X0.here hx rfl (hb hby at_8) rfl (l' := #[.val (.int p0), .val (.int p1), .val (.int z8), .unset, .unset, .unset, .unset, .unset]) (by subst hz8; rfl)) ?_
  show own_Goes p.tables e below (s₁.setTop (mkF m 9 #[.val (.int p0), .val (.int p1), .val (.int z8), .unset, .unset, .unset, .unset, .unset] [])) _
  refine own_step (fun _ => XS.iloadN X0.here hx rfl (hb hby at_9) rfl) ?_
  show own_Goes p.tables e below (s₁.setTop (mkF m 10 #[.val (.int p0), .val (.int p1), .val (.int z8), .unset, .unset, .unset, .unset, .unset] [(.int p1)])) _
  refine own_step (X0.ldcInt hx hown (mvT hZ (hw _ (List.mem_of_getElem? (i := 0) rfl))) (g := (mkF m 10 #[.val (.int p0), .val (.int p1), .val (.int z8), .unset, .unset, .unset, .unset, .unset] [(.int p1)])) rfl (hb hby at_10)) ?_
  show own_Goes p.tables e below (s₁.setTop (mkF m 12 #[.val (.int p0), .val (.int p1), .val (.int z8), .unset, .unset, .unset, .unset, .unset] [(.int (2147483647 : Int32)), (.int p1)])) _
  refine own_step (fun _ => XS.iand X0.here hx rfl (hb hby at_12) rfl) ?_
  show own_Goes p.tables e below (s₁.setTop (mkF m 13 #[.val (.int p0), .val (.int p1), .val (.int z8), .unset, .unset, .unset, .unset, .unset] [(.int (p1 &&& (2147483647 : Int32)))])) _
  refine own_step (fun _ => XS.bipush X0.here hx rfl (hb hby at_13)) ?_
  show own_Goes p.tables e below (s₁.setTop (mkF m 15 #[.val (.int p0), .val (.int p1), .val (.int z8), .unset, .unset, .unset, .unset, .unset] [(.int (64 : Int32)), (.int (p1 &&& (2147483647 : Int32)))])) _
  refine own_step (fun _ => XS.irem X0.here hx rfl (hb hby at_15) rfl (by decide)) ?_
  show own_Goes p.tables e below (s₁.setTop (mkF m 16 #[.val (.int p0), .val (.int p1), .val (.int z8), .unset, .unset, .unset, .unset, .unset] [(.int ((p1 &&& (2147483647 : Int32)) - (p1 &&& (2147483647 : Int32)) / (64 : Int32) * (64 : Int32)))])) _
  refine own_step (fun _ => XS.iconst X0.here hx rfl (hb hby at_16)) ?_
  show own_Goes p.tables e below (s₁.setTop (mkF m 17 #[.val (.int p0), .val (.int p1), .val (.int z8), .unset, .unset, .unset, .unset, .unset] [(.int (1 : Int32)), (.int ((p1 &&& (2147483647 : Int32)) - (p1 &&& (2147483647 : Int32)) / (64 : Int32) * (64 : Int32)))])) _
  refine own_step (fun _ => XS.iadd X0.here hx rfl (hb hby at_17) rfl) ?_
  show own_Goes p.tables e below (s₁.setTop (mkF m 18 #[.val (.int p0), .val (.int p1), .val (.int z8), .unset, .unset, .unset, .unset, .unset] [(.int (((p1 &&& (2147483647 : Int32)) - (p1 &&& (2147483647 : Int32)) / (64 : Int32) * (64 : Int32)) + (1 : Int32)))])) _
  obtain ⟨z18, hz18⟩ : ∃ z : Int32, z = (((p1 &&& (2147483647 : Int32)) - (p1 &&& (2147483647 : Int32)) / (64 : Int32) * (64 : Int32)) + (1 : Int32)) := ⟨_, rfl⟩
  refine own_step (fun _ => XS.istoreN X0.here hx rfl (hb hby at_18) rfl (l' := #[.val (.int p0), .val (.int p1), .val (.int z8), .val (.int z18), .unset, .unset, .unset, .unset]) (by subst hz18; rfl)) ?_
  show own_Goes p.tables e below (s₁.setTop (mkF m 19 #[.val (.int p0), .val (.int p1), .val (.int z8), .val (.int z18), .unset, .unset, .unset, .unset] [])) _
  refine own_step (fun _ => XS.iloadN X0.here hx rfl (hb hby at_19) rfl) ?_
  show own_Goes p.tables e below (s₁.setTop (mkF m 20 #[.val (.int p0), .val (.int p1), .val (.int z8), .val (.int z18), .unset, .unset, .unset, .unset] [(.int z8)])) _
  refine own_step (fun _ => XS.i2l X0.here hx rfl (hb hby at_20) rfl) ?_
  show own_Goes p.tables e below (s₁.setTop (mkF m 21 #[.val (.int p0), .val (.int p1), .val (.int z8), .val (.int z18), .unset, .unset, .unset, .unset] [(.long (z8.toInt64))])) _
  refine own_step (fun _ => XS.iloadN X0.here hx rfl (hb hby at_21) rfl) ?_
  show own_Goes p.tables e below (s₁.setTop (mkF m 22 #[.val (.int p0), .val (.int p1), .val (.int z8), .val (.int z18), .unset, .unset, .unset, .unset] [(.int z18), (.long (z8.toInt64))])) _
  refine own_step (fun _ => XS.i2l X0.here hx rfl (hb hby at_22) rfl) ?_
  show own_Goes p.tables e below (s₁.setTop (mkF m 23 #[.val (.int p0), .val (.int p1), .val (.int z8), .val (.int z18), .unset, .unset, .unset, .unset] [(.long (z18.toInt64)), (.long (z8.toInt64))])) _
  refine own_step (fun _ => XS.lmul X0.here hx rfl (hb hby at_23) rfl) ?_
  show own_Goes p.tables e below (s₁.setTop (mkF m 24 #[.val (.int p0), .val (.int p1), .val (.int z8), .val (.int z18), .unset, .unset, .unset, .unset] [(.long ((z8.toInt64) * (z18.toInt64)))])) _
  refine own_step (fun _ => XS.lstore X0.here hx rfl (hb hby at_24) rfl (l' := #[.val (.int p0), .val (.int p1), .val (.int z8), .val (.int z18), .val (.long ((z8.toInt64) * (z18.toInt64))), .second, .unset, .unset]) rfl) ?_
  show own_Goes p.tables e below (s₁.setTop (mkF m 26 #[.val (.int p0), .val (.int p1), .val (.int z8), .val (.int z18), .val (.long ((z8.toInt64) * (z18.toInt64))), .second, .unset, .unset] [])) _
  refine own_step (fun _ => XS.iloadN X0.here hx rfl (hb hby at_26) rfl) ?_
  show own_Goes p.tables e below (s₁.setTop (mkF m 27 #[.val (.int p0), .val (.int p1), .val (.int z8), .val (.int z18), .val (.long ((z8.toInt64) * (z18.toInt64))), .second, .unset, .unset] [(.int z8)])) _
  refine own_step (fun _ => XS.iloadN X0.here hx rfl (hb hby at_27) rfl) ?_
  show own_Goes p.tables e below (s₁.setTop (mkF m 28 #[.val (.int p0), .val (.int p1), .val (.int z8), .val (.int z18), .val (.long ((z8.toInt64) * (z18.toInt64))), .second, .unset, .unset] [(.int z18), (.int z8)])) _
  obtain ⟨_, _, ⟨T1, L1, k1, n1⟩, -, X1, ⟨Lc1, hQ1, l1, y1, z1⟩, st1⟩ := Jvm.LawKit.callS X0 hx (y := (⟨"com/example/shingle/shingle/Signature", "packedLength", "(II)I"⟩ : MethodName)) hown (mvT hZ (hw _ (List.mem_of_getElem? (i := 1) rfl))) (mvT hZ (hw _ (List.mem_of_getElem? (i := 2) rfl))) (mvT hZ (hw _ (List.mem_of_getElem? (i := 3) rfl))) (mvT hZ (hw _ (List.mem_of_getElem? (i := 4) rfl))) (by decide) (backOf (W := 0) (rm1 l Z a0 hw [] z8 z18 h0 n0 Z0) hZ (hw _ (List.mem_of_getElem? (i := 4) rfl)) (hw _ (List.mem_of_getElem? (i := 3) rfl)) (by decide) (by decide)) (g := (mkF m 28 #[.val (.int p0), .val (.int p1), .val (.int z8), .val (.int z18), .val (.long ((z8.toInt64) * (z18.toInt64))), .second, .unset, .unset] [(.int z18), (.int z8)])) rfl (by rw [hml]; rfl) (argsL := [(.int z8), (.int z18)]) (rest := []) (lenOf pd_0_0 rfl) rfl (by show 2 * 0 + _ ≤ _; exact Nat.le_of_eq rfl) (hb hby at_28) (fun _ _ => ⟨rfl, e0, (by decide : 0 + 0 ≤ _), (by decide : 0 + 0 ≤ _)⟩)
  dsimp only [Pt.U, Pt.locs, Pt.cells, Pt.slots] at X1 l1 y1 z1 st1 hQ1
  subst l1 y1 z1
  obtain ⟨rfl, rfl, e1⟩ := hQ1
  have X1 : Stand p l e room_1 s m #[(.int p0), (.int p1)] below meth c T1 [] 0 0 := own_flat X1
  refine own_step (st1) ?_
  show own_Goes p.tables e below (T1.setTop (mkF m 31 #[.val (.int p0), .val (.int p1), .val (.int z8), .val (.int z18), .val (.long ((z8.toInt64) * (z18.toInt64))), .second, .unset, .unset] [(.int (own_f1 z8 z18))])) _
  refine own_step (fun _ => XS.i2l X1.here hx rfl (hb hby at_31) rfl) ?_
  show own_Goes p.tables e below (T1.setTop (mkF m 32 #[.val (.int p0), .val (.int p1), .val (.int z8), .val (.int z18), .val (.long ((z8.toInt64) * (z18.toInt64))), .second, .unset, .unset] [(.long ((own_f1 z8 z18).toInt64))])) _
  refine own_step (fun _ => XS.lstore X1.here hx rfl (hb hby at_32) rfl (l' := #[.val (.int p0), .val (.int p1), .val (.int z8), .val (.int z18), .val (.long ((z8.toInt64) * (z18.toInt64))), .second, .val (.long ((own_f1 z8 z18).toInt64)), .second]) rfl) ?_
  show own_Goes p.tables e below (T1.setTop (mkF m 34 #[.val (.int p0), .val (.int p1), .val (.int z8), .val (.int z18), .val (.long ((z8.toInt64) * (z18.toInt64))), .second, .val (.long ((own_f1 z8 z18).toInt64)), .second] [])) _
  refine own_step (X1.ldc2Long hx hown (mvT hZ (hw _ (List.mem_of_getElem? (i := 5) rfl))) (g := (mkF m 34 #[.val (.int p0), .val (.int p1), .val (.int z8), .val (.int z18), .val (.long ((z8.toInt64) * (z18.toInt64))), .second, .val (.long ((own_f1 z8 z18).toInt64)), .second] [])) rfl (hb hby at_34)) ?_
  show own_Goes p.tables e below (T1.setTop (mkF m 37 #[.val (.int p0), .val (.int p1), .val (.int z8), .val (.int z18), .val (.long ((z8.toInt64) * (z18.toInt64))), .second, .val (.long ((own_f1 z8 z18).toInt64)), .second] [(.long (8 : Int64))])) _
  refine own_step (fun _ => XS.lload X1.here hx rfl (hb hby at_37) rfl) ?_
  show own_Goes p.tables e below (T1.setTop (mkF m 39 #[.val (.int p0), .val (.int p1), .val (.int z8), .val (.int z18), .val (.long ((z8.toInt64) * (z18.toInt64))), .second, .val (.long ((own_f1 z8 z18).toInt64)), .second] [(.long ((own_f1 z8 z18).toInt64)), (.long (8 : Int64))])) _
  refine own_step (fun _ => XS.lmul X1.here hx rfl (hb hby at_39) rfl) ?_
  show own_Goes p.tables e below (T1.setTop (mkF m 40 #[.val (.int p0), .val (.int p1), .val (.int z8), .val (.int z18), .val (.long ((z8.toInt64) * (z18.toInt64))), .second, .val (.long ((own_f1 z8 z18).toInt64)), .second] [(.long ((8 : Int64) * ((own_f1 z8 z18).toInt64)))])) _
  refine own_step (fun _ => XS.lload X1.here hx rfl (hb hby at_40) rfl) ?_
  show own_Goes p.tables e below (T1.setTop (mkF m 42 #[.val (.int p0), .val (.int p1), .val (.int z8), .val (.int z18), .val (.long ((z8.toInt64) * (z18.toInt64))), .second, .val (.long ((own_f1 z8 z18).toInt64)), .second] [(.long ((z8.toInt64) * (z18.toInt64))), (.long ((8 : Int64) * ((own_f1 z8 z18).toInt64)))])) _
  refine own_step (fun _ => Jvm.Free.XT.lcmp X1.here hx rfl (hb hby at_42) rfl) ?_
  show own_Goes p.tables e below (T1.setTop (mkF m 43 #[.val (.int p0), .val (.int p1), .val (.int z8), .val (.int z18), .val (.long ((z8.toInt64) * (z18.toInt64))), .second, .val (.long ((own_f1 z8 z18).toInt64)), .second] [(.int (Jvm.Free.XT.cmpL ((8 : Int64) * ((own_f1 z8 z18).toInt64)) ((z8.toInt64) * (z18.toInt64))))])) _
  have J64 : ∀ (T_64 : State) (X_64 : Stand p l e room_1 s m #[(.int p0), (.int p1)] below meth c T_64 [] 0 0) (e_64 : T_64.heap = h0), own_Goes p.tables e below (T_64.setTop (mkF m 64 #[.val (.int p0), .val (.int p1), .val (.int z8), .val (.int z18), .val (.long ((z8.toInt64) * (z18.toInt64))), .second, .val (.long ((own_f1 z8 z18).toInt64)), .second] [])) (own_P s (own_Ql (some (.int (own_f0_64))) n0) 0 0) := by
    intro T_64 X_64 e_64
    refine own_step (fun _ => XS.iconst X_64.here hx rfl (hb hby at_64)) ?_
    show own_Goes p.tables e below (T_64.setTop (mkF m 65 #[.val (.int p0), .val (.int p1), .val (.int z8), .val (.int z18), .val (.long ((z8.toInt64) * (z18.toInt64))), .second, .val (.long ((own_f1 z8 z18).toInt64)), .second] [(.int (0 : Int32))])) _
    have hv : (own_f0_64) = (0 : Int32) := by exact rfl
    rw [hv]
    exact own_retN X_64 hx (t := .boolean) Bd.returns (by simp) (hb hby at_65) (BodyLoose.notSynchronized Bd) (w := (0 : Int32)) rfl ⟨rfl, N0⟩ (by decide) (by decide)
  by_cases hc43 : ((8 : Int64) * ((own_f1 z8 z18).toInt64)) < ((z8.toInt64) * (z18.toInt64))
  · refine own_step (fun _ => XS.ifYes X1.here hx rfl (pc0 := 43) (pc' := 64) rfl (hb hby at_43) rfl (Jvm.Free.XT.ll_lt_t hc43) (by decide) (by decide)) ?_
    show own_Goes p.tables e below (T1.setTop (mkF m 64 #[.val (.int p0), .val (.int p1), .val (.int z8), .val (.int z18), .val (.long ((z8.toInt64) * (z18.toInt64))), .second, .val (.long ((own_f1 z8 z18).toInt64)), .second] [])) _
    have hv : (own_f0 p0 p1) = (own_f0_64) := by subst hz18; subst hz8; exact (if_pos hc43)
    rw [hv]
    exact J64 T1 X1 e1
  · refine own_step (fun _ => XS.ifNo X1.here hx rfl (hb hby at_43) rfl (Jvm.Free.XT.ll_lt_f hc43)) ?_
    show own_Goes p.tables e below (T1.setTop (mkF m 46 #[.val (.int p0), .val (.int p1), .val (.int z8), .val (.int z18), .val (.long ((z8.toInt64) * (z18.toInt64))), .second, .val (.long ((own_f1 z8 z18).toInt64)), .second] [])) _
    refine own_step (X1.ldc2Long hx hown (mvT hZ (hw _ (List.mem_of_getElem? (i := 5) rfl))) (g := (mkF m 46 #[.val (.int p0), .val (.int p1), .val (.int z8), .val (.int z18), .val (.long ((z8.toInt64) * (z18.toInt64))), .second, .val (.long ((own_f1 z8 z18).toInt64)), .second] [])) rfl (hb hby at_46)) ?_
    show own_Goes p.tables e below (T1.setTop (mkF m 49 #[.val (.int p0), .val (.int p1), .val (.int z8), .val (.int z18), .val (.long ((z8.toInt64) * (z18.toInt64))), .second, .val (.long ((own_f1 z8 z18).toInt64)), .second] [(.long (8 : Int64))])) _
    refine own_step (fun _ => XS.lload X1.here hx rfl (hb hby at_49) rfl) ?_
    show own_Goes p.tables e below (T1.setTop (mkF m 51 #[.val (.int p0), .val (.int p1), .val (.int z8), .val (.int z18), .val (.long ((z8.toInt64) * (z18.toInt64))), .second, .val (.long ((own_f1 z8 z18).toInt64)), .second] [(.long ((own_f1 z8 z18).toInt64)), (.long (8 : Int64))])) _
    refine own_step (fun _ => XS.lconst X1.here hx rfl (hb hby at_51)) ?_
    show own_Goes p.tables e below (T1.setTop (mkF m 52 #[.val (.int p0), .val (.int p1), .val (.int z8), .val (.int z18), .val (.long ((z8.toInt64) * (z18.toInt64))), .second, .val (.long ((own_f1 z8 z18).toInt64)), .second] [(.long (1 : Int64)), (.long ((own_f1 z8 z18).toInt64)), (.long (8 : Int64))])) _
    refine own_step (fun _ => XS.lsub X1.here hx rfl (hb hby at_52) rfl) ?_
    show own_Goes p.tables e below (T1.setTop (mkF m 53 #[.val (.int p0), .val (.int p1), .val (.int z8), .val (.int z18), .val (.long ((z8.toInt64) * (z18.toInt64))), .second, .val (.long ((own_f1 z8 z18).toInt64)), .second] [(.long (((own_f1 z8 z18).toInt64) - (1 : Int64))), (.long (8 : Int64))])) _
    refine own_step (fun _ => XS.lmul X1.here hx rfl (hb hby at_53) rfl) ?_
    show own_Goes p.tables e below (T1.setTop (mkF m 54 #[.val (.int p0), .val (.int p1), .val (.int z8), .val (.int z18), .val (.long ((z8.toInt64) * (z18.toInt64))), .second, .val (.long ((own_f1 z8 z18).toInt64)), .second] [(.long ((8 : Int64) * (((own_f1 z8 z18).toInt64) - (1 : Int64))))])) _
    refine own_step (fun _ => XS.lload X1.here hx rfl (hb hby at_54) rfl) ?_
    show own_Goes p.tables e below (T1.setTop (mkF m 56 #[.val (.int p0), .val (.int p1), .val (.int z8), .val (.int z18), .val (.long ((z8.toInt64) * (z18.toInt64))), .second, .val (.long ((own_f1 z8 z18).toInt64)), .second] [(.long ((z8.toInt64) * (z18.toInt64))), (.long ((8 : Int64) * (((own_f1 z8 z18).toInt64) - (1 : Int64))))])) _
    refine own_step (fun _ => Jvm.Free.XT.lcmp X1.here hx rfl (hb hby at_56) rfl) ?_
    show own_Goes p.tables e below (T1.setTop (mkF m 57 #[.val (.int p0), .val (.int p1), .val (.int z8), .val (.int z18), .val (.long ((z8.toInt64) * (z18.toInt64))), .second, .val (.long ((own_f1 z8 z18).toInt64)), .second] [(.int (Jvm.Free.XT.cmpL ((8 : Int64) * (((own_f1 z8 z18).toInt64) - (1 : Int64))) ((z8.toInt64) * (z18.toInt64))))])) _
    by_cases hc57 : ((8 : Int64) * (((own_f1 z8 z18).toInt64) - (1 : Int64))) < ((z8.toInt64) * (z18.toInt64))
    · refine own_step (fun _ => XS.ifNo X1.here hx rfl (hb hby at_57) rfl (Jvm.Free.XT.ll_ge_f hc57)) ?_
      show own_Goes p.tables e below (T1.setTop (mkF m 60 #[.val (.int p0), .val (.int p1), .val (.int z8), .val (.int z18), .val (.long ((z8.toInt64) * (z18.toInt64))), .second, .val (.long ((own_f1 z8 z18).toInt64)), .second] [])) _
      refine own_step (fun _ => XS.iconst X1.here hx rfl (hb hby at_60)) ?_
      show own_Goes p.tables e below (T1.setTop (mkF m 61 #[.val (.int p0), .val (.int p1), .val (.int z8), .val (.int z18), .val (.long ((z8.toInt64) * (z18.toInt64))), .second, .val (.long ((own_f1 z8 z18).toInt64)), .second] [(.int (1 : Int32))])) _
      refine own_step (fun _ => XS.goto X1.here hx rfl (pc0 := 61) (pc' := 65) rfl (hb hby at_61) (by decide) (by decide)) ?_
      show own_Goes p.tables e below (T1.setTop (mkF m 65 #[.val (.int p0), .val (.int p1), .val (.int z8), .val (.int z18), .val (.long ((z8.toInt64) * (z18.toInt64))), .second, .val (.long ((own_f1 z8 z18).toInt64)), .second] [(.int (1 : Int32))])) _
      have hv : (own_f0 p0 p1) = (1 : Int32) := by subst hz18; subst hz8; exact ((if_neg hc43)).trans (if_pos hc57)
      rw [hv]
      exact own_retN X1 hx (t := .boolean) Bd.returns (by simp) (hb hby at_65) (BodyLoose.notSynchronized Bd) (w := (1 : Int32)) rfl ⟨rfl, N0⟩ (by decide) (by decide)
    · refine own_step (fun _ => XS.ifYes X1.here hx rfl (pc0 := 57) (pc' := 64) rfl (hb hby at_57) rfl (Jvm.Free.XT.ll_ge_t hc57) (by decide) (by decide)) ?_
      show own_Goes p.tables e below (T1.setTop (mkF m 64 #[.val (.int p0), .val (.int p1), .val (.int z8), .val (.int z18), .val (.long ((z8.toInt64) * (z18.toInt64))), .second, .val (.long ((own_f1 z8 z18).toInt64)), .second] [])) _
      have hv : (own_f0 p0 p1) = (own_f0_64) := by subst hz18; subst hz8; exact ((if_neg hc43)).trans (if_neg hc57)
      rw [hv]
      exact J64 T1 X1 e1
theorem own_rem32 (x y : Int32) : (x - x / y * y).toInt = x.toInt.tmod y.toInt := by
  have a := (x % y).toInt_lt; have b := (x % y).le_toInt
  rw [Int32.toInt_mod] at a b
  rw [Int32.toInt_sub, Int32.toInt_mul, Int32.toInt_div, Int.bmod_mul_bmod, Int.sub_bmod_bmod, Int.mul_comm, ← Int.tmod_def]
  exact Jvm.Kit.bmod32 b a
theorem own_rem32n {x y : Int32} (hx : 0 ≤ x.toInt) : (x - x / y * y).toInt = x.toInt % y.toInt := by rw [own_rem32, Int.tmod_eq_emod_of_nonneg hx]
theorem own_m31 (x : Int32) : 0 ≤ (x &&& (2147483647 : Int32)).toInt ∧ (x &&& (2147483647 : Int32)).toInt < 2147483648 := by
  rw [Jvm.Kit.i32_mask x 2147483647 (k := 31) (by decide) (by decide)]
  omega
theorem own_main (K B : Int32) (hk : 0 ≤ K.toInt ∧ K.toInt ≤ 4096) (hb : 1 ≤ B.toInt ∧ B.toInt ≤ 64) : ¬ ((8 : Int64) * (own_f1 K B).toInt64 < K.toInt64 * B.toInt64) ∧ (8 : Int64) * ((own_f1 K B).toInt64 - (1 : Int64)) < K.toInt64 * B.toInt64 := by
  have hP0 : 0 ≤ K.toInt * B.toInt := Int.mul_nonneg hk.1 (by omega)
  have hP1 : K.toInt * B.toInt ≤ 4096 * 64 := Int.mul_le_mul hk.2 hb.2 (by omega) (by omega)
  have e1 : (K * B).toInt = K.toInt * B.toInt := Jvm.Kit.i32_mul (by omega) (by omega)
  have e6 : (K.toInt64 * B.toInt64).toInt = K.toInt * B.toInt := Jvm.Free.XT.wideMul K B
  generalize K.toInt * B.toInt = P at *
  have l8 : (8 : Int32).toInt = 8 := rfl
  have l1 : (1 : Int32).toInt = 1 := rfl
  have j8 : (8 : Int64).toInt = 8 := rfl
  have j1 : (1 : Int64).toInt = 1 := rfl
  have e2 : (K * B + 8).toInt = P + 8 := by rw [Jvm.Kit.i32_add (by omega) (by omega)]; omega
  have e3 : (K * B + 8 - 1).toInt = P + 7 := by rw [Jvm.Kit.i32_sub (by omega) (by omega)]; omega
  have e4 : (own_f1 K B).toInt = (P + 7) / 8 := by
    unfold own_f1
    rw [Jvm.Kit.i32_div (by omega), e3, l8, Int.tdiv_eq_ediv_of_nonneg (by omega)]
  have e5 : (own_f1 K B).toInt64.toInt = (P + 7) / 8 := by rw [Int32.toInt_toInt64, e4]
  generalize (own_f1 K B).toInt64 = L at *
  have e7 : ((8 : Int64) * L).toInt = 8 * ((P + 7) / 8) := by rw [Jvm.Kit.i64_mul (by rw [j8]; omega) (by rw [j8]; omega), e5, j8]
  have e8 : (L - (1 : Int64)).toInt = (P + 7) / 8 - 1 := by rw [Jvm.Kit.i64_sub (by omega) (by omega), e5, j1]
  have e9 : ((8 : Int64) * (L - (1 : Int64))).toInt = 8 * ((P + 7) / 8 - 1) := by rw [Jvm.Kit.i64_mul (by rw [j8]; omega) (by rw [j8]; omega), e8, j8]
  rw [Int64.lt_iff_toInt_lt, Int64.lt_iff_toInt_lt, e6, e7, e9]
  omega
theorem own_law (p0 : Int32) (p1 : Int32) : own_f0 p0 p1 = 1 := by
  have hk : 0 ≤ ((p0 &&& (2147483647 : Int32)) - (p0 &&& (2147483647 : Int32)) / (4097 : Int32) * (4097 : Int32)).toInt ∧ ((p0 &&& (2147483647 : Int32)) - (p0 &&& (2147483647 : Int32)) / (4097 : Int32) * (4097 : Int32)).toInt ≤ 4096 := by
    rw [own_rem32n (own_m31 p0).1, show (4097 : Int32).toInt = 4097 from rfl]
    omega
  have hb0 : 0 ≤ ((p1 &&& (2147483647 : Int32)) - (p1 &&& (2147483647 : Int32)) / (64 : Int32) * (64 : Int32)).toInt ∧ ((p1 &&& (2147483647 : Int32)) - (p1 &&& (2147483647 : Int32)) / (64 : Int32) * (64 : Int32)).toInt ≤ 63 := by
    rw [own_rem32n (own_m31 p1).1, show (64 : Int32).toInt = 64 from rfl]
    omega
  have l1 : (1 : Int32).toInt = 1 := rfl
  have hb : 1 ≤ (((p1 &&& (2147483647 : Int32)) - (p1 &&& (2147483647 : Int32)) / (64 : Int32) * (64 : Int32)) + (1 : Int32)).toInt ∧ (((p1 &&& (2147483647 : Int32)) - (p1 &&& (2147483647 : Int32)) / (64 : Int32) * (64 : Int32)) + (1 : Int32)).toInt ≤ 64 := by
    rw [Jvm.Kit.i32_add (by omega) (by omega)]
    omega
  have h := own_main _ _ hk hb
  exact (if_neg h.1).trans (if_pos h.2)
set_option maxRecDepth 65536 in
set_option maxHeartbeats 40000000 in
theorem comes_1 {Post : Tables → Env → Array Value → State → Outcome → State → Prop} (hpost : ∀ tb e args s v u, (limb_1_1.after args s (.returned v) u = true ∧ limb_1_2.after args s (.returned v) u = true ∧ True) → FrameEnd s (.returned v) u (Jvm.fieldLocs frame_1_writes args s ++ Jvm.arrayLocs frame_1_arrays args s ++ Jvm.staticLocs frame_1_statics s) 0 0 → Post tb e args s (.returned v) u) :
    ArmFor flags0 classFile x code maxLocals ret World_1 tables_1 room_1 Calls_1 rest_1 Pre_1 Post := by
  intro l hfl _ _ p e ha hc hk s m args below hf hA hF happ hP
  obtain ⟨hcalls, hrest, hpre⟩ := hP
  obtain ⟨-, -, -, hnamed, -, -, -, hat⟩ := (Spec.applies_iff hf).mp happ
  obtain ⟨hg, hn⟩ := and_e (Cond.before_iff.mp (show (Jvm.Cond.and given_1 narrow_1).before args s = true from hpre))
  obtain ⟨g1, g2⟩ := and_e hg
  obtain ⟨g3, g4⟩ := and_e g2
  obtain ⟨w0, w1, rfl⟩ : ∃ w0 w1 : Value, args = #[w0, w1] := by
    have hs : args.size = 2 := by simpa [Cond.value, given_1] using g1
    obtain ⟨L⟩ := args
    match L, hs with
    | [w0, w1], _ => exact ⟨w0, w1, rfl⟩
  have hw := fun d (hd : d ∈ tables_1) => atoms_spec (ws := Jvm.Cond.code x code maxLocals ret :: tables_1) hat d (List.mem_cons_of_mem _ hd)
  obtain ⟨i0, ei0⟩ := is_v g3
  obtain rfl : w0 = (.int i0) := Option.some.inj ei0
  obtain ⟨i1, ei1⟩ := is_v g4
  obtain rfl : w1 = (.int i1) := Option.some.inj ei1
  have hrm := rm0 l s _ hw tables_1 i0 i1 s.heap s.heap.size (Nat.le_refl _)
  rw [own_law i0 i1] at hrm
  obtain ⟨n, o, h1, h2, h3, _, L, rfl, ⟨rfl, N⟩, hq⟩ := hrm p e ha hc hk s m _ below hf ((Spec.applies_iff_loose hf).mp happ).1 ⟨rfl, State.Warmed39.refl s, rfl⟩ trivial
  refine ⟨n, _, h1, h2, h3, hpost _ _ _ _ _ _ ⟨Cond.after_iff.mpr rfl, Cond.after_iff.mpr (eq_i res_at (Term.int_eval (1)) rfl), trivial⟩ ⟨hq.1, hq.2.1, (hq.2.2.sift fun y hy => Or.inr (N y hy)).mono (by decide) (by decide)⟩⟩
theorem main_1_1 : Claimed_1_1 := comes_1 fun _ _ _ _ _ _ h hF => ⟨h.1, hF⟩
theorem main_1_2 : Claimed_1_2 := comes_1 fun _ _ _ _ _ _ h hF => ⟨h.2.1, hF⟩
end Jvm.Pilot.@@N@@
namespace Jvm.Pilot.@@N@@
open Jvm Jvm.ClassFile Sem Op Lib Jvm.Free Jvm.Stand Jvm.Pilot.@@N@@.Jvm.D
/-! MADE BY PROGRAM (witnessworld.py) out of the Statement's table words and the real class files: 9 classes; the members and pool entries that the words name. The judged class is class 1, her method 1. -/
namespace start1
open Jvm.ClassFile
def u (s : String) : CpInfo := .utf8 (stringToUtf16 s)
/-- a pool by its gaps: so many unusable entries, then the entry; so many at the end -/
def gap : Nat → List CpInfo → List CpInfo
  | 0, r => r
  | n + 1, r => .unusable :: gap n r
def poolList (es : List (Nat × CpInfo)) (last : Nat) : List CpInfo := es.foldr (fun e r => gap e.1 (e.2 :: r)) (gap last [])
def pool (es : List (Nat × CpInfo)) (last : Nat) : Array CpInfo := ⟨poolList es last⟩
def fileOf (pool : Array CpInfo) (this : Nat) (attrs : Array Attribute := #[]) (ms : Array MethodInfo := #[]) (fl : Nat := 33) (sup : Nat := 0) (ifs : Array Nat := #[]) (fds : Array FieldInfo := #[]) : ClassFile where
  minorVersion := 0
  majorVersion := 65
  constantPool := pool
  accessFlags := fl
  thisClass := this
  superClass := sup
  interfaces := ifs
  fields := fds
  methods := ms
  attributes := attrs
def plain (name : String) (sup : Option ClassId) : Class where
  name := name
  kind := .ordinary
  loader := none
  accessFlags := 33
  super := sup
  interfaces := #[]
  cf := none
  fields := #[]
  methods := #[]
  instanceTypes := #[]
  staticTypes := #[]
  resolved := #[]
  callSites := []
  init := .initialized
  statics := none
  mirror := none

def pool0 : Array CpInfo := pool [(5, u "<init>"), (0, u "()V"), (1, .class_ 10), (1, u "java/lang/Object")] 113

def k0m0 : Method := { name := "<init>", desc := "()V", sig := { parameters := [], returnType := none }, accessFlags := 1, code := none }
/-- java/lang/Object -/
def k0 : Class := { plain "java/lang/Object" none with
  accessFlags := 33
  interfaces := #[]
  cf := some (fileOf pool0 8 #[] #[{ accessFlags := 1, nameIndex := 5, descriptorIndex := 6, attributes := #[] }] 33 0 #[] #[])
  fields := #[]
  methods := #[k0m0]
  instanceTypes := #[]
  staticTypes := #[]
  resolved := Array.replicate 124 none
  statics := none }

def pool1 : Array CpInfo := pool [(2, .class_ 4), (1, u "java/lang/Object"), (0, u "<init>"), (0, u "()V"), (0, .integer 2147483647), (0, .methodref 9 10), (0, .class_ 11), (0, .nameAndType 12 13), (0, u "com/example/shingle/shingle/Signature"), (0, u "packedLength"), (0, u "(II)I"), (0, .long 8), (1, .class_ 17), (0, u "com/example/shingle/shingle/SignaturePackedLengthPinLaw"), (2, u "law"), (0, u "(II)Z")] 3

def k1m0 : Method := { name := "<init>", desc := "()V", sig := { parameters := [], returnType := none }, accessFlags := 1, code := none }
def k1c1 : Code := { maxStack := 6, maxLocals := 8, code := code, exceptionTable := #[], attributes := #[] }
def k1m1 : Method := { name := "law", desc := "(II)Z", sig := { parameters := [.int, .int], returnType := some .boolean }, accessFlags := 9, code := some k1c1 }
/-- com/example/shingle/shingle/SignaturePackedLengthPinLaw -/
def k1 : Class := { plain "com/example/shingle/shingle/SignaturePackedLengthPinLaw" (some 0) with
  accessFlags := 49
  interfaces := #[]
  cf := some (fileOf pool1 16 #[] #[{ accessFlags := 1, nameIndex := 5, descriptorIndex := 6, attributes := #[] }, { accessFlags := 9, nameIndex := 20, descriptorIndex := 21, attributes := #[] }] 49 2 #[] #[])
  fields := #[]
  methods := #[k1m0, k1m1]
  instanceTypes := #[]
  staticTypes := #[]
  resolved := Array.replicate 25 none
  statics := none }

def pool2 : Array CpInfo := pool [(2, .class_ 4), (1, u "java/lang/Object"), (3, .class_ 10), (1, u "com/example/shingle/shingle/Signature"), (0, u "values"), (0, u "[J"), (2, u "seed"), (0, u "J"), (2, u "width"), (0, u "I"), (2, u "bits"), (7, u "packedLength"), (0, u "(II)I"), (42, .class_ 77), (1, u "com/example/shingle/shingle/Signature$Parameter")] 56

def k2c0 : Code := { maxStack := 2, maxLocals := 2, code := prog_28_method_9_code, exceptionTable := #[], attributes := #[] }
def k2m0 : Method := { name := "packedLength", desc := "(II)I", sig := { parameters := [.int, .int], returnType := some .int }, accessFlags := 8, code := some k2c0 }
/-- com/example/shingle/shingle/Signature -/
def k2 : Class := { plain "com/example/shingle/shingle/Signature" (some 0) with
  accessFlags := 33
  interfaces := #[]
  cf := some (fileOf pool2 8 #[.nestMembers #[75]] #[{ accessFlags := 8, nameIndex := 31, descriptorIndex := 32, attributes := #[] }] 33 2 #[] #[{ accessFlags := 18, nameIndex := 11, descriptorIndex := 12, attributes := #[] }, { accessFlags := 18, nameIndex := 15, descriptorIndex := 16, attributes := #[] }, { accessFlags := 18, nameIndex := 19, descriptorIndex := 20, attributes := #[] }, { accessFlags := 18, nameIndex := 23, descriptorIndex := 20, attributes := #[] }])
  fields := #[{ name := "values", type := (.array .long), accessFlags := 18, slot := 0, constantValue := 0 }, { name := "seed", type := .long, accessFlags := 18, slot := 1, constantValue := 0 }, { name := "width", type := .int, accessFlags := 18, slot := 2, constantValue := 0 }, { name := "bits", type := .int, accessFlags := 18, slot := 3, constantValue := 0 }]
  methods := #[k2m0]
  instanceTypes := #[(.array .long), .long, .int, .int]
  staticTypes := #[]
  resolved := Array.replicate 134 none
  statics := none }

def pool3 : Array CpInfo := pool [(1, u "java/lang/Cloneable"), (0, .class_ 1), (0, u "java/lang/Object"), (0, .class_ 3)] 3

/-- java/lang/Cloneable -/
def k3 : Class := { plain "java/lang/Cloneable" (some 0) with
  accessFlags := 1537
  interfaces := #[]
  cf := some (fileOf pool3 2 #[] #[] 1537 4 #[] #[])
  fields := #[]
  methods := #[]
  instanceTypes := #[]
  staticTypes := #[]
  resolved := Array.replicate 8 none
  statics := none }

def pool4 : Array CpInfo := pool [(1, u "java/io/Serializable"), (0, .class_ 1), (0, u "java/lang/Object"), (0, .class_ 3)] 3

/-- java/io/Serializable -/
def k4 : Class := { plain "java/io/Serializable" (some 0) with
  accessFlags := 1537
  interfaces := #[]
  cf := some (fileOf pool4 2 #[] #[] 1537 4 #[] #[])
  fields := #[]
  methods := #[]
  instanceTypes := #[]
  staticTypes := #[]
  resolved := Array.replicate 8 none
  statics := none }

/-- the primitive byte -/
def k5 : Class := { plain "byte" none with kind := .primitive 'B', accessFlags := 0x411 }
/-- [B -/
def k6 : Class := { plain "[B" (some 0) with kind := .array 5 .byte, interfaces := #[3, 4], accessFlags := 1041 }

/-- the primitive int -/
def k7 : Class := { plain "int" none with kind := .primitive 'I', accessFlags := 0x411 }
/-- [I -/
def k8 : Class := { plain "[I" (some 0) with kind := .array 7 .int, interfaces := #[3, 4], accessFlags := 1041 }

def heap : Heap := #[]
def classes : Array Class := #[k0, k1, k2, k3, k4, k5, k6, k7, k8]
def interned : List (Array UInt16 × Addr) := []
def slotsUsed : Nat := 0
def theMethod : MethodId := ⟨1, 1⟩
def args0 : Array Value := #[.int 1, .int 2]
def aboutOver (below : List Frame) : State where
  vm := { classes := classes, interned := interned.toArray }
  heap := heap
  slotsUsed := slotsUsed
  threads := #[{ frames := .invoking theMethod args0 :: below }]
def below0 : List Frame := [.native { method := ⟨0, 0⟩, args := #[] }]
def about1 : State := aboutOver below0
def p0 : Program := .bare "" "" ""
def e0 : Env := launch0.env 0 0 0
theorem w_frames : about1.frames = Frame.invoking theMethod args0 :: below0 := rfl
set_option maxRecDepth 65536 in
theorem w_args : argsFit about1.vm theMethod args0 = true := by decide +kernel
set_option maxRecDepth 65536 in
theorem w_heap : heapFits about1 = true := by decide +kernel
set_option maxRecDepth 65536 in
theorem w_runnable : about1.curStatus? = some .runnable := by decide +kernel
set_option maxRecDepth 65536 in
theorem w_alone : about1.alone = true := by decide +kernel
set_option maxRecDepth 65536 in
theorem w_named : about1.methodNamed? x = some theMethod := by decide +kernel
set_option maxRecDepth 65536 in
theorem w_hears : about1.hears theMethod below0 = true := by decide +kernel
set_option maxRecDepth 65536 in
theorem w_ripe : about1.ripe theMethod args0 below0 = true := by decide +kernel
theorem w_running : about1.status = .running := rfl
set_option maxRecDepth 65536 in
theorem w_room : about1.hasRoom e0.platform room_1 = true :=
  launch0.hasRoom_least _ room_1 (by decide +kernel) (by decide +kernel) (by decide +kernel) (by decide +kernel) (by decide +kernel) (by decide +kernel)
theorem allAtoms_all (ts : List Jvm.Cond) (a : Array Jvm.Value) (st : Jvm.State) : (allAtoms ts).before a st = ts.all (fun c => c.before a st) := by
  induction ts with
  | nil => rfl
  | cons c t ih =>
    show (Jvm.Cond.and c (allAtoms t)).before a st = _
    rw [Jvm.Cond.before_and, ih, List.all_cons]
def words1 : List Jvm.Cond := Jvm.Cond.code x code maxLocals ret :: tables_1
/-- a 'code' word, met by the world's own term for the bytes: nothing is compared byte by byte -/
theorem code_word {y : MethodName} {bytes : ByteArray} {mx : Nat} {rt : Option FieldType} {a : Array Value} {s : State} {m : MethodId} {meth : Method} {c : Code} (h1 : s.methodNamed? y = some m) (h2 : s.vm.method? m = some meth) (h3 : meth.code = some c) (h4 : c.code = bytes)
    (h5 : (c.maxLocals == mx && c.exceptionTable.isEmpty && decide (c.maxStack ≤ mostOperands) && decide (meth.sig.returnType = rt) && !meth.locks && decide (parseMethodDescriptor y.desc = some meth.sig)) = true) : (Jvm.Cond.code y bytes mx rt).before a s = true := by
  simp only [Bool.and_eq_true, beq_iff_eq, Bool.not_eq_true', decide_eq_true_eq] at h5
  obtain ⟨⟨⟨⟨⟨g1, g2⟩, g3⟩, g4⟩, g5⟩, g6⟩ := h5
  simp [Cond.before, Cond.holds, Cond.value, h1, h2, h3, h4, g1, g2, g3, g4, g5, g6]
def isCode : Jvm.Cond → Bool
  | .code _ _ _ _ => true
  | _ => false
theorem all_split {L : List Jvm.Cond} {P : Jvm.Cond → Bool} (h1 : L.all (fun c => isCode c || P c) = true) (h2 : ∀ c ∈ L.filter isCode, P c = true) : L.all P = true := by
  refine List.all_eq_true.mpr fun c hc => ?_
  have h := List.all_eq_true.mp h1 c hc
  rcases Bool.eq_false_or_eq_true (isCode c) with hi | hi
  · exact h2 c (List.mem_filter.mpr ⟨hc, hi⟩)
  · simpa [hi] using h
set_option maxRecDepth 65536 in
theorem w_c0 : (Jvm.Cond.code x code maxLocals ret).before args0 about1 = true := code_word (m := ⟨1, 1⟩) (meth := k1m1) (c := k1c1) (by decide +kernel) rfl rfl rfl (by decide +kernel)
set_option maxRecDepth 65536 in
theorem w_c1 : (Jvm.Cond.code ({ cls := "com/example/shingle/shingle/Signature", name := "packedLength", desc := "(II)I" } : Jvm.MethodName) prog_28_method_9_code (2 : Nat) (Option.some Jvm.ClassFile.FieldType.int)).before args0 about1 = true := code_word (m := ⟨2, 0⟩) (meth := k2m0) (c := k2c0) (by decide +kernel) rfl rfl rfl (by decide +kernel)
def codes1 : List Jvm.Cond := [Jvm.Cond.code x code maxLocals ret, Jvm.Cond.code ({ cls := "com/example/shingle/shingle/Signature", name := "packedLength", desc := "(II)I" } : Jvm.MethodName) prog_28_method_9_code (2 : Nat) (Option.some Jvm.ClassFile.FieldType.int)]
set_option maxRecDepth 65536 in
theorem codes_eq : words1.filter isCode = codes1 := rfl
theorem w_codes : ∀ c ∈ words1.filter isCode, c.before args0 about1 = true := by
  rw [codes_eq]
  intro c hc
  simp only [codes1, List.mem_cons, List.not_mem_nil, or_false] at hc
  rcases hc with rfl | rfl
  · exact w_c0
  · exact w_c1
set_option maxRecDepth 65536 in
theorem w_t1 : words1.all (fun c => isCode c || c.before args0 about1) = true := by decide +kernel
theorem w_tables : (allAtoms (Jvm.Cond.code x code maxLocals ret :: tables_1)).before args0 about1 = true := by
  rw [allAtoms_all]
  show words1.all (fun c => c.before args0 about1) = true
  refine all_split ?_ w_codes
  rw [w_t1]
set_option maxRecDepth 65536 in
theorem w_case : (Jvm.Cond.and given_1 narrow_1).before args0 about1 = true := by decide +kernel
theorem w_applies : (headSpec (Jvm.Cond.code x code maxLocals ret :: tables_1) room_1).applies x e0.platform about1 = true :=
  (Spec.applies_iff w_frames).mpr ⟨w_running, w_runnable, w_alone, w_named, w_hears, w_ripe, w_room, w_tables⟩
theorem atStart : AtStart classFile x code maxLocals ret World_1 tables_1 room_1 Calls_1 rest_1 Pre_1 launch0 p0 e0 about1 theMethod args0 below0 :=
  ⟨lists_1, trivial, launch0.admits_env _ _ _, launch0.least_env, fairChoices_fair.cas, fairChoices_fair.clock, w_frames, w_args, w_heap, w_applies, trivial, trivial, w_case⟩
end start1
theorem witness_1 : WitnessClaimed_1 := ⟨start1.p0, start1.e0, start1.about1, start1.theMethod, start1.args0, start1.below0, start1.atStart⟩
end Jvm.Pilot.@@N@@
