import JvmDerived
import JvmDerived.Pilot.@@N@@Statement
import JvmDerived.Pilot.@@N@@Code
set_option linter.unusedVariables false
set_option linter.unusedSimpArgs false
namespace Jvm.RoadKit
open Sem ClassFile Op Lib Jvm.Stand Jvm.Free Jvm.LawKit
section New
variable {p : Program} {l : Launch} {e : Env} {R : Room} {s : State} {m : MethodId} {args : Array Value} {below : List Frame} {meth : Method} {c : Code} {T : State} {locs : List Loc} {cells slots : Nat}
theorem retI (X : Stand p l e R s m args below meth c T locs cells slots) (hx : p.tables.exec = Jvm.exec) {pc : Nat} {Ls : Array Slot} {z : Int32} {rest : List Value} (hret : meth.sig.returnType = some .int) (hd : decode c.code pc = .ok (.ireturn, 1)) {fs : List Frame}
    (hl : ∀ (f : JFrame) (acts : List Action), f.method = m → f.locked = none → f.entered = [] → (doReturn e (T.setTop f) acts (some (.int z))).1 = T.setFrames fs) : Steps p.tables e below (T.setTop (mkF m pc Ls (.int z :: rest))) (T.setFrames fs) := by
  have hm' : T.vm.method? m = some meth := X.method'
  have hn : narrow .int (.int z) = .int z := rfl
  show Steps p.tables e below (T.setTop { method := m, pc := pc, locals := Ls, stack := _ :: rest, locked := none }) _
  jvm_step X.here [X.here.top, hx, hd, hm', hret, hn]
  first | (intro acts; rw [hl _ acts rfl rfl rfl]) | rw [hl _ _ rfl rfl rfl]
  exact Steps.refl _
end New
end Jvm.RoadKit
namespace Jvm.Pilot.@@N@@
open Jvm Jvm.ClassFile Sem Op Lib Jvm.Free Jvm.Stand Jvm.LawKit Jvm.RoadKit Bundle Jvm.Pilot.@@N@@.Jvm.D
section Own
variable {p : Program} {l : Launch} {e : Env} {R : Room} {s : State} {m : MethodId} {args : Array Value} {below : List Frame} {meth : Method} {c : Code} {T : State} {locs : List Loc} {cells slots : Nat}
/-- the run goes on from S to its end, and P holds there -/
def own_Goes (tb : Tables) (e : Env) (below : List Frame) (S : State) (P : State → Outcome → Prop) : Prop :=
  ∃ s₂ o, Steps tb e below S s₂ ∧ s₂.status = .running ∧ Ended s₂ below o ∧ P s₂ o
theorem own_step {tb : Tables} {S S' : State} {P : State → Outcome → Prop} (h : ∀ t, Steps tb e below S' t → Steps tb e below S t) (k : own_Goes tb e below S' P) : own_Goes tb e below S P := by
  obtain ⟨s₂, o, h1, h2⟩ := k
  exact ⟨s₂, o, h _ h1, h2⟩
theorem own_enter {tb : Tables} {g g' : JFrame} {P : State → Outcome → Prop} (q : g = g') (k : own_Goes tb e below (T.setTop g') P) : own_Goes tb e below (T.setTop g) P := q ▸ k
def own_P (s : State) (Q : Option Value → Heap → List Loc → Prop) (C K : Nat) : State → Outcome → Prop := fun U o => ∃ v L, o = .returned v ∧ Q v U.heap L ∧ FrameEnd s o U L C K
/-- a body that writes nothing -/
def own_Qp (w : Option Value) (h0 : Heap) (v : Option Value) (h : Heap) (L : List Loc) : Prop := v = w ∧ L = [] ∧ h = h0
/-- a body that makes cells and writes none that stood before -/
def own_Qa (w : Option Value) (h0 : Heap) (n0 : Nat) (v : Option Value) (h : Heap) (L : List Loc) : Prop := v = w ∧ Fr n0 L ∧ Keep h0 h []
/-- the law -/
def own_Ql (w : Option Value) (n0 : Nat) (v : Option Value) (h : Heap) (L : List Loc) : Prop := v = w ∧ Fr n0 L
variable {Q : Option Value → Heap → List Loc → Prop} {C K : Nat}
theorem own_retI (X : Stand p l e R s m args below meth c T locs cells slots) (hx : p.tables.exec = Jvm.exec) {pc : Nat} {Ls : Array Slot} {z : Int32} {rest : List Value} (hret : meth.sig.returnType = some .int) (hd : decode c.code pc = .ok (.ireturn, 1)) (hk : meth.locks = false)
    (hQ : Q (some (.int z)) T.heap locs) (hc : cells ≤ C) (hs : slots ≤ K) : own_Goes p.tables e below (T.setTop (mkF m pc Ls (.int z :: rest))) (own_P s Q C K) := by
  obtain ⟨fs, hr, hrun, hended, hW, hsame⟩ := X.leave (v := some (.int z)) (fun h => by rw [hret] at h; cases h) hk
  exact ⟨_, _, retI X hx hret hd hr, hrun, hended, _, _, rfl, hQ, ⟨_, rfl⟩, hW, hsame.mono hc hs⟩
theorem own_retN (X : Stand p l e R s m args below meth c T locs cells slots) (hx : p.tables.exec = Jvm.exec) {pc : Nat} {Ls : Array Slot} {z : Int32} {t : FieldType} {rest : List Value} (hret : meth.sig.returnType = some t) (ht : t = .boolean ∨ t = .byte ∨ t = .char ∨ t = .short) (hd : decode c.code pc = .ok (.ireturn, 1)) (hk : meth.locks = false)
    {w : Int32} (hw : nar t z = w) (hQ : Q (some (.int w)) T.heap locs) (hc : cells ≤ C) (hs : slots ≤ K) : own_Goes p.tables e below (T.setTop (mkF m pc Ls (.int z :: rest))) (own_P s Q C K) := by
  subst hw
  obtain ⟨fs, hr, hrun, hended, hW, hsame⟩ := X.leave (v := some (.int (nar t z))) (fun h => by rw [hret] at h; cases h) hk
  exact ⟨_, _, retN X hx hret ht hd hr, hrun, hended, _, _, rfl, hQ, ⟨_, rfl⟩, hW, hsame.mono hc hs⟩
theorem own_retJ (X : Stand p l e R s m args below meth c T locs cells slots) (hx : p.tables.exec = Jvm.exec) {pc : Nat} {Ls : Array Slot} {z : Int64} (hret : meth.sig.returnType = some .long) (hd : decode c.code pc = .ok (.lreturn, 1)) (hk : meth.locks = false)
    (hQ : Q (some (.long z)) T.heap locs) (hc : cells ≤ C) (hs : slots ≤ K) : own_Goes p.tables e below (T.setTop (mkF m pc Ls [.long z])) (own_P s Q C K) := by
  obtain ⟨fs, hr, hrun, hended, hW, hsame⟩ := X.leave (v := some (.long z)) (fun h => by rw [hret] at h; cases h) hk
  exact ⟨_, _, X.lreturnOut hx hret hd hr, hrun, hended, _, _, rfl, hQ, ⟨_, rfl⟩, hW, hsame.mono hc hs⟩
theorem own_retV (X : Stand p l e R s m args below meth c T locs cells slots) (hx : p.tables.exec = Jvm.exec) {pc : Nat} {Ls : Array Slot} (hret : meth.sig.returnType = none) (hd : decode c.code pc = .ok (.return_, 1)) (hk : meth.locks = false)
    (hQ : Q none T.heap locs) (hc : cells ≤ C) (hs : slots ≤ K) : own_Goes p.tables e below (T.setTop (mkF m pc Ls [])) (own_P s Q C K) := by
  obtain ⟨fs, hr, hrun, hended, hW, hsame⟩ := X.leave (v := none) (fun _ => rfl) hk
  exact ⟨_, _, X.returnOut hx hret hd hr, hrun, hended, _, _, rfl, hQ, ⟨_, rfl⟩, hW, hsame.mono hc hs⟩
theorem own_flat (X : Stand p l e R s m args below meth c T (locs ++ []) (cells + 0) (slots + 0)) : Stand p l e R s m args below meth c T locs cells slots := List.append_nil locs ▸ X
end Own

theorem d1_0 : decode prog_3_method_3_code 0 = .ok (.lload_n 0, 1) := by decide +kernel
theorem d1_1 : decode prog_3_method_3_code 1 = .ok (.lstore_n 2, 1) := by decide +kernel
theorem d1_2 : decode prog_3_method_3_code 2 = .ok (.lload_n 2, 1) := by decide +kernel
theorem d1_3 : decode prog_3_method_3_code 3 = .ok (.lload_n 2, 1) := by decide +kernel
theorem d1_4 : decode prog_3_method_3_code 4 = .ok (.bipush 30, 2) := by decide +kernel
theorem d1_6 : decode prog_3_method_3_code 6 = .ok (.lushr, 1) := by decide +kernel
theorem d1_7 : decode prog_3_method_3_code 7 = .ok (.lxor, 1) := by decide +kernel
theorem d1_8 : decode prog_3_method_3_code 8 = .ok (.ldc2_w 29, 3) := by decide +kernel
theorem d1_11 : decode prog_3_method_3_code 11 = .ok (.lmul, 1) := by decide +kernel
theorem d1_12 : decode prog_3_method_3_code 12 = .ok (.lstore_n 2, 1) := by decide +kernel
theorem d1_13 : decode prog_3_method_3_code 13 = .ok (.lload_n 2, 1) := by decide +kernel
theorem d1_14 : decode prog_3_method_3_code 14 = .ok (.lload_n 2, 1) := by decide +kernel
theorem d1_15 : decode prog_3_method_3_code 15 = .ok (.bipush 27, 2) := by decide +kernel
theorem d1_17 : decode prog_3_method_3_code 17 = .ok (.lushr, 1) := by decide +kernel
theorem d1_18 : decode prog_3_method_3_code 18 = .ok (.lxor, 1) := by decide +kernel
theorem d1_19 : decode prog_3_method_3_code 19 = .ok (.ldc2_w 31, 3) := by decide +kernel
theorem d1_22 : decode prog_3_method_3_code 22 = .ok (.lmul, 1) := by decide +kernel
theorem d1_23 : decode prog_3_method_3_code 23 = .ok (.lstore_n 2, 1) := by decide +kernel
theorem d1_24 : decode prog_3_method_3_code 24 = .ok (.lload_n 2, 1) := by decide +kernel
theorem d1_25 : decode prog_3_method_3_code 25 = .ok (.lload_n 2, 1) := by decide +kernel
theorem d1_26 : decode prog_3_method_3_code 26 = .ok (.bipush 31, 2) := by decide +kernel
theorem d1_28 : decode prog_3_method_3_code 28 = .ok (.lushr, 1) := by decide +kernel
theorem d1_29 : decode prog_3_method_3_code 29 = .ok (.lxor, 1) := by decide +kernel
theorem d1_30 : decode prog_3_method_3_code 30 = .ok (.lreturn, 1) := by decide +kernel
theorem pn_1 : plainName "com/example/ebbfilter/ebbfilter/RecordHash" = true := by first | (simp [plainName, overriddenIn]; done) | decide +kernel
theorem ef_1 (m : MethodId) (q0 : Int64) : entryFrame m #[(.long q0)] 4 = mkF m 0 #[.val (.long q0), .second, .unset, .unset] [] := by first | (simp [entryFrame, mkF, argsToLocals, Value.category]; done) | rfl
def own_f1 (q0 : Int64) : Int64 :=
  let z12 : Int64 := ((q0 ^^^ ((q0.toUInt64 >>> ((30 : Int32) &&& 0x3f).toInt64.toUInt64).toInt64)) * (-4658895280553007687 : Int64))
  let z23 : Int64 := ((z12 ^^^ ((z12.toUInt64 >>> ((27 : Int32) &&& 0x3f).toInt64.toUInt64).toInt64)) * (-7723592293110705685 : Int64))
  (z23 ^^^ ((z23.toUInt64 >>> ((31 : Int32) &&& 0x3f).toInt64.toUInt64).toInt64))
abbrev own_room1 : Room := { frames := 0, cells := 0, slots := 0, locals := 0 }
set_option maxRecDepth 65536 in
set_option maxHeartbeats 40000000 in
theorem rm1 (l : Launch) (Z : State) (a0 : Array Value) (hw : ∀ d ∈ tables_1, d.before a0 Z = true) (ws : List Jvm.Cond) (q0 : Int64) (h0 : Heap) (n0 : Nat) (Z0 : n0 ≤ h0.size) :
    MetFree l (⟨"com/example/ebbfilter/ebbfilter/RecordHash", "mix", "(J)J"⟩ : MethodName) (head1 (Jvm.Cond.code (⟨"com/example/ebbfilter/ebbfilter/RecordHash", "mix", "(J)J"⟩ : MethodName) prog_3_method_3_code 4 (some .long) :: ws) own_room1) (fun a U => a = #[(.long q0)] ∧ Z.Warmed39 U.vm ∧ U.heap = h0) (fun _ _ _ _ _ => True) (fun _ U o U' => ∃ v L, o = .returned v ∧ own_Qp (some (.long (own_f1 q0))) h0 v U'.heap L ∧ FrameEnd U o U' L own_room1.cells own_room1.slots) := by
  refine MetFree.of_bodySF (plainFor_of_name pn_1) hisR ?_
  intro p e s m args below meth c s₁ Bd hml0 hP hK
  obtain ⟨rfl, hZ, hh⟩ := hP
  have hx := Bd.exec
  have hby := Bd.bytes
  have hml : c.maxLocals = 4 := hml0
  have hown : s.vm.findClass "com/example/ebbfilter/ebbfilter/RecordHash" = some m.cls := findClass_of_methodNamed Bd.named
  have hnm := (name_of_methodNamed Bd.named Bd.method).1
  have X0 : Stand p l e own_room1 s m #[(.long q0)] below meth c s₁ [] 0 0 := Stand.of_body Bd
  have e0 : s₁.heap = h0 := by rw [← hh, Bd.state]; rfl
  have N0 := Fr.nil n0
  refine own_enter (ef_1 m q0) ?_
  show own_Goes p.tables e below (s₁.setTop (mkF m 0 #[.val (.long q0), .second, .unset, .unset] [])) (own_P s (own_Qp (some (.long (own_f1 q0))) h0) own_room1.cells own_room1.slots)
  refine own_step (fun _ => XS.lloadN X0.here hx rfl (hb hby d1_0) rfl) ?_
  show own_Goes p.tables e below (s₁.setTop (mkF m 1 #[.val (.long q0), .second, .unset, .unset] [(.long q0)])) _
  refine own_step (fun _ => XS.lstoreN X0.here hx rfl (hb hby d1_1) rfl (l' := #[.val (.long q0), .second, .val (.long q0), .second]) rfl) ?_
  show own_Goes p.tables e below (s₁.setTop (mkF m 2 #[.val (.long q0), .second, .val (.long q0), .second] [])) _
  refine own_step (fun _ => XS.lloadN X0.here hx rfl (hb hby d1_2) rfl) ?_
  show own_Goes p.tables e below (s₁.setTop (mkF m 3 #[.val (.long q0), .second, .val (.long q0), .second] [(.long q0)])) _
  refine own_step (fun _ => XS.lloadN X0.here hx rfl (hb hby d1_3) rfl) ?_
  show own_Goes p.tables e below (s₁.setTop (mkF m 4 #[.val (.long q0), .second, .val (.long q0), .second] [(.long q0), (.long q0)])) _
  refine own_step (fun _ => XS.bipush X0.here hx rfl (hb hby d1_4)) ?_
  show own_Goes p.tables e below (s₁.setTop (mkF m 6 #[.val (.long q0), .second, .val (.long q0), .second] [(.int (30 : Int32)), (.long q0), (.long q0)])) _
  refine own_step (fun _ => XS.lushr X0.here hx rfl (hb hby d1_6) rfl) ?_
  show own_Goes p.tables e below (s₁.setTop (mkF m 7 #[.val (.long q0), .second, .val (.long q0), .second] [(.long ((q0.toUInt64 >>> ((30 : Int32) &&& 0x3f).toInt64.toUInt64).toInt64)), (.long q0)])) _
  refine own_step (fun _ => XS.lxor X0.here hx rfl (hb hby d1_7) rfl) ?_
  show own_Goes p.tables e below (s₁.setTop (mkF m 8 #[.val (.long q0), .second, .val (.long q0), .second] [(.long (q0 ^^^ ((q0.toUInt64 >>> ((30 : Int32) &&& 0x3f).toInt64.toUInt64).toInt64)))])) _
  refine own_step (X0.ldc2Long hx hown (mvT hZ (hw _ (List.mem_of_getElem? (i := 4) rfl))) (g := (mkF m 8 #[.val (.long q0), .second, .val (.long q0), .second] [(.long (q0 ^^^ ((q0.toUInt64 >>> ((30 : Int32) &&& 0x3f).toInt64.toUInt64).toInt64)))])) rfl (hb hby d1_8)) ?_
  show own_Goes p.tables e below (s₁.setTop (mkF m 11 #[.val (.long q0), .second, .val (.long q0), .second] [(.long (-4658895280553007687 : Int64)), (.long (q0 ^^^ ((q0.toUInt64 >>> ((30 : Int32) &&& 0x3f).toInt64.toUInt64).toInt64)))])) _
  refine own_step (fun _ => XS.lmul X0.here hx rfl (hb hby d1_11) rfl) ?_
  show own_Goes p.tables e below (s₁.setTop (mkF m 12 #[.val (.long q0), .second, .val (.long q0), .second] [(.long ((q0 ^^^ ((q0.toUInt64 >>> ((30 : Int32) &&& 0x3f).toInt64.toUInt64).toInt64)) * (-4658895280553007687 : Int64)))])) _
  obtain ⟨z12, hz12⟩ : ∃ z : Int64, z = ((q0 ^^^ ((q0.toUInt64 >>> ((30 : Int32) &&& 0x3f).toInt64.toUInt64).toInt64)) * (-4658895280553007687 : Int64)) := ⟨_, rfl⟩
  refine own_step (fun _ => XS.lstoreN X0.here hx rfl (hb hby d1_12) rfl (l' := #[.val (.long q0), .second, .val (.long z12), .second]) (by subst hz12; rfl)) ?_
  show own_Goes p.tables e below (s₁.setTop (mkF m 13 #[.val (.long q0), .second, .val (.long z12), .second] [])) _
  refine own_step (fun _ => XS.lloadN X0.here hx rfl (hb hby d1_13) rfl) ?_
  show own_Goes p.tables e below (s₁.setTop (mkF m 14 #[.val (.long q0), .second, .val (.long z12), .second] [(.long z12)])) _
  refine own_step (fun _ => XS.lloadN X0.here hx rfl (hb hby d1_14) rfl) ?_
  show own_Goes p.tables e below (s₁.setTop (mkF m 15 #[.val (.long q0), .second, .val (.long z12), .second] [(.long z12), (.long z12)])) _
  refine own_step (fun _ => XS.bipush X0.here hx rfl (hb hby d1_15)) ?_
  show own_Goes p.tables e below (s₁.setTop (mkF m 17 #[.val (.long q0), .second, .val (.long z12), .second] [(.int (27 : Int32)), (.long z12), (.long z12)])) _
  refine own_step (fun _ => XS.lushr X0.here hx rfl (hb hby d1_17) rfl) ?_
  show own_Goes p.tables e below (s₁.setTop (mkF m 18 #[.val (.long q0), .second, .val (.long z12), .second] [(.long ((z12.toUInt64 >>> ((27 : Int32) &&& 0x3f).toInt64.toUInt64).toInt64)), (.long z12)])) _
  refine own_step (fun _ => XS.lxor X0.here hx rfl (hb hby d1_18) rfl) ?_
  show own_Goes p.tables e below (s₁.setTop (mkF m 19 #[.val (.long q0), .second, .val (.long z12), .second] [(.long (z12 ^^^ ((z12.toUInt64 >>> ((27 : Int32) &&& 0x3f).toInt64.toUInt64).toInt64)))])) _
  refine own_step (X0.ldc2Long hx hown (mvT hZ (hw _ (List.mem_of_getElem? (i := 5) rfl))) (g := (mkF m 19 #[.val (.long q0), .second, .val (.long z12), .second] [(.long (z12 ^^^ ((z12.toUInt64 >>> ((27 : Int32) &&& 0x3f).toInt64.toUInt64).toInt64)))])) rfl (hb hby d1_19)) ?_
  show own_Goes p.tables e below (s₁.setTop (mkF m 22 #[.val (.long q0), .second, .val (.long z12), .second] [(.long (-7723592293110705685 : Int64)), (.long (z12 ^^^ ((z12.toUInt64 >>> ((27 : Int32) &&& 0x3f).toInt64.toUInt64).toInt64)))])) _
  refine own_step (fun _ => XS.lmul X0.here hx rfl (hb hby d1_22) rfl) ?_
  show own_Goes p.tables e below (s₁.setTop (mkF m 23 #[.val (.long q0), .second, .val (.long z12), .second] [(.long ((z12 ^^^ ((z12.toUInt64 >>> ((27 : Int32) &&& 0x3f).toInt64.toUInt64).toInt64)) * (-7723592293110705685 : Int64)))])) _
  obtain ⟨z23, hz23⟩ : ∃ z : Int64, z = ((z12 ^^^ ((z12.toUInt64 >>> ((27 : Int32) &&& 0x3f).toInt64.toUInt64).toInt64)) * (-7723592293110705685 : Int64)) := ⟨_, rfl⟩
  refine own_step (fun _ => XS.lstoreN X0.here hx rfl (hb hby d1_23) rfl (l' := #[.val (.long q0), .second, .val (.long z23), .second]) (by subst hz23; rfl)) ?_
  show own_Goes p.tables e below (s₁.setTop (mkF m 24 #[.val (.long q0), .second, .val (.long z23), .second] [])) _
  refine own_step (fun _ => XS.lloadN X0.here hx rfl (hb hby d1_24) rfl) ?_
  show own_Goes p.tables e below (s₁.setTop (mkF m 25 #[.val (.long q0), .second, .val (.long z23), .second] [(.long z23)])) _
  refine own_step (fun _ => XS.lloadN X0.here hx rfl (hb hby d1_25) rfl) ?_
  show own_Goes p.tables e below (s₁.setTop (mkF m 26 #[.val (.long q0), .second, .val (.long z23), .second] [(.long z23), (.long z23)])) _
  refine own_step (fun _ => XS.bipush X0.here hx rfl (hb hby d1_26)) ?_
  show own_Goes p.tables e below (s₁.setTop (mkF m 28 #[.val (.long q0), .second, .val (.long z23), .second] [(.int (31 : Int32)), (.long z23), (.long z23)])) _
  refine own_step (fun _ => XS.lushr X0.here hx rfl (hb hby d1_28) rfl) ?_
  show own_Goes p.tables e below (s₁.setTop (mkF m 29 #[.val (.long q0), .second, .val (.long z23), .second] [(.long ((z23.toUInt64 >>> ((31 : Int32) &&& 0x3f).toInt64.toUInt64).toInt64)), (.long z23)])) _
  refine own_step (fun _ => XS.lxor X0.here hx rfl (hb hby d1_29) rfl) ?_
  show own_Goes p.tables e below (s₁.setTop (mkF m 30 #[.val (.long q0), .second, .val (.long z23), .second] [(.long (z23 ^^^ ((z23.toUInt64 >>> ((31 : Int32) &&& 0x3f).toInt64.toUInt64).toInt64)))])) _
  have hv : (own_f1 q0) = (z23 ^^^ ((z23.toUInt64 >>> ((31 : Int32) &&& 0x3f).toInt64.toUInt64).toInt64)) := by subst hz23; subst hz12; exact rfl
  rw [hv]
  exact own_retJ X0 hx Bd.returns (hb hby d1_30) (BodyLoose.notSynchronized Bd) ⟨rfl, rfl, e0⟩ (by decide) (by decide)
theorem d2_0 : decode method_2_code 0 = .ok (.lload_n 0, 1) := by decide +kernel
theorem d2_1 : decode method_2_code 1 = .ok (.lstore_n 2, 1) := by decide +kernel
theorem d2_2 : decode method_2_code 2 = .ok (.lload_n 2, 1) := by decide +kernel
theorem d2_3 : decode method_2_code 3 = .ok (.lload_n 2, 1) := by decide +kernel
theorem d2_4 : decode method_2_code 4 = .ok (.bipush 31, 2) := by decide +kernel
theorem d2_6 : decode method_2_code 6 = .ok (.lushr, 1) := by decide +kernel
theorem d2_7 : decode method_2_code 7 = .ok (.lxor, 1) := by decide +kernel
theorem d2_8 : decode method_2_code 8 = .ok (.lload_n 2, 1) := by decide +kernel
theorem d2_9 : decode method_2_code 9 = .ok (.bipush 62, 2) := by decide +kernel
theorem d2_11 : decode method_2_code 11 = .ok (.lushr, 1) := by decide +kernel
theorem d2_12 : decode method_2_code 12 = .ok (.lxor, 1) := by decide +kernel
theorem d2_13 : decode method_2_code 13 = .ok (.ldc2_w 7, 3) := by decide +kernel
theorem d2_16 : decode method_2_code 16 = .ok (.lmul, 1) := by decide +kernel
theorem d2_17 : decode method_2_code 17 = .ok (.lstore_n 2, 1) := by decide +kernel
theorem d2_18 : decode method_2_code 18 = .ok (.lload_n 2, 1) := by decide +kernel
theorem d2_19 : decode method_2_code 19 = .ok (.lload_n 2, 1) := by decide +kernel
theorem d2_20 : decode method_2_code 20 = .ok (.bipush 27, 2) := by decide +kernel
theorem d2_22 : decode method_2_code 22 = .ok (.lushr, 1) := by decide +kernel
theorem d2_23 : decode method_2_code 23 = .ok (.lxor, 1) := by decide +kernel
theorem d2_24 : decode method_2_code 24 = .ok (.lload_n 2, 1) := by decide +kernel
theorem d2_25 : decode method_2_code 25 = .ok (.bipush 54, 2) := by decide +kernel
theorem d2_27 : decode method_2_code 27 = .ok (.lushr, 1) := by decide +kernel
theorem d2_28 : decode method_2_code 28 = .ok (.lxor, 1) := by decide +kernel
theorem d2_29 : decode method_2_code 29 = .ok (.ldc2_w 9, 3) := by decide +kernel
theorem d2_32 : decode method_2_code 32 = .ok (.lmul, 1) := by decide +kernel
theorem d2_33 : decode method_2_code 33 = .ok (.lstore_n 2, 1) := by decide +kernel
theorem d2_34 : decode method_2_code 34 = .ok (.lload_n 2, 1) := by decide +kernel
theorem d2_35 : decode method_2_code 35 = .ok (.lload_n 2, 1) := by decide +kernel
theorem d2_36 : decode method_2_code 36 = .ok (.bipush 30, 2) := by decide +kernel
theorem d2_38 : decode method_2_code 38 = .ok (.lushr, 1) := by decide +kernel
theorem d2_39 : decode method_2_code 39 = .ok (.lxor, 1) := by decide +kernel
theorem d2_40 : decode method_2_code 40 = .ok (.lload_n 2, 1) := by decide +kernel
theorem d2_41 : decode method_2_code 41 = .ok (.bipush 60, 2) := by decide +kernel
theorem d2_43 : decode method_2_code 43 = .ok (.lushr, 1) := by decide +kernel
theorem d2_44 : decode method_2_code 44 = .ok (.lxor, 1) := by decide +kernel
theorem d2_45 : decode method_2_code 45 = .ok (.lreturn, 1) := by decide +kernel
theorem pn_2 : plainName "com/example/ebbfilter/ebbfilter/RecordHashMixPinLaw" = true := by first | (simp [plainName, overriddenIn]; done) | decide +kernel
theorem ef_2 (m : MethodId) (q0 : Int64) : entryFrame m #[(.long q0)] 4 = mkF m 0 #[.val (.long q0), .second, .unset, .unset] [] := by first | (simp [entryFrame, mkF, argsToLocals, Value.category]; done) | rfl
def own_f2 (q0 : Int64) : Int64 :=
  let z17 : Int64 := (((q0 ^^^ ((q0.toUInt64 >>> ((31 : Int32) &&& 0x3f).toInt64.toUInt64).toInt64)) ^^^ ((q0.toUInt64 >>> ((62 : Int32) &&& 0x3f).toInt64.toUInt64).toInt64)) * (3573116690164977347 : Int64))
  let z33 : Int64 := (((z17 ^^^ ((z17.toUInt64 >>> ((27 : Int32) &&& 0x3f).toInt64.toUInt64).toInt64)) ^^^ ((z17.toUInt64 >>> ((54 : Int32) &&& 0x3f).toInt64.toUInt64).toInt64)) * (-7575587736534282103 : Int64))
  ((z33 ^^^ ((z33.toUInt64 >>> ((30 : Int32) &&& 0x3f).toInt64.toUInt64).toInt64)) ^^^ ((z33.toUInt64 >>> ((60 : Int32) &&& 0x3f).toInt64.toUInt64).toInt64))
abbrev own_room2 : Room := { frames := 0, cells := 0, slots := 0, locals := 0 }
set_option maxRecDepth 65536 in
set_option maxHeartbeats 40000000 in
theorem rm2 (l : Launch) (Z : State) (a0 : Array Value) (hw : ∀ d ∈ tables_1, d.before a0 Z = true) (ws : List Jvm.Cond) (q0 : Int64) (h0 : Heap) (n0 : Nat) (Z0 : n0 ≤ h0.size) :
    MetFree l (⟨"com/example/ebbfilter/ebbfilter/RecordHashMixPinLaw", "unmix", "(J)J"⟩ : MethodName) (head1 (Jvm.Cond.code (⟨"com/example/ebbfilter/ebbfilter/RecordHashMixPinLaw", "unmix", "(J)J"⟩ : MethodName) method_2_code 4 (some .long) :: ws) own_room2) (fun a U => a = #[(.long q0)] ∧ Z.Warmed39 U.vm ∧ U.heap = h0) (fun _ _ _ _ _ => True) (fun _ U o U' => ∃ v L, o = .returned v ∧ own_Qp (some (.long (own_f2 q0))) h0 v U'.heap L ∧ FrameEnd U o U' L own_room2.cells own_room2.slots) := by
  refine MetFree.of_bodySF (plainFor_of_name pn_2) hisR ?_
  intro p e s m args below meth c s₁ Bd hml0 hP hK
  obtain ⟨rfl, hZ, hh⟩ := hP
  have hx := Bd.exec
  have hby := Bd.bytes
  have hml : c.maxLocals = 4 := hml0
  have hown : s.vm.findClass "com/example/ebbfilter/ebbfilter/RecordHashMixPinLaw" = some m.cls := findClass_of_methodNamed Bd.named
  have hnm := (name_of_methodNamed Bd.named Bd.method).1
  have X0 : Stand p l e own_room2 s m #[(.long q0)] below meth c s₁ [] 0 0 := Stand.of_body Bd
  have e0 : s₁.heap = h0 := by rw [← hh, Bd.state]; rfl
  have N0 := Fr.nil n0
  refine own_enter (ef_2 m q0) ?_
  show own_Goes p.tables e below (s₁.setTop (mkF m 0 #[.val (.long q0), .second, .unset, .unset] [])) (own_P s (own_Qp (some (.long (own_f2 q0))) h0) own_room2.cells own_room2.slots)
  refine own_step (fun _ => XS.lloadN X0.here hx rfl (hb hby d2_0) rfl) ?_
  show own_Goes p.tables e below (s₁.setTop (mkF m 1 #[.val (.long q0), .second, .unset, .unset] [(.long q0)])) _
  refine own_step (fun _ => XS.lstoreN X0.here hx rfl (hb hby d2_1) rfl (l' := #[.val (.long q0), .second, .val (.long q0), .second]) rfl) ?_
  show own_Goes p.tables e below (s₁.setTop (mkF m 2 #[.val (.long q0), .second, .val (.long q0), .second] [])) _
  refine own_step (fun _ => XS.lloadN X0.here hx rfl (hb hby d2_2) rfl) ?_
  show own_Goes p.tables e below (s₁.setTop (mkF m 3 #[.val (.long q0), .second, .val (.long q0), .second] [(.long q0)])) _
  refine own_step (fun _ => XS.lloadN X0.here hx rfl (hb hby d2_3) rfl) ?_
  show own_Goes p.tables e below (s₁.setTop (mkF m 4 #[.val (.long q0), .second, .val (.long q0), .second] [(.long q0), (.long q0)])) _
  refine own_step (fun _ => XS.bipush X0.here hx rfl (hb hby d2_4)) ?_
  show own_Goes p.tables e below (s₁.setTop (mkF m 6 #[.val (.long q0), .second, .val (.long q0), .second] [(.int (31 : Int32)), (.long q0), (.long q0)])) _
  refine own_step (fun _ => XS.lushr X0.here hx rfl (hb hby d2_6) rfl) ?_
  show own_Goes p.tables e below (s₁.setTop (mkF m 7 #[.val (.long q0), .second, .val (.long q0), .second] [(.long ((q0.toUInt64 >>> ((31 : Int32) &&& 0x3f).toInt64.toUInt64).toInt64)), (.long q0)])) _
  refine own_step (fun _ => XS.lxor X0.here hx rfl (hb hby d2_7) rfl) ?_
  show own_Goes p.tables e below (s₁.setTop (mkF m 8 #[.val (.long q0), .second, .val (.long q0), .second] [(.long (q0 ^^^ ((q0.toUInt64 >>> ((31 : Int32) &&& 0x3f).toInt64.toUInt64).toInt64)))])) _
  refine own_step (fun _ => XS.lloadN X0.here hx rfl (hb hby d2_8) rfl) ?_
  show own_Goes p.tables e below (s₁.setTop (mkF m 9 #[.val (.long q0), .second, .val (.long q0), .second] [(.long q0), (.long (q0 ^^^ ((q0.toUInt64 >>> ((31 : Int32) &&& 0x3f).toInt64.toUInt64).toInt64)))])) _
  refine own_step (fun _ => XS.bipush X0.here hx rfl (hb hby d2_9)) ?_
  show own_Goes p.tables e below (s₁.setTop (mkF m 11 #[.val (.long q0), .second, .val (.long q0), .second] [(.int (62 : Int32)), (.long q0), (.long (q0 ^^^ ((q0.toUInt64 >>> ((31 : Int32) &&& 0x3f).toInt64.toUInt64).toInt64)))])) _
  refine own_step (fun _ => XS.lushr X0.here hx rfl (hb hby d2_11) rfl) ?_
  show own_Goes p.tables e below (s₁.setTop (mkF m 12 #[.val (.long q0), .second, .val (.long q0), .second] [(.long ((q0.toUInt64 >>> ((62 : Int32) &&& 0x3f).toInt64.toUInt64).toInt64)), (.long (q0 ^^^ ((q0.toUInt64 >>> ((31 : Int32) &&& 0x3f).toInt64.toUInt64).toInt64)))])) _
  refine own_step (fun _ => XS.lxor X0.here hx rfl (hb hby d2_12) rfl) ?_
  show own_Goes p.tables e below (s₁.setTop (mkF m 13 #[.val (.long q0), .second, .val (.long q0), .second] [(.long ((q0 ^^^ ((q0.toUInt64 >>> ((31 : Int32) &&& 0x3f).toInt64.toUInt64).toInt64)) ^^^ ((q0.toUInt64 >>> ((62 : Int32) &&& 0x3f).toInt64.toUInt64).toInt64)))])) _
  refine own_step (X0.ldc2Long hx hown (mvT hZ (hw _ (List.mem_of_getElem? (i := 10) rfl))) (g := (mkF m 13 #[.val (.long q0), .second, .val (.long q0), .second] [(.long ((q0 ^^^ ((q0.toUInt64 >>> ((31 : Int32) &&& 0x3f).toInt64.toUInt64).toInt64)) ^^^ ((q0.toUInt64 >>> ((62 : Int32) &&& 0x3f).toInt64.toUInt64).toInt64)))])) rfl (hb hby d2_13)) ?_
  show own_Goes p.tables e below (s₁.setTop (mkF m 16 #[.val (.long q0), .second, .val (.long q0), .second] [(.long (3573116690164977347 : Int64)), (.long ((q0 ^^^ ((q0.toUInt64 >>> ((31 : Int32) &&& 0x3f).toInt64.toUInt64).toInt64)) ^^^ ((q0.toUInt64 >>> ((62 : Int32) &&& 0x3f).toInt64.toUInt64).toInt64)))])) _
  refine own_step (fun _ => XS.lmul X0.here hx rfl (hb hby d2_16) rfl) ?_
  show own_Goes p.tables e below (s₁.setTop (mkF m 17 #[.val (.long q0), .second, .val (.long q0), .second] [(.long (((q0 ^^^ ((q0.toUInt64 >>> ((31 : Int32) &&& 0x3f).toInt64.toUInt64).toInt64)) ^^^ ((q0.toUInt64 >>> ((62 : Int32) &&& 0x3f).toInt64.toUInt64).toInt64)) * (3573116690164977347 : Int64)))])) _
  obtain ⟨z17, hz17⟩ : ∃ z : Int64, z = (((q0 ^^^ ((q0.toUInt64 >>> ((31 : Int32) &&& 0x3f).toInt64.toUInt64).toInt64)) ^^^ ((q0.toUInt64 >>> ((62 : Int32) &&& 0x3f).toInt64.toUInt64).toInt64)) * (3573116690164977347 : Int64)) := ⟨_, rfl⟩
  refine own_step (fun _ => XS.lstoreN X0.here hx rfl (hb hby d2_17) rfl (l' := #[.val (.long q0), .second, .val (.long z17), .second]) (by subst hz17; rfl)) ?_
  show own_Goes p.tables e below (s₁.setTop (mkF m 18 #[.val (.long q0), .second, .val (.long z17), .second] [])) _
  refine own_step (fun _ => XS.lloadN X0.here hx rfl (hb hby d2_18) rfl) ?_
  show own_Goes p.tables e below (s₁.setTop (mkF m 19 #[.val (.long q0), .second, .val (.long z17), .second] [(.long z17)])) _
  refine own_step (fun _ => XS.lloadN X0.here hx rfl (hb hby d2_19) rfl) ?_
  show own_Goes p.tables e below (s₁.setTop (mkF m 20 #[.val (.long q0), .second, .val (.long z17), .second] [(.long z17), (.long z17)])) _
  refine own_step (fun _ => XS.bipush X0.here hx rfl (hb hby d2_20)) ?_
  show own_Goes p.tables e below (s₁.setTop (mkF m 22 #[.val (.long q0), .second, .val (.long z17), .second] [(.int (27 : Int32)), (.long z17), (.long z17)])) _
  refine own_step (fun _ => XS.lushr X0.here hx rfl (hb hby d2_22) rfl) ?_
  show own_Goes p.tables e below (s₁.setTop (mkF m 23 #[.val (.long q0), .second, .val (.long z17), .second] [(.long ((z17.toUInt64 >>> ((27 : Int32) &&& 0x3f).toInt64.toUInt64).toInt64)), (.long z17)])) _
  refine own_step (fun _ => XS.lxor X0.here hx rfl (hb hby d2_23) rfl) ?_
  show own_Goes p.tables e below (s₁.setTop (mkF m 24 #[.val (.long q0), .second, .val (.long z17), .second] [(.long (z17 ^^^ ((z17.toUInt64 >>> ((27 : Int32) &&& 0x3f).toInt64.toUInt64).toInt64)))])) _
  refine own_step (fun _ => XS.lloadN X0.here hx rfl (hb hby d2_24) rfl) ?_
  show own_Goes p.tables e below (s₁.setTop (mkF m 25 #[.val (.long q0), .second, .val (.long z17), .second] [(.long z17), (.long (z17 ^^^ ((z17.toUInt64 >>> ((27 : Int32) &&& 0x3f).toInt64.toUInt64).toInt64)))])) _
  refine own_step (fun _ => XS.bipush X0.here hx rfl (hb hby d2_25)) ?_
  show own_Goes p.tables e below (s₁.setTop (mkF m 27 #[.val (.long q0), .second, .val (.long z17), .second] [(.int (54 : Int32)), (.long z17), (.long (z17 ^^^ ((z17.toUInt64 >>> ((27 : Int32) &&& 0x3f).toInt64.toUInt64).toInt64)))])) _
  refine own_step (fun _ => XS.lushr X0.here hx rfl (hb hby d2_27) rfl) ?_
  show own_Goes p.tables e below (s₁.setTop (mkF m 28 #[.val (.long q0), .second, .val (.long z17), .second] [(.long ((z17.toUInt64 >>> ((54 : Int32) &&& 0x3f).toInt64.toUInt64).toInt64)), (.long (z17 ^^^ ((z17.toUInt64 >>> ((27 : Int32) &&& 0x3f).toInt64.toUInt64).toInt64)))])) _
  refine own_step (fun _ => XS.lxor X0.here hx rfl (hb hby d2_28) rfl) ?_
  show own_Goes p.tables e below (s₁.setTop (mkF m 29 #[.val (.long q0), .second, .val (.long z17), .second] [(.long ((z17 ^^^ ((z17.toUInt64 >>> ((27 : Int32) &&& 0x3f).toInt64.toUInt64).toInt64)) ^^^ ((z17.toUInt64 >>> ((54 : Int32) &&& 0x3f).toInt64.toUInt64).toInt64)))])) _
  refine own_step (X0.ldc2Long hx hown (mvT hZ (hw _ (List.mem_of_getElem? (i := 11) rfl))) (g := (mkF m 29 #[.val (.long q0), .second, .val (.long z17), .second] [(.long ((z17 ^^^ ((z17.toUInt64 >>> ((27 : Int32) &&& 0x3f).toInt64.toUInt64).toInt64)) ^^^ ((z17.toUInt64 >>> ((54 : Int32) &&& 0x3f).toInt64.toUInt64).toInt64)))])) rfl (hb hby d2_29)) ?_
  show own_Goes p.tables e below (s₁.setTop (mkF m 32 #[.val (.long q0), .second, .val (.long z17), .second] [(.long (-7575587736534282103 : Int64)), (.long ((z17 ^^^ ((z17.toUInt64 >>> ((27 : Int32) &&& 0x3f).toInt64.toUInt64).toInt64)) ^^^ ((z17.toUInt64 >>> ((54 : Int32) &&& 0x3f).toInt64.toUInt64).toInt64)))])) _
  refine own_step (fun _ => XS.lmul X0.here hx rfl (hb hby d2_32) rfl) ?_
  show own_Goes p.tables e below (s₁.setTop (mkF m 33 #[.val (.long q0), .second, .val (.long z17), .second] [(.long (((z17 ^^^ ((z17.toUInt64 >>> ((27 : Int32) &&& 0x3f).toInt64.toUInt64).toInt64)) ^^^ ((z17.toUInt64 >>> ((54 : Int32) &&& 0x3f).toInt64.toUInt64).toInt64)) * (-7575587736534282103 : Int64)))])) _
  obtain ⟨z33, hz33⟩ : ∃ z : Int64, z = (((z17 ^^^ ((z17.toUInt64 >>> ((27 : Int32) &&& 0x3f).toInt64.toUInt64).toInt64)) ^^^ ((z17.toUInt64 >>> ((54 : Int32) &&& 0x3f).toInt64.toUInt64).toInt64)) * (-7575587736534282103 : Int64)) := ⟨_, rfl⟩
  refine own_step (fun _ => XS.lstoreN X0.here hx rfl (hb hby d2_33) rfl (l' := #[.val (.long q0), .second, .val (.long z33), .second]) (by subst hz33; rfl)) ?_
  show own_Goes p.tables e below (s₁.setTop (mkF m 34 #[.val (.long q0), .second, .val (.long z33), .second] [])) _
  refine own_step (fun _ => XS.lloadN X0.here hx rfl (hb hby d2_34) rfl) ?_
  show own_Goes p.tables e below (s₁.setTop (mkF m 35 #[.val (.long q0), .second, .val (.long z33), .second] [(.long z33)])) _
  refine own_step (fun _ => XS.lloadN X0.here hx rfl (hb hby d2_35) rfl) ?_
  show own_Goes p.tables e below (s₁.setTop (mkF m 36 #[.val (.long q0), .second, .val (.long z33), .second] [(.long z33), (.long z33)])) _
  refine own_step (fun _ => XS.bipush X0.here hx rfl (hb hby d2_36)) ?_
  show own_Goes p.tables e below (s₁.setTop (mkF m 38 #[.val (.long q0), .second, .val (.long z33), .second] [(.int (30 : Int32)), (.long z33), (.long z33)])) _
  refine own_step (fun _ => XS.lushr X0.here hx rfl (hb hby d2_38) rfl) ?_
  show own_Goes p.tables e below (s₁.setTop (mkF m 39 #[.val (.long q0), .second, .val (.long z33), .second] [(.long ((z33.toUInt64 >>> ((30 : Int32) &&& 0x3f).toInt64.toUInt64).toInt64)), (.long z33)])) _
  refine own_step (fun _ => XS.lxor X0.here hx rfl (hb hby d2_39) rfl) ?_
  show own_Goes p.tables e below (s₁.setTop (mkF m 40 #[.val (.long q0), .second, .val (.long z33), .second] [(.long (z33 ^^^ ((z33.toUInt64 >>> ((30 : Int32) &&& 0x3f).toInt64.toUInt64).toInt64)))])) _
  refine own_step (fun _ => XS.lloadN X0.here hx rfl (hb hby d2_40) rfl) ?_
  show own_Goes p.tables e below (s₁.setTop (mkF m 41 #[.val (.long q0), .second, .val (.long z33), .second] [(.long z33), (.long (z33 ^^^ ((z33.toUInt64 >>> ((30 : Int32) &&& 0x3f).toInt64.toUInt64).toInt64)))])) _
  refine own_step (fun _ => XS.bipush X0.here hx rfl (hb hby d2_41)) ?_
  show own_Goes p.tables e below (s₁.setTop (mkF m 43 #[.val (.long q0), .second, .val (.long z33), .second] [(.int (60 : Int32)), (.long z33), (.long (z33 ^^^ ((z33.toUInt64 >>> ((30 : Int32) &&& 0x3f).toInt64.toUInt64).toInt64)))])) _
  refine own_step (fun _ => XS.lushr X0.here hx rfl (hb hby d2_43) rfl) ?_
  show own_Goes p.tables e below (s₁.setTop (mkF m 44 #[.val (.long q0), .second, .val (.long z33), .second] [(.long ((z33.toUInt64 >>> ((60 : Int32) &&& 0x3f).toInt64.toUInt64).toInt64)), (.long (z33 ^^^ ((z33.toUInt64 >>> ((30 : Int32) &&& 0x3f).toInt64.toUInt64).toInt64)))])) _
  refine own_step (fun _ => XS.lxor X0.here hx rfl (hb hby d2_44) rfl) ?_
  show own_Goes p.tables e below (s₁.setTop (mkF m 45 #[.val (.long q0), .second, .val (.long z33), .second] [(.long ((z33 ^^^ ((z33.toUInt64 >>> ((30 : Int32) &&& 0x3f).toInt64.toUInt64).toInt64)) ^^^ ((z33.toUInt64 >>> ((60 : Int32) &&& 0x3f).toInt64.toUInt64).toInt64)))])) _
  have hv : (own_f2 q0) = ((z33 ^^^ ((z33.toUInt64 >>> ((30 : Int32) &&& 0x3f).toInt64.toUInt64).toInt64)) ^^^ ((z33.toUInt64 >>> ((60 : Int32) &&& 0x3f).toInt64.toUInt64).toInt64)) := by subst hz33; subst hz17; exact rfl
  rw [hv]
  exact own_retJ X0 hx Bd.returns (hb hby d2_45) (BodyLoose.notSynchronized Bd) ⟨rfl, rfl, e0⟩ (by decide) (by decide)
theorem pn_0 : plainName "com/example/ebbfilter/ebbfilter/RecordHashMixPinLaw" = true := by first | (simp [plainName, overriddenIn]; done) | decide +kernel
theorem pd_0_0 : parseMethodDescriptor "(J)J" = some ⟨[.long], some .long⟩ := by decide +kernel
theorem ef_0 (m : MethodId) (q0 : Int64) (q1 : Int64) : entryFrame m #[(.long q0), (.long q1)] maxLocals = mkF m 0 #[.val (.long q0), .second, .val (.long q1), .second, .unset, .unset] [] := by first | (simp [entryFrame, mkF, argsToLocals, Value.category, maxLocals]; done) | rfl
def own_f0_52 : Int32 :=
  (0 : Int32)
def own_f0_36 (v17_t0 : Int32) (v36_t0 : Int32) : Int32 :=
  if v17_t0 = 0 then
    (own_f0_52)
  else
    if v36_t0 = 0 then
      (own_f0_52)
    else
      (1 : Int32)
def own_f0_17 (q1 : Int64) (v17_t0 : Int32) : Int32 :=
  if (own_f1 (own_f2 q1)) = q1 then
    (own_f0_36 v17_t0 (1 : Int32))
  else
    (own_f0_36 v17_t0 (0 : Int32))
def own_f0 (q0 : Int64) (q1 : Int64) : Int32 :=
  if (own_f2 (own_f1 q0)) = q0 then
    (own_f0_17 q1 (1 : Int32))
  else
    (own_f0_17 q1 (0 : Int32))
set_option maxRecDepth 65536 in
set_option maxHeartbeats 40000000 in
theorem rm0 (l : Launch) (Z : State) (a0 : Array Value) (hw : ∀ d ∈ tables_1, d.before a0 Z = true) (ws : List Jvm.Cond) (q0 : Int64) (q1 : Int64) (h0 : Heap) (n0 : Nat) (Z0 : n0 ≤ h0.size) :
    MetFree l x (head1 (Jvm.Cond.code x code maxLocals ret :: ws) room_1) (fun a U => a = #[(.long q0), (.long q1)] ∧ Z.Warmed39 U.vm ∧ U.heap = h0) (fun _ _ _ _ _ => True) (fun _ U o U' => ∃ v L, o = .returned v ∧ own_Ql (some (.int (own_f0 q0 q1))) n0 v U'.heap L ∧ FrameEnd U o U' L 0 0) := by
  refine MetFree.of_bodySF (plainFor_of_name pn_0) hisR ?_
  intro p e s m args below meth c s₁ Bd hml0 hP hK
  obtain ⟨rfl, hZ, hh⟩ := hP
  have hx := Bd.exec
  have hby := Bd.bytes
  have hml : c.maxLocals = 6 := hml0
  have hown : s.vm.findClass "com/example/ebbfilter/ebbfilter/RecordHashMixPinLaw" = some m.cls := findClass_of_methodNamed Bd.named
  have hnm := (name_of_methodNamed Bd.named Bd.method).1
  have X0 : Stand p l e room_1 s m #[(.long q0), (.long q1)] below meth c s₁ [] 0 0 := Stand.of_body Bd
  have e0 : s₁.heap = h0 := by rw [← hh, Bd.state]; rfl
  have N0 := Fr.nil n0
  refine own_enter (ef_0 m q0 q1) ?_
  show own_Goes p.tables e below (s₁.setTop (mkF m 0 #[.val (.long q0), .second, .val (.long q1), .second, .unset, .unset] [])) (own_P s (own_Ql (some (.int (own_f0 q0 q1))) n0) 0 0)
  refine own_step (fun _ => XS.lloadN X0.here hx rfl (hb hby at_0) rfl) ?_
  show own_Goes p.tables e below (s₁.setTop (mkF m 1 #[.val (.long q0), .second, .val (.long q1), .second, .unset, .unset] [(.long q0)])) _
  obtain ⟨_, _, ⟨T1, L1, k1, n1⟩, -, X1, ⟨Lc1, hQ1, l1, y1, z1⟩, st1⟩ := Jvm.LawKit.callS X0 hx (y := (⟨"com/example/ebbfilter/ebbfilter/RecordHash", "mix", "(J)J"⟩ : MethodName)) hown (mvT hZ (hw _ (List.mem_of_getElem? (i := 0) rfl))) (mvT hZ (hw _ (List.mem_of_getElem? (i := 1) rfl))) (mvT hZ (hw _ (List.mem_of_getElem? (i := 2) rfl))) (mvT hZ (hw _ (List.mem_of_getElem? (i := 3) rfl))) (by decide) (backOf (W := 0) (rm1 l Z a0 hw [] q0 h0 n0 Z0) hZ (hw _ (List.mem_of_getElem? (i := 3) rfl)) (hw _ (List.mem_of_getElem? (i := 2) rfl)) (by decide) (by decide)) (g := (mkF m 1 #[.val (.long q0), .second, .val (.long q1), .second, .unset, .unset] [(.long q0)])) rfl (by rw [hml]; rfl) (argsL := [(.long q0)]) (rest := []) (lenOf pd_0_0 rfl) rfl (by show 2 * 0 + _ ≤ _; exact Nat.le_of_eq rfl) (hb hby at_1) (fun _ _ => ⟨rfl, e0, (by decide : 0 + 0 ≤ _), (by decide : 0 + 0 ≤ _)⟩)
  dsimp only [Pt.U, Pt.locs, Pt.cells, Pt.slots] at X1 l1 y1 z1 st1 hQ1
  subst l1 y1 z1
  obtain ⟨rfl, rfl, e1⟩ := hQ1
  have X1 : Stand p l e room_1 s m #[(.long q0), (.long q1)] below meth c T1 [] 0 0 := own_flat X1
  refine own_step (st1) ?_
  show own_Goes p.tables e below (T1.setTop (mkF m 4 #[.val (.long q0), .second, .val (.long q1), .second, .unset, .unset] [(.long (own_f1 q0))])) _
  obtain ⟨_, _, ⟨T2, L2, k2, n2⟩, -, X2, ⟨Lc2, hQ2, l2, y2, z2⟩, st2⟩ := Jvm.LawKit.callS X1 hx (y := (⟨"com/example/ebbfilter/ebbfilter/RecordHashMixPinLaw", "unmix", "(J)J"⟩ : MethodName)) hown (mvT hZ (hw _ (List.mem_of_getElem? (i := 6) rfl))) (mvT hZ (hw _ (List.mem_of_getElem? (i := 7) rfl))) (mvT hZ (hw _ (List.mem_of_getElem? (i := 8) rfl))) (mvT hZ (hw _ (List.mem_of_getElem? (i := 9) rfl))) (by decide) (backOf (W := 0) (rm2 l Z a0 hw [] (own_f1 q0) h0 n0 Z0) hZ (hw _ (List.mem_of_getElem? (i := 9) rfl)) (hw _ (List.mem_of_getElem? (i := 8) rfl)) (by decide) (by decide)) (g := (mkF m 4 #[.val (.long q0), .second, .val (.long q1), .second, .unset, .unset] [(.long (own_f1 q0))])) rfl (by rw [hml]; rfl) (argsL := [(.long (own_f1 q0))]) (rest := []) (lenOf pd_0_0 rfl) rfl (by show 2 * 0 + _ ≤ _; exact Nat.le_of_eq rfl) (hb hby at_4) (fun _ _ => ⟨rfl, e1, (by decide : 0 + 0 ≤ _), (by decide : 0 + 0 ≤ _)⟩)
  dsimp only [Pt.U, Pt.locs, Pt.cells, Pt.slots] at X2 l2 y2 z2 st2 hQ2
  subst l2 y2 z2
  obtain ⟨rfl, rfl, e2⟩ := hQ2
  have X2 : Stand p l e room_1 s m #[(.long q0), (.long q1)] below meth c T2 [] 0 0 := own_flat X2
  refine own_step (st2) ?_
  show own_Goes p.tables e below (T2.setTop (mkF m 7 #[.val (.long q0), .second, .val (.long q1), .second, .unset, .unset] [(.long (own_f2 (own_f1 q0)))])) _
  refine own_step (fun _ => XS.lloadN X2.here hx rfl (hb hby at_7) rfl) ?_
  show own_Goes p.tables e below (T2.setTop (mkF m 8 #[.val (.long q0), .second, .val (.long q1), .second, .unset, .unset] [(.long q0), (.long (own_f2 (own_f1 q0)))])) _
  refine own_step (fun _ => Jvm.Free.XT.lcmp X2.here hx rfl (hb hby at_8) rfl) ?_
  show own_Goes p.tables e below (T2.setTop (mkF m 9 #[.val (.long q0), .second, .val (.long q1), .second, .unset, .unset] [(.int (Jvm.Free.XT.cmpL (own_f2 (own_f1 q0)) q0))])) _
  have J17 : ∀ (T_17 : State) (X_17 : Stand p l e room_1 s m #[(.long q0), (.long q1)] below meth c T_17 [] 0 0) (e_17 : T_17.heap = h0) (v17_t0 : Int32), own_Goes p.tables e below (T_17.setTop (mkF m 17 #[.val (.long q0), .second, .val (.long q1), .second, .unset, .unset] [(.int v17_t0)])) (own_P s (own_Ql (some (.int (own_f0_17 q1 v17_t0))) n0) 0 0) := by
    intro T_17 X_17 e_17 v17_t0
    refine own_step (fun _ => XS.istore X_17.here hx rfl (hb hby at_17) rfl (l' := #[.val (.long q0), .second, .val (.long q1), .second, .val (.int v17_t0), .unset]) rfl) ?_
    show own_Goes p.tables e below (T_17.setTop (mkF m 19 #[.val (.long q0), .second, .val (.long q1), .second, .val (.int v17_t0), .unset] [])) _
    refine own_step (fun _ => XS.lloadN X_17.here hx rfl (hb hby at_19) rfl) ?_
    show own_Goes p.tables e below (T_17.setTop (mkF m 20 #[.val (.long q0), .second, .val (.long q1), .second, .val (.int v17_t0), .unset] [(.long q1)])) _
    obtain ⟨_, _, ⟨T3, L3, k3, n3⟩, -, X3, ⟨Lc3, hQ3, l3, y3, z3⟩, st3⟩ := Jvm.LawKit.callS X_17 hx (y := (⟨"com/example/ebbfilter/ebbfilter/RecordHashMixPinLaw", "unmix", "(J)J"⟩ : MethodName)) hown (mvT hZ (hw _ (List.mem_of_getElem? (i := 6) rfl))) (mvT hZ (hw _ (List.mem_of_getElem? (i := 7) rfl))) (mvT hZ (hw _ (List.mem_of_getElem? (i := 8) rfl))) (mvT hZ (hw _ (List.mem_of_getElem? (i := 9) rfl))) (by decide) (backOf (W := 0) (rm2 l Z a0 hw [] q1 h0 n0 Z0) hZ (hw _ (List.mem_of_getElem? (i := 9) rfl)) (hw _ (List.mem_of_getElem? (i := 8) rfl)) (by decide) (by decide)) (g := (mkF m 20 #[.val (.long q0), .second, .val (.long q1), .second, .val (.int v17_t0), .unset] [(.long q1)])) rfl (by rw [hml]; rfl) (argsL := [(.long q1)]) (rest := []) (lenOf pd_0_0 rfl) rfl (by show 2 * 0 + _ ≤ _; exact Nat.le_of_eq rfl) (hb hby at_20) (fun _ _ => ⟨rfl, e_17, (by decide : 0 + 0 ≤ _), (by decide : 0 + 0 ≤ _)⟩)
    dsimp only [Pt.U, Pt.locs, Pt.cells, Pt.slots] at X3 l3 y3 z3 st3 hQ3
    subst l3 y3 z3
    obtain ⟨rfl, rfl, e3⟩ := hQ3
    have X3 : Stand p l e room_1 s m #[(.long q0), (.long q1)] below meth c T3 [] 0 0 := own_flat X3
    refine own_step (st3) ?_
    show own_Goes p.tables e below (T3.setTop (mkF m 23 #[.val (.long q0), .second, .val (.long q1), .second, .val (.int v17_t0), .unset] [(.long (own_f2 q1))])) _
    obtain ⟨_, _, ⟨T4, L4, k4, n4⟩, -, X4, ⟨Lc4, hQ4, l4, y4, z4⟩, st4⟩ := Jvm.LawKit.callS X3 hx (y := (⟨"com/example/ebbfilter/ebbfilter/RecordHash", "mix", "(J)J"⟩ : MethodName)) hown (mvT hZ (hw _ (List.mem_of_getElem? (i := 0) rfl))) (mvT hZ (hw _ (List.mem_of_getElem? (i := 1) rfl))) (mvT hZ (hw _ (List.mem_of_getElem? (i := 2) rfl))) (mvT hZ (hw _ (List.mem_of_getElem? (i := 3) rfl))) (by decide) (backOf (W := 0) (rm1 l Z a0 hw [] (own_f2 q1) h0 n0 Z0) hZ (hw _ (List.mem_of_getElem? (i := 3) rfl)) (hw _ (List.mem_of_getElem? (i := 2) rfl)) (by decide) (by decide)) (g := (mkF m 23 #[.val (.long q0), .second, .val (.long q1), .second, .val (.int v17_t0), .unset] [(.long (own_f2 q1))])) rfl (by rw [hml]; rfl) (argsL := [(.long (own_f2 q1))]) (rest := []) (lenOf pd_0_0 rfl) rfl (by show 2 * 0 + _ ≤ _; exact Nat.le_of_eq rfl) (hb hby at_23) (fun _ _ => ⟨rfl, e3, (by decide : 0 + 0 ≤ _), (by decide : 0 + 0 ≤ _)⟩)
    dsimp only [Pt.U, Pt.locs, Pt.cells, Pt.slots] at X4 l4 y4 z4 st4 hQ4
    subst l4 y4 z4
    obtain ⟨rfl, rfl, e4⟩ := hQ4
    have X4 : Stand p l e room_1 s m #[(.long q0), (.long q1)] below meth c T4 [] 0 0 := own_flat X4
    refine own_step (st4) ?_
    show own_Goes p.tables e below (T4.setTop (mkF m 26 #[.val (.long q0), .second, .val (.long q1), .second, .val (.int v17_t0), .unset] [(.long (own_f1 (own_f2 q1)))])) _
    refine own_step (fun _ => XS.lloadN X4.here hx rfl (hb hby at_26) rfl) ?_
    show own_Goes p.tables e below (T4.setTop (mkF m 27 #[.val (.long q0), .second, .val (.long q1), .second, .val (.int v17_t0), .unset] [(.long q1), (.long (own_f1 (own_f2 q1)))])) _
    refine own_step (fun _ => Jvm.Free.XT.lcmp X4.here hx rfl (hb hby at_27) rfl) ?_
    show own_Goes p.tables e below (T4.setTop (mkF m 28 #[.val (.long q0), .second, .val (.long q1), .second, .val (.int v17_t0), .unset] [(.int (Jvm.Free.XT.cmpL (own_f1 (own_f2 q1)) q1))])) _
    have J36 : ∀ (T_36 : State) (X_36 : Stand p l e room_1 s m #[(.long q0), (.long q1)] below meth c T_36 [] 0 0) (e_36 : T_36.heap = h0) (v36_t0 : Int32), own_Goes p.tables e below (T_36.setTop (mkF m 36 #[.val (.long q0), .second, .val (.long q1), .second, .val (.int v17_t0), .unset] [(.int v36_t0)])) (own_P s (own_Ql (some (.int (own_f0_36 v17_t0 v36_t0))) n0) 0 0) := by
      intro T_36 X_36 e_36 v36_t0
      refine own_step (fun _ => XS.istore X_36.here hx rfl (hb hby at_36) rfl (l' := #[.val (.long q0), .second, .val (.long q1), .second, .val (.int v17_t0), .val (.int v36_t0)]) rfl) ?_
      show own_Goes p.tables e below (T_36.setTop (mkF m 38 #[.val (.long q0), .second, .val (.long q1), .second, .val (.int v17_t0), .val (.int v36_t0)] [])) _
      refine own_step (fun _ => XS.iload X_36.here hx rfl (hb hby at_38) rfl) ?_
      show own_Goes p.tables e below (T_36.setTop (mkF m 40 #[.val (.long q0), .second, .val (.long q1), .second, .val (.int v17_t0), .val (.int v36_t0)] [(.int v17_t0)])) _
      have J52 : ∀ (T_52 : State) (X_52 : Stand p l e room_1 s m #[(.long q0), (.long q1)] below meth c T_52 [] 0 0) (e_52 : T_52.heap = h0), own_Goes p.tables e below (T_52.setTop (mkF m 52 #[.val (.long q0), .second, .val (.long q1), .second, .val (.int v17_t0), .val (.int v36_t0)] [])) (own_P s (own_Ql (some (.int (own_f0_52))) n0) 0 0) := by
        intro T_52 X_52 e_52
        refine own_step (fun _ => XS.iconst X_52.here hx rfl (hb hby at_52)) ?_
        show own_Goes p.tables e below (T_52.setTop (mkF m 53 #[.val (.long q0), .second, .val (.long q1), .second, .val (.int v17_t0), .val (.int v36_t0)] [(.int (0 : Int32))])) _
        have hv : (own_f0_52) = (0 : Int32) := by exact rfl
        rw [hv]
        exact own_retN X_52 hx (t := .boolean) Bd.returns (by simp) (hb hby at_53) (BodyLoose.notSynchronized Bd) (w := (0 : Int32)) rfl ⟨rfl, N0⟩ (by decide) (by decide)
      by_cases hc40 : v17_t0 = 0
      · refine own_step (fun _ => XS.ifYes X_36.here hx rfl (pc0 := 40) (pc' := 52) rfl (hb hby at_40) rfl (Jvm.Free.XT.i0_eq_t hc40) (by decide) (by decide)) ?_
        show own_Goes p.tables e below (T_36.setTop (mkF m 52 #[.val (.long q0), .second, .val (.long q1), .second, .val (.int v17_t0), .val (.int v36_t0)] [])) _
        have hv : (own_f0_36 v17_t0 v36_t0) = (own_f0_52) := by exact (if_pos hc40)
        rw [hv]
        exact J52 T_36 X_36 e_36
      · refine own_step (fun _ => XS.ifNo X_36.here hx rfl (hb hby at_40) rfl (Jvm.Free.XT.i0_eq_f hc40)) ?_
        show own_Goes p.tables e below (T_36.setTop (mkF m 43 #[.val (.long q0), .second, .val (.long q1), .second, .val (.int v17_t0), .val (.int v36_t0)] [])) _
        refine own_step (fun _ => XS.iload X_36.here hx rfl (hb hby at_43) rfl) ?_
        show own_Goes p.tables e below (T_36.setTop (mkF m 45 #[.val (.long q0), .second, .val (.long q1), .second, .val (.int v17_t0), .val (.int v36_t0)] [(.int v36_t0)])) _
        by_cases hc45 : v36_t0 = 0
        · refine own_step (fun _ => XS.ifYes X_36.here hx rfl (pc0 := 45) (pc' := 52) rfl (hb hby at_45) rfl (Jvm.Free.XT.i0_eq_t hc45) (by decide) (by decide)) ?_
          show own_Goes p.tables e below (T_36.setTop (mkF m 52 #[.val (.long q0), .second, .val (.long q1), .second, .val (.int v17_t0), .val (.int v36_t0)] [])) _
          have hv : (own_f0_36 v17_t0 v36_t0) = (own_f0_52) := by exact ((if_neg hc40)).trans (if_pos hc45)
          rw [hv]
          exact J52 T_36 X_36 e_36
        · refine own_step (fun _ => XS.ifNo X_36.here hx rfl (hb hby at_45) rfl (Jvm.Free.XT.i0_eq_f hc45)) ?_
          show own_Goes p.tables e below (T_36.setTop (mkF m 48 #[.val (.long q0), .second, .val (.long q1), .second, .val (.int v17_t0), .val (.int v36_t0)] [])) _
          refine own_step (fun _ => XS.iconst X_36.here hx rfl (hb hby at_48)) ?_
          show own_Goes p.tables e below (T_36.setTop (mkF m 49 #[.val (.long q0), .second, .val (.long q1), .second, .val (.int v17_t0), .val (.int v36_t0)] [(.int (1 : Int32))])) _
          refine own_step (fun _ => XS.goto X_36.here hx rfl (pc0 := 49) (pc' := 53) rfl (hb hby at_49) (by decide) (by decide)) ?_
          show own_Goes p.tables e below (T_36.setTop (mkF m 53 #[.val (.long q0), .second, .val (.long q1), .second, .val (.int v17_t0), .val (.int v36_t0)] [(.int (1 : Int32))])) _
          have hv : (own_f0_36 v17_t0 v36_t0) = (1 : Int32) := by exact ((if_neg hc40)).trans (if_neg hc45)
          rw [hv]
          exact own_retN X_36 hx (t := .boolean) Bd.returns (by simp) (hb hby at_53) (BodyLoose.notSynchronized Bd) (w := (1 : Int32)) rfl ⟨rfl, N0⟩ (by decide) (by decide)
    by_cases hc28 : (own_f1 (own_f2 q1)) = q1
    · refine own_step (fun _ => XS.ifNo X4.here hx rfl (hb hby at_28) rfl (Jvm.Free.XT.ll_ne_f hc28)) ?_
      show own_Goes p.tables e below (T4.setTop (mkF m 31 #[.val (.long q0), .second, .val (.long q1), .second, .val (.int v17_t0), .unset] [])) _
      refine own_step (fun _ => XS.iconst X4.here hx rfl (hb hby at_31)) ?_
      show own_Goes p.tables e below (T4.setTop (mkF m 32 #[.val (.long q0), .second, .val (.long q1), .second, .val (.int v17_t0), .unset] [(.int (1 : Int32))])) _
      refine own_step (fun _ => XS.goto X4.here hx rfl (pc0 := 32) (pc' := 36) rfl (hb hby at_32) (by decide) (by decide)) ?_
      show own_Goes p.tables e below (T4.setTop (mkF m 36 #[.val (.long q0), .second, .val (.long q1), .second, .val (.int v17_t0), .unset] [(.int (1 : Int32))])) _
      have hv : (own_f0_17 q1 v17_t0) = (own_f0_36 v17_t0 (1 : Int32)) := by exact (if_pos hc28)
      rw [hv]
      exact J36 T4 X4 e4 (1 : Int32)
    · refine own_step (fun _ => XS.ifYes X4.here hx rfl (pc0 := 28) (pc' := 35) rfl (hb hby at_28) rfl (Jvm.Free.XT.ll_ne_t hc28) (by decide) (by decide)) ?_
      show own_Goes p.tables e below (T4.setTop (mkF m 35 #[.val (.long q0), .second, .val (.long q1), .second, .val (.int v17_t0), .unset] [])) _
      refine own_step (fun _ => XS.iconst X4.here hx rfl (hb hby at_35)) ?_
      show own_Goes p.tables e below (T4.setTop (mkF m 36 #[.val (.long q0), .second, .val (.long q1), .second, .val (.int v17_t0), .unset] [(.int (0 : Int32))])) _
      have hv : (own_f0_17 q1 v17_t0) = (own_f0_36 v17_t0 (0 : Int32)) := by exact (if_neg hc28)
      rw [hv]
      exact J36 T4 X4 e4 (0 : Int32)
  by_cases hc9 : (own_f2 (own_f1 q0)) = q0
  · refine own_step (fun _ => XS.ifNo X2.here hx rfl (hb hby at_9) rfl (Jvm.Free.XT.ll_ne_f hc9)) ?_
    show own_Goes p.tables e below (T2.setTop (mkF m 12 #[.val (.long q0), .second, .val (.long q1), .second, .unset, .unset] [])) _
    refine own_step (fun _ => XS.iconst X2.here hx rfl (hb hby at_12)) ?_
    show own_Goes p.tables e below (T2.setTop (mkF m 13 #[.val (.long q0), .second, .val (.long q1), .second, .unset, .unset] [(.int (1 : Int32))])) _
    refine own_step (fun _ => XS.goto X2.here hx rfl (pc0 := 13) (pc' := 17) rfl (hb hby at_13) (by decide) (by decide)) ?_
    show own_Goes p.tables e below (T2.setTop (mkF m 17 #[.val (.long q0), .second, .val (.long q1), .second, .unset, .unset] [(.int (1 : Int32))])) _
    have hv : (own_f0 q0 q1) = (own_f0_17 q1 (1 : Int32)) := by exact (if_pos hc9)
    rw [hv]
    exact J17 T2 X2 e2 (1 : Int32)
  · refine own_step (fun _ => XS.ifYes X2.here hx rfl (pc0 := 9) (pc' := 16) rfl (hb hby at_9) rfl (Jvm.Free.XT.ll_ne_t hc9) (by decide) (by decide)) ?_
    show own_Goes p.tables e below (T2.setTop (mkF m 16 #[.val (.long q0), .second, .val (.long q1), .second, .unset, .unset] [])) _
    refine own_step (fun _ => XS.iconst X2.here hx rfl (hb hby at_16)) ?_
    show own_Goes p.tables e below (T2.setTop (mkF m 17 #[.val (.long q0), .second, .val (.long q1), .second, .unset, .unset] [(.int (0 : Int32))])) _
    have hv : (own_f0 q0 q1) = (own_f0_17 q1 (0 : Int32)) := by exact (if_neg hc9)
    rw [hv]
    exact J17 T2 X2 e2 (0 : Int32)
/-- z >>> s (a long, unsigned) -/
def own_sh (x : Int64) (s : Int32) : Int64 := (x.toUInt64 >>> (s &&& 0x3f).toInt64.toUInt64).toInt64
theorem own_sh_bv (x : Int64) (s : Int32) (n : Nat) (h : ((s &&& 0x3f).toInt64.toUInt64).toBitVec = BitVec.ofNat 64 n) (hn : n < 64) : (own_sh x s).toBitVec = x.toBitVec >>> n := by
  unfold own_sh
  rw [UInt64.toBitVec_toInt64, UInt64.toBitVec_shiftRight, h]
  apply BitVec.eq_of_toNat_eq
  simp only [BitVec.ushiftRight_eq', BitVec.toNat_ushiftRight, BitVec.toNat_umod, BitVec.toNat_ofNat]
  congr 1
  have h64 : (64 : BitVec 64).toNat = 64 := rfl
  rw [h64]
  simp only [Nat.reducePow]
  omega
theorem own_hg_bv (x : BitVec 64) (s : Nat) (hs : 64 ≤ 3 * s) : (x ^^^ x >>> s) ^^^ (x ^^^ x >>> s) >>> s ^^^ (x ^^^ x >>> s) >>> (2 * s) = x := by
  have e1 : x >>> s >>> s = x >>> (2 * s) := by rw [← BitVec.shiftRight_add]; congr 1; omega
  have e2 : x >>> s >>> (2 * s) = 0#64 := by rw [← BitVec.shiftRight_add]; exact BitVec.ushiftRight_eq_zero (by omega)
  simp only [BitVec.ushiftRight_xor_distrib, e1, e2, BitVec.xor_zero]
  generalize x >>> s = u
  generalize x >>> (2 * s) = v
  rw [BitVec.xor_assoc x u, ← BitVec.xor_assoc u u, BitVec.xor_self, BitVec.zero_xor, BitVec.xor_assoc x v, BitVec.xor_self, BitVec.xor_zero]
theorem own_gh_bv (x : BitVec 64) (s : Nat) (hs : 64 ≤ 3 * s) : (x ^^^ x >>> s ^^^ x >>> (2 * s)) ^^^ (x ^^^ x >>> s ^^^ x >>> (2 * s)) >>> s = x := by
  have e1 : x >>> s >>> s = x >>> (2 * s) := by rw [← BitVec.shiftRight_add]; congr 1; omega
  have e2 : x >>> (2 * s) >>> s = 0#64 := by rw [← BitVec.shiftRight_add]; exact BitVec.ushiftRight_eq_zero (by omega)
  simp only [BitVec.ushiftRight_xor_distrib, e1, e2, BitVec.xor_zero]
  generalize x >>> s = u
  generalize x >>> (2 * s) = v
  rw [BitVec.xor_assoc x u v, BitVec.xor_assoc x, BitVec.xor_self, BitVec.xor_zero]
def own_g (s : Int32) (x : Int64) : Int64 := x ^^^ own_sh x s
def own_h (s t : Int32) (x : Int64) : Int64 := (x ^^^ own_sh x s) ^^^ own_sh x t
theorem own_hg {s t : Int32} (n : Nat) (h1 : ((s &&& 0x3f).toInt64.toUInt64).toBitVec = BitVec.ofNat 64 n) (h2 : ((t &&& 0x3f).toInt64.toUInt64).toBitVec = BitVec.ofNat 64 (2 * n)) (hn : 64 ≤ 3 * n) (hm : 2 * n < 64) (x : Int64) : own_h s t (own_g s x) = x := by
  apply Int64.toBitVec_inj.mp
  simp only [own_h, own_g, Int64.toBitVec_xor, own_sh_bv _ s n h1 (by omega), own_sh_bv _ t (2 * n) h2 hm]
  exact own_hg_bv _ n hn
theorem own_gh {s t : Int32} (n : Nat) (h1 : ((s &&& 0x3f).toInt64.toUInt64).toBitVec = BitVec.ofNat 64 n) (h2 : ((t &&& 0x3f).toInt64.toUInt64).toBitVec = BitVec.ofNat 64 (2 * n)) (hn : 64 ≤ 3 * n) (hm : 2 * n < 64) (x : Int64) : own_g s (own_h s t x) = x := by
  apply Int64.toBitVec_inj.mp
  simp only [own_h, own_g, Int64.toBitVec_xor, own_sh_bv _ s n h1 (by omega), own_sh_bv _ t (2 * n) h2 hm]
  exact own_gh_bv _ n hn
theorem own_mul (x a b : Int64) (h : a * b = 1) : x * a * b = x := by rw [Int64.mul_assoc, h, Int64.mul_one]
theorem own_f1_eq (x : Int64) : own_f1 x = own_g 31 (own_g 27 (own_g 30 x * (-4658895280553007687 : Int64)) * (-7723592293110705685 : Int64)) := rfl
theorem own_f2_eq (x : Int64) : own_f2 x = own_h 30 60 (own_h 27 54 (own_h 31 62 x * (3573116690164977347 : Int64)) * (-7575587736534282103 : Int64)) := rfl
theorem own_back (x : Int64) : own_f2 (own_f1 x) = x := by
  rw [own_f1_eq, own_f2_eq, own_hg 31 (by decide) (by decide) (by decide) (by decide), own_mul _ _ _ (by decide), own_hg 27 (by decide) (by decide) (by decide) (by decide), own_mul _ _ _ (by decide), own_hg 30 (by decide) (by decide) (by decide) (by decide)]
theorem own_forth (x : Int64) : own_f1 (own_f2 x) = x := by
  rw [own_f1_eq, own_f2_eq, own_gh 30 (by decide) (by decide) (by decide) (by decide), own_mul _ _ _ (by decide), own_gh 27 (by decide) (by decide) (by decide) (by decide), own_mul _ _ _ (by decide), own_gh 31 (by decide) (by decide) (by decide) (by decide)]
theorem own_law (q0 : Int64) (q1 : Int64) : own_f0 q0 q1 = 1 := by
  unfold own_f0 own_f0_17
  rw [if_pos (own_back q0), if_pos (own_forth q1)]
  decide
set_option maxRecDepth 65536 in
set_option maxHeartbeats 40000000 in
theorem comes_1 {Post : Tables → Env → Array Value → State → Outcome → State → Prop} (hpost : ∀ tb e args s v u, (limb_1_1.after args s (.returned v) u = true ∧ limb_1_2.after args s (.returned v) u = true ∧ True) → FrameEnd s (.returned v) u (Jvm.fieldLocs frame_1_writes args s ++ Jvm.arrayLocs frame_1_arrays args s ++ Jvm.staticLocs frame_1_statics s) 0 0 → Post tb e args s (.returned v) u) :
    ArmFor flags0 classFile x code maxLocals ret World_1 tables_1 room_1 Calls_1 rest_1 Pre_1 Post := by
  intro l hfl _ _ p e ha hc hk s m args below hf hA hF happ hP
  obtain ⟨hcalls, hrest, hpre⟩ := hP
  obtain ⟨-, -, -, hnamed, -, -, -, hat⟩ := (Spec.applies_iff hf).mp happ
  obtain ⟨hg, hn⟩ := and_e (Cond.before_iff.mp (show (Jvm.Cond.and given_1 narrow_1).before args s = true from hpre))
  obtain ⟨g1, g2⟩ := and_e hg
  obtain ⟨g3, g4⟩ := and_e g2
  obtain ⟨w0, w1, rfl⟩ : ∃ w0 w1 : Value, args = #[w0, w1] := by
    have hs : args.size = 2 := by simpa [Cond.value, given_1] using g1
    obtain ⟨L⟩ := args
    match L, hs with
    | [w0, w1], _ => exact ⟨w0, w1, rfl⟩
  have hw := fun d (hd : d ∈ tables_1) => atoms_spec (ws := Jvm.Cond.code x code maxLocals ret :: tables_1) hat d (List.mem_cons_of_mem _ hd)
  obtain ⟨i0, ei0⟩ := isL_v g3
  obtain rfl : w0 = (.long i0) := Option.some.inj ei0
  obtain ⟨i1, ei1⟩ := isL_v g4
  obtain rfl : w1 = (.long i1) := Option.some.inj ei1
  have hrm := rm0 l s _ hw tables_1 i0 i1 s.heap s.heap.size (Nat.le_refl _)
  rw [own_law i0 i1] at hrm
  obtain ⟨n, o, h1, h2, h3, _, L, rfl, ⟨rfl, N⟩, hq⟩ := hrm p e ha hc hk s m _ below hf ((Spec.applies_iff_loose hf).mp happ).1 ⟨rfl, State.Warmed39.refl s, rfl⟩ trivial
  refine ⟨n, _, h1, h2, h3, hpost _ _ _ _ _ _ ⟨Cond.after_iff.mpr rfl, Cond.after_iff.mpr (eq_i res_at (Term.int_eval (1)) rfl), trivial⟩ ⟨hq.1, hq.2.1, (hq.2.2.sift fun y hy => Or.inr (N y hy)).mono (by decide) (by decide)⟩⟩
theorem main_1_1 : Claimed_1_1 := comes_1 fun _ _ _ _ _ _ h hF => ⟨h.1, hF⟩
theorem main_1_2 : Claimed_1_2 := comes_1 fun _ _ _ _ _ _ h hF => ⟨h.2.1, hF⟩
end Jvm.Pilot.@@N@@
namespace Jvm.Pilot.@@N@@
open Jvm Jvm.ClassFile Sem Op Lib Jvm.Free Jvm.Stand Jvm.Pilot.@@N@@.Jvm.D
/-! MADE BY PROGRAM (witnessworld.py) out of the Statement's table words and the real class files: 9 classes; the members and pool entries that the words name. The judged class is class 1, her method 2. -/
namespace start1
open Jvm.ClassFile
def u (s : String) : CpInfo := .utf8 (stringToUtf16 s)
/-- a pool by its gaps: so many unusable entries, then the entry; so many at the end -/
def gap : Nat → List CpInfo → List CpInfo
  | 0, r => r
  | n + 1, r => .unusable :: gap n r
def poolList (es : List (Nat × CpInfo)) (last : Nat) : List CpInfo := es.foldr (fun e r => gap e.1 (e.2 :: r)) (gap last [])
def pool (es : List (Nat × CpInfo)) (last : Nat) : Array CpInfo := ⟨poolList es last⟩
def fileOf (pool : Array CpInfo) (this : Nat) (attrs : Array Attribute := #[]) (ms : Array MethodInfo := #[]) (fl : Nat := 33) (sup : Nat := 0) (ifs : Array Nat := #[]) (fds : Array FieldInfo := #[]) : ClassFile where
  minorVersion := 0
  majorVersion := 65
  constantPool := pool
  accessFlags := fl
  thisClass := this
  superClass := sup
  interfaces := ifs
  fields := fds
  methods := ms
  attributes := attrs
def plain (name : String) (sup : Option ClassId) : Class where
  name := name
  kind := .ordinary
  loader := none
  accessFlags := 33
  super := sup
  interfaces := #[]
  cf := none
  fields := #[]
  methods := #[]
  instanceTypes := #[]
  staticTypes := #[]
  resolved := #[]
  callSites := []
  init := .initialized
  statics := none
  mirror := none

def pool0 : Array CpInfo := pool [(5, u "<init>"), (0, u "()V"), (1, .class_ 10), (1, u "java/lang/Object")] 113

def k0m0 : Method := { name := "<init>", desc := "()V", sig := { parameters := [], returnType := none }, accessFlags := 1, code := none }
/-- java/lang/Object -/
def k0 : Class := { plain "java/lang/Object" none with
  accessFlags := 33
  interfaces := #[]
  cf := some (fileOf pool0 8 #[] #[{ accessFlags := 1, nameIndex := 5, descriptorIndex := 6, attributes := #[] }] 33 0 #[] #[])
  fields := #[]
  methods := #[k0m0]
  instanceTypes := #[]
  staticTypes := #[]
  resolved := Array.replicate 124 none
  statics := none }

def pool1 : Array CpInfo := pool [(2, .class_ 4), (1, u "java/lang/Object"), (0, u "<init>"), (0, u "()V"), (0, .long 3573116690164977347), (1, .long 10871156337175269513), (1, .methodref 12 13), (0, .class_ 14), (0, .nameAndType 15 16), (0, u "com/example/ebbfilter/ebbfilter/RecordHash"), (0, u "mix"), (0, u "(J)J"), (0, .methodref 18 19), (0, .class_ 20), (0, .nameAndType 21 16), (0, u "com/example/ebbfilter/ebbfilter/RecordHashMixPinLaw"), (0, u "unmix"), (2, u "law"), (0, u "(JJ)Z")] 3

def k1m0 : Method := { name := "<init>", desc := "()V", sig := { parameters := [], returnType := none }, accessFlags := 2, code := none }
def k1c1 : Code := { maxStack := 5, maxLocals := 4, code := method_2_code, exceptionTable := #[], attributes := #[] }
def k1m1 : Method := { name := "unmix", desc := "(J)J", sig := { parameters := [.long], returnType := some .long }, accessFlags := 10, code := some k1c1 }
def k1c2 : Code := { maxStack := 4, maxLocals := 6, code := code, exceptionTable := #[], attributes := #[] }
def k1m2 : Method := { name := "law", desc := "(JJ)Z", sig := { parameters := [.long, .long], returnType := some .boolean }, accessFlags := 9, code := some k1c2 }
/-- com/example/ebbfilter/ebbfilter/RecordHashMixPinLaw -/
def k1 : Class := { plain "com/example/ebbfilter/ebbfilter/RecordHashMixPinLaw" (some 0) with
  accessFlags := 49
  interfaces := #[]
  cf := some (fileOf pool1 18 #[] #[{ accessFlags := 2, nameIndex := 5, descriptorIndex := 6, attributes := #[] }, { accessFlags := 10, nameIndex := 21, descriptorIndex := 16, attributes := #[] }, { accessFlags := 9, nameIndex := 24, descriptorIndex := 25, attributes := #[] }] 49 2 #[] #[])
  fields := #[]
  methods := #[k1m0, k1m1, k1m2]
  instanceTypes := #[]
  staticTypes := #[]
  resolved := Array.replicate 29 none
  statics := none }

def pool2 : Array CpInfo := pool [(2, .class_ 4), (1, u "java/lang/Object"), (0, u "<init>"), (0, u "()V"), (3, .class_ 12), (1, u "com/example/ebbfilter/ebbfilter/RecordHash"), (0, u "LITTLE_ENDIAN_LONG"), (0, u "Ljava/lang/invoke/VarHandle;"), (8, u "mix"), (0, u "(J)J"), (4, .long 13787848793156543929), (1, .long 10723151780598845931), (21, u "GOLDEN_GAMMA"), (0, u "J")] 10

def k2m0 : Method := { name := "<init>", desc := "()V", sig := { parameters := [], returnType := none }, accessFlags := 2, code := none }
def k2c1 : Code := { maxStack := 5, maxLocals := 4, code := prog_3_method_3_code, exceptionTable := #[], attributes := #[] }
def k2m1 : Method := { name := "mix", desc := "(J)J", sig := { parameters := [.long], returnType := some .long }, accessFlags := 8, code := some k2c1 }
/-- com/example/ebbfilter/ebbfilter/RecordHash -/
def k2 : Class := { plain "com/example/ebbfilter/ebbfilter/RecordHash" (some 0) with
  accessFlags := 49
  interfaces := #[]
  cf := some (fileOf pool2 10 #[] #[{ accessFlags := 2, nameIndex := 5, descriptorIndex := 6, attributes := #[] }, { accessFlags := 8, nameIndex := 23, descriptorIndex := 24, attributes := #[] }] 49 2 #[] #[{ accessFlags := 24, nameIndex := 53, descriptorIndex := 54, attributes := #[] }, { accessFlags := 26, nameIndex := 13, descriptorIndex := 14, attributes := #[] }])
  fields := #[{ name := "GOLDEN_GAMMA", type := .long, accessFlags := 24, slot := 0, constantValue := 0 }, { name := "LITTLE_ENDIAN_LONG", type := (.object "java/lang/invoke/VarHandle"), accessFlags := 26, slot := 1, constantValue := 0 }]
  methods := #[k2m0, k2m1]
  instanceTypes := #[]
  staticTypes := #[.long, (.object "java/lang/invoke/VarHandle")]
  resolved := Array.replicate 65 none
  statics := none }

def pool3 : Array CpInfo := pool [(1, u "java/lang/Cloneable"), (0, .class_ 1), (0, u "java/lang/Object"), (0, .class_ 3)] 3

/-- java/lang/Cloneable -/
def k3 : Class := { plain "java/lang/Cloneable" (some 0) with
  accessFlags := 1537
  interfaces := #[]
  cf := some (fileOf pool3 2 #[] #[] 1537 4 #[] #[])
  fields := #[]
  methods := #[]
  instanceTypes := #[]
  staticTypes := #[]
  resolved := Array.replicate 8 none
  statics := none }

def pool4 : Array CpInfo := pool [(1, u "java/io/Serializable"), (0, .class_ 1), (0, u "java/lang/Object"), (0, .class_ 3)] 3

/-- java/io/Serializable -/
def k4 : Class := { plain "java/io/Serializable" (some 0) with
  accessFlags := 1537
  interfaces := #[]
  cf := some (fileOf pool4 2 #[] #[] 1537 4 #[] #[])
  fields := #[]
  methods := #[]
  instanceTypes := #[]
  staticTypes := #[]
  resolved := Array.replicate 8 none
  statics := none }

/-- the primitive byte -/
def k5 : Class := { plain "byte" none with kind := .primitive 'B', accessFlags := 0x411 }
/-- [B -/
def k6 : Class := { plain "[B" (some 0) with kind := .array 5 .byte, interfaces := #[3, 4], accessFlags := 1041 }

/-- the primitive int -/
def k7 : Class := { plain "int" none with kind := .primitive 'I', accessFlags := 0x411 }
/-- [I -/
def k8 : Class := { plain "[I" (some 0) with kind := .array 7 .int, interfaces := #[3, 4], accessFlags := 1041 }

def heap : Heap := #[]
def classes : Array Class := #[k0, k1, k2, k3, k4, k5, k6, k7, k8]
def interned : List (Array UInt16 × Addr) := []
def slotsUsed : Nat := 0
def theMethod : MethodId := ⟨1, 2⟩
def args0 : Array Value := #[.long 5, .long 7]
def aboutOver (below : List Frame) : State where
  vm := { classes := classes, interned := interned.toArray }
  heap := heap
  slotsUsed := slotsUsed
  threads := #[{ frames := .invoking theMethod args0 :: below }]
def below0 : List Frame := [.native { method := ⟨0, 0⟩, args := #[] }]
def about1 : State := aboutOver below0
def p0 : Program := .bare "" "" ""
def e0 : Env := launch0.env 0 0 0
theorem w_frames : about1.frames = Frame.invoking theMethod args0 :: below0 := rfl
set_option maxRecDepth 65536 in
theorem w_args : argsFit about1.vm theMethod args0 = true := by decide +kernel
set_option maxRecDepth 65536 in
theorem w_heap : heapFits about1 = true := by decide +kernel
set_option maxRecDepth 65536 in
theorem w_runnable : about1.curStatus? = some .runnable := by decide +kernel
set_option maxRecDepth 65536 in
theorem w_alone : about1.alone = true := by decide +kernel
set_option maxRecDepth 65536 in
theorem w_named : about1.methodNamed? x = some theMethod := by decide +kernel
set_option maxRecDepth 65536 in
theorem w_hears : about1.hears theMethod below0 = true := by decide +kernel
set_option maxRecDepth 65536 in
theorem w_ripe : about1.ripe theMethod args0 below0 = true := by decide +kernel
theorem w_running : about1.status = .running := rfl
set_option maxRecDepth 65536 in
theorem w_room : about1.hasRoom e0.platform room_1 = true :=
  launch0.hasRoom_least _ room_1 (by decide +kernel) (by decide +kernel) (by decide +kernel) (by decide +kernel) (by decide +kernel) (by decide +kernel)
theorem allAtoms_all (ts : List Jvm.Cond) (a : Array Jvm.Value) (st : Jvm.State) : (allAtoms ts).before a st = ts.all (fun c => c.before a st) := by
  induction ts with
  | nil => rfl
  | cons c t ih =>
    show (Jvm.Cond.and c (allAtoms t)).before a st = _
    rw [Jvm.Cond.before_and, ih, List.all_cons]
def words1 : List Jvm.Cond := Jvm.Cond.code x code maxLocals ret :: tables_1
/-- a 'code' word, met by the world's own term for the bytes: nothing is compared byte by byte -/
theorem code_word {y : MethodName} {bytes : ByteArray} {mx : Nat} {rt : Option FieldType} {a : Array Value} {s : State} {m : MethodId} {meth : Method} {c : Code} (h1 : s.methodNamed? y = some m) (h2 : s.vm.method? m = some meth) (h3 : meth.code = some c) (h4 : c.code = bytes)
    (h5 : (c.maxLocals == mx && c.exceptionTable.isEmpty && decide (c.maxStack ≤ mostOperands) && decide (meth.sig.returnType = rt) && !meth.locks && decide (parseMethodDescriptor y.desc = some meth.sig)) = true) : (Jvm.Cond.code y bytes mx rt).before a s = true := by
  simp only [Bool.and_eq_true, beq_iff_eq, Bool.not_eq_true', decide_eq_true_eq] at h5
  obtain ⟨⟨⟨⟨⟨g1, g2⟩, g3⟩, g4⟩, g5⟩, g6⟩ := h5
  simp [Cond.before, Cond.holds, Cond.value, h1, h2, h3, h4, g1, g2, g3, g4, g5, g6]
def isCode : Jvm.Cond → Bool
  | .code _ _ _ _ => true
  | _ => false
theorem all_split {L : List Jvm.Cond} {P : Jvm.Cond → Bool} (h1 : L.all (fun c => isCode c || P c) = true) (h2 : ∀ c ∈ L.filter isCode, P c = true) : L.all P = true := by
  refine List.all_eq_true.mpr fun c hc => ?_
  have h := List.all_eq_true.mp h1 c hc
  rcases Bool.eq_false_or_eq_true (isCode c) with hi | hi
  · exact h2 c (List.mem_filter.mpr ⟨hc, hi⟩)
  · simpa [hi] using h
set_option maxRecDepth 65536 in
theorem w_c0 : (Jvm.Cond.code x code maxLocals ret).before args0 about1 = true := code_word (m := ⟨1, 2⟩) (meth := k1m2) (c := k1c2) (by decide +kernel) rfl rfl rfl (by decide +kernel)
set_option maxRecDepth 65536 in
theorem w_c1 : (Jvm.Cond.code ({ cls := "com/example/ebbfilter/ebbfilter/RecordHash", name := "mix", desc := "(J)J" } : Jvm.MethodName) prog_3_method_3_code (4 : Nat) (Option.some Jvm.ClassFile.FieldType.long)).before args0 about1 = true := code_word (m := ⟨2, 1⟩) (meth := k2m1) (c := k2c1) (by decide +kernel) rfl rfl rfl (by decide +kernel)
set_option maxRecDepth 65536 in
theorem w_c2 : (Jvm.Cond.code ({ cls := "com/example/ebbfilter/ebbfilter/RecordHashMixPinLaw", name := "unmix", desc := "(J)J" } : Jvm.MethodName) method_2_code (4 : Nat) (Option.some Jvm.ClassFile.FieldType.long)).before args0 about1 = true := code_word (m := ⟨1, 1⟩) (meth := k1m1) (c := k1c1) (by decide +kernel) rfl rfl rfl (by decide +kernel)
def codes1 : List Jvm.Cond := [Jvm.Cond.code x code maxLocals ret, Jvm.Cond.code ({ cls := "com/example/ebbfilter/ebbfilter/RecordHash", name := "mix", desc := "(J)J" } : Jvm.MethodName) prog_3_method_3_code (4 : Nat) (Option.some Jvm.ClassFile.FieldType.long), Jvm.Cond.code ({ cls := "com/example/ebbfilter/ebbfilter/RecordHashMixPinLaw", name := "unmix", desc := "(J)J" } : Jvm.MethodName) method_2_code (4 : Nat) (Option.some Jvm.ClassFile.FieldType.long)]
set_option maxRecDepth 65536 in
theorem codes_eq : words1.filter isCode = codes1 := rfl
theorem w_codes : ∀ c ∈ words1.filter isCode, c.before args0 about1 = true := by
  rw [codes_eq]
  intro c hc
  simp only [codes1, List.mem_cons, List.not_mem_nil, or_false] at hc
  rcases hc with rfl | rfl | rfl
  · exact w_c0
  · exact w_c1
  · exact w_c2
set_option maxRecDepth 65536 in
theorem w_t1 : words1.all (fun c => isCode c || c.before args0 about1) = true := by decide +kernel
theorem w_tables : (allAtoms (Jvm.Cond.code x code maxLocals ret :: tables_1)).before args0 about1 = true := by
  rw [allAtoms_all]
  show words1.all (fun c => c.before args0 about1) = true
  refine all_split ?_ w_codes
  rw [w_t1]
set_option maxRecDepth 65536 in
theorem w_case : (Jvm.Cond.and given_1 narrow_1).before args0 about1 = true := by decide +kernel
theorem w_applies : (headSpec (Jvm.Cond.code x code maxLocals ret :: tables_1) room_1).applies x e0.platform about1 = true :=
  (Spec.applies_iff w_frames).mpr ⟨w_running, w_runnable, w_alone, w_named, w_hears, w_ripe, w_room, w_tables⟩
theorem atStart : AtStart classFile x code maxLocals ret World_1 tables_1 room_1 Calls_1 rest_1 Pre_1 launch0 p0 e0 about1 theMethod args0 below0 :=
  ⟨lists_1, trivial, launch0.admits_env _ _ _, launch0.least_env, fairChoices_fair.cas, fairChoices_fair.clock, w_frames, w_args, w_heap, w_applies, trivial, trivial, w_case⟩
end start1
theorem witness_1 : WitnessClaimed_1 := ⟨start1.p0, start1.e0, start1.about1, start1.theMethod, start1.args0, start1.below0, start1.atStart⟩
end Jvm.Pilot.@@N@@
