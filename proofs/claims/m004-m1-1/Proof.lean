import JvmDerived
import JvmDerived.Pilot.@@N@@Statement
import JvmDerived.Pilot.@@N@@Code
set_option linter.unusedVariables false
set_option linter.unusedSimpArgs false
namespace Jvm.RoadKit
open Sem ClassFile Op Lib Jvm.Stand Jvm.Free Jvm.LawKit
section New
variable {p : Program} {l : Launch} {e : Env} {R : Room} {s : State} {m : MethodId} {args : Array Value} {below : List Frame} {meth : Method} {c : Code} {T : State} {locs : List Loc} {cells slots : Nat}
theorem retI (X : Stand p l e R s m args below meth c T locs cells slots) (hx : p.tables.exec = Jvm.exec) {pc : Nat} {Ls : Array Slot} {z : Int32} {rest : List Value} (hret : meth.sig.returnType = some .int) (hd : decode c.code pc = .ok (.ireturn, 1)) {fs : List Frame}
    (hl : ∀ (f : JFrame) (acts : List Action), f.method = m → f.locked = none → f.entered = [] → (doReturn e (T.setTop f) acts (some (.int z))).1 = T.setFrames fs) : Steps p.tables e below (T.setTop (mkF m pc Ls (.int z :: rest))) (T.setFrames fs) := by
  have hm' : T.vm.method? m = some meth := X.method'
  have hn : narrow .int (.int z) = .int z := rfl
  show Steps p.tables e below (T.setTop { method := m, pc := pc, locals := Ls, stack := _ :: rest, locked := none }) _
  jvm_step X.here [X.here.top, hx, hd, hm', hret, hn]
  first | (intro acts; rw [hl _ acts rfl rfl rfl]) | rw [hl _ _ rfl rfl rfl]
  exact Steps.refl _
end New
end Jvm.RoadKit
namespace Jvm.Pilot.@@N@@
open Jvm Jvm.ClassFile Sem Op Lib Jvm.Free Jvm.Stand Jvm.LawKit Jvm.RoadKit Bundle Jvm.Pilot.@@N@@.Jvm.D
section Own
variable {p : Program} {l : Launch} {e : Env} {R : Room} {s : State} {m : MethodId} {args : Array Value} {below : List Frame} {meth : Method} {c : Code} {T : State} {locs : List Loc} {cells slots : Nat}
/-- the run goes on from S to its end, and P holds there -/
def own_Goes (tb : Tables) (e : Env) (below : List Frame) (S : State) (P : State → Outcome → Prop) : Prop :=
  ∃ s₂ o, Steps tb e below S s₂ ∧ s₂.status = .running ∧ Ended s₂ below o ∧ P s₂ o
theorem own_step {tb : Tables} {S S' : State} {P : State → Outcome → Prop} (h : ∀ t, Steps tb e below S' t → Steps tb e below S t) (k : own_Goes tb e below S' P) : own_Goes tb e below S P := by
  obtain ⟨s₂, o, h1, h2⟩ := k
  exact ⟨s₂, o, h _ h1, h2⟩
theorem own_enter {tb : Tables} {g g' : JFrame} {P : State → Outcome → Prop} (q : g = g') (k : own_Goes tb e below (T.setTop g') P) : own_Goes tb e below (T.setTop g) P := q ▸ k
def own_P (s : State) (Q : Option Value → Heap → List Loc → Prop) (C K : Nat) : State → Outcome → Prop := fun U o => ∃ v L, o = .returned v ∧ Q v U.heap L ∧ FrameEnd s o U L C K
/-- a body that writes nothing -/
def own_Qp (w : Option Value) (h0 : Heap) (v : Option Value) (h : Heap) (L : List Loc) : Prop := v = w ∧ L = [] ∧ h = h0
/-- a body that makes cells and writes none that stood before -/
def own_Qa (w : Option Value) (h0 : Heap) (n0 : Nat) (v : Option Value) (h : Heap) (L : List Loc) : Prop := v = w ∧ Fr n0 L ∧ Keep h0 h []
/-- the law -/
def own_Ql (w : Option Value) (n0 : Nat) (v : Option Value) (h : Heap) (L : List Loc) : Prop := v = w ∧ Fr n0 L
variable {Q : Option Value → Heap → List Loc → Prop} {C K : Nat}
theorem own_retI (X : Stand p l e R s m args below meth c T locs cells slots) (hx : p.tables.exec = Jvm.exec) {pc : Nat} {Ls : Array Slot} {z : Int32} {rest : List Value} (hret : meth.sig.returnType = some .int) (hd : decode c.code pc = .ok (.ireturn, 1)) (hk : meth.locks = false)
    (hQ : Q (some (.int z)) T.heap locs) (hc : cells ≤ C) (hs : slots ≤ K) : own_Goes p.tables e below (T.setTop (mkF m pc Ls (.int z :: rest))) (own_P s Q C K) := by
  obtain ⟨fs, hr, hrun, hended, hW, hsame⟩ := X.leave (v := some (.int z)) (fun h => by rw [hret] at h; cases h) hk
  exact ⟨_, _, retI X hx hret hd hr, hrun, hended, _, _, rfl, hQ, ⟨_, rfl⟩, hW, hsame.mono hc hs⟩
theorem own_retN (X : Stand p l e R s m args below meth c T locs cells slots) (hx : p.tables.exec = Jvm.exec) {pc : Nat} {Ls : Array Slot} {z : Int32} {t : FieldType} {rest : List Value} (hret : meth.sig.returnType = some t) (ht : t = .boolean ∨ t = .byte ∨ t = .char ∨ t = .short) (hd : decode c.code pc = .ok (.ireturn, 1)) (hk : meth.locks = false)
    {w : Int32} (hw : nar t z = w) (hQ : Q (some (.int w)) T.heap locs) (hc : cells ≤ C) (hs : slots ≤ K) : own_Goes p.tables e below (T.setTop (mkF m pc Ls (.int z :: rest))) (own_P s Q C K) := by
  subst hw
  obtain ⟨fs, hr, hrun, hended, hW, hsame⟩ := X.leave (v := some (.int (nar t z))) (fun h => by rw [hret] at h; cases h) hk
  exact ⟨_, _, retN X hx hret ht hd hr, hrun, hended, _, _, rfl, hQ, ⟨_, rfl⟩, hW, hsame.mono hc hs⟩
theorem own_retJ (X : Stand p l e R s m args below meth c T locs cells slots) (hx : p.tables.exec = Jvm.exec) {pc : Nat} {Ls : Array Slot} {z : Int64} (hret : meth.sig.returnType = some .long) (hd : decode c.code pc = .ok (.lreturn, 1)) (hk : meth.locks = false)
    (hQ : Q (some (.long z)) T.heap locs) (hc : cells ≤ C) (hs : slots ≤ K) : own_Goes p.tables e below (T.setTop (mkF m pc Ls [.long z])) (own_P s Q C K) := by
  obtain ⟨fs, hr, hrun, hended, hW, hsame⟩ := X.leave (v := some (.long z)) (fun h => by rw [hret] at h; cases h) hk
  exact ⟨_, _, X.lreturnOut hx hret hd hr, hrun, hended, _, _, rfl, hQ, ⟨_, rfl⟩, hW, hsame.mono hc hs⟩
theorem own_retV (X : Stand p l e R s m args below meth c T locs cells slots) (hx : p.tables.exec = Jvm.exec) {pc : Nat} {Ls : Array Slot} (hret : meth.sig.returnType = none) (hd : decode c.code pc = .ok (.return_, 1)) (hk : meth.locks = false)
    (hQ : Q none T.heap locs) (hc : cells ≤ C) (hs : slots ≤ K) : own_Goes p.tables e below (T.setTop (mkF m pc Ls [])) (own_P s Q C K) := by
  obtain ⟨fs, hr, hrun, hended, hW, hsame⟩ := X.leave (v := none) (fun _ => rfl) hk
  exact ⟨_, _, X.returnOut hx hret hd hr, hrun, hended, _, _, rfl, hQ, ⟨_, rfl⟩, hW, hsame.mono hc hs⟩
theorem own_flat (X : Stand p l e R s m args below meth c T (locs ++ []) (cells + 0) (slots + 0)) : Stand p l e R s m args below meth c T locs cells slots := List.append_nil locs ▸ X
end Own

theorem d1_0 : decode prog_11_method_6_code 0 = .ok (.lload_n 0, 1) := by decide +kernel
theorem d1_1 : decode prog_11_method_6_code 1 = .ok (.lload_n 0, 1) := by decide +kernel
theorem d1_2 : decode prog_11_method_6_code 2 = .ok (.bipush 30, 2) := by decide +kernel
theorem d1_4 : decode prog_11_method_6_code 4 = .ok (.lushr, 1) := by decide +kernel
theorem d1_5 : decode prog_11_method_6_code 5 = .ok (.lxor, 1) := by decide +kernel
theorem d1_6 : decode prog_11_method_6_code 6 = .ok (.ldc2_w 36, 3) := by decide +kernel
theorem d1_9 : decode prog_11_method_6_code 9 = .ok (.lmul, 1) := by decide +kernel
theorem d1_10 : decode prog_11_method_6_code 10 = .ok (.lstore_n 0, 1) := by decide +kernel
theorem d1_11 : decode prog_11_method_6_code 11 = .ok (.lload_n 0, 1) := by decide +kernel
theorem d1_12 : decode prog_11_method_6_code 12 = .ok (.lload_n 0, 1) := by decide +kernel
theorem d1_13 : decode prog_11_method_6_code 13 = .ok (.bipush 27, 2) := by decide +kernel
theorem d1_15 : decode prog_11_method_6_code 15 = .ok (.lushr, 1) := by decide +kernel
theorem d1_16 : decode prog_11_method_6_code 16 = .ok (.lxor, 1) := by decide +kernel
theorem d1_17 : decode prog_11_method_6_code 17 = .ok (.ldc2_w 38, 3) := by decide +kernel
theorem d1_20 : decode prog_11_method_6_code 20 = .ok (.lmul, 1) := by decide +kernel
theorem d1_21 : decode prog_11_method_6_code 21 = .ok (.lstore_n 0, 1) := by decide +kernel
theorem d1_22 : decode prog_11_method_6_code 22 = .ok (.lload_n 0, 1) := by decide +kernel
theorem d1_23 : decode prog_11_method_6_code 23 = .ok (.lload_n 0, 1) := by decide +kernel
theorem d1_24 : decode prog_11_method_6_code 24 = .ok (.bipush 31, 2) := by decide +kernel
theorem d1_26 : decode prog_11_method_6_code 26 = .ok (.lushr, 1) := by decide +kernel
theorem d1_27 : decode prog_11_method_6_code 27 = .ok (.lxor, 1) := by decide +kernel
theorem d1_28 : decode prog_11_method_6_code 28 = .ok (.lreturn, 1) := by decide +kernel
theorem pn_1 : plainName "com/example/shingle/shingle/Hashes" = true := by first | (simp [plainName, overriddenIn]; done) | decide +kernel
theorem ef_1 (m : MethodId) (q0 : Int64) : entryFrame m #[(.long q0)] 2 = mkF m 0 #[.val (.long q0), .second] [] := by first | (simp [entryFrame, mkF, argsToLocals, Value.category]; done) | rfl
def own_f1 (q0 : Int64) : Int64 :=
  let z10 : Int64 := ((q0 ^^^ ((q0.toUInt64 >>> ((30 : Int32) &&& 0x3f).toInt64.toUInt64).toInt64)) * (-4658895280553007687 : Int64))
  let z21 : Int64 := ((z10 ^^^ ((z10.toUInt64 >>> ((27 : Int32) &&& 0x3f).toInt64.toUInt64).toInt64)) * (-7723592293110705685 : Int64))
  (z21 ^^^ ((z21.toUInt64 >>> ((31 : Int32) &&& 0x3f).toInt64.toUInt64).toInt64))
abbrev own_room1 : Room := { frames := 0, cells := 0, slots := 0, locals := 0 }
set_option maxRecDepth 65536 in
set_option maxHeartbeats 40000000 in
theorem rm1 (l : Launch) (Z : State) (a0 : Array Value) (hw : ∀ d ∈ tables_1, d.before a0 Z = true) (ws : List Jvm.Cond) (q0 : Int64) (h0 : Heap) (n0 : Nat) (Z0 : n0 ≤ h0.size) :
    MetFree l (⟨"com/example/shingle/shingle/Hashes", "mix", "(J)J"⟩ : MethodName) (head1 (Jvm.Cond.code (⟨"com/example/shingle/shingle/Hashes", "mix", "(J)J"⟩ : MethodName) prog_11_method_6_code 2 (some .long) :: ws) own_room1) (fun a U => a = #[(.long q0)] ∧ Z.Warmed39 U.vm ∧ U.heap = h0) (fun _ _ _ _ _ => True) (fun _ U o U' => ∃ v L, o = .returned v ∧ own_Qp (some (.long (own_f1 q0))) h0 v U'.heap L ∧ FrameEnd U o U' L own_room1.cells own_room1.slots) := by
  refine MetFree.of_bodySF (plainFor_of_name pn_1) hisR ?_
  intro p e s m args below meth c s₁ Bd hml0 hP hK
  obtain ⟨rfl, hZ, hh⟩ := hP
  have hx := Bd.exec
  have hby := Bd.bytes
  have hml : c.maxLocals = 2 := hml0
  have hown : s.vm.findClass "com/example/shingle/shingle/Hashes" = some m.cls := findClass_of_methodNamed Bd.named
  have hnm := (name_of_methodNamed Bd.named Bd.method).1
  have X0 : Stand p l e own_room1 s m #[(.long q0)] below meth c s₁ [] 0 0 := Stand.of_body Bd
  have e0 : s₁.heap = h0 := by rw [← hh, Bd.state]; rfl
  have N0 := Fr.nil n0
  refine own_enter (ef_1 m q0) ?_
  show own_Goes p.tables e below (s₁.setTop (mkF m 0 #[.val (.long q0), .second] [])) (own_P s (own_Qp (some (.long (own_f1 q0))) h0) own_room1.cells own_room1.slots)
  refine own_step (fun _ => XS.lloadN X0.here hx rfl (hb hby d1_0) rfl) ?_
  show own_Goes p.tables e below (s₁.setTop (mkF m 1 #[.val (.long q0), .second] [(.long q0)])) _
  refine own_step (fun _ => XS.lloadN X0.here hx rfl (hb hby d1_1) rfl) ?_
  show own_Goes p.tables e below (s₁.setTop (mkF m 2 #[.val (.long q0), .second] [(.long q0), (.long q0)])) _
  refine own_step (fun _ => XS.bipush X0.here hx rfl (hb hby d1_2)) ?_
  show own_Goes p.tables e below (s₁.setTop (mkF m 4 #[.val (.long q0), .second] [(.int (30 : Int32)), (.long q0), (.long q0)])) _
  refine own_step (fun _ => XS.lushr X0.here hx rfl (hb hby d1_4) rfl) ?_
  show own_Goes p.tables e below (s₁.setTop (mkF m 5 #[.val (.long q0), .second] [(.long ((q0.toUInt64 >>> ((30 : Int32) &&& 0x3f).toInt64.toUInt64).toInt64)), (.long q0)])) _
  refine own_step (fun _ => XS.lxor X0.here hx rfl (hb hby d1_5) rfl) ?_
  show own_Goes p.tables e below (s₁.setTop (mkF m 6 #[.val (.long q0), .second] [(.long (q0 ^^^ ((q0.toUInt64 >>> ((30 : Int32) &&& 0x3f).toInt64.toUInt64).toInt64)))])) _
  refine own_step (X0.ldc2Long hx hown (mvT hZ (hw _ (List.mem_of_getElem? (i := 4) rfl))) (g := (mkF m 6 #[.val (.long q0), .second] [(.long (q0 ^^^ ((q0.toUInt64 >>> ((30 : Int32) &&& 0x3f).toInt64.toUInt64).toInt64)))])) rfl (hb hby d1_6)) ?_
  show own_Goes p.tables e below (s₁.setTop (mkF m 9 #[.val (.long q0), .second] [(.long (-4658895280553007687 : Int64)), (.long (q0 ^^^ ((q0.toUInt64 >>> ((30 : Int32) &&& 0x3f).toInt64.toUInt64).toInt64)))])) _
  refine own_step (fun _ => XS.lmul X0.here hx rfl (hb hby d1_9) rfl) ?_
  show own_Goes p.tables e below (s₁.setTop (mkF m 10 #[.val (.long q0), .second] [(.long ((q0 ^^^ ((q0.toUInt64 >>> ((30 : Int32) &&& 0x3f).toInt64.toUInt64).toInt64)) * (-4658895280553007687 : Int64)))])) _
  obtain ⟨z10, hz10⟩ : ∃ z : Int64, z = ((q0 ^^^ ((q0.toUInt64 >>> ((30 : Int32) &&& 0x3f).toInt64.toUInt64).toInt64)) * (-4658895280553007687 : Int64)) := ⟨_, rfl⟩
  refine own_step (fun _ => XS.lstoreN X0.here hx rfl (hb hby d1_10) rfl (l' := #[.val (.long z10), .second]) (by subst hz10; rfl)) ?_
  show own_Goes p.tables e below (s₁.setTop (mkF m 11 #[.val (.long z10), .second] [])) _
  refine own_step (fun _ => XS.lloadN X0.here hx rfl (hb hby d1_11) rfl) ?_
  show own_Goes p.tables e below (s₁.setTop (mkF m 12 #[.val (.long z10), .second] [(.long z10)])) _
  refine own_step (fun _ => XS.lloadN X0.here hx rfl (hb hby d1_12) rfl) ?_
  show own_Goes p.tables e below (s₁.setTop (mkF m 13 #[.val (.long z10), .second] [(.long z10), (.long z10)])) _
  refine own_step (fun _ => XS.bipush X0.here hx rfl (hb hby d1_13)) ?_
  show own_Goes p.tables e below (s₁.setTop (mkF m 15 #[.val (.long z10), .second] [(.int (27 : Int32)), (.long z10), (.long z10)])) _
  refine own_step (fun _ => XS.lushr X0.here hx rfl (hb hby d1_15) rfl) ?_
  show own_Goes p.tables e below (s₁.setTop (mkF m 16 #[.val (.long z10), .second] [(.long ((z10.toUInt64 >>> ((27 : Int32) &&& 0x3f).toInt64.toUInt64).toInt64)), (.long z10)])) _
  refine own_step (fun _ => XS.lxor X0.here hx rfl (hb hby d1_16) rfl) ?_
  show own_Goes p.tables e below (s₁.setTop (mkF m 17 #[.val (.long z10), .second] [(.long (z10 ^^^ ((z10.toUInt64 >>> ((27 : Int32) &&& 0x3f).toInt64.toUInt64).toInt64)))])) _
  refine own_step (X0.ldc2Long hx hown (mvT hZ (hw _ (List.mem_of_getElem? (i := 5) rfl))) (g := (mkF m 17 #[.val (.long z10), .second] [(.long (z10 ^^^ ((z10.toUInt64 >>> ((27 : Int32) &&& 0x3f).toInt64.toUInt64).toInt64)))])) rfl (hb hby d1_17)) ?_
  show own_Goes p.tables e below (s₁.setTop (mkF m 20 #[.val (.long z10), .second] [(.long (-7723592293110705685 : Int64)), (.long (z10 ^^^ ((z10.toUInt64 >>> ((27 : Int32) &&& 0x3f).toInt64.toUInt64).toInt64)))])) _
  refine own_step (fun _ => XS.lmul X0.here hx rfl (hb hby d1_20) rfl) ?_
  show own_Goes p.tables e below (s₁.setTop (mkF m 21 #[.val (.long z10), .second] [(.long ((z10 ^^^ ((z10.toUInt64 >>> ((27 : Int32) &&& 0x3f).toInt64.toUInt64).toInt64)) * (-7723592293110705685 : Int64)))])) _
  obtain ⟨z21, hz21⟩ : ∃ z : Int64, z = ((z10 ^^^ ((z10.toUInt64 >>> ((27 : Int32) &&& 0x3f).toInt64.toUInt64).toInt64)) * (-7723592293110705685 : Int64)) := ⟨_, rfl⟩
  refine own_step (fun _ => XS.lstoreN X0.here hx rfl (hb hby d1_21) rfl (l' := #[.val (.long z21), .second]) (by subst hz21; rfl)) ?_
  show own_Goes p.tables e below (s₁.setTop (mkF m 22 #[.val (.long z21), .second] [])) _
  refine own_step (fun _ => XS.lloadN X0.here hx rfl (hb hby d1_22) rfl) ?_
  show own_Goes p.tables e below (s₁.setTop (mkF m 23 #[.val (.long z21), .second] [(.long z21)])) _
  refine own_step (fun _ => XS.lloadN X0.here hx rfl (hb hby d1_23) rfl) ?_
  show own_Goes p.tables e below (s₁.setTop (mkF m 24 #[.val (.long z21), .second] [(.long z21), (.long z21)])) _
  refine own_step (fun _ => XS.bipush X0.here hx rfl (hb hby d1_24)) ?_
  show own_Goes p.tables e below (s₁.setTop (mkF m 26 #[.val (.long z21), .second] [(.int (31 : Int32)), (.long z21), (.long z21)])) _
  refine own_step (fun _ => XS.lushr X0.here hx rfl (hb hby d1_26) rfl) ?_
  show own_Goes p.tables e below (s₁.setTop (mkF m 27 #[.val (.long z21), .second] [(.long ((z21.toUInt64 >>> ((31 : Int32) &&& 0x3f).toInt64.toUInt64).toInt64)), (.long z21)])) _
  refine own_step (fun _ => XS.lxor X0.here hx rfl (hb hby d1_27) rfl) ?_
  show own_Goes p.tables e below (s₁.setTop (mkF m 28 #[.val (.long z21), .second] [(.long (z21 ^^^ ((z21.toUInt64 >>> ((31 : Int32) &&& 0x3f).toInt64.toUInt64).toInt64)))])) _
  have hv : (own_f1 q0) = (z21 ^^^ ((z21.toUInt64 >>> ((31 : Int32) &&& 0x3f).toInt64.toUInt64).toInt64)) := by subst hz21; subst hz10; exact rfl
  rw [hv]
  exact own_retJ X0 hx Bd.returns (hb hby d1_28) (BodyLoose.notSynchronized Bd) ⟨rfl, rfl, e0⟩ (by decide) (by decide)
theorem d3_0 : decode method_2_code 0 = .ok (.lload_n 0, 1) := by decide +kernel
theorem d3_1 : decode method_2_code 1 = .ok (.lstore_n 2, 1) := by decide +kernel
theorem d3_2 : decode method_2_code 2 = .ok (.lload_n 2, 1) := by decide +kernel
theorem d3_3 : decode method_2_code 3 = .ok (.ldc2_w 7, 3) := by decide +kernel
theorem d3_6 : decode method_2_code 6 = .ok (.lload_n 0, 1) := by decide +kernel
theorem d3_7 : decode method_2_code 7 = .ok (.lload_n 2, 1) := by decide +kernel
theorem d3_8 : decode method_2_code 8 = .ok (.lmul, 1) := by decide +kernel
theorem d3_9 : decode method_2_code 9 = .ok (.lsub, 1) := by decide +kernel
theorem d3_10 : decode method_2_code 10 = .ok (.lmul, 1) := by decide +kernel
theorem d3_11 : decode method_2_code 11 = .ok (.lstore_n 2, 1) := by decide +kernel
theorem d3_12 : decode method_2_code 12 = .ok (.lload_n 2, 1) := by decide +kernel
theorem d3_13 : decode method_2_code 13 = .ok (.ldc2_w 7, 3) := by decide +kernel
theorem d3_16 : decode method_2_code 16 = .ok (.lload_n 0, 1) := by decide +kernel
theorem d3_17 : decode method_2_code 17 = .ok (.lload_n 2, 1) := by decide +kernel
theorem d3_18 : decode method_2_code 18 = .ok (.lmul, 1) := by decide +kernel
theorem d3_19 : decode method_2_code 19 = .ok (.lsub, 1) := by decide +kernel
theorem d3_20 : decode method_2_code 20 = .ok (.lmul, 1) := by decide +kernel
theorem d3_21 : decode method_2_code 21 = .ok (.lstore_n 2, 1) := by decide +kernel
theorem d3_22 : decode method_2_code 22 = .ok (.lload_n 2, 1) := by decide +kernel
theorem d3_23 : decode method_2_code 23 = .ok (.ldc2_w 7, 3) := by decide +kernel
theorem d3_26 : decode method_2_code 26 = .ok (.lload_n 0, 1) := by decide +kernel
theorem d3_27 : decode method_2_code 27 = .ok (.lload_n 2, 1) := by decide +kernel
theorem d3_28 : decode method_2_code 28 = .ok (.lmul, 1) := by decide +kernel
theorem d3_29 : decode method_2_code 29 = .ok (.lsub, 1) := by decide +kernel
theorem d3_30 : decode method_2_code 30 = .ok (.lmul, 1) := by decide +kernel
theorem d3_31 : decode method_2_code 31 = .ok (.lstore_n 2, 1) := by decide +kernel
theorem d3_32 : decode method_2_code 32 = .ok (.lload_n 2, 1) := by decide +kernel
theorem d3_33 : decode method_2_code 33 = .ok (.ldc2_w 7, 3) := by decide +kernel
theorem d3_36 : decode method_2_code 36 = .ok (.lload_n 0, 1) := by decide +kernel
theorem d3_37 : decode method_2_code 37 = .ok (.lload_n 2, 1) := by decide +kernel
theorem d3_38 : decode method_2_code 38 = .ok (.lmul, 1) := by decide +kernel
theorem d3_39 : decode method_2_code 39 = .ok (.lsub, 1) := by decide +kernel
theorem d3_40 : decode method_2_code 40 = .ok (.lmul, 1) := by decide +kernel
theorem d3_41 : decode method_2_code 41 = .ok (.lstore_n 2, 1) := by decide +kernel
theorem d3_42 : decode method_2_code 42 = .ok (.lload_n 2, 1) := by decide +kernel
theorem d3_43 : decode method_2_code 43 = .ok (.ldc2_w 7, 3) := by decide +kernel
theorem d3_46 : decode method_2_code 46 = .ok (.lload_n 0, 1) := by decide +kernel
theorem d3_47 : decode method_2_code 47 = .ok (.lload_n 2, 1) := by decide +kernel
theorem d3_48 : decode method_2_code 48 = .ok (.lmul, 1) := by decide +kernel
theorem d3_49 : decode method_2_code 49 = .ok (.lsub, 1) := by decide +kernel
theorem d3_50 : decode method_2_code 50 = .ok (.lmul, 1) := by decide +kernel
theorem d3_51 : decode method_2_code 51 = .ok (.lstore_n 2, 1) := by decide +kernel
theorem d3_52 : decode method_2_code 52 = .ok (.lload_n 2, 1) := by decide +kernel
theorem d3_53 : decode method_2_code 53 = .ok (.lreturn, 1) := by decide +kernel
theorem pn_3 : plainName "com/example/shingle/shingle/HashesMixPinLaw" = true := by first | (simp [plainName, overriddenIn]; done) | decide +kernel
theorem ef_3 (m : MethodId) (q0 : Int64) : entryFrame m #[(.long q0)] 4 = mkF m 0 #[.val (.long q0), .second, .unset, .unset] [] := by first | (simp [entryFrame, mkF, argsToLocals, Value.category]; done) | rfl
def own_f3 (q0 : Int64) : Int64 :=
  let z21 : Int64 := ((q0 * ((2 : Int64) - (q0 * q0))) * ((2 : Int64) - (q0 * (q0 * ((2 : Int64) - (q0 * q0))))))
  let z41 : Int64 := ((z21 * ((2 : Int64) - (q0 * z21))) * ((2 : Int64) - (q0 * (z21 * ((2 : Int64) - (q0 * z21))))))
  (z41 * ((2 : Int64) - (q0 * z41)))
abbrev own_room3 : Room := { frames := 0, cells := 0, slots := 0, locals := 0 }
set_option maxRecDepth 65536 in
set_option maxHeartbeats 40000000 in
theorem rm3 (l : Launch) (Z : State) (a0 : Array Value) (hw : ∀ d ∈ tables_1, d.before a0 Z = true) (ws : List Jvm.Cond) (q0 : Int64) (h0 : Heap) (n0 : Nat) (Z0 : n0 ≤ h0.size) :
    MetFree l (⟨"com/example/shingle/shingle/HashesMixPinLaw", "inverse", "(J)J"⟩ : MethodName) (head1 (Jvm.Cond.code (⟨"com/example/shingle/shingle/HashesMixPinLaw", "inverse", "(J)J"⟩ : MethodName) method_2_code 4 (some .long) :: ws) own_room3) (fun a U => a = #[(.long q0)] ∧ Z.Warmed39 U.vm ∧ U.heap = h0) (fun _ _ _ _ _ => True) (fun _ U o U' => ∃ v L, o = .returned v ∧ own_Qp (some (.long (own_f3 q0))) h0 v U'.heap L ∧ FrameEnd U o U' L own_room3.cells own_room3.slots) := by
  refine MetFree.of_bodySF (plainFor_of_name pn_3) hisR ?_
  intro p e s m args below meth c s₁ Bd hml0 hP hK
  obtain ⟨rfl, hZ, hh⟩ := hP
  have hx := Bd.exec
  have hby := Bd.bytes
  have hml : c.maxLocals = 4 := hml0
  have hown : s.vm.findClass "com/example/shingle/shingle/HashesMixPinLaw" = some m.cls := findClass_of_methodNamed Bd.named
  have hnm := (name_of_methodNamed Bd.named Bd.method).1
  have X0 : Stand p l e own_room3 s m #[(.long q0)] below meth c s₁ [] 0 0 := Stand.of_body Bd
  have e0 : s₁.heap = h0 := by rw [← hh, Bd.state]; rfl
  have N0 := Fr.nil n0
  refine own_enter (ef_3 m q0) ?_
  show own_Goes p.tables e below (s₁.setTop (mkF m 0 #[.val (.long q0), .second, .unset, .unset] [])) (own_P s (own_Qp (some (.long (own_f3 q0))) h0) own_room3.cells own_room3.slots)
  refine own_step (fun _ => XS.lloadN X0.here hx rfl (hb hby d3_0) rfl) ?_
  show own_Goes p.tables e below (s₁.setTop (mkF m 1 #[.val (.long q0), .second, .unset, .unset] [(.long q0)])) _
  refine own_step (fun _ => XS.lstoreN X0.here hx rfl (hb hby d3_1) rfl (l' := #[.val (.long q0), .second, .val (.long q0), .second]) rfl) ?_
  show own_Goes p.tables e below (s₁.setTop (mkF m 2 #[.val (.long q0), .second, .val (.long q0), .second] [])) _
  refine own_step (fun _ => XS.lloadN X0.here hx rfl (hb hby d3_2) rfl) ?_
  show own_Goes p.tables e below (s₁.setTop (mkF m 3 #[.val (.long q0), .second, .val (.long q0), .second] [(.long q0)])) _
  refine own_step (X0.ldc2Long hx hown (mvT hZ (hw _ (List.mem_of_getElem? (i := 14) rfl))) (g := (mkF m 3 #[.val (.long q0), .second, .val (.long q0), .second] [(.long q0)])) rfl (hb hby d3_3)) ?_
  show own_Goes p.tables e below (s₁.setTop (mkF m 6 #[.val (.long q0), .second, .val (.long q0), .second] [(.long (2 : Int64)), (.long q0)])) _
  refine own_step (fun _ => XS.lloadN X0.here hx rfl (hb hby d3_6) rfl) ?_
  show own_Goes p.tables e below (s₁.setTop (mkF m 7 #[.val (.long q0), .second, .val (.long q0), .second] [(.long q0), (.long (2 : Int64)), (.long q0)])) _
  refine own_step (fun _ => XS.lloadN X0.here hx rfl (hb hby d3_7) rfl) ?_
  show own_Goes p.tables e below (s₁.setTop (mkF m 8 #[.val (.long q0), .second, .val (.long q0), .second] [(.long q0), (.long q0), (.long (2 : Int64)), (.long q0)])) _
  refine own_step (fun _ => XS.lmul X0.here hx rfl (hb hby d3_8) rfl) ?_
  show own_Goes p.tables e below (s₁.setTop (mkF m 9 #[.val (.long q0), .second, .val (.long q0), .second] [(.long (q0 * q0)), (.long (2 : Int64)), (.long q0)])) _
  refine own_step (fun _ => XS.lsub X0.here hx rfl (hb hby d3_9) rfl) ?_
  show own_Goes p.tables e below (s₁.setTop (mkF m 10 #[.val (.long q0), .second, .val (.long q0), .second] [(.long ((2 : Int64) - (q0 * q0))), (.long q0)])) _
  refine own_step (fun _ => XS.lmul X0.here hx rfl (hb hby d3_10) rfl) ?_
  show own_Goes p.tables e below (s₁.setTop (mkF m 11 #[.val (.long q0), .second, .val (.long q0), .second] [(.long (q0 * ((2 : Int64) - (q0 * q0))))])) _
  refine own_step (fun _ => XS.lstoreN X0.here hx rfl (hb hby d3_11) rfl (l' := #[.val (.long q0), .second, .val (.long (q0 * ((2 : Int64) - (q0 * q0)))), .second]) rfl) ?_
  show own_Goes p.tables e below (s₁.setTop (mkF m 12 #[.val (.long q0), .second, .val (.long (q0 * ((2 : Int64) - (q0 * q0)))), .second] [])) _
  refine own_step (fun _ => XS.lloadN X0.here hx rfl (hb hby d3_12) rfl) ?_
  show own_Goes p.tables e below (s₁.setTop (mkF m 13 #[.val (.long q0), .second, .val (.long (q0 * ((2 : Int64) - (q0 * q0)))), .second] [(.long (q0 * ((2 : Int64) - (q0 * q0))))])) _
  refine own_step (X0.ldc2Long hx hown (mvT hZ (hw _ (List.mem_of_getElem? (i := 14) rfl))) (g := (mkF m 13 #[.val (.long q0), .second, .val (.long (q0 * ((2 : Int64) - (q0 * q0)))), .second] [(.long (q0 * ((2 : Int64) - (q0 * q0))))])) rfl (hb hby d3_13)) ?_
  show own_Goes p.tables e below (s₁.setTop (mkF m 16 #[.val (.long q0), .second, .val (.long (q0 * ((2 : Int64) - (q0 * q0)))), .second] [(.long (2 : Int64)), (.long (q0 * ((2 : Int64) - (q0 * q0))))])) _
  refine own_step (fun _ => XS.lloadN X0.here hx rfl (hb hby d3_16) rfl) ?_
  show own_Goes p.tables e below (s₁.setTop (mkF m 17 #[.val (.long q0), .second, .val (.long (q0 * ((2 : Int64) - (q0 * q0)))), .second] [(.long q0), (.long (2 : Int64)), (.long (q0 * ((2 : Int64) - (q0 * q0))))])) _
  refine own_step (fun _ => XS.lloadN X0.here hx rfl (hb hby d3_17) rfl) ?_
  show own_Goes p.tables e below (s₁.setTop (mkF m 18 #[.val (.long q0), .second, .val (.long (q0 * ((2 : Int64) - (q0 * q0)))), .second] [(.long (q0 * ((2 : Int64) - (q0 * q0)))), (.long q0), (.long (2 : Int64)), (.long (q0 * ((2 : Int64) - (q0 * q0))))])) _
  refine own_step (fun _ => XS.lmul X0.here hx rfl (hb hby d3_18) rfl) ?_
  show own_Goes p.tables e below (s₁.setTop (mkF m 19 #[.val (.long q0), .second, .val (.long (q0 * ((2 : Int64) - (q0 * q0)))), .second] [(.long (q0 * (q0 * ((2 : Int64) - (q0 * q0))))), (.long (2 : Int64)), (.long (q0 * ((2 : Int64) - (q0 * q0))))])) _
  refine own_step (fun _ => XS.lsub X0.here hx rfl (hb hby d3_19) rfl) ?_
  show own_Goes p.tables e below (s₁.setTop (mkF m 20 #[.val (.long q0), .second, .val (.long (q0 * ((2 : Int64) - (q0 * q0)))), .second] [(.long ((2 : Int64) - (q0 * (q0 * ((2 : Int64) - (q0 * q0)))))), (.long (q0 * ((2 : Int64) - (q0 * q0))))])) _
  refine own_step (fun _ => XS.lmul X0.here hx rfl (hb hby d3_20) rfl) ?_
  show own_Goes p.tables e below (s₁.setTop (mkF m 21 #[.val (.long q0), .second, .val (.long (q0 * ((2 : Int64) - (q0 * q0)))), .second] [(.long ((q0 * ((2 : Int64) - (q0 * q0))) * ((2 : Int64) - (q0 * (q0 * ((2 : Int64) - (q0 * q0)))))))])) _
  obtain ⟨z21, hz21⟩ : ∃ z : Int64, z = ((q0 * ((2 : Int64) - (q0 * q0))) * ((2 : Int64) - (q0 * (q0 * ((2 : Int64) - (q0 * q0)))))) := ⟨_, rfl⟩
  refine own_step (fun _ => XS.lstoreN X0.here hx rfl (hb hby d3_21) rfl (l' := #[.val (.long q0), .second, .val (.long z21), .second]) (by subst hz21; rfl)) ?_
  show own_Goes p.tables e below (s₁.setTop (mkF m 22 #[.val (.long q0), .second, .val (.long z21), .second] [])) _
  refine own_step (fun _ => XS.lloadN X0.here hx rfl (hb hby d3_22) rfl) ?_
  show own_Goes p.tables e below (s₁.setTop (mkF m 23 #[.val (.long q0), .second, .val (.long z21), .second] [(.long z21)])) _
  refine own_step (X0.ldc2Long hx hown (mvT hZ (hw _ (List.mem_of_getElem? (i := 14) rfl))) (g := (mkF m 23 #[.val (.long q0), .second, .val (.long z21), .second] [(.long z21)])) rfl (hb hby d3_23)) ?_
  show own_Goes p.tables e below (s₁.setTop (mkF m 26 #[.val (.long q0), .second, .val (.long z21), .second] [(.long (2 : Int64)), (.long z21)])) _
  refine own_step (fun _ => XS.lloadN X0.here hx rfl (hb hby d3_26) rfl) ?_
  show own_Goes p.tables e below (s₁.setTop (mkF m 27 #[.val (.long q0), .second, .val (.long z21), .second] [(.long q0), (.long (2 : Int64)), (.long z21)])) _
  refine own_step (fun _ => XS.lloadN X0.here hx rfl (hb hby d3_27) rfl) ?_
  show own_Goes p.tables e below (s₁.setTop (mkF m 28 #[.val (.long q0), .second, .val (.long z21), .second] [(.long z21), (.long q0), (.long (2 : Int64)), (.long z21)])) _
  refine own_step (fun _ => XS.lmul X0.here hx rfl (hb hby d3_28) rfl) ?_
  show own_Goes p.tables e below (s₁.setTop (mkF m 29 #[.val (.long q0), .second, .val (.long z21), .second] [(.long (q0 * z21)), (.long (2 : Int64)), (.long z21)])) _
  refine own_step (fun _ => XS.lsub X0.here hx rfl (hb hby d3_29) rfl) ?_
  show own_Goes p.tables e below (s₁.setTop (mkF m 30 #[.val (.long q0), .second, .val (.long z21), .second] [(.long ((2 : Int64) - (q0 * z21))), (.long z21)])) _
  refine own_step (fun _ => XS.lmul X0.here hx rfl (hb hby d3_30) rfl) ?_
  show own_Goes p.tables e below (s₁.setTop (mkF m 31 #[.val (.long q0), .second, .val (.long z21), .second] [(.long (z21 * ((2 : Int64) - (q0 * z21))))])) _
  refine own_step (fun _ => XS.lstoreN X0.here hx rfl (hb hby d3_31) rfl (l' := #[.val (.long q0), .second, .val (.long (z21 * ((2 : Int64) - (q0 * z21)))), .second]) rfl) ?_
  show own_Goes p.tables e below (s₁.setTop (mkF m 32 #[.val (.long q0), .second, .val (.long (z21 * ((2 : Int64) - (q0 * z21)))), .second] [])) _
  refine own_step (fun _ => XS.lloadN X0.here hx rfl (hb hby d3_32) rfl) ?_
  show own_Goes p.tables e below (s₁.setTop (mkF m 33 #[.val (.long q0), .second, .val (.long (z21 * ((2 : Int64) - (q0 * z21)))), .second] [(.long (z21 * ((2 : Int64) - (q0 * z21))))])) _
  refine own_step (X0.ldc2Long hx hown (mvT hZ (hw _ (List.mem_of_getElem? (i := 14) rfl))) (g := (mkF m 33 #[.val (.long q0), .second, .val (.long (z21 * ((2 : Int64) - (q0 * z21)))), .second] [(.long (z21 * ((2 : Int64) - (q0 * z21))))])) rfl (hb hby d3_33)) ?_
  show own_Goes p.tables e below (s₁.setTop (mkF m 36 #[.val (.long q0), .second, .val (.long (z21 * ((2 : Int64) - (q0 * z21)))), .second] [(.long (2 : Int64)), (.long (z21 * ((2 : Int64) - (q0 * z21))))])) _
  refine own_step (fun _ => XS.lloadN X0.here hx rfl (hb hby d3_36) rfl) ?_
  show own_Goes p.tables e below (s₁.setTop (mkF m 37 #[.val (.long q0), .second, .val (.long (z21 * ((2 : Int64) - (q0 * z21)))), .second] [(.long q0), (.long (2 : Int64)), (.long (z21 * ((2 : Int64) - (q0 * z21))))])) _
  refine own_step (fun _ => XS.lloadN X0.here hx rfl (hb hby d3_37) rfl) ?_
  show own_Goes p.tables e below (s₁.setTop (mkF m 38 #[.val (.long q0), .second, .val (.long (z21 * ((2 : Int64) - (q0 * z21)))), .second] [(.long (z21 * ((2 : Int64) - (q0 * z21)))), (.long q0), (.long (2 : Int64)), (.long (z21 * ((2 : Int64) - (q0 * z21))))])) _
  refine own_step (fun _ => XS.lmul X0.here hx rfl (hb hby d3_38) rfl) ?_
  show own_Goes p.tables e below (s₁.setTop (mkF m 39 #[.val (.long q0), .second, .val (.long (z21 * ((2 : Int64) - (q0 * z21)))), .second] [(.long (q0 * (z21 * ((2 : Int64) - (q0 * z21))))), (.long (2 : Int64)), (.long (z21 * ((2 : Int64) - (q0 * z21))))])) _
  refine own_step (fun _ => XS.lsub X0.here hx rfl (hb hby d3_39) rfl) ?_
  show own_Goes p.tables e below (s₁.setTop (mkF m 40 #[.val (.long q0), .second, .val (.long (z21 * ((2 : Int64) - (q0 * z21)))), .second] [(.long ((2 : Int64) - (q0 * (z21 * ((2 : Int64) - (q0 * z21)))))), (.long (z21 * ((2 : Int64) - (q0 * z21))))])) _
  refine own_step (fun _ => XS.lmul X0.here hx rfl (hb hby d3_40) rfl) ?_
  show own_Goes p.tables e below (s₁.setTop (mkF m 41 #[.val (.long q0), .second, .val (.long (z21 * ((2 : Int64) - (q0 * z21)))), .second] [(.long ((z21 * ((2 : Int64) - (q0 * z21))) * ((2 : Int64) - (q0 * (z21 * ((2 : Int64) - (q0 * z21)))))))])) _
  obtain ⟨z41, hz41⟩ : ∃ z : Int64, z = ((z21 * ((2 : Int64) - (q0 * z21))) * ((2 : Int64) - (q0 * (z21 * ((2 : Int64) - (q0 * z21)))))) := ⟨_, rfl⟩
  refine own_step (fun _ => XS.lstoreN X0.here hx rfl (hb hby d3_41) rfl (l' := #[.val (.long q0), .second, .val (.long z41), .second]) (by subst hz41; rfl)) ?_
  show own_Goes p.tables e below (s₁.setTop (mkF m 42 #[.val (.long q0), .second, .val (.long z41), .second] [])) _
  refine own_step (fun _ => XS.lloadN X0.here hx rfl (hb hby d3_42) rfl) ?_
  show own_Goes p.tables e below (s₁.setTop (mkF m 43 #[.val (.long q0), .second, .val (.long z41), .second] [(.long z41)])) _
  refine own_step (X0.ldc2Long hx hown (mvT hZ (hw _ (List.mem_of_getElem? (i := 14) rfl))) (g := (mkF m 43 #[.val (.long q0), .second, .val (.long z41), .second] [(.long z41)])) rfl (hb hby d3_43)) ?_
  show own_Goes p.tables e below (s₁.setTop (mkF m 46 #[.val (.long q0), .second, .val (.long z41), .second] [(.long (2 : Int64)), (.long z41)])) _
  refine own_step (fun _ => XS.lloadN X0.here hx rfl (hb hby d3_46) rfl) ?_
  show own_Goes p.tables e below (s₁.setTop (mkF m 47 #[.val (.long q0), .second, .val (.long z41), .second] [(.long q0), (.long (2 : Int64)), (.long z41)])) _
  refine own_step (fun _ => XS.lloadN X0.here hx rfl (hb hby d3_47) rfl) ?_
  show own_Goes p.tables e below (s₁.setTop (mkF m 48 #[.val (.long q0), .second, .val (.long z41), .second] [(.long z41), (.long q0), (.long (2 : Int64)), (.long z41)])) _
  refine own_step (fun _ => XS.lmul X0.here hx rfl (hb hby d3_48) rfl) ?_
  show own_Goes p.tables e below (s₁.setTop (mkF m 49 #[.val (.long q0), .second, .val (.long z41), .second] [(.long (q0 * z41)), (.long (2 : Int64)), (.long z41)])) _
  refine own_step (fun _ => XS.lsub X0.here hx rfl (hb hby d3_49) rfl) ?_
  show own_Goes p.tables e below (s₁.setTop (mkF m 50 #[.val (.long q0), .second, .val (.long z41), .second] [(.long ((2 : Int64) - (q0 * z41))), (.long z41)])) _
  refine own_step (fun _ => XS.lmul X0.here hx rfl (hb hby d3_50) rfl) ?_
  show own_Goes p.tables e below (s₁.setTop (mkF m 51 #[.val (.long q0), .second, .val (.long z41), .second] [(.long (z41 * ((2 : Int64) - (q0 * z41))))])) _
  refine own_step (fun _ => XS.lstoreN X0.here hx rfl (hb hby d3_51) rfl (l' := #[.val (.long q0), .second, .val (.long (z41 * ((2 : Int64) - (q0 * z41)))), .second]) rfl) ?_
  show own_Goes p.tables e below (s₁.setTop (mkF m 52 #[.val (.long q0), .second, .val (.long (z41 * ((2 : Int64) - (q0 * z41)))), .second] [])) _
  refine own_step (fun _ => XS.lloadN X0.here hx rfl (hb hby d3_52) rfl) ?_
  show own_Goes p.tables e below (s₁.setTop (mkF m 53 #[.val (.long q0), .second, .val (.long (z41 * ((2 : Int64) - (q0 * z41)))), .second] [(.long (z41 * ((2 : Int64) - (q0 * z41))))])) _
  have hv : (own_f3 q0) = (z41 * ((2 : Int64) - (q0 * z41))) := by subst hz41; subst hz21; exact rfl
  rw [hv]
  exact own_retJ X0 hx Bd.returns (hb hby d3_53) (BodyLoose.notSynchronized Bd) ⟨rfl, rfl, e0⟩ (by decide) (by decide)
theorem d2_0 : decode method_3_code 0 = .ok (.lload_n 0, 1) := by decide +kernel
theorem d2_1 : decode method_3_code 1 = .ok (.lload_n 0, 1) := by decide +kernel
theorem d2_2 : decode method_3_code 2 = .ok (.bipush 31, 2) := by decide +kernel
theorem d2_4 : decode method_3_code 4 = .ok (.lushr, 1) := by decide +kernel
theorem d2_5 : decode method_3_code 5 = .ok (.lxor, 1) := by decide +kernel
theorem d2_6 : decode method_3_code 6 = .ok (.lload_n 0, 1) := by decide +kernel
theorem d2_7 : decode method_3_code 7 = .ok (.bipush 62, 2) := by decide +kernel
theorem d2_9 : decode method_3_code 9 = .ok (.lushr, 1) := by decide +kernel
theorem d2_10 : decode method_3_code 10 = .ok (.lxor, 1) := by decide +kernel
theorem d2_11 : decode method_3_code 11 = .ok (.lstore_n 2, 1) := by decide +kernel
theorem d2_12 : decode method_3_code 12 = .ok (.lload_n 2, 1) := by decide +kernel
theorem d2_13 : decode method_3_code 13 = .ok (.ldc2_w 9, 3) := by decide +kernel
theorem d2_16 : decode method_3_code 16 = .ok (.invokestatic 11, 3) := by decide +kernel
theorem d2_19 : decode method_3_code 19 = .ok (.lmul, 1) := by decide +kernel
theorem d2_20 : decode method_3_code 20 = .ok (.lstore_n 2, 1) := by decide +kernel
theorem d2_21 : decode method_3_code 21 = .ok (.lload_n 2, 1) := by decide +kernel
theorem d2_22 : decode method_3_code 22 = .ok (.lload_n 2, 1) := by decide +kernel
theorem d2_23 : decode method_3_code 23 = .ok (.bipush 27, 2) := by decide +kernel
theorem d2_25 : decode method_3_code 25 = .ok (.lushr, 1) := by decide +kernel
theorem d2_26 : decode method_3_code 26 = .ok (.lxor, 1) := by decide +kernel
theorem d2_27 : decode method_3_code 27 = .ok (.lload_n 2, 1) := by decide +kernel
theorem d2_28 : decode method_3_code 28 = .ok (.bipush 54, 2) := by decide +kernel
theorem d2_30 : decode method_3_code 30 = .ok (.lushr, 1) := by decide +kernel
theorem d2_31 : decode method_3_code 31 = .ok (.lxor, 1) := by decide +kernel
theorem d2_32 : decode method_3_code 32 = .ok (.lstore_n 2, 1) := by decide +kernel
theorem d2_33 : decode method_3_code 33 = .ok (.lload_n 2, 1) := by decide +kernel
theorem d2_34 : decode method_3_code 34 = .ok (.ldc2_w 17, 3) := by decide +kernel
theorem d2_37 : decode method_3_code 37 = .ok (.invokestatic 11, 3) := by decide +kernel
theorem d2_40 : decode method_3_code 40 = .ok (.lmul, 1) := by decide +kernel
theorem d2_41 : decode method_3_code 41 = .ok (.lstore_n 2, 1) := by decide +kernel
theorem d2_42 : decode method_3_code 42 = .ok (.lload_n 2, 1) := by decide +kernel
theorem d2_43 : decode method_3_code 43 = .ok (.lload_n 2, 1) := by decide +kernel
theorem d2_44 : decode method_3_code 44 = .ok (.bipush 30, 2) := by decide +kernel
theorem d2_46 : decode method_3_code 46 = .ok (.lushr, 1) := by decide +kernel
theorem d2_47 : decode method_3_code 47 = .ok (.lxor, 1) := by decide +kernel
theorem d2_48 : decode method_3_code 48 = .ok (.lload_n 2, 1) := by decide +kernel
theorem d2_49 : decode method_3_code 49 = .ok (.bipush 60, 2) := by decide +kernel
theorem d2_51 : decode method_3_code 51 = .ok (.lushr, 1) := by decide +kernel
theorem d2_52 : decode method_3_code 52 = .ok (.lxor, 1) := by decide +kernel
theorem d2_53 : decode method_3_code 53 = .ok (.lreturn, 1) := by decide +kernel
theorem pn_2 : plainName "com/example/shingle/shingle/HashesMixPinLaw" = true := by first | (simp [plainName, overriddenIn]; done) | decide +kernel
theorem pd_2_0 : parseMethodDescriptor "(J)J" = some ⟨[.long], some .long⟩ := by decide +kernel
theorem ef_2 (m : MethodId) (q0 : Int64) : entryFrame m #[(.long q0)] 4 = mkF m 0 #[.val (.long q0), .second, .unset, .unset] [] := by first | (simp [entryFrame, mkF, argsToLocals, Value.category]; done) | rfl
def own_f2 (q0 : Int64) : Int64 :=
  let z11 : Int64 := ((q0 ^^^ ((q0.toUInt64 >>> ((31 : Int32) &&& 0x3f).toInt64.toUInt64).toInt64)) ^^^ ((q0.toUInt64 >>> ((62 : Int32) &&& 0x3f).toInt64.toUInt64).toInt64))
  let z20 : Int64 := (z11 * (own_f3 (-7723592293110705685 : Int64)))
  let z32 : Int64 := ((z20 ^^^ ((z20.toUInt64 >>> ((27 : Int32) &&& 0x3f).toInt64.toUInt64).toInt64)) ^^^ ((z20.toUInt64 >>> ((54 : Int32) &&& 0x3f).toInt64.toUInt64).toInt64))
  let z41 : Int64 := (z32 * (own_f3 (-4658895280553007687 : Int64)))
  ((z41 ^^^ ((z41.toUInt64 >>> ((30 : Int32) &&& 0x3f).toInt64.toUInt64).toInt64)) ^^^ ((z41.toUInt64 >>> ((60 : Int32) &&& 0x3f).toInt64.toUInt64).toInt64))
abbrev own_room2 : Room := { frames := 1, cells := 0, slots := 0, locals := 17 }
set_option maxRecDepth 65536 in
set_option maxHeartbeats 40000000 in
theorem rm2 (l : Launch) (Z : State) (a0 : Array Value) (hw : ∀ d ∈ tables_1, d.before a0 Z = true) (ws : List Jvm.Cond) (q0 : Int64) (h0 : Heap) (n0 : Nat) (Z0 : n0 ≤ h0.size) :
    MetFree l (⟨"com/example/shingle/shingle/HashesMixPinLaw", "unmix", "(J)J"⟩ : MethodName) (head1 (Jvm.Cond.code (⟨"com/example/shingle/shingle/HashesMixPinLaw", "unmix", "(J)J"⟩ : MethodName) method_3_code 4 (some .long) :: ws) own_room2) (fun a U => a = #[(.long q0)] ∧ Z.Warmed39 U.vm ∧ U.heap = h0) (fun _ _ _ _ _ => True) (fun _ U o U' => ∃ v L, o = .returned v ∧ own_Qp (some (.long (own_f2 q0))) h0 v U'.heap L ∧ FrameEnd U o U' L own_room2.cells own_room2.slots) := by
  refine MetFree.of_bodySF (plainFor_of_name pn_2) hisR ?_
  intro p e s m args below meth c s₁ Bd hml0 hP hK
  obtain ⟨rfl, hZ, hh⟩ := hP
  have hx := Bd.exec
  have hby := Bd.bytes
  have hml : c.maxLocals = 4 := hml0
  have hown : s.vm.findClass "com/example/shingle/shingle/HashesMixPinLaw" = some m.cls := findClass_of_methodNamed Bd.named
  have hnm := (name_of_methodNamed Bd.named Bd.method).1
  have X0 : Stand p l e own_room2 s m #[(.long q0)] below meth c s₁ [] 0 0 := Stand.of_body Bd
  have e0 : s₁.heap = h0 := by rw [← hh, Bd.state]; rfl
  have N0 := Fr.nil n0
  refine own_enter (ef_2 m q0) ?_
  show own_Goes p.tables e below (s₁.setTop (mkF m 0 #[.val (.long q0), .second, .unset, .unset] [])) (own_P s (own_Qp (some (.long (own_f2 q0))) h0) own_room2.cells own_room2.slots)
  refine own_step (fun _ => XS.lloadN X0.here hx rfl (hb hby d2_0) rfl) ?_
  show own_Goes p.tables e below (s₁.setTop (mkF m 1 #[.val (.long q0), .second, .unset, .unset] [(.long q0)])) _
  refine own_step (fun _ => XS.lloadN X0.here hx rfl (hb hby d2_1) rfl) ?_
  show own_Goes p.tables e below (s₁.setTop (mkF m 2 #[.val (.long q0), .second, .unset, .unset] [(.long q0), (.long q0)])) _
  refine own_step (fun _ => XS.bipush X0.here hx rfl (hb hby d2_2)) ?_
  show own_Goes p.tables e below (s₁.setTop (mkF m 4 #[.val (.long q0), .second, .unset, .unset] [(.int (31 : Int32)), (.long q0), (.long q0)])) _
  refine own_step (fun _ => XS.lushr X0.here hx rfl (hb hby d2_4) rfl) ?_
  show own_Goes p.tables e below (s₁.setTop (mkF m 5 #[.val (.long q0), .second, .unset, .unset] [(.long ((q0.toUInt64 >>> ((31 : Int32) &&& 0x3f).toInt64.toUInt64).toInt64)), (.long q0)])) _
  refine own_step (fun _ => XS.lxor X0.here hx rfl (hb hby d2_5) rfl) ?_
  show own_Goes p.tables e below (s₁.setTop (mkF m 6 #[.val (.long q0), .second, .unset, .unset] [(.long (q0 ^^^ ((q0.toUInt64 >>> ((31 : Int32) &&& 0x3f).toInt64.toUInt64).toInt64)))])) _
  refine own_step (fun _ => XS.lloadN X0.here hx rfl (hb hby d2_6) rfl) ?_
  show own_Goes p.tables e below (s₁.setTop (mkF m 7 #[.val (.long q0), .second, .unset, .unset] [(.long q0), (.long (q0 ^^^ ((q0.toUInt64 >>> ((31 : Int32) &&& 0x3f).toInt64.toUInt64).toInt64)))])) _
  refine own_step (fun _ => XS.bipush X0.here hx rfl (hb hby d2_7)) ?_
  show own_Goes p.tables e below (s₁.setTop (mkF m 9 #[.val (.long q0), .second, .unset, .unset] [(.int (62 : Int32)), (.long q0), (.long (q0 ^^^ ((q0.toUInt64 >>> ((31 : Int32) &&& 0x3f).toInt64.toUInt64).toInt64)))])) _
  refine own_step (fun _ => XS.lushr X0.here hx rfl (hb hby d2_9) rfl) ?_
  show own_Goes p.tables e below (s₁.setTop (mkF m 10 #[.val (.long q0), .second, .unset, .unset] [(.long ((q0.toUInt64 >>> ((62 : Int32) &&& 0x3f).toInt64.toUInt64).toInt64)), (.long (q0 ^^^ ((q0.toUInt64 >>> ((31 : Int32) &&& 0x3f).toInt64.toUInt64).toInt64)))])) _
  refine own_step (fun _ => XS.lxor X0.here hx rfl (hb hby d2_10) rfl) ?_
  show own_Goes p.tables e below (s₁.setTop (mkF m 11 #[.val (.long q0), .second, .unset, .unset] [(.long ((q0 ^^^ ((q0.toUInt64 >>> ((31 : Int32) &&& 0x3f).toInt64.toUInt64).toInt64)) ^^^ ((q0.toUInt64 >>> ((62 : Int32) &&& 0x3f).toInt64.toUInt64).toInt64)))])) _
  obtain ⟨z11, hz11⟩ : ∃ z : Int64, z = ((q0 ^^^ ((q0.toUInt64 >>> ((31 : Int32) &&& 0x3f).toInt64.toUInt64).toInt64)) ^^^ ((q0.toUInt64 >>> ((62 : Int32) &&& 0x3f).toInt64.toUInt64).toInt64)) := ⟨_, rfl⟩
  refine own_step (fun _ => XS.lstoreN X0.here hx rfl (hb hby d2_11) rfl (l' := #[.val (.long q0), .second, .val (.long z11), .second]) (by subst hz11; rfl)) ?_
  show own_Goes p.tables e below (s₁.setTop (mkF m 12 #[.val (.long q0), .second, .val (.long z11), .second] [])) _
  refine own_step (fun _ => XS.lloadN X0.here hx rfl (hb hby d2_12) rfl) ?_
  show own_Goes p.tables e below (s₁.setTop (mkF m 13 #[.val (.long q0), .second, .val (.long z11), .second] [(.long z11)])) _
  refine own_step (X0.ldc2Long hx hown (mvT hZ (hw _ (List.mem_of_getElem? (i := 10) rfl))) (g := (mkF m 13 #[.val (.long q0), .second, .val (.long z11), .second] [(.long z11)])) rfl (hb hby d2_13)) ?_
  show own_Goes p.tables e below (s₁.setTop (mkF m 16 #[.val (.long q0), .second, .val (.long z11), .second] [(.long (-7723592293110705685 : Int64)), (.long z11)])) _
  obtain ⟨_, _, ⟨T1, L1, k1, n1⟩, -, X1, ⟨Lc1, hQ1, l1, y1, z1⟩, st1⟩ := Jvm.LawKit.callS X0 hx (y := (⟨"com/example/shingle/shingle/HashesMixPinLaw", "inverse", "(J)J"⟩ : MethodName)) hown (mvT hZ (hw _ (List.mem_of_getElem? (i := 11) rfl))) (mvT hZ (hw _ (List.mem_of_getElem? (i := 12) rfl))) (mvT hZ (hw _ (List.mem_of_getElem? (i := 8) rfl))) (mvT hZ (hw _ (List.mem_of_getElem? (i := 13) rfl))) (by decide) (backOf (W := 2) (rm3 l Z a0 hw [] (-7723592293110705685 : Int64) h0 n0 Z0) hZ (hw _ (List.mem_of_getElem? (i := 13) rfl)) (hw _ (List.mem_of_getElem? (i := 8) rfl)) (by decide) (by decide)) (g := (mkF m 16 #[.val (.long q0), .second, .val (.long z11), .second] [(.long (-7723592293110705685 : Int64)), (.long z11)])) rfl (by rw [hml]; rfl) (argsL := [(.long (-7723592293110705685 : Int64))]) (rest := [(.long z11)]) (lenOf pd_2_0 rfl) rfl (by show 2 * 0 + _ ≤ _; exact Nat.le_of_eq rfl) (hb hby d2_16) (fun _ _ => ⟨rfl, e0, (by decide : 0 + 0 ≤ _), (by decide : 0 + 0 ≤ _)⟩)
  dsimp only [Pt.U, Pt.locs, Pt.cells, Pt.slots] at X1 l1 y1 z1 st1 hQ1
  subst l1 y1 z1
  obtain ⟨rfl, rfl, e1⟩ := hQ1
  have X1 : Stand p l e own_room2 s m #[(.long q0)] below meth c T1 [] 0 0 := own_flat X1
  refine own_step (st1) ?_
  show own_Goes p.tables e below (T1.setTop (mkF m 19 #[.val (.long q0), .second, .val (.long z11), .second] [(.long (own_f3 (-7723592293110705685 : Int64))), (.long z11)])) _
  refine own_step (fun _ => XS.lmul X1.here hx rfl (hb hby d2_19) rfl) ?_
  show own_Goes p.tables e below (T1.setTop (mkF m 20 #[.val (.long q0), .second, .val (.long z11), .second] [(.long (z11 * (own_f3 (-7723592293110705685 : Int64))))])) _
  obtain ⟨z20, hz20⟩ : ∃ z : Int64, z = (z11 * (own_f3 (-7723592293110705685 : Int64))) := ⟨_, rfl⟩
  refine own_step (fun _ => XS.lstoreN X1.here hx rfl (hb hby d2_20) rfl (l' := #[.val (.long q0), .second, .val (.long z20), .second]) (by subst hz20; rfl)) ?_
  show own_Goes p.tables e below (T1.setTop (mkF m 21 #[.val (.long q0), .second, .val (.long z20), .second] [])) _
  refine own_step (fun _ => XS.lloadN X1.here hx rfl (hb hby d2_21) rfl) ?_
  show own_Goes p.tables e below (T1.setTop (mkF m 22 #[.val (.long q0), .second, .val (.long z20), .second] [(.long z20)])) _
  refine own_step (fun _ => XS.lloadN X1.here hx rfl (hb hby d2_22) rfl) ?_
  show own_Goes p.tables e below (T1.setTop (mkF m 23 #[.val (.long q0), .second, .val (.long z20), .second] [(.long z20), (.long z20)])) _
  refine own_step (fun _ => XS.bipush X1.here hx rfl (hb hby d2_23)) ?_
  show own_Goes p.tables e below (T1.setTop (mkF m 25 #[.val (.long q0), .second, .val (.long z20), .second] [(.int (27 : Int32)), (.long z20), (.long z20)])) _
  refine own_step (fun _ => XS.lushr X1.here hx rfl (hb hby d2_25) rfl) ?_
  show own_Goes p.tables e below (T1.setTop (mkF m 26 #[.val (.long q0), .second, .val (.long z20), .second] [(.long ((z20.toUInt64 >>> ((27 : Int32) &&& 0x3f).toInt64.toUInt64).toInt64)), (.long z20)])) _
  refine own_step (fun _ => XS.lxor X1.here hx rfl (hb hby d2_26) rfl) ?_
  show own_Goes p.tables e below (T1.setTop (mkF m 27 #[.val (.long q0), .second, .val (.long z20), .second] [(.long (z20 ^^^ ((z20.toUInt64 >>> ((27 : Int32) &&& 0x3f).toInt64.toUInt64).toInt64)))])) _
  refine own_step (fun _ => XS.lloadN X1.here hx rfl (hb hby d2_27) rfl) ?_
  show own_Goes p.tables e below (T1.setTop (mkF m 28 #[.val (.long q0), .second, .val (.long z20), .second] [(.long z20), (.long (z20 ^^^ ((z20.toUInt64 >>> ((27 : Int32) &&& 0x3f).toInt64.toUInt64).toInt64)))])) _
  refine own_step (fun _ => XS.bipush X1.here hx rfl (hb hby d2_28)) ?_
  show own_Goes p.tables e below (T1.setTop (mkF m 30 #[.val (.long q0), .second, .val (.long z20), .second] [(.int (54 : Int32)), (.long z20), (.long (z20 ^^^ ((z20.toUInt64 >>> ((27 : Int32) &&& 0x3f).toInt64.toUInt64).toInt64)))])) _
  refine own_step (fun _ => XS.lushr X1.here hx rfl (hb hby d2_30) rfl) ?_
  show own_Goes p.tables e below (T1.setTop (mkF m 31 #[.val (.long q0), .second, .val (.long z20), .second] [(.long ((z20.toUInt64 >>> ((54 : Int32) &&& 0x3f).toInt64.toUInt64).toInt64)), (.long (z20 ^^^ ((z20.toUInt64 >>> ((27 : Int32) &&& 0x3f).toInt64.toUInt64).toInt64)))])) _
  refine own_step (fun _ => XS.lxor X1.here hx rfl (hb hby d2_31) rfl) ?_
  show own_Goes p.tables e below (T1.setTop (mkF m 32 #[.val (.long q0), .second, .val (.long z20), .second] [(.long ((z20 ^^^ ((z20.toUInt64 >>> ((27 : Int32) &&& 0x3f).toInt64.toUInt64).toInt64)) ^^^ ((z20.toUInt64 >>> ((54 : Int32) &&& 0x3f).toInt64.toUInt64).toInt64)))])) _
  obtain ⟨z32, hz32⟩ : ∃ z : Int64, z = ((z20 ^^^ ((z20.toUInt64 >>> ((27 : Int32) &&& 0x3f).toInt64.toUInt64).toInt64)) ^^^ ((z20.toUInt64 >>> ((54 : Int32) &&& 0x3f).toInt64.toUInt64).toInt64)) := ⟨_, rfl⟩
  refine own_step (fun _ => XS.lstoreN X1.here hx rfl (hb hby d2_32) rfl (l' := #[.val (.long q0), .second, .val (.long z32), .second]) (by subst hz32; rfl)) ?_
  show own_Goes p.tables e below (T1.setTop (mkF m 33 #[.val (.long q0), .second, .val (.long z32), .second] [])) _
  refine own_step (fun _ => XS.lloadN X1.here hx rfl (hb hby d2_33) rfl) ?_
  show own_Goes p.tables e below (T1.setTop (mkF m 34 #[.val (.long q0), .second, .val (.long z32), .second] [(.long z32)])) _
  refine own_step (X1.ldc2Long hx hown (mvT hZ (hw _ (List.mem_of_getElem? (i := 15) rfl))) (g := (mkF m 34 #[.val (.long q0), .second, .val (.long z32), .second] [(.long z32)])) rfl (hb hby d2_34)) ?_
  show own_Goes p.tables e below (T1.setTop (mkF m 37 #[.val (.long q0), .second, .val (.long z32), .second] [(.long (-4658895280553007687 : Int64)), (.long z32)])) _
  obtain ⟨_, _, ⟨T2, L2, k2, n2⟩, -, X2, ⟨Lc2, hQ2, l2, y2, z2⟩, st2⟩ := Jvm.LawKit.callS X1 hx (y := (⟨"com/example/shingle/shingle/HashesMixPinLaw", "inverse", "(J)J"⟩ : MethodName)) hown (mvT hZ (hw _ (List.mem_of_getElem? (i := 11) rfl))) (mvT hZ (hw _ (List.mem_of_getElem? (i := 12) rfl))) (mvT hZ (hw _ (List.mem_of_getElem? (i := 8) rfl))) (mvT hZ (hw _ (List.mem_of_getElem? (i := 13) rfl))) (by decide) (backOf (W := 2) (rm3 l Z a0 hw [] (-4658895280553007687 : Int64) h0 n0 Z0) hZ (hw _ (List.mem_of_getElem? (i := 13) rfl)) (hw _ (List.mem_of_getElem? (i := 8) rfl)) (by decide) (by decide)) (g := (mkF m 37 #[.val (.long q0), .second, .val (.long z32), .second] [(.long (-4658895280553007687 : Int64)), (.long z32)])) rfl (by rw [hml]; rfl) (argsL := [(.long (-4658895280553007687 : Int64))]) (rest := [(.long z32)]) (lenOf pd_2_0 rfl) rfl (by show 2 * 0 + _ ≤ _; exact Nat.le_of_eq rfl) (hb hby d2_37) (fun _ _ => ⟨rfl, e1, (by decide : 0 + 0 ≤ _), (by decide : 0 + 0 ≤ _)⟩)
  dsimp only [Pt.U, Pt.locs, Pt.cells, Pt.slots] at X2 l2 y2 z2 st2 hQ2
  subst l2 y2 z2
  obtain ⟨rfl, rfl, e2⟩ := hQ2
  have X2 : Stand p l e own_room2 s m #[(.long q0)] below meth c T2 [] 0 0 := own_flat X2
  refine own_step (st2) ?_
  show own_Goes p.tables e below (T2.setTop (mkF m 40 #[.val (.long q0), .second, .val (.long z32), .second] [(.long (own_f3 (-4658895280553007687 : Int64))), (.long z32)])) _
  refine own_step (fun _ => XS.lmul X2.here hx rfl (hb hby d2_40) rfl) ?_
  show own_Goes p.tables e below (T2.setTop (mkF m 41 #[.val (.long q0), .second, .val (.long z32), .second] [(.long (z32 * (own_f3 (-4658895280553007687 : Int64))))])) _
  obtain ⟨z41, hz41⟩ : ∃ z : Int64, z = (z32 * (own_f3 (-4658895280553007687 : Int64))) := ⟨_, rfl⟩
  refine own_step (fun _ => XS.lstoreN X2.here hx rfl (hb hby d2_41) rfl (l' := #[.val (.long q0), .second, .val (.long z41), .second]) (by subst hz41; rfl)) ?_
  show own_Goes p.tables e below (T2.setTop (mkF m 42 #[.val (.long q0), .second, .val (.long z41), .second] [])) _
  refine own_step (fun _ => XS.lloadN X2.here hx rfl (hb hby d2_42) rfl) ?_
  show own_Goes p.tables e below (T2.setTop (mkF m 43 #[.val (.long q0), .second, .val (.long z41), .second] [(.long z41)])) _
  refine own_step (fun _ => XS.lloadN X2.here hx rfl (hb hby d2_43) rfl) ?_
  show own_Goes p.tables e below (T2.setTop (mkF m 44 #[.val (.long q0), .second, .val (.long z41), .second] [(.long z41), (.long z41)])) _
  refine own_step (fun _ => XS.bipush X2.here hx rfl (hb hby d2_44)) ?_
  show own_Goes p.tables e below (T2.setTop (mkF m 46 #[.val (.long q0), .second, .val (.long z41), .second] [(.int (30 : Int32)), (.long z41), (.long z41)])) _
  refine own_step (fun _ => XS.lushr X2.here hx rfl (hb hby d2_46) rfl) ?_
  show own_Goes p.tables e below (T2.setTop (mkF m 47 #[.val (.long q0), .second, .val (.long z41), .second] [(.long ((z41.toUInt64 >>> ((30 : Int32) &&& 0x3f).toInt64.toUInt64).toInt64)), (.long z41)])) _
  refine own_step (fun _ => XS.lxor X2.here hx rfl (hb hby d2_47) rfl) ?_
  show own_Goes p.tables e below (T2.setTop (mkF m 48 #[.val (.long q0), .second, .val (.long z41), .second] [(.long (z41 ^^^ ((z41.toUInt64 >>> ((30 : Int32) &&& 0x3f).toInt64.toUInt64).toInt64)))])) _
  refine own_step (fun _ => XS.lloadN X2.here hx rfl (hb hby d2_48) rfl) ?_
  show own_Goes p.tables e below (T2.setTop (mkF m 49 #[.val (.long q0), .second, .val (.long z41), .second] [(.long z41), (.long (z41 ^^^ ((z41.toUInt64 >>> ((30 : Int32) &&& 0x3f).toInt64.toUInt64).toInt64)))])) _
  refine own_step (fun _ => XS.bipush X2.here hx rfl (hb hby d2_49)) ?_
  show own_Goes p.tables e below (T2.setTop (mkF m 51 #[.val (.long q0), .second, .val (.long z41), .second] [(.int (60 : Int32)), (.long z41), (.long (z41 ^^^ ((z41.toUInt64 >>> ((30 : Int32) &&& 0x3f).toInt64.toUInt64).toInt64)))])) _
  refine own_step (fun _ => XS.lushr X2.here hx rfl (hb hby d2_51) rfl) ?_
  show own_Goes p.tables e below (T2.setTop (mkF m 52 #[.val (.long q0), .second, .val (.long z41), .second] [(.long ((z41.toUInt64 >>> ((60 : Int32) &&& 0x3f).toInt64.toUInt64).toInt64)), (.long (z41 ^^^ ((z41.toUInt64 >>> ((30 : Int32) &&& 0x3f).toInt64.toUInt64).toInt64)))])) _
  refine own_step (fun _ => XS.lxor X2.here hx rfl (hb hby d2_52) rfl) ?_
  show own_Goes p.tables e below (T2.setTop (mkF m 53 #[.val (.long q0), .second, .val (.long z41), .second] [(.long ((z41 ^^^ ((z41.toUInt64 >>> ((30 : Int32) &&& 0x3f).toInt64.toUInt64).toInt64)) ^^^ ((z41.toUInt64 >>> ((60 : Int32) &&& 0x3f).toInt64.toUInt64).toInt64)))])) _
  have hv : (own_f2 q0) = ((z41 ^^^ ((z41.toUInt64 >>> ((30 : Int32) &&& 0x3f).toInt64.toUInt64).toInt64)) ^^^ ((z41.toUInt64 >>> ((60 : Int32) &&& 0x3f).toInt64.toUInt64).toInt64)) := by subst hz41; subst hz32; subst hz20; subst hz11; exact rfl
  rw [hv]
  exact own_retJ X2 hx Bd.returns (hb hby d2_53) (BodyLoose.notSynchronized Bd) ⟨rfl, rfl, e2⟩ (by decide) (by decide)
theorem pn_0 : plainName "com/example/shingle/shingle/HashesMixPinLaw" = true := by first | (simp [plainName, overriddenIn]; done) | decide +kernel
theorem pd_0_0 : parseMethodDescriptor "(J)J" = some ⟨[.long], some .long⟩ := by decide +kernel
theorem ef_0 (m : MethodId) (q0 : Int64) (q1 : Int64) : entryFrame m #[(.long q0), (.long q1)] maxLocals = mkF m 0 #[.val (.long q0), .second, .val (.long q1), .second] [] := by first | (simp [entryFrame, mkF, argsToLocals, Value.category, maxLocals]; done) | rfl
def own_f0_28 : Int32 :=
  (0 : Int32)
def own_f0 (q0 : Int64) (q1 : Int64) : Int32 :=
  if (own_f2 (own_f1 q0)) = q0 then
    if (own_f1 (own_f2 q1)) = q1 then
      (1 : Int32)
    else
      (own_f0_28)
  else
    (own_f0_28)
set_option maxRecDepth 65536 in
set_option maxHeartbeats 40000000 in
theorem rm0 (l : Launch) (Z : State) (a0 : Array Value) (hw : ∀ d ∈ tables_1, d.before a0 Z = true) (ws : List Jvm.Cond) (q0 : Int64) (q1 : Int64) (h0 : Heap) (n0 : Nat) (Z0 : n0 ≤ h0.size) :
    MetFree l x (head1 (Jvm.Cond.code x code maxLocals ret :: ws) room_1) (fun a U => a = #[(.long q0), (.long q1)] ∧ Z.Warmed39 U.vm ∧ U.heap = h0) (fun _ _ _ _ _ => True) (fun _ U o U' => ∃ v L, o = .returned v ∧ own_Ql (some (.int (own_f0 q0 q1))) n0 v U'.heap L ∧ FrameEnd U o U' L 0 0) := by
  refine MetFree.of_bodySF (plainFor_of_name pn_0) hisR ?_
  intro p e s m args below meth c s₁ Bd hml0 hP hK
  obtain ⟨rfl, hZ, hh⟩ := hP
  have hx := Bd.exec
  have hby := Bd.bytes
  have hml : c.maxLocals = 4 := hml0
  have hown : s.vm.findClass "com/example/shingle/shingle/HashesMixPinLaw" = some m.cls := findClass_of_methodNamed Bd.named
  have hnm := (name_of_methodNamed Bd.named Bd.method).1
  have X0 : Stand p l e room_1 s m #[(.long q0), (.long q1)] below meth c s₁ [] 0 0 := Stand.of_body Bd
  have e0 : s₁.heap = h0 := by rw [← hh, Bd.state]; rfl
  have N0 := Fr.nil n0
  refine own_enter (ef_0 m q0 q1) ?_
  show own_Goes p.tables e below (s₁.setTop (mkF m 0 #[.val (.long q0), .second, .val (.long q1), .second] [])) (own_P s (own_Ql (some (.int (own_f0 q0 q1))) n0) 0 0)
  refine own_step (fun _ => XS.lloadN X0.here hx rfl (hb hby at_0) rfl) ?_
  show own_Goes p.tables e below (s₁.setTop (mkF m 1 #[.val (.long q0), .second, .val (.long q1), .second] [(.long q0)])) _
  obtain ⟨_, _, ⟨T1, L1, k1, n1⟩, -, X1, ⟨Lc1, hQ1, l1, y1, z1⟩, st1⟩ := Jvm.LawKit.callS X0 hx (y := (⟨"com/example/shingle/shingle/Hashes", "mix", "(J)J"⟩ : MethodName)) hown (mvT hZ (hw _ (List.mem_of_getElem? (i := 0) rfl))) (mvT hZ (hw _ (List.mem_of_getElem? (i := 1) rfl))) (mvT hZ (hw _ (List.mem_of_getElem? (i := 2) rfl))) (mvT hZ (hw _ (List.mem_of_getElem? (i := 3) rfl))) (by decide) (backOf (W := 0) (rm1 l Z a0 hw [] q0 h0 n0 Z0) hZ (hw _ (List.mem_of_getElem? (i := 3) rfl)) (hw _ (List.mem_of_getElem? (i := 2) rfl)) (by decide) (by decide)) (g := (mkF m 1 #[.val (.long q0), .second, .val (.long q1), .second] [(.long q0)])) rfl (by rw [hml]; rfl) (argsL := [(.long q0)]) (rest := []) (lenOf pd_0_0 rfl) rfl (by show 2 * 0 + _ ≤ _; exact Nat.le_of_eq rfl) (hb hby at_1) (fun _ _ => ⟨rfl, e0, (by decide : 0 + 0 ≤ _), (by decide : 0 + 0 ≤ _)⟩)
  dsimp only [Pt.U, Pt.locs, Pt.cells, Pt.slots] at X1 l1 y1 z1 st1 hQ1
  subst l1 y1 z1
  obtain ⟨rfl, rfl, e1⟩ := hQ1
  have X1 : Stand p l e room_1 s m #[(.long q0), (.long q1)] below meth c T1 [] 0 0 := own_flat X1
  refine own_step (st1) ?_
  show own_Goes p.tables e below (T1.setTop (mkF m 4 #[.val (.long q0), .second, .val (.long q1), .second] [(.long (own_f1 q0))])) _
  obtain ⟨_, _, ⟨T2, L2, k2, n2⟩, -, X2, ⟨Lc2, hQ2, l2, y2, z2⟩, st2⟩ := Jvm.LawKit.callS X1 hx (y := (⟨"com/example/shingle/shingle/HashesMixPinLaw", "unmix", "(J)J"⟩ : MethodName)) hown (mvT hZ (hw _ (List.mem_of_getElem? (i := 6) rfl))) (mvT hZ (hw _ (List.mem_of_getElem? (i := 7) rfl))) (mvT hZ (hw _ (List.mem_of_getElem? (i := 8) rfl))) (mvT hZ (hw _ (List.mem_of_getElem? (i := 9) rfl))) (by decide) (backOf (W := 0) (rm2 l Z a0 hw [] (own_f1 q0) h0 n0 Z0) hZ (hw _ (List.mem_of_getElem? (i := 9) rfl)) (hw _ (List.mem_of_getElem? (i := 8) rfl)) (by decide) (by decide)) (g := (mkF m 4 #[.val (.long q0), .second, .val (.long q1), .second] [(.long (own_f1 q0))])) rfl (by rw [hml]; rfl) (argsL := [(.long (own_f1 q0))]) (rest := []) (lenOf pd_0_0 rfl) rfl (by show 2 * 0 + _ ≤ _; exact Nat.le_of_eq rfl) (hb hby at_4) (fun _ _ => ⟨rfl, e1, (by decide : 0 + 0 ≤ _), (by decide : 0 + 0 ≤ _)⟩)
  dsimp only [Pt.U, Pt.locs, Pt.cells, Pt.slots] at X2 l2 y2 z2 st2 hQ2
  subst l2 y2 z2
  obtain ⟨rfl, rfl, e2⟩ := hQ2
  have X2 : Stand p l e room_1 s m #[(.long q0), (.long q1)] below meth c T2 [] 0 0 := own_flat X2
  refine own_step (st2) ?_
  show own_Goes p.tables e below (T2.setTop (mkF m 7 #[.val (.long q0), .second, .val (.long q1), .second] [(.long (own_f2 (own_f1 q0)))])) _
  refine own_step (fun _ => XS.lloadN X2.here hx rfl (hb hby at_7) rfl) ?_
  show own_Goes p.tables e below (T2.setTop (mkF m 8 #[.val (.long q0), .second, .val (.long q1), .second] [(.long q0), (.long (own_f2 (own_f1 q0)))])) _
  refine own_step (fun _ => Jvm.Free.XT.lcmp X2.here hx rfl (hb hby at_8) rfl) ?_
  show own_Goes p.tables e below (T2.setTop (mkF m 9 #[.val (.long q0), .second, .val (.long q1), .second] [(.int (Jvm.Free.XT.cmpL (own_f2 (own_f1 q0)) q0))])) _
  have J28 : ∀ (T_28 : State) (X_28 : Stand p l e room_1 s m #[(.long q0), (.long q1)] below meth c T_28 [] 0 0) (e_28 : T_28.heap = h0), own_Goes p.tables e below (T_28.setTop (mkF m 28 #[.val (.long q0), .second, .val (.long q1), .second] [])) (own_P s (own_Ql (some (.int (own_f0_28))) n0) 0 0) := by
    intro T_28 X_28 e_28
    refine own_step (fun _ => XS.iconst X_28.here hx rfl (hb hby at_28)) ?_
    show own_Goes p.tables e below (T_28.setTop (mkF m 29 #[.val (.long q0), .second, .val (.long q1), .second] [(.int (0 : Int32))])) _
    have hv : (own_f0_28) = (0 : Int32) := by exact rfl
    rw [hv]
    exact own_retN X_28 hx (t := .boolean) Bd.returns (by simp) (hb hby at_29) (BodyLoose.notSynchronized Bd) (w := (0 : Int32)) rfl ⟨rfl, N0⟩ (by decide) (by decide)
  by_cases hc9 : (own_f2 (own_f1 q0)) = q0
  · refine own_step (fun _ => XS.ifNo X2.here hx rfl (hb hby at_9) rfl (Jvm.Free.XT.ll_ne_f hc9)) ?_
    show own_Goes p.tables e below (T2.setTop (mkF m 12 #[.val (.long q0), .second, .val (.long q1), .second] [])) _
    refine own_step (fun _ => XS.lloadN X2.here hx rfl (hb hby at_12) rfl) ?_
    show own_Goes p.tables e below (T2.setTop (mkF m 13 #[.val (.long q0), .second, .val (.long q1), .second] [(.long q1)])) _
    obtain ⟨_, _, ⟨T3, L3, k3, n3⟩, -, X3, ⟨Lc3, hQ3, l3, y3, z3⟩, st3⟩ := Jvm.LawKit.callS X2 hx (y := (⟨"com/example/shingle/shingle/HashesMixPinLaw", "unmix", "(J)J"⟩ : MethodName)) hown (mvT hZ (hw _ (List.mem_of_getElem? (i := 6) rfl))) (mvT hZ (hw _ (List.mem_of_getElem? (i := 7) rfl))) (mvT hZ (hw _ (List.mem_of_getElem? (i := 8) rfl))) (mvT hZ (hw _ (List.mem_of_getElem? (i := 9) rfl))) (by decide) (backOf (W := 0) (rm2 l Z a0 hw [] q1 h0 n0 Z0) hZ (hw _ (List.mem_of_getElem? (i := 9) rfl)) (hw _ (List.mem_of_getElem? (i := 8) rfl)) (by decide) (by decide)) (g := (mkF m 13 #[.val (.long q0), .second, .val (.long q1), .second] [(.long q1)])) rfl (by rw [hml]; rfl) (argsL := [(.long q1)]) (rest := []) (lenOf pd_0_0 rfl) rfl (by show 2 * 0 + _ ≤ _; exact Nat.le_of_eq rfl) (hb hby at_13) (fun _ _ => ⟨rfl, e2, (by decide : 0 + 0 ≤ _), (by decide : 0 + 0 ≤ _)⟩)
    dsimp only [Pt.U, Pt.locs, Pt.cells, Pt.slots] at X3 l3 y3 z3 st3 hQ3
    subst l3 y3 z3
    obtain ⟨rfl, rfl, e3⟩ := hQ3
    have X3 : Stand p l e room_1 s m #[(.long q0), (.long q1)] below meth c T3 [] 0 0 := own_flat X3
    refine own_step (st3) ?_
    show own_Goes p.tables e below (T3.setTop (mkF m 16 #[.val (.long q0), .second, .val (.long q1), .second] [(.long (own_f2 q1))])) _
    obtain ⟨_, _, ⟨T4, L4, k4, n4⟩, -, X4, ⟨Lc4, hQ4, l4, y4, z4⟩, st4⟩ := Jvm.LawKit.callS X3 hx (y := (⟨"com/example/shingle/shingle/Hashes", "mix", "(J)J"⟩ : MethodName)) hown (mvT hZ (hw _ (List.mem_of_getElem? (i := 0) rfl))) (mvT hZ (hw _ (List.mem_of_getElem? (i := 1) rfl))) (mvT hZ (hw _ (List.mem_of_getElem? (i := 2) rfl))) (mvT hZ (hw _ (List.mem_of_getElem? (i := 3) rfl))) (by decide) (backOf (W := 0) (rm1 l Z a0 hw [] (own_f2 q1) h0 n0 Z0) hZ (hw _ (List.mem_of_getElem? (i := 3) rfl)) (hw _ (List.mem_of_getElem? (i := 2) rfl)) (by decide) (by decide)) (g := (mkF m 16 #[.val (.long q0), .second, .val (.long q1), .second] [(.long (own_f2 q1))])) rfl (by rw [hml]; rfl) (argsL := [(.long (own_f2 q1))]) (rest := []) (lenOf pd_0_0 rfl) rfl (by show 2 * 0 + _ ≤ _; exact Nat.le_of_eq rfl) (hb hby at_16) (fun _ _ => ⟨rfl, e3, (by decide : 0 + 0 ≤ _), (by decide : 0 + 0 ≤ _)⟩)
    dsimp only [Pt.U, Pt.locs, Pt.cells, Pt.slots] at X4 l4 y4 z4 st4 hQ4
    subst l4 y4 z4
    obtain ⟨rfl, rfl, e4⟩ := hQ4
    have X4 : Stand p l e room_1 s m #[(.long q0), (.long q1)] below meth c T4 [] 0 0 := own_flat X4
    refine own_step (st4) ?_
    show own_Goes p.tables e below (T4.setTop (mkF m 19 #[.val (.long q0), .second, .val (.long q1), .second] [(.long (own_f1 (own_f2 q1)))])) _
    refine own_step (fun _ => XS.lloadN X4.here hx rfl (hb hby at_19) rfl) ?_
    show own_Goes p.tables e below (T4.setTop (mkF m 20 #[.val (.long q0), .second, .val (.long q1), .second] [(.long q1), (.long (own_f1 (own_f2 q1)))])) _
    refine own_step (fun _ => Jvm.Free.XT.lcmp X4.here hx rfl (hb hby at_20) rfl) ?_
    show own_Goes p.tables e below (T4.setTop (mkF m 21 #[.val (.long q0), .second, .val (.long q1), .second] [(.int (Jvm.Free.XT.cmpL (own_f1 (own_f2 q1)) q1))])) _
    by_cases hc21 : (own_f1 (own_f2 q1)) = q1
    · refine own_step (fun _ => XS.ifNo X4.here hx rfl (hb hby at_21) rfl (Jvm.Free.XT.ll_ne_f hc21)) ?_
      show own_Goes p.tables e below (T4.setTop (mkF m 24 #[.val (.long q0), .second, .val (.long q1), .second] [])) _
      refine own_step (fun _ => XS.iconst X4.here hx rfl (hb hby at_24)) ?_
      show own_Goes p.tables e below (T4.setTop (mkF m 25 #[.val (.long q0), .second, .val (.long q1), .second] [(.int (1 : Int32))])) _
      refine own_step (fun _ => XS.goto X4.here hx rfl (pc0 := 25) (pc' := 29) rfl (hb hby at_25) (by decide) (by decide)) ?_
      show own_Goes p.tables e below (T4.setTop (mkF m 29 #[.val (.long q0), .second, .val (.long q1), .second] [(.int (1 : Int32))])) _
      have hv : (own_f0 q0 q1) = (1 : Int32) := by exact ((if_pos hc9)).trans (if_pos hc21)
      rw [hv]
      exact own_retN X4 hx (t := .boolean) Bd.returns (by simp) (hb hby at_29) (BodyLoose.notSynchronized Bd) (w := (1 : Int32)) rfl ⟨rfl, N0⟩ (by decide) (by decide)
    · refine own_step (fun _ => XS.ifYes X4.here hx rfl (pc0 := 21) (pc' := 28) rfl (hb hby at_21) rfl (Jvm.Free.XT.ll_ne_t hc21) (by decide) (by decide)) ?_
      show own_Goes p.tables e below (T4.setTop (mkF m 28 #[.val (.long q0), .second, .val (.long q1), .second] [])) _
      have hv : (own_f0 q0 q1) = (own_f0_28) := by exact ((if_pos hc9)).trans (if_neg hc21)
      rw [hv]
      exact J28 T4 X4 e4
  · refine own_step (fun _ => XS.ifYes X2.here hx rfl (pc0 := 9) (pc' := 28) rfl (hb hby at_9) rfl (Jvm.Free.XT.ll_ne_t hc9) (by decide) (by decide)) ?_
    show own_Goes p.tables e below (T2.setTop (mkF m 28 #[.val (.long q0), .second, .val (.long q1), .second] [])) _
    have hv : (own_f0 q0 q1) = (own_f0_28) := by exact (if_neg hc9)
    rw [hv]
    exact J28 T2 X2 e2
/-- z >>> s (a long, unsigned) -/
def own_sh (x : Int64) (s : Int32) : Int64 := (x.toUInt64 >>> (s &&& 0x3f).toInt64.toUInt64).toInt64
theorem own_sh_bv (x : Int64) (s : Int32) (n : Nat) (h : ((s &&& 0x3f).toInt64.toUInt64).toBitVec = BitVec.ofNat 64 n) (hn : n < 64) : (own_sh x s).toBitVec = x.toBitVec >>> n := by
  unfold own_sh
  rw [UInt64.toBitVec_toInt64, UInt64.toBitVec_shiftRight, h]
  apply BitVec.eq_of_toNat_eq
  simp only [BitVec.ushiftRight_eq', BitVec.toNat_ushiftRight, BitVec.toNat_umod, BitVec.toNat_ofNat]
  congr 1
  have h64 : (64 : BitVec 64).toNat = 64 := rfl
  rw [h64]
  simp only [Nat.reducePow]
  omega
theorem own_hg_bv (x : BitVec 64) (s : Nat) (hs : 64 ≤ 3 * s) : (x ^^^ x >>> s) ^^^ (x ^^^ x >>> s) >>> s ^^^ (x ^^^ x >>> s) >>> (2 * s) = x := by
  have e1 : x >>> s >>> s = x >>> (2 * s) := by rw [← BitVec.shiftRight_add]; congr 1; omega
  have e2 : x >>> s >>> (2 * s) = 0#64 := by rw [← BitVec.shiftRight_add]; exact BitVec.ushiftRight_eq_zero (by omega)
  simp only [BitVec.ushiftRight_xor_distrib, e1, e2, BitVec.xor_zero]
  generalize x >>> s = u
  generalize x >>> (2 * s) = v
  rw [BitVec.xor_assoc x u, ← BitVec.xor_assoc u u, BitVec.xor_self, BitVec.zero_xor, BitVec.xor_assoc x v, BitVec.xor_self, BitVec.xor_zero]
theorem own_gh_bv (x : BitVec 64) (s : Nat) (hs : 64 ≤ 3 * s) : (x ^^^ x >>> s ^^^ x >>> (2 * s)) ^^^ (x ^^^ x >>> s ^^^ x >>> (2 * s)) >>> s = x := by
  have e1 : x >>> s >>> s = x >>> (2 * s) := by rw [← BitVec.shiftRight_add]; congr 1; omega
  have e2 : x >>> (2 * s) >>> s = 0#64 := by rw [← BitVec.shiftRight_add]; exact BitVec.ushiftRight_eq_zero (by omega)
  simp only [BitVec.ushiftRight_xor_distrib, e1, e2, BitVec.xor_zero]
  generalize x >>> s = u
  generalize x >>> (2 * s) = v
  rw [BitVec.xor_assoc x u v, BitVec.xor_assoc x, BitVec.xor_self, BitVec.xor_zero]
def own_g (s : Int32) (x : Int64) : Int64 := x ^^^ own_sh x s
def own_h (s t : Int32) (x : Int64) : Int64 := (x ^^^ own_sh x s) ^^^ own_sh x t
theorem own_hg {s t : Int32} (n : Nat) (h1 : ((s &&& 0x3f).toInt64.toUInt64).toBitVec = BitVec.ofNat 64 n) (h2 : ((t &&& 0x3f).toInt64.toUInt64).toBitVec = BitVec.ofNat 64 (2 * n)) (hn : 64 ≤ 3 * n) (hm : 2 * n < 64) (x : Int64) : own_h s t (own_g s x) = x := by
  apply Int64.toBitVec_inj.mp
  simp only [own_h, own_g, Int64.toBitVec_xor, own_sh_bv _ s n h1 (by omega), own_sh_bv _ t (2 * n) h2 hm]
  exact own_hg_bv _ n hn
theorem own_gh {s t : Int32} (n : Nat) (h1 : ((s &&& 0x3f).toInt64.toUInt64).toBitVec = BitVec.ofNat 64 n) (h2 : ((t &&& 0x3f).toInt64.toUInt64).toBitVec = BitVec.ofNat 64 (2 * n)) (hn : 64 ≤ 3 * n) (hm : 2 * n < 64) (x : Int64) : own_g s (own_h s t x) = x := by
  apply Int64.toBitVec_inj.mp
  simp only [own_h, own_g, Int64.toBitVec_xor, own_sh_bv _ s n h1 (by omega), own_sh_bv _ t (2 * n) h2 hm]
  exact own_gh_bv _ n hn
theorem own_mul (x a b : Int64) (h : a * b = 1) : x * a * b = x := by rw [Int64.mul_assoc, h, Int64.mul_one]
theorem own_f1_eq (x : Int64) : own_f1 x = own_g 31 (own_g 27 (own_g 30 x * (-4658895280553007687 : Int64)) * (-7723592293110705685 : Int64)) := rfl
theorem own_f2_eq (x : Int64) : own_f2 x = own_h 30 60 (own_h 27 54 (own_h 31 62 x * own_f3 (-7723592293110705685 : Int64)) * own_f3 (-4658895280553007687 : Int64)) := rfl
theorem own_inv1 : (-7723592293110705685 : Int64) * own_f3 (-7723592293110705685 : Int64) = 1 := by decide +kernel
theorem own_inv2 : (-4658895280553007687 : Int64) * own_f3 (-4658895280553007687 : Int64) = 1 := by decide +kernel
theorem own_inv3 : own_f3 (-7723592293110705685 : Int64) * (-7723592293110705685 : Int64) = 1 := by decide +kernel
theorem own_inv4 : own_f3 (-4658895280553007687 : Int64) * (-4658895280553007687 : Int64) = 1 := by decide +kernel
theorem own_back (x : Int64) : own_f2 (own_f1 x) = x := by
  rw [own_f1_eq, own_f2_eq, own_hg 31 (by decide) (by decide) (by decide) (by decide), own_mul _ _ _ own_inv1, own_hg 27 (by decide) (by decide) (by decide) (by decide), own_mul _ _ _ own_inv2, own_hg 30 (by decide) (by decide) (by decide) (by decide)]
theorem own_forth (x : Int64) : own_f1 (own_f2 x) = x := by
  rw [own_f1_eq, own_f2_eq, own_gh 30 (by decide) (by decide) (by decide) (by decide), own_mul _ _ _ own_inv4, own_gh 27 (by decide) (by decide) (by decide) (by decide), own_mul _ _ _ own_inv3, own_gh 31 (by decide) (by decide) (by decide) (by decide)]
theorem own_law (q0 : Int64) (q1 : Int64) : own_f0 q0 q1 = 1 := by
  unfold own_f0
  rw [if_pos (own_back q0), if_pos (own_forth q1)]
set_option maxRecDepth 65536 in
set_option maxHeartbeats 40000000 in
theorem comes_1 {Post : Tables → Env → Array Value → State → Outcome → State → Prop} (hpost : ∀ tb e args s v u, (limb_1_1.after args s (.returned v) u = true ∧ limb_1_2.after args s (.returned v) u = true ∧ True) → FrameEnd s (.returned v) u (Jvm.fieldLocs frame_1_writes args s ++ Jvm.arrayLocs frame_1_arrays args s ++ Jvm.staticLocs frame_1_statics s) 0 0 → Post tb e args s (.returned v) u) :
    ArmFor flags0 classFile x code maxLocals ret World_1 tables_1 room_1 Calls_1 rest_1 Pre_1 Post := by
  intro l hfl _ _ p e ha hc hk s m args below hf hA hF happ hP
  obtain ⟨hcalls, hrest, hpre⟩ := hP
  obtain ⟨-, -, -, hnamed, -, -, -, hat⟩ := (Spec.applies_iff hf).mp happ
  obtain ⟨hg, hn⟩ := and_e (Cond.before_iff.mp (show (Jvm.Cond.and given_1 narrow_1).before args s = true from hpre))
  obtain ⟨g1, g2⟩ := and_e hg
  obtain ⟨g3, g4⟩ := and_e g2
  obtain ⟨w0, w1, rfl⟩ : ∃ w0 w1 : Value, args = #[w0, w1] := by
    have hs : args.size = 2 := by simpa [Cond.value, given_1] using g1
    obtain ⟨L⟩ := args
    match L, hs with
    | [w0, w1], _ => exact ⟨w0, w1, rfl⟩
  have hw := fun d (hd : d ∈ tables_1) => atoms_spec (ws := Jvm.Cond.code x code maxLocals ret :: tables_1) hat d (List.mem_cons_of_mem _ hd)
  obtain ⟨i0, ei0⟩ := isL_v g3
  obtain rfl : w0 = (.long i0) := Option.some.inj ei0
  obtain ⟨i1, ei1⟩ := isL_v g4
  obtain rfl : w1 = (.long i1) := Option.some.inj ei1
  have hrm := rm0 l s _ hw tables_1 i0 i1 s.heap s.heap.size (Nat.le_refl _)
  rw [own_law i0 i1] at hrm
  obtain ⟨n, o, h1, h2, h3, _, L, rfl, ⟨rfl, N⟩, hq⟩ := hrm p e ha hc hk s m _ below hf ((Spec.applies_iff_loose hf).mp happ).1 ⟨rfl, State.Warmed39.refl s, rfl⟩ trivial
  refine ⟨n, _, h1, h2, h3, hpost _ _ _ _ _ _ ⟨Cond.after_iff.mpr rfl, Cond.after_iff.mpr (eq_i res_at (Term.int_eval (1)) rfl), trivial⟩ ⟨hq.1, hq.2.1, (hq.2.2.sift fun y hy => Or.inr (N y hy)).mono (by decide) (by decide)⟩⟩
theorem main_1_1 : Claimed_1_1 := comes_1 fun _ _ _ _ _ _ h hF => ⟨h.1, hF⟩
theorem main_1_2 : Claimed_1_2 := comes_1 fun _ _ _ _ _ _ h hF => ⟨h.2.1, hF⟩
end Jvm.Pilot.@@N@@
namespace Jvm.Pilot.@@N@@
open Jvm Jvm.ClassFile Sem Op Lib Jvm.Free Jvm.Stand Jvm.Pilot.@@N@@.Jvm.D
/-! MADE BY PROGRAM (witnessworld.py) out of the Statement's table words and the real class files: 9 classes; the members and pool entries that the words name. The judged class is class 1, her method 3. -/
namespace start1
open Jvm.ClassFile
def u (s : String) : CpInfo := .utf8 (stringToUtf16 s)
/-- a pool by its gaps: so many unusable entries, then the entry; so many at the end -/
def gap : Nat → List CpInfo → List CpInfo
  | 0, r => r
  | n + 1, r => .unusable :: gap n r
def poolList (es : List (Nat × CpInfo)) (last : Nat) : List CpInfo := es.foldr (fun e r => gap e.1 (e.2 :: r)) (gap last [])
def pool (es : List (Nat × CpInfo)) (last : Nat) : Array CpInfo := ⟨poolList es last⟩
def fileOf (pool : Array CpInfo) (this : Nat) (attrs : Array Attribute := #[]) (ms : Array MethodInfo := #[]) (fl : Nat := 33) (sup : Nat := 0) (ifs : Array Nat := #[]) (fds : Array FieldInfo := #[]) : ClassFile where
  minorVersion := 0
  majorVersion := 65
  constantPool := pool
  accessFlags := fl
  thisClass := this
  superClass := sup
  interfaces := ifs
  fields := fds
  methods := ms
  attributes := attrs
def plain (name : String) (sup : Option ClassId) : Class where
  name := name
  kind := .ordinary
  loader := none
  accessFlags := 33
  super := sup
  interfaces := #[]
  cf := none
  fields := #[]
  methods := #[]
  instanceTypes := #[]
  staticTypes := #[]
  resolved := #[]
  callSites := []
  init := .initialized
  statics := none
  mirror := none

def pool0 : Array CpInfo := pool [(5, u "<init>"), (0, u "()V"), (1, .class_ 10), (1, u "java/lang/Object")] 113

def k0m0 : Method := { name := "<init>", desc := "()V", sig := { parameters := [], returnType := none }, accessFlags := 1, code := none }
/-- java/lang/Object -/
def k0 : Class := { plain "java/lang/Object" none with
  accessFlags := 33
  interfaces := #[]
  cf := some (fileOf pool0 8 #[] #[{ accessFlags := 1, nameIndex := 5, descriptorIndex := 6, attributes := #[] }] 33 0 #[] #[])
  fields := #[]
  methods := #[k0m0]
  instanceTypes := #[]
  staticTypes := #[]
  resolved := Array.replicate 124 none
  statics := none }

def pool1 : Array CpInfo := pool [(2, .class_ 4), (1, u "java/lang/Object"), (0, u "<init>"), (0, u "()V"), (0, .long 2), (1, .long 10723151780598845931), (1, .methodref 12 13), (0, .class_ 14), (0, .nameAndType 15 16), (0, u "com/example/shingle/shingle/HashesMixPinLaw"), (0, u "inverse"), (0, u "(J)J"), (0, .long 13787848793156543929), (1, .methodref 20 21), (0, .class_ 22), (0, .nameAndType 23 16), (0, u "com/example/shingle/shingle/Hashes"), (0, u "mix"), (0, .methodref 12 25), (0, .nameAndType 26 16), (0, u "unmix"), (2, u "law"), (0, u "(JJ)Z")] 3

def k1m0 : Method := { name := "<init>", desc := "()V", sig := { parameters := [], returnType := none }, accessFlags := 2, code := none }
def k1c1 : Code := { maxStack := 8, maxLocals := 4, code := method_2_code, exceptionTable := #[], attributes := #[] }
def k1m1 : Method := { name := "inverse", desc := "(J)J", sig := { parameters := [.long], returnType := some .long }, accessFlags := 10, code := some k1c1 }
def k1c2 : Code := { maxStack := 5, maxLocals := 4, code := method_3_code, exceptionTable := #[], attributes := #[] }
def k1m2 : Method := { name := "unmix", desc := "(J)J", sig := { parameters := [.long], returnType := some .long }, accessFlags := 10, code := some k1c2 }
def k1c3 : Code := { maxStack := 4, maxLocals := 4, code := code, exceptionTable := #[], attributes := #[] }
def k1m3 : Method := { name := "law", desc := "(JJ)Z", sig := { parameters := [.long, .long], returnType := some .boolean }, accessFlags := 9, code := some k1c3 }
/-- com/example/shingle/shingle/HashesMixPinLaw -/
def k1 : Class := { plain "com/example/shingle/shingle/HashesMixPinLaw" (some 0) with
  accessFlags := 49
  interfaces := #[]
  cf := some (fileOf pool1 12 #[] #[{ accessFlags := 2, nameIndex := 5, descriptorIndex := 6, attributes := #[] }, { accessFlags := 10, nameIndex := 15, descriptorIndex := 16, attributes := #[] }, { accessFlags := 10, nameIndex := 26, descriptorIndex := 16, attributes := #[] }, { accessFlags := 9, nameIndex := 29, descriptorIndex := 30, attributes := #[] }] 49 2 #[] #[])
  fields := #[]
  methods := #[k1m0, k1m1, k1m2, k1m3]
  instanceTypes := #[]
  staticTypes := #[]
  resolved := Array.replicate 34 none
  statics := none }

def pool2 : Array CpInfo := pool [(2, .class_ 4), (1, u "java/lang/Object"), (0, u "<init>"), (0, u "()V"), (0, .class_ 8), (0, u "com/example/shingle/shingle/Hashes"), (19, u "(J)J"), (4, u "mix"), (2, .long 13787848793156543929), (1, .long 10723151780598845931), (1, u "GAMMA"), (0, u "J"), (1, u "KEY_START"), (0, u "KEY_PRIME")] 8

def k2m0 : Method := { name := "<init>", desc := "()V", sig := { parameters := [], returnType := none }, accessFlags := 2, code := none }
def k2c1 : Code := { maxStack := 5, maxLocals := 2, code := prog_11_method_6_code, exceptionTable := #[], attributes := #[] }
def k2m1 : Method := { name := "mix", desc := "(J)J", sig := { parameters := [.long], returnType := some .long }, accessFlags := 8, code := some k2c1 }
/-- com/example/shingle/shingle/Hashes -/
def k2 : Class := { plain "com/example/shingle/shingle/Hashes" (some 0) with
  accessFlags := 32
  interfaces := #[]
  cf := some (fileOf pool2 7 #[] #[{ accessFlags := 2, nameIndex := 5, descriptorIndex := 6, attributes := #[] }, { accessFlags := 8, nameIndex := 33, descriptorIndex := 28, attributes := #[] }] 32 2 #[] #[{ accessFlags := 24, nameIndex := 40, descriptorIndex := 41, attributes := #[] }, { accessFlags := 24, nameIndex := 43, descriptorIndex := 41, attributes := #[] }, { accessFlags := 26, nameIndex := 44, descriptorIndex := 41, attributes := #[] }])
  fields := #[{ name := "GAMMA", type := .long, accessFlags := 24, slot := 0, constantValue := 0 }, { name := "KEY_START", type := .long, accessFlags := 24, slot := 1, constantValue := 0 }, { name := "KEY_PRIME", type := .long, accessFlags := 26, slot := 2, constantValue := 0 }]
  methods := #[k2m0, k2m1]
  instanceTypes := #[]
  staticTypes := #[.long, .long, .long]
  resolved := Array.replicate 53 none
  statics := none }

def pool3 : Array CpInfo := pool [(1, u "java/lang/Cloneable"), (0, .class_ 1), (0, u "java/lang/Object"), (0, .class_ 3)] 3

/-- java/lang/Cloneable -/
def k3 : Class := { plain "java/lang/Cloneable" (some 0) with
  accessFlags := 1537
  interfaces := #[]
  cf := some (fileOf pool3 2 #[] #[] 1537 4 #[] #[])
  fields := #[]
  methods := #[]
  instanceTypes := #[]
  staticTypes := #[]
  resolved := Array.replicate 8 none
  statics := none }

def pool4 : Array CpInfo := pool [(1, u "java/io/Serializable"), (0, .class_ 1), (0, u "java/lang/Object"), (0, .class_ 3)] 3

/-- java/io/Serializable -/
def k4 : Class := { plain "java/io/Serializable" (some 0) with
  accessFlags := 1537
  interfaces := #[]
  cf := some (fileOf pool4 2 #[] #[] 1537 4 #[] #[])
  fields := #[]
  methods := #[]
  instanceTypes := #[]
  staticTypes := #[]
  resolved := Array.replicate 8 none
  statics := none }

/-- the primitive byte -/
def k5 : Class := { plain "byte" none with kind := .primitive 'B', accessFlags := 0x411 }
/-- [B -/
def k6 : Class := { plain "[B" (some 0) with kind := .array 5 .byte, interfaces := #[3, 4], accessFlags := 1041 }

/-- the primitive int -/
def k7 : Class := { plain "int" none with kind := .primitive 'I', accessFlags := 0x411 }
/-- [I -/
def k8 : Class := { plain "[I" (some 0) with kind := .array 7 .int, interfaces := #[3, 4], accessFlags := 1041 }

def heap : Heap := #[]
def classes : Array Class := #[k0, k1, k2, k3, k4, k5, k6, k7, k8]
def interned : List (Array UInt16 × Addr) := []
def slotsUsed : Nat := 0
def theMethod : MethodId := ⟨1, 3⟩
def args0 : Array Value := #[.long 5, .long 7]
def aboutOver (below : List Frame) : State where
  vm := { classes := classes, interned := interned.toArray }
  heap := heap
  slotsUsed := slotsUsed
  threads := #[{ frames := .invoking theMethod args0 :: below }]
def below0 : List Frame := [.native { method := ⟨0, 0⟩, args := #[] }]
def about1 : State := aboutOver below0
def p0 : Program := .bare "" "" ""
def e0 : Env := launch0.env 0 0 0
theorem w_frames : about1.frames = Frame.invoking theMethod args0 :: below0 := rfl
set_option maxRecDepth 65536 in
theorem w_args : argsFit about1.vm theMethod args0 = true := by decide +kernel
set_option maxRecDepth 65536 in
theorem w_heap : heapFits about1 = true := by decide +kernel
set_option maxRecDepth 65536 in
theorem w_runnable : about1.curStatus? = some .runnable := by decide +kernel
set_option maxRecDepth 65536 in
theorem w_alone : about1.alone = true := by decide +kernel
set_option maxRecDepth 65536 in
theorem w_named : about1.methodNamed? x = some theMethod := by decide +kernel
set_option maxRecDepth 65536 in
theorem w_hears : about1.hears theMethod below0 = true := by decide +kernel
set_option maxRecDepth 65536 in
theorem w_ripe : about1.ripe theMethod args0 below0 = true := by decide +kernel
theorem w_running : about1.status = .running := rfl
set_option maxRecDepth 65536 in
theorem w_room : about1.hasRoom e0.platform room_1 = true :=
  launch0.hasRoom_least _ room_1 (by decide +kernel) (by decide +kernel) (by decide +kernel) (by decide +kernel) (by decide +kernel) (by decide +kernel)
theorem allAtoms_all (ts : List Jvm.Cond) (a : Array Jvm.Value) (st : Jvm.State) : (allAtoms ts).before a st = ts.all (fun c => c.before a st) := by
  induction ts with
  | nil => rfl
  | cons c t ih =>
    show (Jvm.Cond.and c (allAtoms t)).before a st = _
    rw [Jvm.Cond.before_and, ih, List.all_cons]
def words1 : List Jvm.Cond := Jvm.Cond.code x code maxLocals ret :: tables_1
/-- a 'code' word, met by the world's own term for the bytes: nothing is compared byte by byte -/
theorem code_word {y : MethodName} {bytes : ByteArray} {mx : Nat} {rt : Option FieldType} {a : Array Value} {s : State} {m : MethodId} {meth : Method} {c : Code} (h1 : s.methodNamed? y = some m) (h2 : s.vm.method? m = some meth) (h3 : meth.code = some c) (h4 : c.code = bytes)
    (h5 : (c.maxLocals == mx && c.exceptionTable.isEmpty && decide (c.maxStack ≤ mostOperands) && decide (meth.sig.returnType = rt) && !meth.locks && decide (parseMethodDescriptor y.desc = some meth.sig)) = true) : (Jvm.Cond.code y bytes mx rt).before a s = true := by
  simp only [Bool.and_eq_true, beq_iff_eq, Bool.not_eq_true', decide_eq_true_eq] at h5
  obtain ⟨⟨⟨⟨⟨g1, g2⟩, g3⟩, g4⟩, g5⟩, g6⟩ := h5
  simp [Cond.before, Cond.holds, Cond.value, h1, h2, h3, h4, g1, g2, g3, g4, g5, g6]
def isCode : Jvm.Cond → Bool
  | .code _ _ _ _ => true
  | _ => false
theorem all_split {L : List Jvm.Cond} {P : Jvm.Cond → Bool} (h1 : L.all (fun c => isCode c || P c) = true) (h2 : ∀ c ∈ L.filter isCode, P c = true) : L.all P = true := by
  refine List.all_eq_true.mpr fun c hc => ?_
  have h := List.all_eq_true.mp h1 c hc
  rcases Bool.eq_false_or_eq_true (isCode c) with hi | hi
  · exact h2 c (List.mem_filter.mpr ⟨hc, hi⟩)
  · simpa [hi] using h
set_option maxRecDepth 65536 in
theorem w_c0 : (Jvm.Cond.code x code maxLocals ret).before args0 about1 = true := code_word (m := ⟨1, 3⟩) (meth := k1m3) (c := k1c3) (by decide +kernel) rfl rfl rfl (by decide +kernel)
set_option maxRecDepth 65536 in
theorem w_c1 : (Jvm.Cond.code ({ cls := "com/example/shingle/shingle/Hashes", name := "mix", desc := "(J)J" } : Jvm.MethodName) prog_11_method_6_code (2 : Nat) (Option.some Jvm.ClassFile.FieldType.long)).before args0 about1 = true := code_word (m := ⟨2, 1⟩) (meth := k2m1) (c := k2c1) (by decide +kernel) rfl rfl rfl (by decide +kernel)
set_option maxRecDepth 65536 in
theorem w_c2 : (Jvm.Cond.code ({ cls := "com/example/shingle/shingle/HashesMixPinLaw", name := "unmix", desc := "(J)J" } : Jvm.MethodName) method_3_code (4 : Nat) (Option.some Jvm.ClassFile.FieldType.long)).before args0 about1 = true := code_word (m := ⟨1, 2⟩) (meth := k1m2) (c := k1c2) (by decide +kernel) rfl rfl rfl (by decide +kernel)
set_option maxRecDepth 65536 in
theorem w_c3 : (Jvm.Cond.code ({ cls := "com/example/shingle/shingle/HashesMixPinLaw", name := "inverse", desc := "(J)J" } : Jvm.MethodName) method_2_code (4 : Nat) (Option.some Jvm.ClassFile.FieldType.long)).before args0 about1 = true := code_word (m := ⟨1, 1⟩) (meth := k1m1) (c := k1c1) (by decide +kernel) rfl rfl rfl (by decide +kernel)
def codes1 : List Jvm.Cond := [Jvm.Cond.code x code maxLocals ret, Jvm.Cond.code ({ cls := "com/example/shingle/shingle/Hashes", name := "mix", desc := "(J)J" } : Jvm.MethodName) prog_11_method_6_code (2 : Nat) (Option.some Jvm.ClassFile.FieldType.long), Jvm.Cond.code ({ cls := "com/example/shingle/shingle/HashesMixPinLaw", name := "unmix", desc := "(J)J" } : Jvm.MethodName) method_3_code (4 : Nat) (Option.some Jvm.ClassFile.FieldType.long), Jvm.Cond.code ({ cls := "com/example/shingle/shingle/HashesMixPinLaw", name := "inverse", desc := "(J)J" } : Jvm.MethodName) method_2_code (4 : Nat) (Option.some Jvm.ClassFile.FieldType.long)]
set_option maxRecDepth 65536 in
theorem codes_eq : words1.filter isCode = codes1 := rfl
theorem w_codes : ∀ c ∈ words1.filter isCode, c.before args0 about1 = true := by
  rw [codes_eq]
  intro c hc
  simp only [codes1, List.mem_cons, List.not_mem_nil, or_false] at hc
  rcases hc with rfl | rfl | rfl | rfl
  · exact w_c0
  · exact w_c1
  · exact w_c2
  · exact w_c3
set_option maxRecDepth 65536 in
theorem w_t1 : words1.all (fun c => isCode c || c.before args0 about1) = true := by decide +kernel
theorem w_tables : (allAtoms (Jvm.Cond.code x code maxLocals ret :: tables_1)).before args0 about1 = true := by
  rw [allAtoms_all]
  show words1.all (fun c => c.before args0 about1) = true
  refine all_split ?_ w_codes
  rw [w_t1]
set_option maxRecDepth 65536 in
theorem w_case : (Jvm.Cond.and given_1 narrow_1).before args0 about1 = true := by decide +kernel
theorem w_applies : (headSpec (Jvm.Cond.code x code maxLocals ret :: tables_1) room_1).applies x e0.platform about1 = true :=
  (Spec.applies_iff w_frames).mpr ⟨w_running, w_runnable, w_alone, w_named, w_hears, w_ripe, w_room, w_tables⟩
theorem atStart : AtStart classFile x code maxLocals ret World_1 tables_1 room_1 Calls_1 rest_1 Pre_1 launch0 p0 e0 about1 theMethod args0 below0 :=
  ⟨lists_1, trivial, launch0.admits_env _ _ _, launch0.least_env, fairChoices_fair.cas, fairChoices_fair.clock, w_frames, w_args, w_heap, w_applies, trivial, trivial, w_case⟩
end start1
theorem witness_1 : WitnessClaimed_1 := ⟨start1.p0, start1.e0, start1.about1, start1.theMethod, start1.args0, start1.below0, start1.atStart⟩
end Jvm.Pilot.@@N@@
