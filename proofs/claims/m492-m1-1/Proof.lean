import JvmDerived
import JvmDerived.Pilot.@@N@@Statement
import JvmDerived.Pilot.@@N@@Code
set_option linter.unusedVariables false
set_option linter.unusedSimpArgs false
namespace Jvm.RoadKit
open Sem ClassFile Op Lib Jvm.Stand Jvm.Free Jvm.LawKit
section New
variable {p : Program} {l : Launch} {e : Env} {R : Room} {s : State} {m : MethodId} {args : Array Value} {below : List Frame} {meth : Method} {c : Code} {T : State} {locs : List Loc} {cells slots : Nat}
theorem retI (X : Stand p l e R s m args below meth c T locs cells slots) (hx : p.tables.exec = Jvm.exec) {pc : Nat} {Ls : Array Slot} {z : Int32} {rest : List Value} (hret : meth.sig.returnType = some .int) (hd : decode c.code pc = .ok (.ireturn, 1)) {fs : List Frame}
    (hl : ∀ (f : JFrame) (acts : List Action), f.method = m → f.locked = none → f.entered = [] → (doReturn e (T.setTop f) acts (some (.int z))).1 = T.setFrames fs) : Steps p.tables e below (T.setTop (mkF m pc Ls (.int z :: rest))) (T.setFrames fs) := by
  have hm' : T.vm.method? m = some meth := X.method'
  have hn : narrow .int (.int z) = .int z := rfl
  show Steps p.tables e below (T.setTop { method := m, pc := pc, locals := Ls, stack := _ :: rest, locked := none }) _
  jvm_step X.here [X.here.top, hx, hd, hm', hret, hn]
  first | (intro acts; rw [hl _ acts rfl rfl rfl]) | rw [hl _ _ rfl rfl rfl]
  exact Steps.refl _
end New
end Jvm.RoadKit
namespace Jvm.Pilot.@@N@@
open Jvm Jvm.ClassFile Sem Op Lib Jvm.Free Jvm.Stand Jvm.LawKit Jvm.RoadKit Bundle Jvm.Pilot.@@N@@.Jvm.D
section Own
variable {p : Program} {l : Launch} {e : Env} {R : Room} {s : State} {m : MethodId} {args : Array Value} {below : List Frame} {meth : Method} {c : Code} {T : State} {locs : List Loc} {cells slots : Nat}
/-- the run goes on from S to its end, and P holds there -/
def own_Goes (tb : Tables) (e : Env) (below : List Frame) (S : State) (P : State → Outcome → Prop) : Prop :=
  ∃ s₂ o, Steps tb e below S s₂ ∧ s₂.status = .running ∧ Ended s₂ below o ∧ P s₂ o
theorem own_step {tb : Tables} {S S' : State} {P : State → Outcome → Prop} (h : ∀ t, Steps tb e below S' t → Steps tb e below S t) (k : own_Goes tb e below S' P) : own_Goes tb e below S P := by
  obtain ⟨s₂, o, h1, h2⟩ := k
  exact ⟨s₂, o, h _ h1, h2⟩
theorem own_enter {tb : Tables} {g g' : JFrame} {P : State → Outcome → Prop} (q : g = g') (k : own_Goes tb e below (T.setTop g') P) : own_Goes tb e below (T.setTop g) P := q ▸ k
def own_P (s : State) (Q : Option Value → Heap → List Loc → Prop) (C K : Nat) : State → Outcome → Prop := fun U o => ∃ v L, o = .returned v ∧ Q v U.heap L ∧ FrameEnd s o U L C K
/-- a body that writes nothing -/
def own_Qp (w : Option Value) (h0 : Heap) (v : Option Value) (h : Heap) (L : List Loc) : Prop := v = w ∧ L = [] ∧ h = h0
/-- a body that makes cells and writes none that stood before -/
def own_Qa (w : Option Value) (h0 : Heap) (n0 : Nat) (v : Option Value) (h : Heap) (L : List Loc) : Prop := v = w ∧ Fr n0 L ∧ Keep h0 h []
/-- the law -/
def own_Ql (w : Option Value) (n0 : Nat) (v : Option Value) (h : Heap) (L : List Loc) : Prop := v = w ∧ Fr n0 L
variable {Q : Option Value → Heap → List Loc → Prop} {C K : Nat}
theorem own_retI (X : Stand p l e R s m args below meth c T locs cells slots) (hx : p.tables.exec = Jvm.exec) {pc : Nat} {Ls : Array Slot} {z : Int32} {rest : List Value} (hret : meth.sig.returnType = some .int) (hd : decode c.code pc = .ok (.ireturn, 1)) (hk : meth.locks = false)
    (hQ : Q (some (.int z)) T.heap locs) (hc : cells ≤ C) (hs : slots ≤ K) : own_Goes p.tables e below (T.setTop (mkF m pc Ls (.int z :: rest))) (own_P s Q C K) := by
  obtain ⟨fs, hr, hrun, hended, hW, hsame⟩ := X.leave (v := some (.int z)) (fun h => by rw [hret] at h; cases h) hk
  exact ⟨_, _, retI X hx hret hd hr, hrun, hended, _, _, rfl, hQ, ⟨_, rfl⟩, hW, hsame.mono hc hs⟩
theorem own_retN (X : Stand p l e R s m args below meth c T locs cells slots) (hx : p.tables.exec = Jvm.exec) {pc : Nat} {Ls : Array Slot} {z : Int32} {t : FieldType} {rest : List Value} (hret : meth.sig.returnType = some t) (ht : t = .boolean ∨ t = .byte ∨ t = .char ∨ t = .short) (hd : decode c.code pc = .ok (.ireturn, 1)) (hk : meth.locks = false)
    {w : Int32} (hw : nar t z = w) (hQ : Q (some (.int w)) T.heap locs) (hc : cells ≤ C) (hs : slots ≤ K) : own_Goes p.tables e below (T.setTop (mkF m pc Ls (.int z :: rest))) (own_P s Q C K) := by
  subst hw
  obtain ⟨fs, hr, hrun, hended, hW, hsame⟩ := X.leave (v := some (.int (nar t z))) (fun h => by rw [hret] at h; cases h) hk
  exact ⟨_, _, retN X hx hret ht hd hr, hrun, hended, _, _, rfl, hQ, ⟨_, rfl⟩, hW, hsame.mono hc hs⟩
theorem own_retJ (X : Stand p l e R s m args below meth c T locs cells slots) (hx : p.tables.exec = Jvm.exec) {pc : Nat} {Ls : Array Slot} {z : Int64} (hret : meth.sig.returnType = some .long) (hd : decode c.code pc = .ok (.lreturn, 1)) (hk : meth.locks = false)
    (hQ : Q (some (.long z)) T.heap locs) (hc : cells ≤ C) (hs : slots ≤ K) : own_Goes p.tables e below (T.setTop (mkF m pc Ls [.long z])) (own_P s Q C K) := by
  obtain ⟨fs, hr, hrun, hended, hW, hsame⟩ := X.leave (v := some (.long z)) (fun h => by rw [hret] at h; cases h) hk
  exact ⟨_, _, X.lreturnOut hx hret hd hr, hrun, hended, _, _, rfl, hQ, ⟨_, rfl⟩, hW, hsame.mono hc hs⟩
theorem own_retV (X : Stand p l e R s m args below meth c T locs cells slots) (hx : p.tables.exec = Jvm.exec) {pc : Nat} {Ls : Array Slot} (hret : meth.sig.returnType = none) (hd : decode c.code pc = .ok (.return_, 1)) (hk : meth.locks = false)
    (hQ : Q none T.heap locs) (hc : cells ≤ C) (hs : slots ≤ K) : own_Goes p.tables e below (T.setTop (mkF m pc Ls [])) (own_P s Q C K) := by
  obtain ⟨fs, hr, hrun, hended, hW, hsame⟩ := X.leave (v := none) (fun _ => rfl) hk
  exact ⟨_, _, X.returnOut hx hret hd hr, hrun, hended, _, _, rfl, hQ, ⟨_, rfl⟩, hW, hsame.mono hc hs⟩
theorem own_flat (X : Stand p l e R s m args below meth c T (locs ++ []) (cells + 0) (slots + 0)) : Stand p l e R s m args below meth c T locs cells slots := List.append_nil locs ▸ X
end Own

theorem d1_0 : decode method_2_code 0 = .ok (.lload_n 0, 1) := by decide +kernel
theorem d1_1 : decode method_2_code 1 = .ok (.ldc2_w 7, 3) := by decide +kernel
theorem d1_4 : decode method_2_code 4 = .ok (.lcmp, 1) := by decide +kernel
theorem d1_5 : decode method_2_code 5 = .ok (.ifCond .ne 5, 3) := by decide +kernel
theorem d1_8 : decode method_2_code 8 = .ok (.lload_n 2, 1) := by decide +kernel
theorem d1_9 : decode method_2_code 9 = .ok (.lreturn, 1) := by decide +kernel
theorem d1_10 : decode method_2_code 10 = .ok (.lload_n 2, 1) := by decide +kernel
theorem d1_11 : decode method_2_code 11 = .ok (.ldc2_w 7, 3) := by decide +kernel
theorem d1_14 : decode method_2_code 14 = .ok (.lcmp, 1) := by decide +kernel
theorem d1_15 : decode method_2_code 15 = .ok (.ifCond .ne 5, 3) := by decide +kernel
theorem d1_18 : decode method_2_code 18 = .ok (.lload_n 0, 1) := by decide +kernel
theorem d1_19 : decode method_2_code 19 = .ok (.lreturn, 1) := by decide +kernel
theorem d1_20 : decode method_2_code 20 = .ok (.lload_n 0, 1) := by decide +kernel
theorem d1_21 : decode method_2_code 21 = .ok (.lload_n 2, 1) := by decide +kernel
theorem d1_22 : decode method_2_code 22 = .ok (.lcmp, 1) := by decide +kernel
theorem d1_23 : decode method_2_code 23 = .ok (.ifCond .ge 5, 3) := by decide +kernel
theorem d1_26 : decode method_2_code 26 = .ok (.lload_n 2, 1) := by decide +kernel
theorem d1_27 : decode method_2_code 27 = .ok (.lreturn, 1) := by decide +kernel
theorem d1_28 : decode method_2_code 28 = .ok (.lload_n 0, 1) := by decide +kernel
theorem d1_29 : decode method_2_code 29 = .ok (.lreturn, 1) := by decide +kernel
theorem pn_1 : plainName "com/example/bound/bound/format/RecordLargerTimestampPinLaw" = true := by first | (simp [plainName, overriddenIn]; done) | decide +kernel
theorem ef_1 (m : MethodId) (q0 : Int64) (q1 : Int64) : entryFrame m #[(.long q0), (.long q1)] 4 = mkF m 0 #[.val (.long q0), .second, .val (.long q1), .second] [] := by first | (simp [entryFrame, mkF, argsToLocals, Value.category]; done) | rfl
def own_f1 (q0 : Int64) (q1 : Int64) : Int64 :=
  if q0 = (-1 : Int64) then
    q1
  else
    if q1 = (-1 : Int64) then
      q0
    else
      if q0 < q1 then
        q1
      else
        q0
abbrev own_room1 : Room := { frames := 0, cells := 0, slots := 0, locals := 0 }
set_option maxRecDepth 65536 in
set_option maxHeartbeats 40000000 in
theorem rm1 (l : Launch) (Z : State) (a0 : Array Value) (hw : ∀ d ∈ tables_1, d.before a0 Z = true) (ws : List Jvm.Cond) (q0 : Int64) (q1 : Int64) (h0 : Heap) (n0 : Nat) (Z0 : n0 ≤ h0.size) :
    MetFree l (⟨"com/example/bound/bound/format/RecordLargerTimestampPinLaw", "expected", "(JJ)J"⟩ : MethodName) (head1 (Jvm.Cond.code (⟨"com/example/bound/bound/format/RecordLargerTimestampPinLaw", "expected", "(JJ)J"⟩ : MethodName) method_2_code 4 (some .long) :: ws) own_room1) (fun a U => a = #[(.long q0), (.long q1)] ∧ Z.Warmed39 U.vm ∧ U.heap = h0) (fun _ _ _ _ _ => True) (fun _ U o U' => ∃ v L, o = .returned v ∧ own_Qp (some (.long (own_f1 q0 q1))) h0 v U'.heap L ∧ FrameEnd U o U' L own_room1.cells own_room1.slots) := by
  refine MetFree.of_bodySF (plainFor_of_name pn_1) hisR ?_
  intro p e s m args below meth c s₁ Bd hml0 hP hK
  obtain ⟨rfl, hZ, hh⟩ := hP
  have hx := Bd.exec
  have hby := Bd.bytes
  have hml : c.maxLocals = 4 := hml0
  have hown : s.vm.findClass "com/example/bound/bound/format/RecordLargerTimestampPinLaw" = some m.cls := findClass_of_methodNamed Bd.named
  have hnm := (name_of_methodNamed Bd.named Bd.method).1
  have X0 : Stand p l e own_room1 s m #[(.long q0), (.long q1)] below meth c s₁ [] 0 0 := Stand.of_body Bd
  have e0 : s₁.heap = h0 := by rw [← hh, Bd.state]; rfl
  have N0 := Fr.nil n0
  refine own_enter (ef_1 m q0 q1) ?_
  show own_Goes p.tables e below (s₁.setTop (mkF m 0 #[.val (.long q0), .second, .val (.long q1), .second] [])) (own_P s (own_Qp (some (.long (own_f1 q0 q1))) h0) own_room1.cells own_room1.slots)
  refine own_step (fun _ => XS.lloadN X0.here hx rfl (hb hby d1_0) rfl) ?_
  show own_Goes p.tables e below (s₁.setTop (mkF m 1 #[.val (.long q0), .second, .val (.long q1), .second] [(.long q0)])) _
  refine own_step (X0.ldc2Long hx hown (mvT hZ (hw _ (List.mem_of_getElem? (i := 4) rfl))) (g := (mkF m 1 #[.val (.long q0), .second, .val (.long q1), .second] [(.long q0)])) rfl (hb hby d1_1)) ?_
  show own_Goes p.tables e below (s₁.setTop (mkF m 4 #[.val (.long q0), .second, .val (.long q1), .second] [(.long (-1 : Int64)), (.long q0)])) _
  refine own_step (fun _ => Jvm.Free.XT.lcmp X0.here hx rfl (hb hby d1_4) rfl) ?_
  show own_Goes p.tables e below (s₁.setTop (mkF m 5 #[.val (.long q0), .second, .val (.long q1), .second] [(.int (Jvm.Free.XT.cmpL q0 (-1 : Int64)))])) _
  by_cases hc5 : q0 = (-1 : Int64)
  · refine own_step (fun _ => XS.ifNo X0.here hx rfl (hb hby d1_5) rfl (Jvm.Free.XT.ll_ne_f hc5)) ?_
    show own_Goes p.tables e below (s₁.setTop (mkF m 8 #[.val (.long q0), .second, .val (.long q1), .second] [])) _
    refine own_step (fun _ => XS.lloadN X0.here hx rfl (hb hby d1_8) rfl) ?_
    show own_Goes p.tables e below (s₁.setTop (mkF m 9 #[.val (.long q0), .second, .val (.long q1), .second] [(.long q1)])) _
    have hv : (own_f1 q0 q1) = q1 := by exact (if_pos hc5)
    rw [hv]
    exact own_retJ X0 hx Bd.returns (hb hby d1_9) (BodyLoose.notSynchronized Bd) ⟨rfl, rfl, e0⟩ (by decide) (by decide)
  · refine own_step (fun _ => XS.ifYes X0.here hx rfl (pc0 := 5) (pc' := 10) rfl (hb hby d1_5) rfl (Jvm.Free.XT.ll_ne_t hc5) (by decide) (by decide)) ?_
    show own_Goes p.tables e below (s₁.setTop (mkF m 10 #[.val (.long q0), .second, .val (.long q1), .second] [])) _
    refine own_step (fun _ => XS.lloadN X0.here hx rfl (hb hby d1_10) rfl) ?_
    show own_Goes p.tables e below (s₁.setTop (mkF m 11 #[.val (.long q0), .second, .val (.long q1), .second] [(.long q1)])) _
    refine own_step (X0.ldc2Long hx hown (mvT hZ (hw _ (List.mem_of_getElem? (i := 4) rfl))) (g := (mkF m 11 #[.val (.long q0), .second, .val (.long q1), .second] [(.long q1)])) rfl (hb hby d1_11)) ?_
    show own_Goes p.tables e below (s₁.setTop (mkF m 14 #[.val (.long q0), .second, .val (.long q1), .second] [(.long (-1 : Int64)), (.long q1)])) _
    refine own_step (fun _ => Jvm.Free.XT.lcmp X0.here hx rfl (hb hby d1_14) rfl) ?_
    show own_Goes p.tables e below (s₁.setTop (mkF m 15 #[.val (.long q0), .second, .val (.long q1), .second] [(.int (Jvm.Free.XT.cmpL q1 (-1 : Int64)))])) _
    by_cases hc15 : q1 = (-1 : Int64)
    · refine own_step (fun _ => XS.ifNo X0.here hx rfl (hb hby d1_15) rfl (Jvm.Free.XT.ll_ne_f hc15)) ?_
      show own_Goes p.tables e below (s₁.setTop (mkF m 18 #[.val (.long q0), .second, .val (.long q1), .second] [])) _
      refine own_step (fun _ => XS.lloadN X0.here hx rfl (hb hby d1_18) rfl) ?_
      show own_Goes p.tables e below (s₁.setTop (mkF m 19 #[.val (.long q0), .second, .val (.long q1), .second] [(.long q0)])) _
      have hv : (own_f1 q0 q1) = q0 := by exact ((if_neg hc5)).trans (if_pos hc15)
      rw [hv]
      exact own_retJ X0 hx Bd.returns (hb hby d1_19) (BodyLoose.notSynchronized Bd) ⟨rfl, rfl, e0⟩ (by decide) (by decide)
    · refine own_step (fun _ => XS.ifYes X0.here hx rfl (pc0 := 15) (pc' := 20) rfl (hb hby d1_15) rfl (Jvm.Free.XT.ll_ne_t hc15) (by decide) (by decide)) ?_
      show own_Goes p.tables e below (s₁.setTop (mkF m 20 #[.val (.long q0), .second, .val (.long q1), .second] [])) _
      refine own_step (fun _ => XS.lloadN X0.here hx rfl (hb hby d1_20) rfl) ?_
      show own_Goes p.tables e below (s₁.setTop (mkF m 21 #[.val (.long q0), .second, .val (.long q1), .second] [(.long q0)])) _
      refine own_step (fun _ => XS.lloadN X0.here hx rfl (hb hby d1_21) rfl) ?_
      show own_Goes p.tables e below (s₁.setTop (mkF m 22 #[.val (.long q0), .second, .val (.long q1), .second] [(.long q1), (.long q0)])) _
      refine own_step (fun _ => Jvm.Free.XT.lcmp X0.here hx rfl (hb hby d1_22) rfl) ?_
      show own_Goes p.tables e below (s₁.setTop (mkF m 23 #[.val (.long q0), .second, .val (.long q1), .second] [(.int (Jvm.Free.XT.cmpL q0 q1))])) _
      by_cases hc23 : q0 < q1
      · refine own_step (fun _ => XS.ifNo X0.here hx rfl (hb hby d1_23) rfl (Jvm.Free.XT.ll_ge_f hc23)) ?_
        show own_Goes p.tables e below (s₁.setTop (mkF m 26 #[.val (.long q0), .second, .val (.long q1), .second] [])) _
        refine own_step (fun _ => XS.lloadN X0.here hx rfl (hb hby d1_26) rfl) ?_
        show own_Goes p.tables e below (s₁.setTop (mkF m 27 #[.val (.long q0), .second, .val (.long q1), .second] [(.long q1)])) _
        have hv : (own_f1 q0 q1) = q1 := by exact (((if_neg hc5)).trans (if_neg hc15)).trans (if_pos hc23)
        rw [hv]
        exact own_retJ X0 hx Bd.returns (hb hby d1_27) (BodyLoose.notSynchronized Bd) ⟨rfl, rfl, e0⟩ (by decide) (by decide)
      · refine own_step (fun _ => XS.ifYes X0.here hx rfl (pc0 := 23) (pc' := 28) rfl (hb hby d1_23) rfl (Jvm.Free.XT.ll_ge_t hc23) (by decide) (by decide)) ?_
        show own_Goes p.tables e below (s₁.setTop (mkF m 28 #[.val (.long q0), .second, .val (.long q1), .second] [])) _
        refine own_step (fun _ => XS.lloadN X0.here hx rfl (hb hby d1_28) rfl) ?_
        show own_Goes p.tables e below (s₁.setTop (mkF m 29 #[.val (.long q0), .second, .val (.long q1), .second] [(.long q0)])) _
        have hv : (own_f1 q0 q1) = q0 := by exact (((if_neg hc5)).trans (if_neg hc15)).trans (if_neg hc23)
        rw [hv]
        exact own_retJ X0 hx Bd.returns (hb hby d1_29) (BodyLoose.notSynchronized Bd) ⟨rfl, rfl, e0⟩ (by decide) (by decide)
theorem d2_0 : decode prog_19_method_2_code 0 = .ok (.lload_n 0, 1) := by decide +kernel
theorem d2_1 : decode prog_19_method_2_code 1 = .ok (.lstore 4, 2) := by decide +kernel
theorem d2_3 : decode prog_19_method_2_code 3 = .ok (.lload_n 2, 1) := by decide +kernel
theorem d2_4 : decode prog_19_method_2_code 4 = .ok (.ldc2_w 29, 3) := by decide +kernel
theorem d2_7 : decode prog_19_method_2_code 7 = .ok (.lcmp, 1) := by decide +kernel
theorem d2_8 : decode prog_19_method_2_code 8 = .ok (.ifCond .eq 20, 3) := by decide +kernel
theorem d2_11 : decode prog_19_method_2_code 11 = .ok (.lload_n 0, 1) := by decide +kernel
theorem d2_12 : decode prog_19_method_2_code 12 = .ok (.ldc2_w 29, 3) := by decide +kernel
theorem d2_15 : decode prog_19_method_2_code 15 = .ok (.lcmp, 1) := by decide +kernel
theorem d2_16 : decode prog_19_method_2_code 16 = .ok (.ifCond .eq 9, 3) := by decide +kernel
theorem d2_19 : decode prog_19_method_2_code 19 = .ok (.lload_n 2, 1) := by decide +kernel
theorem d2_20 : decode prog_19_method_2_code 20 = .ok (.lload_n 0, 1) := by decide +kernel
theorem d2_21 : decode prog_19_method_2_code 21 = .ok (.lcmp, 1) := by decide +kernel
theorem d2_22 : decode prog_19_method_2_code 22 = .ok (.ifCond .le 6, 3) := by decide +kernel
theorem d2_25 : decode prog_19_method_2_code 25 = .ok (.lload_n 2, 1) := by decide +kernel
theorem d2_26 : decode prog_19_method_2_code 26 = .ok (.lstore 4, 2) := by decide +kernel
theorem d2_28 : decode prog_19_method_2_code 28 = .ok (.lload 4, 2) := by decide +kernel
theorem d2_30 : decode prog_19_method_2_code 30 = .ok (.lreturn, 1) := by decide +kernel
theorem pn_2 : plainName "com/example/bound/bound/format/Record" = true := by first | (simp [plainName, overriddenIn]; done) | decide +kernel
theorem ef_2 (m : MethodId) (q0 : Int64) (q1 : Int64) : entryFrame m #[(.long q0), (.long q1)] 6 = mkF m 0 #[.val (.long q0), .second, .val (.long q1), .second, .unset, .unset] [] := by first | (simp [entryFrame, mkF, argsToLocals, Value.category]; done) | rfl
def own_f2_28 (w28_l4 : Int64) : Int64 :=
  w28_l4
def own_f2_25 (q1 : Int64) : Int64 :=
  (own_f2_28 q1)
def own_f2 (q0 : Int64) (q1 : Int64) : Int64 :=
  if q1 = (-1 : Int64) then
    (own_f2_28 q0)
  else
    if q0 = (-1 : Int64) then
      (own_f2_25 q1)
    else
      if q0 < q1 then
        (own_f2_25 q1)
      else
        (own_f2_28 q0)
abbrev own_room2 : Room := { frames := 0, cells := 0, slots := 0, locals := 0 }
set_option maxRecDepth 65536 in
set_option maxHeartbeats 40000000 in
theorem rm2 (l : Launch) (Z : State) (a0 : Array Value) (hw : ∀ d ∈ tables_1, d.before a0 Z = true) (ws : List Jvm.Cond) (q0 : Int64) (q1 : Int64) (h0 : Heap) (n0 : Nat) (Z0 : n0 ≤ h0.size) :
    MetFree l (⟨"com/example/bound/bound/format/Record", "largerTimestamp", "(JJ)J"⟩ : MethodName) (head1 (Jvm.Cond.code (⟨"com/example/bound/bound/format/Record", "largerTimestamp", "(JJ)J"⟩ : MethodName) prog_19_method_2_code 6 (some .long) :: ws) own_room2) (fun a U => a = #[(.long q0), (.long q1)] ∧ Z.Warmed39 U.vm ∧ U.heap = h0) (fun _ _ _ _ _ => True) (fun _ U o U' => ∃ v L, o = .returned v ∧ own_Qp (some (.long (own_f2 q0 q1))) h0 v U'.heap L ∧ FrameEnd U o U' L own_room2.cells own_room2.slots) := by
  refine MetFree.of_bodySF (plainFor_of_name pn_2) hisR ?_
  intro p e s m args below meth c s₁ Bd hml0 hP hK
  obtain ⟨rfl, hZ, hh⟩ := hP
  have hx := Bd.exec
  have hby := Bd.bytes
  have hml : c.maxLocals = 6 := hml0
  have hown : s.vm.findClass "com/example/bound/bound/format/Record" = some m.cls := findClass_of_methodNamed Bd.named
  have hnm := (name_of_methodNamed Bd.named Bd.method).1
  have X0 : Stand p l e own_room2 s m #[(.long q0), (.long q1)] below meth c s₁ [] 0 0 := Stand.of_body Bd
  have e0 : s₁.heap = h0 := by rw [← hh, Bd.state]; rfl
  have N0 := Fr.nil n0
  refine own_enter (ef_2 m q0 q1) ?_
  show own_Goes p.tables e below (s₁.setTop (mkF m 0 #[.val (.long q0), .second, .val (.long q1), .second, .unset, .unset] [])) (own_P s (own_Qp (some (.long (own_f2 q0 q1))) h0) own_room2.cells own_room2.slots)
  refine own_step (fun _ => XS.lloadN X0.here hx rfl (hb hby d2_0) rfl) ?_
  show own_Goes p.tables e below (s₁.setTop (mkF m 1 #[.val (.long q0), .second, .val (.long q1), .second, .unset, .unset] [(.long q0)])) _
  refine own_step (fun _ => XS.lstore X0.here hx rfl (hb hby d2_1) rfl (l' := #[.val (.long q0), .second, .val (.long q1), .second, .val (.long q0), .second]) rfl) ?_
  show own_Goes p.tables e below (s₁.setTop (mkF m 3 #[.val (.long q0), .second, .val (.long q1), .second, .val (.long q0), .second] [])) _
  refine own_step (fun _ => XS.lloadN X0.here hx rfl (hb hby d2_3) rfl) ?_
  show own_Goes p.tables e below (s₁.setTop (mkF m 4 #[.val (.long q0), .second, .val (.long q1), .second, .val (.long q0), .second] [(.long q1)])) _
  refine own_step (X0.ldc2Long hx hown (mvT hZ (hw _ (List.mem_of_getElem? (i := 9) rfl))) (g := (mkF m 4 #[.val (.long q0), .second, .val (.long q1), .second, .val (.long q0), .second] [(.long q1)])) rfl (hb hby d2_4)) ?_
  show own_Goes p.tables e below (s₁.setTop (mkF m 7 #[.val (.long q0), .second, .val (.long q1), .second, .val (.long q0), .second] [(.long (-1 : Int64)), (.long q1)])) _
  refine own_step (fun _ => Jvm.Free.XT.lcmp X0.here hx rfl (hb hby d2_7) rfl) ?_
  show own_Goes p.tables e below (s₁.setTop (mkF m 8 #[.val (.long q0), .second, .val (.long q1), .second, .val (.long q0), .second] [(.int (Jvm.Free.XT.cmpL q1 (-1 : Int64)))])) _
  have J28 : ∀ (T_28 : State) (X_28 : Stand p l e own_room2 s m #[(.long q0), (.long q1)] below meth c T_28 [] 0 0) (e_28 : T_28.heap = h0) (w28_l4 : Int64), own_Goes p.tables e below (T_28.setTop (mkF m 28 #[.val (.long q0), .second, .val (.long q1), .second, .val (.long w28_l4), .second] [])) (own_P s (own_Qp (some (.long (own_f2_28 w28_l4))) h0) own_room2.cells own_room2.slots) := by
    intro T_28 X_28 e_28 w28_l4
    refine own_step (fun _ => XS.lload X_28.here hx rfl (hb hby d2_28) rfl) ?_
    show own_Goes p.tables e below (T_28.setTop (mkF m 30 #[.val (.long q0), .second, .val (.long q1), .second, .val (.long w28_l4), .second] [(.long w28_l4)])) _
    have hv : (own_f2_28 w28_l4) = w28_l4 := by exact rfl
    rw [hv]
    exact own_retJ X_28 hx Bd.returns (hb hby d2_30) (BodyLoose.notSynchronized Bd) ⟨rfl, rfl, e_28⟩ (by decide) (by decide)
  by_cases hc8 : q1 = (-1 : Int64)
  · refine own_step (fun _ => XS.ifYes X0.here hx rfl (pc0 := 8) (pc' := 28) rfl (hb hby d2_8) rfl (Jvm.Free.XT.ll_eq_t hc8) (by decide) (by decide)) ?_
    show own_Goes p.tables e below (s₁.setTop (mkF m 28 #[.val (.long q0), .second, .val (.long q1), .second, .val (.long q0), .second] [])) _
    have hv : (own_f2 q0 q1) = (own_f2_28 q0) := by exact (if_pos hc8)
    rw [hv]
    exact J28 s₁ X0 e0 q0
  · refine own_step (fun _ => XS.ifNo X0.here hx rfl (hb hby d2_8) rfl (Jvm.Free.XT.ll_eq_f hc8)) ?_
    show own_Goes p.tables e below (s₁.setTop (mkF m 11 #[.val (.long q0), .second, .val (.long q1), .second, .val (.long q0), .second] [])) _
    refine own_step (fun _ => XS.lloadN X0.here hx rfl (hb hby d2_11) rfl) ?_
    show own_Goes p.tables e below (s₁.setTop (mkF m 12 #[.val (.long q0), .second, .val (.long q1), .second, .val (.long q0), .second] [(.long q0)])) _
    refine own_step (X0.ldc2Long hx hown (mvT hZ (hw _ (List.mem_of_getElem? (i := 9) rfl))) (g := (mkF m 12 #[.val (.long q0), .second, .val (.long q1), .second, .val (.long q0), .second] [(.long q0)])) rfl (hb hby d2_12)) ?_
    show own_Goes p.tables e below (s₁.setTop (mkF m 15 #[.val (.long q0), .second, .val (.long q1), .second, .val (.long q0), .second] [(.long (-1 : Int64)), (.long q0)])) _
    refine own_step (fun _ => Jvm.Free.XT.lcmp X0.here hx rfl (hb hby d2_15) rfl) ?_
    show own_Goes p.tables e below (s₁.setTop (mkF m 16 #[.val (.long q0), .second, .val (.long q1), .second, .val (.long q0), .second] [(.int (Jvm.Free.XT.cmpL q0 (-1 : Int64)))])) _
    have J25 : ∀ (T_25 : State) (X_25 : Stand p l e own_room2 s m #[(.long q0), (.long q1)] below meth c T_25 [] 0 0) (e_25 : T_25.heap = h0), own_Goes p.tables e below (T_25.setTop (mkF m 25 #[.val (.long q0), .second, .val (.long q1), .second, .val (.long q0), .second] [])) (own_P s (own_Qp (some (.long (own_f2_25 q1))) h0) own_room2.cells own_room2.slots) := by
      intro T_25 X_25 e_25
      refine own_step (fun _ => XS.lloadN X_25.here hx rfl (hb hby d2_25) rfl) ?_
      show own_Goes p.tables e below (T_25.setTop (mkF m 26 #[.val (.long q0), .second, .val (.long q1), .second, .val (.long q0), .second] [(.long q1)])) _
      refine own_step (fun _ => XS.lstore X_25.here hx rfl (hb hby d2_26) rfl (l' := #[.val (.long q0), .second, .val (.long q1), .second, .val (.long q1), .second]) rfl) ?_
      show own_Goes p.tables e below (T_25.setTop (mkF m 28 #[.val (.long q0), .second, .val (.long q1), .second, .val (.long q1), .second] [])) _
      have hv : (own_f2_25 q1) = (own_f2_28 q1) := by exact rfl
      rw [hv]
      exact J28 T_25 X_25 e_25 q1
    by_cases hc16 : q0 = (-1 : Int64)
    · refine own_step (fun _ => XS.ifYes X0.here hx rfl (pc0 := 16) (pc' := 25) rfl (hb hby d2_16) rfl (Jvm.Free.XT.ll_eq_t hc16) (by decide) (by decide)) ?_
      show own_Goes p.tables e below (s₁.setTop (mkF m 25 #[.val (.long q0), .second, .val (.long q1), .second, .val (.long q0), .second] [])) _
      have hv : (own_f2 q0 q1) = (own_f2_25 q1) := by exact ((if_neg hc8)).trans (if_pos hc16)
      rw [hv]
      exact J25 s₁ X0 e0
    · refine own_step (fun _ => XS.ifNo X0.here hx rfl (hb hby d2_16) rfl (Jvm.Free.XT.ll_eq_f hc16)) ?_
      show own_Goes p.tables e below (s₁.setTop (mkF m 19 #[.val (.long q0), .second, .val (.long q1), .second, .val (.long q0), .second] [])) _
      refine own_step (fun _ => XS.lloadN X0.here hx rfl (hb hby d2_19) rfl) ?_
      show own_Goes p.tables e below (s₁.setTop (mkF m 20 #[.val (.long q0), .second, .val (.long q1), .second, .val (.long q0), .second] [(.long q1)])) _
      refine own_step (fun _ => XS.lloadN X0.here hx rfl (hb hby d2_20) rfl) ?_
      show own_Goes p.tables e below (s₁.setTop (mkF m 21 #[.val (.long q0), .second, .val (.long q1), .second, .val (.long q0), .second] [(.long q0), (.long q1)])) _
      refine own_step (fun _ => Jvm.Free.XT.lcmp X0.here hx rfl (hb hby d2_21) rfl) ?_
      show own_Goes p.tables e below (s₁.setTop (mkF m 22 #[.val (.long q0), .second, .val (.long q1), .second, .val (.long q0), .second] [(.int (Jvm.Free.XT.cmpL q1 q0))])) _
      by_cases hc22 : q0 < q1
      · refine own_step (fun _ => XS.ifNo X0.here hx rfl (hb hby d2_22) rfl (Jvm.Free.XT.ll_le_f hc22)) ?_
        show own_Goes p.tables e below (s₁.setTop (mkF m 25 #[.val (.long q0), .second, .val (.long q1), .second, .val (.long q0), .second] [])) _
        have hv : (own_f2 q0 q1) = (own_f2_25 q1) := by exact (((if_neg hc8)).trans (if_neg hc16)).trans (if_pos hc22)
        rw [hv]
        exact J25 s₁ X0 e0
      · refine own_step (fun _ => XS.ifYes X0.here hx rfl (pc0 := 22) (pc' := 28) rfl (hb hby d2_22) rfl (Jvm.Free.XT.ll_le_t hc22) (by decide) (by decide)) ?_
        show own_Goes p.tables e below (s₁.setTop (mkF m 28 #[.val (.long q0), .second, .val (.long q1), .second, .val (.long q0), .second] [])) _
        have hv : (own_f2 q0 q1) = (own_f2_28 q0) := by exact (((if_neg hc8)).trans (if_neg hc16)).trans (if_neg hc22)
        rw [hv]
        exact J28 s₁ X0 e0 q0
theorem pn_0 : plainName "com/example/bound/bound/format/RecordLargerTimestampPinLaw" = true := by first | (simp [plainName, overriddenIn]; done) | decide +kernel
theorem pd_0_0 : parseMethodDescriptor "(JJ)J" = some ⟨[.long, .long], some .long⟩ := by decide +kernel
theorem ef_0 (m : MethodId) (q0 : Int64) (q1 : Int64) (p2 : Int32) : entryFrame m #[(.long q0), (.long q1), (.int p2)] maxLocals = mkF m 0 #[.val (.long q0), .second, .val (.long q1), .second, .val (.int p2), .unset, .unset, .unset, .unset, .unset, .unset, .unset, .unset, .unset, .unset] [] := by first | (simp [entryFrame, mkF, argsToLocals, Value.category, maxLocals]; done) | rfl
def own_f0_95 : Int32 :=
  (0 : Int32)
def own_f0_48 (w14_t0 : Int64) (w48_l7 : Int64) : Int32 :=
  if (own_f2 w14_t0 w48_l7) = (own_f1 w14_t0 w48_l7) then
    if (own_f2 w48_l7 w14_t0) = (own_f1 w14_t0 w48_l7) then
      (1 : Int32)
    else
      (own_f0_95)
  else
    (own_f0_95)
def own_f0_14 (q1 : Int64) (p2 : Int32) (w14_t0 : Int64) : Int32 :=
  if (p2 &&& (2 : Int32)) = 0 then
    if (p2 &&& (4 : Int32)) = 0 then
      (own_f0_48 w14_t0 q1)
    else
      (own_f0_48 w14_t0 w14_t0)
  else
    (own_f0_48 w14_t0 (-1 : Int64))
def own_f0 (q0 : Int64) (q1 : Int64) (p2 : Int32) : Int32 :=
  if (p2 &&& (1 : Int32)) = 0 then
    (own_f0_14 q1 p2 q0)
  else
    (own_f0_14 q1 p2 (-1 : Int64))
set_option maxRecDepth 65536 in
set_option maxHeartbeats 40000000 in
theorem rm0 (l : Launch) (Z : State) (a0 : Array Value) (hw : ∀ d ∈ tables_1, d.before a0 Z = true) (ws : List Jvm.Cond) (q0 : Int64) (q1 : Int64) (p2 : Int32) (h0 : Heap) (n0 : Nat) (Z0 : n0 ≤ h0.size) :
    MetFree l x (head1 (Jvm.Cond.code x code maxLocals ret :: ws) room_1) (fun a U => a = #[(.long q0), (.long q1), (.int p2)] ∧ Z.Warmed39 U.vm ∧ U.heap = h0) (fun _ _ _ _ _ => True) (fun _ U o U' => ∃ v L, o = .returned v ∧ own_Ql (some (.int (own_f0 q0 q1 p2))) n0 v U'.heap L ∧ FrameEnd U o U' L 0 0) := by
  refine MetFree.of_bodySF (plainFor_of_name pn_0) hisR ?_
  intro p e s m args below meth c s₁ Bd hml0 hP hK
  obtain ⟨rfl, hZ, hh⟩ := hP
  have hx := Bd.exec
  have hby := Bd.bytes
  have hml : c.maxLocals = 15 := hml0
  have hown : s.vm.findClass "com/example/bound/bound/format/RecordLargerTimestampPinLaw" = some m.cls := findClass_of_methodNamed Bd.named
  have hnm := (name_of_methodNamed Bd.named Bd.method).1
  have X0 : Stand p l e room_1 s m #[(.long q0), (.long q1), (.int p2)] below meth c s₁ [] 0 0 := Stand.of_body Bd
  have e0 : s₁.heap = h0 := by rw [← hh, Bd.state]; rfl
  have N0 := Fr.nil n0
  refine own_enter (ef_0 m q0 q1 p2) ?_
  show own_Goes p.tables e below (s₁.setTop (mkF m 0 #[.val (.long q0), .second, .val (.long q1), .second, .val (.int p2), .unset, .unset, .unset, .unset, .unset, .unset, .unset, .unset, .unset, .unset] [])) (own_P s (own_Ql (some (.int (own_f0 q0 q1 p2))) n0) 0 0)
  refine own_step (fun _ => XS.iload X0.here hx rfl (hb hby at_0) rfl) ?_
  show own_Goes p.tables e below (s₁.setTop (mkF m 2 #[.val (.long q0), .second, .val (.long q1), .second, .val (.int p2), .unset, .unset, .unset, .unset, .unset, .unset, .unset, .unset, .unset, .unset] [(.int p2)])) _
  refine own_step (fun _ => XS.iconst X0.here hx rfl (hb hby at_2)) ?_
  show own_Goes p.tables e below (s₁.setTop (mkF m 3 #[.val (.long q0), .second, .val (.long q1), .second, .val (.int p2), .unset, .unset, .unset, .unset, .unset, .unset, .unset, .unset, .unset, .unset] [(.int (1 : Int32)), (.int p2)])) _
  refine own_step (fun _ => XS.iand X0.here hx rfl (hb hby at_3) rfl) ?_
  show own_Goes p.tables e below (s₁.setTop (mkF m 4 #[.val (.long q0), .second, .val (.long q1), .second, .val (.int p2), .unset, .unset, .unset, .unset, .unset, .unset, .unset, .unset, .unset, .unset] [(.int (p2 &&& (1 : Int32)))])) _
  have J14 : ∀ (T_14 : State) (X_14 : Stand p l e room_1 s m #[(.long q0), (.long q1), (.int p2)] below meth c T_14 [] 0 0) (e_14 : T_14.heap = h0) (w14_t0 : Int64), own_Goes p.tables e below (T_14.setTop (mkF m 14 #[.val (.long q0), .second, .val (.long q1), .second, .val (.int p2), .unset, .unset, .unset, .unset, .unset, .unset, .unset, .unset, .unset, .unset] [(.long w14_t0)])) (own_P s (own_Ql (some (.int (own_f0_14 q1 p2 w14_t0))) n0) 0 0) := by
    intro T_14 X_14 e_14 w14_t0
    refine own_step (fun _ => XS.lstore X_14.here hx rfl (hb hby at_14) rfl (l' := #[.val (.long q0), .second, .val (.long q1), .second, .val (.int p2), .val (.long w14_t0), .second, .unset, .unset, .unset, .unset, .unset, .unset, .unset, .unset]) rfl) ?_
    show own_Goes p.tables e below (T_14.setTop (mkF m 16 #[.val (.long q0), .second, .val (.long q1), .second, .val (.int p2), .val (.long w14_t0), .second, .unset, .unset, .unset, .unset, .unset, .unset, .unset, .unset] [])) _
    refine own_step (fun _ => XS.iload X_14.here hx rfl (hb hby at_16) rfl) ?_
    show own_Goes p.tables e below (T_14.setTop (mkF m 18 #[.val (.long q0), .second, .val (.long q1), .second, .val (.int p2), .val (.long w14_t0), .second, .unset, .unset, .unset, .unset, .unset, .unset, .unset, .unset] [(.int p2)])) _
    refine own_step (fun _ => XS.iconst X_14.here hx rfl (hb hby at_18)) ?_
    show own_Goes p.tables e below (T_14.setTop (mkF m 19 #[.val (.long q0), .second, .val (.long q1), .second, .val (.int p2), .val (.long w14_t0), .second, .unset, .unset, .unset, .unset, .unset, .unset, .unset, .unset] [(.int (2 : Int32)), (.int p2)])) _
    refine own_step (fun _ => XS.iand X_14.here hx rfl (hb hby at_19) rfl) ?_
    show own_Goes p.tables e below (T_14.setTop (mkF m 20 #[.val (.long q0), .second, .val (.long q1), .second, .val (.int p2), .val (.long w14_t0), .second, .unset, .unset, .unset, .unset, .unset, .unset, .unset, .unset] [(.int (p2 &&& (2 : Int32)))])) _
    have J48 : ∀ (T_48 : State) (X_48 : Stand p l e room_1 s m #[(.long q0), (.long q1), (.int p2)] below meth c T_48 [] 0 0) (e_48 : T_48.heap = h0) (w48_l7 : Int64), own_Goes p.tables e below (T_48.setTop (mkF m 48 #[.val (.long q0), .second, .val (.long q1), .second, .val (.int p2), .val (.long w14_t0), .second, .val (.long w48_l7), .second, .unset, .unset, .unset, .unset, .unset, .unset] [])) (own_P s (own_Ql (some (.int (own_f0_48 w14_t0 w48_l7))) n0) 0 0) := by
      intro T_48 X_48 e_48 w48_l7
      refine own_step (fun _ => XS.lload X_48.here hx rfl (hb hby at_48) rfl) ?_
      show own_Goes p.tables e below (T_48.setTop (mkF m 50 #[.val (.long q0), .second, .val (.long q1), .second, .val (.int p2), .val (.long w14_t0), .second, .val (.long w48_l7), .second, .unset, .unset, .unset, .unset, .unset, .unset] [(.long w14_t0)])) _
      refine own_step (fun _ => XS.lload X_48.here hx rfl (hb hby at_50) rfl) ?_
      show own_Goes p.tables e below (T_48.setTop (mkF m 52 #[.val (.long q0), .second, .val (.long q1), .second, .val (.int p2), .val (.long w14_t0), .second, .val (.long w48_l7), .second, .unset, .unset, .unset, .unset, .unset, .unset] [(.long w48_l7), (.long w14_t0)])) _
      obtain ⟨_, _, ⟨T1, L1, k1, n1⟩, -, X1, ⟨Lc1, hQ1, l1, y1, z1⟩, st1⟩ := Jvm.LawKit.callS X_48 hx (y := (⟨"com/example/bound/bound/format/RecordLargerTimestampPinLaw", "expected", "(JJ)J"⟩ : MethodName)) hown (mvT hZ (hw _ (List.mem_of_getElem? (i := 0) rfl))) (mvT hZ (hw _ (List.mem_of_getElem? (i := 1) rfl))) (mvT hZ (hw _ (List.mem_of_getElem? (i := 2) rfl))) (mvT hZ (hw _ (List.mem_of_getElem? (i := 3) rfl))) (by decide) (backOf (W := 0) (rm1 l Z a0 hw [] w14_t0 w48_l7 h0 n0 Z0) hZ (hw _ (List.mem_of_getElem? (i := 3) rfl)) (hw _ (List.mem_of_getElem? (i := 2) rfl)) (by decide) (by decide)) (g := (mkF m 52 #[.val (.long q0), .second, .val (.long q1), .second, .val (.int p2), .val (.long w14_t0), .second, .val (.long w48_l7), .second, .unset, .unset, .unset, .unset, .unset, .unset] [(.long w48_l7), (.long w14_t0)])) rfl (by rw [hml]; rfl) (argsL := [(.long w14_t0), (.long w48_l7)]) (rest := []) (lenOf pd_0_0 rfl) rfl (by show 2 * 0 + _ ≤ _; exact Nat.le_of_eq rfl) (hb hby at_52) (fun _ _ => ⟨rfl, e_48, (by decide : 0 + 0 ≤ _), (by decide : 0 + 0 ≤ _)⟩)
      dsimp only [Pt.U, Pt.locs, Pt.cells, Pt.slots] at X1 l1 y1 z1 st1 hQ1
      subst l1 y1 z1
      obtain ⟨rfl, rfl, e1⟩ := hQ1
      have X1 : Stand p l e room_1 s m #[(.long q0), (.long q1), (.int p2)] below meth c T1 [] 0 0 := own_flat X1
      refine own_step (st1) ?_
      show own_Goes p.tables e below (T1.setTop (mkF m 55 #[.val (.long q0), .second, .val (.long q1), .second, .val (.int p2), .val (.long w14_t0), .second, .val (.long w48_l7), .second, .unset, .unset, .unset, .unset, .unset, .unset] [(.long (own_f1 w14_t0 w48_l7))])) _
      refine own_step (fun _ => XS.lstore X1.here hx rfl (hb hby at_55) rfl (l' := #[.val (.long q0), .second, .val (.long q1), .second, .val (.int p2), .val (.long w14_t0), .second, .val (.long w48_l7), .second, .val (.long (own_f1 w14_t0 w48_l7)), .second, .unset, .unset, .unset, .unset]) rfl) ?_
      show own_Goes p.tables e below (T1.setTop (mkF m 57 #[.val (.long q0), .second, .val (.long q1), .second, .val (.int p2), .val (.long w14_t0), .second, .val (.long w48_l7), .second, .val (.long (own_f1 w14_t0 w48_l7)), .second, .unset, .unset, .unset, .unset] [])) _
      refine own_step (fun _ => XS.lload X1.here hx rfl (hb hby at_57) rfl) ?_
      show own_Goes p.tables e below (T1.setTop (mkF m 59 #[.val (.long q0), .second, .val (.long q1), .second, .val (.int p2), .val (.long w14_t0), .second, .val (.long w48_l7), .second, .val (.long (own_f1 w14_t0 w48_l7)), .second, .unset, .unset, .unset, .unset] [(.long w14_t0)])) _
      refine own_step (fun _ => XS.lload X1.here hx rfl (hb hby at_59) rfl) ?_
      show own_Goes p.tables e below (T1.setTop (mkF m 61 #[.val (.long q0), .second, .val (.long q1), .second, .val (.int p2), .val (.long w14_t0), .second, .val (.long w48_l7), .second, .val (.long (own_f1 w14_t0 w48_l7)), .second, .unset, .unset, .unset, .unset] [(.long w48_l7), (.long w14_t0)])) _
      obtain ⟨_, _, ⟨T2, L2, k2, n2⟩, -, X2, ⟨Lc2, hQ2, l2, y2, z2⟩, st2⟩ := Jvm.LawKit.callS X1 hx (y := (⟨"com/example/bound/bound/format/Record", "largerTimestamp", "(JJ)J"⟩ : MethodName)) hown (mvT hZ (hw _ (List.mem_of_getElem? (i := 5) rfl))) (mvT hZ (hw _ (List.mem_of_getElem? (i := 6) rfl))) (mvT hZ (hw _ (List.mem_of_getElem? (i := 7) rfl))) (mvT hZ (hw _ (List.mem_of_getElem? (i := 8) rfl))) (by decide) (backOf (W := 0) (rm2 l Z a0 hw [] w14_t0 w48_l7 h0 n0 Z0) hZ (hw _ (List.mem_of_getElem? (i := 8) rfl)) (hw _ (List.mem_of_getElem? (i := 7) rfl)) (by decide) (by decide)) (g := (mkF m 61 #[.val (.long q0), .second, .val (.long q1), .second, .val (.int p2), .val (.long w14_t0), .second, .val (.long w48_l7), .second, .val (.long (own_f1 w14_t0 w48_l7)), .second, .unset, .unset, .unset, .unset] [(.long w48_l7), (.long w14_t0)])) rfl (by rw [hml]; rfl) (argsL := [(.long w14_t0), (.long w48_l7)]) (rest := []) (lenOf pd_0_0 rfl) rfl (by show 2 * 0 + _ ≤ _; exact Nat.le_of_eq rfl) (hb hby at_61) (fun _ _ => ⟨rfl, e1, (by decide : 0 + 0 ≤ _), (by decide : 0 + 0 ≤ _)⟩)
      dsimp only [Pt.U, Pt.locs, Pt.cells, Pt.slots] at X2 l2 y2 z2 st2 hQ2
      subst l2 y2 z2
      obtain ⟨rfl, rfl, e2⟩ := hQ2
      have X2 : Stand p l e room_1 s m #[(.long q0), (.long q1), (.int p2)] below meth c T2 [] 0 0 := own_flat X2
      refine own_step (st2) ?_
      show own_Goes p.tables e below (T2.setTop (mkF m 64 #[.val (.long q0), .second, .val (.long q1), .second, .val (.int p2), .val (.long w14_t0), .second, .val (.long w48_l7), .second, .val (.long (own_f1 w14_t0 w48_l7)), .second, .unset, .unset, .unset, .unset] [(.long (own_f2 w14_t0 w48_l7))])) _
      refine own_step (fun _ => XS.lstore X2.here hx rfl (hb hby at_64) rfl (l' := #[.val (.long q0), .second, .val (.long q1), .second, .val (.int p2), .val (.long w14_t0), .second, .val (.long w48_l7), .second, .val (.long (own_f1 w14_t0 w48_l7)), .second, .val (.long (own_f2 w14_t0 w48_l7)), .second, .unset, .unset]) rfl) ?_
      show own_Goes p.tables e below (T2.setTop (mkF m 66 #[.val (.long q0), .second, .val (.long q1), .second, .val (.int p2), .val (.long w14_t0), .second, .val (.long w48_l7), .second, .val (.long (own_f1 w14_t0 w48_l7)), .second, .val (.long (own_f2 w14_t0 w48_l7)), .second, .unset, .unset] [])) _
      refine own_step (fun _ => XS.lload X2.here hx rfl (hb hby at_66) rfl) ?_
      show own_Goes p.tables e below (T2.setTop (mkF m 68 #[.val (.long q0), .second, .val (.long q1), .second, .val (.int p2), .val (.long w14_t0), .second, .val (.long w48_l7), .second, .val (.long (own_f1 w14_t0 w48_l7)), .second, .val (.long (own_f2 w14_t0 w48_l7)), .second, .unset, .unset] [(.long w48_l7)])) _
      refine own_step (fun _ => XS.lload X2.here hx rfl (hb hby at_68) rfl) ?_
      show own_Goes p.tables e below (T2.setTop (mkF m 70 #[.val (.long q0), .second, .val (.long q1), .second, .val (.int p2), .val (.long w14_t0), .second, .val (.long w48_l7), .second, .val (.long (own_f1 w14_t0 w48_l7)), .second, .val (.long (own_f2 w14_t0 w48_l7)), .second, .unset, .unset] [(.long w14_t0), (.long w48_l7)])) _
      obtain ⟨_, _, ⟨T3, L3, k3, n3⟩, -, X3, ⟨Lc3, hQ3, l3, y3, z3⟩, st3⟩ := Jvm.LawKit.callS X2 hx (y := (⟨"com/example/bound/bound/format/Record", "largerTimestamp", "(JJ)J"⟩ : MethodName)) hown (mvT hZ (hw _ (List.mem_of_getElem? (i := 5) rfl))) (mvT hZ (hw _ (List.mem_of_getElem? (i := 6) rfl))) (mvT hZ (hw _ (List.mem_of_getElem? (i := 7) rfl))) (mvT hZ (hw _ (List.mem_of_getElem? (i := 8) rfl))) (by decide) (backOf (W := 0) (rm2 l Z a0 hw [] w48_l7 w14_t0 h0 n0 Z0) hZ (hw _ (List.mem_of_getElem? (i := 8) rfl)) (hw _ (List.mem_of_getElem? (i := 7) rfl)) (by decide) (by decide)) (g := (mkF m 70 #[.val (.long q0), .second, .val (.long q1), .second, .val (.int p2), .val (.long w14_t0), .second, .val (.long w48_l7), .second, .val (.long (own_f1 w14_t0 w48_l7)), .second, .val (.long (own_f2 w14_t0 w48_l7)), .second, .unset, .unset] [(.long w14_t0), (.long w48_l7)])) rfl (by rw [hml]; rfl) (argsL := [(.long w48_l7), (.long w14_t0)]) (rest := []) (lenOf pd_0_0 rfl) rfl (by show 2 * 0 + _ ≤ _; exact Nat.le_of_eq rfl) (hb hby at_70) (fun _ _ => ⟨rfl, e2, (by decide : 0 + 0 ≤ _), (by decide : 0 + 0 ≤ _)⟩)
      dsimp only [Pt.U, Pt.locs, Pt.cells, Pt.slots] at X3 l3 y3 z3 st3 hQ3
      subst l3 y3 z3
      obtain ⟨rfl, rfl, e3⟩ := hQ3
      have X3 : Stand p l e room_1 s m #[(.long q0), (.long q1), (.int p2)] below meth c T3 [] 0 0 := own_flat X3
      refine own_step (st3) ?_
      show own_Goes p.tables e below (T3.setTop (mkF m 73 #[.val (.long q0), .second, .val (.long q1), .second, .val (.int p2), .val (.long w14_t0), .second, .val (.long w48_l7), .second, .val (.long (own_f1 w14_t0 w48_l7)), .second, .val (.long (own_f2 w14_t0 w48_l7)), .second, .unset, .unset] [(.long (own_f2 w48_l7 w14_t0))])) _
      refine own_step (fun _ => XS.lstore X3.here hx rfl (hb hby at_73) rfl (l' := #[.val (.long q0), .second, .val (.long q1), .second, .val (.int p2), .val (.long w14_t0), .second, .val (.long w48_l7), .second, .val (.long (own_f1 w14_t0 w48_l7)), .second, .val (.long (own_f2 w14_t0 w48_l7)), .second, .val (.long (own_f2 w48_l7 w14_t0)), .second]) rfl) ?_
      show own_Goes p.tables e below (T3.setTop (mkF m 75 #[.val (.long q0), .second, .val (.long q1), .second, .val (.int p2), .val (.long w14_t0), .second, .val (.long w48_l7), .second, .val (.long (own_f1 w14_t0 w48_l7)), .second, .val (.long (own_f2 w14_t0 w48_l7)), .second, .val (.long (own_f2 w48_l7 w14_t0)), .second] [])) _
      refine own_step (fun _ => XS.lload X3.here hx rfl (hb hby at_75) rfl) ?_
      show own_Goes p.tables e below (T3.setTop (mkF m 77 #[.val (.long q0), .second, .val (.long q1), .second, .val (.int p2), .val (.long w14_t0), .second, .val (.long w48_l7), .second, .val (.long (own_f1 w14_t0 w48_l7)), .second, .val (.long (own_f2 w14_t0 w48_l7)), .second, .val (.long (own_f2 w48_l7 w14_t0)), .second] [(.long (own_f2 w14_t0 w48_l7))])) _
      refine own_step (fun _ => XS.lload X3.here hx rfl (hb hby at_77) rfl) ?_
      show own_Goes p.tables e below (T3.setTop (mkF m 79 #[.val (.long q0), .second, .val (.long q1), .second, .val (.int p2), .val (.long w14_t0), .second, .val (.long w48_l7), .second, .val (.long (own_f1 w14_t0 w48_l7)), .second, .val (.long (own_f2 w14_t0 w48_l7)), .second, .val (.long (own_f2 w48_l7 w14_t0)), .second] [(.long (own_f1 w14_t0 w48_l7)), (.long (own_f2 w14_t0 w48_l7))])) _
      refine own_step (fun _ => Jvm.Free.XT.lcmp X3.here hx rfl (hb hby at_79) rfl) ?_
      show own_Goes p.tables e below (T3.setTop (mkF m 80 #[.val (.long q0), .second, .val (.long q1), .second, .val (.int p2), .val (.long w14_t0), .second, .val (.long w48_l7), .second, .val (.long (own_f1 w14_t0 w48_l7)), .second, .val (.long (own_f2 w14_t0 w48_l7)), .second, .val (.long (own_f2 w48_l7 w14_t0)), .second] [(.int (Jvm.Free.XT.cmpL (own_f2 w14_t0 w48_l7) (own_f1 w14_t0 w48_l7)))])) _
      have J95 : ∀ (T_95 : State) (X_95 : Stand p l e room_1 s m #[(.long q0), (.long q1), (.int p2)] below meth c T_95 [] 0 0) (e_95 : T_95.heap = h0), own_Goes p.tables e below (T_95.setTop (mkF m 95 #[.val (.long q0), .second, .val (.long q1), .second, .val (.int p2), .val (.long w14_t0), .second, .val (.long w48_l7), .second, .val (.long (own_f1 w14_t0 w48_l7)), .second, .val (.long (own_f2 w14_t0 w48_l7)), .second, .val (.long (own_f2 w48_l7 w14_t0)), .second] [])) (own_P s (own_Ql (some (.int (own_f0_95))) n0) 0 0) := by
        intro T_95 X_95 e_95
        refine own_step (fun _ => XS.iconst X_95.here hx rfl (hb hby at_95)) ?_
        show own_Goes p.tables e below (T_95.setTop (mkF m 96 #[.val (.long q0), .second, .val (.long q1), .second, .val (.int p2), .val (.long w14_t0), .second, .val (.long w48_l7), .second, .val (.long (own_f1 w14_t0 w48_l7)), .second, .val (.long (own_f2 w14_t0 w48_l7)), .second, .val (.long (own_f2 w48_l7 w14_t0)), .second] [(.int (0 : Int32))])) _
        have hv : (own_f0_95) = (0 : Int32) := by exact rfl
        rw [hv]
        exact own_retN X_95 hx (t := .boolean) Bd.returns (by simp) (hb hby at_96) (BodyLoose.notSynchronized Bd) (w := (0 : Int32)) rfl ⟨rfl, N0⟩ (by decide) (by decide)
      by_cases hc80 : (own_f2 w14_t0 w48_l7) = (own_f1 w14_t0 w48_l7)
      · refine own_step (fun _ => XS.ifNo X3.here hx rfl (hb hby at_80) rfl (Jvm.Free.XT.ll_ne_f hc80)) ?_
        show own_Goes p.tables e below (T3.setTop (mkF m 83 #[.val (.long q0), .second, .val (.long q1), .second, .val (.int p2), .val (.long w14_t0), .second, .val (.long w48_l7), .second, .val (.long (own_f1 w14_t0 w48_l7)), .second, .val (.long (own_f2 w14_t0 w48_l7)), .second, .val (.long (own_f2 w48_l7 w14_t0)), .second] [])) _
        refine own_step (fun _ => XS.lload X3.here hx rfl (hb hby at_83) rfl) ?_
        show own_Goes p.tables e below (T3.setTop (mkF m 85 #[.val (.long q0), .second, .val (.long q1), .second, .val (.int p2), .val (.long w14_t0), .second, .val (.long w48_l7), .second, .val (.long (own_f1 w14_t0 w48_l7)), .second, .val (.long (own_f2 w14_t0 w48_l7)), .second, .val (.long (own_f2 w48_l7 w14_t0)), .second] [(.long (own_f2 w48_l7 w14_t0))])) _
        refine own_step (fun _ => XS.lload X3.here hx rfl (hb hby at_85) rfl) ?_
        show own_Goes p.tables e below (T3.setTop (mkF m 87 #[.val (.long q0), .second, .val (.long q1), .second, .val (.int p2), .val (.long w14_t0), .second, .val (.long w48_l7), .second, .val (.long (own_f1 w14_t0 w48_l7)), .second, .val (.long (own_f2 w14_t0 w48_l7)), .second, .val (.long (own_f2 w48_l7 w14_t0)), .second] [(.long (own_f1 w14_t0 w48_l7)), (.long (own_f2 w48_l7 w14_t0))])) _
        refine own_step (fun _ => Jvm.Free.XT.lcmp X3.here hx rfl (hb hby at_87) rfl) ?_
        show own_Goes p.tables e below (T3.setTop (mkF m 88 #[.val (.long q0), .second, .val (.long q1), .second, .val (.int p2), .val (.long w14_t0), .second, .val (.long w48_l7), .second, .val (.long (own_f1 w14_t0 w48_l7)), .second, .val (.long (own_f2 w14_t0 w48_l7)), .second, .val (.long (own_f2 w48_l7 w14_t0)), .second] [(.int (Jvm.Free.XT.cmpL (own_f2 w48_l7 w14_t0) (own_f1 w14_t0 w48_l7)))])) _
        by_cases hc88 : (own_f2 w48_l7 w14_t0) = (own_f1 w14_t0 w48_l7)
        · refine own_step (fun _ => XS.ifNo X3.here hx rfl (hb hby at_88) rfl (Jvm.Free.XT.ll_ne_f hc88)) ?_
          show own_Goes p.tables e below (T3.setTop (mkF m 91 #[.val (.long q0), .second, .val (.long q1), .second, .val (.int p2), .val (.long w14_t0), .second, .val (.long w48_l7), .second, .val (.long (own_f1 w14_t0 w48_l7)), .second, .val (.long (own_f2 w14_t0 w48_l7)), .second, .val (.long (own_f2 w48_l7 w14_t0)), .second] [])) _
          refine own_step (fun _ => XS.iconst X3.here hx rfl (hb hby at_91)) ?_
          show own_Goes p.tables e below (T3.setTop (mkF m 92 #[.val (.long q0), .second, .val (.long q1), .second, .val (.int p2), .val (.long w14_t0), .second, .val (.long w48_l7), .second, .val (.long (own_f1 w14_t0 w48_l7)), .second, .val (.long (own_f2 w14_t0 w48_l7)), .second, .val (.long (own_f2 w48_l7 w14_t0)), .second] [(.int (1 : Int32))])) _
          refine own_step (fun _ => XS.goto X3.here hx rfl (pc0 := 92) (pc' := 96) rfl (hb hby at_92) (by decide) (by decide)) ?_
          show own_Goes p.tables e below (T3.setTop (mkF m 96 #[.val (.long q0), .second, .val (.long q1), .second, .val (.int p2), .val (.long w14_t0), .second, .val (.long w48_l7), .second, .val (.long (own_f1 w14_t0 w48_l7)), .second, .val (.long (own_f2 w14_t0 w48_l7)), .second, .val (.long (own_f2 w48_l7 w14_t0)), .second] [(.int (1 : Int32))])) _
          have hv : (own_f0_48 w14_t0 w48_l7) = (1 : Int32) := by exact ((if_pos hc80)).trans (if_pos hc88)
          rw [hv]
          exact own_retN X3 hx (t := .boolean) Bd.returns (by simp) (hb hby at_96) (BodyLoose.notSynchronized Bd) (w := (1 : Int32)) rfl ⟨rfl, N0⟩ (by decide) (by decide)
        · refine own_step (fun _ => XS.ifYes X3.here hx rfl (pc0 := 88) (pc' := 95) rfl (hb hby at_88) rfl (Jvm.Free.XT.ll_ne_t hc88) (by decide) (by decide)) ?_
          show own_Goes p.tables e below (T3.setTop (mkF m 95 #[.val (.long q0), .second, .val (.long q1), .second, .val (.int p2), .val (.long w14_t0), .second, .val (.long w48_l7), .second, .val (.long (own_f1 w14_t0 w48_l7)), .second, .val (.long (own_f2 w14_t0 w48_l7)), .second, .val (.long (own_f2 w48_l7 w14_t0)), .second] [])) _
          have hv : (own_f0_48 w14_t0 w48_l7) = (own_f0_95) := by exact ((if_pos hc80)).trans (if_neg hc88)
          rw [hv]
          exact J95 T3 X3 e3
      · refine own_step (fun _ => XS.ifYes X3.here hx rfl (pc0 := 80) (pc' := 95) rfl (hb hby at_80) rfl (Jvm.Free.XT.ll_ne_t hc80) (by decide) (by decide)) ?_
        show own_Goes p.tables e below (T3.setTop (mkF m 95 #[.val (.long q0), .second, .val (.long q1), .second, .val (.int p2), .val (.long w14_t0), .second, .val (.long w48_l7), .second, .val (.long (own_f1 w14_t0 w48_l7)), .second, .val (.long (own_f2 w14_t0 w48_l7)), .second, .val (.long (own_f2 w48_l7 w14_t0)), .second] [])) _
        have hv : (own_f0_48 w14_t0 w48_l7) = (own_f0_95) := by exact (if_neg hc80)
        rw [hv]
        exact J95 T3 X3 e3
    by_cases hc20 : (p2 &&& (2 : Int32)) = 0
    · refine own_step (fun _ => XS.ifYes X_14.here hx rfl (pc0 := 20) (pc' := 31) rfl (hb hby at_20) rfl (Jvm.Free.XT.i0_eq_t hc20) (by decide) (by decide)) ?_
      show own_Goes p.tables e below (T_14.setTop (mkF m 31 #[.val (.long q0), .second, .val (.long q1), .second, .val (.int p2), .val (.long w14_t0), .second, .unset, .unset, .unset, .unset, .unset, .unset, .unset, .unset] [])) _
      refine own_step (fun _ => XS.iload X_14.here hx rfl (hb hby at_31) rfl) ?_
      show own_Goes p.tables e below (T_14.setTop (mkF m 33 #[.val (.long q0), .second, .val (.long q1), .second, .val (.int p2), .val (.long w14_t0), .second, .unset, .unset, .unset, .unset, .unset, .unset, .unset, .unset] [(.int p2)])) _
      refine own_step (fun _ => XS.iconst X_14.here hx rfl (hb hby at_33)) ?_
      show own_Goes p.tables e below (T_14.setTop (mkF m 34 #[.val (.long q0), .second, .val (.long q1), .second, .val (.int p2), .val (.long w14_t0), .second, .unset, .unset, .unset, .unset, .unset, .unset, .unset, .unset] [(.int (4 : Int32)), (.int p2)])) _
      refine own_step (fun _ => XS.iand X_14.here hx rfl (hb hby at_34) rfl) ?_
      show own_Goes p.tables e below (T_14.setTop (mkF m 35 #[.val (.long q0), .second, .val (.long q1), .second, .val (.int p2), .val (.long w14_t0), .second, .unset, .unset, .unset, .unset, .unset, .unset, .unset, .unset] [(.int (p2 &&& (4 : Int32)))])) _
      by_cases hc35 : (p2 &&& (4 : Int32)) = 0
      · refine own_step (fun _ => XS.ifYes X_14.here hx rfl (pc0 := 35) (pc' := 45) rfl (hb hby at_35) rfl (Jvm.Free.XT.i0_eq_t hc35) (by decide) (by decide)) ?_
        show own_Goes p.tables e below (T_14.setTop (mkF m 45 #[.val (.long q0), .second, .val (.long q1), .second, .val (.int p2), .val (.long w14_t0), .second, .unset, .unset, .unset, .unset, .unset, .unset, .unset, .unset] [])) _
        refine own_step (fun _ => XS.lloadN X_14.here hx rfl (hb hby at_45) rfl) ?_
        show own_Goes p.tables e below (T_14.setTop (mkF m 46 #[.val (.long q0), .second, .val (.long q1), .second, .val (.int p2), .val (.long w14_t0), .second, .unset, .unset, .unset, .unset, .unset, .unset, .unset, .unset] [(.long q1)])) _
        refine own_step (fun _ => XS.lstore X_14.here hx rfl (hb hby at_46) rfl (l' := #[.val (.long q0), .second, .val (.long q1), .second, .val (.int p2), .val (.long w14_t0), .second, .val (.long q1), .second, .unset, .unset, .unset, .unset, .unset, .unset]) rfl) ?_
        show own_Goes p.tables e below (T_14.setTop (mkF m 48 #[.val (.long q0), .second, .val (.long q1), .second, .val (.int p2), .val (.long w14_t0), .second, .val (.long q1), .second, .unset, .unset, .unset, .unset, .unset, .unset] [])) _
        have hv : (own_f0_14 q1 p2 w14_t0) = (own_f0_48 w14_t0 q1) := by exact ((if_pos hc20)).trans (if_pos hc35)
        rw [hv]
        exact J48 T_14 X_14 e_14 q1
      · refine own_step (fun _ => XS.ifNo X_14.here hx rfl (hb hby at_35) rfl (Jvm.Free.XT.i0_eq_f hc35)) ?_
        show own_Goes p.tables e below (T_14.setTop (mkF m 38 #[.val (.long q0), .second, .val (.long q1), .second, .val (.int p2), .val (.long w14_t0), .second, .unset, .unset, .unset, .unset, .unset, .unset, .unset, .unset] [])) _
        refine own_step (fun _ => XS.lload X_14.here hx rfl (hb hby at_38) rfl) ?_
        show own_Goes p.tables e below (T_14.setTop (mkF m 40 #[.val (.long q0), .second, .val (.long q1), .second, .val (.int p2), .val (.long w14_t0), .second, .unset, .unset, .unset, .unset, .unset, .unset, .unset, .unset] [(.long w14_t0)])) _
        refine own_step (fun _ => XS.lstore X_14.here hx rfl (hb hby at_40) rfl (l' := #[.val (.long q0), .second, .val (.long q1), .second, .val (.int p2), .val (.long w14_t0), .second, .val (.long w14_t0), .second, .unset, .unset, .unset, .unset, .unset, .unset]) rfl) ?_
        show own_Goes p.tables e below (T_14.setTop (mkF m 42 #[.val (.long q0), .second, .val (.long q1), .second, .val (.int p2), .val (.long w14_t0), .second, .val (.long w14_t0), .second, .unset, .unset, .unset, .unset, .unset, .unset] [])) _
        refine own_step (fun _ => XS.goto X_14.here hx rfl (pc0 := 42) (pc' := 48) rfl (hb hby at_42) (by decide) (by decide)) ?_
        show own_Goes p.tables e below (T_14.setTop (mkF m 48 #[.val (.long q0), .second, .val (.long q1), .second, .val (.int p2), .val (.long w14_t0), .second, .val (.long w14_t0), .second, .unset, .unset, .unset, .unset, .unset, .unset] [])) _
        have hv : (own_f0_14 q1 p2 w14_t0) = (own_f0_48 w14_t0 w14_t0) := by exact ((if_pos hc20)).trans (if_neg hc35)
        rw [hv]
        exact J48 T_14 X_14 e_14 w14_t0
    · refine own_step (fun _ => XS.ifNo X_14.here hx rfl (hb hby at_20) rfl (Jvm.Free.XT.i0_eq_f hc20)) ?_
      show own_Goes p.tables e below (T_14.setTop (mkF m 23 #[.val (.long q0), .second, .val (.long q1), .second, .val (.int p2), .val (.long w14_t0), .second, .unset, .unset, .unset, .unset, .unset, .unset, .unset, .unset] [])) _
      refine own_step (X_14.ldc2Long hx hown (mvT hZ (hw _ (List.mem_of_getElem? (i := 4) rfl))) (g := (mkF m 23 #[.val (.long q0), .second, .val (.long q1), .second, .val (.int p2), .val (.long w14_t0), .second, .unset, .unset, .unset, .unset, .unset, .unset, .unset, .unset] [])) rfl (hb hby at_23)) ?_
      show own_Goes p.tables e below (T_14.setTop (mkF m 26 #[.val (.long q0), .second, .val (.long q1), .second, .val (.int p2), .val (.long w14_t0), .second, .unset, .unset, .unset, .unset, .unset, .unset, .unset, .unset] [(.long (-1 : Int64))])) _
      refine own_step (fun _ => XS.lstore X_14.here hx rfl (hb hby at_26) rfl (l' := #[.val (.long q0), .second, .val (.long q1), .second, .val (.int p2), .val (.long w14_t0), .second, .val (.long (-1 : Int64)), .second, .unset, .unset, .unset, .unset, .unset, .unset]) rfl) ?_
      show own_Goes p.tables e below (T_14.setTop (mkF m 28 #[.val (.long q0), .second, .val (.long q1), .second, .val (.int p2), .val (.long w14_t0), .second, .val (.long (-1 : Int64)), .second, .unset, .unset, .unset, .unset, .unset, .unset] [])) _
      refine own_step (fun _ => XS.goto X_14.here hx rfl (pc0 := 28) (pc' := 48) rfl (hb hby at_28) (by decide) (by decide)) ?_
      show own_Goes p.tables e below (T_14.setTop (mkF m 48 #[.val (.long q0), .second, .val (.long q1), .second, .val (.int p2), .val (.long w14_t0), .second, .val (.long (-1 : Int64)), .second, .unset, .unset, .unset, .unset, .unset, .unset] [])) _
      have hv : (own_f0_14 q1 p2 w14_t0) = (own_f0_48 w14_t0 (-1 : Int64)) := by exact (if_neg hc20)
      rw [hv]
      exact J48 T_14 X_14 e_14 (-1 : Int64)
  by_cases hc4 : (p2 &&& (1 : Int32)) = 0
  · refine own_step (fun _ => XS.ifYes X0.here hx rfl (pc0 := 4) (pc' := 13) rfl (hb hby at_4) rfl (Jvm.Free.XT.i0_eq_t hc4) (by decide) (by decide)) ?_
    show own_Goes p.tables e below (s₁.setTop (mkF m 13 #[.val (.long q0), .second, .val (.long q1), .second, .val (.int p2), .unset, .unset, .unset, .unset, .unset, .unset, .unset, .unset, .unset, .unset] [])) _
    refine own_step (fun _ => XS.lloadN X0.here hx rfl (hb hby at_13) rfl) ?_
    show own_Goes p.tables e below (s₁.setTop (mkF m 14 #[.val (.long q0), .second, .val (.long q1), .second, .val (.int p2), .unset, .unset, .unset, .unset, .unset, .unset, .unset, .unset, .unset, .unset] [(.long q0)])) _
    have hv : (own_f0 q0 q1 p2) = (own_f0_14 q1 p2 q0) := by exact (if_pos hc4)
    rw [hv]
    exact J14 s₁ X0 e0 q0
  · refine own_step (fun _ => XS.ifNo X0.here hx rfl (hb hby at_4) rfl (Jvm.Free.XT.i0_eq_f hc4)) ?_
    show own_Goes p.tables e below (s₁.setTop (mkF m 7 #[.val (.long q0), .second, .val (.long q1), .second, .val (.int p2), .unset, .unset, .unset, .unset, .unset, .unset, .unset, .unset, .unset, .unset] [])) _
    refine own_step (X0.ldc2Long hx hown (mvT hZ (hw _ (List.mem_of_getElem? (i := 4) rfl))) (g := (mkF m 7 #[.val (.long q0), .second, .val (.long q1), .second, .val (.int p2), .unset, .unset, .unset, .unset, .unset, .unset, .unset, .unset, .unset, .unset] [])) rfl (hb hby at_7)) ?_
    show own_Goes p.tables e below (s₁.setTop (mkF m 10 #[.val (.long q0), .second, .val (.long q1), .second, .val (.int p2), .unset, .unset, .unset, .unset, .unset, .unset, .unset, .unset, .unset, .unset] [(.long (-1 : Int64))])) _
    refine own_step (fun _ => XS.goto X0.here hx rfl (pc0 := 10) (pc' := 14) rfl (hb hby at_10) (by decide) (by decide)) ?_
    show own_Goes p.tables e below (s₁.setTop (mkF m 14 #[.val (.long q0), .second, .val (.long q1), .second, .val (.int p2), .unset, .unset, .unset, .unset, .unset, .unset, .unset, .unset, .unset, .unset] [(.long (-1 : Int64))])) _
    have hv : (own_f0 q0 q1 p2) = (own_f0_14 q1 p2 (-1 : Int64)) := by exact (if_neg hc4)
    rw [hv]
    exact J14 s₁ X0 e0 (-1 : Int64)
theorem own_key (a b : Int64) : own_f2 a b = own_f1 a b ∧ own_f2 b a = own_f1 a b := by
  have hlt : ∀ x y : Int64, x < y ↔ x.toInt < y.toInt := fun _ _ => Int64.lt_iff_toInt_lt
  have heq : ∀ x y : Int64, x = y ↔ x.toInt = y.toInt := fun _ _ => Int64.toInt_inj.symm
  rcases (show a < b ∨ a = b ∨ b < a by simp only [hlt, heq]; omega) with h | rfl | h
  · have h' : ¬ b < a := by rw [hlt] at *; omega
    by_cases h1 : a = -1 <;> by_cases h2 : b = -1 <;> simp [own_f1, own_f2, own_f2_25, own_f2_28, h1, h2, h, h']
  · by_cases h1 : a = -1 <;> simp [own_f1, own_f2, own_f2_25, own_f2_28, h1]
  · have h' : ¬ a < b := by rw [hlt] at *; omega
    by_cases h1 : a = -1 <;> by_cases h2 : b = -1 <;> simp [own_f1, own_f2, own_f2_25, own_f2_28, h1, h2, h, h']
theorem own_48 (a b : Int64) : own_f0_48 a b = 1 := by
  unfold own_f0_48
  rw [if_pos (own_key a b).1, if_pos (own_key a b).2]
theorem own_law (q0 : Int64) (q1 : Int64) (p2 : Int32) : own_f0 q0 q1 p2 = 1 := by
  simp only [own_f0, own_f0_14, own_48, ite_self]
set_option maxRecDepth 65536 in
set_option maxHeartbeats 40000000 in
theorem comes_1 {Post : Tables → Env → Array Value → State → Outcome → State → Prop} (hpost : ∀ tb e args s v u, (limb_1_1.after args s (.returned v) u = true ∧ limb_1_2.after args s (.returned v) u = true ∧ True) → FrameEnd s (.returned v) u (Jvm.fieldLocs frame_1_writes args s ++ Jvm.arrayLocs frame_1_arrays args s ++ Jvm.staticLocs frame_1_statics s) 0 0 → Post tb e args s (.returned v) u) :
    ArmFor flags0 classFile x code maxLocals ret World_1 tables_1 room_1 Calls_1 rest_1 Pre_1 Post := by
  intro l hfl _ _ p e ha hc hk s m args below hf hA hF happ hP
  obtain ⟨hcalls, hrest, hpre⟩ := hP
  obtain ⟨-, -, -, hnamed, -, -, -, hat⟩ := (Spec.applies_iff hf).mp happ
  obtain ⟨hg, hn⟩ := and_e (Cond.before_iff.mp (show (Jvm.Cond.and given_1 narrow_1).before args s = true from hpre))
  obtain ⟨g1, g2⟩ := and_e hg
  obtain ⟨g3, g4⟩ := and_e g2
  obtain ⟨g5, g6⟩ := and_e g4
  obtain ⟨w0, w1, w2, rfl⟩ : ∃ w0 w1 w2 : Value, args = #[w0, w1, w2] := by
    have hs : args.size = 3 := by simpa [Cond.value, given_1] using g1
    obtain ⟨L⟩ := args
    match L, hs with
    | [w0, w1, w2], _ => exact ⟨w0, w1, w2, rfl⟩
  have hw := fun d (hd : d ∈ tables_1) => atoms_spec (ws := Jvm.Cond.code x code maxLocals ret :: tables_1) hat d (List.mem_cons_of_mem _ hd)
  obtain ⟨i0, ei0⟩ := isL_v g3
  obtain rfl : w0 = (.long i0) := Option.some.inj ei0
  obtain ⟨i1, ei1⟩ := isL_v g5
  obtain rfl : w1 = (.long i1) := Option.some.inj ei1
  obtain ⟨i2, ei2⟩ := is_v g6
  obtain rfl : w2 = (.int i2) := Option.some.inj ei2
  have hrm := rm0 l s _ hw tables_1 i0 i1 i2 s.heap s.heap.size (Nat.le_refl _)
  rw [own_law i0 i1 i2] at hrm
  obtain ⟨n, o, h1, h2, h3, _, L, rfl, ⟨rfl, N⟩, hq⟩ := hrm p e ha hc hk s m _ below hf ((Spec.applies_iff_loose hf).mp happ).1 ⟨rfl, State.Warmed39.refl s, rfl⟩ trivial
  refine ⟨n, _, h1, h2, h3, hpost _ _ _ _ _ _ ⟨Cond.after_iff.mpr rfl, Cond.after_iff.mpr (eq_i res_at (Term.int_eval (1)) rfl), trivial⟩ ⟨hq.1, hq.2.1, (hq.2.2.sift fun y hy => Or.inr (N y hy)).mono (by decide) (by decide)⟩⟩
theorem main_1_1 : Claimed_1_1 := comes_1 fun _ _ _ _ _ _ h hF => ⟨h.1, hF⟩
theorem main_1_2 : Claimed_1_2 := comes_1 fun _ _ _ _ _ _ h hF => ⟨h.2.1, hF⟩
end Jvm.Pilot.@@N@@
namespace Jvm.Pilot.@@N@@
open Jvm Jvm.ClassFile Sem Op Lib Jvm.Free Jvm.Stand Jvm.Pilot.@@N@@.Jvm.D
/-! MADE BY PROGRAM (witnessworld.py) out of the Statement's table words and the real class files: 7 classes; the members and pool entries that the words name. The judged class is class 1, her method 2. -/
namespace start1
open Jvm.ClassFile
def u (s : String) : CpInfo := .utf8 (stringToUtf16 s)
/-- a pool by its gaps: so many unusable entries, then the entry; so many at the end -/
def gap : Nat → List CpInfo → List CpInfo
  | 0, r => r
  | n + 1, r => .unusable :: gap n r
def poolList (es : List (Nat × CpInfo)) (last : Nat) : List CpInfo := es.foldr (fun e r => gap e.1 (e.2 :: r)) (gap last [])
def pool (es : List (Nat × CpInfo)) (last : Nat) : Array CpInfo := ⟨poolList es last⟩
def fileOf (pool : Array CpInfo) (this : Nat) (attrs : Array Attribute := #[]) (ms : Array MethodInfo := #[]) (fl : Nat := 33) (sup : Nat := 0) (ifs : Array Nat := #[]) (fds : Array FieldInfo := #[]) : ClassFile where
  minorVersion := 0
  majorVersion := 65
  constantPool := pool
  accessFlags := fl
  thisClass := this
  superClass := sup
  interfaces := ifs
  fields := fds
  methods := ms
  attributes := attrs
def plain (name : String) (sup : Option ClassId) : Class where
  name := name
  kind := .ordinary
  loader := none
  accessFlags := 33
  super := sup
  interfaces := #[]
  cf := none
  fields := #[]
  methods := #[]
  instanceTypes := #[]
  staticTypes := #[]
  resolved := #[]
  callSites := []
  init := .initialized
  statics := none
  mirror := none

def pool0 : Array CpInfo := pool [(5, u "<init>"), (0, u "()V"), (1, .class_ 10), (1, u "java/lang/Object")] 113

def k0m0 : Method := { name := "<init>", desc := "()V", sig := { parameters := [], returnType := none }, accessFlags := 1, code := none }
/-- java/lang/Object -/
def k0 : Class := { plain "java/lang/Object" none with
  accessFlags := 33
  interfaces := #[]
  cf := some (fileOf pool0 8 #[] #[{ accessFlags := 1, nameIndex := 5, descriptorIndex := 6, attributes := #[] }] 33 0 #[] #[])
  fields := #[]
  methods := #[k0m0]
  instanceTypes := #[]
  staticTypes := #[]
  resolved := Array.replicate 124 none
  statics := none }

def pool1 : Array CpInfo := pool [(2, .class_ 4), (1, u "java/lang/Object"), (0, u "<init>"), (0, u "()V"), (0, .long 18446744073709551615), (1, .class_ 10), (0, u "com/example/bound/bound/format/Record"), (0, .methodref 12 13), (0, .class_ 14), (0, .nameAndType 15 16), (0, u "com/example/bound/bound/format/RecordLargerTimestampPinLaw"), (0, u "expected"), (0, u "(JJ)J"), (0, .methodref 9 18), (0, .nameAndType 19 16), (0, u "largerTimestamp"), (3, u "law"), (0, u "(JJI)Z")] 2

def k1m0 : Method := { name := "<init>", desc := "()V", sig := { parameters := [], returnType := none }, accessFlags := 2, code := none }
def k1c1 : Code := { maxStack := 4, maxLocals := 4, code := method_2_code, exceptionTable := #[], attributes := #[] }
def k1m1 : Method := { name := "expected", desc := "(JJ)J", sig := { parameters := [.long, .long], returnType := some .long }, accessFlags := 10, code := some k1c1 }
def k1c2 : Code := { maxStack := 4, maxLocals := 15, code := code, exceptionTable := #[], attributes := #[] }
def k1m2 : Method := { name := "law", desc := "(JJI)Z", sig := { parameters := [.long, .long, .int], returnType := some .boolean }, accessFlags := 9, code := some k1c2 }
/-- com/example/bound/bound/format/RecordLargerTimestampPinLaw -/
def k1 : Class := { plain "com/example/bound/bound/format/RecordLargerTimestampPinLaw" (some 0) with
  accessFlags := 49
  interfaces := #[]
  cf := some (fileOf pool1 12 #[] #[{ accessFlags := 2, nameIndex := 5, descriptorIndex := 6, attributes := #[] }, { accessFlags := 10, nameIndex := 15, descriptorIndex := 16, attributes := #[] }, { accessFlags := 9, nameIndex := 23, descriptorIndex := 24, attributes := #[] }] 49 2 #[] #[])
  fields := #[]
  methods := #[k1m0, k1m1, k1m2]
  instanceTypes := #[]
  staticTypes := #[]
  resolved := Array.replicate 27 none
  statics := none }

def pool2 : Array CpInfo := pool [(2, .class_ 4), (1, u "java/lang/Object"), (3, .class_ 10), (1, u "com/example/bound/bound/format/Record"), (0, u "offset"), (0, u "J"), (2, u "offsetDelta"), (0, u "I"), (2, u "timestamp"), (2, u "keyLength"), (2, u "valueLength"), (2, u "headerCount"), (0, .long 18446744073709551615), (1, u "NULL_LENGTH"), (2, u "NO_TIMESTAMP"), (3, u "largerTimestamp"), (0, u "(JJ)J")] 5

def k2c0 : Code := { maxStack := 4, maxLocals := 6, code := prog_19_method_2_code, exceptionTable := #[], attributes := #[] }
def k2m0 : Method := { name := "largerTimestamp", desc := "(JJ)J", sig := { parameters := [.long, .long], returnType := some .long }, accessFlags := 9, code := some k2c0 }
/-- com/example/bound/bound/format/Record -/
def k2 : Class := { plain "com/example/bound/bound/format/Record" (some 0) with
  accessFlags := 49
  interfaces := #[]
  cf := some (fileOf pool2 8 #[] #[{ accessFlags := 9, nameIndex := 38, descriptorIndex := 39, attributes := #[] }] 49 2 #[] #[{ accessFlags := 25, nameIndex := 31, descriptorIndex := 16, attributes := #[] }, { accessFlags := 25, nameIndex := 34, descriptorIndex := 12, attributes := #[] }, { accessFlags := 18, nameIndex := 11, descriptorIndex := 12, attributes := #[] }, { accessFlags := 18, nameIndex := 15, descriptorIndex := 16, attributes := #[] }, { accessFlags := 18, nameIndex := 19, descriptorIndex := 12, attributes := #[] }, { accessFlags := 18, nameIndex := 22, descriptorIndex := 16, attributes := #[] }, { accessFlags := 18, nameIndex := 25, descriptorIndex := 16, attributes := #[] }, { accessFlags := 18, nameIndex := 28, descriptorIndex := 16, attributes := #[] }])
  fields := #[{ name := "NULL_LENGTH", type := .int, accessFlags := 25, slot := 0, constantValue := 0 }, { name := "NO_TIMESTAMP", type := .long, accessFlags := 25, slot := 1, constantValue := 0 }, { name := "offset", type := .long, accessFlags := 18, slot := 0, constantValue := 0 }, { name := "offsetDelta", type := .int, accessFlags := 18, slot := 1, constantValue := 0 }, { name := "timestamp", type := .long, accessFlags := 18, slot := 2, constantValue := 0 }, { name := "keyLength", type := .int, accessFlags := 18, slot := 3, constantValue := 0 }, { name := "valueLength", type := .int, accessFlags := 18, slot := 4, constantValue := 0 }, { name := "headerCount", type := .int, accessFlags := 18, slot := 5, constantValue := 0 }]
  methods := #[k2m0]
  instanceTypes := #[.long, .int, .long, .int, .int, .int]
  staticTypes := #[.int, .long]
  resolved := Array.replicate 45 none
  statics := none }

def pool3 : Array CpInfo := pool [(1, u "java/lang/Cloneable"), (0, .class_ 1), (0, u "java/lang/Object"), (0, .class_ 3)] 3

/-- java/lang/Cloneable -/
def k3 : Class := { plain "java/lang/Cloneable" (some 0) with
  accessFlags := 1537
  interfaces := #[]
  cf := some (fileOf pool3 2 #[] #[] 1537 4 #[] #[])
  fields := #[]
  methods := #[]
  instanceTypes := #[]
  staticTypes := #[]
  resolved := Array.replicate 8 none
  statics := none }

def pool4 : Array CpInfo := pool [(1, u "java/io/Serializable"), (0, .class_ 1), (0, u "java/lang/Object"), (0, .class_ 3)] 3

/-- java/io/Serializable -/
def k4 : Class := { plain "java/io/Serializable" (some 0) with
  accessFlags := 1537
  interfaces := #[]
  cf := some (fileOf pool4 2 #[] #[] 1537 4 #[] #[])
  fields := #[]
  methods := #[]
  instanceTypes := #[]
  staticTypes := #[]
  resolved := Array.replicate 8 none
  statics := none }

/-- the primitive byte -/
def k5 : Class := { plain "byte" none with kind := .primitive 'B', accessFlags := 0x411 }
/-- [B -/
def k6 : Class := { plain "[B" (some 0) with kind := .array 5 .byte, interfaces := #[3, 4], accessFlags := 1041 }

def heap : Heap := #[]
def classes : Array Class := #[k0, k1, k2, k3, k4, k5, k6]
def interned : List (Array UInt16 × Addr) := []
def slotsUsed : Nat := 0
def theMethod : MethodId := ⟨1, 2⟩
def args0 : Array Value := #[.long 5, .long 7, .int 3]
def aboutOver (below : List Frame) : State where
  vm := { classes := classes, interned := interned.toArray }
  heap := heap
  slotsUsed := slotsUsed
  threads := #[{ frames := .invoking theMethod args0 :: below }]
def below0 : List Frame := [.native { method := ⟨0, 0⟩, args := #[] }]
def about1 : State := aboutOver below0
def p0 : Program := .bare "" "" ""
def e0 : Env := launch0.env 0 0 0
theorem w_frames : about1.frames = Frame.invoking theMethod args0 :: below0 := rfl
set_option maxRecDepth 65536 in
theorem w_args : argsFit about1.vm theMethod args0 = true := by decide +kernel
set_option maxRecDepth 65536 in
theorem w_heap : heapFits about1 = true := by decide +kernel
set_option maxRecDepth 65536 in
theorem w_runnable : about1.curStatus? = some .runnable := by decide +kernel
set_option maxRecDepth 65536 in
theorem w_alone : about1.alone = true := by decide +kernel
set_option maxRecDepth 65536 in
theorem w_named : about1.methodNamed? x = some theMethod := by decide +kernel
set_option maxRecDepth 65536 in
theorem w_hears : about1.hears theMethod below0 = true := by decide +kernel
set_option maxRecDepth 65536 in
theorem w_ripe : about1.ripe theMethod args0 below0 = true := by decide +kernel
theorem w_running : about1.status = .running := rfl
set_option maxRecDepth 65536 in
theorem w_room : about1.hasRoom e0.platform room_1 = true :=
  launch0.hasRoom_least _ room_1 (by decide +kernel) (by decide +kernel) (by decide +kernel) (by decide +kernel) (by decide +kernel) (by decide +kernel)
theorem allAtoms_all (ts : List Jvm.Cond) (a : Array Jvm.Value) (st : Jvm.State) : (allAtoms ts).before a st = ts.all (fun c => c.before a st) := by
  induction ts with
  | nil => rfl
  | cons c t ih =>
    show (Jvm.Cond.and c (allAtoms t)).before a st = _
    rw [Jvm.Cond.before_and, ih, List.all_cons]
def words1 : List Jvm.Cond := Jvm.Cond.code x code maxLocals ret :: tables_1
/-- a 'code' word, met by the world's own term for the bytes: nothing is compared byte by byte -/
theorem code_word {y : MethodName} {bytes : ByteArray} {mx : Nat} {rt : Option FieldType} {a : Array Value} {s : State} {m : MethodId} {meth : Method} {c : Code} (h1 : s.methodNamed? y = some m) (h2 : s.vm.method? m = some meth) (h3 : meth.code = some c) (h4 : c.code = bytes)
    (h5 : (c.maxLocals == mx && c.exceptionTable.isEmpty && decide (c.maxStack ≤ mostOperands) && decide (meth.sig.returnType = rt) && !meth.locks && decide (parseMethodDescriptor y.desc = some meth.sig)) = true) : (Jvm.Cond.code y bytes mx rt).before a s = true := by
  simp only [Bool.and_eq_true, beq_iff_eq, Bool.not_eq_true', decide_eq_true_eq] at h5
  obtain ⟨⟨⟨⟨⟨g1, g2⟩, g3⟩, g4⟩, g5⟩, g6⟩ := h5
  simp [Cond.before, Cond.holds, Cond.value, h1, h2, h3, h4, g1, g2, g3, g4, g5, g6]
def isCode : Jvm.Cond → Bool
  | .code _ _ _ _ => true
  | _ => false
theorem all_split {L : List Jvm.Cond} {P : Jvm.Cond → Bool} (h1 : L.all (fun c => isCode c || P c) = true) (h2 : ∀ c ∈ L.filter isCode, P c = true) : L.all P = true := by
  refine List.all_eq_true.mpr fun c hc => ?_
  have h := List.all_eq_true.mp h1 c hc
  rcases Bool.eq_false_or_eq_true (isCode c) with hi | hi
  · exact h2 c (List.mem_filter.mpr ⟨hc, hi⟩)
  · simpa [hi] using h
set_option maxRecDepth 65536 in
theorem w_c0 : (Jvm.Cond.code x code maxLocals ret).before args0 about1 = true := code_word (m := ⟨1, 2⟩) (meth := k1m2) (c := k1c2) (by decide +kernel) rfl rfl rfl (by decide +kernel)
set_option maxRecDepth 65536 in
theorem w_c1 : (Jvm.Cond.code ({ cls := "com/example/bound/bound/format/RecordLargerTimestampPinLaw", name := "expected", desc := "(JJ)J" } : Jvm.MethodName) method_2_code (4 : Nat) (Option.some Jvm.ClassFile.FieldType.long)).before args0 about1 = true := code_word (m := ⟨1, 1⟩) (meth := k1m1) (c := k1c1) (by decide +kernel) rfl rfl rfl (by decide +kernel)
set_option maxRecDepth 65536 in
theorem w_c2 : (Jvm.Cond.code ({ cls := "com/example/bound/bound/format/Record", name := "largerTimestamp", desc := "(JJ)J" } : Jvm.MethodName) prog_19_method_2_code (6 : Nat) (Option.some Jvm.ClassFile.FieldType.long)).before args0 about1 = true := code_word (m := ⟨2, 0⟩) (meth := k2m0) (c := k2c0) (by decide +kernel) rfl rfl rfl (by decide +kernel)
def codes1 : List Jvm.Cond := [Jvm.Cond.code x code maxLocals ret, Jvm.Cond.code ({ cls := "com/example/bound/bound/format/RecordLargerTimestampPinLaw", name := "expected", desc := "(JJ)J" } : Jvm.MethodName) method_2_code (4 : Nat) (Option.some Jvm.ClassFile.FieldType.long), Jvm.Cond.code ({ cls := "com/example/bound/bound/format/Record", name := "largerTimestamp", desc := "(JJ)J" } : Jvm.MethodName) prog_19_method_2_code (6 : Nat) (Option.some Jvm.ClassFile.FieldType.long)]
set_option maxRecDepth 65536 in
theorem codes_eq : words1.filter isCode = codes1 := rfl
theorem w_codes : ∀ c ∈ words1.filter isCode, c.before args0 about1 = true := by
  rw [codes_eq]
  intro c hc
  simp only [codes1, List.mem_cons, List.not_mem_nil, or_false] at hc
  rcases hc with rfl | rfl | rfl
  · exact w_c0
  · exact w_c1
  · exact w_c2
set_option maxRecDepth 65536 in
theorem w_t1 : words1.all (fun c => isCode c || c.before args0 about1) = true := by decide +kernel
theorem w_tables : (allAtoms (Jvm.Cond.code x code maxLocals ret :: tables_1)).before args0 about1 = true := by
  rw [allAtoms_all]
  show words1.all (fun c => c.before args0 about1) = true
  refine all_split ?_ w_codes
  rw [w_t1]
set_option maxRecDepth 65536 in
theorem w_case : (Jvm.Cond.and given_1 narrow_1).before args0 about1 = true := by decide +kernel
theorem w_applies : (headSpec (Jvm.Cond.code x code maxLocals ret :: tables_1) room_1).applies x e0.platform about1 = true :=
  (Spec.applies_iff w_frames).mpr ⟨w_running, w_runnable, w_alone, w_named, w_hears, w_ripe, w_room, w_tables⟩
theorem atStart : AtStart classFile x code maxLocals ret World_1 tables_1 room_1 Calls_1 rest_1 Pre_1 launch0 p0 e0 about1 theMethod args0 below0 :=
  ⟨lists_1, trivial, launch0.admits_env _ _ _, launch0.least_env, fairChoices_fair.cas, fairChoices_fair.clock, w_frames, w_args, w_heap, w_applies, trivial, trivial, w_case⟩
end start1
theorem witness_1 : WitnessClaimed_1 := ⟨start1.p0, start1.e0, start1.about1, start1.theMethod, start1.args0, start1.below0, start1.atStart⟩
end Jvm.Pilot.@@N@@
