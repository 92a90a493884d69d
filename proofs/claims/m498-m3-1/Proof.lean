import JvmDerived
import JvmDerived.Pilot.@@N@@Statement
import JvmDerived.Pilot.@@N@@Code
set_option linter.unusedVariables false
set_option linter.unusedSimpArgs false
@@BLOCK:NumsL.lean.txt@@
namespace Jvm.RoadKit
open Sem ClassFile Op Lib Jvm.Stand Jvm.Free Jvm.LawKit
section New
variable {p : Program} {l : Launch} {e : Env} {R : Room} {s : State} {m : MethodId} {args : Array Value} {below : List Frame} {meth : Method} {c : Code} {T : State} {locs : List Loc} {cells slots : Nat}
theorem retI (X : Stand p l e R s m args below meth c T locs cells slots) (hx : p.tables.exec = Jvm.exec) {pc : Nat} {Ls : Array Slot} {z : Int32} {rest : List Value} (hret : meth.sig.returnType = some .int) (hd : decode c.code pc = .ok (.ireturn, 1)) {fs : List Frame}
    (hl : ∀ (f : JFrame) (acts : List Action), f.method = m → f.locked = none → f.entered = [] → (doReturn e (T.setTop f) acts (some (.int z))).1 = T.setFrames fs) : Steps p.tables e below (T.setTop (mkF m pc Ls (.int z :: rest))) (T.setFrames fs) := by
  have hm' : T.vm.method? m = some meth := X.method'
  have hn : narrow .int (.int z) = .int z := rfl
  show Steps p.tables e below (T.setTop { method := m, pc := pc, locals := Ls, stack := _ :: rest, locked := none }) _
  jvm_step X.here [X.here.top, hx, hd, hm', hret, hn]
  first | (intro acts; rw [hl _ acts rfl rfl rfl]) | rw [hl _ _ rfl rfl rfl]
  exact Steps.refl _
end New
end Jvm.RoadKit
namespace Jvm.Pilot.@@N@@
open Jvm Jvm.ClassFile Sem Op Lib Jvm.Free Jvm.Stand Jvm.LawKit Jvm.RoadKit Bundle Jvm.Pilot.@@N@@.Jvm.D
section Own
variable {p : Program} {l : Launch} {e : Env} {R : Room} {s : State} {m : MethodId} {args : Array Value} {below : List Frame} {meth : Method} {c : Code} {T : State} {locs : List Loc} {cells slots : Nat}
/-- the run goes on from S to its end, and P holds there -/
def own_Goes (tb : Tables) (e : Env) (below : List Frame) (S : State) (P : State → Outcome → Prop) : Prop :=
  ∃ s₂ o, Steps tb e below S s₂ ∧ s₂.status = .running ∧ Ended s₂ below o ∧ P s₂ o
theorem own_step {tb : Tables} {S S' : State} {P : State → Outcome → Prop} (h : ∀ t, Steps tb e below S' t → Steps tb e below S t) (k : own_Goes tb e below S' P) : own_Goes tb e below S P := by
  obtain ⟨s₂, o, h1, h2⟩ := k
  exact ⟨s₂, o, h _ h1, h2⟩
theorem own_enter {tb : Tables} {g g' : JFrame} {P : State → Outcome → Prop} (q : g = g') (k : own_Goes tb e below (T.setTop g') P) : own_Goes tb e below (T.setTop g) P := q ▸ k
def own_P (s : State) (Q : Option Value → Heap → List Loc → Prop) (C K : Nat) : State → Outcome → Prop := fun U o => ∃ v L, o = .returned v ∧ Q v U.heap L ∧ FrameEnd s o U L C K
/-- a body that writes nothing -/
def own_Qp (w : Option Value) (h0 : Heap) (v : Option Value) (h : Heap) (L : List Loc) : Prop := v = w ∧ L = [] ∧ h = h0
/-- a body that makes cells and writes none that stood before -/
def own_Qa (w : Option Value) (h0 : Heap) (n0 : Nat) (v : Option Value) (h : Heap) (L : List Loc) : Prop := v = w ∧ Fr n0 L ∧ Keep h0 h []
/-- the law -/
def own_Ql (w : Option Value) (n0 : Nat) (v : Option Value) (h : Heap) (L : List Loc) : Prop := v = w ∧ Fr n0 L
variable {Q : Option Value → Heap → List Loc → Prop} {C K : Nat}
theorem own_retI (X : Stand p l e R s m args below meth c T locs cells slots) (hx : p.tables.exec = Jvm.exec) {pc : Nat} {Ls : Array Slot} {z : Int32} {rest : List Value} (hret : meth.sig.returnType = some .int) (hd : decode c.code pc = .ok (.ireturn, 1)) (hk : meth.locks = false)
    (hQ : Q (some (.int z)) T.heap locs) (hc : cells ≤ C) (hs : slots ≤ K) : own_Goes p.tables e below (T.setTop (mkF m pc Ls (.int z :: rest))) (own_P s Q C K) := by
  obtain ⟨fs, hr, hrun, hended, hW, hsame⟩ := X.leave (v := some (.int z)) (fun h => by rw [hret] at h; cases h) hk
  exact ⟨_, _, retI X hx hret hd hr, hrun, hended, _, _, rfl, hQ, ⟨_, rfl⟩, hW, hsame.mono hc hs⟩
theorem own_retN (X : Stand p l e R s m args below meth c T locs cells slots) (hx : p.tables.exec = Jvm.exec) {pc : Nat} {Ls : Array Slot} {z : Int32} {t : FieldType} {rest : List Value} (hret : meth.sig.returnType = some t) (ht : t = .boolean ∨ t = .byte ∨ t = .char ∨ t = .short) (hd : decode c.code pc = .ok (.ireturn, 1)) (hk : meth.locks = false)
    {w : Int32} (hw : nar t z = w) (hQ : Q (some (.int w)) T.heap locs) (hc : cells ≤ C) (hs : slots ≤ K) : own_Goes p.tables e below (T.setTop (mkF m pc Ls (.int z :: rest))) (own_P s Q C K) := by
  subst hw
  obtain ⟨fs, hr, hrun, hended, hW, hsame⟩ := X.leave (v := some (.int (nar t z))) (fun h => by rw [hret] at h; cases h) hk
  exact ⟨_, _, retN X hx hret ht hd hr, hrun, hended, _, _, rfl, hQ, ⟨_, rfl⟩, hW, hsame.mono hc hs⟩
theorem own_retJ (X : Stand p l e R s m args below meth c T locs cells slots) (hx : p.tables.exec = Jvm.exec) {pc : Nat} {Ls : Array Slot} {z : Int64} (hret : meth.sig.returnType = some .long) (hd : decode c.code pc = .ok (.lreturn, 1)) (hk : meth.locks = false)
    (hQ : Q (some (.long z)) T.heap locs) (hc : cells ≤ C) (hs : slots ≤ K) : own_Goes p.tables e below (T.setTop (mkF m pc Ls [.long z])) (own_P s Q C K) := by
  obtain ⟨fs, hr, hrun, hended, hW, hsame⟩ := X.leave (v := some (.long z)) (fun h => by rw [hret] at h; cases h) hk
  exact ⟨_, _, X.lreturnOut hx hret hd hr, hrun, hended, _, _, rfl, hQ, ⟨_, rfl⟩, hW, hsame.mono hc hs⟩
theorem own_retV (X : Stand p l e R s m args below meth c T locs cells slots) (hx : p.tables.exec = Jvm.exec) {pc : Nat} {Ls : Array Slot} (hret : meth.sig.returnType = none) (hd : decode c.code pc = .ok (.return_, 1)) (hk : meth.locks = false)
    (hQ : Q none T.heap locs) (hc : cells ≤ C) (hs : slots ≤ K) : own_Goes p.tables e below (T.setTop (mkF m pc Ls [])) (own_P s Q C K) := by
  obtain ⟨fs, hr, hrun, hended, hW, hsame⟩ := X.leave (v := none) (fun _ => rfl) hk
  exact ⟨_, _, X.returnOut hx hret hd hr, hrun, hended, _, _, rfl, hQ, ⟨_, rfl⟩, hW, hsame.mono hc hs⟩
theorem own_flat (X : Stand p l e R s m args below meth c T (locs ++ []) (cells + 0) (slots + 0)) : Stand p l e R s m args below meth c T locs cells slots := List.append_nil locs ▸ X
end Own

theorem d1_0 : decode method_2_code 0 = .ok (.lload_n 0, 1) := by decide +kernel
theorem d1_1 : decode method_2_code 1 = .ok (.bipush 8, 2) := by decide +kernel
theorem d1_3 : decode method_2_code 3 = .ok (.iload 5, 2) := by decide +kernel
theorem d1_5 : decode method_2_code 5 = .ok (.imul, 1) := by decide +kernel
theorem d1_6 : decode method_2_code 6 = .ok (.lushr, 1) := by decide +kernel
theorem d1_7 : decode method_2_code 7 = .ok (.ldc2_w 7, 3) := by decide +kernel
theorem d1_10 : decode method_2_code 10 = .ok (.land, 1) := by decide +kernel
theorem d1_11 : decode method_2_code 11 = .ok (.l2i, 1) := by decide +kernel
theorem d1_12 : decode method_2_code 12 = .ok (.istore 6, 2) := by decide +kernel
theorem d1_14 : decode method_2_code 14 = .ok (.lload_n 2, 1) := by decide +kernel
theorem d1_15 : decode method_2_code 15 = .ok (.iload 5, 2) := by decide +kernel
theorem d1_17 : decode method_2_code 17 = .ok (.lushr, 1) := by decide +kernel
theorem d1_18 : decode method_2_code 18 = .ok (.lconst 1, 1) := by decide +kernel
theorem d1_19 : decode method_2_code 19 = .ok (.land, 1) := by decide +kernel
theorem d1_20 : decode method_2_code 20 = .ok (.lconst 0, 1) := by decide +kernel
theorem d1_21 : decode method_2_code 21 = .ok (.lcmp, 1) := by decide +kernel
theorem d1_22 : decode method_2_code 22 = .ok (.ifCond .eq 16, 3) := by decide +kernel
theorem d1_25 : decode method_2_code 25 = .ok (.bipush 48, 2) := by decide +kernel
theorem d1_27 : decode method_2_code 27 = .ok (.iload 6, 2) := by decide +kernel
theorem d1_29 : decode method_2_code 29 = .ok (.bipush 10, 2) := by decide +kernel
theorem d1_31 : decode method_2_code 31 = .ok (.irem, 1) := by decide +kernel
theorem d1_32 : decode method_2_code 32 = .ok (.iadd, 1) := by decide +kernel
theorem d1_33 : decode method_2_code 33 = .ok (.istore 7, 2) := by decide +kernel
theorem d1_35 : decode method_2_code 35 = .ok (.goto 27, 3) := by decide +kernel
theorem d1_38 : decode method_2_code 38 = .ok (.iload 4, 2) := by decide +kernel
theorem d1_40 : decode method_2_code 40 = .ok (.iconst 1, 1) := by decide +kernel
theorem d1_41 : decode method_2_code 41 = .ok (.iand, 1) := by decide +kernel
theorem d1_42 : decode method_2_code 42 = .ok (.ifCond .eq 16, 3) := by decide +kernel
theorem d1_45 : decode method_2_code 45 = .ok (.bipush 40, 2) := by decide +kernel
theorem d1_47 : decode method_2_code 47 = .ok (.iload 6, 2) := by decide +kernel
theorem d1_49 : decode method_2_code 49 = .ok (.bipush 31, 2) := by decide +kernel
theorem d1_51 : decode method_2_code 51 = .ok (.iand, 1) := by decide +kernel
theorem d1_52 : decode method_2_code 52 = .ok (.iadd, 1) := by decide +kernel
theorem d1_53 : decode method_2_code 53 = .ok (.istore 7, 2) := by decide +kernel
theorem d1_55 : decode method_2_code 55 = .ok (.goto 7, 3) := by decide +kernel
theorem d1_58 : decode method_2_code 58 = .ok (.iload 6, 2) := by decide +kernel
theorem d1_60 : decode method_2_code 60 = .ok (.istore 7, 2) := by decide +kernel
theorem d1_62 : decode method_2_code 62 = .ok (.iload 7, 2) := by decide +kernel
theorem d1_64 : decode method_2_code 64 = .ok (.i2l, 1) := by decide +kernel
theorem d1_65 : decode method_2_code 65 = .ok (.bipush 8, 2) := by decide +kernel
theorem d1_67 : decode method_2_code 67 = .ok (.iload 5, 2) := by decide +kernel
theorem d1_69 : decode method_2_code 69 = .ok (.imul, 1) := by decide +kernel
theorem d1_70 : decode method_2_code 70 = .ok (.lshl, 1) := by decide +kernel
theorem d1_71 : decode method_2_code 71 = .ok (.lreturn, 1) := by decide +kernel
theorem pn_1 : plainName "com/example/kolektyv/kolektyv/records/BytesIsDigitsPinLaw" = true := by first | (simp [plainName, overriddenIn]; done) | decide +kernel
theorem ef_1 (m : MethodId) (q0 : Int64) (q1 : Int64) (p2 : Int32) (p3 : Int32) : entryFrame m #[(.long q0), (.long q1), (.int p2), (.int p3)] 8 = mkF m 0 #[.val (.long q0), .second, .val (.long q1), .second, .val (.int p2), .val (.int p3), .unset, .unset] [] := by first | (simp [entryFrame, mkF, argsToLocals, Value.category]; done) | rfl
def own_f1_62 (p3 : Int32) (v62_l7 : Int32) : Int64 :=
  ((v62_l7.toInt64) <<< (((8 : Int32) * p3) &&& 0x3f).toInt64)
def own_f1 (q0 : Int64) (q1 : Int64) (p2 : Int32) (p3 : Int32) : Int64 :=
  let z12 : Int32 := ((((q0.toUInt64 >>> (((8 : Int32) * p3) &&& 0x3f).toInt64.toUInt64).toInt64) &&& (255 : Int64)).toInt32)
  if (((q1.toUInt64 >>> (p3 &&& 0x3f).toInt64.toUInt64).toInt64) &&& (1 : Int64)) = (0 : Int64) then
    if (p2 &&& (1 : Int32)) = 0 then
      (own_f1_62 p3 z12)
    else
      (own_f1_62 p3 ((40 : Int32) + (z12 &&& (31 : Int32))))
  else
    let z33 : Int32 := ((48 : Int32) + (z12 - z12 / (10 : Int32) * (10 : Int32)))
    (own_f1_62 p3 z33)
abbrev own_room1 : Room := { frames := 0, cells := 0, slots := 0, locals := 0 }
set_option maxRecDepth 65536 in
set_option maxHeartbeats 40000000 in
theorem rm1 (l : Launch) (Z : State) (a0 : Array Value) (hw : ∀ d ∈ tables_1, d.before a0 Z = true) (ws : List Jvm.Cond) (q0 : Int64) (q1 : Int64) (p2 : Int32) (p3 : Int32) (h0 : Heap) (n0 : Nat) (Z0 : n0 ≤ h0.size) :
    MetFree l (⟨"com/example/kolektyv/kolektyv/records/BytesIsDigitsPinLaw", "makeByte", "(JJII)J"⟩ : MethodName) (head1 (Jvm.Cond.code (⟨"com/example/kolektyv/kolektyv/records/BytesIsDigitsPinLaw", "makeByte", "(JJII)J"⟩ : MethodName) method_2_code 8 (some .long) :: ws) own_room1) (fun a U => a = #[(.long q0), (.long q1), (.int p2), (.int p3)] ∧ Z.Warmed39 U.vm ∧ U.heap = h0) (fun _ _ _ _ _ => True) (fun _ U o U' => ∃ v L, o = .returned v ∧ own_Qp (some (.long (own_f1 q0 q1 p2 p3))) h0 v U'.heap L ∧ FrameEnd U o U' L own_room1.cells own_room1.slots) := by
  refine MetFree.of_bodySF (plainFor_of_name pn_1) hisR ?_
  intro p e s m args below meth c s₁ Bd hml0 hP hK
  obtain ⟨rfl, hZ, hh⟩ := hP
  have hx := Bd.exec
  have hby := Bd.bytes
  have hml : c.maxLocals = 8 := hml0
  have hown : s.vm.findClass "com/example/kolektyv/kolektyv/records/BytesIsDigitsPinLaw" = some m.cls := findClass_of_methodNamed Bd.named
  have hnm := (name_of_methodNamed Bd.named Bd.method).1
  have X0 : Stand p l e own_room1 s m #[(.long q0), (.long q1), (.int p2), (.int p3)] below meth c s₁ [] 0 0 := Stand.of_body Bd
  have e0 : s₁.heap = h0 := by rw [← hh, Bd.state]; rfl
  have N0 := Fr.nil n0
  refine own_enter (ef_1 m q0 q1 p2 p3) ?_
  show own_Goes p.tables e below (s₁.setTop (mkF m 0 #[.val (.long q0), .second, .val (.long q1), .second, .val (.int p2), .val (.int p3), .unset, .unset] [])) (own_P s (own_Qp (some (.long (own_f1 q0 q1 p2 p3))) h0) own_room1.cells own_room1.slots)
  refine own_step (fun _ => XS.lloadN X0.here hx rfl (hb hby d1_0) rfl) ?_
  show own_Goes p.tables e below (s₁.setTop (mkF m 1 #[.val (.long q0), .second, .val (.long q1), .second, .val (.int p2), .val (.int p3), .unset, .unset] [(.long q0)])) _
  refine own_step (fun _ => XS.bipush X0.here hx rfl (hb hby d1_1)) ?_
  show own_Goes p.tables e below (s₁.setTop (mkF m 3 #[.val (.long q0), .second, .val (.long q1), .second, .val (.int p2), .val (.int p3), .unset, .unset] [(.int (8 : Int32)), (.long q0)])) _
  refine own_step (fun _ => XS.iload X0.here hx rfl (hb hby d1_3) rfl) ?_
  show own_Goes p.tables e below (s₁.setTop (mkF m 5 #[.val (.long q0), .second, .val (.long q1), .second, .val (.int p2), .val (.int p3), .unset, .unset] [(.int p3), (.int (8 : Int32)), (.long q0)])) _
  refine own_step (fun _ => XS.imul X0.here hx rfl (hb hby d1_5) rfl) ?_
  show own_Goes p.tables e below (s₁.setTop (mkF m 6 #[.val (.long q0), .second, .val (.long q1), .second, .val (.int p2), .val (.int p3), .unset, .unset] [(.int ((8 : Int32) * p3)), (.long q0)])) _
  refine own_step (fun _ => XS.lushr X0.here hx rfl (hb hby d1_6) rfl) ?_
  show own_Goes p.tables e below (s₁.setTop (mkF m 7 #[.val (.long q0), .second, .val (.long q1), .second, .val (.int p2), .val (.int p3), .unset, .unset] [(.long ((q0.toUInt64 >>> (((8 : Int32) * p3) &&& 0x3f).toInt64.toUInt64).toInt64))])) _
  refine own_step (X0.ldc2Long hx hown (mvT hZ (hw _ (List.mem_of_getElem? (i := 4) rfl))) (g := (mkF m 7 #[.val (.long q0), .second, .val (.long q1), .second, .val (.int p2), .val (.int p3), .unset, .unset] [(.long ((q0.toUInt64 >>> (((8 : Int32) * p3) &&& 0x3f).toInt64.toUInt64).toInt64))])) rfl (hb hby d1_7)) ?_
  show own_Goes p.tables e below (s₁.setTop (mkF m 10 #[.val (.long q0), .second, .val (.long q1), .second, .val (.int p2), .val (.int p3), .unset, .unset] [(.long (255 : Int64)), (.long ((q0.toUInt64 >>> (((8 : Int32) * p3) &&& 0x3f).toInt64.toUInt64).toInt64))])) _
  refine own_step (fun _ => XS.land X0.here hx rfl (hb hby d1_10) rfl) ?_
  show own_Goes p.tables e below (s₁.setTop (mkF m 11 #[.val (.long q0), .second, .val (.long q1), .second, .val (.int p2), .val (.int p3), .unset, .unset] [(.long (((q0.toUInt64 >>> (((8 : Int32) * p3) &&& 0x3f).toInt64.toUInt64).toInt64) &&& (255 : Int64)))])) _
  refine own_step (fun _ => XS.l2i X0.here hx rfl (hb hby d1_11) rfl) ?_
  show own_Goes p.tables e below (s₁.setTop (mkF m 12 #[.val (.long q0), .second, .val (.long q1), .second, .val (.int p2), .val (.int p3), .unset, .unset] [(.int ((((q0.toUInt64 >>> (((8 : Int32) * p3) &&& 0x3f).toInt64.toUInt64).toInt64) &&& (255 : Int64)).toInt32))])) _
  obtain ⟨z12, hz12⟩ : ∃ z : Int32, z = ((((q0.toUInt64 >>> (((8 : Int32) * p3) &&& 0x3f).toInt64.toUInt64).toInt64) &&& (255 : Int64)).toInt32) := ⟨_, rfl⟩
  refine own_step (fun _ => XS.istore X0.here hx rfl (hb hby d1_12) rfl (l' := #[.val (.long q0), .second, .val (.long q1), .second, .val (.int p2), .val (.int p3), .val (.int z12), .unset]) (by subst hz12; rfl)) ?_
  show own_Goes p.tables e below (s₁.setTop (mkF m 14 #[.val (.long q0), .second, .val (.long q1), .second, .val (.int p2), .val (.int p3), .val (.int z12), .unset] [])) _
  refine own_step (fun _ => XS.lloadN X0.here hx rfl (hb hby d1_14) rfl) ?_
  show own_Goes p.tables e below (s₁.setTop (mkF m 15 #[.val (.long q0), .second, .val (.long q1), .second, .val (.int p2), .val (.int p3), .val (.int z12), .unset] [(.long q1)])) _
  refine own_step (fun _ => XS.iload X0.here hx rfl (hb hby d1_15) rfl) ?_
  show own_Goes p.tables e below (s₁.setTop (mkF m 17 #[.val (.long q0), .second, .val (.long q1), .second, .val (.int p2), .val (.int p3), .val (.int z12), .unset] [(.int p3), (.long q1)])) _
  refine own_step (fun _ => XS.lushr X0.here hx rfl (hb hby d1_17) rfl) ?_
  show own_Goes p.tables e below (s₁.setTop (mkF m 18 #[.val (.long q0), .second, .val (.long q1), .second, .val (.int p2), .val (.int p3), .val (.int z12), .unset] [(.long ((q1.toUInt64 >>> (p3 &&& 0x3f).toInt64.toUInt64).toInt64))])) _
  refine own_step (fun _ => XS.lconst X0.here hx rfl (hb hby d1_18)) ?_
  show own_Goes p.tables e below (s₁.setTop (mkF m 19 #[.val (.long q0), .second, .val (.long q1), .second, .val (.int p2), .val (.int p3), .val (.int z12), .unset] [(.long (1 : Int64)), (.long ((q1.toUInt64 >>> (p3 &&& 0x3f).toInt64.toUInt64).toInt64))])) _
  refine own_step (fun _ => XS.land X0.here hx rfl (hb hby d1_19) rfl) ?_
  show own_Goes p.tables e below (s₁.setTop (mkF m 20 #[.val (.long q0), .second, .val (.long q1), .second, .val (.int p2), .val (.int p3), .val (.int z12), .unset] [(.long (((q1.toUInt64 >>> (p3 &&& 0x3f).toInt64.toUInt64).toInt64) &&& (1 : Int64)))])) _
  refine own_step (fun _ => XS.lconst X0.here hx rfl (hb hby d1_20)) ?_
  show own_Goes p.tables e below (s₁.setTop (mkF m 21 #[.val (.long q0), .second, .val (.long q1), .second, .val (.int p2), .val (.int p3), .val (.int z12), .unset] [(.long (0 : Int64)), (.long (((q1.toUInt64 >>> (p3 &&& 0x3f).toInt64.toUInt64).toInt64) &&& (1 : Int64)))])) _
  refine own_step (fun _ => Jvm.Free.XT.lcmp X0.here hx rfl (hb hby d1_21) rfl) ?_
  show own_Goes p.tables e below (s₁.setTop (mkF m 22 #[.val (.long q0), .second, .val (.long q1), .second, .val (.int p2), .val (.int p3), .val (.int z12), .unset] [(.int (Jvm.Free.XT.cmpL (((q1.toUInt64 >>> (p3 &&& 0x3f).toInt64.toUInt64).toInt64) &&& (1 : Int64)) (0 : Int64)))])) _
  have J62 : ∀ (T_62 : State) (X_62 : Stand p l e own_room1 s m #[(.long q0), (.long q1), (.int p2), (.int p3)] below meth c T_62 [] 0 0) (e_62 : T_62.heap = h0) (v62_l7 : Int32), own_Goes p.tables e below (T_62.setTop (mkF m 62 #[.val (.long q0), .second, .val (.long q1), .second, .val (.int p2), .val (.int p3), .val (.int z12), .val (.int v62_l7)] [])) (own_P s (own_Qp (some (.long (own_f1_62 p3 v62_l7))) h0) own_room1.cells own_room1.slots) := by
    intro T_62 X_62 e_62 v62_l7
    refine own_step (fun _ => XS.iload X_62.here hx rfl (hb hby d1_62) rfl) ?_
    show own_Goes p.tables e below (T_62.setTop (mkF m 64 #[.val (.long q0), .second, .val (.long q1), .second, .val (.int p2), .val (.int p3), .val (.int z12), .val (.int v62_l7)] [(.int v62_l7)])) _
    refine own_step (fun _ => XS.i2l X_62.here hx rfl (hb hby d1_64) rfl) ?_
    show own_Goes p.tables e below (T_62.setTop (mkF m 65 #[.val (.long q0), .second, .val (.long q1), .second, .val (.int p2), .val (.int p3), .val (.int z12), .val (.int v62_l7)] [(.long (v62_l7.toInt64))])) _
    refine own_step (fun _ => XS.bipush X_62.here hx rfl (hb hby d1_65)) ?_
    show own_Goes p.tables e below (T_62.setTop (mkF m 67 #[.val (.long q0), .second, .val (.long q1), .second, .val (.int p2), .val (.int p3), .val (.int z12), .val (.int v62_l7)] [(.int (8 : Int32)), (.long (v62_l7.toInt64))])) _
    refine own_step (fun _ => XS.iload X_62.here hx rfl (hb hby d1_67) rfl) ?_
    show own_Goes p.tables e below (T_62.setTop (mkF m 69 #[.val (.long q0), .second, .val (.long q1), .second, .val (.int p2), .val (.int p3), .val (.int z12), .val (.int v62_l7)] [(.int p3), (.int (8 : Int32)), (.long (v62_l7.toInt64))])) _
    refine own_step (fun _ => XS.imul X_62.here hx rfl (hb hby d1_69) rfl) ?_
    show own_Goes p.tables e below (T_62.setTop (mkF m 70 #[.val (.long q0), .second, .val (.long q1), .second, .val (.int p2), .val (.int p3), .val (.int z12), .val (.int v62_l7)] [(.int ((8 : Int32) * p3)), (.long (v62_l7.toInt64))])) _
    refine own_step (fun _ => XS.lshl X_62.here hx rfl (hb hby d1_70) rfl) ?_
    show own_Goes p.tables e below (T_62.setTop (mkF m 71 #[.val (.long q0), .second, .val (.long q1), .second, .val (.int p2), .val (.int p3), .val (.int z12), .val (.int v62_l7)] [(.long ((v62_l7.toInt64) <<< (((8 : Int32) * p3) &&& 0x3f).toInt64))])) _
    have hv : (own_f1_62 p3 v62_l7) = ((v62_l7.toInt64) <<< (((8 : Int32) * p3) &&& 0x3f).toInt64) := by exact rfl
    rw [hv]
    exact own_retJ X_62 hx Bd.returns (hb hby d1_71) (BodyLoose.notSynchronized Bd) ⟨rfl, rfl, e_62⟩ (by decide) (by decide)
  by_cases hc22 : (((q1.toUInt64 >>> (p3 &&& 0x3f).toInt64.toUInt64).toInt64) &&& (1 : Int64)) = (0 : Int64)
  · refine own_step (fun _ => XS.ifYes X0.here hx rfl (pc0 := 22) (pc' := 38) rfl (hb hby d1_22) rfl (Jvm.Free.XT.ll_eq_t hc22) (by decide) (by decide)) ?_
    show own_Goes p.tables e below (s₁.setTop (mkF m 38 #[.val (.long q0), .second, .val (.long q1), .second, .val (.int p2), .val (.int p3), .val (.int z12), .unset] [])) _
    refine own_step (fun _ => XS.iload X0.here hx rfl (hb hby d1_38) rfl) ?_
    show own_Goes p.tables e below (s₁.setTop (mkF m 40 #[.val (.long q0), .second, .val (.long q1), .second, .val (.int p2), .val (.int p3), .val (.int z12), .unset] [(.int p2)])) _
    refine own_step (fun _ => XS.iconst X0.here hx rfl (hb hby d1_40)) ?_
    show own_Goes p.tables e below (s₁.setTop (mkF m 41 #[.val (.long q0), .second, .val (.long q1), .second, .val (.int p2), .val (.int p3), .val (.int z12), .unset] [(.int (1 : Int32)), (.int p2)])) _
    refine own_step (fun _ => XS.iand X0.here hx rfl (hb hby d1_41) rfl) ?_
    show own_Goes p.tables e below (s₁.setTop (mkF m 42 #[.val (.long q0), .second, .val (.long q1), .second, .val (.int p2), .val (.int p3), .val (.int z12), .unset] [(.int (p2 &&& (1 : Int32)))])) _
    by_cases hc42 : (p2 &&& (1 : Int32)) = 0
    · refine own_step (fun _ => XS.ifYes X0.here hx rfl (pc0 := 42) (pc' := 58) rfl (hb hby d1_42) rfl (Jvm.Free.XT.i0_eq_t hc42) (by decide) (by decide)) ?_
      show own_Goes p.tables e below (s₁.setTop (mkF m 58 #[.val (.long q0), .second, .val (.long q1), .second, .val (.int p2), .val (.int p3), .val (.int z12), .unset] [])) _
      refine own_step (fun _ => XS.iload X0.here hx rfl (hb hby d1_58) rfl) ?_
      show own_Goes p.tables e below (s₁.setTop (mkF m 60 #[.val (.long q0), .second, .val (.long q1), .second, .val (.int p2), .val (.int p3), .val (.int z12), .unset] [(.int z12)])) _
      refine own_step (fun _ => XS.istore X0.here hx rfl (hb hby d1_60) rfl (l' := #[.val (.long q0), .second, .val (.long q1), .second, .val (.int p2), .val (.int p3), .val (.int z12), .val (.int z12)]) rfl) ?_
      show own_Goes p.tables e below (s₁.setTop (mkF m 62 #[.val (.long q0), .second, .val (.long q1), .second, .val (.int p2), .val (.int p3), .val (.int z12), .val (.int z12)] [])) _
      have hv : (own_f1 q0 q1 p2 p3) = (own_f1_62 p3 z12) := by subst hz12; exact ((if_pos hc22)).trans (if_pos hc42)
      rw [hv]
      exact J62 s₁ X0 e0 z12
    · refine own_step (fun _ => XS.ifNo X0.here hx rfl (hb hby d1_42) rfl (Jvm.Free.XT.i0_eq_f hc42)) ?_
      show own_Goes p.tables e below (s₁.setTop (mkF m 45 #[.val (.long q0), .second, .val (.long q1), .second, .val (.int p2), .val (.int p3), .val (.int z12), .unset] [])) _
      refine own_step (fun _ => XS.bipush X0.here hx rfl (hb hby d1_45)) ?_
      show own_Goes p.tables e below (s₁.setTop (mkF m 47 #[.val (.long q0), .second, .val (.long q1), .second, .val (.int p2), .val (.int p3), .val (.int z12), .unset] [(.int (40 : Int32))])) _
      refine own_step (fun _ => XS.iload X0.here hx rfl (hb hby d1_47) rfl) ?_
      show own_Goes p.tables e below (s₁.setTop (mkF m 49 #[.val (.long q0), .second, .val (.long q1), .second, .val (.int p2), .val (.int p3), .val (.int z12), .unset] [(.int z12), (.int (40 : Int32))])) _
      refine own_step (fun _ => XS.bipush X0.here hx rfl (hb hby d1_49)) ?_
      show own_Goes p.tables e below (s₁.setTop (mkF m 51 #[.val (.long q0), .second, .val (.long q1), .second, .val (.int p2), .val (.int p3), .val (.int z12), .unset] [(.int (31 : Int32)), (.int z12), (.int (40 : Int32))])) _
      refine own_step (fun _ => XS.iand X0.here hx rfl (hb hby d1_51) rfl) ?_
      show own_Goes p.tables e below (s₁.setTop (mkF m 52 #[.val (.long q0), .second, .val (.long q1), .second, .val (.int p2), .val (.int p3), .val (.int z12), .unset] [(.int (z12 &&& (31 : Int32))), (.int (40 : Int32))])) _
      refine own_step (fun _ => XS.iadd X0.here hx rfl (hb hby d1_52) rfl) ?_
      show own_Goes p.tables e below (s₁.setTop (mkF m 53 #[.val (.long q0), .second, .val (.long q1), .second, .val (.int p2), .val (.int p3), .val (.int z12), .unset] [(.int ((40 : Int32) + (z12 &&& (31 : Int32))))])) _
      refine own_step (fun _ => XS.istore X0.here hx rfl (hb hby d1_53) rfl (l' := #[.val (.long q0), .second, .val (.long q1), .second, .val (.int p2), .val (.int p3), .val (.int z12), .val (.int ((40 : Int32) + (z12 &&& (31 : Int32))))]) rfl) ?_
      show own_Goes p.tables e below (s₁.setTop (mkF m 55 #[.val (.long q0), .second, .val (.long q1), .second, .val (.int p2), .val (.int p3), .val (.int z12), .val (.int ((40 : Int32) + (z12 &&& (31 : Int32))))] [])) _
      refine own_step (fun _ => XS.goto X0.here hx rfl (pc0 := 55) (pc' := 62) rfl (hb hby d1_55) (by decide) (by decide)) ?_
      show own_Goes p.tables e below (s₁.setTop (mkF m 62 #[.val (.long q0), .second, .val (.long q1), .second, .val (.int p2), .val (.int p3), .val (.int z12), .val (.int ((40 : Int32) + (z12 &&& (31 : Int32))))] [])) _
      have hv : (own_f1 q0 q1 p2 p3) = (own_f1_62 p3 ((40 : Int32) + (z12 &&& (31 : Int32)))) := by subst hz12; exact ((if_pos hc22)).trans (if_neg hc42)
      rw [hv]
      exact J62 s₁ X0 e0 ((40 : Int32) + (z12 &&& (31 : Int32)))
  · refine own_step (fun _ => XS.ifNo X0.here hx rfl (hb hby d1_22) rfl (Jvm.Free.XT.ll_eq_f hc22)) ?_
    show own_Goes p.tables e below (s₁.setTop (mkF m 25 #[.val (.long q0), .second, .val (.long q1), .second, .val (.int p2), .val (.int p3), .val (.int z12), .unset] [])) _
    refine own_step (fun _ => XS.bipush X0.here hx rfl (hb hby d1_25)) ?_
    show own_Goes p.tables e below (s₁.setTop (mkF m 27 #[.val (.long q0), .second, .val (.long q1), .second, .val (.int p2), .val (.int p3), .val (.int z12), .unset] [(.int (48 : Int32))])) _
    refine own_step (fun _ => XS.iload X0.here hx rfl (hb hby d1_27) rfl) ?_
    show own_Goes p.tables e below (s₁.setTop (mkF m 29 #[.val (.long q0), .second, .val (.long q1), .second, .val (.int p2), .val (.int p3), .val (.int z12), .unset] [(.int z12), (.int (48 : Int32))])) _
    refine own_step (fun _ => XS.bipush X0.here hx rfl (hb hby d1_29)) ?_
    show own_Goes p.tables e below (s₁.setTop (mkF m 31 #[.val (.long q0), .second, .val (.long q1), .second, .val (.int p2), .val (.int p3), .val (.int z12), .unset] [(.int (10 : Int32)), (.int z12), (.int (48 : Int32))])) _
    refine own_step (fun _ => XS.irem X0.here hx rfl (hb hby d1_31) rfl (by decide)) ?_
    show own_Goes p.tables e below (s₁.setTop (mkF m 32 #[.val (.long q0), .second, .val (.long q1), .second, .val (.int p2), .val (.int p3), .val (.int z12), .unset] [(.int (z12 - z12 / (10 : Int32) * (10 : Int32))), (.int (48 : Int32))])) _
    refine own_step (fun _ => XS.iadd X0.here hx rfl (hb hby d1_32) rfl) ?_
    show own_Goes p.tables e below (s₁.setTop (mkF m 33 #[.val (.long q0), .second, .val (.long q1), .second, .val (.int p2), .val (.int p3), .val (.int z12), .unset] [(.int ((48 : Int32) + (z12 - z12 / (10 : Int32) * (10 : Int32))))])) _
    obtain ⟨z33, hz33⟩ : ∃ z : Int32, z = ((48 : Int32) + (z12 - z12 / (10 : Int32) * (10 : Int32))) := ⟨_, rfl⟩
    refine own_step (fun _ => XS.istore X0.here hx rfl (hb hby d1_33) rfl (l' := #[.val (.long q0), .second, .val (.long q1), .second, .val (.int p2), .val (.int p3), .val (.int z12), .val (.int z33)]) (by subst hz33; rfl)) ?_
    show own_Goes p.tables e below (s₁.setTop (mkF m 35 #[.val (.long q0), .second, .val (.long q1), .second, .val (.int p2), .val (.int p3), .val (.int z12), .val (.int z33)] [])) _
    refine own_step (fun _ => XS.goto X0.here hx rfl (pc0 := 35) (pc' := 62) rfl (hb hby d1_35) (by decide) (by decide)) ?_
    show own_Goes p.tables e below (s₁.setTop (mkF m 62 #[.val (.long q0), .second, .val (.long q1), .second, .val (.int p2), .val (.int p3), .val (.int z12), .val (.int z33)] [])) _
    have hv : (own_f1 q0 q1 p2 p3) = (own_f1_62 p3 z33) := by subst hz33; subst hz12; exact (if_neg hc22)
    rw [hv]
    exact J62 s₁ X0 e0 z33
theorem d2_0 : decode method_3_code 0 = .ok (.lload_n 0, 1) := by decide +kernel
theorem d2_1 : decode method_3_code 1 = .ok (.bipush 8, 2) := by decide +kernel
theorem d2_3 : decode method_3_code 3 = .ok (.iload_n 2, 1) := by decide +kernel
theorem d2_4 : decode method_3_code 4 = .ok (.imul, 1) := by decide +kernel
theorem d2_5 : decode method_3_code 5 = .ok (.lushr, 1) := by decide +kernel
theorem d2_6 : decode method_3_code 6 = .ok (.ldc2_w 7, 3) := by decide +kernel
theorem d2_9 : decode method_3_code 9 = .ok (.land, 1) := by decide +kernel
theorem d2_10 : decode method_3_code 10 = .ok (.l2i, 1) := by decide +kernel
theorem d2_11 : decode method_3_code 11 = .ok (.istore_n 3, 1) := by decide +kernel
theorem d2_12 : decode method_3_code 12 = .ok (.iload_n 3, 1) := by decide +kernel
theorem d2_13 : decode method_3_code 13 = .ok (.bipush 48, 2) := by decide +kernel
theorem d2_15 : decode method_3_code 15 = .ok (.if_icmp .lt 13, 3) := by decide +kernel
theorem d2_18 : decode method_3_code 18 = .ok (.iload_n 3, 1) := by decide +kernel
theorem d2_19 : decode method_3_code 19 = .ok (.bipush 57, 2) := by decide +kernel
theorem d2_21 : decode method_3_code 21 = .ok (.if_icmp .gt 7, 3) := by decide +kernel
theorem d2_24 : decode method_3_code 24 = .ok (.iconst 1, 1) := by decide +kernel
theorem d2_25 : decode method_3_code 25 = .ok (.goto 4, 3) := by decide +kernel
theorem d2_28 : decode method_3_code 28 = .ok (.iconst 0, 1) := by decide +kernel
theorem d2_29 : decode method_3_code 29 = .ok (.ireturn, 1) := by decide +kernel
theorem pn_2 : plainName "com/example/kolektyv/kolektyv/records/BytesIsDigitsPinLaw" = true := by first | (simp [plainName, overriddenIn]; done) | decide +kernel
theorem ef_2 (m : MethodId) (q0 : Int64) (p1 : Int32) : entryFrame m #[(.long q0), (.int p1)] 4 = mkF m 0 #[.val (.long q0), .second, .val (.int p1), .unset] [] := by first | (simp [entryFrame, mkF, argsToLocals, Value.category]; done) | rfl
def own_f2_28 : Int32 :=
  (0 : Int32)
def own_f2 (q0 : Int64) (p1 : Int32) : Int32 :=
  let z11 : Int32 := ((((q0.toUInt64 >>> (((8 : Int32) * p1) &&& 0x3f).toInt64.toUInt64).toInt64) &&& (255 : Int64)).toInt32)
  if z11 < (48 : Int32) then
    (own_f2_28)
  else
    if (57 : Int32) < z11 then
      (own_f2_28)
    else
      (1 : Int32)
abbrev own_room2 : Room := { frames := 0, cells := 0, slots := 0, locals := 0 }
set_option maxRecDepth 65536 in
set_option maxHeartbeats 40000000 in
theorem rm2 (l : Launch) (Z : State) (a0 : Array Value) (hw : ∀ d ∈ tables_1, d.before a0 Z = true) (ws : List Jvm.Cond) (q0 : Int64) (p1 : Int32) (h0 : Heap) (n0 : Nat) (Z0 : n0 ≤ h0.size) :
    MetFree l (⟨"com/example/kolektyv/kolektyv/records/BytesIsDigitsPinLaw", "digitAt", "(JI)Z"⟩ : MethodName) (head1 (Jvm.Cond.code (⟨"com/example/kolektyv/kolektyv/records/BytesIsDigitsPinLaw", "digitAt", "(JI)Z"⟩ : MethodName) method_3_code 4 (some .boolean) :: ws) own_room2) (fun a U => a = #[(.long q0), (.int p1)] ∧ Z.Warmed39 U.vm ∧ U.heap = h0) (fun _ _ _ _ _ => True) (fun _ U o U' => ∃ v L, o = .returned v ∧ own_Qp (some (.int (own_f2 q0 p1))) h0 v U'.heap L ∧ FrameEnd U o U' L own_room2.cells own_room2.slots) := by
  refine MetFree.of_bodySF (plainFor_of_name pn_2) hisR ?_
  intro p e s m args below meth c s₁ Bd hml0 hP hK
  obtain ⟨rfl, hZ, hh⟩ := hP
  have hx := Bd.exec
  have hby := Bd.bytes
  have hml : c.maxLocals = 4 := hml0
  have hown : s.vm.findClass "com/example/kolektyv/kolektyv/records/BytesIsDigitsPinLaw" = some m.cls := findClass_of_methodNamed Bd.named
  have hnm := (name_of_methodNamed Bd.named Bd.method).1
  have X0 : Stand p l e own_room2 s m #[(.long q0), (.int p1)] below meth c s₁ [] 0 0 := Stand.of_body Bd
  have e0 : s₁.heap = h0 := by rw [← hh, Bd.state]; rfl
  have N0 := Fr.nil n0
  refine own_enter (ef_2 m q0 p1) ?_
  show own_Goes p.tables e below (s₁.setTop (mkF m 0 #[.val (.long q0), .second, .val (.int p1), .unset] [])) (own_P s (own_Qp (some (.int (own_f2 q0 p1))) h0) own_room2.cells own_room2.slots)
  refine own_step (fun _ => XS.lloadN X0.here hx rfl (hb hby d2_0) rfl) ?_
  show own_Goes p.tables e below (s₁.setTop (mkF m 1 #[.val (.long q0), .second, .val (.int p1), .unset] [(.long q0)])) _
  refine own_step (fun _ => XS.bipush X0.here hx rfl (hb hby d2_1)) ?_
  show own_Goes p.tables e below (s₁.setTop (mkF m 3 #[.val (.long q0), .second, .val (.int p1), .unset] [(.int (8 : Int32)), (.long q0)])) _
  refine own_step (fun _ => XS.iloadN X0.here hx rfl (hb hby d2_3) rfl) ?_
  show own_Goes p.tables e below (s₁.setTop (mkF m 4 #[.val (.long q0), .second, .val (.int p1), .unset] [(.int p1), (.int (8 : Int32)), (.long q0)])) _
  refine own_step (fun _ => XS.imul X0.here hx rfl (hb hby d2_4) rfl) ?_
  show own_Goes p.tables e below (s₁.setTop (mkF m 5 #[.val (.long q0), .second, .val (.int p1), .unset] [(.int ((8 : Int32) * p1)), (.long q0)])) _
  refine own_step (fun _ => XS.lushr X0.here hx rfl (hb hby d2_5) rfl) ?_
  show own_Goes p.tables e below (s₁.setTop (mkF m 6 #[.val (.long q0), .second, .val (.int p1), .unset] [(.long ((q0.toUInt64 >>> (((8 : Int32) * p1) &&& 0x3f).toInt64.toUInt64).toInt64))])) _
  refine own_step (X0.ldc2Long hx hown (mvT hZ (hw _ (List.mem_of_getElem? (i := 4) rfl))) (g := (mkF m 6 #[.val (.long q0), .second, .val (.int p1), .unset] [(.long ((q0.toUInt64 >>> (((8 : Int32) * p1) &&& 0x3f).toInt64.toUInt64).toInt64))])) rfl (hb hby d2_6)) ?_
  show own_Goes p.tables e below (s₁.setTop (mkF m 9 #[.val (.long q0), .second, .val (.int p1), .unset] [(.long (255 : Int64)), (.long ((q0.toUInt64 >>> (((8 : Int32) * p1) &&& 0x3f).toInt64.toUInt64).toInt64))])) _
  refine own_step (fun _ => XS.land X0.here hx rfl (hb hby d2_9) rfl) ?_
  show own_Goes p.tables e below (s₁.setTop (mkF m 10 #[.val (.long q0), .second, .val (.int p1), .unset] [(.long (((q0.toUInt64 >>> (((8 : Int32) * p1) &&& 0x3f).toInt64.toUInt64).toInt64) &&& (255 : Int64)))])) _
  refine own_step (fun _ => XS.l2i X0.here hx rfl (hb hby d2_10) rfl) ?_
  show own_Goes p.tables e below (s₁.setTop (mkF m 11 #[.val (.long q0), .second, .val (.int p1), .unset] [(.int ((((q0.toUInt64 >>> (((8 : Int32) * p1) &&& 0x3f).toInt64.toUInt64).toInt64) &&& (255 : Int64)).toInt32))])) _
  obtain ⟨z11, hz11⟩ : ∃ z : Int32, z = ((((q0.toUInt64 >>> (((8 : Int32) * p1) &&& 0x3f).toInt64.toUInt64).toInt64) &&& (255 : Int64)).toInt32) := ⟨_, rfl⟩
  refine own_step (fun _ => XS.istoreN X0.here hx rfl (hb hby d2_11) rfl (l' := #[.val (.long q0), .second, .val (.int p1), .val (.int z11)]) (by subst hz11; rfl)) ?_
  show own_Goes p.tables e below (s₁.setTop (mkF m 12 #[.val (.long q0), .second, .val (.int p1), .val (.int z11)] [])) _
  refine own_step (fun _ => XS.iloadN X0.here hx rfl (hb hby d2_12) rfl) ?_
  show own_Goes p.tables e below (s₁.setTop (mkF m 13 #[.val (.long q0), .second, .val (.int p1), .val (.int z11)] [(.int z11)])) _
  refine own_step (fun _ => XS.bipush X0.here hx rfl (hb hby d2_13)) ?_
  show own_Goes p.tables e below (s₁.setTop (mkF m 15 #[.val (.long q0), .second, .val (.int p1), .val (.int z11)] [(.int (48 : Int32)), (.int z11)])) _
  have J28 : ∀ (T_28 : State) (X_28 : Stand p l e own_room2 s m #[(.long q0), (.int p1)] below meth c T_28 [] 0 0) (e_28 : T_28.heap = h0), own_Goes p.tables e below (T_28.setTop (mkF m 28 #[.val (.long q0), .second, .val (.int p1), .val (.int z11)] [])) (own_P s (own_Qp (some (.int (own_f2_28))) h0) own_room2.cells own_room2.slots) := by
    intro T_28 X_28 e_28
    refine own_step (fun _ => XS.iconst X_28.here hx rfl (hb hby d2_28)) ?_
    show own_Goes p.tables e below (T_28.setTop (mkF m 29 #[.val (.long q0), .second, .val (.int p1), .val (.int z11)] [(.int (0 : Int32))])) _
    have hv : (own_f2_28) = (0 : Int32) := by exact rfl
    rw [hv]
    exact own_retN X_28 hx (t := .boolean) Bd.returns (by simp) (hb hby d2_29) (BodyLoose.notSynchronized Bd) (w := (0 : Int32)) rfl ⟨rfl, rfl, e_28⟩ (by decide) (by decide)
  by_cases hc15 : z11 < (48 : Int32)
  · refine own_step (fun _ => XS.icmpYes X0.here hx rfl (pc0 := 15) (pc' := 28) rfl (hb hby d2_15) rfl (Jvm.Free.XT.ii_lt_t hc15) (by decide) (by decide)) ?_
    show own_Goes p.tables e below (s₁.setTop (mkF m 28 #[.val (.long q0), .second, .val (.int p1), .val (.int z11)] [])) _
    have hv : (own_f2 q0 p1) = (own_f2_28) := by subst hz11; exact (if_pos hc15)
    rw [hv]
    exact J28 s₁ X0 e0
  · refine own_step (fun _ => XS.icmpNo X0.here hx rfl (hb hby d2_15) rfl (Jvm.Free.XT.ii_lt_f hc15)) ?_
    show own_Goes p.tables e below (s₁.setTop (mkF m 18 #[.val (.long q0), .second, .val (.int p1), .val (.int z11)] [])) _
    refine own_step (fun _ => XS.iloadN X0.here hx rfl (hb hby d2_18) rfl) ?_
    show own_Goes p.tables e below (s₁.setTop (mkF m 19 #[.val (.long q0), .second, .val (.int p1), .val (.int z11)] [(.int z11)])) _
    refine own_step (fun _ => XS.bipush X0.here hx rfl (hb hby d2_19)) ?_
    show own_Goes p.tables e below (s₁.setTop (mkF m 21 #[.val (.long q0), .second, .val (.int p1), .val (.int z11)] [(.int (57 : Int32)), (.int z11)])) _
    by_cases hc21 : (57 : Int32) < z11
    · refine own_step (fun _ => XS.icmpYes X0.here hx rfl (pc0 := 21) (pc' := 28) rfl (hb hby d2_21) rfl (Jvm.Free.XT.ii_gt_t hc21) (by decide) (by decide)) ?_
      show own_Goes p.tables e below (s₁.setTop (mkF m 28 #[.val (.long q0), .second, .val (.int p1), .val (.int z11)] [])) _
      have hv : (own_f2 q0 p1) = (own_f2_28) := by subst hz11; exact ((if_neg hc15)).trans (if_pos hc21)
      rw [hv]
      exact J28 s₁ X0 e0
    · refine own_step (fun _ => XS.icmpNo X0.here hx rfl (hb hby d2_21) rfl (Jvm.Free.XT.ii_gt_f hc21)) ?_
      show own_Goes p.tables e below (s₁.setTop (mkF m 24 #[.val (.long q0), .second, .val (.int p1), .val (.int z11)] [])) _
      refine own_step (fun _ => XS.iconst X0.here hx rfl (hb hby d2_24)) ?_
      show own_Goes p.tables e below (s₁.setTop (mkF m 25 #[.val (.long q0), .second, .val (.int p1), .val (.int z11)] [(.int (1 : Int32))])) _
      refine own_step (fun _ => XS.goto X0.here hx rfl (pc0 := 25) (pc' := 29) rfl (hb hby d2_25) (by decide) (by decide)) ?_
      show own_Goes p.tables e below (s₁.setTop (mkF m 29 #[.val (.long q0), .second, .val (.int p1), .val (.int z11)] [(.int (1 : Int32))])) _
      have hv : (own_f2 q0 p1) = (1 : Int32) := by subst hz11; exact ((if_neg hc15)).trans (if_neg hc21)
      rw [hv]
      exact own_retN X0 hx (t := .boolean) Bd.returns (by simp) (hb hby d2_29) (BodyLoose.notSynchronized Bd) (w := (1 : Int32)) rfl ⟨rfl, rfl, e0⟩ (by decide) (by decide)
theorem d3_0 : decode prog_16_method_3_code 0 = .ok (.lload_n 0, 1) := by decide +kernel
theorem d3_1 : decode prog_16_method_3_code 1 = .ok (.ldc2_w 19, 3) := by decide +kernel
theorem d3_4 : decode prog_16_method_3_code 4 = .ok (.land, 1) := by decide +kernel
theorem d3_5 : decode prog_16_method_3_code 5 = .ok (.ldc2_w 21, 3) := by decide +kernel
theorem d3_8 : decode prog_16_method_3_code 8 = .ok (.lcmp, 1) := by decide +kernel
theorem d3_9 : decode prog_16_method_3_code 9 = .ok (.ifCond .ne 23, 3) := by decide +kernel
theorem d3_12 : decode prog_16_method_3_code 12 = .ok (.lload_n 0, 1) := by decide +kernel
theorem d3_13 : decode prog_16_method_3_code 13 = .ok (.ldc2_w 23, 3) := by decide +kernel
theorem d3_16 : decode prog_16_method_3_code 16 = .ok (.ladd, 1) := by decide +kernel
theorem d3_17 : decode prog_16_method_3_code 17 = .ok (.ldc2_w 19, 3) := by decide +kernel
theorem d3_20 : decode prog_16_method_3_code 20 = .ok (.land, 1) := by decide +kernel
theorem d3_21 : decode prog_16_method_3_code 21 = .ok (.ldc2_w 21, 3) := by decide +kernel
theorem d3_24 : decode prog_16_method_3_code 24 = .ok (.lcmp, 1) := by decide +kernel
theorem d3_25 : decode prog_16_method_3_code 25 = .ok (.ifCond .ne 7, 3) := by decide +kernel
theorem d3_28 : decode prog_16_method_3_code 28 = .ok (.iconst 1, 1) := by decide +kernel
theorem d3_29 : decode prog_16_method_3_code 29 = .ok (.goto 4, 3) := by decide +kernel
theorem d3_32 : decode prog_16_method_3_code 32 = .ok (.iconst 0, 1) := by decide +kernel
theorem d3_33 : decode prog_16_method_3_code 33 = .ok (.ireturn, 1) := by decide +kernel
theorem pn_3 : plainName "com/example/kolektyv/kolektyv/records/Bytes" = true := by first | (simp [plainName, overriddenIn]; done) | decide +kernel
theorem ef_3 (m : MethodId) (q0 : Int64) : entryFrame m #[(.long q0)] 2 = mkF m 0 #[.val (.long q0), .second] [] := by first | (simp [entryFrame, mkF, argsToLocals, Value.category]; done) | rfl
def own_f3_32 : Int32 :=
  (0 : Int32)
def own_f3 (q0 : Int64) : Int32 :=
  if (q0 &&& (-1085102592571150096 : Int64)) = (3472328296227680304 : Int64) then
    if ((q0 + (434041037028460038 : Int64)) &&& (-1085102592571150096 : Int64)) = (3472328296227680304 : Int64) then
      (1 : Int32)
    else
      (own_f3_32)
  else
    (own_f3_32)
abbrev own_room3 : Room := { frames := 0, cells := 0, slots := 0, locals := 0 }
set_option maxRecDepth 65536 in
set_option maxHeartbeats 40000000 in
theorem rm3 (l : Launch) (Z : State) (a0 : Array Value) (hw : ∀ d ∈ tables_1, d.before a0 Z = true) (ws : List Jvm.Cond) (q0 : Int64) (h0 : Heap) (n0 : Nat) (Z0 : n0 ≤ h0.size) :
    MetFree l (⟨"com/example/kolektyv/kolektyv/records/Bytes", "isDigits", "(J)Z"⟩ : MethodName) (head1 (Jvm.Cond.code (⟨"com/example/kolektyv/kolektyv/records/Bytes", "isDigits", "(J)Z"⟩ : MethodName) prog_16_method_3_code 2 (some .boolean) :: ws) own_room3) (fun a U => a = #[(.long q0)] ∧ Z.Warmed39 U.vm ∧ U.heap = h0) (fun _ _ _ _ _ => True) (fun _ U o U' => ∃ v L, o = .returned v ∧ own_Qp (some (.int (own_f3 q0))) h0 v U'.heap L ∧ FrameEnd U o U' L own_room3.cells own_room3.slots) := by
  refine MetFree.of_bodySF (plainFor_of_name pn_3) hisR ?_
  intro p e s m args below meth c s₁ Bd hml0 hP hK
  obtain ⟨rfl, hZ, hh⟩ := hP
  have hx := Bd.exec
  have hby := Bd.bytes
  have hml : c.maxLocals = 2 := hml0
  have hown : s.vm.findClass "com/example/kolektyv/kolektyv/records/Bytes" = some m.cls := findClass_of_methodNamed Bd.named
  have hnm := (name_of_methodNamed Bd.named Bd.method).1
  have X0 : Stand p l e own_room3 s m #[(.long q0)] below meth c s₁ [] 0 0 := Stand.of_body Bd
  have e0 : s₁.heap = h0 := by rw [← hh, Bd.state]; rfl
  have N0 := Fr.nil n0
  refine own_enter (ef_3 m q0) ?_
  show own_Goes p.tables e below (s₁.setTop (mkF m 0 #[.val (.long q0), .second] [])) (own_P s (own_Qp (some (.int (own_f3 q0))) h0) own_room3.cells own_room3.slots)
  refine own_step (fun _ => XS.lloadN X0.here hx rfl (hb hby d3_0) rfl) ?_
  show own_Goes p.tables e below (s₁.setTop (mkF m 1 #[.val (.long q0), .second] [(.long q0)])) _
  refine own_step (X0.ldc2Long hx hown (mvT hZ (hw _ (List.mem_of_getElem? (i := 12) rfl))) (g := (mkF m 1 #[.val (.long q0), .second] [(.long q0)])) rfl (hb hby d3_1)) ?_
  show own_Goes p.tables e below (s₁.setTop (mkF m 4 #[.val (.long q0), .second] [(.long (-1085102592571150096 : Int64)), (.long q0)])) _
  refine own_step (fun _ => XS.land X0.here hx rfl (hb hby d3_4) rfl) ?_
  show own_Goes p.tables e below (s₁.setTop (mkF m 5 #[.val (.long q0), .second] [(.long (q0 &&& (-1085102592571150096 : Int64)))])) _
  refine own_step (X0.ldc2Long hx hown (mvT hZ (hw _ (List.mem_of_getElem? (i := 13) rfl))) (g := (mkF m 5 #[.val (.long q0), .second] [(.long (q0 &&& (-1085102592571150096 : Int64)))])) rfl (hb hby d3_5)) ?_
  show own_Goes p.tables e below (s₁.setTop (mkF m 8 #[.val (.long q0), .second] [(.long (3472328296227680304 : Int64)), (.long (q0 &&& (-1085102592571150096 : Int64)))])) _
  refine own_step (fun _ => Jvm.Free.XT.lcmp X0.here hx rfl (hb hby d3_8) rfl) ?_
  show own_Goes p.tables e below (s₁.setTop (mkF m 9 #[.val (.long q0), .second] [(.int (Jvm.Free.XT.cmpL (q0 &&& (-1085102592571150096 : Int64)) (3472328296227680304 : Int64)))])) _
  have J32 : ∀ (T_32 : State) (X_32 : Stand p l e own_room3 s m #[(.long q0)] below meth c T_32 [] 0 0) (e_32 : T_32.heap = h0), own_Goes p.tables e below (T_32.setTop (mkF m 32 #[.val (.long q0), .second] [])) (own_P s (own_Qp (some (.int (own_f3_32))) h0) own_room3.cells own_room3.slots) := by
    intro T_32 X_32 e_32
    refine own_step (fun _ => XS.iconst X_32.here hx rfl (hb hby d3_32)) ?_
    show own_Goes p.tables e below (T_32.setTop (mkF m 33 #[.val (.long q0), .second] [(.int (0 : Int32))])) _
    have hv : (own_f3_32) = (0 : Int32) := by exact rfl
    rw [hv]
    exact own_retN X_32 hx (t := .boolean) Bd.returns (by simp) (hb hby d3_33) (BodyLoose.notSynchronized Bd) (w := (0 : Int32)) rfl ⟨rfl, rfl, e_32⟩ (by decide) (by decide)
  by_cases hc9 : (q0 &&& (-1085102592571150096 : Int64)) = (3472328296227680304 : Int64)
  · refine own_step (fun _ => XS.ifNo X0.here hx rfl (hb hby d3_9) rfl (Jvm.Free.XT.ll_ne_f hc9)) ?_
    show own_Goes p.tables e below (s₁.setTop (mkF m 12 #[.val (.long q0), .second] [])) _
    refine own_step (fun _ => XS.lloadN X0.here hx rfl (hb hby d3_12) rfl) ?_
    show own_Goes p.tables e below (s₁.setTop (mkF m 13 #[.val (.long q0), .second] [(.long q0)])) _
    refine own_step (X0.ldc2Long hx hown (mvT hZ (hw _ (List.mem_of_getElem? (i := 14) rfl))) (g := (mkF m 13 #[.val (.long q0), .second] [(.long q0)])) rfl (hb hby d3_13)) ?_
    show own_Goes p.tables e below (s₁.setTop (mkF m 16 #[.val (.long q0), .second] [(.long (434041037028460038 : Int64)), (.long q0)])) _
    refine own_step (fun _ => XS.ladd X0.here hx rfl (hb hby d3_16) rfl) ?_
    show own_Goes p.tables e below (s₁.setTop (mkF m 17 #[.val (.long q0), .second] [(.long (q0 + (434041037028460038 : Int64)))])) _
    refine own_step (X0.ldc2Long hx hown (mvT hZ (hw _ (List.mem_of_getElem? (i := 12) rfl))) (g := (mkF m 17 #[.val (.long q0), .second] [(.long (q0 + (434041037028460038 : Int64)))])) rfl (hb hby d3_17)) ?_
    show own_Goes p.tables e below (s₁.setTop (mkF m 20 #[.val (.long q0), .second] [(.long (-1085102592571150096 : Int64)), (.long (q0 + (434041037028460038 : Int64)))])) _
    refine own_step (fun _ => XS.land X0.here hx rfl (hb hby d3_20) rfl) ?_
    show own_Goes p.tables e below (s₁.setTop (mkF m 21 #[.val (.long q0), .second] [(.long ((q0 + (434041037028460038 : Int64)) &&& (-1085102592571150096 : Int64)))])) _
    refine own_step (X0.ldc2Long hx hown (mvT hZ (hw _ (List.mem_of_getElem? (i := 13) rfl))) (g := (mkF m 21 #[.val (.long q0), .second] [(.long ((q0 + (434041037028460038 : Int64)) &&& (-1085102592571150096 : Int64)))])) rfl (hb hby d3_21)) ?_
    show own_Goes p.tables e below (s₁.setTop (mkF m 24 #[.val (.long q0), .second] [(.long (3472328296227680304 : Int64)), (.long ((q0 + (434041037028460038 : Int64)) &&& (-1085102592571150096 : Int64)))])) _
    refine own_step (fun _ => Jvm.Free.XT.lcmp X0.here hx rfl (hb hby d3_24) rfl) ?_
    show own_Goes p.tables e below (s₁.setTop (mkF m 25 #[.val (.long q0), .second] [(.int (Jvm.Free.XT.cmpL ((q0 + (434041037028460038 : Int64)) &&& (-1085102592571150096 : Int64)) (3472328296227680304 : Int64)))])) _
    by_cases hc25 : ((q0 + (434041037028460038 : Int64)) &&& (-1085102592571150096 : Int64)) = (3472328296227680304 : Int64)
    · refine own_step (fun _ => XS.ifNo X0.here hx rfl (hb hby d3_25) rfl (Jvm.Free.XT.ll_ne_f hc25)) ?_
      show own_Goes p.tables e below (s₁.setTop (mkF m 28 #[.val (.long q0), .second] [])) _
      refine own_step (fun _ => XS.iconst X0.here hx rfl (hb hby d3_28)) ?_
      show own_Goes p.tables e below (s₁.setTop (mkF m 29 #[.val (.long q0), .second] [(.int (1 : Int32))])) _
      refine own_step (fun _ => XS.goto X0.here hx rfl (pc0 := 29) (pc' := 33) rfl (hb hby d3_29) (by decide) (by decide)) ?_
      show own_Goes p.tables e below (s₁.setTop (mkF m 33 #[.val (.long q0), .second] [(.int (1 : Int32))])) _
      have hv : (own_f3 q0) = (1 : Int32) := by exact ((if_pos hc9)).trans (if_pos hc25)
      rw [hv]
      exact own_retN X0 hx (t := .boolean) Bd.returns (by simp) (hb hby d3_33) (BodyLoose.notSynchronized Bd) (w := (1 : Int32)) rfl ⟨rfl, rfl, e0⟩ (by decide) (by decide)
    · refine own_step (fun _ => XS.ifYes X0.here hx rfl (pc0 := 25) (pc' := 32) rfl (hb hby d3_25) rfl (Jvm.Free.XT.ll_ne_t hc25) (by decide) (by decide)) ?_
      show own_Goes p.tables e below (s₁.setTop (mkF m 32 #[.val (.long q0), .second] [])) _
      have hv : (own_f3 q0) = (own_f3_32) := by exact ((if_pos hc9)).trans (if_neg hc25)
      rw [hv]
      exact J32 s₁ X0 e0
  · refine own_step (fun _ => XS.ifYes X0.here hx rfl (pc0 := 9) (pc' := 32) rfl (hb hby d3_9) rfl (Jvm.Free.XT.ll_ne_t hc9) (by decide) (by decide)) ?_
    show own_Goes p.tables e below (s₁.setTop (mkF m 32 #[.val (.long q0), .second] [])) _
    have hv : (own_f3 q0) = (own_f3_32) := by exact (if_neg hc9)
    rw [hv]
    exact J32 s₁ X0 e0
theorem pn_0 : plainName "com/example/kolektyv/kolektyv/records/BytesIsDigitsPinLaw" = true := by first | (simp [plainName, overriddenIn]; done) | decide +kernel
theorem pd_0_0 : parseMethodDescriptor "(JJII)J" = some ⟨[.long, .long, .int, .int], some .long⟩ := by decide +kernel
theorem pd_0_1 : parseMethodDescriptor "(JI)Z" = some ⟨[.long, .int], some .boolean⟩ := by decide +kernel
theorem pd_0_2 : parseMethodDescriptor "(J)Z" = some ⟨[.long], some .boolean⟩ := by decide +kernel
theorem ef_0 (m : MethodId) (q0 : Int64) (q1 : Int64) (p2 : Int32) : entryFrame m #[(.long q0), (.long q1), (.int p2)] maxLocals = mkF m 0 #[.val (.long q0), .second, .val (.long q1), .second, .val (.int p2), .unset, .unset, .unset] [] := by first | (simp [entryFrame, mkF, argsToLocals, Value.category, maxLocals]; done) | rfl
def own_f0_154 (z73 : Int64) (v154_t0 : Int32) : Int32 :=
  if (own_f3 z73) = v154_t0 then
    (1 : Int32)
  else
    (0 : Int32)
def own_f0_153 (z73 : Int64) : Int32 :=
  (own_f0_154 z73 (0 : Int32))
def own_f0 (q0 : Int64) (q1 : Int64) (p2 : Int32) : Int32 :=
  let z73 : Int64 := ((((((((own_f1 q0 q1 p2 (0 : Int32)) ||| (own_f1 q0 q1 p2 (1 : Int32))) ||| (own_f1 q0 q1 p2 (2 : Int32))) ||| (own_f1 q0 q1 p2 (3 : Int32))) ||| (own_f1 q0 q1 p2 (4 : Int32))) ||| (own_f1 q0 q1 p2 (5 : Int32))) ||| (own_f1 q0 q1 p2 (6 : Int32))) ||| (own_f1 q0 q1 p2 (7 : Int32)))
  if (own_f2 z73 (0 : Int32)) = 0 then
    (own_f0_153 z73)
  else
    if (own_f2 z73 (1 : Int32)) = 0 then
      (own_f0_153 z73)
    else
      if (own_f2 z73 (2 : Int32)) = 0 then
        (own_f0_153 z73)
      else
        if (own_f2 z73 (3 : Int32)) = 0 then
          (own_f0_153 z73)
        else
          if (own_f2 z73 (4 : Int32)) = 0 then
            (own_f0_153 z73)
          else
            if (own_f2 z73 (5 : Int32)) = 0 then
              (own_f0_153 z73)
            else
              if (own_f2 z73 (6 : Int32)) = 0 then
                (own_f0_153 z73)
              else
                if (own_f2 z73 (7 : Int32)) = 0 then
                  (own_f0_153 z73)
                else
                  (own_f0_154 z73 (1 : Int32))
set_option maxRecDepth 65536 in
set_option maxHeartbeats 40000000 in
theorem rm0 (l : Launch) (Z : State) (a0 : Array Value) (hw : ∀ d ∈ tables_1, d.before a0 Z = true) (ws : List Jvm.Cond) (q0 : Int64) (q1 : Int64) (p2 : Int32) (h0 : Heap) (n0 : Nat) (Z0 : n0 ≤ h0.size) :
    MetFree l x (head1 (Jvm.Cond.code x code maxLocals ret :: ws) room_1) (fun a U => a = #[(.long q0), (.long q1), (.int p2)] ∧ Z.Warmed39 U.vm ∧ U.heap = h0) (fun _ _ _ _ _ => True) (fun _ U o U' => ∃ v L, o = .returned v ∧ own_Ql (some (.int (own_f0 q0 q1 p2))) n0 v U'.heap L ∧ FrameEnd U o U' L 0 0) := by
  refine MetFree.of_bodySF (plainFor_of_name pn_0) hisR ?_
  intro p e s m args below meth c s₁ Bd hml0 hP hK
  obtain ⟨rfl, hZ, hh⟩ := hP
  have hx := Bd.exec
  have hby := Bd.bytes
  have hml : c.maxLocals = 8 := hml0
  have hown : s.vm.findClass "com/example/kolektyv/kolektyv/records/BytesIsDigitsPinLaw" = some m.cls := findClass_of_methodNamed Bd.named
  have hnm := (name_of_methodNamed Bd.named Bd.method).1
  have X0 : Stand p l e room_1 s m #[(.long q0), (.long q1), (.int p2)] below meth c s₁ [] 0 0 := Stand.of_body Bd
  have e0 : s₁.heap = h0 := by rw [← hh, Bd.state]; rfl
  have N0 := Fr.nil n0
  refine own_enter (ef_0 m q0 q1 p2) ?_
  show own_Goes p.tables e below (s₁.setTop (mkF m 0 #[.val (.long q0), .second, .val (.long q1), .second, .val (.int p2), .unset, .unset, .unset] [])) (own_P s (own_Ql (some (.int (own_f0 q0 q1 p2))) n0) 0 0)
  refine own_step (fun _ => XS.lloadN X0.here hx rfl (hb hby at_0) rfl) ?_
  show own_Goes p.tables e below (s₁.setTop (mkF m 1 #[.val (.long q0), .second, .val (.long q1), .second, .val (.int p2), .unset, .unset, .unset] [(.long q0)])) _
  refine own_step (fun _ => XS.lloadN X0.here hx rfl (hb hby at_1) rfl) ?_
  show own_Goes p.tables e below (s₁.setTop (mkF m 2 #[.val (.long q0), .second, .val (.long q1), .second, .val (.int p2), .unset, .unset, .unset] [(.long q1), (.long q0)])) _
  refine own_step (fun _ => XS.iload X0.here hx rfl (hb hby at_2) rfl) ?_
  show own_Goes p.tables e below (s₁.setTop (mkF m 4 #[.val (.long q0), .second, .val (.long q1), .second, .val (.int p2), .unset, .unset, .unset] [(.int p2), (.long q1), (.long q0)])) _
  refine own_step (fun _ => XS.iconst X0.here hx rfl (hb hby at_4)) ?_
  show own_Goes p.tables e below (s₁.setTop (mkF m 5 #[.val (.long q0), .second, .val (.long q1), .second, .val (.int p2), .unset, .unset, .unset] [(.int (0 : Int32)), (.int p2), (.long q1), (.long q0)])) _
  obtain ⟨_, _, ⟨T1, L1, k1, n1⟩, -, X1, ⟨Lc1, hQ1, l1, y1, z1⟩, st1⟩ := Jvm.LawKit.callS X0 hx (y := (⟨"com/example/kolektyv/kolektyv/records/BytesIsDigitsPinLaw", "makeByte", "(JJII)J"⟩ : MethodName)) hown (mvT hZ (hw _ (List.mem_of_getElem? (i := 0) rfl))) (mvT hZ (hw _ (List.mem_of_getElem? (i := 1) rfl))) (mvT hZ (hw _ (List.mem_of_getElem? (i := 2) rfl))) (mvT hZ (hw _ (List.mem_of_getElem? (i := 3) rfl))) (by decide) (backOf (W := 0) (rm1 l Z a0 hw [] q0 q1 p2 (0 : Int32) h0 n0 Z0) hZ (hw _ (List.mem_of_getElem? (i := 3) rfl)) (hw _ (List.mem_of_getElem? (i := 2) rfl)) (by decide) (by decide)) (g := (mkF m 5 #[.val (.long q0), .second, .val (.long q1), .second, .val (.int p2), .unset, .unset, .unset] [(.int (0 : Int32)), (.int p2), (.long q1), (.long q0)])) rfl (by rw [hml]; rfl) (argsL := [(.long q0), (.long q1), (.int p2), (.int (0 : Int32))]) (rest := []) (lenOf pd_0_0 rfl) rfl (by show 2 * 0 + _ ≤ _; exact Nat.le_of_eq rfl) (hb hby at_5) (fun _ _ => ⟨rfl, e0, (by decide : 0 + 0 ≤ _), (by decide : 0 + 0 ≤ _)⟩)
  dsimp only [Pt.U, Pt.locs, Pt.cells, Pt.slots] at X1 l1 y1 z1 st1 hQ1
  subst l1 y1 z1
  obtain ⟨rfl, rfl, e1⟩ := hQ1
  have X1 : Stand p l e room_1 s m #[(.long q0), (.long q1), (.int p2)] below meth c T1 [] 0 0 := own_flat X1
  refine own_step (st1) ?_
  show own_Goes p.tables e below (T1.setTop (mkF m 8 #[.val (.long q0), .second, .val (.long q1), .second, .val (.int p2), .unset, .unset, .unset] [(.long (own_f1 q0 q1 p2 (0 : Int32)))])) _
  refine own_step (fun _ => XS.lloadN X1.here hx rfl (hb hby at_8) rfl) ?_
  show own_Goes p.tables e below (T1.setTop (mkF m 9 #[.val (.long q0), .second, .val (.long q1), .second, .val (.int p2), .unset, .unset, .unset] [(.long q0), (.long (own_f1 q0 q1 p2 (0 : Int32)))])) _
  refine own_step (fun _ => XS.lloadN X1.here hx rfl (hb hby at_9) rfl) ?_
  show own_Goes p.tables e below (T1.setTop (mkF m 10 #[.val (.long q0), .second, .val (.long q1), .second, .val (.int p2), .unset, .unset, .unset] [(.long q1), (.long q0), (.long (own_f1 q0 q1 p2 (0 : Int32)))])) _
  refine own_step (fun _ => XS.iload X1.here hx rfl (hb hby at_10) rfl) ?_
  show own_Goes p.tables e below (T1.setTop (mkF m 12 #[.val (.long q0), .second, .val (.long q1), .second, .val (.int p2), .unset, .unset, .unset] [(.int p2), (.long q1), (.long q0), (.long (own_f1 q0 q1 p2 (0 : Int32)))])) _
  refine own_step (fun _ => XS.iconst X1.here hx rfl (hb hby at_12)) ?_
  show own_Goes p.tables e below (T1.setTop (mkF m 13 #[.val (.long q0), .second, .val (.long q1), .second, .val (.int p2), .unset, .unset, .unset] [(.int (1 : Int32)), (.int p2), (.long q1), (.long q0), (.long (own_f1 q0 q1 p2 (0 : Int32)))])) _
  obtain ⟨_, _, ⟨T2, L2, k2, n2⟩, -, X2, ⟨Lc2, hQ2, l2, y2, z2⟩, st2⟩ := Jvm.LawKit.callS X1 hx (y := (⟨"com/example/kolektyv/kolektyv/records/BytesIsDigitsPinLaw", "makeByte", "(JJII)J"⟩ : MethodName)) hown (mvT hZ (hw _ (List.mem_of_getElem? (i := 0) rfl))) (mvT hZ (hw _ (List.mem_of_getElem? (i := 1) rfl))) (mvT hZ (hw _ (List.mem_of_getElem? (i := 2) rfl))) (mvT hZ (hw _ (List.mem_of_getElem? (i := 3) rfl))) (by decide) (backOf (W := 2) (rm1 l Z a0 hw [] q0 q1 p2 (1 : Int32) h0 n0 Z0) hZ (hw _ (List.mem_of_getElem? (i := 3) rfl)) (hw _ (List.mem_of_getElem? (i := 2) rfl)) (by decide) (by decide)) (g := (mkF m 13 #[.val (.long q0), .second, .val (.long q1), .second, .val (.int p2), .unset, .unset, .unset] [(.int (1 : Int32)), (.int p2), (.long q1), (.long q0), (.long (own_f1 q0 q1 p2 (0 : Int32)))])) rfl (by rw [hml]; rfl) (argsL := [(.long q0), (.long q1), (.int p2), (.int (1 : Int32))]) (rest := [(.long (own_f1 q0 q1 p2 (0 : Int32)))]) (lenOf pd_0_0 rfl) rfl (by show 2 * 0 + _ ≤ _; exact Nat.le_of_eq rfl) (hb hby at_13) (fun _ _ => ⟨rfl, e1, (by decide : 0 + 0 ≤ _), (by decide : 0 + 0 ≤ _)⟩)
  dsimp only [Pt.U, Pt.locs, Pt.cells, Pt.slots] at X2 l2 y2 z2 st2 hQ2
  subst l2 y2 z2
  obtain ⟨rfl, rfl, e2⟩ := hQ2
  have X2 : Stand p l e room_1 s m #[(.long q0), (.long q1), (.int p2)] below meth c T2 [] 0 0 := own_flat X2
  refine own_step (st2) ?_
  show own_Goes p.tables e below (T2.setTop (mkF m 16 #[.val (.long q0), .second, .val (.long q1), .second, .val (.int p2), .unset, .unset, .unset] [(.long (own_f1 q0 q1 p2 (1 : Int32))), (.long (own_f1 q0 q1 p2 (0 : Int32)))])) _
  refine own_step (fun _ => XS.lor X2.here hx rfl (hb hby at_16) rfl) ?_
  show own_Goes p.tables e below (T2.setTop (mkF m 17 #[.val (.long q0), .second, .val (.long q1), .second, .val (.int p2), .unset, .unset, .unset] [(.long ((own_f1 q0 q1 p2 (0 : Int32)) ||| (own_f1 q0 q1 p2 (1 : Int32))))])) _
  refine own_step (fun _ => XS.lloadN X2.here hx rfl (hb hby at_17) rfl) ?_
  show own_Goes p.tables e below (T2.setTop (mkF m 18 #[.val (.long q0), .second, .val (.long q1), .second, .val (.int p2), .unset, .unset, .unset] [(.long q0), (.long ((own_f1 q0 q1 p2 (0 : Int32)) ||| (own_f1 q0 q1 p2 (1 : Int32))))])) _
  refine own_step (fun _ => XS.lloadN X2.here hx rfl (hb hby at_18) rfl) ?_
  show own_Goes p.tables e below (T2.setTop (mkF m 19 #[.val (.long q0), .second, .val (.long q1), .second, .val (.int p2), .unset, .unset, .unset] [(.long q1), (.long q0), (.long ((own_f1 q0 q1 p2 (0 : Int32)) ||| (own_f1 q0 q1 p2 (1 : Int32))))])) _
  refine own_step (fun _ => XS.iload X2.here hx rfl (hb hby at_19) rfl) ?_
  show own_Goes p.tables e below (T2.setTop (mkF m 21 #[.val (.long q0), .second, .val (.long q1), .second, .val (.int p2), .unset, .unset, .unset] [(.int p2), (.long q1), (.long q0), (.long ((own_f1 q0 q1 p2 (0 : Int32)) ||| (own_f1 q0 q1 p2 (1 : Int32))))])) _
  refine own_step (fun _ => XS.iconst X2.here hx rfl (hb hby at_21)) ?_
  show own_Goes p.tables e below (T2.setTop (mkF m 22 #[.val (.long q0), .second, .val (.long q1), .second, .val (.int p2), .unset, .unset, .unset] [(.int (2 : Int32)), (.int p2), (.long q1), (.long q0), (.long ((own_f1 q0 q1 p2 (0 : Int32)) ||| (own_f1 q0 q1 p2 (1 : Int32))))])) _
  obtain ⟨_, _, ⟨T3, L3, k3, n3⟩, -, X3, ⟨Lc3, hQ3, l3, y3, z3⟩, st3⟩ := Jvm.LawKit.callS X2 hx (y := (⟨"com/example/kolektyv/kolektyv/records/BytesIsDigitsPinLaw", "makeByte", "(JJII)J"⟩ : MethodName)) hown (mvT hZ (hw _ (List.mem_of_getElem? (i := 0) rfl))) (mvT hZ (hw _ (List.mem_of_getElem? (i := 1) rfl))) (mvT hZ (hw _ (List.mem_of_getElem? (i := 2) rfl))) (mvT hZ (hw _ (List.mem_of_getElem? (i := 3) rfl))) (by decide) (backOf (W := 2) (rm1 l Z a0 hw [] q0 q1 p2 (2 : Int32) h0 n0 Z0) hZ (hw _ (List.mem_of_getElem? (i := 3) rfl)) (hw _ (List.mem_of_getElem? (i := 2) rfl)) (by decide) (by decide)) (g := (mkF m 22 #[.val (.long q0), .second, .val (.long q1), .second, .val (.int p2), .unset, .unset, .unset] [(.int (2 : Int32)), (.int p2), (.long q1), (.long q0), (.long ((own_f1 q0 q1 p2 (0 : Int32)) ||| (own_f1 q0 q1 p2 (1 : Int32))))])) rfl (by rw [hml]; rfl) (argsL := [(.long q0), (.long q1), (.int p2), (.int (2 : Int32))]) (rest := [(.long ((own_f1 q0 q1 p2 (0 : Int32)) ||| (own_f1 q0 q1 p2 (1 : Int32))))]) (lenOf pd_0_0 rfl) rfl (by show 2 * 0 + _ ≤ _; exact Nat.le_of_eq rfl) (hb hby at_22) (fun _ _ => ⟨rfl, e2, (by decide : 0 + 0 ≤ _), (by decide : 0 + 0 ≤ _)⟩)
  dsimp only [Pt.U, Pt.locs, Pt.cells, Pt.slots] at X3 l3 y3 z3 st3 hQ3
  subst l3 y3 z3
  obtain ⟨rfl, rfl, e3⟩ := hQ3
  have X3 : Stand p l e room_1 s m #[(.long q0), (.long q1), (.int p2)] below meth c T3 [] 0 0 := own_flat X3
  refine own_step (st3) ?_
  show own_Goes p.tables e below (T3.setTop (mkF m 25 #[.val (.long q0), .second, .val (.long q1), .second, .val (.int p2), .unset, .unset, .unset] [(.long (own_f1 q0 q1 p2 (2 : Int32))), (.long ((own_f1 q0 q1 p2 (0 : Int32)) ||| (own_f1 q0 q1 p2 (1 : Int32))))])) _
  refine own_step (fun _ => XS.lor X3.here hx rfl (hb hby at_25) rfl) ?_
  show own_Goes p.tables e below (T3.setTop (mkF m 26 #[.val (.long q0), .second, .val (.long q1), .second, .val (.int p2), .unset, .unset, .unset] [(.long (((own_f1 q0 q1 p2 (0 : Int32)) ||| (own_f1 q0 q1 p2 (1 : Int32))) ||| (own_f1 q0 q1 p2 (2 : Int32))))])) _
  refine own_step (fun _ => XS.lloadN X3.here hx rfl (hb hby at_26) rfl) ?_
  show own_Goes p.tables e below (T3.setTop (mkF m 27 #[.val (.long q0), .second, .val (.long q1), .second, .val (.int p2), .unset, .unset, .unset] [(.long q0), (.long (((own_f1 q0 q1 p2 (0 : Int32)) ||| (own_f1 q0 q1 p2 (1 : Int32))) ||| (own_f1 q0 q1 p2 (2 : Int32))))])) _
  refine own_step (fun _ => XS.lloadN X3.here hx rfl (hb hby at_27) rfl) ?_
  show own_Goes p.tables e below (T3.setTop (mkF m 28 #[.val (.long q0), .second, .val (.long q1), .second, .val (.int p2), .unset, .unset, .unset] [(.long q1), (.long q0), (.long (((own_f1 q0 q1 p2 (0 : Int32)) ||| (own_f1 q0 q1 p2 (1 : Int32))) ||| (own_f1 q0 q1 p2 (2 : Int32))))])) _
  refine own_step (fun _ => XS.iload X3.here hx rfl (hb hby at_28) rfl) ?_
  show own_Goes p.tables e below (T3.setTop (mkF m 30 #[.val (.long q0), .second, .val (.long q1), .second, .val (.int p2), .unset, .unset, .unset] [(.int p2), (.long q1), (.long q0), (.long (((own_f1 q0 q1 p2 (0 : Int32)) ||| (own_f1 q0 q1 p2 (1 : Int32))) ||| (own_f1 q0 q1 p2 (2 : Int32))))])) _
  refine own_step (fun _ => XS.iconst X3.here hx rfl (hb hby at_30)) ?_
  show own_Goes p.tables e below (T3.setTop (mkF m 31 #[.val (.long q0), .second, .val (.long q1), .second, .val (.int p2), .unset, .unset, .unset] [(.int (3 : Int32)), (.int p2), (.long q1), (.long q0), (.long (((own_f1 q0 q1 p2 (0 : Int32)) ||| (own_f1 q0 q1 p2 (1 : Int32))) ||| (own_f1 q0 q1 p2 (2 : Int32))))])) _
  obtain ⟨_, _, ⟨T4, L4, k4, n4⟩, -, X4, ⟨Lc4, hQ4, l4, y4, z4⟩, st4⟩ := Jvm.LawKit.callS X3 hx (y := (⟨"com/example/kolektyv/kolektyv/records/BytesIsDigitsPinLaw", "makeByte", "(JJII)J"⟩ : MethodName)) hown (mvT hZ (hw _ (List.mem_of_getElem? (i := 0) rfl))) (mvT hZ (hw _ (List.mem_of_getElem? (i := 1) rfl))) (mvT hZ (hw _ (List.mem_of_getElem? (i := 2) rfl))) (mvT hZ (hw _ (List.mem_of_getElem? (i := 3) rfl))) (by decide) (backOf (W := 2) (rm1 l Z a0 hw [] q0 q1 p2 (3 : Int32) h0 n0 Z0) hZ (hw _ (List.mem_of_getElem? (i := 3) rfl)) (hw _ (List.mem_of_getElem? (i := 2) rfl)) (by decide) (by decide)) (g := (mkF m 31 #[.val (.long q0), .second, .val (.long q1), .second, .val (.int p2), .unset, .unset, .unset] [(.int (3 : Int32)), (.int p2), (.long q1), (.long q0), (.long (((own_f1 q0 q1 p2 (0 : Int32)) ||| (own_f1 q0 q1 p2 (1 : Int32))) ||| (own_f1 q0 q1 p2 (2 : Int32))))])) rfl (by rw [hml]; rfl) (argsL := [(.long q0), (.long q1), (.int p2), (.int (3 : Int32))]) (rest := [(.long (((own_f1 q0 q1 p2 (0 : Int32)) ||| (own_f1 q0 q1 p2 (1 : Int32))) ||| (own_f1 q0 q1 p2 (2 : Int32))))]) (lenOf pd_0_0 rfl) rfl (by show 2 * 0 + _ ≤ _; exact Nat.le_of_eq rfl) (hb hby at_31) (fun _ _ => ⟨rfl, e3, (by decide : 0 + 0 ≤ _), (by decide : 0 + 0 ≤ _)⟩)
  dsimp only [Pt.U, Pt.locs, Pt.cells, Pt.slots] at X4 l4 y4 z4 st4 hQ4
  subst l4 y4 z4
  obtain ⟨rfl, rfl, e4⟩ := hQ4
  have X4 : Stand p l e room_1 s m #[(.long q0), (.long q1), (.int p2)] below meth c T4 [] 0 0 := own_flat X4
  refine own_step (st4) ?_
  show own_Goes p.tables e below (T4.setTop (mkF m 34 #[.val (.long q0), .second, .val (.long q1), .second, .val (.int p2), .unset, .unset, .unset] [(.long (own_f1 q0 q1 p2 (3 : Int32))), (.long (((own_f1 q0 q1 p2 (0 : Int32)) ||| (own_f1 q0 q1 p2 (1 : Int32))) ||| (own_f1 q0 q1 p2 (2 : Int32))))])) _
  refine own_step (fun _ => XS.lor X4.here hx rfl (hb hby at_34) rfl) ?_
  show own_Goes p.tables e below (T4.setTop (mkF m 35 #[.val (.long q0), .second, .val (.long q1), .second, .val (.int p2), .unset, .unset, .unset] [(.long ((((own_f1 q0 q1 p2 (0 : Int32)) ||| (own_f1 q0 q1 p2 (1 : Int32))) ||| (own_f1 q0 q1 p2 (2 : Int32))) ||| (own_f1 q0 q1 p2 (3 : Int32))))])) _
  refine own_step (fun _ => XS.lloadN X4.here hx rfl (hb hby at_35) rfl) ?_
  show own_Goes p.tables e below (T4.setTop (mkF m 36 #[.val (.long q0), .second, .val (.long q1), .second, .val (.int p2), .unset, .unset, .unset] [(.long q0), (.long ((((own_f1 q0 q1 p2 (0 : Int32)) ||| (own_f1 q0 q1 p2 (1 : Int32))) ||| (own_f1 q0 q1 p2 (2 : Int32))) ||| (own_f1 q0 q1 p2 (3 : Int32))))])) _
  refine own_step (fun _ => XS.lloadN X4.here hx rfl (hb hby at_36) rfl) ?_
  show own_Goes p.tables e below (T4.setTop (mkF m 37 #[.val (.long q0), .second, .val (.long q1), .second, .val (.int p2), .unset, .unset, .unset] [(.long q1), (.long q0), (.long ((((own_f1 q0 q1 p2 (0 : Int32)) ||| (own_f1 q0 q1 p2 (1 : Int32))) ||| (own_f1 q0 q1 p2 (2 : Int32))) ||| (own_f1 q0 q1 p2 (3 : Int32))))])) _
  refine own_step (fun _ => XS.iload X4.here hx rfl (hb hby at_37) rfl) ?_
  show own_Goes p.tables e below (T4.setTop (mkF m 39 #[.val (.long q0), .second, .val (.long q1), .second, .val (.int p2), .unset, .unset, .unset] [(.int p2), (.long q1), (.long q0), (.long ((((own_f1 q0 q1 p2 (0 : Int32)) ||| (own_f1 q0 q1 p2 (1 : Int32))) ||| (own_f1 q0 q1 p2 (2 : Int32))) ||| (own_f1 q0 q1 p2 (3 : Int32))))])) _
  refine own_step (fun _ => XS.iconst X4.here hx rfl (hb hby at_39)) ?_
  show own_Goes p.tables e below (T4.setTop (mkF m 40 #[.val (.long q0), .second, .val (.long q1), .second, .val (.int p2), .unset, .unset, .unset] [(.int (4 : Int32)), (.int p2), (.long q1), (.long q0), (.long ((((own_f1 q0 q1 p2 (0 : Int32)) ||| (own_f1 q0 q1 p2 (1 : Int32))) ||| (own_f1 q0 q1 p2 (2 : Int32))) ||| (own_f1 q0 q1 p2 (3 : Int32))))])) _
  obtain ⟨_, _, ⟨T5, L5, k5, n5⟩, -, X5, ⟨Lc5, hQ5, l5, y5, z5⟩, st5⟩ := Jvm.LawKit.callS X4 hx (y := (⟨"com/example/kolektyv/kolektyv/records/BytesIsDigitsPinLaw", "makeByte", "(JJII)J"⟩ : MethodName)) hown (mvT hZ (hw _ (List.mem_of_getElem? (i := 0) rfl))) (mvT hZ (hw _ (List.mem_of_getElem? (i := 1) rfl))) (mvT hZ (hw _ (List.mem_of_getElem? (i := 2) rfl))) (mvT hZ (hw _ (List.mem_of_getElem? (i := 3) rfl))) (by decide) (backOf (W := 2) (rm1 l Z a0 hw [] q0 q1 p2 (4 : Int32) h0 n0 Z0) hZ (hw _ (List.mem_of_getElem? (i := 3) rfl)) (hw _ (List.mem_of_getElem? (i := 2) rfl)) (by decide) (by decide)) (g := (mkF m 40 #[.val (.long q0), .second, .val (.long q1), .second, .val (.int p2), .unset, .unset, .unset] [(.int (4 : Int32)), (.int p2), (.long q1), (.long q0), (.long ((((own_f1 q0 q1 p2 (0 : Int32)) ||| (own_f1 q0 q1 p2 (1 : Int32))) ||| (own_f1 q0 q1 p2 (2 : Int32))) ||| (own_f1 q0 q1 p2 (3 : Int32))))])) rfl (by rw [hml]; rfl) (argsL := [(.long q0), (.long q1), (.int p2), (.int (4 : Int32))]) (rest := [(.long ((((own_f1 q0 q1 p2 (0 : Int32)) ||| (own_f1 q0 q1 p2 (1 : Int32))) ||| (own_f1 q0 q1 p2 (2 : Int32))) ||| (own_f1 q0 q1 p2 (3 : Int32))))]) (lenOf pd_0_0 rfl) rfl (by show 2 * 0 + _ ≤ _; exact Nat.le_of_eq rfl) (hb hby at_40) (fun _ _ => ⟨rfl, e4, (by decide : 0 + 0 ≤ _), (by decide : 0 + 0 ≤ _)⟩)
  dsimp only [Pt.U, Pt.locs, Pt.cells, Pt.slots] at X5 l5 y5 z5 st5 hQ5
  subst l5 y5 z5
  obtain ⟨rfl, rfl, e5⟩ := hQ5
  have X5 : Stand p l e room_1 s m #[(.long q0), (.long q1), (.int p2)] below meth c T5 [] 0 0 := own_flat X5
  refine own_step (st5) ?_
  show own_Goes p.tables e below (T5.setTop (mkF m 43 #[.val (.long q0), .second, .val (.long q1), .second, .val (.int p2), .unset, .unset, .unset] [(.long (own_f1 q0 q1 p2 (4 : Int32))), (.long ((((own_f1 q0 q1 p2 (0 : Int32)) ||| (own_f1 q0 q1 p2 (1 : Int32))) ||| (own_f1 q0 q1 p2 (2 : Int32))) ||| (own_f1 q0 q1 p2 (3 : Int32))))])) _
  refine own_step (fun _ => XS.lor X5.here hx rfl (hb hby at_43) rfl) ?_
  show own_Goes p.tables e below (T5.setTop (mkF m 44 #[.val (.long q0), .second, .val (.long q1), .second, .val (.int p2), .unset, .unset, .unset] [(.long (((((own_f1 q0 q1 p2 (0 : Int32)) ||| (own_f1 q0 q1 p2 (1 : Int32))) ||| (own_f1 q0 q1 p2 (2 : Int32))) ||| (own_f1 q0 q1 p2 (3 : Int32))) ||| (own_f1 q0 q1 p2 (4 : Int32))))])) _
  refine own_step (fun _ => XS.lloadN X5.here hx rfl (hb hby at_44) rfl) ?_
  show own_Goes p.tables e below (T5.setTop (mkF m 45 #[.val (.long q0), .second, .val (.long q1), .second, .val (.int p2), .unset, .unset, .unset] [(.long q0), (.long (((((own_f1 q0 q1 p2 (0 : Int32)) ||| (own_f1 q0 q1 p2 (1 : Int32))) ||| (own_f1 q0 q1 p2 (2 : Int32))) ||| (own_f1 q0 q1 p2 (3 : Int32))) ||| (own_f1 q0 q1 p2 (4 : Int32))))])) _
  refine own_step (fun _ => XS.lloadN X5.here hx rfl (hb hby at_45) rfl) ?_
  show own_Goes p.tables e below (T5.setTop (mkF m 46 #[.val (.long q0), .second, .val (.long q1), .second, .val (.int p2), .unset, .unset, .unset] [(.long q1), (.long q0), (.long (((((own_f1 q0 q1 p2 (0 : Int32)) ||| (own_f1 q0 q1 p2 (1 : Int32))) ||| (own_f1 q0 q1 p2 (2 : Int32))) ||| (own_f1 q0 q1 p2 (3 : Int32))) ||| (own_f1 q0 q1 p2 (4 : Int32))))])) _
  refine own_step (fun _ => XS.iload X5.here hx rfl (hb hby at_46) rfl) ?_
  show own_Goes p.tables e below (T5.setTop (mkF m 48 #[.val (.long q0), .second, .val (.long q1), .second, .val (.int p2), .unset, .unset, .unset] [(.int p2), (.long q1), (.long q0), (.long (((((own_f1 q0 q1 p2 (0 : Int32)) ||| (own_f1 q0 q1 p2 (1 : Int32))) ||| (own_f1 q0 q1 p2 (2 : Int32))) ||| (own_f1 q0 q1 p2 (3 : Int32))) ||| (own_f1 q0 q1 p2 (4 : Int32))))])) _
  refine own_step (fun _ => XS.iconst X5.here hx rfl (hb hby at_48)) ?_
  show own_Goes p.tables e below (T5.setTop (mkF m 49 #[.val (.long q0), .second, .val (.long q1), .second, .val (.int p2), .unset, .unset, .unset] [(.int (5 : Int32)), (.int p2), (.long q1), (.long q0), (.long (((((own_f1 q0 q1 p2 (0 : Int32)) ||| (own_f1 q0 q1 p2 (1 : Int32))) ||| (own_f1 q0 q1 p2 (2 : Int32))) ||| (own_f1 q0 q1 p2 (3 : Int32))) ||| (own_f1 q0 q1 p2 (4 : Int32))))])) _
  obtain ⟨_, _, ⟨T6, L6, k6, n6⟩, -, X6, ⟨Lc6, hQ6, l6, y6, z6⟩, st6⟩ := Jvm.LawKit.callS X5 hx (y := (⟨"com/example/kolektyv/kolektyv/records/BytesIsDigitsPinLaw", "makeByte", "(JJII)J"⟩ : MethodName)) hown (mvT hZ (hw _ (List.mem_of_getElem? (i := 0) rfl))) (mvT hZ (hw _ (List.mem_of_getElem? (i := 1) rfl))) (mvT hZ (hw _ (List.mem_of_getElem? (i := 2) rfl))) (mvT hZ (hw _ (List.mem_of_getElem? (i := 3) rfl))) (by decide) (backOf (W := 2) (rm1 l Z a0 hw [] q0 q1 p2 (5 : Int32) h0 n0 Z0) hZ (hw _ (List.mem_of_getElem? (i := 3) rfl)) (hw _ (List.mem_of_getElem? (i := 2) rfl)) (by decide) (by decide)) (g := (mkF m 49 #[.val (.long q0), .second, .val (.long q1), .second, .val (.int p2), .unset, .unset, .unset] [(.int (5 : Int32)), (.int p2), (.long q1), (.long q0), (.long (((((own_f1 q0 q1 p2 (0 : Int32)) ||| (own_f1 q0 q1 p2 (1 : Int32))) ||| (own_f1 q0 q1 p2 (2 : Int32))) ||| (own_f1 q0 q1 p2 (3 : Int32))) ||| (own_f1 q0 q1 p2 (4 : Int32))))])) rfl (by rw [hml]; rfl) (argsL := [(.long q0), (.long q1), (.int p2), (.int (5 : Int32))]) (rest := [(.long (((((own_f1 q0 q1 p2 (0 : Int32)) ||| (own_f1 q0 q1 p2 (1 : Int32))) ||| (own_f1 q0 q1 p2 (2 : Int32))) ||| (own_f1 q0 q1 p2 (3 : Int32))) ||| (own_f1 q0 q1 p2 (4 : Int32))))]) (lenOf pd_0_0 rfl) rfl (by show 2 * 0 + _ ≤ _; exact Nat.le_of_eq rfl) (hb hby at_49) (fun _ _ => ⟨rfl, e5, (by decide : 0 + 0 ≤ _), (by decide : 0 + 0 ≤ _)⟩)
  dsimp only [Pt.U, Pt.locs, Pt.cells, Pt.slots] at X6 l6 y6 z6 st6 hQ6
  subst l6 y6 z6
  obtain ⟨rfl, rfl, e6⟩ := hQ6
  have X6 : Stand p l e room_1 s m #[(.long q0), (.long q1), (.int p2)] below meth c T6 [] 0 0 := own_flat X6
  refine own_step (st6) ?_
  show own_Goes p.tables e below (T6.setTop (mkF m 52 #[.val (.long q0), .second, .val (.long q1), .second, .val (.int p2), .unset, .unset, .unset] [(.long (own_f1 q0 q1 p2 (5 : Int32))), (.long (((((own_f1 q0 q1 p2 (0 : Int32)) ||| (own_f1 q0 q1 p2 (1 : Int32))) ||| (own_f1 q0 q1 p2 (2 : Int32))) ||| (own_f1 q0 q1 p2 (3 : Int32))) ||| (own_f1 q0 q1 p2 (4 : Int32))))])) _
  refine own_step (fun _ => XS.lor X6.here hx rfl (hb hby at_52) rfl) ?_
  show own_Goes p.tables e below (T6.setTop (mkF m 53 #[.val (.long q0), .second, .val (.long q1), .second, .val (.int p2), .unset, .unset, .unset] [(.long ((((((own_f1 q0 q1 p2 (0 : Int32)) ||| (own_f1 q0 q1 p2 (1 : Int32))) ||| (own_f1 q0 q1 p2 (2 : Int32))) ||| (own_f1 q0 q1 p2 (3 : Int32))) ||| (own_f1 q0 q1 p2 (4 : Int32))) ||| (own_f1 q0 q1 p2 (5 : Int32))))])) _
  refine own_step (fun _ => XS.lloadN X6.here hx rfl (hb hby at_53) rfl) ?_
  show own_Goes p.tables e below (T6.setTop (mkF m 54 #[.val (.long q0), .second, .val (.long q1), .second, .val (.int p2), .unset, .unset, .unset] [(.long q0), (.long ((((((own_f1 q0 q1 p2 (0 : Int32)) ||| (own_f1 q0 q1 p2 (1 : Int32))) ||| (own_f1 q0 q1 p2 (2 : Int32))) ||| (own_f1 q0 q1 p2 (3 : Int32))) ||| (own_f1 q0 q1 p2 (4 : Int32))) ||| (own_f1 q0 q1 p2 (5 : Int32))))])) _
  refine own_step (fun _ => XS.lloadN X6.here hx rfl (hb hby at_54) rfl) ?_
  show own_Goes p.tables e below (T6.setTop (mkF m 55 #[.val (.long q0), .second, .val (.long q1), .second, .val (.int p2), .unset, .unset, .unset] [(.long q1), (.long q0), (.long ((((((own_f1 q0 q1 p2 (0 : Int32)) ||| (own_f1 q0 q1 p2 (1 : Int32))) ||| (own_f1 q0 q1 p2 (2 : Int32))) ||| (own_f1 q0 q1 p2 (3 : Int32))) ||| (own_f1 q0 q1 p2 (4 : Int32))) ||| (own_f1 q0 q1 p2 (5 : Int32))))])) _
  refine own_step (fun _ => XS.iload X6.here hx rfl (hb hby at_55) rfl) ?_
  show own_Goes p.tables e below (T6.setTop (mkF m 57 #[.val (.long q0), .second, .val (.long q1), .second, .val (.int p2), .unset, .unset, .unset] [(.int p2), (.long q1), (.long q0), (.long ((((((own_f1 q0 q1 p2 (0 : Int32)) ||| (own_f1 q0 q1 p2 (1 : Int32))) ||| (own_f1 q0 q1 p2 (2 : Int32))) ||| (own_f1 q0 q1 p2 (3 : Int32))) ||| (own_f1 q0 q1 p2 (4 : Int32))) ||| (own_f1 q0 q1 p2 (5 : Int32))))])) _
  refine own_step (fun _ => XS.bipush X6.here hx rfl (hb hby at_57)) ?_
  show own_Goes p.tables e below (T6.setTop (mkF m 59 #[.val (.long q0), .second, .val (.long q1), .second, .val (.int p2), .unset, .unset, .unset] [(.int (6 : Int32)), (.int p2), (.long q1), (.long q0), (.long ((((((own_f1 q0 q1 p2 (0 : Int32)) ||| (own_f1 q0 q1 p2 (1 : Int32))) ||| (own_f1 q0 q1 p2 (2 : Int32))) ||| (own_f1 q0 q1 p2 (3 : Int32))) ||| (own_f1 q0 q1 p2 (4 : Int32))) ||| (own_f1 q0 q1 p2 (5 : Int32))))])) _
  obtain ⟨_, _, ⟨T7, L7, k7, n7⟩, -, X7, ⟨Lc7, hQ7, l7, y7, z7⟩, st7⟩ := Jvm.LawKit.callS X6 hx (y := (⟨"com/example/kolektyv/kolektyv/records/BytesIsDigitsPinLaw", "makeByte", "(JJII)J"⟩ : MethodName)) hown (mvT hZ (hw _ (List.mem_of_getElem? (i := 0) rfl))) (mvT hZ (hw _ (List.mem_of_getElem? (i := 1) rfl))) (mvT hZ (hw _ (List.mem_of_getElem? (i := 2) rfl))) (mvT hZ (hw _ (List.mem_of_getElem? (i := 3) rfl))) (by decide) (backOf (W := 2) (rm1 l Z a0 hw [] q0 q1 p2 (6 : Int32) h0 n0 Z0) hZ (hw _ (List.mem_of_getElem? (i := 3) rfl)) (hw _ (List.mem_of_getElem? (i := 2) rfl)) (by decide) (by decide)) (g := (mkF m 59 #[.val (.long q0), .second, .val (.long q1), .second, .val (.int p2), .unset, .unset, .unset] [(.int (6 : Int32)), (.int p2), (.long q1), (.long q0), (.long ((((((own_f1 q0 q1 p2 (0 : Int32)) ||| (own_f1 q0 q1 p2 (1 : Int32))) ||| (own_f1 q0 q1 p2 (2 : Int32))) ||| (own_f1 q0 q1 p2 (3 : Int32))) ||| (own_f1 q0 q1 p2 (4 : Int32))) ||| (own_f1 q0 q1 p2 (5 : Int32))))])) rfl (by rw [hml]; rfl) (argsL := [(.long q0), (.long q1), (.int p2), (.int (6 : Int32))]) (rest := [(.long ((((((own_f1 q0 q1 p2 (0 : Int32)) ||| (own_f1 q0 q1 p2 (1 : Int32))) ||| (own_f1 q0 q1 p2 (2 : Int32))) ||| (own_f1 q0 q1 p2 (3 : Int32))) ||| (own_f1 q0 q1 p2 (4 : Int32))) ||| (own_f1 q0 q1 p2 (5 : Int32))))]) (lenOf pd_0_0 rfl) rfl (by show 2 * 0 + _ ≤ _; exact Nat.le_of_eq rfl) (hb hby at_59) (fun _ _ => ⟨rfl, e6, (by decide : 0 + 0 ≤ _), (by decide : 0 + 0 ≤ _)⟩)
  dsimp only [Pt.U, Pt.locs, Pt.cells, Pt.slots] at X7 l7 y7 z7 st7 hQ7
  subst l7 y7 z7
  obtain ⟨rfl, rfl, e7⟩ := hQ7
  have X7 : Stand p l e room_1 s m #[(.long q0), (.long q1), (.int p2)] below meth c T7 [] 0 0 := own_flat X7
  refine own_step (st7) ?_
  show own_Goes p.tables e below (T7.setTop (mkF m 62 #[.val (.long q0), .second, .val (.long q1), .second, .val (.int p2), .unset, .unset, .unset] [(.long (own_f1 q0 q1 p2 (6 : Int32))), (.long ((((((own_f1 q0 q1 p2 (0 : Int32)) ||| (own_f1 q0 q1 p2 (1 : Int32))) ||| (own_f1 q0 q1 p2 (2 : Int32))) ||| (own_f1 q0 q1 p2 (3 : Int32))) ||| (own_f1 q0 q1 p2 (4 : Int32))) ||| (own_f1 q0 q1 p2 (5 : Int32))))])) _
  refine own_step (fun _ => XS.lor X7.here hx rfl (hb hby at_62) rfl) ?_
  show own_Goes p.tables e below (T7.setTop (mkF m 63 #[.val (.long q0), .second, .val (.long q1), .second, .val (.int p2), .unset, .unset, .unset] [(.long (((((((own_f1 q0 q1 p2 (0 : Int32)) ||| (own_f1 q0 q1 p2 (1 : Int32))) ||| (own_f1 q0 q1 p2 (2 : Int32))) ||| (own_f1 q0 q1 p2 (3 : Int32))) ||| (own_f1 q0 q1 p2 (4 : Int32))) ||| (own_f1 q0 q1 p2 (5 : Int32))) ||| (own_f1 q0 q1 p2 (6 : Int32))))])) _
  refine own_step (fun _ => XS.lloadN X7.here hx rfl (hb hby at_63) rfl) ?_
  show own_Goes p.tables e below (T7.setTop (mkF m 64 #[.val (.long q0), .second, .val (.long q1), .second, .val (.int p2), .unset, .unset, .unset] [(.long q0), (.long (((((((own_f1 q0 q1 p2 (0 : Int32)) ||| (own_f1 q0 q1 p2 (1 : Int32))) ||| (own_f1 q0 q1 p2 (2 : Int32))) ||| (own_f1 q0 q1 p2 (3 : Int32))) ||| (own_f1 q0 q1 p2 (4 : Int32))) ||| (own_f1 q0 q1 p2 (5 : Int32))) ||| (own_f1 q0 q1 p2 (6 : Int32))))])) _
  refine own_step (fun _ => XS.lloadN X7.here hx rfl (hb hby at_64) rfl) ?_
  show own_Goes p.tables e below (T7.setTop (mkF m 65 #[.val (.long q0), .second, .val (.long q1), .second, .val (.int p2), .unset, .unset, .unset] [(.long q1), (.long q0), (.long (((((((own_f1 q0 q1 p2 (0 : Int32)) ||| (own_f1 q0 q1 p2 (1 : Int32))) ||| (own_f1 q0 q1 p2 (2 : Int32))) ||| (own_f1 q0 q1 p2 (3 : Int32))) ||| (own_f1 q0 q1 p2 (4 : Int32))) ||| (own_f1 q0 q1 p2 (5 : Int32))) ||| (own_f1 q0 q1 p2 (6 : Int32))))])) _
  refine own_step (fun _ => XS.iload X7.here hx rfl (hb hby at_65) rfl) ?_
  show own_Goes p.tables e below (T7.setTop (mkF m 67 #[.val (.long q0), .second, .val (.long q1), .second, .val (.int p2), .unset, .unset, .unset] [(.int p2), (.long q1), (.long q0), (.long (((((((own_f1 q0 q1 p2 (0 : Int32)) ||| (own_f1 q0 q1 p2 (1 : Int32))) ||| (own_f1 q0 q1 p2 (2 : Int32))) ||| (own_f1 q0 q1 p2 (3 : Int32))) ||| (own_f1 q0 q1 p2 (4 : Int32))) ||| (own_f1 q0 q1 p2 (5 : Int32))) ||| (own_f1 q0 q1 p2 (6 : Int32))))])) _
  refine own_step (fun _ => XS.bipush X7.here hx rfl (hb hby at_67)) ?_
  show own_Goes p.tables e below (T7.setTop (mkF m 69 #[.val (.long q0), .second, .val (.long q1), .second, .val (.int p2), .unset, .unset, .unset] [(.int (7 : Int32)), (.int p2), (.long q1), (.long q0), (.long (((((((own_f1 q0 q1 p2 (0 : Int32)) ||| (own_f1 q0 q1 p2 (1 : Int32))) ||| (own_f1 q0 q1 p2 (2 : Int32))) ||| (own_f1 q0 q1 p2 (3 : Int32))) ||| (own_f1 q0 q1 p2 (4 : Int32))) ||| (own_f1 q0 q1 p2 (5 : Int32))) ||| (own_f1 q0 q1 p2 (6 : Int32))))])) _
  obtain ⟨_, _, ⟨T8, L8, k8, n8⟩, -, X8, ⟨Lc8, hQ8, l8, y8, z8⟩, st8⟩ := Jvm.LawKit.callS X7 hx (y := (⟨"com/example/kolektyv/kolektyv/records/BytesIsDigitsPinLaw", "makeByte", "(JJII)J"⟩ : MethodName)) hown (mvT hZ (hw _ (List.mem_of_getElem? (i := 0) rfl))) (mvT hZ (hw _ (List.mem_of_getElem? (i := 1) rfl))) (mvT hZ (hw _ (List.mem_of_getElem? (i := 2) rfl))) (mvT hZ (hw _ (List.mem_of_getElem? (i := 3) rfl))) (by decide) (backOf (W := 2) (rm1 l Z a0 hw [] q0 q1 p2 (7 : Int32) h0 n0 Z0) hZ (hw _ (List.mem_of_getElem? (i := 3) rfl)) (hw _ (List.mem_of_getElem? (i := 2) rfl)) (by decide) (by decide)) (g := (mkF m 69 #[.val (.long q0), .second, .val (.long q1), .second, .val (.int p2), .unset, .unset, .unset] [(.int (7 : Int32)), (.int p2), (.long q1), (.long q0), (.long (((((((own_f1 q0 q1 p2 (0 : Int32)) ||| (own_f1 q0 q1 p2 (1 : Int32))) ||| (own_f1 q0 q1 p2 (2 : Int32))) ||| (own_f1 q0 q1 p2 (3 : Int32))) ||| (own_f1 q0 q1 p2 (4 : Int32))) ||| (own_f1 q0 q1 p2 (5 : Int32))) ||| (own_f1 q0 q1 p2 (6 : Int32))))])) rfl (by rw [hml]; rfl) (argsL := [(.long q0), (.long q1), (.int p2), (.int (7 : Int32))]) (rest := [(.long (((((((own_f1 q0 q1 p2 (0 : Int32)) ||| (own_f1 q0 q1 p2 (1 : Int32))) ||| (own_f1 q0 q1 p2 (2 : Int32))) ||| (own_f1 q0 q1 p2 (3 : Int32))) ||| (own_f1 q0 q1 p2 (4 : Int32))) ||| (own_f1 q0 q1 p2 (5 : Int32))) ||| (own_f1 q0 q1 p2 (6 : Int32))))]) (lenOf pd_0_0 rfl) rfl (by show 2 * 0 + _ ≤ _; exact Nat.le_of_eq rfl) (hb hby at_69) (fun _ _ => ⟨rfl, e7, (by decide : 0 + 0 ≤ _), (by decide : 0 + 0 ≤ _)⟩)
  dsimp only [Pt.U, Pt.locs, Pt.cells, Pt.slots] at X8 l8 y8 z8 st8 hQ8
  subst l8 y8 z8
  obtain ⟨rfl, rfl, e8⟩ := hQ8
  have X8 : Stand p l e room_1 s m #[(.long q0), (.long q1), (.int p2)] below meth c T8 [] 0 0 := own_flat X8
  refine own_step (st8) ?_
  show own_Goes p.tables e below (T8.setTop (mkF m 72 #[.val (.long q0), .second, .val (.long q1), .second, .val (.int p2), .unset, .unset, .unset] [(.long (own_f1 q0 q1 p2 (7 : Int32))), (.long (((((((own_f1 q0 q1 p2 (0 : Int32)) ||| (own_f1 q0 q1 p2 (1 : Int32))) ||| (own_f1 q0 q1 p2 (2 : Int32))) ||| (own_f1 q0 q1 p2 (3 : Int32))) ||| (own_f1 q0 q1 p2 (4 : Int32))) ||| (own_f1 q0 q1 p2 (5 : Int32))) ||| (own_f1 q0 q1 p2 (6 : Int32))))])) _
  refine own_step (fun _ => XS.lor X8.here hx rfl (hb hby at_72) rfl) ?_
  show own_Goes p.tables e below (T8.setTop (mkF m 73 #[.val (.long q0), .second, .val (.long q1), .second, .val (.int p2), .unset, .unset, .unset] [(.long ((((((((own_f1 q0 q1 p2 (0 : Int32)) ||| (own_f1 q0 q1 p2 (1 : Int32))) ||| (own_f1 q0 q1 p2 (2 : Int32))) ||| (own_f1 q0 q1 p2 (3 : Int32))) ||| (own_f1 q0 q1 p2 (4 : Int32))) ||| (own_f1 q0 q1 p2 (5 : Int32))) ||| (own_f1 q0 q1 p2 (6 : Int32))) ||| (own_f1 q0 q1 p2 (7 : Int32))))])) _
  obtain ⟨z73, hz73⟩ : ∃ z : Int64, z = ((((((((own_f1 q0 q1 p2 (0 : Int32)) ||| (own_f1 q0 q1 p2 (1 : Int32))) ||| (own_f1 q0 q1 p2 (2 : Int32))) ||| (own_f1 q0 q1 p2 (3 : Int32))) ||| (own_f1 q0 q1 p2 (4 : Int32))) ||| (own_f1 q0 q1 p2 (5 : Int32))) ||| (own_f1 q0 q1 p2 (6 : Int32))) ||| (own_f1 q0 q1 p2 (7 : Int32))) := ⟨_, rfl⟩
  refine own_step (fun _ => XS.lstore X8.here hx rfl (hb hby at_73) rfl (l' := #[.val (.long q0), .second, .val (.long q1), .second, .val (.int p2), .val (.long z73), .second, .unset]) (by subst hz73; rfl)) ?_
  show own_Goes p.tables e below (T8.setTop (mkF m 75 #[.val (.long q0), .second, .val (.long q1), .second, .val (.int p2), .val (.long z73), .second, .unset] [])) _
  refine own_step (fun _ => XS.lload X8.here hx rfl (hb hby at_75) rfl) ?_
  show own_Goes p.tables e below (T8.setTop (mkF m 77 #[.val (.long q0), .second, .val (.long q1), .second, .val (.int p2), .val (.long z73), .second, .unset] [(.long z73)])) _
  refine own_step (fun _ => XS.iconst X8.here hx rfl (hb hby at_77)) ?_
  show own_Goes p.tables e below (T8.setTop (mkF m 78 #[.val (.long q0), .second, .val (.long q1), .second, .val (.int p2), .val (.long z73), .second, .unset] [(.int (0 : Int32)), (.long z73)])) _
  obtain ⟨_, _, ⟨T9, L9, k9, n9⟩, -, X9, ⟨Lc9, hQ9, l9, y9, z9⟩, st9⟩ := Jvm.LawKit.callS X8 hx (y := (⟨"com/example/kolektyv/kolektyv/records/BytesIsDigitsPinLaw", "digitAt", "(JI)Z"⟩ : MethodName)) hown (mvT hZ (hw _ (List.mem_of_getElem? (i := 5) rfl))) (mvT hZ (hw _ (List.mem_of_getElem? (i := 6) rfl))) (mvT hZ (hw _ (List.mem_of_getElem? (i := 2) rfl))) (mvT hZ (hw _ (List.mem_of_getElem? (i := 7) rfl))) (by decide) (backOf (W := 0) (rm2 l Z a0 hw [] z73 (0 : Int32) h0 n0 Z0) hZ (hw _ (List.mem_of_getElem? (i := 7) rfl)) (hw _ (List.mem_of_getElem? (i := 2) rfl)) (by decide) (by decide)) (g := (mkF m 78 #[.val (.long q0), .second, .val (.long q1), .second, .val (.int p2), .val (.long z73), .second, .unset] [(.int (0 : Int32)), (.long z73)])) rfl (by rw [hml]; rfl) (argsL := [(.long z73), (.int (0 : Int32))]) (rest := []) (lenOf pd_0_1 rfl) rfl (by show 2 * 0 + _ ≤ _; exact Nat.le_of_eq rfl) (hb hby at_78) (fun _ _ => ⟨rfl, e8, (by decide : 0 + 0 ≤ _), (by decide : 0 + 0 ≤ _)⟩)
  dsimp only [Pt.U, Pt.locs, Pt.cells, Pt.slots] at X9 l9 y9 z9 st9 hQ9
  subst l9 y9 z9
  obtain ⟨rfl, rfl, e9⟩ := hQ9
  have X9 : Stand p l e room_1 s m #[(.long q0), (.long q1), (.int p2)] below meth c T9 [] 0 0 := own_flat X9
  refine own_step (st9) ?_
  show own_Goes p.tables e below (T9.setTop (mkF m 81 #[.val (.long q0), .second, .val (.long q1), .second, .val (.int p2), .val (.long z73), .second, .unset] [(.int (own_f2 z73 (0 : Int32)))])) _
  have J154 : ∀ (T_154 : State) (X_154 : Stand p l e room_1 s m #[(.long q0), (.long q1), (.int p2)] below meth c T_154 [] 0 0) (e_154 : T_154.heap = h0) (v154_t0 : Int32), own_Goes p.tables e below (T_154.setTop (mkF m 154 #[.val (.long q0), .second, .val (.long q1), .second, .val (.int p2), .val (.long z73), .second, .unset] [(.int v154_t0)])) (own_P s (own_Ql (some (.int (own_f0_154 z73 v154_t0))) n0) 0 0) := by
    intro T_154 X_154 e_154 v154_t0
    refine own_step (fun _ => XS.istore X_154.here hx rfl (hb hby at_154) rfl (l' := #[.val (.long q0), .second, .val (.long q1), .second, .val (.int p2), .val (.long z73), .second, .val (.int v154_t0)]) rfl) ?_
    show own_Goes p.tables e below (T_154.setTop (mkF m 156 #[.val (.long q0), .second, .val (.long q1), .second, .val (.int p2), .val (.long z73), .second, .val (.int v154_t0)] [])) _
    refine own_step (fun _ => XS.lload X_154.here hx rfl (hb hby at_156) rfl) ?_
    show own_Goes p.tables e below (T_154.setTop (mkF m 158 #[.val (.long q0), .second, .val (.long q1), .second, .val (.int p2), .val (.long z73), .second, .val (.int v154_t0)] [(.long z73)])) _
    obtain ⟨_, _, ⟨T10, L10, k10, n10⟩, -, X10, ⟨Lc10, hQ10, l10, y10, z10⟩, st10⟩ := Jvm.LawKit.callS X_154 hx (y := (⟨"com/example/kolektyv/kolektyv/records/Bytes", "isDigits", "(J)Z"⟩ : MethodName)) hown (mvT hZ (hw _ (List.mem_of_getElem? (i := 8) rfl))) (mvT hZ (hw _ (List.mem_of_getElem? (i := 9) rfl))) (mvT hZ (hw _ (List.mem_of_getElem? (i := 10) rfl))) (mvT hZ (hw _ (List.mem_of_getElem? (i := 11) rfl))) (by decide) (backOf (W := 0) (rm3 l Z a0 hw [] z73 h0 n0 Z0) hZ (hw _ (List.mem_of_getElem? (i := 11) rfl)) (hw _ (List.mem_of_getElem? (i := 10) rfl)) (by decide) (by decide)) (g := (mkF m 158 #[.val (.long q0), .second, .val (.long q1), .second, .val (.int p2), .val (.long z73), .second, .val (.int v154_t0)] [(.long z73)])) rfl (by rw [hml]; rfl) (argsL := [(.long z73)]) (rest := []) (lenOf pd_0_2 rfl) rfl (by show 2 * 0 + _ ≤ _; exact Nat.le_of_eq rfl) (hb hby at_158) (fun _ _ => ⟨rfl, e_154, (by decide : 0 + 0 ≤ _), (by decide : 0 + 0 ≤ _)⟩)
    dsimp only [Pt.U, Pt.locs, Pt.cells, Pt.slots] at X10 l10 y10 z10 st10 hQ10
    subst l10 y10 z10
    obtain ⟨rfl, rfl, e10⟩ := hQ10
    have X10 : Stand p l e room_1 s m #[(.long q0), (.long q1), (.int p2)] below meth c T10 [] 0 0 := own_flat X10
    refine own_step (st10) ?_
    show own_Goes p.tables e below (T10.setTop (mkF m 161 #[.val (.long q0), .second, .val (.long q1), .second, .val (.int p2), .val (.long z73), .second, .val (.int v154_t0)] [(.int (own_f3 z73))])) _
    refine own_step (fun _ => XS.iload X10.here hx rfl (hb hby at_161) rfl) ?_
    show own_Goes p.tables e below (T10.setTop (mkF m 163 #[.val (.long q0), .second, .val (.long q1), .second, .val (.int p2), .val (.long z73), .second, .val (.int v154_t0)] [(.int v154_t0), (.int (own_f3 z73))])) _
    by_cases hc163 : (own_f3 z73) = v154_t0
    · refine own_step (fun _ => XS.icmpNo X10.here hx rfl (hb hby at_163) rfl (Jvm.Free.XT.ii_ne_f hc163)) ?_
      show own_Goes p.tables e below (T10.setTop (mkF m 166 #[.val (.long q0), .second, .val (.long q1), .second, .val (.int p2), .val (.long z73), .second, .val (.int v154_t0)] [])) _
      refine own_step (fun _ => XS.iconst X10.here hx rfl (hb hby at_166)) ?_
      show own_Goes p.tables e below (T10.setTop (mkF m 167 #[.val (.long q0), .second, .val (.long q1), .second, .val (.int p2), .val (.long z73), .second, .val (.int v154_t0)] [(.int (1 : Int32))])) _
      refine own_step (fun _ => XS.goto X10.here hx rfl (pc0 := 167) (pc' := 171) rfl (hb hby at_167) (by decide) (by decide)) ?_
      show own_Goes p.tables e below (T10.setTop (mkF m 171 #[.val (.long q0), .second, .val (.long q1), .second, .val (.int p2), .val (.long z73), .second, .val (.int v154_t0)] [(.int (1 : Int32))])) _
      have hv : (own_f0_154 z73 v154_t0) = (1 : Int32) := by exact (if_pos hc163)
      rw [hv]
      exact own_retN X10 hx (t := .boolean) Bd.returns (by simp) (hb hby at_171) (BodyLoose.notSynchronized Bd) (w := (1 : Int32)) rfl ⟨rfl, N0⟩ (by decide) (by decide)
    · refine own_step (fun _ => XS.icmpYes X10.here hx rfl (pc0 := 163) (pc' := 170) rfl (hb hby at_163) rfl (Jvm.Free.XT.ii_ne_t hc163) (by decide) (by decide)) ?_
      show own_Goes p.tables e below (T10.setTop (mkF m 170 #[.val (.long q0), .second, .val (.long q1), .second, .val (.int p2), .val (.long z73), .second, .val (.int v154_t0)] [])) _
      refine own_step (fun _ => XS.iconst X10.here hx rfl (hb hby at_170)) ?_
      show own_Goes p.tables e below (T10.setTop (mkF m 171 #[.val (.long q0), .second, .val (.long q1), .second, .val (.int p2), .val (.long z73), .second, .val (.int v154_t0)] [(.int (0 : Int32))])) _
      have hv : (own_f0_154 z73 v154_t0) = (0 : Int32) := by exact (if_neg hc163)
      rw [hv]
      exact own_retN X10 hx (t := .boolean) Bd.returns (by simp) (hb hby at_171) (BodyLoose.notSynchronized Bd) (w := (0 : Int32)) rfl ⟨rfl, N0⟩ (by decide) (by decide)
  have J153 : ∀ (T_153 : State) (X_153 : Stand p l e room_1 s m #[(.long q0), (.long q1), (.int p2)] below meth c T_153 [] 0 0) (e_153 : T_153.heap = h0), own_Goes p.tables e below (T_153.setTop (mkF m 153 #[.val (.long q0), .second, .val (.long q1), .second, .val (.int p2), .val (.long z73), .second, .unset] [])) (own_P s (own_Ql (some (.int (own_f0_153 z73))) n0) 0 0) := by
    intro T_153 X_153 e_153
    refine own_step (fun _ => XS.iconst X_153.here hx rfl (hb hby at_153)) ?_
    show own_Goes p.tables e below (T_153.setTop (mkF m 154 #[.val (.long q0), .second, .val (.long q1), .second, .val (.int p2), .val (.long z73), .second, .unset] [(.int (0 : Int32))])) _
    have hv : (own_f0_153 z73) = (own_f0_154 z73 (0 : Int32)) := by exact rfl
    rw [hv]
    exact J154 T_153 X_153 e_153 (0 : Int32)
  by_cases hc81 : (own_f2 z73 (0 : Int32)) = 0
  · refine own_step (fun _ => XS.ifYes X9.here hx rfl (pc0 := 81) (pc' := 153) rfl (hb hby at_81) rfl (Jvm.Free.XT.i0_eq_t hc81) (by decide) (by decide)) ?_
    show own_Goes p.tables e below (T9.setTop (mkF m 153 #[.val (.long q0), .second, .val (.long q1), .second, .val (.int p2), .val (.long z73), .second, .unset] [])) _
    have hv : (own_f0 q0 q1 p2) = (own_f0_153 z73) := by subst hz73; exact (if_pos hc81)
    rw [hv]
    exact J153 T9 X9 e9
  · refine own_step (fun _ => XS.ifNo X9.here hx rfl (hb hby at_81) rfl (Jvm.Free.XT.i0_eq_f hc81)) ?_
    show own_Goes p.tables e below (T9.setTop (mkF m 84 #[.val (.long q0), .second, .val (.long q1), .second, .val (.int p2), .val (.long z73), .second, .unset] [])) _
    refine own_step (fun _ => XS.lload X9.here hx rfl (hb hby at_84) rfl) ?_
    show own_Goes p.tables e below (T9.setTop (mkF m 86 #[.val (.long q0), .second, .val (.long q1), .second, .val (.int p2), .val (.long z73), .second, .unset] [(.long z73)])) _
    refine own_step (fun _ => XS.iconst X9.here hx rfl (hb hby at_86)) ?_
    show own_Goes p.tables e below (T9.setTop (mkF m 87 #[.val (.long q0), .second, .val (.long q1), .second, .val (.int p2), .val (.long z73), .second, .unset] [(.int (1 : Int32)), (.long z73)])) _
    obtain ⟨_, _, ⟨T11, L11, k11, n11⟩, -, X11, ⟨Lc11, hQ11, l11, y11, z11⟩, st11⟩ := Jvm.LawKit.callS X9 hx (y := (⟨"com/example/kolektyv/kolektyv/records/BytesIsDigitsPinLaw", "digitAt", "(JI)Z"⟩ : MethodName)) hown (mvT hZ (hw _ (List.mem_of_getElem? (i := 5) rfl))) (mvT hZ (hw _ (List.mem_of_getElem? (i := 6) rfl))) (mvT hZ (hw _ (List.mem_of_getElem? (i := 2) rfl))) (mvT hZ (hw _ (List.mem_of_getElem? (i := 7) rfl))) (by decide) (backOf (W := 0) (rm2 l Z a0 hw [] z73 (1 : Int32) h0 n0 Z0) hZ (hw _ (List.mem_of_getElem? (i := 7) rfl)) (hw _ (List.mem_of_getElem? (i := 2) rfl)) (by decide) (by decide)) (g := (mkF m 87 #[.val (.long q0), .second, .val (.long q1), .second, .val (.int p2), .val (.long z73), .second, .unset] [(.int (1 : Int32)), (.long z73)])) rfl (by rw [hml]; rfl) (argsL := [(.long z73), (.int (1 : Int32))]) (rest := []) (lenOf pd_0_1 rfl) rfl (by show 2 * 0 + _ ≤ _; exact Nat.le_of_eq rfl) (hb hby at_87) (fun _ _ => ⟨rfl, e9, (by decide : 0 + 0 ≤ _), (by decide : 0 + 0 ≤ _)⟩)
    dsimp only [Pt.U, Pt.locs, Pt.cells, Pt.slots] at X11 l11 y11 z11 st11 hQ11
    subst l11 y11 z11
    obtain ⟨rfl, rfl, e11⟩ := hQ11
    have X11 : Stand p l e room_1 s m #[(.long q0), (.long q1), (.int p2)] below meth c T11 [] 0 0 := own_flat X11
    refine own_step (st11) ?_
    show own_Goes p.tables e below (T11.setTop (mkF m 90 #[.val (.long q0), .second, .val (.long q1), .second, .val (.int p2), .val (.long z73), .second, .unset] [(.int (own_f2 z73 (1 : Int32)))])) _
    by_cases hc90 : (own_f2 z73 (1 : Int32)) = 0
    · refine own_step (fun _ => XS.ifYes X11.here hx rfl (pc0 := 90) (pc' := 153) rfl (hb hby at_90) rfl (Jvm.Free.XT.i0_eq_t hc90) (by decide) (by decide)) ?_
      show own_Goes p.tables e below (T11.setTop (mkF m 153 #[.val (.long q0), .second, .val (.long q1), .second, .val (.int p2), .val (.long z73), .second, .unset] [])) _
      have hv : (own_f0 q0 q1 p2) = (own_f0_153 z73) := by subst hz73; exact ((if_neg hc81)).trans (if_pos hc90)
      rw [hv]
      exact J153 T11 X11 e11
    · refine own_step (fun _ => XS.ifNo X11.here hx rfl (hb hby at_90) rfl (Jvm.Free.XT.i0_eq_f hc90)) ?_
      show own_Goes p.tables e below (T11.setTop (mkF m 93 #[.val (.long q0), .second, .val (.long q1), .second, .val (.int p2), .val (.long z73), .second, .unset] [])) _
      refine own_step (fun _ => XS.lload X11.here hx rfl (hb hby at_93) rfl) ?_
      show own_Goes p.tables e below (T11.setTop (mkF m 95 #[.val (.long q0), .second, .val (.long q1), .second, .val (.int p2), .val (.long z73), .second, .unset] [(.long z73)])) _
      refine own_step (fun _ => XS.iconst X11.here hx rfl (hb hby at_95)) ?_
      show own_Goes p.tables e below (T11.setTop (mkF m 96 #[.val (.long q0), .second, .val (.long q1), .second, .val (.int p2), .val (.long z73), .second, .unset] [(.int (2 : Int32)), (.long z73)])) _
      obtain ⟨_, _, ⟨T12, L12, k12, n12⟩, -, X12, ⟨Lc12, hQ12, l12, y12, z12⟩, st12⟩ := Jvm.LawKit.callS X11 hx (y := (⟨"com/example/kolektyv/kolektyv/records/BytesIsDigitsPinLaw", "digitAt", "(JI)Z"⟩ : MethodName)) hown (mvT hZ (hw _ (List.mem_of_getElem? (i := 5) rfl))) (mvT hZ (hw _ (List.mem_of_getElem? (i := 6) rfl))) (mvT hZ (hw _ (List.mem_of_getElem? (i := 2) rfl))) (mvT hZ (hw _ (List.mem_of_getElem? (i := 7) rfl))) (by decide) (backOf (W := 0) (rm2 l Z a0 hw [] z73 (2 : Int32) h0 n0 Z0) hZ (hw _ (List.mem_of_getElem? (i := 7) rfl)) (hw _ (List.mem_of_getElem? (i := 2) rfl)) (by decide) (by decide)) (g := (mkF m 96 #[.val (.long q0), .second, .val (.long q1), .second, .val (.int p2), .val (.long z73), .second, .unset] [(.int (2 : Int32)), (.long z73)])) rfl (by rw [hml]; rfl) (argsL := [(.long z73), (.int (2 : Int32))]) (rest := []) (lenOf pd_0_1 rfl) rfl (by show 2 * 0 + _ ≤ _; exact Nat.le_of_eq rfl) (hb hby at_96) (fun _ _ => ⟨rfl, e11, (by decide : 0 + 0 ≤ _), (by decide : 0 + 0 ≤ _)⟩)
      dsimp only [Pt.U, Pt.locs, Pt.cells, Pt.slots] at X12 l12 y12 z12 st12 hQ12
      subst l12 y12 z12
      obtain ⟨rfl, rfl, e12⟩ := hQ12
      have X12 : Stand p l e room_1 s m #[(.long q0), (.long q1), (.int p2)] below meth c T12 [] 0 0 := own_flat X12
      refine own_step (st12) ?_
      show own_Goes p.tables e below (T12.setTop (mkF m 99 #[.val (.long q0), .second, .val (.long q1), .second, .val (.int p2), .val (.long z73), .second, .unset] [(.int (own_f2 z73 (2 : Int32)))])) _
      by_cases hc99 : (own_f2 z73 (2 : Int32)) = 0
      · refine own_step (fun _ => XS.ifYes X12.here hx rfl (pc0 := 99) (pc' := 153) rfl (hb hby at_99) rfl (Jvm.Free.XT.i0_eq_t hc99) (by decide) (by decide)) ?_
        show own_Goes p.tables e below (T12.setTop (mkF m 153 #[.val (.long q0), .second, .val (.long q1), .second, .val (.int p2), .val (.long z73), .second, .unset] [])) _
        have hv : (own_f0 q0 q1 p2) = (own_f0_153 z73) := by subst hz73; exact (((if_neg hc81)).trans (if_neg hc90)).trans (if_pos hc99)
        rw [hv]
        exact J153 T12 X12 e12
      · refine own_step (fun _ => XS.ifNo X12.here hx rfl (hb hby at_99) rfl (Jvm.Free.XT.i0_eq_f hc99)) ?_
        show own_Goes p.tables e below (T12.setTop (mkF m 102 #[.val (.long q0), .second, .val (.long q1), .second, .val (.int p2), .val (.long z73), .second, .unset] [])) _
        refine own_step (fun _ => XS.lload X12.here hx rfl (hb hby at_102) rfl) ?_
        show own_Goes p.tables e below (T12.setTop (mkF m 104 #[.val (.long q0), .second, .val (.long q1), .second, .val (.int p2), .val (.long z73), .second, .unset] [(.long z73)])) _
        refine own_step (fun _ => XS.iconst X12.here hx rfl (hb hby at_104)) ?_
        show own_Goes p.tables e below (T12.setTop (mkF m 105 #[.val (.long q0), .second, .val (.long q1), .second, .val (.int p2), .val (.long z73), .second, .unset] [(.int (3 : Int32)), (.long z73)])) _
        obtain ⟨_, _, ⟨T13, L13, k13, n13⟩, -, X13, ⟨Lc13, hQ13, l13, y13, z13⟩, st13⟩ := Jvm.LawKit.callS X12 hx (y := (⟨"com/example/kolektyv/kolektyv/records/BytesIsDigitsPinLaw", "digitAt", "(JI)Z"⟩ : MethodName)) hown (mvT hZ (hw _ (List.mem_of_getElem? (i := 5) rfl))) (mvT hZ (hw _ (List.mem_of_getElem? (i := 6) rfl))) (mvT hZ (hw _ (List.mem_of_getElem? (i := 2) rfl))) (mvT hZ (hw _ (List.mem_of_getElem? (i := 7) rfl))) (by decide) (backOf (W := 0) (rm2 l Z a0 hw [] z73 (3 : Int32) h0 n0 Z0) hZ (hw _ (List.mem_of_getElem? (i := 7) rfl)) (hw _ (List.mem_of_getElem? (i := 2) rfl)) (by decide) (by decide)) (g := (mkF m 105 #[.val (.long q0), .second, .val (.long q1), .second, .val (.int p2), .val (.long z73), .second, .unset] [(.int (3 : Int32)), (.long z73)])) rfl (by rw [hml]; rfl) (argsL := [(.long z73), (.int (3 : Int32))]) (rest := []) (lenOf pd_0_1 rfl) rfl (by show 2 * 0 + _ ≤ _; exact Nat.le_of_eq rfl) (hb hby at_105) (fun _ _ => ⟨rfl, e12, (by decide : 0 + 0 ≤ _), (by decide : 0 + 0 ≤ _)⟩)
        dsimp only [Pt.U, Pt.locs, Pt.cells, Pt.slots] at X13 l13 y13 z13 st13 hQ13
        subst l13 y13 z13
        obtain ⟨rfl, rfl, e13⟩ := hQ13
        have X13 : Stand p l e room_1 s m #[(.long q0), (.long q1), (.int p2)] below meth c T13 [] 0 0 := own_flat X13
        refine own_step (st13) ?_
        show own_Goes p.tables e below (T13.setTop (mkF m 108 #[.val (.long q0), .second, .val (.long q1), .second, .val (.int p2), .val (.long z73), .second, .unset] [(.int (own_f2 z73 (3 : Int32)))])) _
        by_cases hc108 : (own_f2 z73 (3 : Int32)) = 0
        · refine own_step (fun _ => XS.ifYes X13.here hx rfl (pc0 := 108) (pc' := 153) rfl (hb hby at_108) rfl (Jvm.Free.XT.i0_eq_t hc108) (by decide) (by decide)) ?_
          show own_Goes p.tables e below (T13.setTop (mkF m 153 #[.val (.long q0), .second, .val (.long q1), .second, .val (.int p2), .val (.long z73), .second, .unset] [])) _
          have hv : (own_f0 q0 q1 p2) = (own_f0_153 z73) := by subst hz73; exact ((((if_neg hc81)).trans (if_neg hc90)).trans (if_neg hc99)).trans (if_pos hc108)
          rw [hv]
          exact J153 T13 X13 e13
        · refine own_step (fun _ => XS.ifNo X13.here hx rfl (hb hby at_108) rfl (Jvm.Free.XT.i0_eq_f hc108)) ?_
          show own_Goes p.tables e below (T13.setTop (mkF m 111 #[.val (.long q0), .second, .val (.long q1), .second, .val (.int p2), .val (.long z73), .second, .unset] [])) _
          refine own_step (fun _ => XS.lload X13.here hx rfl (hb hby at_111) rfl) ?_
          show own_Goes p.tables e below (T13.setTop (mkF m 113 #[.val (.long q0), .second, .val (.long q1), .second, .val (.int p2), .val (.long z73), .second, .unset] [(.long z73)])) _
          refine own_step (fun _ => XS.iconst X13.here hx rfl (hb hby at_113)) ?_
          show own_Goes p.tables e below (T13.setTop (mkF m 114 #[.val (.long q0), .second, .val (.long q1), .second, .val (.int p2), .val (.long z73), .second, .unset] [(.int (4 : Int32)), (.long z73)])) _
          obtain ⟨_, _, ⟨T14, L14, k14, n14⟩, -, X14, ⟨Lc14, hQ14, l14, y14, z14⟩, st14⟩ := Jvm.LawKit.callS X13 hx (y := (⟨"com/example/kolektyv/kolektyv/records/BytesIsDigitsPinLaw", "digitAt", "(JI)Z"⟩ : MethodName)) hown (mvT hZ (hw _ (List.mem_of_getElem? (i := 5) rfl))) (mvT hZ (hw _ (List.mem_of_getElem? (i := 6) rfl))) (mvT hZ (hw _ (List.mem_of_getElem? (i := 2) rfl))) (mvT hZ (hw _ (List.mem_of_getElem? (i := 7) rfl))) (by decide) (backOf (W := 0) (rm2 l Z a0 hw [] z73 (4 : Int32) h0 n0 Z0) hZ (hw _ (List.mem_of_getElem? (i := 7) rfl)) (hw _ (List.mem_of_getElem? (i := 2) rfl)) (by decide) (by decide)) (g := (mkF m 114 #[.val (.long q0), .second, .val (.long q1), .second, .val (.int p2), .val (.long z73), .second, .unset] [(.int (4 : Int32)), (.long z73)])) rfl (by rw [hml]; rfl) (argsL := [(.long z73), (.int (4 : Int32))]) (rest := []) (lenOf pd_0_1 rfl) rfl (by show 2 * 0 + _ ≤ _; exact Nat.le_of_eq rfl) (hb hby at_114) (fun _ _ => ⟨rfl, e13, (by decide : 0 + 0 ≤ _), (by decide : 0 + 0 ≤ _)⟩)
          dsimp only [Pt.U, Pt.locs, Pt.cells, Pt.slots] at X14 l14 y14 z14 st14 hQ14
          subst l14 y14 z14
          obtain ⟨rfl, rfl, e14⟩ := hQ14
          have X14 : Stand p l e room_1 s m #[(.long q0), (.long q1), (.int p2)] below meth c T14 [] 0 0 := own_flat X14
          refine own_step (st14) ?_
          show own_Goes p.tables e below (T14.setTop (mkF m 117 #[.val (.long q0), .second, .val (.long q1), .second, .val (.int p2), .val (.long z73), .second, .unset] [(.int (own_f2 z73 (4 : Int32)))])) _
          by_cases hc117 : (own_f2 z73 (4 : Int32)) = 0
          · refine own_step (fun _ => XS.ifYes X14.here hx rfl (pc0 := 117) (pc' := 153) rfl (hb hby at_117) rfl (Jvm.Free.XT.i0_eq_t hc117) (by decide) (by decide)) ?_
            show own_Goes p.tables e below (T14.setTop (mkF m 153 #[.val (.long q0), .second, .val (.long q1), .second, .val (.int p2), .val (.long z73), .second, .unset] [])) _
            have hv : (own_f0 q0 q1 p2) = (own_f0_153 z73) := by subst hz73; exact (((((if_neg hc81)).trans (if_neg hc90)).trans (if_neg hc99)).trans (if_neg hc108)).trans (if_pos hc117)
            rw [hv]
            exact J153 T14 X14 e14
          · refine own_step (fun _ => XS.ifNo X14.here hx rfl (hb hby at_117) rfl (Jvm.Free.XT.i0_eq_f hc117)) ?_
            show own_Goes p.tables e below (T14.setTop (mkF m 120 #[.val (.long q0), .second, .val (.long q1), .second, .val (.int p2), .val (.long z73), .second, .unset] [])) _
            refine own_step (fun _ => XS.lload X14.here hx rfl (hb hby at_120) rfl) ?_
            show own_Goes p.tables e below (T14.setTop (mkF m 122 #[.val (.long q0), .second, .val (.long q1), .second, .val (.int p2), .val (.long z73), .second, .unset] [(.long z73)])) _
            refine own_step (fun _ => XS.iconst X14.here hx rfl (hb hby at_122)) ?_
            show own_Goes p.tables e below (T14.setTop (mkF m 123 #[.val (.long q0), .second, .val (.long q1), .second, .val (.int p2), .val (.long z73), .second, .unset] [(.int (5 : Int32)), (.long z73)])) _
            obtain ⟨_, _, ⟨T15, L15, k15, n15⟩, -, X15, ⟨Lc15, hQ15, l15, y15, z15⟩, st15⟩ := Jvm.LawKit.callS X14 hx (y := (⟨"com/example/kolektyv/kolektyv/records/BytesIsDigitsPinLaw", "digitAt", "(JI)Z"⟩ : MethodName)) hown (mvT hZ (hw _ (List.mem_of_getElem? (i := 5) rfl))) (mvT hZ (hw _ (List.mem_of_getElem? (i := 6) rfl))) (mvT hZ (hw _ (List.mem_of_getElem? (i := 2) rfl))) (mvT hZ (hw _ (List.mem_of_getElem? (i := 7) rfl))) (by decide) (backOf (W := 0) (rm2 l Z a0 hw [] z73 (5 : Int32) h0 n0 Z0) hZ (hw _ (List.mem_of_getElem? (i := 7) rfl)) (hw _ (List.mem_of_getElem? (i := 2) rfl)) (by decide) (by decide)) (g := (mkF m 123 #[.val (.long q0), .second, .val (.long q1), .second, .val (.int p2), .val (.long z73), .second, .unset] [(.int (5 : Int32)), (.long z73)])) rfl (by rw [hml]; rfl) (argsL := [(.long z73), (.int (5 : Int32))]) (rest := []) (lenOf pd_0_1 rfl) rfl (by show 2 * 0 + _ ≤ _; exact Nat.le_of_eq rfl) (hb hby at_123) (fun _ _ => ⟨rfl, e14, (by decide : 0 + 0 ≤ _), (by decide : 0 + 0 ≤ _)⟩)
            dsimp only [Pt.U, Pt.locs, Pt.cells, Pt.slots] at X15 l15 y15 z15 st15 hQ15
            subst l15 y15 z15
            obtain ⟨rfl, rfl, e15⟩ := hQ15
            have X15 : Stand p l e room_1 s m #[(.long q0), (.long q1), (.int p2)] below meth c T15 [] 0 0 := own_flat X15
            refine own_step (st15) ?_
            show own_Goes p.tables e below (T15.setTop (mkF m 126 #[.val (.long q0), .second, .val (.long q1), .second, .val (.int p2), .val (.long z73), .second, .unset] [(.int (own_f2 z73 (5 : Int32)))])) _
            by_cases hc126 : (own_f2 z73 (5 : Int32)) = 0
            · refine own_step (fun _ => XS.ifYes X15.here hx rfl (pc0 := 126) (pc' := 153) rfl (hb hby at_126) rfl (Jvm.Free.XT.i0_eq_t hc126) (by decide) (by decide)) ?_
              show own_Goes p.tables e below (T15.setTop (mkF m 153 #[.val (.long q0), .second, .val (.long q1), .second, .val (.int p2), .val (.long z73), .second, .unset] [])) _
              have hv : (own_f0 q0 q1 p2) = (own_f0_153 z73) := by subst hz73; exact ((((((if_neg hc81)).trans (if_neg hc90)).trans (if_neg hc99)).trans (if_neg hc108)).trans (if_neg hc117)).trans (if_pos hc126)
              rw [hv]
              exact J153 T15 X15 e15
            · refine own_step (fun _ => XS.ifNo X15.here hx rfl (hb hby at_126) rfl (Jvm.Free.XT.i0_eq_f hc126)) ?_
              show own_Goes p.tables e below (T15.setTop (mkF m 129 #[.val (.long q0), .second, .val (.long q1), .second, .val (.int p2), .val (.long z73), .second, .unset] [])) _
              refine own_step (fun _ => XS.lload X15.here hx rfl (hb hby at_129) rfl) ?_
              show own_Goes p.tables e below (T15.setTop (mkF m 131 #[.val (.long q0), .second, .val (.long q1), .second, .val (.int p2), .val (.long z73), .second, .unset] [(.long z73)])) _
              refine own_step (fun _ => XS.bipush X15.here hx rfl (hb hby at_131)) ?_
              show own_Goes p.tables e below (T15.setTop (mkF m 133 #[.val (.long q0), .second, .val (.long q1), .second, .val (.int p2), .val (.long z73), .second, .unset] [(.int (6 : Int32)), (.long z73)])) _
              obtain ⟨_, _, ⟨T16, L16, k16, n16⟩, -, X16, ⟨Lc16, hQ16, l16, y16, z16⟩, st16⟩ := Jvm.LawKit.callS X15 hx (y := (⟨"com/example/kolektyv/kolektyv/records/BytesIsDigitsPinLaw", "digitAt", "(JI)Z"⟩ : MethodName)) hown (mvT hZ (hw _ (List.mem_of_getElem? (i := 5) rfl))) (mvT hZ (hw _ (List.mem_of_getElem? (i := 6) rfl))) (mvT hZ (hw _ (List.mem_of_getElem? (i := 2) rfl))) (mvT hZ (hw _ (List.mem_of_getElem? (i := 7) rfl))) (by decide) (backOf (W := 0) (rm2 l Z a0 hw [] z73 (6 : Int32) h0 n0 Z0) hZ (hw _ (List.mem_of_getElem? (i := 7) rfl)) (hw _ (List.mem_of_getElem? (i := 2) rfl)) (by decide) (by decide)) (g := (mkF m 133 #[.val (.long q0), .second, .val (.long q1), .second, .val (.int p2), .val (.long z73), .second, .unset] [(.int (6 : Int32)), (.long z73)])) rfl (by rw [hml]; rfl) (argsL := [(.long z73), (.int (6 : Int32))]) (rest := []) (lenOf pd_0_1 rfl) rfl (by show 2 * 0 + _ ≤ _; exact Nat.le_of_eq rfl) (hb hby at_133) (fun _ _ => ⟨rfl, e15, (by decide : 0 + 0 ≤ _), (by decide : 0 + 0 ≤ _)⟩)
              dsimp only [Pt.U, Pt.locs, Pt.cells, Pt.slots] at X16 l16 y16 z16 st16 hQ16
              subst l16 y16 z16
              obtain ⟨rfl, rfl, e16⟩ := hQ16
              have X16 : Stand p l e room_1 s m #[(.long q0), (.long q1), (.int p2)] below meth c T16 [] 0 0 := own_flat X16
              refine own_step (st16) ?_
              show own_Goes p.tables e below (T16.setTop (mkF m 136 #[.val (.long q0), .second, .val (.long q1), .second, .val (.int p2), .val (.long z73), .second, .unset] [(.int (own_f2 z73 (6 : Int32)))])) _
              by_cases hc136 : (own_f2 z73 (6 : Int32)) = 0
              · refine own_step (fun _ => XS.ifYes X16.here hx rfl (pc0 := 136) (pc' := 153) rfl (hb hby at_136) rfl (Jvm.Free.XT.i0_eq_t hc136) (by decide) (by decide)) ?_
                show own_Goes p.tables e below (T16.setTop (mkF m 153 #[.val (.long q0), .second, .val (.long q1), .second, .val (.int p2), .val (.long z73), .second, .unset] [])) _
                have hv : (own_f0 q0 q1 p2) = (own_f0_153 z73) := by subst hz73; exact (((((((if_neg hc81)).trans (if_neg hc90)).trans (if_neg hc99)).trans (if_neg hc108)).trans (if_neg hc117)).trans (if_neg hc126)).trans (if_pos hc136)
                rw [hv]
                exact J153 T16 X16 e16
              · refine own_step (fun _ => XS.ifNo X16.here hx rfl (hb hby at_136) rfl (Jvm.Free.XT.i0_eq_f hc136)) ?_
                show own_Goes p.tables e below (T16.setTop (mkF m 139 #[.val (.long q0), .second, .val (.long q1), .second, .val (.int p2), .val (.long z73), .second, .unset] [])) _
                refine own_step (fun _ => XS.lload X16.here hx rfl (hb hby at_139) rfl) ?_
                show own_Goes p.tables e below (T16.setTop (mkF m 141 #[.val (.long q0), .second, .val (.long q1), .second, .val (.int p2), .val (.long z73), .second, .unset] [(.long z73)])) _
                refine own_step (fun _ => XS.bipush X16.here hx rfl (hb hby at_141)) ?_
                show own_Goes p.tables e below (T16.setTop (mkF m 143 #[.val (.long q0), .second, .val (.long q1), .second, .val (.int p2), .val (.long z73), .second, .unset] [(.int (7 : Int32)), (.long z73)])) _
                obtain ⟨_, _, ⟨T17, L17, k17, n17⟩, -, X17, ⟨Lc17, hQ17, l17, y17, z17⟩, st17⟩ := Jvm.LawKit.callS X16 hx (y := (⟨"com/example/kolektyv/kolektyv/records/BytesIsDigitsPinLaw", "digitAt", "(JI)Z"⟩ : MethodName)) hown (mvT hZ (hw _ (List.mem_of_getElem? (i := 5) rfl))) (mvT hZ (hw _ (List.mem_of_getElem? (i := 6) rfl))) (mvT hZ (hw _ (List.mem_of_getElem? (i := 2) rfl))) (mvT hZ (hw _ (List.mem_of_getElem? (i := 7) rfl))) (by decide) (backOf (W := 0) (rm2 l Z a0 hw [] z73 (7 : Int32) h0 n0 Z0) hZ (hw _ (List.mem_of_getElem? (i := 7) rfl)) (hw _ (List.mem_of_getElem? (i := 2) rfl)) (by decide) (by decide)) (g := (mkF m 143 #[.val (.long q0), .second, .val (.long q1), .second, .val (.int p2), .val (.long z73), .second, .unset] [(.int (7 : Int32)), (.long z73)])) rfl (by rw [hml]; rfl) (argsL := [(.long z73), (.int (7 : Int32))]) (rest := []) (lenOf pd_0_1 rfl) rfl (by show 2 * 0 + _ ≤ _; exact Nat.le_of_eq rfl) (hb hby at_143) (fun _ _ => ⟨rfl, e16, (by decide : 0 + 0 ≤ _), (by decide : 0 + 0 ≤ _)⟩)
                dsimp only [Pt.U, Pt.locs, Pt.cells, Pt.slots] at X17 l17 y17 z17 st17 hQ17
                subst l17 y17 z17
                obtain ⟨rfl, rfl, e17⟩ := hQ17
                have X17 : Stand p l e room_1 s m #[(.long q0), (.long q1), (.int p2)] below meth c T17 [] 0 0 := own_flat X17
                refine own_step (st17) ?_
                show own_Goes p.tables e below (T17.setTop (mkF m 146 #[.val (.long q0), .second, .val (.long q1), .second, .val (.int p2), .val (.long z73), .second, .unset] [(.int (own_f2 z73 (7 : Int32)))])) _
                by_cases hc146 : (own_f2 z73 (7 : Int32)) = 0
                · refine own_step (fun _ => XS.ifYes X17.here hx rfl (pc0 := 146) (pc' := 153) rfl (hb hby at_146) rfl (Jvm.Free.XT.i0_eq_t hc146) (by decide) (by decide)) ?_
                  show own_Goes p.tables e below (T17.setTop (mkF m 153 #[.val (.long q0), .second, .val (.long q1), .second, .val (.int p2), .val (.long z73), .second, .unset] [])) _
                  have hv : (own_f0 q0 q1 p2) = (own_f0_153 z73) := by subst hz73; exact ((((((((if_neg hc81)).trans (if_neg hc90)).trans (if_neg hc99)).trans (if_neg hc108)).trans (if_neg hc117)).trans (if_neg hc126)).trans (if_neg hc136)).trans (if_pos hc146)
                  rw [hv]
                  exact J153 T17 X17 e17
                · refine own_step (fun _ => XS.ifNo X17.here hx rfl (hb hby at_146) rfl (Jvm.Free.XT.i0_eq_f hc146)) ?_
                  show own_Goes p.tables e below (T17.setTop (mkF m 149 #[.val (.long q0), .second, .val (.long q1), .second, .val (.int p2), .val (.long z73), .second, .unset] [])) _
                  refine own_step (fun _ => XS.iconst X17.here hx rfl (hb hby at_149)) ?_
                  show own_Goes p.tables e below (T17.setTop (mkF m 150 #[.val (.long q0), .second, .val (.long q1), .second, .val (.int p2), .val (.long z73), .second, .unset] [(.int (1 : Int32))])) _
                  refine own_step (fun _ => XS.goto X17.here hx rfl (pc0 := 150) (pc' := 154) rfl (hb hby at_150) (by decide) (by decide)) ?_
                  show own_Goes p.tables e below (T17.setTop (mkF m 154 #[.val (.long q0), .second, .val (.long q1), .second, .val (.int p2), .val (.long z73), .second, .unset] [(.int (1 : Int32))])) _
                  have hv : (own_f0 q0 q1 p2) = (own_f0_154 z73 (1 : Int32)) := by subst hz73; exact ((((((((if_neg hc81)).trans (if_neg hc90)).trans (if_neg hc99)).trans (if_neg hc108)).trans (if_neg hc117)).trans (if_neg hc126)).trans (if_neg hc136)).trans (if_neg hc146)
                  rw [hv]
                  exact J154 T17 X17 e17 (1 : Int32)
/-- z >>> s (a long, unsigned) -/
def own_sh (x : Int64) (s : Int32) : Int64 := (x.toUInt64 >>> (s &&& 0x3f).toInt64.toUInt64).toInt64
theorem own_sh_bv (x : Int64) (s : Int32) (n : Nat) (h : ((s &&& 0x3f).toInt64.toUInt64).toBitVec = BitVec.ofNat 64 n) (hn : n < 64) : (own_sh x s).toBitVec = x.toBitVec >>> n := by
  unfold own_sh
  rw [UInt64.toBitVec_toInt64, UInt64.toBitVec_shiftRight, h]
  apply BitVec.eq_of_toNat_eq
  simp only [BitVec.ushiftRight_eq', BitVec.toNat_ushiftRight, BitVec.toNat_umod, BitVec.toNat_ofNat]
  congr 1
  have h64 : (64 : BitVec 64).toNat = 64 := rfl
  rw [h64]
  simp only [Nat.reducePow]
  omega
/-- a byte of a long -/
theorem own_byteN (w : Int64) (s : Int32) (n : Nat) (h : ((s &&& 0x3f).toInt64.toUInt64).toBitVec = BitVec.ofNat 64 n) (hn : n < 64) : (own_sh w s &&& (255 : Int64)).toBitVec.toNat = w.toBitVec.toNat / 2 ^ n % 256 := by
  rw [Int64.toBitVec_and, own_sh_bv w s n h hn, BitVec.toNat_and, BitVec.toNat_ushiftRight, Nat.shiftRight_eq_div_pow]
  exact Nat.and_two_pow_sub_one_eq_mod _ 8
theorem own_byteJ (w : Int64) (s : Int32) (n : Nat) (h : ((s &&& 0x3f).toInt64.toUInt64).toBitVec = BitVec.ofNat 64 n) (hn : n < 64) : (own_sh w s &&& (255 : Int64)).toInt = ((w.toBitVec.toNat / 2 ^ n % 256 : Nat) : Int) := by
  have e := own_byteN w s n h hn
  have hlt : w.toBitVec.toNat / 2 ^ n % 256 < 256 := Nat.mod_lt _ (by decide)
  rw [← e] at hlt ⊢
  exact BitVec.toInt_eq_toNat_of_lt (by omega)
theorem own_byteI (w : Int64) (s : Int32) (n : Nat) (h : ((s &&& 0x3f).toInt64.toUInt64).toBitVec = BitVec.ofNat 64 n) (hn : n < 64) : (own_sh w s &&& (255 : Int64)).toInt32.toInt = ((w.toBitVec.toNat / 2 ^ n % 256 : Nat) : Int) := by
  have e := own_byteJ w s n h hn
  have hlt : w.toBitVec.toNat / 2 ^ n % 256 < 256 := Nat.mod_lt _ (by decide)
  rw [Jvm.Kit.i32_of_i64 (by omega) (by omega), e]
theorem own_f2_v (w : Int64) (i : Int32) (n : Nat) (h : ((((8 : Int32) * i) &&& 0x3f).toInt64.toUInt64).toBitVec = BitVec.ofNat 64 n) (hn : n < 64) : own_f2 w i = if 48 ≤ w.toBitVec.toNat / 2 ^ n % 256 ∧ w.toBitVec.toNat / 2 ^ n % 256 ≤ 57 then 1 else 0 := by
  have e := own_byteI w ((8 : Int32) * i) n h hn
  have u : own_f2 w i = if (own_sh w ((8 : Int32) * i) &&& (255 : Int64)).toInt32 < (48 : Int32) then 0 else if (57 : Int32) < (own_sh w ((8 : Int32) * i) &&& (255 : Int64)).toInt32 then 0 else 1 := rfl
  rw [u]
  simp only [Int32.lt_iff_toInt_lt, e, show (48 : Int32).toInt = 48 from rfl, show (57 : Int32).toInt = 57 from rfl]
  generalize w.toBitVec.toNat / 2 ^ n % 256 = b
  by_cases h1 : b < 48
  · rw [if_pos (by omega), if_neg (by omega)]
  · by_cases h2 : 57 < b
    · rw [if_neg (by omega), if_pos (by omega), if_neg (by omega)]
    · rw [if_neg (by omega), if_neg (by omega), if_pos (by omega)]
theorem own_nib1 : ∀ b : Fin 256, (b.val &&& 0xF0 = 0x30) ↔ (48 ≤ b.val ∧ b.val ≤ 63) := by decide +kernel
theorem own_nibAt (W n : Nat) (hm : 0xF0F0F0F0F0F0F0F0 / 2 ^ n % 256 = 0xF0) : (W &&& 0xF0F0F0F0F0F0F0F0) / 2 ^ n % 256 = (W / 2 ^ n % 256) &&& 0xF0 := by
  rw [← Nat.shiftRight_eq_div_pow, Nat.shiftRight_and_distrib, show (256 : Nat) = 2 ^ 8 from rfl, Nat.and_mod_two_pow, Nat.shiftRight_eq_div_pow, Nat.shiftRight_eq_div_pow, hm]
theorem own_nibOne (W n : Nat) (hm : 0xF0F0F0F0F0F0F0F0 / 2 ^ n % 256 = 0xF0) : (W &&& 0xF0F0F0F0F0F0F0F0) / 2 ^ n % 256 = 48 ↔ (48 ≤ W / 2 ^ n % 256 ∧ W / 2 ^ n % 256 ≤ 63) := by
  rw [own_nibAt W n hm]
  exact own_nib1 ⟨W / 2 ^ n % 256, Nat.mod_lt _ (by decide)⟩
abbrev own_all (W : Nat) (t : Nat) : Prop := (48 ≤ W / 2 ^ 0 % 256 ∧ W / 2 ^ 0 % 256 ≤ t) ∧ (48 ≤ W / 2 ^ 8 % 256 ∧ W / 2 ^ 8 % 256 ≤ t) ∧ (48 ≤ W / 2 ^ 16 % 256 ∧ W / 2 ^ 16 % 256 ≤ t) ∧ (48 ≤ W / 2 ^ 24 % 256 ∧ W / 2 ^ 24 % 256 ≤ t) ∧ (48 ≤ W / 2 ^ 32 % 256 ∧ W / 2 ^ 32 % 256 ≤ t) ∧ (48 ≤ W / 2 ^ 40 % 256 ∧ W / 2 ^ 40 % 256 ≤ t) ∧ (48 ≤ W / 2 ^ 48 % 256 ∧ W / 2 ^ 48 % 256 ≤ t) ∧ (48 ≤ W / 2 ^ 56 % 256 ∧ W / 2 ^ 56 % 256 ≤ t)
theorem own_nib (W : Nat) (hW : W < 2 ^ 64) : W &&& 0xF0F0F0F0F0F0F0F0 = 0x3030303030303030 ↔ own_all W 63 := by
  unfold own_all
  rw [← own_nibOne W 0 (by decide), ← own_nibOne W 8 (by decide), ← own_nibOne W 16 (by decide), ← own_nibOne W 24 (by decide), ← own_nibOne W 32 (by decide), ← own_nibOne W 40 (by decide), ← own_nibOne W 48 (by decide), ← own_nibOne W 56 (by decide)]
  have h : W &&& 0xF0F0F0F0F0F0F0F0 < 2 ^ 64 := Nat.lt_of_le_of_lt Nat.and_le_left hW
  generalize W &&& 0xF0F0F0F0F0F0F0F0 = n at *
  constructor
  · rintro rfl
    decide
  · simp only [Nat.reducePow] at *
    omega
theorem own_dd (W : Nat) : W / 2 ^ 0 = W ∧ W / 2 ^ 8 = W / 256 ∧ W / 2 ^ 16 = W / 256 / 256 ∧ W / 2 ^ 24 = W / 256 / 256 / 256 ∧ W / 2 ^ 32 = W / 256 / 256 / 256 / 256 ∧ W / 2 ^ 40 = W / 256 / 256 / 256 / 256 / 256 ∧ W / 2 ^ 48 = W / 256 / 256 / 256 / 256 / 256 / 256 ∧ W / 2 ^ 56 = W / 256 / 256 / 256 / 256 / 256 / 256 / 256 := by
  refine ⟨?_, ?_, ?_, ?_, ?_, ?_, ?_, ?_⟩ <;> simp only [Nat.div_div_eq_div_mul, Nat.reducePow, Nat.reduceMul, Nat.div_one]
theorem own_st (W C : Nat) (h : W % 256 ≤ 63) (hc : C % 256 = 6) : (W + C) / 256 = W / 256 + C / 256 ∧ (W + C) % 256 = W % 256 + 6 := by omega
theorem own_sum (W : Nat) (hW : W < 2 ^ 64) (h : own_all W 63) : (W + 0x0606060606060606) % 2 ^ 64 &&& 0xF0F0F0F0F0F0F0F0 = 0x3030303030303030 ↔ own_all W 57 := by
  rw [own_nib _ (Nat.mod_lt _ (by decide))]
  have hm : (W + 0x0606060606060606) % 2 ^ 64 = W + 0x0606060606060606 := by
    refine Nat.mod_eq_of_lt ?_
    obtain ⟨-, -, -, -, -, -, -, h7⟩ := h
    simp only [Nat.reducePow] at *
    omega
  rw [hm]
  unfold own_all at *
  obtain ⟨d0, d1, d2, d3, d4, d5, d6, d7⟩ := own_dd W
  obtain ⟨f0, f1, f2, f3, f4, f5, f6, f7⟩ := own_dd (W + 0x0606060606060606)
  rw [d0, d1, d2, d3, d4, d5, d6, d7] at h
  rw [d0, d1, d2, d3, d4, d5, d6, d7, f0, f1, f2, f3, f4, f5, f6, f7]
  clear d0 d1 d2 d3 d4 d5 d6 d7 f0 f1 f2 f3 f4 f5 f6 f7 hm hW
  obtain ⟨⟨a0, b0⟩, ⟨a1, b1⟩, ⟨a2, b2⟩, ⟨a3, b3⟩, ⟨a4, b4⟩, ⟨a5, b5⟩, ⟨a6, b6⟩, ⟨a7, b7⟩⟩ := h
  obtain ⟨g0, r0⟩ := own_st W 0x0606060606060606 b0 (by decide)
  rw [r0, g0]
  simp only [Nat.reduceDiv]
  generalize W / 256 = W1 at *
  obtain ⟨g1, r1⟩ := own_st W1 1695472800892422 b1 (by decide)
  rw [r1, g1]
  simp only [Nat.reduceDiv]
  generalize W1 / 256 = W2 at *
  obtain ⟨g2, r2⟩ := own_st W2 6622940628486 b2 (by decide)
  rw [r2, g2]
  simp only [Nat.reduceDiv]
  generalize W2 / 256 = W3 at *
  obtain ⟨g3, r3⟩ := own_st W3 25870861830 b3 (by decide)
  rw [r3, g3]
  simp only [Nat.reduceDiv]
  generalize W3 / 256 = W4 at *
  obtain ⟨g4, r4⟩ := own_st W4 101058054 b4 (by decide)
  rw [r4, g4]
  simp only [Nat.reduceDiv]
  generalize W4 / 256 = W5 at *
  obtain ⟨g5, r5⟩ := own_st W5 394758 b5 (by decide)
  rw [r5, g5]
  simp only [Nat.reduceDiv]
  generalize W5 / 256 = W6 at *
  obtain ⟨g6, r6⟩ := own_st W6 1542 b6 (by decide)
  rw [r6, g6]
  simp only [Nat.reduceDiv]
  generalize W6 / 256 = W7 at *
  obtain ⟨g7, r7⟩ := own_st W7 6 b7 (by decide)
  rw [r7]
  generalize W % 256 = x0 at *
  generalize W1 % 256 = x1 at *
  generalize W2 % 256 = x2 at *
  generalize W3 % 256 = x3 at *
  generalize W4 % 256 = x4 at *
  generalize W5 % 256 = x5 at *
  generalize W6 % 256 = x6 at *
  generalize W7 % 256 = x7 at *
  omega
theorem own_eqN (x y : Int64) : x = y ↔ x.toBitVec.toNat = y.toBitVec.toNat := ⟨fun h => h ▸ rfl, fun h => Int64.toBitVec_inj.mp (BitVec.eq_of_toNat_eq h)⟩
theorem own_f3_v (w : Int64) : own_f3 w = if own_all w.toBitVec.toNat 57 then 1 else 0 := by
  have hW : w.toBitVec.toNat < 2 ^ 64 := w.toBitVec.isLt
  have c1 : (w &&& (-1085102592571150096 : Int64)) = (3472328296227680304 : Int64) ↔ own_all w.toBitVec.toNat 63 := by
    rw [own_eqN, Int64.toBitVec_and, BitVec.toNat_and]
    exact own_nib _ hW
  have c2 : own_all w.toBitVec.toNat 63 → (((w + (434041037028460038 : Int64)) &&& (-1085102592571150096 : Int64)) = (3472328296227680304 : Int64) ↔ own_all w.toBitVec.toNat 57) := fun h => by
    rw [own_eqN, Int64.toBitVec_and, BitVec.toNat_and, Int64.toBitVec_add, BitVec.toNat_add]
    exact own_sum _ hW h
  have c3 : own_all w.toBitVec.toNat 57 → own_all w.toBitVec.toNat 63 := fun h => by
    unfold own_all at *
    omega
  unfold own_f3 own_f3_32
  by_cases h1 : own_all w.toBitVec.toNat 63
  · rw [if_pos (c1.mpr h1)]
    by_cases h2 : own_all w.toBitVec.toNat 57
    · rw [if_pos ((c2 h1).mpr h2), if_pos h2]
    · rw [if_neg (fun q => h2 ((c2 h1).mp q)), if_neg h2]
  · rw [if_neg (fun q => h1 (c1.mp q)), if_neg (fun q => h1 (c3 q))]
theorem own_word (w : Int64) (q0 q1 : Int64) (p2 : Int32) : (if (own_f2 w (0 : Int32)) = 0 then own_f0_153 w else if (own_f2 w (1 : Int32)) = 0 then own_f0_153 w else if (own_f2 w (2 : Int32)) = 0 then own_f0_153 w else if (own_f2 w (3 : Int32)) = 0 then own_f0_153 w else if (own_f2 w (4 : Int32)) = 0 then own_f0_153 w else if (own_f2 w (5 : Int32)) = 0 then own_f0_153 w else if (own_f2 w (6 : Int32)) = 0 then own_f0_153 w else if (own_f2 w (7 : Int32)) = 0 then own_f0_153 w else own_f0_154 w (1 : Int32)) = 1 := by
  rw [own_f2_v w 0 0 (by decide) (by decide), own_f2_v w 1 8 (by decide) (by decide), own_f2_v w 2 16 (by decide) (by decide), own_f2_v w 3 24 (by decide) (by decide), own_f2_v w 4 32 (by decide) (by decide), own_f2_v w 5 40 (by decide) (by decide), own_f2_v w 6 48 (by decide) (by decide), own_f2_v w 7 56 (by decide) (by decide)]
  unfold own_f0_153 own_f0_154
  rw [own_f3_v]
  unfold own_all
  have k1 : ¬ (1 : Int32) = 0 := by decide
  by_cases h0 : 48 ≤ w.toBitVec.toNat / 2 ^ 0 % 256 ∧ w.toBitVec.toNat / 2 ^ 0 % 256 ≤ 57
  · by_cases h1 : 48 ≤ w.toBitVec.toNat / 2 ^ 8 % 256 ∧ w.toBitVec.toNat / 2 ^ 8 % 256 ≤ 57
    · by_cases h2 : 48 ≤ w.toBitVec.toNat / 2 ^ 16 % 256 ∧ w.toBitVec.toNat / 2 ^ 16 % 256 ≤ 57
      · by_cases h3 : 48 ≤ w.toBitVec.toNat / 2 ^ 24 % 256 ∧ w.toBitVec.toNat / 2 ^ 24 % 256 ≤ 57
        · by_cases h4 : 48 ≤ w.toBitVec.toNat / 2 ^ 32 % 256 ∧ w.toBitVec.toNat / 2 ^ 32 % 256 ≤ 57
          · by_cases h5 : 48 ≤ w.toBitVec.toNat / 2 ^ 40 % 256 ∧ w.toBitVec.toNat / 2 ^ 40 % 256 ≤ 57
            · by_cases h6 : 48 ≤ w.toBitVec.toNat / 2 ^ 48 % 256 ∧ w.toBitVec.toNat / 2 ^ 48 % 256 ≤ 57
              · by_cases h7 : 48 ≤ w.toBitVec.toNat / 2 ^ 56 % 256 ∧ w.toBitVec.toNat / 2 ^ 56 % 256 ≤ 57
                · simp only [h0, h1, h2, h3, h4, h5, h6, h7, k1, and_self, and_true, ↓reduceIte]
                · simp only [h0, h1, h2, h3, h4, h5, h6, h7, k1, and_self, and_false, ↓reduceIte]
              · simp only [h0, h1, h2, h3, h4, h5, h6, k1, and_self, and_false, false_and, ↓reduceIte]
            · simp only [h0, h1, h2, h3, h4, h5, k1, and_self, and_false, false_and, ↓reduceIte]
          · simp only [h0, h1, h2, h3, h4, k1, and_self, and_false, false_and, ↓reduceIte]
        · simp only [h0, h1, h2, h3, k1, and_self, and_false, false_and, ↓reduceIte]
      · simp only [h0, h1, h2, k1, and_self, and_false, false_and, ↓reduceIte]
    · simp only [h0, h1, k1, and_self, and_false, false_and, ↓reduceIte]
  · simp only [h0, k1, false_and, ↓reduceIte]
theorem own_law (q0 : Int64) (q1 : Int64) (p2 : Int32) : own_f0 q0 q1 p2 = 1 := own_word _ q0 q1 p2
set_option maxRecDepth 65536 in
set_option maxHeartbeats 40000000 in
theorem comes_1 {Post : Tables → Env → Array Value → State → Outcome → State → Prop} (hpost : ∀ tb e args s v u, (limb_1_1.after args s (.returned v) u = true ∧ limb_1_2.after args s (.returned v) u = true ∧ True) → FrameEnd s (.returned v) u (Jvm.fieldLocs frame_1_writes args s ++ Jvm.arrayLocs frame_1_arrays args s ++ Jvm.staticLocs frame_1_statics s) 0 0 → Post tb e args s (.returned v) u) :
    ArmFor flags0 classFile x code maxLocals ret World_1 tables_1 room_1 Calls_1 rest_1 Pre_1 Post := by
  intro l hfl _ _ p e ha hc hk s m args below hf hA hF happ hP
  obtain ⟨hcalls, hrest, hpre⟩ := hP
  obtain ⟨-, -, -, hnamed, -, -, -, hat⟩ := (Spec.applies_iff hf).mp happ
  obtain ⟨hg, hn⟩ := and_e (Cond.before_iff.mp (show (Jvm.Cond.and given_1 narrow_1).before args s = true from hpre))
  obtain ⟨g1, g2⟩ := and_e hg
  obtain ⟨g3, g4⟩ := and_e g2
  obtain ⟨g5, g6⟩ := and_e g4
  obtain ⟨w0, w1, w2, rfl⟩ : ∃ w0 w1 w2 : Value, args = #[w0, w1, w2] := by
    have hs : args.size = 3 := by simpa [Cond.value, given_1] using g1
    obtain ⟨L⟩ := args
    match L, hs with
    | [w0, w1, w2], _ => exact ⟨w0, w1, w2, rfl⟩
  have hw := fun d (hd : d ∈ tables_1) => atoms_spec (ws := Jvm.Cond.code x code maxLocals ret :: tables_1) hat d (List.mem_cons_of_mem _ hd)
  obtain ⟨i0, ei0⟩ := isL_v g3
  obtain rfl : w0 = (.long i0) := Option.some.inj ei0
  obtain ⟨i1, ei1⟩ := isL_v g5
  obtain rfl : w1 = (.long i1) := Option.some.inj ei1
  obtain ⟨i2, ei2⟩ := is_v g6
  obtain rfl : w2 = (.int i2) := Option.some.inj ei2
  have hrm := rm0 l s _ hw tables_1 i0 i1 i2 s.heap s.heap.size (Nat.le_refl _)
  rw [own_law i0 i1 i2] at hrm
  obtain ⟨n, o, h1, h2, h3, _, L, rfl, ⟨rfl, N⟩, hq⟩ := hrm p e ha hc hk s m _ below hf ((Spec.applies_iff_loose hf).mp happ).1 ⟨rfl, State.Warmed39.refl s, rfl⟩ trivial
  refine ⟨n, _, h1, h2, h3, hpost _ _ _ _ _ _ ⟨Cond.after_iff.mpr rfl, Cond.after_iff.mpr (eq_i res_at (Term.int_eval (1)) rfl), trivial⟩ ⟨hq.1, hq.2.1, (hq.2.2.sift fun y hy => Or.inr (N y hy)).mono (by decide) (by decide)⟩⟩
theorem main_1_1 : Claimed_1_1 := comes_1 fun _ _ _ _ _ _ h hF => ⟨h.1, hF⟩
theorem main_1_2 : Claimed_1_2 := comes_1 fun _ _ _ _ _ _ h hF => ⟨h.2.1, hF⟩
end Jvm.Pilot.@@N@@
namespace Jvm.Pilot.@@N@@
open Jvm Jvm.ClassFile Sem Op Lib Jvm.Free Jvm.Stand Jvm.Pilot.@@N@@.Jvm.D
/-! MADE BY PROGRAM (witnessworld.py) out of the Statement's table words and the real class files: 9 classes; the members and pool entries that the words name. The judged class is class 1, her method 3. -/
namespace start1
open Jvm.ClassFile
def u (s : String) : CpInfo := .utf8 (stringToUtf16 s)
/-- a pool by its gaps: so many unusable entries, then the entry; so many at the end -/
def gap : Nat → List CpInfo → List CpInfo
  | 0, r => r
  | n + 1, r => .unusable :: gap n r
def poolList (es : List (Nat × CpInfo)) (last : Nat) : List CpInfo := es.foldr (fun e r => gap e.1 (e.2 :: r)) (gap last [])
def pool (es : List (Nat × CpInfo)) (last : Nat) : Array CpInfo := ⟨poolList es last⟩
def fileOf (pool : Array CpInfo) (this : Nat) (attrs : Array Attribute := #[]) (ms : Array MethodInfo := #[]) (fl : Nat := 33) (sup : Nat := 0) (ifs : Array Nat := #[]) (fds : Array FieldInfo := #[]) : ClassFile where
  minorVersion := 0
  majorVersion := 65
  constantPool := pool
  accessFlags := fl
  thisClass := this
  superClass := sup
  interfaces := ifs
  fields := fds
  methods := ms
  attributes := attrs
def plain (name : String) (sup : Option ClassId) : Class where
  name := name
  kind := .ordinary
  loader := none
  accessFlags := 33
  super := sup
  interfaces := #[]
  cf := none
  fields := #[]
  methods := #[]
  instanceTypes := #[]
  staticTypes := #[]
  resolved := #[]
  callSites := []
  init := .initialized
  statics := none
  mirror := none

def pool0 : Array CpInfo := pool [(5, u "<init>"), (0, u "()V"), (1, .class_ 10), (1, u "java/lang/Object")] 113

def k0m0 : Method := { name := "<init>", desc := "()V", sig := { parameters := [], returnType := none }, accessFlags := 1, code := none }
/-- java/lang/Object -/
def k0 : Class := { plain "java/lang/Object" none with
  accessFlags := 33
  interfaces := #[]
  cf := some (fileOf pool0 8 #[] #[{ accessFlags := 1, nameIndex := 5, descriptorIndex := 6, attributes := #[] }] 33 0 #[] #[])
  fields := #[]
  methods := #[k0m0]
  instanceTypes := #[]
  staticTypes := #[]
  resolved := Array.replicate 124 none
  statics := none }

def pool1 : Array CpInfo := pool [(2, .class_ 4), (1, u "java/lang/Object"), (0, u "<init>"), (0, u "()V"), (0, .long 255), (1, .methodref 10 11), (0, .class_ 12), (0, .nameAndType 13 14), (0, u "com/example/kolektyv/kolektyv/records/BytesIsDigitsPinLaw"), (0, u "makeByte"), (0, u "(JJII)J"), (0, .methodref 10 16), (0, .nameAndType 17 18), (0, u "digitAt"), (0, u "(JI)Z"), (0, .methodref 20 21), (0, .class_ 22), (0, .nameAndType 23 24), (0, u "com/example/kolektyv/kolektyv/records/Bytes"), (0, u "isDigits"), (0, u "(J)Z"), (3, u "law"), (0, u "(JJI)Z")] 2

def k1m0 : Method := { name := "<init>", desc := "()V", sig := { parameters := [], returnType := none }, accessFlags := 2, code := none }
def k1c1 : Code := { maxStack := 4, maxLocals := 8, code := method_2_code, exceptionTable := #[], attributes := #[] }
def k1m1 : Method := { name := "makeByte", desc := "(JJII)J", sig := { parameters := [.long, .long, .int, .int], returnType := some .long }, accessFlags := 10, code := some k1c1 }
def k1c2 : Code := { maxStack := 4, maxLocals := 4, code := method_3_code, exceptionTable := #[], attributes := #[] }
def k1m2 : Method := { name := "digitAt", desc := "(JI)Z", sig := { parameters := [.long, .int], returnType := some .boolean }, accessFlags := 10, code := some k1c2 }
def k1c3 : Code := { maxStack := 8, maxLocals := 8, code := code, exceptionTable := #[], attributes := #[] }
def k1m3 : Method := { name := "law", desc := "(JJI)Z", sig := { parameters := [.long, .long, .int], returnType := some .boolean }, accessFlags := 9, code := some k1c3 }
/-- com/example/kolektyv/kolektyv/records/BytesIsDigitsPinLaw -/
def k1 : Class := { plain "com/example/kolektyv/kolektyv/records/BytesIsDigitsPinLaw" (some 0) with
  accessFlags := 49
  interfaces := #[]
  cf := some (fileOf pool1 10 #[] #[{ accessFlags := 2, nameIndex := 5, descriptorIndex := 6, attributes := #[] }, { accessFlags := 10, nameIndex := 13, descriptorIndex := 14, attributes := #[] }, { accessFlags := 10, nameIndex := 17, descriptorIndex := 18, attributes := #[] }, { accessFlags := 9, nameIndex := 28, descriptorIndex := 29, attributes := #[] }] 49 2 #[] #[])
  fields := #[]
  methods := #[k1m0, k1m1, k1m2, k1m3]
  instanceTypes := #[]
  staticTypes := #[]
  resolved := Array.replicate 32 none
  statics := none }

def pool2 : Array CpInfo := pool [(2, .class_ 4), (1, u "java/lang/Object"), (0, u "<init>"), (0, u "()V"), (1, .class_ 10), (1, u "com/example/kolektyv/kolektyv/records/Bytes"), (0, u "WORDS"), (0, u "Ljava/lang/invoke/VarHandle;"), (6, .long 17361641481138401520), (1, .long 3472328296227680304), (1, .long 434041037028460038), (32, u "HIGH"), (0, u "J"), (1, u "LOW7"), (2, u "ONES"), (0, u "HIGH_HALVES"), (0, u "ZEROS"), (0, u "SIXES"), (2, u "isDigits"), (0, u "(J)Z")] 8

def k2m0 : Method := { name := "<init>", desc := "()V", sig := { parameters := [], returnType := none }, accessFlags := 2, code := none }
def k2c1 : Code := { maxStack := 4, maxLocals := 2, code := prog_16_method_3_code, exceptionTable := #[], attributes := #[] }
def k2m1 : Method := { name := "isDigits", desc := "(J)Z", sig := { parameters := [.long], returnType := some .boolean }, accessFlags := 8, code := some k2c1 }
/-- com/example/kolektyv/kolektyv/records/Bytes -/
def k2 : Class := { plain "com/example/kolektyv/kolektyv/records/Bytes" (some 0) with
  accessFlags := 48
  interfaces := #[]
  cf := some (fileOf pool2 8 #[] #[{ accessFlags := 2, nameIndex := 5, descriptorIndex := 6, attributes := #[] }, { accessFlags := 8, nameIndex := 68, descriptorIndex := 69, attributes := #[] }] 48 2 #[] #[{ accessFlags := 24, nameIndex := 56, descriptorIndex := 57, attributes := #[] }, { accessFlags := 24, nameIndex := 59, descriptorIndex := 57, attributes := #[] }, { accessFlags := 26, nameIndex := 62, descriptorIndex := 57, attributes := #[] }, { accessFlags := 26, nameIndex := 63, descriptorIndex := 57, attributes := #[] }, { accessFlags := 26, nameIndex := 64, descriptorIndex := 57, attributes := #[] }, { accessFlags := 26, nameIndex := 65, descriptorIndex := 57, attributes := #[] }, { accessFlags := 26, nameIndex := 11, descriptorIndex := 12, attributes := #[] }])
  fields := #[{ name := "HIGH", type := .long, accessFlags := 24, slot := 0, constantValue := 0 }, { name := "LOW7", type := .long, accessFlags := 24, slot := 1, constantValue := 0 }, { name := "ONES", type := .long, accessFlags := 26, slot := 2, constantValue := 0 }, { name := "HIGH_HALVES", type := .long, accessFlags := 26, slot := 3, constantValue := 0 }, { name := "ZEROS", type := .long, accessFlags := 26, slot := 4, constantValue := 0 }, { name := "SIXES", type := .long, accessFlags := 26, slot := 5, constantValue := 0 }, { name := "WORDS", type := (.object "java/lang/invoke/VarHandle"), accessFlags := 26, slot := 6, constantValue := 0 }]
  methods := #[k2m0, k2m1]
  instanceTypes := #[]
  staticTypes := #[.long, .long, .long, .long, .long, .long, (.object "java/lang/invoke/VarHandle")]
  resolved := Array.replicate 78 none
  statics := none }

def pool3 : Array CpInfo := pool [(1, u "java/lang/Cloneable"), (0, .class_ 1), (0, u "java/lang/Object"), (0, .class_ 3)] 3

/-- java/lang/Cloneable -/
def k3 : Class := { plain "java/lang/Cloneable" (some 0) with
  accessFlags := 1537
  interfaces := #[]
  cf := some (fileOf pool3 2 #[] #[] 1537 4 #[] #[])
  fields := #[]
  methods := #[]
  instanceTypes := #[]
  staticTypes := #[]
  resolved := Array.replicate 8 none
  statics := none }

def pool4 : Array CpInfo := pool [(1, u "java/io/Serializable"), (0, .class_ 1), (0, u "java/lang/Object"), (0, .class_ 3)] 3

/-- java/io/Serializable -/
def k4 : Class := { plain "java/io/Serializable" (some 0) with
  accessFlags := 1537
  interfaces := #[]
  cf := some (fileOf pool4 2 #[] #[] 1537 4 #[] #[])
  fields := #[]
  methods := #[]
  instanceTypes := #[]
  staticTypes := #[]
  resolved := Array.replicate 8 none
  statics := none }

/-- the primitive byte -/
def k5 : Class := { plain "byte" none with kind := .primitive 'B', accessFlags := 0x411 }
/-- [B -/
def k6 : Class := { plain "[B" (some 0) with kind := .array 5 .byte, interfaces := #[3, 4], accessFlags := 1041 }

/-- the primitive int -/
def k7 : Class := { plain "int" none with kind := .primitive 'I', accessFlags := 0x411 }
/-- [I -/
def k8 : Class := { plain "[I" (some 0) with kind := .array 7 .int, interfaces := #[3, 4], accessFlags := 1041 }

def heap : Heap := #[]
def classes : Array Class := #[k0, k1, k2, k3, k4, k5, k6, k7, k8]
def interned : List (Array UInt16 × Addr) := []
def slotsUsed : Nat := 0
def theMethod : MethodId := ⟨1, 3⟩
def args0 : Array Value := #[.long 1, .long 2, .int 3]
def aboutOver (below : List Frame) : State where
  vm := { classes := classes, interned := interned.toArray }
  heap := heap
  slotsUsed := slotsUsed
  threads := #[{ frames := .invoking theMethod args0 :: below }]
def below0 : List Frame := [.native { method := ⟨0, 0⟩, args := #[] }]
def about1 : State := aboutOver below0
def p0 : Program := .bare "" "" ""
def e0 : Env := launch0.env 0 0 0
theorem w_frames : about1.frames = Frame.invoking theMethod args0 :: below0 := rfl
set_option maxRecDepth 65536 in
theorem w_args : argsFit about1.vm theMethod args0 = true := by decide +kernel
set_option maxRecDepth 65536 in
theorem w_heap : heapFits about1 = true := by decide +kernel
set_option maxRecDepth 65536 in
theorem w_runnable : about1.curStatus? = some .runnable := by decide +kernel
set_option maxRecDepth 65536 in
theorem w_alone : about1.alone = true := by decide +kernel
set_option maxRecDepth 65536 in
theorem w_named : about1.methodNamed? x = some theMethod := by decide +kernel
set_option maxRecDepth 65536 in
theorem w_hears : about1.hears theMethod below0 = true := by decide +kernel
set_option maxRecDepth 65536 in
theorem w_ripe : about1.ripe theMethod args0 below0 = true := by decide +kernel
theorem w_running : about1.status = .running := rfl
set_option maxRecDepth 65536 in
theorem w_room : about1.hasRoom e0.platform room_1 = true :=
  launch0.hasRoom_least _ room_1 (by decide +kernel) (by decide +kernel) (by decide +kernel) (by decide +kernel) (by decide +kernel) (by decide +kernel)
theorem allAtoms_all (ts : List Jvm.Cond) (a : Array Jvm.Value) (st : Jvm.State) : (allAtoms ts).before a st = ts.all (fun c => c.before a st) := by
  induction ts with
  | nil => rfl
  | cons c t ih =>
    show (Jvm.Cond.and c (allAtoms t)).before a st = _
    rw [Jvm.Cond.before_and, ih, List.all_cons]
def words1 : List Jvm.Cond := Jvm.Cond.code x code maxLocals ret :: tables_1
/-- a 'code' word, met by the world's own term for the bytes: nothing is compared byte by byte -/
theorem code_word {y : MethodName} {bytes : ByteArray} {mx : Nat} {rt : Option FieldType} {a : Array Value} {s : State} {m : MethodId} {meth : Method} {c : Code} (h1 : s.methodNamed? y = some m) (h2 : s.vm.method? m = some meth) (h3 : meth.code = some c) (h4 : c.code = bytes)
    (h5 : (c.maxLocals == mx && c.exceptionTable.isEmpty && decide (c.maxStack ≤ mostOperands) && decide (meth.sig.returnType = rt) && !meth.locks && decide (parseMethodDescriptor y.desc = some meth.sig)) = true) : (Jvm.Cond.code y bytes mx rt).before a s = true := by
  simp only [Bool.and_eq_true, beq_iff_eq, Bool.not_eq_true', decide_eq_true_eq] at h5
  obtain ⟨⟨⟨⟨⟨g1, g2⟩, g3⟩, g4⟩, g5⟩, g6⟩ := h5
  simp [Cond.before, Cond.holds, Cond.value, h1, h2, h3, h4, g1, g2, g3, g4, g5, g6]
def isCode : Jvm.Cond → Bool
  | .code _ _ _ _ => true
  | _ => false
theorem all_split {L : List Jvm.Cond} {P : Jvm.Cond → Bool} (h1 : L.all (fun c => isCode c || P c) = true) (h2 : ∀ c ∈ L.filter isCode, P c = true) : L.all P = true := by
  refine List.all_eq_true.mpr fun c hc => ?_
  have h := List.all_eq_true.mp h1 c hc
  rcases Bool.eq_false_or_eq_true (isCode c) with hi | hi
  · exact h2 c (List.mem_filter.mpr ⟨hc, hi⟩)
  · simpa [hi] using h
set_option maxRecDepth 65536 in
theorem w_c0 : (Jvm.Cond.code x code maxLocals ret).before args0 about1 = true := code_word (m := ⟨1, 3⟩) (meth := k1m3) (c := k1c3) (by decide +kernel) rfl rfl rfl (by decide +kernel)
set_option maxRecDepth 65536 in
theorem w_c1 : (Jvm.Cond.code ({ cls := "com/example/kolektyv/kolektyv/records/BytesIsDigitsPinLaw", name := "makeByte", desc := "(JJII)J" } : Jvm.MethodName) method_2_code (8 : Nat) (Option.some Jvm.ClassFile.FieldType.long)).before args0 about1 = true := code_word (m := ⟨1, 1⟩) (meth := k1m1) (c := k1c1) (by decide +kernel) rfl rfl rfl (by decide +kernel)
set_option maxRecDepth 65536 in
theorem w_c2 : (Jvm.Cond.code ({ cls := "com/example/kolektyv/kolektyv/records/BytesIsDigitsPinLaw", name := "digitAt", desc := "(JI)Z" } : Jvm.MethodName) method_3_code (4 : Nat) (Option.some Jvm.ClassFile.FieldType.boolean)).before args0 about1 = true := code_word (m := ⟨1, 2⟩) (meth := k1m2) (c := k1c2) (by decide +kernel) rfl rfl rfl (by decide +kernel)
set_option maxRecDepth 65536 in
theorem w_c3 : (Jvm.Cond.code ({ cls := "com/example/kolektyv/kolektyv/records/Bytes", name := "isDigits", desc := "(J)Z" } : Jvm.MethodName) prog_16_method_3_code (2 : Nat) (Option.some Jvm.ClassFile.FieldType.boolean)).before args0 about1 = true := code_word (m := ⟨2, 1⟩) (meth := k2m1) (c := k2c1) (by decide +kernel) rfl rfl rfl (by decide +kernel)
def codes1 : List Jvm.Cond := [Jvm.Cond.code x code maxLocals ret, Jvm.Cond.code ({ cls := "com/example/kolektyv/kolektyv/records/BytesIsDigitsPinLaw", name := "makeByte", desc := "(JJII)J" } : Jvm.MethodName) method_2_code (8 : Nat) (Option.some Jvm.ClassFile.FieldType.long), Jvm.Cond.code ({ cls := "com/example/kolektyv/kolektyv/records/BytesIsDigitsPinLaw", name := "digitAt", desc := "(JI)Z" } : Jvm.MethodName) method_3_code (4 : Nat) (Option.some Jvm.ClassFile.FieldType.boolean), Jvm.Cond.code ({ cls := "com/example/kolektyv/kolektyv/records/Bytes", name := "isDigits", desc := "(J)Z" } : Jvm.MethodName) prog_16_method_3_code (2 : Nat) (Option.some Jvm.ClassFile.FieldType.boolean)]
set_option maxRecDepth 65536 in
theorem codes_eq : words1.filter isCode = codes1 := rfl
theorem w_codes : ∀ c ∈ words1.filter isCode, c.before args0 about1 = true := by
  rw [codes_eq]
  intro c hc
  simp only [codes1, List.mem_cons, List.not_mem_nil, or_false] at hc
  rcases hc with rfl | rfl | rfl | rfl
  · exact w_c0
  · exact w_c1
  · exact w_c2
  · exact w_c3
set_option maxRecDepth 65536 in
theorem w_t1 : words1.all (fun c => isCode c || c.before args0 about1) = true := by decide +kernel
theorem w_tables : (allAtoms (Jvm.Cond.code x code maxLocals ret :: tables_1)).before args0 about1 = true := by
  rw [allAtoms_all]
  show words1.all (fun c => c.before args0 about1) = true
  refine all_split ?_ w_codes
  rw [w_t1]
set_option maxRecDepth 65536 in
theorem w_case : (Jvm.Cond.and given_1 narrow_1).before args0 about1 = true := by decide +kernel
theorem w_applies : (headSpec (Jvm.Cond.code x code maxLocals ret :: tables_1) room_1).applies x e0.platform about1 = true :=
  (Spec.applies_iff w_frames).mpr ⟨w_running, w_runnable, w_alone, w_named, w_hears, w_ripe, w_room, w_tables⟩
theorem atStart : AtStart classFile x code maxLocals ret World_1 tables_1 room_1 Calls_1 rest_1 Pre_1 launch0 p0 e0 about1 theMethod args0 below0 :=
  ⟨lists_1, trivial, launch0.admits_env _ _ _, launch0.least_env, fairChoices_fair.cas, fairChoices_fair.clock, w_frames, w_args, w_heap, w_applies, trivial, trivial, w_case⟩
end start1
theorem witness_1 : WitnessClaimed_1 := ⟨start1.p0, start1.e0, start1.about1, start1.theMethod, start1.args0, start1.below0, start1.atStart⟩
end Jvm.Pilot.@@N@@
