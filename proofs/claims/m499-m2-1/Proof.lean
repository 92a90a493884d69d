import JvmDerived
import JvmDerived.Pilot.@@N@@Statement
import JvmDerived.Pilot.@@N@@Code
set_option linter.unusedVariables false
set_option linter.unusedSimpArgs false
namespace Jvm.RoadKit
open Sem ClassFile Op Lib Jvm.Stand Jvm.Free Jvm.LawKit
section New
variable {p : Program} {l : Launch} {e : Env} {R : Room} {s : State} {m : MethodId} {args : Array Value} {below : List Frame} {meth : Method} {c : Code} {T : State} {locs : List Loc} {cells slots : Nat}
theorem retI (X : Stand p l e R s m args below meth c T locs cells slots) (hx : p.tables.exec = Jvm.exec) {pc : Nat} {Ls : Array Slot} {z : Int32} {rest : List Value} (hret : meth.sig.returnType = some .int) (hd : decode c.code pc = .ok (.ireturn, 1)) {fs : List Frame}
    (hl : ∀ (f : JFrame) (acts : List Action), f.method = m → f.locked = none → f.entered = [] → (doReturn e (T.setTop f) acts (some (.int z))).1 = T.setFrames fs) : Steps p.tables e below (T.setTop (mkF m pc Ls (.int z :: rest))) (T.setFrames fs) := by
  have hm' : T.vm.method? m = some meth := X.method'
  have hn : narrow .int (.int z) = .int z := rfl
  show Steps p.tables e below (T.setTop { method := m, pc := pc, locals := Ls, stack := _ :: rest, locked := none }) _
  jvm_step X.here [X.here.top, hx, hd, hm', hret, hn]
  first | (intro acts; rw [hl _ acts rfl rfl rfl]) | rw [hl _ _ rfl rfl rfl]
  exact Steps.refl _
end New
end Jvm.RoadKit
namespace Jvm.Pilot.@@N@@
open Jvm Jvm.ClassFile Sem Op Lib Jvm.Free Jvm.Stand Jvm.LawKit Jvm.RoadKit Bundle Jvm.Pilot.@@N@@.Jvm.D
section Own
variable {p : Program} {l : Launch} {e : Env} {R : Room} {s : State} {m : MethodId} {args : Array Value} {below : List Frame} {meth : Method} {c : Code} {T : State} {locs : List Loc} {cells slots : Nat}
/-- the run goes on from S to its end, and P holds there -/
def own_Goes (tb : Tables) (e : Env) (below : List Frame) (S : State) (P : State → Outcome → Prop) : Prop :=
  ∃ s₂ o, Steps tb e below S s₂ ∧ s₂.status = .running ∧ Ended s₂ below o ∧ P s₂ o
theorem own_step {tb : Tables} {S S' : State} {P : State → Outcome → Prop} (h : ∀ t, Steps tb e below S' t → Steps tb e below S t) (k : own_Goes tb e below S' P) : own_Goes tb e below S P := by
  obtain ⟨s₂, o, h1, h2⟩ := k
  exact ⟨s₂, o, h _ h1, h2⟩
theorem own_enter {tb : Tables} {g g' : JFrame} {P : State → Outcome → Prop} (q : g = g') (k : own_Goes tb e below (T.setTop g') P) : own_Goes tb e below (T.setTop g) P := q ▸ k
def own_P (s : State) (Q : Option Value → Heap → List Loc → Prop) (C K : Nat) : State → Outcome → Prop := fun U o => ∃ v L, o = .returned v ∧ Q v U.heap L ∧ FrameEnd s o U L C K
/-- a body that writes nothing -/
def own_Qp (w : Option Value) (h0 : Heap) (v : Option Value) (h : Heap) (L : List Loc) : Prop := v = w ∧ L = [] ∧ h = h0
/-- a body that makes cells and writes none that stood before -/
def own_Qa (w : Option Value) (h0 : Heap) (n0 : Nat) (v : Option Value) (h : Heap) (L : List Loc) : Prop := v = w ∧ Fr n0 L ∧ Keep h0 h []
/-- the law -/
def own_Ql (w : Option Value) (n0 : Nat) (v : Option Value) (h : Heap) (L : List Loc) : Prop := v = w ∧ Fr n0 L
variable {Q : Option Value → Heap → List Loc → Prop} {C K : Nat}
theorem own_retI (X : Stand p l e R s m args below meth c T locs cells slots) (hx : p.tables.exec = Jvm.exec) {pc : Nat} {Ls : Array Slot} {z : Int32} {rest : List Value} (hret : meth.sig.returnType = some .int) (hd : decode c.code pc = .ok (.ireturn, 1)) (hk : meth.locks = false)
    (hQ : Q (some (.int z)) T.heap locs) (hc : cells ≤ C) (hs : slots ≤ K) : own_Goes p.tables e below (T.setTop (mkF m pc Ls (.int z :: rest))) (own_P s Q C K) := by
  obtain ⟨fs, hr, hrun, hended, hW, hsame⟩ := X.leave (v := some (.int z)) (fun h => by rw [hret] at h; cases h) hk
  exact ⟨_, _, retI X hx hret hd hr, hrun, hended, _, _, rfl, hQ, ⟨_, rfl⟩, hW, hsame.mono hc hs⟩
theorem own_retN (X : Stand p l e R s m args below meth c T locs cells slots) (hx : p.tables.exec = Jvm.exec) {pc : Nat} {Ls : Array Slot} {z : Int32} {t : FieldType} {rest : List Value} (hret : meth.sig.returnType = some t) (ht : t = .boolean ∨ t = .byte ∨ t = .char ∨ t = .short) (hd : decode c.code pc = .ok (.ireturn, 1)) (hk : meth.locks = false)
    {w : Int32} (hw : nar t z = w) (hQ : Q (some (.int w)) T.heap locs) (hc : cells ≤ C) (hs : slots ≤ K) : own_Goes p.tables e below (T.setTop (mkF m pc Ls (.int z :: rest))) (own_P s Q C K) := by
  subst hw
  obtain ⟨fs, hr, hrun, hended, hW, hsame⟩ := X.leave (v := some (.int (nar t z))) (fun h => by rw [hret] at h; cases h) hk
  exact ⟨_, _, retN X hx hret ht hd hr, hrun, hended, _, _, rfl, hQ, ⟨_, rfl⟩, hW, hsame.mono hc hs⟩
theorem own_retJ (X : Stand p l e R s m args below meth c T locs cells slots) (hx : p.tables.exec = Jvm.exec) {pc : Nat} {Ls : Array Slot} {z : Int64} (hret : meth.sig.returnType = some .long) (hd : decode c.code pc = .ok (.lreturn, 1)) (hk : meth.locks = false)
    (hQ : Q (some (.long z)) T.heap locs) (hc : cells ≤ C) (hs : slots ≤ K) : own_Goes p.tables e below (T.setTop (mkF m pc Ls [.long z])) (own_P s Q C K) := by
  obtain ⟨fs, hr, hrun, hended, hW, hsame⟩ := X.leave (v := some (.long z)) (fun h => by rw [hret] at h; cases h) hk
  exact ⟨_, _, X.lreturnOut hx hret hd hr, hrun, hended, _, _, rfl, hQ, ⟨_, rfl⟩, hW, hsame.mono hc hs⟩
theorem own_retV (X : Stand p l e R s m args below meth c T locs cells slots) (hx : p.tables.exec = Jvm.exec) {pc : Nat} {Ls : Array Slot} (hret : meth.sig.returnType = none) (hd : decode c.code pc = .ok (.return_, 1)) (hk : meth.locks = false)
    (hQ : Q none T.heap locs) (hc : cells ≤ C) (hs : slots ≤ K) : own_Goes p.tables e below (T.setTop (mkF m pc Ls [])) (own_P s Q C K) := by
  obtain ⟨fs, hr, hrun, hended, hW, hsame⟩ := X.leave (v := none) (fun _ => rfl) hk
  exact ⟨_, _, X.returnOut hx hret hd hr, hrun, hended, _, _, rfl, hQ, ⟨_, rfl⟩, hW, hsame.mono hc hs⟩
theorem own_flat (X : Stand p l e R s m args below meth c T (locs ++ []) (cells + 0) (slots + 0)) : Stand p l e R s m args below meth c T locs cells slots := List.append_nil locs ▸ X
end Own

theorem d1_0 : decode prog_142_method_11_code 0 = .ok (.iload_n 0, 1) := by decide +kernel
theorem d1_1 : decode prog_142_method_11_code 1 = .ok (.iconst 1, 1) := by decide +kernel
theorem d1_2 : decode prog_142_method_11_code 2 = .ok (.if_icmp .lt 9, 3) := by decide +kernel
theorem d1_5 : decode prog_142_method_11_code 5 = .ok (.iload_n 0, 1) := by decide +kernel
theorem d1_6 : decode prog_142_method_11_code 6 = .ok (.bipush 8, 2) := by decide +kernel
theorem d1_8 : decode prog_142_method_11_code 8 = .ok (.if_icmp .le 54, 3) := by decide +kernel
theorem d1_11 : decode prog_142_method_11_code 11 = .ok (.iload_n 0, 1) := by decide +kernel
theorem d1_12 : decode prog_142_method_11_code 12 = .ok (.bipush 11, 2) := by decide +kernel
theorem d1_14 : decode prog_142_method_11_code 14 = .ok (.if_icmp .lt 9, 3) := by decide +kernel
theorem d1_17 : decode prog_142_method_11_code 17 = .ok (.iload_n 0, 1) := by decide +kernel
theorem d1_18 : decode prog_142_method_11_code 18 = .ok (.bipush 12, 2) := by decide +kernel
theorem d1_20 : decode prog_142_method_11_code 20 = .ok (.if_icmp .le 42, 3) := by decide +kernel
theorem d1_23 : decode prog_142_method_11_code 23 = .ok (.iload_n 0, 1) := by decide +kernel
theorem d1_24 : decode prog_142_method_11_code 24 = .ok (.bipush 14, 2) := by decide +kernel
theorem d1_26 : decode prog_142_method_11_code 26 = .ok (.if_icmp .lt 9, 3) := by decide +kernel
theorem d1_29 : decode prog_142_method_11_code 29 = .ok (.iload_n 0, 1) := by decide +kernel
theorem d1_30 : decode prog_142_method_11_code 30 = .ok (.bipush 31, 2) := by decide +kernel
theorem d1_32 : decode prog_142_method_11_code 32 = .ok (.if_icmp .le 30, 3) := by decide +kernel
theorem d1_35 : decode prog_142_method_11_code 35 = .ok (.iload_n 0, 1) := by decide +kernel
theorem d1_36 : decode prog_142_method_11_code 36 = .ok (.bipush 127, 2) := by decide +kernel
theorem d1_38 : decode prog_142_method_11_code 38 = .ok (.if_icmp .lt 10, 3) := by decide +kernel
theorem d1_41 : decode prog_142_method_11_code 41 = .ok (.iload_n 0, 1) := by decide +kernel
theorem d1_42 : decode prog_142_method_11_code 42 = .ok (.sipush 132, 3) := by decide +kernel
theorem d1_45 : decode prog_142_method_11_code 45 = .ok (.if_icmp .le 17, 3) := by decide +kernel
theorem d1_48 : decode prog_142_method_11_code 48 = .ok (.iload_n 0, 1) := by decide +kernel
theorem d1_49 : decode prog_142_method_11_code 49 = .ok (.sipush 134, 3) := by decide +kernel
theorem d1_52 : decode prog_142_method_11_code 52 = .ok (.if_icmp .lt 14, 3) := by decide +kernel
theorem d1_55 : decode prog_142_method_11_code 55 = .ok (.iload_n 0, 1) := by decide +kernel
theorem d1_56 : decode prog_142_method_11_code 56 = .ok (.sipush 159, 3) := by decide +kernel
theorem d1_59 : decode prog_142_method_11_code 59 = .ok (.if_icmp .gt 7, 3) := by decide +kernel
theorem d1_62 : decode prog_142_method_11_code 62 = .ok (.iconst 1, 1) := by decide +kernel
theorem d1_63 : decode prog_142_method_11_code 63 = .ok (.goto 4, 3) := by decide +kernel
theorem d1_66 : decode prog_142_method_11_code 66 = .ok (.iconst 0, 1) := by decide +kernel
theorem d1_67 : decode prog_142_method_11_code 67 = .ok (.ireturn, 1) := by decide +kernel
theorem pn_1 : plainName "com/example/unnest/unnest/xml/XmlChars" = true := by first | (simp [plainName, overriddenIn]; done) | decide +kernel
theorem ef_1 (m : MethodId) (p0 : Int32) : entryFrame m #[(.int p0)] 1 = mkF m 0 #[.val (.int p0)] [] := by first | (simp [entryFrame, mkF, argsToLocals, Value.category]; done) | rfl
def own_f1_62 : Int32 :=
  (1 : Int32)
def own_f1_66 : Int32 :=
  (0 : Int32)
def own_f1_48 (p0 : Int32) : Int32 :=
  if p0 < (134 : Int32) then
    (own_f1_66)
  else
    if (159 : Int32) < p0 then
      (own_f1_66)
    else
      (own_f1_62)
def own_f1_35 (p0 : Int32) : Int32 :=
  if p0 < (127 : Int32) then
    (own_f1_48 p0)
  else
    if (132 : Int32) < p0 then
      (own_f1_48 p0)
    else
      (own_f1_62)
def own_f1_23 (p0 : Int32) : Int32 :=
  if p0 < (14 : Int32) then
    (own_f1_35 p0)
  else
    if (31 : Int32) < p0 then
      (own_f1_35 p0)
    else
      (own_f1_62)
def own_f1_11 (p0 : Int32) : Int32 :=
  if p0 < (11 : Int32) then
    (own_f1_23 p0)
  else
    if (12 : Int32) < p0 then
      (own_f1_23 p0)
    else
      (own_f1_62)
def own_f1 (p0 : Int32) : Int32 :=
  if p0 < (1 : Int32) then
    (own_f1_11 p0)
  else
    if (8 : Int32) < p0 then
      (own_f1_11 p0)
    else
      (own_f1_62)
abbrev own_room1 : Room := { frames := 0, cells := 0, slots := 0, locals := 0 }
set_option maxRecDepth 65536 in
set_option maxHeartbeats 40000000 in
theorem rm1 (l : Launch) (Z : State) (a0 : Array Value) (hw : ∀ d ∈ tables_1, d.before a0 Z = true) (ws : List Jvm.Cond) (p0 : Int32) (h0 : Heap) (n0 : Nat) (Z0 : n0 ≤ h0.size) :
    MetFree l (⟨"com/example/unnest/unnest/xml/XmlChars", "isRestrictedXml11Char", "(I)Z"⟩ : MethodName) (head1 (Jvm.Cond.code (⟨"com/example/unnest/unnest/xml/XmlChars", "isRestrictedXml11Char", "(I)Z"⟩ : MethodName) prog_142_method_11_code 1 (some .boolean) :: ws) own_room1) (fun a U => a = #[(.int p0)] ∧ Z.Warmed39 U.vm ∧ U.heap = h0) (fun _ _ _ _ _ => True) (fun _ U o U' => ∃ v L, o = .returned v ∧ own_Qp (some (.int (own_f1 p0))) h0 v U'.heap L ∧ FrameEnd U o U' L own_room1.cells own_room1.slots) := by
  refine MetFree.of_bodySF (plainFor_of_name pn_1) hisR ?_
  intro p e s m args below meth c s₁ Bd hml0 hP hK
  obtain ⟨rfl, hZ, hh⟩ := hP
  have hx := Bd.exec
  have hby := Bd.bytes
  have hml : c.maxLocals = 1 := hml0
  have hown : s.vm.findClass "com/example/unnest/unnest/xml/XmlChars" = some m.cls := findClass_of_methodNamed Bd.named
  have hnm := (name_of_methodNamed Bd.named Bd.method).1
  have X0 : Stand p l e own_room1 s m #[(.int p0)] below meth c s₁ [] 0 0 := Stand.of_body Bd
  have e0 : s₁.heap = h0 := by rw [← hh, Bd.state]; rfl
  have N0 := Fr.nil n0
  refine own_enter (ef_1 m p0) ?_
  show own_Goes p.tables e below (s₁.setTop (mkF m 0 #[.val (.int p0)] [])) (own_P s (own_Qp (some (.int (own_f1 p0))) h0) own_room1.cells own_room1.slots)
  refine own_step (fun _ => XS.iloadN X0.here hx rfl (hb hby d1_0) rfl) ?_
  show own_Goes p.tables e below (s₁.setTop (mkF m 1 #[.val (.int p0)] [(.int p0)])) _
  refine own_step (fun _ => XS.iconst X0.here hx rfl (hb hby d1_1)) ?_
  show own_Goes p.tables e below (s₁.setTop (mkF m 2 #[.val (.int p0)] [(.int (1 : Int32)), (.int p0)])) _
  have J62 : ∀ (T_62 : State) (X_62 : Stand p l e own_room1 s m #[(.int p0)] below meth c T_62 [] 0 0) (e_62 : T_62.heap = h0), own_Goes p.tables e below (T_62.setTop (mkF m 62 #[.val (.int p0)] [])) (own_P s (own_Qp (some (.int (own_f1_62))) h0) own_room1.cells own_room1.slots) := by
    intro T_62 X_62 e_62
    refine own_step (fun _ => XS.iconst X_62.here hx rfl (hb hby d1_62)) ?_
    show own_Goes p.tables e below (T_62.setTop (mkF m 63 #[.val (.int p0)] [(.int (1 : Int32))])) _
    refine own_step (fun _ => XS.goto X_62.here hx rfl (pc0 := 63) (pc' := 67) rfl (hb hby d1_63) (by decide) (by decide)) ?_
    show own_Goes p.tables e below (T_62.setTop (mkF m 67 #[.val (.int p0)] [(.int (1 : Int32))])) _
    have hv : (own_f1_62) = (1 : Int32) := by exact rfl
    rw [hv]
    exact own_retN X_62 hx (t := .boolean) Bd.returns (by simp) (hb hby d1_67) (BodyLoose.notSynchronized Bd) (w := (1 : Int32)) rfl ⟨rfl, rfl, e_62⟩ (by decide) (by decide)
  have J11 : ∀ (T_11 : State) (X_11 : Stand p l e own_room1 s m #[(.int p0)] below meth c T_11 [] 0 0) (e_11 : T_11.heap = h0), own_Goes p.tables e below (T_11.setTop (mkF m 11 #[.val (.int p0)] [])) (own_P s (own_Qp (some (.int (own_f1_11 p0))) h0) own_room1.cells own_room1.slots) := by
    intro T_11 X_11 e_11
    refine own_step (fun _ => XS.iloadN X_11.here hx rfl (hb hby d1_11) rfl) ?_
    show own_Goes p.tables e below (T_11.setTop (mkF m 12 #[.val (.int p0)] [(.int p0)])) _
    refine own_step (fun _ => XS.bipush X_11.here hx rfl (hb hby d1_12)) ?_
    show own_Goes p.tables e below (T_11.setTop (mkF m 14 #[.val (.int p0)] [(.int (11 : Int32)), (.int p0)])) _
    have J23 : ∀ (T_23 : State) (X_23 : Stand p l e own_room1 s m #[(.int p0)] below meth c T_23 [] 0 0) (e_23 : T_23.heap = h0), own_Goes p.tables e below (T_23.setTop (mkF m 23 #[.val (.int p0)] [])) (own_P s (own_Qp (some (.int (own_f1_23 p0))) h0) own_room1.cells own_room1.slots) := by
      intro T_23 X_23 e_23
      refine own_step (fun _ => XS.iloadN X_23.here hx rfl (hb hby d1_23) rfl) ?_
      show own_Goes p.tables e below (T_23.setTop (mkF m 24 #[.val (.int p0)] [(.int p0)])) _
      refine own_step (fun _ => XS.bipush X_23.here hx rfl (hb hby d1_24)) ?_
      show own_Goes p.tables e below (T_23.setTop (mkF m 26 #[.val (.int p0)] [(.int (14 : Int32)), (.int p0)])) _
      have J35 : ∀ (T_35 : State) (X_35 : Stand p l e own_room1 s m #[(.int p0)] below meth c T_35 [] 0 0) (e_35 : T_35.heap = h0), own_Goes p.tables e below (T_35.setTop (mkF m 35 #[.val (.int p0)] [])) (own_P s (own_Qp (some (.int (own_f1_35 p0))) h0) own_room1.cells own_room1.slots) := by
        intro T_35 X_35 e_35
        refine own_step (fun _ => XS.iloadN X_35.here hx rfl (hb hby d1_35) rfl) ?_
        show own_Goes p.tables e below (T_35.setTop (mkF m 36 #[.val (.int p0)] [(.int p0)])) _
        refine own_step (fun _ => XS.bipush X_35.here hx rfl (hb hby d1_36)) ?_
        show own_Goes p.tables e below (T_35.setTop (mkF m 38 #[.val (.int p0)] [(.int (127 : Int32)), (.int p0)])) _
        have J48 : ∀ (T_48 : State) (X_48 : Stand p l e own_room1 s m #[(.int p0)] below meth c T_48 [] 0 0) (e_48 : T_48.heap = h0), own_Goes p.tables e below (T_48.setTop (mkF m 48 #[.val (.int p0)] [])) (own_P s (own_Qp (some (.int (own_f1_48 p0))) h0) own_room1.cells own_room1.slots) := by
          intro T_48 X_48 e_48
          refine own_step (fun _ => XS.iloadN X_48.here hx rfl (hb hby d1_48) rfl) ?_
          show own_Goes p.tables e below (T_48.setTop (mkF m 49 #[.val (.int p0)] [(.int p0)])) _
          refine own_step (fun _ => XS.sipush X_48.here hx rfl (hb hby d1_49)) ?_
          show own_Goes p.tables e below (T_48.setTop (mkF m 52 #[.val (.int p0)] [(.int (134 : Int32)), (.int p0)])) _
          have J66 : ∀ (T_66 : State) (X_66 : Stand p l e own_room1 s m #[(.int p0)] below meth c T_66 [] 0 0) (e_66 : T_66.heap = h0), own_Goes p.tables e below (T_66.setTop (mkF m 66 #[.val (.int p0)] [])) (own_P s (own_Qp (some (.int (own_f1_66))) h0) own_room1.cells own_room1.slots) := by
            intro T_66 X_66 e_66
            refine own_step (fun _ => XS.iconst X_66.here hx rfl (hb hby d1_66)) ?_
            show own_Goes p.tables e below (T_66.setTop (mkF m 67 #[.val (.int p0)] [(.int (0 : Int32))])) _
            have hv : (own_f1_66) = (0 : Int32) := by exact rfl
            rw [hv]
            exact own_retN X_66 hx (t := .boolean) Bd.returns (by simp) (hb hby d1_67) (BodyLoose.notSynchronized Bd) (w := (0 : Int32)) rfl ⟨rfl, rfl, e_66⟩ (by decide) (by decide)
          by_cases hc52 : p0 < (134 : Int32)
          · refine own_step (fun _ => XS.icmpYes X_48.here hx rfl (pc0 := 52) (pc' := 66) rfl (hb hby d1_52) rfl (Jvm.Free.XT.ii_lt_t hc52) (by decide) (by decide)) ?_
            show own_Goes p.tables e below (T_48.setTop (mkF m 66 #[.val (.int p0)] [])) _
            have hv : (own_f1_48 p0) = (own_f1_66) := by exact (if_pos hc52)
            rw [hv]
            exact J66 T_48 X_48 e_48
          · refine own_step (fun _ => XS.icmpNo X_48.here hx rfl (hb hby d1_52) rfl (Jvm.Free.XT.ii_lt_f hc52)) ?_
            show own_Goes p.tables e below (T_48.setTop (mkF m 55 #[.val (.int p0)] [])) _
            refine own_step (fun _ => XS.iloadN X_48.here hx rfl (hb hby d1_55) rfl) ?_
            show own_Goes p.tables e below (T_48.setTop (mkF m 56 #[.val (.int p0)] [(.int p0)])) _
            refine own_step (fun _ => XS.sipush X_48.here hx rfl (hb hby d1_56)) ?_
            show own_Goes p.tables e below (T_48.setTop (mkF m 59 #[.val (.int p0)] [(.int (159 : Int32)), (.int p0)])) _
            by_cases hc59 : (159 : Int32) < p0
            · refine own_step (fun _ => XS.icmpYes X_48.here hx rfl (pc0 := 59) (pc' := 66) rfl (hb hby d1_59) rfl (Jvm.Free.XT.ii_gt_t hc59) (by decide) (by decide)) ?_
              show own_Goes p.tables e below (T_48.setTop (mkF m 66 #[.val (.int p0)] [])) _
              have hv : (own_f1_48 p0) = (own_f1_66) := by exact ((if_neg hc52)).trans (if_pos hc59)
              rw [hv]
              exact J66 T_48 X_48 e_48
            · refine own_step (fun _ => XS.icmpNo X_48.here hx rfl (hb hby d1_59) rfl (Jvm.Free.XT.ii_gt_f hc59)) ?_
              show own_Goes p.tables e below (T_48.setTop (mkF m 62 #[.val (.int p0)] [])) _
              have hv : (own_f1_48 p0) = (own_f1_62) := by exact ((if_neg hc52)).trans (if_neg hc59)
              rw [hv]
              exact J62 T_48 X_48 e_48
        by_cases hc38 : p0 < (127 : Int32)
        · refine own_step (fun _ => XS.icmpYes X_35.here hx rfl (pc0 := 38) (pc' := 48) rfl (hb hby d1_38) rfl (Jvm.Free.XT.ii_lt_t hc38) (by decide) (by decide)) ?_
          show own_Goes p.tables e below (T_35.setTop (mkF m 48 #[.val (.int p0)] [])) _
          have hv : (own_f1_35 p0) = (own_f1_48 p0) := by exact (if_pos hc38)
          rw [hv]
          exact J48 T_35 X_35 e_35
        · refine own_step (fun _ => XS.icmpNo X_35.here hx rfl (hb hby d1_38) rfl (Jvm.Free.XT.ii_lt_f hc38)) ?_
          show own_Goes p.tables e below (T_35.setTop (mkF m 41 #[.val (.int p0)] [])) _
          refine own_step (fun _ => XS.iloadN X_35.here hx rfl (hb hby d1_41) rfl) ?_
          show own_Goes p.tables e below (T_35.setTop (mkF m 42 #[.val (.int p0)] [(.int p0)])) _
          refine own_step (fun _ => XS.sipush X_35.here hx rfl (hb hby d1_42)) ?_
          show own_Goes p.tables e below (T_35.setTop (mkF m 45 #[.val (.int p0)] [(.int (132 : Int32)), (.int p0)])) _
          by_cases hc45 : (132 : Int32) < p0
          · refine own_step (fun _ => XS.icmpNo X_35.here hx rfl (hb hby d1_45) rfl (Jvm.Free.XT.ii_le_f hc45)) ?_
            show own_Goes p.tables e below (T_35.setTop (mkF m 48 #[.val (.int p0)] [])) _
            have hv : (own_f1_35 p0) = (own_f1_48 p0) := by exact ((if_neg hc38)).trans (if_pos hc45)
            rw [hv]
            exact J48 T_35 X_35 e_35
          · refine own_step (fun _ => XS.icmpYes X_35.here hx rfl (pc0 := 45) (pc' := 62) rfl (hb hby d1_45) rfl (Jvm.Free.XT.ii_le_t hc45) (by decide) (by decide)) ?_
            show own_Goes p.tables e below (T_35.setTop (mkF m 62 #[.val (.int p0)] [])) _
            have hv : (own_f1_35 p0) = (own_f1_62) := by exact ((if_neg hc38)).trans (if_neg hc45)
            rw [hv]
            exact J62 T_35 X_35 e_35
      by_cases hc26 : p0 < (14 : Int32)
      · refine own_step (fun _ => XS.icmpYes X_23.here hx rfl (pc0 := 26) (pc' := 35) rfl (hb hby d1_26) rfl (Jvm.Free.XT.ii_lt_t hc26) (by decide) (by decide)) ?_
        show own_Goes p.tables e below (T_23.setTop (mkF m 35 #[.val (.int p0)] [])) _
        have hv : (own_f1_23 p0) = (own_f1_35 p0) := by exact (if_pos hc26)
        rw [hv]
        exact J35 T_23 X_23 e_23
      · refine own_step (fun _ => XS.icmpNo X_23.here hx rfl (hb hby d1_26) rfl (Jvm.Free.XT.ii_lt_f hc26)) ?_
        show own_Goes p.tables e below (T_23.setTop (mkF m 29 #[.val (.int p0)] [])) _
        refine own_step (fun _ => XS.iloadN X_23.here hx rfl (hb hby d1_29) rfl) ?_
        show own_Goes p.tables e below (T_23.setTop (mkF m 30 #[.val (.int p0)] [(.int p0)])) _
        refine own_step (fun _ => XS.bipush X_23.here hx rfl (hb hby d1_30)) ?_
        show own_Goes p.tables e below (T_23.setTop (mkF m 32 #[.val (.int p0)] [(.int (31 : Int32)), (.int p0)])) _
        by_cases hc32 : (31 : Int32) < p0
        · refine own_step (fun _ => XS.icmpNo X_23.here hx rfl (hb hby d1_32) rfl (Jvm.Free.XT.ii_le_f hc32)) ?_
          show own_Goes p.tables e below (T_23.setTop (mkF m 35 #[.val (.int p0)] [])) _
          have hv : (own_f1_23 p0) = (own_f1_35 p0) := by exact ((if_neg hc26)).trans (if_pos hc32)
          rw [hv]
          exact J35 T_23 X_23 e_23
        · refine own_step (fun _ => XS.icmpYes X_23.here hx rfl (pc0 := 32) (pc' := 62) rfl (hb hby d1_32) rfl (Jvm.Free.XT.ii_le_t hc32) (by decide) (by decide)) ?_
          show own_Goes p.tables e below (T_23.setTop (mkF m 62 #[.val (.int p0)] [])) _
          have hv : (own_f1_23 p0) = (own_f1_62) := by exact ((if_neg hc26)).trans (if_neg hc32)
          rw [hv]
          exact J62 T_23 X_23 e_23
    by_cases hc14 : p0 < (11 : Int32)
    · refine own_step (fun _ => XS.icmpYes X_11.here hx rfl (pc0 := 14) (pc' := 23) rfl (hb hby d1_14) rfl (Jvm.Free.XT.ii_lt_t hc14) (by decide) (by decide)) ?_
      show own_Goes p.tables e below (T_11.setTop (mkF m 23 #[.val (.int p0)] [])) _
      have hv : (own_f1_11 p0) = (own_f1_23 p0) := by exact (if_pos hc14)
      rw [hv]
      exact J23 T_11 X_11 e_11
    · refine own_step (fun _ => XS.icmpNo X_11.here hx rfl (hb hby d1_14) rfl (Jvm.Free.XT.ii_lt_f hc14)) ?_
      show own_Goes p.tables e below (T_11.setTop (mkF m 17 #[.val (.int p0)] [])) _
      refine own_step (fun _ => XS.iloadN X_11.here hx rfl (hb hby d1_17) rfl) ?_
      show own_Goes p.tables e below (T_11.setTop (mkF m 18 #[.val (.int p0)] [(.int p0)])) _
      refine own_step (fun _ => XS.bipush X_11.here hx rfl (hb hby d1_18)) ?_
      show own_Goes p.tables e below (T_11.setTop (mkF m 20 #[.val (.int p0)] [(.int (12 : Int32)), (.int p0)])) _
      by_cases hc20 : (12 : Int32) < p0
      · refine own_step (fun _ => XS.icmpNo X_11.here hx rfl (hb hby d1_20) rfl (Jvm.Free.XT.ii_le_f hc20)) ?_
        show own_Goes p.tables e below (T_11.setTop (mkF m 23 #[.val (.int p0)] [])) _
        have hv : (own_f1_11 p0) = (own_f1_23 p0) := by exact ((if_neg hc14)).trans (if_pos hc20)
        rw [hv]
        exact J23 T_11 X_11 e_11
      · refine own_step (fun _ => XS.icmpYes X_11.here hx rfl (pc0 := 20) (pc' := 62) rfl (hb hby d1_20) rfl (Jvm.Free.XT.ii_le_t hc20) (by decide) (by decide)) ?_
        show own_Goes p.tables e below (T_11.setTop (mkF m 62 #[.val (.int p0)] [])) _
        have hv : (own_f1_11 p0) = (own_f1_62) := by exact ((if_neg hc14)).trans (if_neg hc20)
        rw [hv]
        exact J62 T_11 X_11 e_11
  by_cases hc2 : p0 < (1 : Int32)
  · refine own_step (fun _ => XS.icmpYes X0.here hx rfl (pc0 := 2) (pc' := 11) rfl (hb hby d1_2) rfl (Jvm.Free.XT.ii_lt_t hc2) (by decide) (by decide)) ?_
    show own_Goes p.tables e below (s₁.setTop (mkF m 11 #[.val (.int p0)] [])) _
    have hv : (own_f1 p0) = (own_f1_11 p0) := by exact (if_pos hc2)
    rw [hv]
    exact J11 s₁ X0 e0
  · refine own_step (fun _ => XS.icmpNo X0.here hx rfl (hb hby d1_2) rfl (Jvm.Free.XT.ii_lt_f hc2)) ?_
    show own_Goes p.tables e below (s₁.setTop (mkF m 5 #[.val (.int p0)] [])) _
    refine own_step (fun _ => XS.iloadN X0.here hx rfl (hb hby d1_5) rfl) ?_
    show own_Goes p.tables e below (s₁.setTop (mkF m 6 #[.val (.int p0)] [(.int p0)])) _
    refine own_step (fun _ => XS.bipush X0.here hx rfl (hb hby d1_6)) ?_
    show own_Goes p.tables e below (s₁.setTop (mkF m 8 #[.val (.int p0)] [(.int (8 : Int32)), (.int p0)])) _
    by_cases hc8 : (8 : Int32) < p0
    · refine own_step (fun _ => XS.icmpNo X0.here hx rfl (hb hby d1_8) rfl (Jvm.Free.XT.ii_le_f hc8)) ?_
      show own_Goes p.tables e below (s₁.setTop (mkF m 11 #[.val (.int p0)] [])) _
      have hv : (own_f1 p0) = (own_f1_11 p0) := by exact ((if_neg hc2)).trans (if_pos hc8)
      rw [hv]
      exact J11 s₁ X0 e0
    · refine own_step (fun _ => XS.icmpYes X0.here hx rfl (pc0 := 8) (pc' := 62) rfl (hb hby d1_8) rfl (Jvm.Free.XT.ii_le_t hc8) (by decide) (by decide)) ?_
      show own_Goes p.tables e below (s₁.setTop (mkF m 62 #[.val (.int p0)] [])) _
      have hv : (own_f1 p0) = (own_f1_62) := by exact ((if_neg hc2)).trans (if_neg hc8)
      rw [hv]
      exact J62 s₁ X0 e0
theorem pn_0 : plainName "com/example/unnest/unnest/xml/XmlCharsIsRestrictedXml11CharPinLaw" = true := by first | (simp [plainName, overriddenIn]; done) | decide +kernel
theorem pd_0_0 : parseMethodDescriptor "(I)Z" = some ⟨[.int], some .boolean⟩ := by decide +kernel
theorem ef_0 (m : MethodId) (p0 : Int32) (p1 : Int32) (p2 : Int32) : entryFrame m #[(.int p0), (.int p1), (.int p2)] maxLocals = mkF m 0 #[.val (.int p0), .val (.int p1), .val (.int p2), .unset, .unset, .unset] [] := by first | (simp [entryFrame, mkF, argsToLocals, Value.category, maxLocals]; done) | rfl
def own_f0_84 (v17_t0 : Int32) (v84_t0 : Int32) : Int32 :=
  if (own_f1 v17_t0) = v84_t0 then
    (1 : Int32)
  else
    (0 : Int32)
def own_f0_83 (v17_t0 : Int32) : Int32 :=
  (own_f0_84 v17_t0 (0 : Int32))
def own_f0_47 (v17_t0 : Int32) (v47_t0 : Int32) : Int32 :=
  if v47_t0 = 0 then
    (own_f0_83 v17_t0)
  else
    if v17_t0 = (9 : Int32) then
      (own_f0_83 v17_t0)
    else
      if v17_t0 = (10 : Int32) then
        (own_f0_83 v17_t0)
      else
        if v17_t0 = (13 : Int32) then
          (own_f0_83 v17_t0)
        else
          if v17_t0 = (133 : Int32) then
            (own_f0_83 v17_t0)
          else
            (own_f0_84 v17_t0 (1 : Int32))
def own_f0_42 (v17_t0 : Int32) : Int32 :=
  (own_f0_47 v17_t0 (1 : Int32))
def own_f0_46 (v17_t0 : Int32) : Int32 :=
  (own_f0_47 v17_t0 (0 : Int32))
def own_f0_17 (v17_t0 : Int32) : Int32 :=
  if v17_t0 < (1 : Int32) then
    (own_f0_46 v17_t0)
  else
    if (159 : Int32) < v17_t0 then
      (own_f0_46 v17_t0)
    else
      if v17_t0 < (32 : Int32) then
        (own_f0_42 v17_t0)
      else
        if (126 : Int32) < v17_t0 then
          (own_f0_42 v17_t0)
        else
          (own_f0_46 v17_t0)
def own_f0 (p0 : Int32) (p1 : Int32) (p2 : Int32) : Int32 :=
  if (p2 &&& (1 : Int32)) = 0 then
    (own_f0_17 ((p1 &&& (255 : Int32)) - (4 : Int32)))
  else
    (own_f0_17 p0)
set_option maxRecDepth 65536 in
set_option maxHeartbeats 40000000 in
theorem rm0 (l : Launch) (Z : State) (a0 : Array Value) (hw : ∀ d ∈ tables_1, d.before a0 Z = true) (ws : List Jvm.Cond) (p0 : Int32) (p1 : Int32) (p2 : Int32) (h0 : Heap) (n0 : Nat) (Z0 : n0 ≤ h0.size) :
    MetFree l x (head1 (Jvm.Cond.code x code maxLocals ret :: ws) room_1) (fun a U => a = #[(.int p0), (.int p1), (.int p2)] ∧ Z.Warmed39 U.vm ∧ U.heap = h0) (fun _ _ _ _ _ => True) (fun _ U o U' => ∃ v L, o = .returned v ∧ own_Ql (some (.int (own_f0 p0 p1 p2))) n0 v U'.heap L ∧ FrameEnd U o U' L 0 0) := by
  refine MetFree.of_bodySF (plainFor_of_name pn_0) hisR ?_
  intro p e s m args below meth c s₁ Bd hml0 hP hK
  obtain ⟨rfl, hZ, hh⟩ := hP
  have hx := Bd.exec
  have hby := Bd.bytes
  have hml : c.maxLocals = 6 := hml0
  have hown : s.vm.findClass "com/example/unnest/unnest/xml/XmlCharsIsRestrictedXml11CharPinLaw" = some m.cls := findClass_of_methodNamed Bd.named
  have hnm := (name_of_methodNamed Bd.named Bd.method).1
  have X0 : Stand p l e room_1 s m #[(.int p0), (.int p1), (.int p2)] below meth c s₁ [] 0 0 := Stand.of_body Bd
  have e0 : s₁.heap = h0 := by rw [← hh, Bd.state]; rfl
  have N0 := Fr.nil n0
  refine own_enter (ef_0 m p0 p1 p2) ?_
  show own_Goes p.tables e below (s₁.setTop (mkF m 0 #[.val (.int p0), .val (.int p1), .val (.int p2), .unset, .unset, .unset] [])) (own_P s (own_Ql (some (.int (own_f0 p0 p1 p2))) n0) 0 0)
  refine own_step (fun _ => XS.iloadN X0.here hx rfl (hb hby at_0) rfl) ?_
  show own_Goes p.tables e below (s₁.setTop (mkF m 1 #[.val (.int p0), .val (.int p1), .val (.int p2), .unset, .unset, .unset] [(.int p2)])) _
  refine own_step (fun _ => XS.iconst X0.here hx rfl (hb hby at_1)) ?_
  show own_Goes p.tables e below (s₁.setTop (mkF m 2 #[.val (.int p0), .val (.int p1), .val (.int p2), .unset, .unset, .unset] [(.int (1 : Int32)), (.int p2)])) _
  refine own_step (fun _ => XS.iand X0.here hx rfl (hb hby at_2) rfl) ?_
  show own_Goes p.tables e below (s₁.setTop (mkF m 3 #[.val (.int p0), .val (.int p1), .val (.int p2), .unset, .unset, .unset] [(.int (p2 &&& (1 : Int32)))])) _
  have J17 : ∀ (T_17 : State) (X_17 : Stand p l e room_1 s m #[(.int p0), (.int p1), (.int p2)] below meth c T_17 [] 0 0) (e_17 : T_17.heap = h0) (v17_t0 : Int32), own_Goes p.tables e below (T_17.setTop (mkF m 17 #[.val (.int p0), .val (.int p1), .val (.int p2), .unset, .unset, .unset] [(.int v17_t0)])) (own_P s (own_Ql (some (.int (own_f0_17 v17_t0))) n0) 0 0) := by
    intro T_17 X_17 e_17 v17_t0
    refine own_step (fun _ => XS.istoreN X_17.here hx rfl (hb hby at_17) rfl (l' := #[.val (.int p0), .val (.int p1), .val (.int p2), .val (.int v17_t0), .unset, .unset]) rfl) ?_
    show own_Goes p.tables e below (T_17.setTop (mkF m 18 #[.val (.int p0), .val (.int p1), .val (.int p2), .val (.int v17_t0), .unset, .unset] [])) _
    refine own_step (fun _ => XS.iloadN X_17.here hx rfl (hb hby at_18) rfl) ?_
    show own_Goes p.tables e below (T_17.setTop (mkF m 19 #[.val (.int p0), .val (.int p1), .val (.int p2), .val (.int v17_t0), .unset, .unset] [(.int v17_t0)])) _
    refine own_step (fun _ => XS.iconst X_17.here hx rfl (hb hby at_19)) ?_
    show own_Goes p.tables e below (T_17.setTop (mkF m 20 #[.val (.int p0), .val (.int p1), .val (.int p2), .val (.int v17_t0), .unset, .unset] [(.int (1 : Int32)), (.int v17_t0)])) _
    have J47 : ∀ (T_47 : State) (X_47 : Stand p l e room_1 s m #[(.int p0), (.int p1), (.int p2)] below meth c T_47 [] 0 0) (e_47 : T_47.heap = h0) (v47_t0 : Int32), own_Goes p.tables e below (T_47.setTop (mkF m 47 #[.val (.int p0), .val (.int p1), .val (.int p2), .val (.int v17_t0), .unset, .unset] [(.int v47_t0)])) (own_P s (own_Ql (some (.int (own_f0_47 v17_t0 v47_t0))) n0) 0 0) := by
      intro T_47 X_47 e_47 v47_t0
      refine own_step (fun _ => XS.istore X_47.here hx rfl (hb hby at_47) rfl (l' := #[.val (.int p0), .val (.int p1), .val (.int p2), .val (.int v17_t0), .val (.int v47_t0), .unset]) rfl) ?_
      show own_Goes p.tables e below (T_47.setTop (mkF m 49 #[.val (.int p0), .val (.int p1), .val (.int p2), .val (.int v17_t0), .val (.int v47_t0), .unset] [])) _
      refine own_step (fun _ => XS.iload X_47.here hx rfl (hb hby at_49) rfl) ?_
      show own_Goes p.tables e below (T_47.setTop (mkF m 51 #[.val (.int p0), .val (.int p1), .val (.int p2), .val (.int v17_t0), .val (.int v47_t0), .unset] [(.int v47_t0)])) _
      have J84 : ∀ (T_84 : State) (X_84 : Stand p l e room_1 s m #[(.int p0), (.int p1), (.int p2)] below meth c T_84 [] 0 0) (e_84 : T_84.heap = h0) (v84_t0 : Int32), own_Goes p.tables e below (T_84.setTop (mkF m 84 #[.val (.int p0), .val (.int p1), .val (.int p2), .val (.int v17_t0), .val (.int v47_t0), .unset] [(.int v84_t0)])) (own_P s (own_Ql (some (.int (own_f0_84 v17_t0 v84_t0))) n0) 0 0) := by
        intro T_84 X_84 e_84 v84_t0
        refine own_step (fun _ => XS.istore X_84.here hx rfl (hb hby at_84) rfl (l' := #[.val (.int p0), .val (.int p1), .val (.int p2), .val (.int v17_t0), .val (.int v47_t0), .val (.int v84_t0)]) rfl) ?_
        show own_Goes p.tables e below (T_84.setTop (mkF m 86 #[.val (.int p0), .val (.int p1), .val (.int p2), .val (.int v17_t0), .val (.int v47_t0), .val (.int v84_t0)] [])) _
        refine own_step (fun _ => XS.iloadN X_84.here hx rfl (hb hby at_86) rfl) ?_
        show own_Goes p.tables e below (T_84.setTop (mkF m 87 #[.val (.int p0), .val (.int p1), .val (.int p2), .val (.int v17_t0), .val (.int v47_t0), .val (.int v84_t0)] [(.int v17_t0)])) _
        obtain ⟨_, _, ⟨T1, L1, k1, n1⟩, -, X1, ⟨Lc1, hQ1, l1, y1, z1⟩, st1⟩ := Jvm.LawKit.callS X_84 hx (y := (⟨"com/example/unnest/unnest/xml/XmlChars", "isRestrictedXml11Char", "(I)Z"⟩ : MethodName)) hown (mvT hZ (hw _ (List.mem_of_getElem? (i := 0) rfl))) (mvT hZ (hw _ (List.mem_of_getElem? (i := 1) rfl))) (mvT hZ (hw _ (List.mem_of_getElem? (i := 2) rfl))) (mvT hZ (hw _ (List.mem_of_getElem? (i := 3) rfl))) (by decide) (backOf (W := 0) (rm1 l Z a0 hw [] v17_t0 h0 n0 Z0) hZ (hw _ (List.mem_of_getElem? (i := 3) rfl)) (hw _ (List.mem_of_getElem? (i := 2) rfl)) (by decide) (by decide)) (g := (mkF m 87 #[.val (.int p0), .val (.int p1), .val (.int p2), .val (.int v17_t0), .val (.int v47_t0), .val (.int v84_t0)] [(.int v17_t0)])) rfl (by rw [hml]; rfl) (argsL := [(.int v17_t0)]) (rest := []) (lenOf pd_0_0 rfl) rfl (by show 2 * 0 + _ ≤ _; exact Nat.le_of_eq rfl) (hb hby at_87) (fun _ _ => ⟨rfl, e_84, (by decide : 0 + 0 ≤ _), (by decide : 0 + 0 ≤ _)⟩)
        dsimp only [Pt.U, Pt.locs, Pt.cells, Pt.slots] at X1 l1 y1 z1 st1 hQ1
        subst l1 y1 z1
        obtain ⟨rfl, rfl, e1⟩ := hQ1
        have X1 : Stand p l e room_1 s m #[(.int p0), (.int p1), (.int p2)] below meth c T1 [] 0 0 := own_flat X1
        refine own_step (st1) ?_
        show own_Goes p.tables e below (T1.setTop (mkF m 90 #[.val (.int p0), .val (.int p1), .val (.int p2), .val (.int v17_t0), .val (.int v47_t0), .val (.int v84_t0)] [(.int (own_f1 v17_t0))])) _
        refine own_step (fun _ => XS.iload X1.here hx rfl (hb hby at_90) rfl) ?_
        show own_Goes p.tables e below (T1.setTop (mkF m 92 #[.val (.int p0), .val (.int p1), .val (.int p2), .val (.int v17_t0), .val (.int v47_t0), .val (.int v84_t0)] [(.int v84_t0), (.int (own_f1 v17_t0))])) _
        by_cases hc92 : (own_f1 v17_t0) = v84_t0
        · refine own_step (fun _ => XS.icmpNo X1.here hx rfl (hb hby at_92) rfl (Jvm.Free.XT.ii_ne_f hc92)) ?_
          show own_Goes p.tables e below (T1.setTop (mkF m 95 #[.val (.int p0), .val (.int p1), .val (.int p2), .val (.int v17_t0), .val (.int v47_t0), .val (.int v84_t0)] [])) _
          refine own_step (fun _ => XS.iconst X1.here hx rfl (hb hby at_95)) ?_
          show own_Goes p.tables e below (T1.setTop (mkF m 96 #[.val (.int p0), .val (.int p1), .val (.int p2), .val (.int v17_t0), .val (.int v47_t0), .val (.int v84_t0)] [(.int (1 : Int32))])) _
          refine own_step (fun _ => XS.goto X1.here hx rfl (pc0 := 96) (pc' := 100) rfl (hb hby at_96) (by decide) (by decide)) ?_
          show own_Goes p.tables e below (T1.setTop (mkF m 100 #[.val (.int p0), .val (.int p1), .val (.int p2), .val (.int v17_t0), .val (.int v47_t0), .val (.int v84_t0)] [(.int (1 : Int32))])) _
          have hv : (own_f0_84 v17_t0 v84_t0) = (1 : Int32) := by exact (if_pos hc92)
          rw [hv]
          exact own_retN X1 hx (t := .boolean) Bd.returns (by simp) (hb hby at_100) (BodyLoose.notSynchronized Bd) (w := (1 : Int32)) rfl ⟨rfl, N0⟩ (by decide) (by decide)
        · refine own_step (fun _ => XS.icmpYes X1.here hx rfl (pc0 := 92) (pc' := 99) rfl (hb hby at_92) rfl (Jvm.Free.XT.ii_ne_t hc92) (by decide) (by decide)) ?_
          show own_Goes p.tables e below (T1.setTop (mkF m 99 #[.val (.int p0), .val (.int p1), .val (.int p2), .val (.int v17_t0), .val (.int v47_t0), .val (.int v84_t0)] [])) _
          refine own_step (fun _ => XS.iconst X1.here hx rfl (hb hby at_99)) ?_
          show own_Goes p.tables e below (T1.setTop (mkF m 100 #[.val (.int p0), .val (.int p1), .val (.int p2), .val (.int v17_t0), .val (.int v47_t0), .val (.int v84_t0)] [(.int (0 : Int32))])) _
          have hv : (own_f0_84 v17_t0 v84_t0) = (0 : Int32) := by exact (if_neg hc92)
          rw [hv]
          exact own_retN X1 hx (t := .boolean) Bd.returns (by simp) (hb hby at_100) (BodyLoose.notSynchronized Bd) (w := (0 : Int32)) rfl ⟨rfl, N0⟩ (by decide) (by decide)
      have J83 : ∀ (T_83 : State) (X_83 : Stand p l e room_1 s m #[(.int p0), (.int p1), (.int p2)] below meth c T_83 [] 0 0) (e_83 : T_83.heap = h0), own_Goes p.tables e below (T_83.setTop (mkF m 83 #[.val (.int p0), .val (.int p1), .val (.int p2), .val (.int v17_t0), .val (.int v47_t0), .unset] [])) (own_P s (own_Ql (some (.int (own_f0_83 v17_t0))) n0) 0 0) := by
        intro T_83 X_83 e_83
        refine own_step (fun _ => XS.iconst X_83.here hx rfl (hb hby at_83)) ?_
        show own_Goes p.tables e below (T_83.setTop (mkF m 84 #[.val (.int p0), .val (.int p1), .val (.int p2), .val (.int v17_t0), .val (.int v47_t0), .unset] [(.int (0 : Int32))])) _
        have hv : (own_f0_83 v17_t0) = (own_f0_84 v17_t0 (0 : Int32)) := by exact rfl
        rw [hv]
        exact J84 T_83 X_83 e_83 (0 : Int32)
      by_cases hc51 : v47_t0 = 0
      · refine own_step (fun _ => XS.ifYes X_47.here hx rfl (pc0 := 51) (pc' := 83) rfl (hb hby at_51) rfl (Jvm.Free.XT.i0_eq_t hc51) (by decide) (by decide)) ?_
        show own_Goes p.tables e below (T_47.setTop (mkF m 83 #[.val (.int p0), .val (.int p1), .val (.int p2), .val (.int v17_t0), .val (.int v47_t0), .unset] [])) _
        have hv : (own_f0_47 v17_t0 v47_t0) = (own_f0_83 v17_t0) := by exact (if_pos hc51)
        rw [hv]
        exact J83 T_47 X_47 e_47
      · refine own_step (fun _ => XS.ifNo X_47.here hx rfl (hb hby at_51) rfl (Jvm.Free.XT.i0_eq_f hc51)) ?_
        show own_Goes p.tables e below (T_47.setTop (mkF m 54 #[.val (.int p0), .val (.int p1), .val (.int p2), .val (.int v17_t0), .val (.int v47_t0), .unset] [])) _
        refine own_step (fun _ => XS.iloadN X_47.here hx rfl (hb hby at_54) rfl) ?_
        show own_Goes p.tables e below (T_47.setTop (mkF m 55 #[.val (.int p0), .val (.int p1), .val (.int p2), .val (.int v17_t0), .val (.int v47_t0), .unset] [(.int v17_t0)])) _
        refine own_step (fun _ => XS.bipush X_47.here hx rfl (hb hby at_55)) ?_
        show own_Goes p.tables e below (T_47.setTop (mkF m 57 #[.val (.int p0), .val (.int p1), .val (.int p2), .val (.int v17_t0), .val (.int v47_t0), .unset] [(.int (9 : Int32)), (.int v17_t0)])) _
        by_cases hc57 : v17_t0 = (9 : Int32)
        · refine own_step (fun _ => XS.icmpYes X_47.here hx rfl (pc0 := 57) (pc' := 83) rfl (hb hby at_57) rfl (Jvm.Free.XT.ii_eq_t hc57) (by decide) (by decide)) ?_
          show own_Goes p.tables e below (T_47.setTop (mkF m 83 #[.val (.int p0), .val (.int p1), .val (.int p2), .val (.int v17_t0), .val (.int v47_t0), .unset] [])) _
          have hv : (own_f0_47 v17_t0 v47_t0) = (own_f0_83 v17_t0) := by exact ((if_neg hc51)).trans (if_pos hc57)
          rw [hv]
          exact J83 T_47 X_47 e_47
        · refine own_step (fun _ => XS.icmpNo X_47.here hx rfl (hb hby at_57) rfl (Jvm.Free.XT.ii_eq_f hc57)) ?_
          show own_Goes p.tables e below (T_47.setTop (mkF m 60 #[.val (.int p0), .val (.int p1), .val (.int p2), .val (.int v17_t0), .val (.int v47_t0), .unset] [])) _
          refine own_step (fun _ => XS.iloadN X_47.here hx rfl (hb hby at_60) rfl) ?_
          show own_Goes p.tables e below (T_47.setTop (mkF m 61 #[.val (.int p0), .val (.int p1), .val (.int p2), .val (.int v17_t0), .val (.int v47_t0), .unset] [(.int v17_t0)])) _
          refine own_step (fun _ => XS.bipush X_47.here hx rfl (hb hby at_61)) ?_
          show own_Goes p.tables e below (T_47.setTop (mkF m 63 #[.val (.int p0), .val (.int p1), .val (.int p2), .val (.int v17_t0), .val (.int v47_t0), .unset] [(.int (10 : Int32)), (.int v17_t0)])) _
          by_cases hc63 : v17_t0 = (10 : Int32)
          · refine own_step (fun _ => XS.icmpYes X_47.here hx rfl (pc0 := 63) (pc' := 83) rfl (hb hby at_63) rfl (Jvm.Free.XT.ii_eq_t hc63) (by decide) (by decide)) ?_
            show own_Goes p.tables e below (T_47.setTop (mkF m 83 #[.val (.int p0), .val (.int p1), .val (.int p2), .val (.int v17_t0), .val (.int v47_t0), .unset] [])) _
            have hv : (own_f0_47 v17_t0 v47_t0) = (own_f0_83 v17_t0) := by exact (((if_neg hc51)).trans (if_neg hc57)).trans (if_pos hc63)
            rw [hv]
            exact J83 T_47 X_47 e_47
          · refine own_step (fun _ => XS.icmpNo X_47.here hx rfl (hb hby at_63) rfl (Jvm.Free.XT.ii_eq_f hc63)) ?_
            show own_Goes p.tables e below (T_47.setTop (mkF m 66 #[.val (.int p0), .val (.int p1), .val (.int p2), .val (.int v17_t0), .val (.int v47_t0), .unset] [])) _
            refine own_step (fun _ => XS.iloadN X_47.here hx rfl (hb hby at_66) rfl) ?_
            show own_Goes p.tables e below (T_47.setTop (mkF m 67 #[.val (.int p0), .val (.int p1), .val (.int p2), .val (.int v17_t0), .val (.int v47_t0), .unset] [(.int v17_t0)])) _
            refine own_step (fun _ => XS.bipush X_47.here hx rfl (hb hby at_67)) ?_
            show own_Goes p.tables e below (T_47.setTop (mkF m 69 #[.val (.int p0), .val (.int p1), .val (.int p2), .val (.int v17_t0), .val (.int v47_t0), .unset] [(.int (13 : Int32)), (.int v17_t0)])) _
            by_cases hc69 : v17_t0 = (13 : Int32)
            · refine own_step (fun _ => XS.icmpYes X_47.here hx rfl (pc0 := 69) (pc' := 83) rfl (hb hby at_69) rfl (Jvm.Free.XT.ii_eq_t hc69) (by decide) (by decide)) ?_
              show own_Goes p.tables e below (T_47.setTop (mkF m 83 #[.val (.int p0), .val (.int p1), .val (.int p2), .val (.int v17_t0), .val (.int v47_t0), .unset] [])) _
              have hv : (own_f0_47 v17_t0 v47_t0) = (own_f0_83 v17_t0) := by exact ((((if_neg hc51)).trans (if_neg hc57)).trans (if_neg hc63)).trans (if_pos hc69)
              rw [hv]
              exact J83 T_47 X_47 e_47
            · refine own_step (fun _ => XS.icmpNo X_47.here hx rfl (hb hby at_69) rfl (Jvm.Free.XT.ii_eq_f hc69)) ?_
              show own_Goes p.tables e below (T_47.setTop (mkF m 72 #[.val (.int p0), .val (.int p1), .val (.int p2), .val (.int v17_t0), .val (.int v47_t0), .unset] [])) _
              refine own_step (fun _ => XS.iloadN X_47.here hx rfl (hb hby at_72) rfl) ?_
              show own_Goes p.tables e below (T_47.setTop (mkF m 73 #[.val (.int p0), .val (.int p1), .val (.int p2), .val (.int v17_t0), .val (.int v47_t0), .unset] [(.int v17_t0)])) _
              refine own_step (fun _ => XS.sipush X_47.here hx rfl (hb hby at_73)) ?_
              show own_Goes p.tables e below (T_47.setTop (mkF m 76 #[.val (.int p0), .val (.int p1), .val (.int p2), .val (.int v17_t0), .val (.int v47_t0), .unset] [(.int (133 : Int32)), (.int v17_t0)])) _
              by_cases hc76 : v17_t0 = (133 : Int32)
              · refine own_step (fun _ => XS.icmpYes X_47.here hx rfl (pc0 := 76) (pc' := 83) rfl (hb hby at_76) rfl (Jvm.Free.XT.ii_eq_t hc76) (by decide) (by decide)) ?_
                show own_Goes p.tables e below (T_47.setTop (mkF m 83 #[.val (.int p0), .val (.int p1), .val (.int p2), .val (.int v17_t0), .val (.int v47_t0), .unset] [])) _
                have hv : (own_f0_47 v17_t0 v47_t0) = (own_f0_83 v17_t0) := by exact (((((if_neg hc51)).trans (if_neg hc57)).trans (if_neg hc63)).trans (if_neg hc69)).trans (if_pos hc76)
                rw [hv]
                exact J83 T_47 X_47 e_47
              · refine own_step (fun _ => XS.icmpNo X_47.here hx rfl (hb hby at_76) rfl (Jvm.Free.XT.ii_eq_f hc76)) ?_
                show own_Goes p.tables e below (T_47.setTop (mkF m 79 #[.val (.int p0), .val (.int p1), .val (.int p2), .val (.int v17_t0), .val (.int v47_t0), .unset] [])) _
                refine own_step (fun _ => XS.iconst X_47.here hx rfl (hb hby at_79)) ?_
                show own_Goes p.tables e below (T_47.setTop (mkF m 80 #[.val (.int p0), .val (.int p1), .val (.int p2), .val (.int v17_t0), .val (.int v47_t0), .unset] [(.int (1 : Int32))])) _
                refine own_step (fun _ => XS.goto X_47.here hx rfl (pc0 := 80) (pc' := 84) rfl (hb hby at_80) (by decide) (by decide)) ?_
                show own_Goes p.tables e below (T_47.setTop (mkF m 84 #[.val (.int p0), .val (.int p1), .val (.int p2), .val (.int v17_t0), .val (.int v47_t0), .unset] [(.int (1 : Int32))])) _
                have hv : (own_f0_47 v17_t0 v47_t0) = (own_f0_84 v17_t0 (1 : Int32)) := by exact (((((if_neg hc51)).trans (if_neg hc57)).trans (if_neg hc63)).trans (if_neg hc69)).trans (if_neg hc76)
                rw [hv]
                exact J84 T_47 X_47 e_47 (1 : Int32)
    have J46 : ∀ (T_46 : State) (X_46 : Stand p l e room_1 s m #[(.int p0), (.int p1), (.int p2)] below meth c T_46 [] 0 0) (e_46 : T_46.heap = h0), own_Goes p.tables e below (T_46.setTop (mkF m 46 #[.val (.int p0), .val (.int p1), .val (.int p2), .val (.int v17_t0), .unset, .unset] [])) (own_P s (own_Ql (some (.int (own_f0_46 v17_t0))) n0) 0 0) := by
      intro T_46 X_46 e_46
      refine own_step (fun _ => XS.iconst X_46.here hx rfl (hb hby at_46)) ?_
      show own_Goes p.tables e below (T_46.setTop (mkF m 47 #[.val (.int p0), .val (.int p1), .val (.int p2), .val (.int v17_t0), .unset, .unset] [(.int (0 : Int32))])) _
      have hv : (own_f0_46 v17_t0) = (own_f0_47 v17_t0 (0 : Int32)) := by exact rfl
      rw [hv]
      exact J47 T_46 X_46 e_46 (0 : Int32)
    by_cases hc20 : v17_t0 < (1 : Int32)
    · refine own_step (fun _ => XS.icmpYes X_17.here hx rfl (pc0 := 20) (pc' := 46) rfl (hb hby at_20) rfl (Jvm.Free.XT.ii_lt_t hc20) (by decide) (by decide)) ?_
      show own_Goes p.tables e below (T_17.setTop (mkF m 46 #[.val (.int p0), .val (.int p1), .val (.int p2), .val (.int v17_t0), .unset, .unset] [])) _
      have hv : (own_f0_17 v17_t0) = (own_f0_46 v17_t0) := by exact (if_pos hc20)
      rw [hv]
      exact J46 T_17 X_17 e_17
    · refine own_step (fun _ => XS.icmpNo X_17.here hx rfl (hb hby at_20) rfl (Jvm.Free.XT.ii_lt_f hc20)) ?_
      show own_Goes p.tables e below (T_17.setTop (mkF m 23 #[.val (.int p0), .val (.int p1), .val (.int p2), .val (.int v17_t0), .unset, .unset] [])) _
      refine own_step (fun _ => XS.iloadN X_17.here hx rfl (hb hby at_23) rfl) ?_
      show own_Goes p.tables e below (T_17.setTop (mkF m 24 #[.val (.int p0), .val (.int p1), .val (.int p2), .val (.int v17_t0), .unset, .unset] [(.int v17_t0)])) _
      refine own_step (fun _ => XS.sipush X_17.here hx rfl (hb hby at_24)) ?_
      show own_Goes p.tables e below (T_17.setTop (mkF m 27 #[.val (.int p0), .val (.int p1), .val (.int p2), .val (.int v17_t0), .unset, .unset] [(.int (159 : Int32)), (.int v17_t0)])) _
      by_cases hc27 : (159 : Int32) < v17_t0
      · refine own_step (fun _ => XS.icmpYes X_17.here hx rfl (pc0 := 27) (pc' := 46) rfl (hb hby at_27) rfl (Jvm.Free.XT.ii_gt_t hc27) (by decide) (by decide)) ?_
        show own_Goes p.tables e below (T_17.setTop (mkF m 46 #[.val (.int p0), .val (.int p1), .val (.int p2), .val (.int v17_t0), .unset, .unset] [])) _
        have hv : (own_f0_17 v17_t0) = (own_f0_46 v17_t0) := by exact ((if_neg hc20)).trans (if_pos hc27)
        rw [hv]
        exact J46 T_17 X_17 e_17
      · refine own_step (fun _ => XS.icmpNo X_17.here hx rfl (hb hby at_27) rfl (Jvm.Free.XT.ii_gt_f hc27)) ?_
        show own_Goes p.tables e below (T_17.setTop (mkF m 30 #[.val (.int p0), .val (.int p1), .val (.int p2), .val (.int v17_t0), .unset, .unset] [])) _
        refine own_step (fun _ => XS.iloadN X_17.here hx rfl (hb hby at_30) rfl) ?_
        show own_Goes p.tables e below (T_17.setTop (mkF m 31 #[.val (.int p0), .val (.int p1), .val (.int p2), .val (.int v17_t0), .unset, .unset] [(.int v17_t0)])) _
        refine own_step (fun _ => XS.bipush X_17.here hx rfl (hb hby at_31)) ?_
        show own_Goes p.tables e below (T_17.setTop (mkF m 33 #[.val (.int p0), .val (.int p1), .val (.int p2), .val (.int v17_t0), .unset, .unset] [(.int (32 : Int32)), (.int v17_t0)])) _
        have J42 : ∀ (T_42 : State) (X_42 : Stand p l e room_1 s m #[(.int p0), (.int p1), (.int p2)] below meth c T_42 [] 0 0) (e_42 : T_42.heap = h0), own_Goes p.tables e below (T_42.setTop (mkF m 42 #[.val (.int p0), .val (.int p1), .val (.int p2), .val (.int v17_t0), .unset, .unset] [])) (own_P s (own_Ql (some (.int (own_f0_42 v17_t0))) n0) 0 0) := by
          intro T_42 X_42 e_42
          refine own_step (fun _ => XS.iconst X_42.here hx rfl (hb hby at_42)) ?_
          show own_Goes p.tables e below (T_42.setTop (mkF m 43 #[.val (.int p0), .val (.int p1), .val (.int p2), .val (.int v17_t0), .unset, .unset] [(.int (1 : Int32))])) _
          refine own_step (fun _ => XS.goto X_42.here hx rfl (pc0 := 43) (pc' := 47) rfl (hb hby at_43) (by decide) (by decide)) ?_
          show own_Goes p.tables e below (T_42.setTop (mkF m 47 #[.val (.int p0), .val (.int p1), .val (.int p2), .val (.int v17_t0), .unset, .unset] [(.int (1 : Int32))])) _
          have hv : (own_f0_42 v17_t0) = (own_f0_47 v17_t0 (1 : Int32)) := by exact rfl
          rw [hv]
          exact J47 T_42 X_42 e_42 (1 : Int32)
        by_cases hc33 : v17_t0 < (32 : Int32)
        · refine own_step (fun _ => XS.icmpYes X_17.here hx rfl (pc0 := 33) (pc' := 42) rfl (hb hby at_33) rfl (Jvm.Free.XT.ii_lt_t hc33) (by decide) (by decide)) ?_
          show own_Goes p.tables e below (T_17.setTop (mkF m 42 #[.val (.int p0), .val (.int p1), .val (.int p2), .val (.int v17_t0), .unset, .unset] [])) _
          have hv : (own_f0_17 v17_t0) = (own_f0_42 v17_t0) := by exact (((if_neg hc20)).trans (if_neg hc27)).trans (if_pos hc33)
          rw [hv]
          exact J42 T_17 X_17 e_17
        · refine own_step (fun _ => XS.icmpNo X_17.here hx rfl (hb hby at_33) rfl (Jvm.Free.XT.ii_lt_f hc33)) ?_
          show own_Goes p.tables e below (T_17.setTop (mkF m 36 #[.val (.int p0), .val (.int p1), .val (.int p2), .val (.int v17_t0), .unset, .unset] [])) _
          refine own_step (fun _ => XS.iloadN X_17.here hx rfl (hb hby at_36) rfl) ?_
          show own_Goes p.tables e below (T_17.setTop (mkF m 37 #[.val (.int p0), .val (.int p1), .val (.int p2), .val (.int v17_t0), .unset, .unset] [(.int v17_t0)])) _
          refine own_step (fun _ => XS.bipush X_17.here hx rfl (hb hby at_37)) ?_
          show own_Goes p.tables e below (T_17.setTop (mkF m 39 #[.val (.int p0), .val (.int p1), .val (.int p2), .val (.int v17_t0), .unset, .unset] [(.int (126 : Int32)), (.int v17_t0)])) _
          by_cases hc39 : (126 : Int32) < v17_t0
          · refine own_step (fun _ => XS.icmpNo X_17.here hx rfl (hb hby at_39) rfl (Jvm.Free.XT.ii_le_f hc39)) ?_
            show own_Goes p.tables e below (T_17.setTop (mkF m 42 #[.val (.int p0), .val (.int p1), .val (.int p2), .val (.int v17_t0), .unset, .unset] [])) _
            have hv : (own_f0_17 v17_t0) = (own_f0_42 v17_t0) := by exact ((((if_neg hc20)).trans (if_neg hc27)).trans (if_neg hc33)).trans (if_pos hc39)
            rw [hv]
            exact J42 T_17 X_17 e_17
          · refine own_step (fun _ => XS.icmpYes X_17.here hx rfl (pc0 := 39) (pc' := 46) rfl (hb hby at_39) rfl (Jvm.Free.XT.ii_le_t hc39) (by decide) (by decide)) ?_
            show own_Goes p.tables e below (T_17.setTop (mkF m 46 #[.val (.int p0), .val (.int p1), .val (.int p2), .val (.int v17_t0), .unset, .unset] [])) _
            have hv : (own_f0_17 v17_t0) = (own_f0_46 v17_t0) := by exact ((((if_neg hc20)).trans (if_neg hc27)).trans (if_neg hc33)).trans (if_neg hc39)
            rw [hv]
            exact J46 T_17 X_17 e_17
  by_cases hc3 : (p2 &&& (1 : Int32)) = 0
  · refine own_step (fun _ => XS.ifYes X0.here hx rfl (pc0 := 3) (pc' := 10) rfl (hb hby at_3) rfl (Jvm.Free.XT.i0_eq_t hc3) (by decide) (by decide)) ?_
    show own_Goes p.tables e below (s₁.setTop (mkF m 10 #[.val (.int p0), .val (.int p1), .val (.int p2), .unset, .unset, .unset] [])) _
    refine own_step (fun _ => XS.iloadN X0.here hx rfl (hb hby at_10) rfl) ?_
    show own_Goes p.tables e below (s₁.setTop (mkF m 11 #[.val (.int p0), .val (.int p1), .val (.int p2), .unset, .unset, .unset] [(.int p1)])) _
    refine own_step (fun _ => XS.sipush X0.here hx rfl (hb hby at_11)) ?_
    show own_Goes p.tables e below (s₁.setTop (mkF m 14 #[.val (.int p0), .val (.int p1), .val (.int p2), .unset, .unset, .unset] [(.int (255 : Int32)), (.int p1)])) _
    refine own_step (fun _ => XS.iand X0.here hx rfl (hb hby at_14) rfl) ?_
    show own_Goes p.tables e below (s₁.setTop (mkF m 15 #[.val (.int p0), .val (.int p1), .val (.int p2), .unset, .unset, .unset] [(.int (p1 &&& (255 : Int32)))])) _
    refine own_step (fun _ => XS.iconst X0.here hx rfl (hb hby at_15)) ?_
    show own_Goes p.tables e below (s₁.setTop (mkF m 16 #[.val (.int p0), .val (.int p1), .val (.int p2), .unset, .unset, .unset] [(.int (4 : Int32)), (.int (p1 &&& (255 : Int32)))])) _
    refine own_step (fun _ => XS.isub X0.here hx rfl (hb hby at_16) rfl) ?_
    show own_Goes p.tables e below (s₁.setTop (mkF m 17 #[.val (.int p0), .val (.int p1), .val (.int p2), .unset, .unset, .unset] [(.int ((p1 &&& (255 : Int32)) - (4 : Int32)))])) _
    have hv : (own_f0 p0 p1 p2) = (own_f0_17 ((p1 &&& (255 : Int32)) - (4 : Int32))) := by exact (if_pos hc3)
    rw [hv]
    exact J17 s₁ X0 e0 ((p1 &&& (255 : Int32)) - (4 : Int32))
  · refine own_step (fun _ => XS.ifNo X0.here hx rfl (hb hby at_3) rfl (Jvm.Free.XT.i0_eq_f hc3)) ?_
    show own_Goes p.tables e below (s₁.setTop (mkF m 6 #[.val (.int p0), .val (.int p1), .val (.int p2), .unset, .unset, .unset] [])) _
    refine own_step (fun _ => XS.iloadN X0.here hx rfl (hb hby at_6) rfl) ?_
    show own_Goes p.tables e below (s₁.setTop (mkF m 7 #[.val (.int p0), .val (.int p1), .val (.int p2), .unset, .unset, .unset] [(.int p0)])) _
    refine own_step (fun _ => XS.goto X0.here hx rfl (pc0 := 7) (pc' := 17) rfl (hb hby at_7) (by decide) (by decide)) ?_
    show own_Goes p.tables e below (s₁.setTop (mkF m 17 #[.val (.int p0), .val (.int p1), .val (.int p2), .unset, .unset, .unset] [(.int p0)])) _
    have hv : (own_f0 p0 p1 p2) = (own_f0_17 p0) := by exact (if_neg hc3)
    rw [hv]
    exact J17 s₁ X0 e0 p0
theorem own_10 : ((1 : Int32) = 0) = False := by decide
theorem own_01 : ((0 : Int32) = 1) = False := by decide
theorem own_ltT {c x : Int32} {k : Int} (h : x.toInt = k) (q : c.toInt < k) : c < x := by rw [Int32.lt_iff_toInt_lt, h]; exact q
theorem own_ltF {c x : Int32} {k : Int} (h : x.toInt = k) (q : ¬ c.toInt < k) : ¬ (c < x) := by rw [Int32.lt_iff_toInt_lt, h]; exact q
theorem own_gtT {c x : Int32} {k : Int} (h : x.toInt = k) (q : k < c.toInt) : x < c := by rw [Int32.lt_iff_toInt_lt, h]; exact q
theorem own_gtF {c x : Int32} {k : Int} (h : x.toInt = k) (q : ¬ k < c.toInt) : ¬ (x < c) := by rw [Int32.lt_iff_toInt_lt, h]; exact q
theorem own_eqT {c x : Int32} {k : Int} (h : x.toInt = k) (q : c.toInt = k) : c = x := by rw [← Int32.toInt_inj, h]; exact q
theorem own_eqF {c x : Int32} {k : Int} (h : x.toInt = k) (q : ¬ c.toInt = k) : ¬ (c = x) := by rw [← Int32.toInt_inj, h]; exact q
theorem own_iv_0 (c : Int32) (h2 : c.toInt ≤ -1) : own_f0_17 c = 1 := by
  have t0 : c < (1 : Int32) := own_ltT (k := 1) rfl (by omega)
  have t1 : c < (11 : Int32) := own_ltT (k := 11) rfl (by omega)
  have t2 : c < (14 : Int32) := own_ltT (k := 14) rfl (by omega)
  have t3 : c < (32 : Int32) := own_ltT (k := 32) rfl (by omega)
  have t4 : c < (127 : Int32) := own_ltT (k := 127) rfl (by omega)
  have t5 : c < (134 : Int32) := own_ltT (k := 134) rfl (by omega)
  have t6 : ¬ (c = (0 : Int32)) := own_eqF (k := 0) rfl (by omega)
  have t7 : ¬ (c = (9 : Int32)) := own_eqF (k := 9) rfl (by omega)
  have t8 : ¬ (c = (10 : Int32)) := own_eqF (k := 10) rfl (by omega)
  have t9 : ¬ (c = (13 : Int32)) := own_eqF (k := 13) rfl (by omega)
  have t10 : ¬ (c = (133 : Int32)) := own_eqF (k := 133) rfl (by omega)
  have t11 : ¬ ((8 : Int32) < c) := own_gtF (k := 8) rfl (by omega)
  have t12 : ¬ ((12 : Int32) < c) := own_gtF (k := 12) rfl (by omega)
  have t13 : ¬ ((31 : Int32) < c) := own_gtF (k := 31) rfl (by omega)
  have t14 : ¬ ((126 : Int32) < c) := own_gtF (k := 126) rfl (by omega)
  have t15 : ¬ ((132 : Int32) < c) := own_gtF (k := 132) rfl (by omega)
  have t16 : ¬ ((159 : Int32) < c) := own_gtF (k := 159) rfl (by omega)
  simp only [own_f1_62, own_f1_66, own_f1_48, own_f1_35, own_f1_23, own_f1_11, own_f1, own_f0_84, own_f0_83, own_f0_47, own_f0_42, own_f0_46, own_f0_17, t0, t1, t2, t3, t4, t5, t6, t7, t8, t9, t10, t11, t12, t13, t14, t15, t16, own_10, own_01, ↓reduceIte]
theorem own_iv_1 (c : Int32) (h1 : 0 ≤ c.toInt) (h2 : c.toInt ≤ 0) : own_f0_17 c = 1 := by
  have e : c = (0 : Int32) := own_eqT (k := 0) rfl (by omega)
  subst e
  decide +kernel
theorem own_iv_2 (c : Int32) (h1 : 1 ≤ c.toInt) (h2 : c.toInt ≤ 8) : own_f0_17 c = 1 := by
  have t0 : ¬ (c < (1 : Int32)) := own_ltF (k := 1) rfl (by omega)
  have t1 : c < (11 : Int32) := own_ltT (k := 11) rfl (by omega)
  have t2 : c < (14 : Int32) := own_ltT (k := 14) rfl (by omega)
  have t3 : c < (32 : Int32) := own_ltT (k := 32) rfl (by omega)
  have t4 : c < (127 : Int32) := own_ltT (k := 127) rfl (by omega)
  have t5 : c < (134 : Int32) := own_ltT (k := 134) rfl (by omega)
  have t6 : ¬ (c = (0 : Int32)) := own_eqF (k := 0) rfl (by omega)
  have t7 : ¬ (c = (9 : Int32)) := own_eqF (k := 9) rfl (by omega)
  have t8 : ¬ (c = (10 : Int32)) := own_eqF (k := 10) rfl (by omega)
  have t9 : ¬ (c = (13 : Int32)) := own_eqF (k := 13) rfl (by omega)
  have t10 : ¬ (c = (133 : Int32)) := own_eqF (k := 133) rfl (by omega)
  have t11 : ¬ ((8 : Int32) < c) := own_gtF (k := 8) rfl (by omega)
  have t12 : ¬ ((12 : Int32) < c) := own_gtF (k := 12) rfl (by omega)
  have t13 : ¬ ((31 : Int32) < c) := own_gtF (k := 31) rfl (by omega)
  have t14 : ¬ ((126 : Int32) < c) := own_gtF (k := 126) rfl (by omega)
  have t15 : ¬ ((132 : Int32) < c) := own_gtF (k := 132) rfl (by omega)
  have t16 : ¬ ((159 : Int32) < c) := own_gtF (k := 159) rfl (by omega)
  simp only [own_f1_62, own_f1_66, own_f1_48, own_f1_35, own_f1_23, own_f1_11, own_f1, own_f0_84, own_f0_83, own_f0_47, own_f0_42, own_f0_46, own_f0_17, t0, t1, t2, t3, t4, t5, t6, t7, t8, t9, t10, t11, t12, t13, t14, t15, t16, own_10, own_01, ↓reduceIte]
theorem own_iv_3 (c : Int32) (h1 : 9 ≤ c.toInt) (h2 : c.toInt ≤ 9) : own_f0_17 c = 1 := by
  have e : c = (9 : Int32) := own_eqT (k := 9) rfl (by omega)
  subst e
  decide +kernel
theorem own_iv_4 (c : Int32) (h1 : 10 ≤ c.toInt) (h2 : c.toInt ≤ 10) : own_f0_17 c = 1 := by
  have e : c = (10 : Int32) := own_eqT (k := 10) rfl (by omega)
  subst e
  decide +kernel
theorem own_iv_5 (c : Int32) (h1 : 11 ≤ c.toInt) (h2 : c.toInt ≤ 12) : own_f0_17 c = 1 := by
  have t0 : ¬ (c < (1 : Int32)) := own_ltF (k := 1) rfl (by omega)
  have t1 : ¬ (c < (11 : Int32)) := own_ltF (k := 11) rfl (by omega)
  have t2 : c < (14 : Int32) := own_ltT (k := 14) rfl (by omega)
  have t3 : c < (32 : Int32) := own_ltT (k := 32) rfl (by omega)
  have t4 : c < (127 : Int32) := own_ltT (k := 127) rfl (by omega)
  have t5 : c < (134 : Int32) := own_ltT (k := 134) rfl (by omega)
  have t6 : ¬ (c = (0 : Int32)) := own_eqF (k := 0) rfl (by omega)
  have t7 : ¬ (c = (9 : Int32)) := own_eqF (k := 9) rfl (by omega)
  have t8 : ¬ (c = (10 : Int32)) := own_eqF (k := 10) rfl (by omega)
  have t9 : ¬ (c = (13 : Int32)) := own_eqF (k := 13) rfl (by omega)
  have t10 : ¬ (c = (133 : Int32)) := own_eqF (k := 133) rfl (by omega)
  have t11 : (8 : Int32) < c := own_gtT (k := 8) rfl (by omega)
  have t12 : ¬ ((12 : Int32) < c) := own_gtF (k := 12) rfl (by omega)
  have t13 : ¬ ((31 : Int32) < c) := own_gtF (k := 31) rfl (by omega)
  have t14 : ¬ ((126 : Int32) < c) := own_gtF (k := 126) rfl (by omega)
  have t15 : ¬ ((132 : Int32) < c) := own_gtF (k := 132) rfl (by omega)
  have t16 : ¬ ((159 : Int32) < c) := own_gtF (k := 159) rfl (by omega)
  simp only [own_f1_62, own_f1_66, own_f1_48, own_f1_35, own_f1_23, own_f1_11, own_f1, own_f0_84, own_f0_83, own_f0_47, own_f0_42, own_f0_46, own_f0_17, t0, t1, t2, t3, t4, t5, t6, t7, t8, t9, t10, t11, t12, t13, t14, t15, t16, own_10, own_01, ↓reduceIte]
theorem own_iv_6 (c : Int32) (h1 : 13 ≤ c.toInt) (h2 : c.toInt ≤ 13) : own_f0_17 c = 1 := by
  have e : c = (13 : Int32) := own_eqT (k := 13) rfl (by omega)
  subst e
  decide +kernel
theorem own_iv_7 (c : Int32) (h1 : 14 ≤ c.toInt) (h2 : c.toInt ≤ 31) : own_f0_17 c = 1 := by
  have t0 : ¬ (c < (1 : Int32)) := own_ltF (k := 1) rfl (by omega)
  have t1 : ¬ (c < (11 : Int32)) := own_ltF (k := 11) rfl (by omega)
  have t2 : ¬ (c < (14 : Int32)) := own_ltF (k := 14) rfl (by omega)
  have t3 : c < (32 : Int32) := own_ltT (k := 32) rfl (by omega)
  have t4 : c < (127 : Int32) := own_ltT (k := 127) rfl (by omega)
  have t5 : c < (134 : Int32) := own_ltT (k := 134) rfl (by omega)
  have t6 : ¬ (c = (0 : Int32)) := own_eqF (k := 0) rfl (by omega)
  have t7 : ¬ (c = (9 : Int32)) := own_eqF (k := 9) rfl (by omega)
  have t8 : ¬ (c = (10 : Int32)) := own_eqF (k := 10) rfl (by omega)
  have t9 : ¬ (c = (13 : Int32)) := own_eqF (k := 13) rfl (by omega)
  have t10 : ¬ (c = (133 : Int32)) := own_eqF (k := 133) rfl (by omega)
  have t11 : (8 : Int32) < c := own_gtT (k := 8) rfl (by omega)
  have t12 : (12 : Int32) < c := own_gtT (k := 12) rfl (by omega)
  have t13 : ¬ ((31 : Int32) < c) := own_gtF (k := 31) rfl (by omega)
  have t14 : ¬ ((126 : Int32) < c) := own_gtF (k := 126) rfl (by omega)
  have t15 : ¬ ((132 : Int32) < c) := own_gtF (k := 132) rfl (by omega)
  have t16 : ¬ ((159 : Int32) < c) := own_gtF (k := 159) rfl (by omega)
  simp only [own_f1_62, own_f1_66, own_f1_48, own_f1_35, own_f1_23, own_f1_11, own_f1, own_f0_84, own_f0_83, own_f0_47, own_f0_42, own_f0_46, own_f0_17, t0, t1, t2, t3, t4, t5, t6, t7, t8, t9, t10, t11, t12, t13, t14, t15, t16, own_10, own_01, ↓reduceIte]
theorem own_iv_8 (c : Int32) (h1 : 32 ≤ c.toInt) (h2 : c.toInt ≤ 126) : own_f0_17 c = 1 := by
  have t0 : ¬ (c < (1 : Int32)) := own_ltF (k := 1) rfl (by omega)
  have t1 : ¬ (c < (11 : Int32)) := own_ltF (k := 11) rfl (by omega)
  have t2 : ¬ (c < (14 : Int32)) := own_ltF (k := 14) rfl (by omega)
  have t3 : ¬ (c < (32 : Int32)) := own_ltF (k := 32) rfl (by omega)
  have t4 : c < (127 : Int32) := own_ltT (k := 127) rfl (by omega)
  have t5 : c < (134 : Int32) := own_ltT (k := 134) rfl (by omega)
  have t6 : ¬ (c = (0 : Int32)) := own_eqF (k := 0) rfl (by omega)
  have t7 : ¬ (c = (9 : Int32)) := own_eqF (k := 9) rfl (by omega)
  have t8 : ¬ (c = (10 : Int32)) := own_eqF (k := 10) rfl (by omega)
  have t9 : ¬ (c = (13 : Int32)) := own_eqF (k := 13) rfl (by omega)
  have t10 : ¬ (c = (133 : Int32)) := own_eqF (k := 133) rfl (by omega)
  have t11 : (8 : Int32) < c := own_gtT (k := 8) rfl (by omega)
  have t12 : (12 : Int32) < c := own_gtT (k := 12) rfl (by omega)
  have t13 : (31 : Int32) < c := own_gtT (k := 31) rfl (by omega)
  have t14 : ¬ ((126 : Int32) < c) := own_gtF (k := 126) rfl (by omega)
  have t15 : ¬ ((132 : Int32) < c) := own_gtF (k := 132) rfl (by omega)
  have t16 : ¬ ((159 : Int32) < c) := own_gtF (k := 159) rfl (by omega)
  simp only [own_f1_62, own_f1_66, own_f1_48, own_f1_35, own_f1_23, own_f1_11, own_f1, own_f0_84, own_f0_83, own_f0_47, own_f0_42, own_f0_46, own_f0_17, t0, t1, t2, t3, t4, t5, t6, t7, t8, t9, t10, t11, t12, t13, t14, t15, t16, own_10, own_01, ↓reduceIte]
theorem own_iv_9 (c : Int32) (h1 : 127 ≤ c.toInt) (h2 : c.toInt ≤ 132) : own_f0_17 c = 1 := by
  have t0 : ¬ (c < (1 : Int32)) := own_ltF (k := 1) rfl (by omega)
  have t1 : ¬ (c < (11 : Int32)) := own_ltF (k := 11) rfl (by omega)
  have t2 : ¬ (c < (14 : Int32)) := own_ltF (k := 14) rfl (by omega)
  have t3 : ¬ (c < (32 : Int32)) := own_ltF (k := 32) rfl (by omega)
  have t4 : ¬ (c < (127 : Int32)) := own_ltF (k := 127) rfl (by omega)
  have t5 : c < (134 : Int32) := own_ltT (k := 134) rfl (by omega)
  have t6 : ¬ (c = (0 : Int32)) := own_eqF (k := 0) rfl (by omega)
  have t7 : ¬ (c = (9 : Int32)) := own_eqF (k := 9) rfl (by omega)
  have t8 : ¬ (c = (10 : Int32)) := own_eqF (k := 10) rfl (by omega)
  have t9 : ¬ (c = (13 : Int32)) := own_eqF (k := 13) rfl (by omega)
  have t10 : ¬ (c = (133 : Int32)) := own_eqF (k := 133) rfl (by omega)
  have t11 : (8 : Int32) < c := own_gtT (k := 8) rfl (by omega)
  have t12 : (12 : Int32) < c := own_gtT (k := 12) rfl (by omega)
  have t13 : (31 : Int32) < c := own_gtT (k := 31) rfl (by omega)
  have t14 : (126 : Int32) < c := own_gtT (k := 126) rfl (by omega)
  have t15 : ¬ ((132 : Int32) < c) := own_gtF (k := 132) rfl (by omega)
  have t16 : ¬ ((159 : Int32) < c) := own_gtF (k := 159) rfl (by omega)
  simp only [own_f1_62, own_f1_66, own_f1_48, own_f1_35, own_f1_23, own_f1_11, own_f1, own_f0_84, own_f0_83, own_f0_47, own_f0_42, own_f0_46, own_f0_17, t0, t1, t2, t3, t4, t5, t6, t7, t8, t9, t10, t11, t12, t13, t14, t15, t16, own_10, own_01, ↓reduceIte]
theorem own_iv_10 (c : Int32) (h1 : 133 ≤ c.toInt) (h2 : c.toInt ≤ 133) : own_f0_17 c = 1 := by
  have e : c = (133 : Int32) := own_eqT (k := 133) rfl (by omega)
  subst e
  decide +kernel
theorem own_iv_11 (c : Int32) (h1 : 134 ≤ c.toInt) (h2 : c.toInt ≤ 159) : own_f0_17 c = 1 := by
  have t0 : ¬ (c < (1 : Int32)) := own_ltF (k := 1) rfl (by omega)
  have t1 : ¬ (c < (11 : Int32)) := own_ltF (k := 11) rfl (by omega)
  have t2 : ¬ (c < (14 : Int32)) := own_ltF (k := 14) rfl (by omega)
  have t3 : ¬ (c < (32 : Int32)) := own_ltF (k := 32) rfl (by omega)
  have t4 : ¬ (c < (127 : Int32)) := own_ltF (k := 127) rfl (by omega)
  have t5 : ¬ (c < (134 : Int32)) := own_ltF (k := 134) rfl (by omega)
  have t6 : ¬ (c = (0 : Int32)) := own_eqF (k := 0) rfl (by omega)
  have t7 : ¬ (c = (9 : Int32)) := own_eqF (k := 9) rfl (by omega)
  have t8 : ¬ (c = (10 : Int32)) := own_eqF (k := 10) rfl (by omega)
  have t9 : ¬ (c = (13 : Int32)) := own_eqF (k := 13) rfl (by omega)
  have t10 : ¬ (c = (133 : Int32)) := own_eqF (k := 133) rfl (by omega)
  have t11 : (8 : Int32) < c := own_gtT (k := 8) rfl (by omega)
  have t12 : (12 : Int32) < c := own_gtT (k := 12) rfl (by omega)
  have t13 : (31 : Int32) < c := own_gtT (k := 31) rfl (by omega)
  have t14 : (126 : Int32) < c := own_gtT (k := 126) rfl (by omega)
  have t15 : (132 : Int32) < c := own_gtT (k := 132) rfl (by omega)
  have t16 : ¬ ((159 : Int32) < c) := own_gtF (k := 159) rfl (by omega)
  simp only [own_f1_62, own_f1_66, own_f1_48, own_f1_35, own_f1_23, own_f1_11, own_f1, own_f0_84, own_f0_83, own_f0_47, own_f0_42, own_f0_46, own_f0_17, t0, t1, t2, t3, t4, t5, t6, t7, t8, t9, t10, t11, t12, t13, t14, t15, t16, own_10, own_01, ↓reduceIte]
theorem own_iv_12 (c : Int32) (h1 : 160 ≤ c.toInt) : own_f0_17 c = 1 := by
  have t0 : ¬ (c < (1 : Int32)) := own_ltF (k := 1) rfl (by omega)
  have t1 : ¬ (c < (11 : Int32)) := own_ltF (k := 11) rfl (by omega)
  have t2 : ¬ (c < (14 : Int32)) := own_ltF (k := 14) rfl (by omega)
  have t3 : ¬ (c < (32 : Int32)) := own_ltF (k := 32) rfl (by omega)
  have t4 : ¬ (c < (127 : Int32)) := own_ltF (k := 127) rfl (by omega)
  have t5 : ¬ (c < (134 : Int32)) := own_ltF (k := 134) rfl (by omega)
  have t6 : ¬ (c = (0 : Int32)) := own_eqF (k := 0) rfl (by omega)
  have t7 : ¬ (c = (9 : Int32)) := own_eqF (k := 9) rfl (by omega)
  have t8 : ¬ (c = (10 : Int32)) := own_eqF (k := 10) rfl (by omega)
  have t9 : ¬ (c = (13 : Int32)) := own_eqF (k := 13) rfl (by omega)
  have t10 : ¬ (c = (133 : Int32)) := own_eqF (k := 133) rfl (by omega)
  have t11 : (8 : Int32) < c := own_gtT (k := 8) rfl (by omega)
  have t12 : (12 : Int32) < c := own_gtT (k := 12) rfl (by omega)
  have t13 : (31 : Int32) < c := own_gtT (k := 31) rfl (by omega)
  have t14 : (126 : Int32) < c := own_gtT (k := 126) rfl (by omega)
  have t15 : (132 : Int32) < c := own_gtT (k := 132) rfl (by omega)
  have t16 : (159 : Int32) < c := own_gtT (k := 159) rfl (by omega)
  simp only [own_f1_62, own_f1_66, own_f1_48, own_f1_35, own_f1_23, own_f1_11, own_f1, own_f0_84, own_f0_83, own_f0_47, own_f0_42, own_f0_46, own_f0_17, t0, t1, t2, t3, t4, t5, t6, t7, t8, t9, t10, t11, t12, t13, t14, t15, t16, own_10, own_01, ↓reduceIte]
theorem own_iv (c : Int32) : own_f0_17 c = 1 := by
  by_cases b0 : c.toInt ≤ -1
  · exact own_iv_0 c b0
  by_cases b1 : c.toInt ≤ 0
  · exact own_iv_1 c (by omega) b1
  by_cases b2 : c.toInt ≤ 8
  · exact own_iv_2 c (by omega) b2
  by_cases b3 : c.toInt ≤ 9
  · exact own_iv_3 c (by omega) b3
  by_cases b4 : c.toInt ≤ 10
  · exact own_iv_4 c (by omega) b4
  by_cases b5 : c.toInt ≤ 12
  · exact own_iv_5 c (by omega) b5
  by_cases b6 : c.toInt ≤ 13
  · exact own_iv_6 c (by omega) b6
  by_cases b7 : c.toInt ≤ 31
  · exact own_iv_7 c (by omega) b7
  by_cases b8 : c.toInt ≤ 126
  · exact own_iv_8 c (by omega) b8
  by_cases b9 : c.toInt ≤ 132
  · exact own_iv_9 c (by omega) b9
  by_cases b10 : c.toInt ≤ 133
  · exact own_iv_10 c (by omega) b10
  by_cases b11 : c.toInt ≤ 159
  · exact own_iv_11 c (by omega) b11
  exact own_iv_12 c (by omega)
theorem own_law (p0 : Int32) (p1 : Int32) (p2 : Int32) : own_f0 p0 p1 p2 = 1 := by
  unfold own_f0
  simp only [own_iv, ite_self]
set_option maxRecDepth 65536 in
set_option maxHeartbeats 40000000 in
theorem comes_1 {Post : Tables → Env → Array Value → State → Outcome → State → Prop} (hpost : ∀ tb e args s v u, (limb_1_1.after args s (.returned v) u = true ∧ limb_1_2.after args s (.returned v) u = true ∧ True) → FrameEnd s (.returned v) u (Jvm.fieldLocs frame_1_writes args s ++ Jvm.arrayLocs frame_1_arrays args s ++ Jvm.staticLocs frame_1_statics s) 0 0 → Post tb e args s (.returned v) u) :
    ArmFor flags0 classFile x code maxLocals ret World_1 tables_1 room_1 Calls_1 rest_1 Pre_1 Post := by
  intro l hfl _ _ p e ha hc hk s m args below hf hA hF happ hP
  obtain ⟨hcalls, hrest, hpre⟩ := hP
  obtain ⟨-, -, -, hnamed, -, -, -, hat⟩ := (Spec.applies_iff hf).mp happ
  obtain ⟨hg, hn⟩ := and_e (Cond.before_iff.mp (show (Jvm.Cond.and given_1 narrow_1).before args s = true from hpre))
  obtain ⟨g1, g2⟩ := and_e hg
  obtain ⟨g3, g4⟩ := and_e g2
  obtain ⟨g5, g6⟩ := and_e g4
  obtain ⟨w0, w1, w2, rfl⟩ : ∃ w0 w1 w2 : Value, args = #[w0, w1, w2] := by
    have hs : args.size = 3 := by simpa [Cond.value, given_1] using g1
    obtain ⟨L⟩ := args
    match L, hs with
    | [w0, w1, w2], _ => exact ⟨w0, w1, w2, rfl⟩
  have hw := fun d (hd : d ∈ tables_1) => atoms_spec (ws := Jvm.Cond.code x code maxLocals ret :: tables_1) hat d (List.mem_cons_of_mem _ hd)
  obtain ⟨i0, ei0⟩ := is_v g3
  obtain rfl : w0 = (.int i0) := Option.some.inj ei0
  obtain ⟨i1, ei1⟩ := is_v g5
  obtain rfl : w1 = (.int i1) := Option.some.inj ei1
  obtain ⟨i2, ei2⟩ := is_v g6
  obtain rfl : w2 = (.int i2) := Option.some.inj ei2
  have hrm := rm0 l s _ hw tables_1 i0 i1 i2 s.heap s.heap.size (Nat.le_refl _)
  rw [own_law i0 i1 i2] at hrm
  obtain ⟨n, o, h1, h2, h3, _, L, rfl, ⟨rfl, N⟩, hq⟩ := hrm p e ha hc hk s m _ below hf ((Spec.applies_iff_loose hf).mp happ).1 ⟨rfl, State.Warmed39.refl s, rfl⟩ trivial
  refine ⟨n, _, h1, h2, h3, hpost _ _ _ _ _ _ ⟨Cond.after_iff.mpr rfl, Cond.after_iff.mpr (eq_i res_at (Term.int_eval (1)) rfl), trivial⟩ ⟨hq.1, hq.2.1, (hq.2.2.sift fun y hy => Or.inr (N y hy)).mono (by decide) (by decide)⟩⟩
theorem main_1_1 : Claimed_1_1 := comes_1 fun _ _ _ _ _ _ h hF => ⟨h.1, hF⟩
theorem main_1_2 : Claimed_1_2 := comes_1 fun _ _ _ _ _ _ h hF => ⟨h.2.1, hF⟩
end Jvm.Pilot.@@N@@
namespace Jvm.Pilot.@@N@@
open Jvm Jvm.ClassFile Sem Op Lib Jvm.Free Jvm.Stand Jvm.Pilot.@@N@@.Jvm.D
/-! MADE BY PROGRAM (witnessworld.py) out of the Statement's table words and the real class files: 7 classes; the members and pool entries that the words name. The judged class is class 1, her method 1. -/
namespace start1
open Jvm.ClassFile
def u (s : String) : CpInfo := .utf8 (stringToUtf16 s)
/-- a pool by its gaps: so many unusable entries, then the entry; so many at the end -/
def gap : Nat → List CpInfo → List CpInfo
  | 0, r => r
  | n + 1, r => .unusable :: gap n r
def poolList (es : List (Nat × CpInfo)) (last : Nat) : List CpInfo := es.foldr (fun e r => gap e.1 (e.2 :: r)) (gap last [])
def pool (es : List (Nat × CpInfo)) (last : Nat) : Array CpInfo := ⟨poolList es last⟩
def fileOf (pool : Array CpInfo) (this : Nat) (attrs : Array Attribute := #[]) (ms : Array MethodInfo := #[]) (fl : Nat := 33) (sup : Nat := 0) (ifs : Array Nat := #[]) (fds : Array FieldInfo := #[]) : ClassFile where
  minorVersion := 0
  majorVersion := 65
  constantPool := pool
  accessFlags := fl
  thisClass := this
  superClass := sup
  interfaces := ifs
  fields := fds
  methods := ms
  attributes := attrs
def plain (name : String) (sup : Option ClassId) : Class where
  name := name
  kind := .ordinary
  loader := none
  accessFlags := 33
  super := sup
  interfaces := #[]
  cf := none
  fields := #[]
  methods := #[]
  instanceTypes := #[]
  staticTypes := #[]
  resolved := #[]
  callSites := []
  init := .initialized
  statics := none
  mirror := none

def pool0 : Array CpInfo := pool [(5, u "<init>"), (0, u "()V"), (1, .class_ 10), (1, u "java/lang/Object")] 113

def k0m0 : Method := { name := "<init>", desc := "()V", sig := { parameters := [], returnType := none }, accessFlags := 1, code := none }
/-- java/lang/Object -/
def k0 : Class := { plain "java/lang/Object" none with
  accessFlags := 33
  interfaces := #[]
  cf := some (fileOf pool0 8 #[] #[{ accessFlags := 1, nameIndex := 5, descriptorIndex := 6, attributes := #[] }] 33 0 #[] #[])
  fields := #[]
  methods := #[k0m0]
  instanceTypes := #[]
  staticTypes := #[]
  resolved := Array.replicate 124 none
  statics := none }

def pool1 : Array CpInfo := pool [(2, .class_ 4), (1, u "java/lang/Object"), (0, u "<init>"), (0, u "()V"), (0, .methodref 8 9), (0, .class_ 10), (0, .nameAndType 11 12), (0, u "com/example/unnest/unnest/xml/XmlChars"), (0, u "isRestrictedXml11Char"), (0, u "(I)Z"), (0, .class_ 14), (0, u "com/example/unnest/unnest/xml/XmlCharsIsRestrictedXml11CharPinLaw"), (2, u "law"), (0, u "(III)Z")] 3

def k1m0 : Method := { name := "<init>", desc := "()V", sig := { parameters := [], returnType := none }, accessFlags := 2, code := none }
def k1c1 : Code := { maxStack := 2, maxLocals := 6, code := code, exceptionTable := #[], attributes := #[] }
def k1m1 : Method := { name := "law", desc := "(III)Z", sig := { parameters := [.int, .int, .int], returnType := some .boolean }, accessFlags := 9, code := some k1c1 }
/-- com/example/unnest/unnest/xml/XmlCharsIsRestrictedXml11CharPinLaw -/
def k1 : Class := { plain "com/example/unnest/unnest/xml/XmlCharsIsRestrictedXml11CharPinLaw" (some 0) with
  accessFlags := 49
  interfaces := #[]
  cf := some (fileOf pool1 13 #[] #[{ accessFlags := 2, nameIndex := 5, descriptorIndex := 6, attributes := #[] }, { accessFlags := 9, nameIndex := 17, descriptorIndex := 18, attributes := #[] }] 49 2 #[] #[])
  fields := #[]
  methods := #[k1m0, k1m1]
  instanceTypes := #[]
  staticTypes := #[]
  resolved := Array.replicate 22 none
  statics := none }

def pool2 : Array CpInfo := pool [(2, .class_ 4), (1, u "java/lang/Object"), (0, u "<init>"), (0, u "()V"), (8, .class_ 17), (1, u "com/example/unnest/unnest/xml/XmlChars"), (1, u "(I)Z"), (71, u "isRestrictedXml11Char")] 2

def k2m0 : Method := { name := "<init>", desc := "()V", sig := { parameters := [], returnType := none }, accessFlags := 2, code := none }
def k2c1 : Code := { maxStack := 2, maxLocals := 1, code := prog_142_method_11_code, exceptionTable := #[], attributes := #[] }
def k2m1 : Method := { name := "isRestrictedXml11Char", desc := "(I)Z", sig := { parameters := [.int], returnType := some .boolean }, accessFlags := 8, code := some k2c1 }
/-- com/example/unnest/unnest/xml/XmlChars -/
def k2 : Class := { plain "com/example/unnest/unnest/xml/XmlChars" (some 0) with
  accessFlags := 49
  interfaces := #[]
  cf := some (fileOf pool2 15 #[] #[{ accessFlags := 2, nameIndex := 5, descriptorIndex := 6, attributes := #[] }, { accessFlags := 8, nameIndex := 91, descriptorIndex := 19, attributes := #[] }] 49 2 #[] #[])
  fields := #[]
  methods := #[k2m0, k2m1]
  instanceTypes := #[]
  staticTypes := #[]
  resolved := Array.replicate 94 none
  statics := none }

def pool3 : Array CpInfo := pool [(1, u "java/lang/Cloneable"), (0, .class_ 1), (0, u "java/lang/Object"), (0, .class_ 3)] 3

/-- java/lang/Cloneable -/
def k3 : Class := { plain "java/lang/Cloneable" (some 0) with
  accessFlags := 1537
  interfaces := #[]
  cf := some (fileOf pool3 2 #[] #[] 1537 4 #[] #[])
  fields := #[]
  methods := #[]
  instanceTypes := #[]
  staticTypes := #[]
  resolved := Array.replicate 8 none
  statics := none }

def pool4 : Array CpInfo := pool [(1, u "java/io/Serializable"), (0, .class_ 1), (0, u "java/lang/Object"), (0, .class_ 3)] 3

/-- java/io/Serializable -/
def k4 : Class := { plain "java/io/Serializable" (some 0) with
  accessFlags := 1537
  interfaces := #[]
  cf := some (fileOf pool4 2 #[] #[] 1537 4 #[] #[])
  fields := #[]
  methods := #[]
  instanceTypes := #[]
  staticTypes := #[]
  resolved := Array.replicate 8 none
  statics := none }

/-- the primitive byte -/
def k5 : Class := { plain "byte" none with kind := .primitive 'B', accessFlags := 0x411 }
/-- [B -/
def k6 : Class := { plain "[B" (some 0) with kind := .array 5 .byte, interfaces := #[3, 4], accessFlags := 1041 }

def heap : Heap := #[]
def classes : Array Class := #[k0, k1, k2, k3, k4, k5, k6]
def interned : List (Array UInt16 × Addr) := []
def slotsUsed : Nat := 0
def theMethod : MethodId := ⟨1, 1⟩
def args0 : Array Value := #[.int 1, .int 2, .int 3]
def aboutOver (below : List Frame) : State where
  vm := { classes := classes, interned := interned.toArray }
  heap := heap
  slotsUsed := slotsUsed
  threads := #[{ frames := .invoking theMethod args0 :: below }]
def below0 : List Frame := [.native { method := ⟨0, 0⟩, args := #[] }]
def about1 : State := aboutOver below0
def p0 : Program := .bare "" "" ""
def e0 : Env := launch0.env 0 0 0
theorem w_frames : about1.frames = Frame.invoking theMethod args0 :: below0 := rfl
set_option maxRecDepth 65536 in
theorem w_args : argsFit about1.vm theMethod args0 = true := by decide +kernel
set_option maxRecDepth 65536 in
theorem w_heap : heapFits about1 = true := by decide +kernel
set_option maxRecDepth 65536 in
theorem w_runnable : about1.curStatus? = some .runnable := by decide +kernel
set_option maxRecDepth 65536 in
theorem w_alone : about1.alone = true := by decide +kernel
set_option maxRecDepth 65536 in
theorem w_named : about1.methodNamed? x = some theMethod := by decide +kernel
set_option maxRecDepth 65536 in
theorem w_hears : about1.hears theMethod below0 = true := by decide +kernel
set_option maxRecDepth 65536 in
theorem w_ripe : about1.ripe theMethod args0 below0 = true := by decide +kernel
theorem w_running : about1.status = .running := rfl
set_option maxRecDepth 65536 in
theorem w_room : about1.hasRoom e0.platform room_1 = true :=
  launch0.hasRoom_least _ room_1 (by decide +kernel) (by decide +kernel) (by decide +kernel) (by decide +kernel) (by decide +kernel) (by decide +kernel)
theorem allAtoms_all (ts : List Jvm.Cond) (a : Array Jvm.Value) (st : Jvm.State) : (allAtoms ts).before a st = ts.all (fun c => c.before a st) := by
  induction ts with
  | nil => rfl
  | cons c t ih =>
    show (Jvm.Cond.and c (allAtoms t)).before a st = _
    rw [Jvm.Cond.before_and, ih, List.all_cons]
def words1 : List Jvm.Cond := Jvm.Cond.code x code maxLocals ret :: tables_1
/-- a 'code' word, met by the world's own term for the bytes: nothing is compared byte by byte -/
theorem code_word {y : MethodName} {bytes : ByteArray} {mx : Nat} {rt : Option FieldType} {a : Array Value} {s : State} {m : MethodId} {meth : Method} {c : Code} (h1 : s.methodNamed? y = some m) (h2 : s.vm.method? m = some meth) (h3 : meth.code = some c) (h4 : c.code = bytes)
    (h5 : (c.maxLocals == mx && c.exceptionTable.isEmpty && decide (c.maxStack ≤ mostOperands) && decide (meth.sig.returnType = rt) && !meth.locks && decide (parseMethodDescriptor y.desc = some meth.sig)) = true) : (Jvm.Cond.code y bytes mx rt).before a s = true := by
  simp only [Bool.and_eq_true, beq_iff_eq, Bool.not_eq_true', decide_eq_true_eq] at h5
  obtain ⟨⟨⟨⟨⟨g1, g2⟩, g3⟩, g4⟩, g5⟩, g6⟩ := h5
  simp [Cond.before, Cond.holds, Cond.value, h1, h2, h3, h4, g1, g2, g3, g4, g5, g6]
def isCode : Jvm.Cond → Bool
  | .code _ _ _ _ => true
  | _ => false
theorem all_split {L : List Jvm.Cond} {P : Jvm.Cond → Bool} (h1 : L.all (fun c => isCode c || P c) = true) (h2 : ∀ c ∈ L.filter isCode, P c = true) : L.all P = true := by
  refine List.all_eq_true.mpr fun c hc => ?_
  have h := List.all_eq_true.mp h1 c hc
  rcases Bool.eq_false_or_eq_true (isCode c) with hi | hi
  · exact h2 c (List.mem_filter.mpr ⟨hc, hi⟩)
  · simpa [hi] using h
set_option maxRecDepth 65536 in
theorem w_c0 : (Jvm.Cond.code x code maxLocals ret).before args0 about1 = true := code_word (m := ⟨1, 1⟩) (meth := k1m1) (c := k1c1) (by decide +kernel) rfl rfl rfl (by decide +kernel)
set_option maxRecDepth 65536 in
theorem w_c1 : (Jvm.Cond.code ({ cls := "com/example/unnest/unnest/xml/XmlChars", name := "isRestrictedXml11Char", desc := "(I)Z" } : Jvm.MethodName) prog_142_method_11_code (1 : Nat) (Option.some Jvm.ClassFile.FieldType.boolean)).before args0 about1 = true := code_word (m := ⟨2, 1⟩) (meth := k2m1) (c := k2c1) (by decide +kernel) rfl rfl rfl (by decide +kernel)
def codes1 : List Jvm.Cond := [Jvm.Cond.code x code maxLocals ret, Jvm.Cond.code ({ cls := "com/example/unnest/unnest/xml/XmlChars", name := "isRestrictedXml11Char", desc := "(I)Z" } : Jvm.MethodName) prog_142_method_11_code (1 : Nat) (Option.some Jvm.ClassFile.FieldType.boolean)]
set_option maxRecDepth 65536 in
theorem codes_eq : words1.filter isCode = codes1 := rfl
theorem w_codes : ∀ c ∈ words1.filter isCode, c.before args0 about1 = true := by
  rw [codes_eq]
  intro c hc
  simp only [codes1, List.mem_cons, List.not_mem_nil, or_false] at hc
  rcases hc with rfl | rfl
  · exact w_c0
  · exact w_c1
set_option maxRecDepth 65536 in
theorem w_t1 : words1.all (fun c => isCode c || c.before args0 about1) = true := by decide +kernel
theorem w_tables : (allAtoms (Jvm.Cond.code x code maxLocals ret :: tables_1)).before args0 about1 = true := by
  rw [allAtoms_all]
  show words1.all (fun c => c.before args0 about1) = true
  refine all_split ?_ w_codes
  rw [w_t1]
set_option maxRecDepth 65536 in
theorem w_case : (Jvm.Cond.and given_1 narrow_1).before args0 about1 = true := by decide +kernel
theorem w_applies : (headSpec (Jvm.Cond.code x code maxLocals ret :: tables_1) room_1).applies x e0.platform about1 = true :=
  (Spec.applies_iff w_frames).mpr ⟨w_running, w_runnable, w_alone, w_named, w_hears, w_ripe, w_room, w_tables⟩
theorem atStart : AtStart classFile x code maxLocals ret World_1 tables_1 room_1 Calls_1 rest_1 Pre_1 launch0 p0 e0 about1 theMethod args0 below0 :=
  ⟨lists_1, trivial, launch0.admits_env _ _ _, launch0.least_env, fairChoices_fair.cas, fairChoices_fair.clock, w_frames, w_args, w_heap, w_applies, trivial, trivial, w_case⟩
end start1
theorem witness_1 : WitnessClaimed_1 := ⟨start1.p0, start1.e0, start1.about1, start1.theMethod, start1.args0, start1.below0, start1.atStart⟩
end Jvm.Pilot.@@N@@
